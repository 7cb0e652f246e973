import JvmDerived
import JvmDerived.Pilot.@@N@@Statement
import JvmDerived.Pilot.@@N@@Code
set_option linter.unusedVariables false
set_option linter.unusedSimpArgs false
namespace Jvm.RoadKit
open Sem ClassFile Op Lib Jvm.Stand Jvm.Free Jvm.LawKit
section New
variable {p : Program} {l : Launch} {e : Env} {R : Room} {s : State} {m : MethodId} {args : Array Value} {below : List Frame} {meth : Method} {c : Code} {T : State} {locs : List Loc} {cells slots : Nat}
theorem retI (X : Stand p l e R s m args below meth c T locs cells slots) (hx : p.tables.exec = Jvm.exec) {pc : Nat} {Ls : Array Slot} {z : Int32} {rest : List Value} (hret : meth.sig.returnType = some .int) (hd : decode c.code pc = .ok (.ireturn, 1)) {fs : List Frame}
    (hl : ∀ (f : JFrame) (acts : List Action), f.method = m → f.locked = none → f.entered = [] → (doReturn e (T.setTop f) acts (some (.int z))).1 = T.setFrames fs) : Steps p.tables e below (T.setTop (mkF m pc Ls (.int z :: rest))) (T.setFrames fs) :=
  retOut X hx hret rfl (Or.inl ⟨rfl, Or.inl rfl, _, rfl⟩) hd hl
end New
end Jvm.RoadKit
namespace Jvm.RoadKit
open Sem ClassFile Op Lib Jvm.Stand Jvm.Free Jvm.LawKit
theorem own_selOwn {Z : State} {a0 : Array Value} {y : MethodName} {K : String} (hy : y.cls ≠ "java/lang/invoke/MethodHandle" ∧ y.cls ≠ "java/lang/invoke/VarHandle") (hi : (Cond.instanceMethod y).before a0 Z = true) (hp : Z.PrivateAt y) (hs : (Cond.selects K y y).before a0 Z = true) : (Cond.selects y.cls y y).before a0 Z = true := by
  obtain ⟨mk, meth, hn, hm, -, -⟩ := Cond.instanceMethod_spec hi
  obtain ⟨c2, r2, m2, -, q2, q3, -, kP, hkP, hkPi⟩ := Cond.selects_spec hs
  cases hn.symm.trans q3
  have hf := State.methodFound?_of_named hn hy
  have hc := findClass_of_methodNamed hn
  have hsel : selectMethod {} Z.vm mk.cls mk = .method mk := selectMethod_private hm (hp mk meth hn hm)
  simp [Cond.before, Cond.holds, Cond.value, hc, hf, hn, hsel, hkP, hkPi]
theorem own_sameOwn {Z : State} {a0 : Array Value} {y z : MethodName} (hy : y.cls ≠ "java/lang/invoke/MethodHandle" ∧ y.cls ≠ "java/lang/invoke/VarHandle") (hi : (Cond.instanceMethod y).before a0 Z = true) (hz : (Cond.instanceMethod z).before a0 Z = true) (nf : NotFace Z z) (e : z.cls = y.cls) : (Cond.sameMethod y.cls y.cls y.name y.desc).before a0 Z = true := by
  obtain ⟨mk, meth, hn, hm, -, -⟩ := Cond.instanceMethod_spec hi
  obtain ⟨mz, methz, hnz, -, -, -⟩ := Cond.instanceMethod_spec hz
  obtain ⟨kr, hkr, hni⟩ := nf _ hnz
  have hf := State.methodFound?_of_named hn hy
  have hc := findClass_of_methodNamed hn
  have hcz := findClass_of_methodNamed hnz
  rw [e] at hcz
  have ec : mz.cls = mk.cls := Option.some.inj (hcz.symm.trans hc)
  rw [ec] at hkr
  have hn' : Z.methodNamed? ⟨y.cls, y.name, y.desc⟩ = some mk := hn
  simp [Cond.before, Cond.holds, Cond.value, hc, hf, hn', hkr, hni]
section Own
variable {p : Program} {l : Launch} {e : Env} {R : Room} {s : State} {m : MethodId} {args : Array Value} {below : List Frame} {meth : Method} {c : Code} {T : State} {locs : List Loc} {cells slots : Nat} {Z : State} {h : Heap} {a b : Addr} {k : ClassId} {z : Int32}
theorem own_shr0 (x : Int32) : x >>> ((0 : Int32) &&& 31) = x := by
  have q := c_ishr x 0 0 (by decide)
  apply Int32.toInt_inj.mp
  omega
theorem own_shl0 (x : Int32) : x <<< ((0 : Int32) &&& 31) = x := by
  have q := c_ishl x 0 0 (by decide)
  have r := rng32 x
  have r2 := rng32 (x <<< ((0 : Int32) &&& 31))
  simp only [Nat.pow_zero] at q
  apply Int32.toInt_inj.mp
  omega
theorem own_getD_app (xs ys : List Value) (d : Value) (i : Nat) : (xs ++ ys).getD i d = if i < xs.length then xs.getD i d else ys.getD (i - xs.length) d := by
  simp only [List.getD_eq_getElem?_getD]
  split
  · rw [List.getElem?_append_left ‹_›]
  · rw [List.getElem?_append_right (by omega)]
theorem own_cpl (cs bs : List Value) (d : Value) (n : Nat) (hb : bs.length ≤ n) (i : Nat) :
    (cs ++ bs).getD i d = ((cs ++ List.replicate n d).take cs.length ++ (List.range n).map (fun i => bs.getD (0 + i) d) ++ (cs ++ List.replicate n d).drop (cs.length + n)).getD i d := by
  have e1 : (cs ++ List.replicate n d).take cs.length = cs := by simp
  have e2 : (cs ++ List.replicate n d).drop (cs.length + n) = [] := by simp
  rw [e1, e2, List.append_nil, own_getD_app, own_getD_app]
  split
  · rfl
  · generalize i - cs.length = j
    simp only [List.getD_eq_getElem?_getD, List.getElem?_map, Nat.zero_add]
    by_cases hj : j < n
    · rw [List.getElem?_range hj]; simp
    · rw [List.getElem?_eq_none (by omega : bs.length ≤ j), List.getElem?_eq_none (by simp; omega)]; simp
theorem cpB (X : Stand p l e R s m args below meth c T locs cells slots) (hx : p.tables.exec = Jvm.exec) (hZ : Z.Warmed39 s.vm) {a0 : Array Value} {own : String} {index : Nat} (hown : s.vm.findClass own = some m.cls)
    (w1 : (Cond.methodLink own index Jvm.Stand.acN).before a0 Z = true) (w2 : (Cond.native Jvm.Stand.acN).before a0 Z = true) (w3 : (Cond.static Jvm.Stand.acN).before a0 Z = true) (w4 : (Cond.initialized "java/lang/System").before a0 Z = true) (eT : T.heap = h)
    {k' : ClassId} {z' dp nn : Int32} {bs cs : List Value} {d : Value} (A : Arv Z h a k .byte z bs d) (B : Arv Z h b k' .byte z' cs d)
    (h2 : ¬ dp < 0) (h3 : ¬ nn < 0) (hdp : dp.toNatClampNeg = cs.length) (hnn : bs.length ≤ nn.toNatClampNeg) (h4 : nn.toNatClampNeg ≤ z.toNatClampNeg) (h5 : cs.length + nn.toNatClampNeg ≤ z'.toNatClampNeg) {n0 : Nat} (N : Fr n0 locs) (ge : n0 ≤ b)
    {g : JFrame} (hg : g.method = m) (hsize : g.locals.size = c.maxLocals) {rest : List Value} (hs : g.stack = .int nn :: .int dp :: .ref b :: .int (0 : Int32) :: .ref a :: rest) (hd : decode c.code g.pc = .ok (.invokestatic index, 3))
    (hf : 1 ≤ R.frames) {W : Nat} (hW : 2 * g.monitorRoom + (rest.map fun v => v.category).sum ≤ W) (hlo : W + (nativeFrameWords "java/lang/System" "arraycopy" 5 + 11) ≤ R.locals) :
    ∃ T' h' L, Stand p l e R s m args below meth c T' L cells slots ∧ T'.heap = h' ∧ Fr n0 L ∧ Keep h h' [b] ∧ Arv Z h' b k' .byte z' (cs ++ bs) d ∧
      ∀ target, Steps p.tables e below (T'.setTop { g with pc := g.pc + 3, stack := rest }) target → Steps p.tables e below (T.setTop g) target := by
  obtain ⟨T', h', L, X', e', N', K', V', st⟩ := cpA X hx hZ hown w1 w2 w3 w4 eT A (B.pad (vs' := cs ++ List.replicate nn.toNatClampNeg d) (pad_rep cs d _)) (Or.inl ⟨rfl, rfl⟩) (sp := 0) (by decide) h2 h3 (by rw [show (0 : Int32).toNatClampNeg = 0 from rfl]; omega) (by rw [hdp]; exact h5) rfl (by rw [hdp]; simp) N ge hg hsize hs hd hf hW hlo
  refine ⟨T', h', L, X', e', N', K', V'.pad (fun i => ?_), st⟩
  rw [hdp]
  exact own_cpl cs bs d _ hnn i
theorem own_nilr (F : Arv Z h a k .byte z (cs ++ []) d) : Arv Z h a k .byte z cs d := by rw [List.append_nil] at F; exact F
theorem own_nf {s : State} {a0 : Array Value} {y z : MethodName} (hz : (Cond.instanceMethod z).before a0 s = true) (nf : NotFace s z) (e : z.cls = y.cls) : NotFace s y := fun r0 h0 => by
  obtain ⟨mz, methz, hnz, -, -, -⟩ := Cond.instanceMethod_spec hz
  obtain ⟨kr, hkr, hni⟩ := nf _ hnz
  have hc := findClass_of_methodNamed h0
  have hcz := findClass_of_methodNamed hnz
  rw [e] at hcz
  have ec : mz.cls = r0.cls := Option.some.inj (hcz.symm.trans hc)
  exact ⟨kr, ec ▸ hkr, hni⟩
theorem cpE (X : Stand p l e R s m args below meth c T locs cells slots) (hx : p.tables.exec = Jvm.exec) (hZ : Z.Warmed39 s.vm) {a0 : Array Value} {own : String} {index : Nat} (hown : s.vm.findClass own = some m.cls)
    (w1 : (Cond.methodLink own index Jvm.Stand.acN).before a0 Z = true) (w2 : (Cond.native Jvm.Stand.acN).before a0 Z = true) (w3 : (Cond.static Jvm.Stand.acN).before a0 Z = true) (w4 : (Cond.initialized "java/lang/System").before a0 Z = true) (eT : T.heap = h)
    {k' : ClassId} {z' dp nn : Int32} {bs cs : List Value} {d d' : Value} (A : Arv Z h a k .byte z bs d) (B : Arv Z h b k' .byte z' cs d')
    (h2 : ¬ dp < 0) (h3 : ¬ nn < 0) (h4 : nn.toNatClampNeg ≤ z.toNatClampNeg) (h5 : dp.toNatClampNeg + nn.toNatClampNeg ≤ z'.toNatClampNeg) {n0 : Nat} (N : Fr n0 locs) (ge : n0 ≤ b)
    {g : JFrame} (hg : g.method = m) (hsize : g.locals.size = c.maxLocals) {rest : List Value} (hs : g.stack = .int nn :: .int dp :: .ref b :: .int (0 : Int32) :: .ref a :: rest) (hd : decode c.code g.pc = .ok (.invokestatic index, 3))
    (hf : 1 ≤ R.frames) {W : Nat} (hW : 2 * g.monitorRoom + (rest.map fun v => v.category).sum ≤ W) (hlo : W + (nativeFrameWords "java/lang/System" "arraycopy" 5 + 11) ≤ R.locals) :
    ∃ T' h' L ys, Stand p l e R s m args below meth c T' L cells slots ∧ T'.heap = h' ∧ Fr n0 L ∧ Keep h h' [b] ∧ Arv Z h' b k' .byte z' ys d' ∧
      ∀ target, Steps p.tables e below (T'.setTop { g with pc := g.pc + 3, stack := rest }) target → Steps p.tables e below (T.setTop g) target := by
  obtain ⟨T', h', L, X', e', N', K', V', st⟩ := cpA X hx hZ hown w1 w2 w3 w4 eT A (B.pad (vs' := cs ++ List.replicate (dp.toNatClampNeg + nn.toNatClampNeg) d') (pad_rep cs d' _)) (Or.inl ⟨rfl, rfl⟩) (sp := 0) (by decide) h2 h3 (by rw [show (0 : Int32).toNatClampNeg = 0 from rfl]; omega) h5 rfl (by first | (simp; done) | (simp; omega)) N ge hg hsize hs hd hf hW hlo
  exact ⟨T', h', L, _, X', e', N', K', V', st⟩
theorem own_dig {k : ClassId} {z r : Int32} {vs : List Value} {d : Value} (F : Arv Z h a k .byte z vs d) (q : ¬ r < 0 ∧ r < z) : ∃ (cl : Cell) (y : Int32), Arr Z h a cl .byte ∧ ¬ (r < 0 ∨ cl.slots.size ≤ r.toNatClampNeg) ∧ cl.slots[r.toNatClampNeg]? = some (.int y) := by
  obtain ⟨cl, A, q1, S, q3, H, G⟩ := F
  have hin := inb_of S q
  have lt : r.toNatClampNeg < cl.slots.size := Nat.lt_of_not_le fun y => hin (Or.inr y)
  have e := H _ lt
  have f := G _ lt
  generalize vs.getD r.toNatClampNeg d = v at e f
  cases v with
  | int y => exact ⟨cl, y, A, hin, e⟩
  | _ => simp [fits] at f
theorem own_arv_start {cl : Cell} {z : Int32} {d : Value} (hf : Fit Z) (A : Arr Z Z.heap a cl .byte) (q : cl.slots.size < 2 ^ 31) (e : cl.slots.size.toInt32 = z) (hz : ¬ z < 0) : Arv Z Z.heap a cl.cls .byte z cl.slots.toList d := by
  have S : cl.slots.size = z.toNatClampNeg := by rw [← e]; simp only [Int32.toNatClampNeg, len_toInt q]; rfl
  have H' : Has cl cl.slots.toList d := fun j hj => by simp [List.getD_eq_getElem?_getD, hj]
  refine ⟨cl, A, rfl, S, hz, H', fun j hj => ?_⟩
  have e1 : (Nat.toInt32 j).toNatClampNeg = j := by simp only [Int32.toNatClampNeg, len_toInt (Nat.lt_trans hj q)]; rfl
  exact elem_fits (j := Nat.toInt32 j) hf A (idx_in hj q) (by rw [e1]; exact H' j hj)
theorem own_or {a b c d : Nat} (h : a = b ∨ c ≤ d) : a = b ∨ c ≤ d := h
theorem own_snoc (cs : List Value) (d v : Value) : (cs ++ [d]).set cs.length v = cs ++ [v] := by simp
theorem own_sub0 (x : Int32) : x - (0 : Int32) = x := by simp
end Own
end Jvm.RoadKit
namespace Jvm.Pilot.@@N@@
open Jvm Jvm.ClassFile Sem Op Lib Jvm.Free Jvm.Stand Jvm.LawKit Jvm.RoadKit Bundle Jvm.Pilot.@@N@@.Jvm.D
set_option maxRecDepth 65536
set_option maxHeartbeats 40000000
abbrev HW (Z : State) (a0 : Array Value) : Prop := ∀ d ∈ tables_1, d.before a0 Z = true
abbrev oR (f c s l : Nat) : Room := { frames := f, cells := c, slots := s, locals := l }
abbrev MF (l : Launch) (Z : State) (y : MethodName) (code : ByteArray) (maxL : Nat) (ret : Option FieldType) (ws : List Jvm.Cond) (rm : Room) (as' : Array Value) (h0 : Heap) (Q : Option Value → Heap → List Loc → Prop) : Prop :=
  MetFree l y (head1 (Jvm.Cond.code y code maxL ret :: ws) rm) (fun a U => a = as' ∧ Z.Warmed39 U.vm ∧ U.heap = h0) (fun _ _ _ _ _ => True) (fun _ U o U' => ∃ v L, o = .returned v ∧ Q v U'.heap L ∧ FrameEnd U o U' L rm.cells rm.slots)
theorem own_body {l : Launch} {Z : State} {y : MethodName} {code : ByteArray} {maxL : Nat} {ret : Option FieldType} {ws : List Jvm.Cond} {rm : Room} {as' : Array Value} {h0 : Heap} {Q : Option Value → Heap → List Loc → Prop} {cls : String} (hp : plainFor y = true) (hc : y.cls = cls)
    (body : ∀ (p : Program) (e : Env) (s : State) (m : MethodId) (below : List Frame) (meth : Method) (c : Code) (s₁ : State), p.tables.exec = Jvm.exec → c.code = code → c.maxLocals = maxL → s.vm.findClass cls = some m.cls → meth.name = y.name → meth.sig.returnType = ret → Z.Warmed39 s.vm → Stand p l e rm s m as' below meth c s₁ [] 0 0 → s₁.heap = h0 →
      ∃ (T : State) (L : List Loc) (k n : Nat) (v : Option Value), Stand p l e rm s m as' below meth c T L k n ∧ k ≤ rm.cells ∧ n ≤ rm.slots ∧ (ret = none → v = none) ∧ Q v T.heap L ∧ ∀ fs, (∀ (f : JFrame) (acts : List Action), f.method = m → f.locked = none → f.entered = [] → (doReturn e (T.setTop f) acts v).1 = T.setFrames fs) → Steps p.tables e below (s₁.setTop (entryFrame m as' maxL)) (T.setFrames fs)) : MF l Z y code maxL ret ws rm as' h0 Q := by
  refine MetFree.of_bodySF hp hisR ?_
  intro p e s m args below meth c s₁ Bd hml0 hP hK
  obtain ⟨rfl, hZ, hh⟩ := hP
  obtain ⟨T, L, k, n, v, X, hk, hn, hv, hQ, hs⟩ := body p e s m below meth c s₁ Bd.exec Bd.bytes hml0 (hc ▸ findClass_of_methodNamed Bd.named) (name_of_methodNamed Bd.named Bd.method).1 Bd.returns hZ (Stand.of_body Bd) (by rw [← hh, Bd.state]; rfl)
  obtain ⟨fs, hr, hrun, hended, hW, hsame⟩ := X.leave (v := v) (fun h => hv (by rw [← Bd.returns]; exact h))
  exact ⟨_, _, hs fs hr, hrun, hended, v, L, rfl, hQ, ⟨_, rfl⟩, hW, hsame.mono hk hn⟩
theorem own_l {a b : Nat} (h : a < b) : a < b := h
theorem own_ne {a b : Nat} (h : a < b ∨ b < a) : a ≠ b := by omega
abbrev vI (x : Int32) : Slot := .val (.int x)
abbrev vA (a : Addr) : Slot := .val (.ref a)
theorem own_cat {v : Value} (h : v.isRef = true) : v.category = 1 := by rcases ref_cases h with rfl | ⟨_, rfl⟩ <;> rfl
theorem own_narrow_ref {t : FieldType} {v : Value} (h : v.isRef = true) : narrow t v = v := by rcases ref_cases h with rfl | ⟨_, rfl⟩ <;> (cases t <;> rfl)
theorem own_fits_ref {t : FieldType} {v : Value} (h : v.isRef = true) (ht : t.isReference = true) : fits t v = true := by rcases ref_cases h with rfl | ⟨_, rfl⟩ <;> (cases t <;> first | rfl | (cases ht; done))
theorem w_10 {Z : State} {a0 : Array Value} (hw : HW Z a0) : (Jvm.Cond.initialized "java/lang/String").before a0 Z = true := hw _ (List.mem_of_getElem? (i := 10) rfl)
theorem w_18 {Z : State} {a0 : Array Value} (hw : HW Z a0) : (Jvm.Cond.instantiable "java/lang/String" (4 : Nat)).before a0 Z = true := hw _ (List.mem_of_getElem? (i := 18) rfl)
theorem w_22 {Z : State} {a0 : Array Value} (hw : HW Z a0) : (Jvm.Cond.arrayClass FieldType.byte).before a0 Z = true := hw _ (List.mem_of_getElem? (i := 22) rfl)
theorem w_31 {Z : State} {a0 : Array Value} (hw : HW Z a0) : (Jvm.Cond.laysFinal "java/lang/String" "java/lang/String" "value" "[B").before a0 Z = true := hw _ (List.mem_of_getElem? (i := 31) rfl)
theorem w_33 {Z : State} {a0 : Array Value} (hw : HW Z a0) : (Jvm.Cond.laysFinal "java/lang/String" "java/lang/String" "coder" "B").before a0 Z = true := hw _ (List.mem_of_getElem? (i := 33) rfl)
theorem w_165 {Z : State} {a0 : Array Value} (hw : HW Z a0) : (Jvm.Cond.soleField "java/lang/String" "value").before a0 Z = true := hw _ (List.mem_of_getElem? (i := 165) rfl)
theorem w_166 {Z : State} {a0 : Array Value} (hw : HW Z a0) : (Jvm.Cond.soleField "java/lang/String" "coder").before a0 Z = true := hw _ (List.mem_of_getElem? (i := 166) rfl)
theorem w_164 {Z : State} {a0 : Array Value} (hw : HW Z a0) : (Jvm.Cond.stringLink "com/example/formulary/formulary/host/FormulaException" (11 : Nat) " at line ").before a0 Z = true := hw _ (List.mem_of_getElem? (i := 164) rfl)
theorem w_189 {Z : State} {a0 : Array Value} (hw : HW Z a0) : (Jvm.Cond.stringLink "com/example/formulary/formulary/host/FormulaException" (16 : Nat) ", column ").before a0 Z = true := hw _ (List.mem_of_getElem? (i := 189) rfl)
theorem own_wS {Z : State} {a0 : Array Value} (hw : HW Z a0) : ∀ a ∈ Bundle.stringAtoms, a.before a0 Z = true := fun d hd => by
  simp only [Bundle.stringAtoms, Bundle.sN, List.mem_cons, List.not_mem_nil, or_false] at hd
  rcases hd with rfl | rfl | rfl | rfl | rfl | rfl | rfl
  · exact (w_10 hw)
  · exact (w_18 hw)
  · exact (w_22 hw)
  · exact (w_31 hw)
  · exact (w_33 hw)
  · exact (w_165 hw)
  · exact (w_166 hw)
def own_EL : List (String × Nat) := [("com/example/formulary/formulary/host/FormulaException", 11), ("com/example/formulary/formulary/host/FormulaException", 16)]
theorem own_EW {Z : State} {a0 : Array Value} (hw : HW Z a0) : EW Z a0 own_EL := (EW.cons (w_164 hw) (by decide) (EW.cons (w_189 hw) (by decide) EW.nil))
abbrev sta0 (Z : State) (v : Value) : Prop := Sta Z Z.heap "java/lang/String" "COMPACT_STRINGS" "Z" v
abbrev fld0 (Z : State) (h : Heap) (a : Addr) (v : Value) : Prop := Fld Z h a "java/lang/String" "value" "[B" v
abbrev fld1 (Z : State) (h : Heap) (a : Addr) (v : Value) : Prop := Fld Z h a "java/lang/String" "coder" "B" v
abbrev fld2 (Z : State) (h : Heap) (a : Addr) (v : Value) : Prop := Fld Z h a "java/lang/AbstractStringBuilder" "value" "[B" v
abbrev fld3 (Z : State) (h : Heap) (a : Addr) (v : Value) : Prop := Fld Z h a "java/lang/AbstractStringBuilder" "coder" "B" v
abbrev fld4 (Z : State) (h : Heap) (a : Addr) (v : Value) : Prop := Fld Z h a "java/lang/AbstractStringBuilder" "count" "I" v
theorem own_lt (x y : Int32) : x < y ↔ x.toInt < y.toInt := Int32.lt_iff_toInt_lt
theorem own_k0 : (0 : Int32).toInt = 0 := by decide
abbrev oN (y : Int32) : Prop := y = 16 ∨ y = 34 ∨ y = 70
theorem own_tn (y : Int32) : y.toNatClampNeg = y.toInt.toNat := rfl
theorem own_rN {y : Int32} (h : oN y) : 16 ≤ y.toInt ∧ y.toInt ≤ 70 := by
  have e1 : (16 : Int32).toInt = 16 := by decide
  have e2 : (34 : Int32).toInt = 34 := by decide
  have e3 : (70 : Int32).toInt = 70 := by decide
  rcases h with rfl | rfl | rfl <;> omega
theorem own_add {x y : Int32} (h0 : 0 ≤ x.toInt) (h1 : 0 ≤ y.toInt) (h2 : x.toInt + y.toInt ≤ 1000) : (x + y).toInt = x.toInt + y.toInt := by
  have q := c_iadd x y
  have r := rng32 (x + y)
  omega
theorem own_sub {x y : Int32} (h0 : 0 ≤ x.toInt ∧ x.toInt ≤ 1000) (h1 : 0 ≤ y.toInt ∧ y.toInt ≤ 1000) : (x - y).toInt = x.toInt - y.toInt := by
  have q := c_isub x y
  have r := rng32 (x - y)
  omega
theorem own_ng {mc N : Int32} (hN : oN N) (hm : 0 ≤ mc.toInt ∧ mc.toInt ≤ 39 ∧ mc.toInt ≤ N.toInt + 17) (h : ¬ ((0 : Int32) < (mc - N))) : mc.toInt ≤ N.toInt := by
  have q := own_rN hN
  have e := own_sub (x := mc) (y := N) (by omega) (by omega)
  rw [own_lt, own_k0, e] at h
  omega
theorem own_g16 {mc : Int32} (hm : 0 ≤ mc.toInt ∧ mc.toInt ≤ 39 ∧ mc.toInt ≤ (16 : Int32).toInt + 17) : (mc - (16 : Int32)) < (18 : Int32) := by
  have e1 : (16 : Int32).toInt = 16 := by decide
  have e2 : (18 : Int32).toInt = 18 := by decide
  have e := own_sub (x := mc) (y := 16) (by omega) (by omega)
  rw [own_lt, e]
  omega
theorem own_g34 {mc : Int32} (hm : 0 ≤ mc.toInt ∧ mc.toInt ≤ 39 ∧ mc.toInt ≤ (34 : Int32).toInt + 17) : (mc - (34 : Int32)) < (36 : Int32) := by
  have e1 : (34 : Int32).toInt = 34 := by decide
  have e2 : (36 : Int32).toInt = 36 := by decide
  have e := own_sub (x := mc) (y := 34) (by omega) (by omega)
  rw [own_lt, e]
  omega
theorem own_p34 {mc : Int32} (hm : 0 ≤ mc.toInt ∧ mc.toInt ≤ 39 ∧ mc.toInt ≤ (16 : Int32).toInt + 17) : mc.toInt ≤ (34 : Int32).toInt := by
  have e1 : (16 : Int32).toInt = 16 := by decide
  have e2 : (34 : Int32).toInt = 34 := by decide
  omega
theorem own_p70 {mc : Int32} (hm : 0 ≤ mc.toInt ∧ mc.toInt ≤ 39 ∧ mc.toInt ≤ (34 : Int32).toInt + 17) : mc.toInt ≤ (70 : Int32).toInt := by
  have e1 : (70 : Int32).toInt = 70 := by decide
  omega
theorem own_n70 {mc : Int32} (hm : 0 ≤ mc.toInt ∧ mc.toInt ≤ 39 ∧ mc.toInt ≤ (70 : Int32).toInt + 17) : ¬ ((0 : Int32) < (mc - (70 : Int32))) := by
  have e1 : (70 : Int32).toInt = 70 := by decide
  have e := own_sub (x := mc) (y := 70) (by omega) (by omega)
  rw [own_lt, own_k0, e]
  omega
abbrev oR1 (cnt len N : Int32) : Prop := 0 ≤ cnt.toInt ∧ cnt.toInt ≤ N.toInt ∧ 0 ≤ len.toInt ∧ len.toInt ≤ 17 ∧ cnt.toInt + len.toInt ≤ 39
theorem own_r1 {cnt len N : Int32} (h : oR1 cnt len N) : 0 ≤ (cnt + len).toInt ∧ (cnt + len).toInt ≤ 39 ∧ (cnt + len).toInt ≤ N.toInt + 17 := by
  obtain ⟨h1, h2, h3, h4, h5⟩ := h
  rw [own_add h1 h3 (by omega)]
  omega
theorem own_r2 {cnt len N M : Int32} (h : oR1 cnt len N) (q : (cnt + len).toInt ≤ M.toInt) : cnt.toNatClampNeg + len.toNatClampNeg ≤ M.toNatClampNeg := by
  obtain ⟨h1, h2, h3, h4, h5⟩ := h
  rw [own_add h1 h3 (by omega)] at q
  simp only [own_tn]
  omega
theorem own_nn {y : Int32} (h : 0 ≤ y.toInt) : ¬ y < 0 := by rw [own_lt, own_k0]; omega
theorem d0 : decode jdk_43_method_3_code 0 = .ok (.iload_n 0, 1) := by decide +kernel
theorem d1 : decode jdk_43_method_3_code 1 = .ok (.sipush 255, 3) := by decide +kernel
theorem d2 : decode jdk_43_method_3_code 4 = .ok (.if_icmp .gt 7, 3) := by decide +kernel
theorem d3 : decode jdk_43_method_3_code 7 = .ok (.iconst 1, 1) := by decide +kernel
theorem d4 : decode jdk_43_method_3_code 8 = .ok (.goto 4, 3) := by decide +kernel
theorem d5 : decode jdk_43_method_3_code 12 = .ok (.ireturn, 1) := by decide +kernel
theorem pn_0 : plainName "java/lang/StringLatin1" = true := by first | (simp [plainName, overriddenIn]; done) | decide +kernel
theorem ef_0 (m : MethodId) (x0 : Int32) : entryFrame m #[(.int x0)] 1 = mkF m 0 #[vI x0] [] := by first | (simp [entryFrame, mkF, argsToLocals, Value.category, maxLocals]; done) | rfl
abbrev m_0 : MethodName := (⟨"java/lang/StringLatin1", "canEncode", "(C)Z"⟩ : MethodName)
def Q_canEnc (Z : State) (q : Int32) (h0 : Heap) (n0 : Nat) (v : Option Value) (h : Heap) (L : List Loc) : Prop := (v = some (.int 1)) ∧ (Fr n0 L) ∧ (h = h0)
theorem rm_canEnc (l : Launch) (Z : State) (a0 : Array Value) (hw : HW Z a0) (ws : List Jvm.Cond) (q : Int32) (h0 : Heap) (n0 : Nat) (Z0 : n0 ≤ h0.size) (hlo : ¬ ((255 : Int32) < q)) :
    MF l Z m_0 jdk_43_method_3_code 1 (some .boolean) ws (oR 0 0 0 0) #[(.int q)] h0 (Q_canEnc Z q h0 n0) := by
  refine own_body (cls := "java/lang/StringLatin1") (plainFor_of_name pn_0) rfl (fun p e s m below meth c s₁ hx hby hml hown hnm hret hZ X0 e0 => ?_)
  have N0 := Fr.nil n0
  refine ⟨_, _, _, _, some (.int 1), X0, by decide, by decide, nofun, ?_, fun fs hr => castTop (ef_0 m q) ?_⟩
  · show Q_canEnc Z q h0 n0 _ s₁.heap _
    rw [(e0 : s₁.heap = h0)]
    exact ⟨rfl, N0, rfl⟩
  · show Steps _ _ _ (s₁.setTop (mkF m 0 #[vI q] [])) _
    refine XS.iloadN X0.here hx rfl (hb hby d0) rfl ?_
    show Steps _ _ _ (s₁.setTop (mkF m 1 #[vI q] [(.int q)])) _
    refine XS.sipush X0.here hx rfl (hb hby d1) ?_
    show Steps _ _ _ (s₁.setTop (mkF m 4 #[vI q] [(.int 255), (.int q)])) _
    refine XS.icmpNo X0.here hx rfl (hb hby d2) rfl (flt (hlo : ¬ ((255 : Int32) < q))).2.2.1 ?_
    show Steps _ _ _ (s₁.setTop (mkF m 7 #[vI q] [])) _
    refine XS.iconst X0.here hx rfl (hb hby d3) ?_
    show Steps _ _ _ (s₁.setTop (mkF m 8 #[vI q] [(.int 1)])) _
    refine XS.goto X0.here hx rfl (pc0 := 8) (pc' := 12) rfl (hb hby d4) (by decide) (by decide) ?_
    show Steps _ _ _ (s₁.setTop (mkF m 12 #[vI q] [(.int 1)])) _
    exact retN X0 hx (t := .boolean) hret (by simp) (hb hby d5) hr
theorem d6 : decode jdk_43_method_46_code 0 = .ok (.iconst 1, 1) := by decide +kernel
theorem d7 : decode jdk_43_method_46_code 1 = .ok (.newarray .byte, 2) := by decide +kernel
theorem d8 : decode jdk_43_method_46_code 3 = .ok (.dup, 1) := by decide +kernel
theorem d9 : decode jdk_43_method_46_code 4 = .ok (.iconst 0, 1) := by decide +kernel
theorem d10 : decode jdk_43_method_46_code 5 = .ok (.iload_n 0, 1) := by decide +kernel
theorem d11 : decode jdk_43_method_46_code 6 = .ok (.i2b, 1) := by decide +kernel
theorem d12 : decode jdk_43_method_46_code 7 = .ok (.bastore, 1) := by decide +kernel
theorem d13 : decode jdk_43_method_46_code 8 = .ok (.areturn, 1) := by decide +kernel
abbrev m_1 : MethodName := (⟨"java/lang/StringLatin1", "toBytes", "(C)[B"⟩ : MethodName)
def Q_toB (Z : State) (q : Int32) (h0 : Heap) (n0 : Nat) (v : Option Value) (h : Heap) (L : List Loc) : Prop := ∃ (b : Addr) (k : ClassId), (v = some (.ref b)) ∧ (Fr n0 L) ∧ (Keep h0 h []) ∧ (h0.size ≤ b) ∧ (Arv Z h b k .byte (1 : Int32) [(.int (nar .byte ((q.toInt8.toInt32))))] (.int 0))
theorem rm_toB (l : Launch) (Z : State) (a0 : Array Value) (hw : HW Z a0) (ws : List Jvm.Cond) (q : Int32) (h0 : Heap) (n0 : Nat) (Z0 : n0 ≤ h0.size) :
    MF l Z m_1 jdk_43_method_46_code 1 (some (.array .byte)) ws (oR 0 1 1 0) #[(.int q)] h0 (Q_toB Z q h0 n0) := by
  refine own_body (cls := "java/lang/StringLatin1") (plainFor_of_name pn_0) rfl (fun p e s m below meth c s₁ hx hby hml hown hnm hret hZ X0 e0 => ?_)
  have N0 := Fr.nil n0
  have K0 := Keep.refl h0 []
  obtain ⟨T1, h1, k1, X1, e1, E1, A1, AE1, st1⟩ := newPE X0 hx hZ (aty := .byte) (w_22 hw) e0 (g := (mkF m 1 #[vI q] [(.int 1)])) rfl (hb hby d7) rfl (by decide) (cap := 1) (by decide) (by decide) (by decide) (by decide) (ad := "[B") (by decide)
  obtain ⟨b1, g1⟩ : ∃ z, z = h0.size := ⟨_, rfl⟩
  rw [← g1] at A1 AE1 st1
  have z1 := E1.1
  have K1 := K0.ext E1
  have V1 : Arv Z h1 b1 k1 .byte (1 : Int32) [(.int 0)] (.int 0) := (Arv.new A1 (by decide)).pad (pad_rep [] (.int 0) 1)
  have lt2 := own_l V1.lt
  obtain ⟨cl3, Ar3, q3, S3, M3, H3, G3⟩ := id V1
  have hin3 : ¬ ((0 : Int32) < 0 ∨ cl3.slots.size ≤ ((0 : Int32)).toNatClampNeg) := inb_of S3 ⟨by decide, by decide⟩
  obtain ⟨T3, h3, X3, e3, W3, st3⟩ := stB X1 hx hZ e1 Ar3 (j := (0 : Int32)) hin3 (g := (mkF m 7 #[vI q] [(.int (q.toInt8.toInt32)), (.int 0), (.ref b1), (.ref b1)])) rfl rfl (hb hby d12)
  have V3 : Arv Z h3 b1 k1 .byte (1 : Int32) [(.int (nar .byte (q.toInt8.toInt32)))] (.int 0) := Arv.set Ar3 q3 S3 M3 H3 G3 (fits_nar_byte (q.toInt8.toInt32)) W3 0 rfl (Nat.le_of_ble_eq_true rfl)
  have z3 := W3.size
  have K3 := K1.wr W3 (Or.inr (by omega))
  have N3 := Fr.snoc X3 N0 (by omega)
  refine ⟨_, _, _, _, some (.ref b1), X3, by decide, by decide, nofun, ?_, fun fs hr => castTop (ef_0 m q) ?_⟩
  · show Q_toB Z q h0 n0 _ T3.heap _
    rw [(e3 : T3.heap = h3)]
    exact ⟨b1, k1, rfl, N3, K3, (by omega), V3⟩
  · show Steps _ _ _ (s₁.setTop (mkF m 0 #[vI q] [])) _
    refine XS.iconst X0.here hx rfl (hb hby d6) ?_
    show Steps _ _ _ (s₁.setTop (mkF m 1 #[vI q] [(.int 1)])) _
    refine st1 _ ?_
    show Steps _ _ _ (T1.setTop (mkF m 3 #[vI q] [(.ref b1)])) _
    refine XS.dup X1.here hx rfl (hb hby d8) rfl rfl ?_
    show Steps _ _ _ (T1.setTop (mkF m 4 #[vI q] [(.ref b1), (.ref b1)])) _
    refine XS.iconst X1.here hx rfl (hb hby d9) ?_
    show Steps _ _ _ (T1.setTop (mkF m 5 #[vI q] [(.int 0), (.ref b1), (.ref b1)])) _
    refine XS.iloadN X1.here hx rfl (hb hby d10) rfl ?_
    show Steps _ _ _ (T1.setTop (mkF m 6 #[vI q] [(.int q), (.int 0), (.ref b1), (.ref b1)])) _
    refine XS.i2b X1.here hx rfl (hb hby d11) rfl ?_
    show Steps _ _ _ (T1.setTop (mkF m 7 #[vI q] [(.int (q.toInt8.toInt32)), (.int 0), (.ref b1), (.ref b1)])) _
    refine st3 _ ?_
    show Steps _ _ _ (T3.setTop (mkF m 8 #[vI q] [(.ref b1)])) _
    exact retOut X3 hx hret (own_narrow_ref rfl) (Or.inr (Or.inr (Or.inr (Or.inr ⟨rfl, rfl, rfl⟩)))) (hb hby d13) hr
theorem d14 : decode jdk_42_method_151_code 0 = .ok (.aload_n 0, 1) := by decide +kernel
abbrev m_2 : MethodName := (⟨"java/lang/Object", "<init>", "()V"⟩ : MethodName)
theorem w_27 {Z : State} {a0 : Array Value} (hw : HW Z a0) : (Jvm.Cond.methodLink "java/lang/String" (1 : Nat) m_2).before a0 Z = true := hw _ (List.mem_of_getElem? (i := 27) rfl)
theorem w_28 {Z : State} {a0 : Array Value} (hw : HW Z a0) : (Jvm.Cond.instanceMethod m_2).before a0 Z = true := hw _ (List.mem_of_getElem? (i := 28) rfl)
theorem w_29 {Z : State} {a0 : Array Value} (hw : HW Z a0) : (Jvm.Cond.code m_2 object_method_1_code (1 : Nat) (Option.none : Option Jvm.ClassFile.FieldType)).before a0 Z = true := hw _ (List.mem_of_getElem? (i := 29) rfl)
theorem d15 : decode jdk_42_method_151_code 1 = .ok (.invokespecial 1, 3) := by decide +kernel
theorem d16 : decode jdk_42_method_151_code 4 = .ok (.aload_n 0, 1) := by decide +kernel
theorem d17 : decode jdk_42_method_151_code 5 = .ok (.aload_n 1, 1) := by decide +kernel
theorem w_30 {Z : State} {a0 : Array Value} (hw : HW Z a0) : (Jvm.Cond.fieldLink "java/lang/String" (9 : Nat) "java/lang/String" "value" "[B").before a0 Z = true := hw _ (List.mem_of_getElem? (i := 30) rfl)
theorem d18 : decode jdk_42_method_151_code 6 = .ok (.putfield 9, 3) := by decide +kernel
theorem d19 : decode jdk_42_method_151_code 9 = .ok (.aload_n 0, 1) := by decide +kernel
theorem d20 : decode jdk_42_method_151_code 10 = .ok (.iload_n 2, 1) := by decide +kernel
theorem w_32 {Z : State} {a0 : Array Value} (hw : HW Z a0) : (Jvm.Cond.fieldLink "java/lang/String" (15 : Nat) "java/lang/String" "coder" "B").before a0 Z = true := hw _ (List.mem_of_getElem? (i := 32) rfl)
theorem d21 : decode jdk_42_method_151_code 11 = .ok (.putfield 15, 3) := by decide +kernel
theorem d22 : decode jdk_42_method_151_code 14 = .ok (.return_, 1) := by decide +kernel
theorem pn_1 : plainName "java/lang/String" = true := by first | (simp [plainName, overriddenIn]; done) | decide +kernel
theorem ef_1 (m : MethodId) (x0 : Addr) (x1 : Addr) (x2 : Int32) : entryFrame m #[(.ref x0), (.ref x1), (.int x2)] 3 = mkF m 0 #[vA x0, vA x1, vI x2] [] := by first | (simp [entryFrame, mkF, argsToLocals, Value.category, maxLocals]; done) | rfl
abbrev m_3 : MethodName := (⟨"java/lang/String", "<init>", "([BB)V"⟩ : MethodName)
def Q_sbinit (Z : State) (a_ : Addr) (b : Addr) (u : Value) (cd : Int32) (h0 : Heap) (n0 : Nat) (v : Option Value) (h : Heap) (L : List Loc) : Prop := (v = none) ∧ (Fr n0 L) ∧ (Keep h0 h [a_]) ∧ (Exa Z h a_ "java/lang/String") ∧ (fld0 Z h a_ (.ref b)) ∧ (fld1 Z h a_ (.int 0))
theorem rm_sbinit (l : Launch) (Z : State) (a0 : Array Value) (hw : HW Z a0) (ws : List Jvm.Cond) (a_ : Addr) (b : Addr) (u : Value) (cd : Int32) (h0 : Heap) (n0 : Nat) (Z0 : n0 ≤ h0.size) (P0 : Exa Z h0 a_ "java/lang/String") (P1 : fld0 Z h0 a_ u) (P2 : fld1 Z h0 a_ (.int cd)) (P3 : n0 ≤ a_) :
    MF l Z m_3 jdk_42_method_151_code 3 none ws (oR 1 0 0 12) #[(.ref a_), (.ref b), (.int 0)] h0 (Q_sbinit Z a_ b u cd h0 n0) := by
  refine own_body (cls := "java/lang/String") (plainFor_of_name pn_1) rfl (fun p e s m below meth c s₁ hx hby hml hown hnm hret hZ X0 e0 => ?_)
  have N0 := Fr.nil n0
  have K0 := Keep.refl h0 [a_]
  have lt1 := own_l P0.lt
  have lt2 := own_l P1.lt
  have lt3 := own_l P2.lt
  obtain ⟨T4, X4, e4, st4⟩ := initO X0 hx hZ hown (w_27 hw) (w_28 hw) (w_29 hw) e0 (g := (mkF m 1 #[vA a_, vA b, vI 0] [(.ref a_)])) rfl (by rw [hml]; rfl) rfl (hb hby d15) (by decide) (W := 0) (Nat.le_of_eq rfl) (by decide)
  obtain ⟨T5, h5, X5, e5, W5, st5⟩ := putF X4 hx hZ hown (host := "") (Or.inl (w_30 hw)) Via.refl e4 P1 P0 (Or.inr ⟨(w_31 hw), rfl, hnm⟩) (w_18 hw) (ty := (.array .byte)) (by decide) rfl rfl (g := (mkF m 6 #[vA a_, vA b, vI 0] [(.ref b), (.ref a_)])) rfl rfl (hb hby d18)
  have F5 := P1.same W5
  have z5 := W5.size
  have K5 := K0.wr W5 (Or.inl (List.mem_of_getElem? (i := 0) rfl))
  have N5 := Fr.snoc X5 N0 (by omega)
  have f7 := P2.other W5 (Or.inr (slot_ne (a0 := a0) (t := .byte) (t' := (.array .byte)) (Or.inr (w_33 hw)) (Or.inr (w_31 hw)) (by decide) (by decide) (by decide)))
  have f8 := P0.wr W5
  obtain ⟨T6, h6, X6, e6, W6, st6⟩ := putFN X5 hx hZ hown (w_32 hw) Via.refl e5 f7 f8 (Or.inr ⟨(w_33 hw), rfl, hnm⟩) (w_18 hw) (ty := .byte) (v' := (.int 0)) (by decide) rfl rfl (g := (mkF m 11 #[vA a_, vA b, vI 0] [(.int 0), (.ref a_)])) rfl rfl (hb hby d21)
  have F6 := f7.same W6
  have z6 := W6.size
  have K6 := K5.wr W6 (Or.inl (List.mem_of_getElem? (i := 0) rfl))
  have N6 := Fr.snoc X6 N5 (by omega)
  have f9 := f8.wr W6
  have f10 := F5.other W6 (Or.inr (slot_ne (a0 := a0) (t := (.array .byte)) (t' := .byte) (Or.inr (w_31 hw)) (Or.inr (w_33 hw)) (by decide) (by decide) (by decide)))
  refine ⟨_, _, _, _, none, X6, by decide, by decide, fun _ => rfl, ?_, fun fs hr => castTop (ef_1 m a_ b (0 : Int32)) ?_⟩
  · show Q_sbinit Z a_ b u cd h0 n0 _ T6.heap _
    rw [(e6 : T6.heap = h6)]
    exact ⟨rfl, N6, K6, f9, f10, F6⟩
  · show Steps _ _ _ (s₁.setTop (mkF m 0 #[vA a_, vA b, vI 0] [])) _
    refine XS.aloadN X0.here hx rfl (hb hby d14) rfl rfl ?_
    show Steps _ _ _ (s₁.setTop (mkF m 1 #[vA a_, vA b, vI 0] [(.ref a_)])) _
    refine st4 _ ?_
    show Steps _ _ _ (T4.setTop (mkF m 4 #[vA a_, vA b, vI 0] [])) _
    refine XS.aloadN X4.here hx rfl (hb hby d16) rfl rfl ?_
    show Steps _ _ _ (T4.setTop (mkF m 5 #[vA a_, vA b, vI 0] [(.ref a_)])) _
    refine XS.aloadN X4.here hx rfl (hb hby d17) rfl rfl ?_
    show Steps _ _ _ (T4.setTop (mkF m 6 #[vA a_, vA b, vI 0] [(.ref b), (.ref a_)])) _
    refine st5 _ ?_
    show Steps _ _ _ (T5.setTop (mkF m 9 #[vA a_, vA b, vI 0] [])) _
    refine XS.aloadN X5.here hx rfl (hb hby d19) rfl rfl ?_
    show Steps _ _ _ (T5.setTop (mkF m 10 #[vA a_, vA b, vI 0] [(.ref a_)])) _
    refine XS.iloadN X5.here hx rfl (hb hby d20) rfl ?_
    show Steps _ _ _ (T5.setTop (mkF m 11 #[vA a_, vA b, vI 0] [(.int 0), (.ref a_)])) _
    refine st6 _ ?_
    show Steps _ _ _ (T6.setTop (mkF m 14 #[vA a_, vA b, vI 0] [])) _
    exact X6.returnOut hx hret (hb hby d22) hr
theorem w_12 {Z : State} {a0 : Array Value} (hw : HW Z a0) : (Jvm.Cond.fieldLink "java/lang/String" (38 : Nat) "java/lang/String" "COMPACT_STRINGS" "Z").before a0 Z = true := hw _ (List.mem_of_getElem? (i := 12) rfl)
theorem d23 : decode jdk_42_method_139_code 0 = .ok (.getstatic 38, 3) := by decide +kernel
theorem d24 : decode jdk_42_method_139_code 3 = .ok (.ifCond .eq 23, 3) := by decide +kernel
theorem d25 : decode jdk_42_method_139_code 6 = .ok (.iload_n 0, 1) := by decide +kernel
theorem w_13 {Z : State} {a0 : Array Value} (hw : HW Z a0) : (Jvm.Cond.methodLink "java/lang/String" (1015 : Nat) m_0).before a0 Z = true := hw _ (List.mem_of_getElem? (i := 13) rfl)
theorem w_16 {Z : State} {a0 : Array Value} (hw : HW Z a0) : (Jvm.Cond.code m_0 jdk_43_method_3_code (1 : Nat) (Option.some FieldType.boolean)).before a0 Z = true := hw _ (List.mem_of_getElem? (i := 16) rfl)
theorem w_15 {Z : State} {a0 : Array Value} (hw : HW Z a0) : (Jvm.Cond.initialized "java/lang/StringLatin1").before a0 Z = true := hw _ (List.mem_of_getElem? (i := 15) rfl)
theorem pd_0 : parseMethodDescriptor "(C)Z" = some ⟨[.char], some .boolean⟩ := by decide +kernel
theorem d26 : decode jdk_42_method_139_code 7 = .ok (.invokestatic 1015, 3) := by decide +kernel
theorem w_14 {Z : State} {a0 : Array Value} (hw : HW Z a0) : (Jvm.Cond.static m_0).before a0 Z = true := hw _ (List.mem_of_getElem? (i := 14) rfl)
theorem d27 : decode jdk_42_method_139_code 10 = .ok (.ifCond .eq 16, 3) := by decide +kernel
theorem w_17 {Z : State} {a0 : Array Value} (hw : HW Z a0) : (Jvm.Cond.classLink "java/lang/String" (10 : Nat) "java/lang/String").before a0 Z = true := hw _ (List.mem_of_getElem? (i := 17) rfl)
theorem d28 : decode jdk_42_method_139_code 13 = .ok (.new 10, 3) := by decide +kernel
theorem d29 : decode jdk_42_method_139_code 16 = .ok (.dup, 1) := by decide +kernel
theorem d30 : decode jdk_42_method_139_code 17 = .ok (.iload_n 0, 1) := by decide +kernel
theorem w_19 {Z : State} {a0 : Array Value} (hw : HW Z a0) : (Jvm.Cond.methodLink "java/lang/String" (1018 : Nat) m_1).before a0 Z = true := hw _ (List.mem_of_getElem? (i := 19) rfl)
theorem w_21 {Z : State} {a0 : Array Value} (hw : HW Z a0) : (Jvm.Cond.code m_1 jdk_43_method_46_code (1 : Nat) (Option.some (FieldType.array FieldType.byte))).before a0 Z = true := hw _ (List.mem_of_getElem? (i := 21) rfl)
theorem pd_1 : parseMethodDescriptor "(C)[B" = some ⟨[.char], some (.array .byte)⟩ := by decide +kernel
theorem d31 : decode jdk_42_method_139_code 18 = .ok (.invokestatic 1018, 3) := by decide +kernel
theorem w_20 {Z : State} {a0 : Array Value} (hw : HW Z a0) : (Jvm.Cond.static m_1).before a0 Z = true := hw _ (List.mem_of_getElem? (i := 20) rfl)
theorem d32 : decode jdk_42_method_139_code 21 = .ok (.iconst 0, 1) := by decide +kernel
theorem w_23 {Z : State} {a0 : Array Value} (hw : HW Z a0) : (Jvm.Cond.methodLink "java/lang/String" (209 : Nat) m_3).before a0 Z = true := hw _ (List.mem_of_getElem? (i := 23) rfl)
theorem w_26 {Z : State} {a0 : Array Value} (hw : HW Z a0) : (Jvm.Cond.code m_3 jdk_42_method_151_code (3 : Nat) (Option.none : Option Jvm.ClassFile.FieldType)).before a0 Z = true := hw _ (List.mem_of_getElem? (i := 26) rfl)
theorem pd_2 : parseMethodDescriptor "([BB)V" = some ⟨[(.array .byte), .byte], none⟩ := by decide +kernel
theorem d33 : decode jdk_42_method_139_code 22 = .ok (.invokespecial 209, 3) := by decide +kernel
theorem w_24 {Z : State} {a0 : Array Value} (hw : HW Z a0) : (Jvm.Cond.instanceMethod m_3).before a0 Z = true := hw _ (List.mem_of_getElem? (i := 24) rfl)
theorem d34 : decode jdk_42_method_139_code 25 = .ok (.areturn, 1) := by decide +kernel
abbrev m_4 : MethodName := (⟨"java/lang/String", "valueOf", "(C)Ljava/lang/String;"⟩ : MethodName)
def Q_valueC (Z : State) (q : Int32) (cp : Int32) (h0 : Heap) (n0 : Nat) (v : Option Value) (h : Heap) (L : List Loc) : Prop := ∃ (a_ : Addr) (b : Addr) (k : ClassId), (v = some (.ref a_)) ∧ (Fr n0 L) ∧ (Keep h0 h []) ∧ (h0.size ≤ a_) ∧ (h0.size ≤ b) ∧ (Exa Z h a_ "java/lang/String") ∧ (fld0 Z h a_ (.ref b)) ∧ (fld1 Z h a_ (.int 0)) ∧ (Arv Z h b k .byte (1 : Int32) [(.int (nar .byte ((q.toInt8.toInt32))))] (.int 0)) ∧ (Old Z n0 h)
theorem rm_valueC (l : Launch) (Z : State) (a0 : Array Value) (hw : HW Z a0) (ws : List Jvm.Cond) (q : Int32) (cp : Int32) (h0 : Heap) (n0 : Nat) (Z0 : n0 ≤ h0.size) (P0 : Old Z n0 h0) (P1 : sta0 Z (.int cp)) (hcs : ¬ (cp = (0 : Int32))) (hlo : ¬ ((255 : Int32) < q)) :
    MF l Z m_4 jdk_42_method_139_code 1 (some (.object "java/lang/String")) ws (oR 2 2 5 27) #[(.int q)] h0 (Q_valueC Z q cp h0 n0) := by
  refine own_body (cls := "java/lang/String") (plainFor_of_name pn_1) rfl (fun p e s m below meth c s₁ hx hby hml hown hnm hret hZ X0 e0 => ?_)
  have N0 := Fr.nil n0
  have K0 := Keep.refl h0 []
  obtain ⟨T1, X1, e1, st1⟩ := getS2 X0 hx hZ hown (host := "") (Or.inl (w_12 hw)) Via.refl e0 (P1.ext P0.2) (g := (mkF m 0 #[vI q] [])) rfl (hb hby d23)
  obtain ⟨_, _, ⟨T2, L2, k2, n2⟩, -, X2, ⟨Lc2, hQ2, l2, y2, z2⟩, st2⟩ := Jvm.LawKit.callS X1 hx (y := m_0) hown (mvT hZ (w_13 hw)) (mvT hZ (w_14 hw)) (mvT hZ (w_15 hw)) (mvT hZ (w_16 hw)) (by decide) (backOf (W := 0) (rm_canEnc l Z a0 hw [] q h0 n0 (by omega) hlo) hZ (w_16 hw) (w_15 hw) (by decide) (by decide)) (g := (mkF m 7 #[vI q] [(.int q)])) rfl (by rw [hml]; rfl) (argsL := [(.int q)]) (rest := []) (lenOf pd_0 rfl) rfl (Nat.le_of_eq rfl) (hb hby d26) (fun _ _ => ⟨rfl, e1, (by decide : 0 + 0 ≤ _), (by decide : 0 + 0 ≤ _)⟩)
  dsimp only [Pt.U, Pt.locs, Pt.cells, Pt.slots] at X2 l2 y2 z2 st2 hQ2
  rw [l2, y2, z2] at X2
  obtain ⟨rfl, Nq2, Kq2⟩ := hQ2
  have N2 := Fr.app N0 Nq2
  obtain ⟨T3, h3, X3, e3, E3, A3, D3, -, st3⟩ := newO X2 hx hZ hown (w_17 hw) (w_18 hw) (w_10 hw) Kq2 (g := (mkF m 13 #[vI q] [])) rfl (hb hby d28) (by decide) (by decide)
  obtain ⟨b3, g3⟩ : ∃ z, z = h0.size := ⟨_, rfl⟩
  rw [← g3] at A3 D3 st3
  have z3 := E3.1
  have K3 := K0.ext E3
  have lt4 := own_l A3.lt
  have F3_31 : Fld Z h3 b3 "java/lang/String" "value" "[B" .null := D3 (Or.inr (w_31 hw)) (ty := (.array .byte)) (by decide)
  have F3_33 : Fld Z h3 b3 "java/lang/String" "coder" "B" (.int 0) := D3 (Or.inr (w_33 hw)) (ty := .byte) (by decide)
  obtain ⟨_, _, ⟨T5, L5, k5, n5⟩, -, X5, ⟨Lc5, hQ5, l5, y5, z5⟩, st5⟩ := Jvm.LawKit.callS X3 hx (y := m_1) hown (mvT hZ (w_19 hw)) (mvT hZ (w_20 hw)) (mvT hZ (w_15 hw)) (mvT hZ (w_21 hw)) (by decide) (backOf (W := 2) (rm_toB l Z a0 hw [] q h3 n0 (by omega) ) hZ (w_21 hw) (w_15 hw) (by decide) (by decide)) (g := (mkF m 18 #[vI q] [(.int q), (.ref b3), (.ref b3)])) rfl (by rw [hml]; rfl) (argsL := [(.int q)]) (rest := [(.ref b3), (.ref b3)]) (lenOf pd_1 rfl) rfl (Nat.le_of_eq rfl) (hb hby d31) (fun _ _ => ⟨rfl, e3, (by decide : 1 + 1 ≤ _), (by decide : 4 + 1 ≤ _)⟩)
  dsimp only [Pt.U, Pt.locs, Pt.cells, Pt.slots] at X5 l5 y5 z5 st5 hQ5
  rw [l5, y5, z5] at X5
  obtain ⟨x5_b, x5_k, rfl, Nq5, Kq5, r5_0, r5_1⟩ := hQ5
  have N5 := Fr.app N2 Nq5
  have z5' := Kq5.1
  have K5 := K3.trans Kq5 all0
  have lt6 := own_l r5_1.lt
  have f8 := A3.keep Kq5
  have f9 := F3_31.keep Kq5 nin0
  have f10 := F3_33.keep Kq5 nin0
  obtain ⟨_, _, ⟨T7, L7, k7, n7⟩, -, X7, ⟨Lc7, hQ7, l7, y7, z7⟩, st7⟩ := X5.specialBack hx (y := m_3) rfl hown (mvT hZ (w_23 hw)) (mvT hZ (w_24 hw)) (mvT hZ (w_26 hw)) (by decide) (backOf (W := 1) (rm_sbinit l Z a0 hw [] b3 x5_b (.null) ((0 : Int32)) T5.heap n0 (by omega) f8 f9 f10 (by omega)) hZ (w_26 hw) (w_10 hw) (by decide) (by decide)) (g := (mkF m 22 #[vI q] [(.int 0), (.ref x5_b), (.ref b3), (.ref b3)])) rfl (by rw [hml]; rfl) (Steps.refl _) (a := b3) (argsL := [(.ref x5_b), (.int 0)]) (rest := [(.ref b3)]) (lenOf pd_2 rfl) rfl (Nat.le_of_eq rfl) (hb hby d33) (fun _ _ => ⟨rfl, rfl, (by decide : 2 + 0 ≤ _), (by decide : 5 + 0 ≤ _)⟩)
  dsimp only [Pt.U, Pt.locs, Pt.cells, Pt.slots] at X7 l7 y7 z7 st7 hQ7
  rw [l7, y7, z7] at X7
  obtain ⟨rfl, Nq7, Kq7, r7_0, r7_1, r7_2⟩ := hQ7
  have N7 := Fr.app N5 Nq7
  have z7' := Kq7.1
  have K7 := K5.trans Kq7 (allS (Or.inr (by omega)) all0)
  have lt11 := own_l r7_0.lt
  have lt12 := own_l r7_1.lt
  have lt13 := own_l r7_2.lt
  have f14 := r5_1.keep Kq7 (ninS (own_ne (by omega)) nin0)
  have f15 := P0.ext E3
  have f16 := f15.keep Kq5 all0
  have f17 := f16.keep Kq7 (allS (by omega) all0)
  refine ⟨_, _, _, _, some (.ref b3), X7, by decide, by decide, nofun, ?_, fun fs hr => castTop (ef_0 m q) ?_⟩
  · show Q_valueC Z q cp h0 n0 _ T7.heap _
    exact ⟨b3, x5_b, x5_k, rfl, N7, K7, (by omega), (by omega), r7_0, r7_1, r7_2, f14, f17⟩
  · show Steps _ _ _ (s₁.setTop (mkF m 0 #[vI q] [])) _
    refine st1 _ ?_
    show Steps _ _ _ (T1.setTop (mkF m 3 #[vI q] [(.int cp)])) _
    refine XS.ifNo X1.here hx rfl (hb hby d24) rfl ((if0 _ _).trans (feq (hcs : ¬ (cp = (0 : Int32)))).1) ?_
    show Steps _ _ _ (T1.setTop (mkF m 6 #[vI q] [])) _
    refine XS.iloadN X1.here hx rfl (hb hby d25) rfl ?_
    show Steps _ _ _ (T1.setTop (mkF m 7 #[vI q] [(.int q)])) _
    refine st2 _ ?_
    show Steps _ _ _ (T2.setTop (mkF m 10 #[vI q] [(.int 1)])) _
    refine XS.ifNo X2.here hx rfl (hb hby d27) rfl ((if0 _ _).trans (feq ((by decide) : ¬ ((1 : Int32) = (0 : Int32)))).1) ?_
    show Steps _ _ _ (T2.setTop (mkF m 13 #[vI q] [])) _
    refine st3 _ ?_
    show Steps _ _ _ (T3.setTop (mkF m 16 #[vI q] [(.ref b3)])) _
    refine XS.dup X3.here hx rfl (hb hby d29) rfl rfl ?_
    show Steps _ _ _ (T3.setTop (mkF m 17 #[vI q] [(.ref b3), (.ref b3)])) _
    refine XS.iloadN X3.here hx rfl (hb hby d30) rfl ?_
    show Steps _ _ _ (T3.setTop (mkF m 18 #[vI q] [(.int q), (.ref b3), (.ref b3)])) _
    refine st5 _ ?_
    show Steps _ _ _ (T5.setTop (mkF m 21 #[vI q] [(.ref x5_b), (.ref b3), (.ref b3)])) _
    refine XS.iconst X5.here hx rfl (hb hby d32) ?_
    show Steps _ _ _ (T5.setTop (mkF m 22 #[vI q] [(.int 0), (.ref x5_b), (.ref b3), (.ref b3)])) _
    refine st7.trans ?_
    show Steps _ _ _ (T7.setTop (mkF m 25 #[vI q] [(.ref b3)])) _
    exact retOut X7 hx hret (own_narrow_ref rfl) (Or.inr (Or.inr (Or.inr (Or.inr ⟨rfl, rfl, rfl⟩)))) (hb hby d34) hr
theorem d35 : decode jdk_42_method_152_code 0 = .ok (.getstatic 38, 3) := by decide +kernel
theorem d36 : decode jdk_42_method_152_code 3 = .ok (.ifCond .eq 10, 3) := by decide +kernel
theorem d37 : decode jdk_42_method_152_code 6 = .ok (.aload_n 0, 1) := by decide +kernel
theorem d38 : decode jdk_42_method_152_code 7 = .ok (.getfield 15, 3) := by decide +kernel
theorem d39 : decode jdk_42_method_152_code 10 = .ok (.goto 4, 3) := by decide +kernel
theorem d40 : decode jdk_42_method_152_code 14 = .ok (.ireturn, 1) := by decide +kernel
theorem ef_2 (m : MethodId) (x0 : Addr) : entryFrame m #[(.ref x0)] 1 = mkF m 0 #[vA x0] [] := by first | (simp [entryFrame, mkF, argsToLocals, Value.category, maxLocals]; done) | rfl
abbrev m_5 : MethodName := (⟨"java/lang/String", "coder", "()B"⟩ : MethodName)
def Q_cod (Z : State) (t : Addr) (cp : Int32) (h0 : Heap) (n0 : Nat) (v : Option Value) (h : Heap) (L : List Loc) : Prop := (v = some (.int 0)) ∧ (Fr n0 L) ∧ (h = h0)
theorem rm_cod (l : Launch) (Z : State) (a0 : Array Value) (hw : HW Z a0) (ws : List Jvm.Cond) (t : Addr) (cp : Int32) (h0 : Heap) (n0 : Nat) (Z0 : n0 ≤ h0.size) (P0 : Old Z n0 h0) (P1 : sta0 Z (.int cp)) (P2 : fld1 Z h0 t (.int 0)) (hcs : ¬ (cp = (0 : Int32))) :
    MF l Z m_5 jdk_42_method_152_code 1 (some .byte) ws (oR 0 0 0 0) #[(.ref t)] h0 (Q_cod Z t cp h0 n0) := by
  refine own_body (cls := "java/lang/String") (plainFor_of_name pn_1) rfl (fun p e s m below meth c s₁ hx hby hml hown hnm hret hZ X0 e0 => ?_)
  have N0 := Fr.nil n0
  have lt1 := own_l P2.lt
  obtain ⟨T2, X2, e2, st2⟩ := getS2 X0 hx hZ hown (host := "") (Or.inl (w_12 hw)) Via.refl e0 (P1.ext P0.2) (g := (mkF m 0 #[vA t] [])) rfl (hb hby d35)
  obtain ⟨T3, X3, e3, st3⟩ := getF X2 hx hZ hown (host := "") (Or.inl (w_32 hw)) Via.refl e2 P2 (g := (mkF m 7 #[vA t] [(.ref t)])) rfl rfl (hb hby d38)
  refine ⟨_, _, _, _, some (.int 0), X3, by decide, by decide, nofun, ?_, fun fs hr => castTop (ef_2 m t) ?_⟩
  · show Q_cod Z t cp h0 n0 _ T3.heap _
    rw [(e3 : T3.heap = h0)]
    exact ⟨rfl, N0, rfl⟩
  · show Steps _ _ _ (s₁.setTop (mkF m 0 #[vA t] [])) _
    refine st2 _ ?_
    show Steps _ _ _ (T2.setTop (mkF m 3 #[vA t] [(.int cp)])) _
    refine XS.ifNo X2.here hx rfl (hb hby d36) rfl ((if0 _ _).trans (feq (hcs : ¬ (cp = (0 : Int32)))).1) ?_
    show Steps _ _ _ (T2.setTop (mkF m 6 #[vA t] [])) _
    refine XS.aloadN X2.here hx rfl (hb hby d37) rfl rfl ?_
    show Steps _ _ _ (T2.setTop (mkF m 7 #[vA t] [(.ref t)])) _
    refine st3 _ ?_
    show Steps _ _ _ (T3.setTop (mkF m 10 #[vA t] [(.int 0)])) _
    refine XS.goto X3.here hx rfl (pc0 := 10) (pc' := 14) rfl (hb hby d39) (by decide) (by decide) ?_
    show Steps _ _ _ (T3.setTop (mkF m 14 #[vA t] [(.int 0)])) _
    exact retN X3 hx (t := .byte) hret (by simp) (hb hby d40) hr
theorem d41 : decode jdk_42_method_54_code 0 = .ok (.aload_n 0, 1) := by decide +kernel
theorem d42 : decode jdk_42_method_54_code 1 = .ok (.getfield 9, 3) := by decide +kernel
theorem d43 : decode jdk_42_method_54_code 4 = .ok (.arraylength, 1) := by decide +kernel
theorem d44 : decode jdk_42_method_54_code 5 = .ok (.aload_n 0, 1) := by decide +kernel
theorem w_132 {Z : State} {a0 : Array Value} (hw : HW Z a0) : (Jvm.Cond.methodLink "java/lang/String" (335 : Nat) m_5).before a0 Z = true := hw _ (List.mem_of_getElem? (i := 132) rfl)
theorem w_136 {Z : State} {a0 : Array Value} (hw : HW Z a0) : (Jvm.Cond.code m_5 jdk_42_method_152_code (1 : Nat) (Option.some FieldType.byte)).before a0 Z = true := hw _ (List.mem_of_getElem? (i := 136) rfl)
theorem pd_3 : parseMethodDescriptor "()B" = some ⟨[], some .byte⟩ := by decide +kernel
theorem d45 : decode jdk_42_method_54_code 6 = .ok (.invokevirtual 335, 3) := by decide +kernel
theorem w_135 {Z : State} {a0 : Array Value} (hw : HW Z a0) : (Jvm.Cond.selects "java/lang/String" m_5 m_5).before a0 Z = true := hw _ (List.mem_of_getElem? (i := 135) rfl)
theorem w_133 {Z : State} {a0 : Array Value} (hw : HW Z a0) : (Jvm.Cond.declares m_5).before a0 Z = true := hw _ (List.mem_of_getElem? (i := 133) rfl)
theorem w_134 {Z : State} {a0 : Array Value} (hw : HW Z a0) : (Jvm.Cond.instanceMethod m_5).before a0 Z = true := hw _ (List.mem_of_getElem? (i := 134) rfl)
theorem d46 : decode jdk_42_method_54_code 9 = .ok (.ishr, 1) := by decide +kernel
theorem d47 : decode jdk_42_method_54_code 10 = .ok (.ireturn, 1) := by decide +kernel
abbrev m_6 : MethodName := (⟨"java/lang/String", "length", "()I"⟩ : MethodName)
def Q_slen (Z : State) (t : Addr) (tb : Addr) (kt : ClassId) (len : Int32) (bs : List Value) (cp : Int32) (h0 : Heap) (n0 : Nat) (v : Option Value) (h : Heap) (L : List Loc) : Prop := (v = some (.int len)) ∧ (Fr n0 L) ∧ (h = h0)
theorem rm_slen (l : Launch) (Z : State) (a0 : Array Value) (hw : HW Z a0) (ws : List Jvm.Cond) (t : Addr) (tb : Addr) (kt : ClassId) (len : Int32) (bs : List Value) (cp : Int32) (h0 : Heap) (n0 : Nat) (Z0 : n0 ≤ h0.size) (P0 : Old Z n0 h0) (P1 : sta0 Z (.int cp)) (P2 : Exa Z h0 t "java/lang/String") (P3 : fld1 Z h0 t (.int 0)) (P4 : fld0 Z h0 t (.ref tb)) (P5 : Arv Z h0 tb kt .byte len bs (.int 0)) (hcs : ¬ (cp = (0 : Int32))) :
    MF l Z m_6 jdk_42_method_54_code 1 (some .int) ws (oR 1 0 0 13) #[(.ref t)] h0 (Q_slen Z t tb kt len bs cp h0 n0) := by
  refine own_body (cls := "java/lang/String") (plainFor_of_name pn_1) rfl (fun p e s m below meth c s₁ hx hby hml hown hnm hret hZ X0 e0 => ?_)
  have N0 := Fr.nil n0
  have lt1 := own_l P2.lt
  have lt2 := own_l P3.lt
  have lt3 := own_l P4.lt
  have lt4 := own_l P5.lt
  obtain ⟨T5, X5, e5, st5⟩ := getF X0 hx hZ hown (host := "") (Or.inl (w_30 hw)) Via.refl e0 P4 (g := (mkF m 1 #[vA t] [(.ref t)])) rfl rfl (hb hby d42)
  obtain ⟨cl6, Ar6, q6, S6, M6, H6, G6⟩ := id P5
  obtain ⟨cq7, kq7, qa7, qb7, qc7⟩ := isOf hZ e5 P2
  obtain ⟨_, _, ⟨T7, L7, k7, n7⟩, -, X7, ⟨Lc7, hQ7, l7, y7, z7⟩, st7⟩ := X5.virtualBack hx (y := m_5) (z := m_5) hown (mvT hZ (w_132 hw)) (mvT hZ (w_133 hw)) (notFace_of_selects (args := #[]) (mvT hZ (w_135 hw))) (mvT hZ (w_135 hw)) (mvT hZ (w_134 hw)) (by decide) (backOf (W := 1) (rm_cod l Z a0 hw [] t cp h0 n0 (by omega) P0 P1 P3 hcs) hZ (w_136 hw) (w_10 hw) (by decide) (by decide)) qa7 qc7 (g := (mkF m 6 #[vA t] [(.ref t), (.int len)])) rfl (by rw [hml]; rfl) (Steps.refl _) (argsL := []) (rest := [(.int len)]) (lenOf pd_3 rfl) rfl (Nat.le_of_eq rfl) (hb hby d45) (fun _ _ => ⟨rfl, e5, (by decide : 0 + 0 ≤ _), (by decide : 0 + 0 ≤ _)⟩)
  dsimp only [Pt.U, Pt.locs, Pt.cells, Pt.slots] at X7 l7 y7 z7 st7 hQ7
  rw [l7, y7, z7] at X7
  obtain ⟨rfl, Nq7, Kq7⟩ := hQ7
  have N7 := Fr.app N0 Nq7
  refine ⟨_, _, _, _, some (.int len), X7, by decide, by decide, nofun, ?_, fun fs hr => castTop (ef_2 m t) ?_⟩
  · show Q_slen Z t tb kt len bs cp h0 n0 _ T7.heap _
    rw [(Kq7 : T7.heap = h0)]
    exact ⟨rfl, N7, rfl⟩
  · show Steps _ _ _ (s₁.setTop (mkF m 0 #[vA t] [])) _
    refine XS.aloadN X0.here hx rfl (hb hby d41) rfl rfl ?_
    show Steps _ _ _ (s₁.setTop (mkF m 1 #[vA t] [(.ref t)])) _
    refine st5 _ ?_
    show Steps _ _ _ (T5.setTop (mkF m 4 #[vA t] [(.ref tb)])) _
    refine X5.arraylength hx (by rw [e5]; exact Ar6.1) (State.isArrayOf_alike hZ.alike Ar6.2.1) (g := (mkF m 4 #[vA t] [(.ref tb)])) rfl rfl (hb hby d43) _ ?_
    rw [len_of S6 M6]
    show Steps _ _ _ (T5.setTop (mkF m 5 #[vA t] [(.int len)])) _
    refine XS.aloadN X5.here hx rfl (hb hby d44) rfl rfl ?_
    show Steps _ _ _ (T5.setTop (mkF m 6 #[vA t] [(.ref t), (.int len)])) _
    refine st7.trans ?_
    show Steps _ _ _ (T7.setTop (mkF m 9 #[vA t] [(.int 0), (.int len)])) _
    refine XS.ishr X7.here hx rfl (hb hby d46) rfl ?_
    show Steps _ _ _ (T7.setTop (mkF m 10 #[vA t] [(.int (len >>> ((0 : Int32) &&& 31)))])) _
    rw [own_shr0]
    show Steps _ _ _ (T7.setTop (mkF m 10 #[vA t] [(.int len)])) _
    exact retI X7 hx hret (hb hby d47) hr
theorem d48 : decode jdk_29_method_65_code 0 = .ok (.iload_n 0, 1) := by decide +kernel
theorem d49 : decode jdk_29_method_65_code 1 = .ok (.iload_n 1, 1) := by decide +kernel
theorem d50 : decode jdk_29_method_65_code 2 = .ok (.if_icmp .lt 7, 3) := by decide +kernel
theorem d51 : decode jdk_29_method_65_code 9 = .ok (.iload_n 1, 1) := by decide +kernel
theorem d52 : decode jdk_29_method_65_code 10 = .ok (.ireturn, 1) := by decide +kernel
theorem pn_2 : plainFor (⟨"java/lang/Math", "max", "(II)I"⟩ : MethodName) = true := by first | (simp [plainFor, overriddenIn]; done) | decide +kernel
theorem ef_3 (m : MethodId) (x0 : Int32) (x1 : Int32) : entryFrame m #[(.int x0), (.int x1)] 2 = mkF m 0 #[vI x0, vI x1] [] := by first | (simp [entryFrame, mkF, argsToLocals, Value.category, maxLocals]; done) | rfl
abbrev m_7 : MethodName := (⟨"java/lang/Math", "max", "(II)I"⟩ : MethodName)
def Q_max16 (Z : State) (y : Int32) (h0 : Heap) (n0 : Nat) (v : Option Value) (h : Heap) (L : List Loc) : Prop := (v = some (.int 18)) ∧ (Fr n0 L) ∧ (h = h0)
theorem rm_max16 (l : Launch) (Z : State) (a0 : Array Value) (hw : HW Z a0) (ws : List Jvm.Cond) (y : Int32) (h0 : Heap) (n0 : Nat) (Z0 : n0 ≤ h0.size) (hy : y < (18 : Int32)) :
    MF l Z m_7 jdk_29_method_65_code 2 (some .int) ws (oR 0 0 0 0) #[(.int y), (.int 18)] h0 (Q_max16 Z y h0 n0) := by
  refine own_body (cls := "java/lang/Math") pn_2 rfl (fun p e s m below meth c s₁ hx hby hml hown hnm hret hZ X0 e0 => ?_)
  have N0 := Fr.nil n0
  refine ⟨_, _, _, _, some (.int 18), X0, by decide, by decide, nofun, ?_, fun fs hr => castTop (ef_3 m y (18 : Int32)) ?_⟩
  · show Q_max16 Z y h0 n0 _ s₁.heap _
    rw [(e0 : s₁.heap = h0)]
    exact ⟨rfl, N0, rfl⟩
  · show Steps _ _ _ (s₁.setTop (mkF m 0 #[vI y, vI 18] [])) _
    refine XS.iloadN X0.here hx rfl (hb hby d48) rfl ?_
    show Steps _ _ _ (s₁.setTop (mkF m 1 #[vI y, vI 18] [(.int y)])) _
    refine XS.iloadN X0.here hx rfl (hb hby d49) rfl ?_
    show Steps _ _ _ (s₁.setTop (mkF m 2 #[vI y, vI 18] [(.int 18), (.int y)])) _
    refine XS.icmpYes X0.here hx rfl (pc0 := 2) (pc' := 9) rfl (hb hby d50) rfl (tlt (hy : y < (18 : Int32))).1 (by decide) (by decide) ?_
    show Steps _ _ _ (s₁.setTop (mkF m 9 #[vI y, vI 18] [])) _
    refine XS.iloadN X0.here hx rfl (hb hby d51) rfl ?_
    show Steps _ _ _ (s₁.setTop (mkF m 10 #[vI y, vI 18] [(.int 18)])) _
    exact retI X0 hx hret (hb hby d52) hr
theorem d53 : decode jdk_48_method_27_code 0 = .ok (.iload_n 0, 1) := by decide +kernel
theorem d54 : decode jdk_48_method_27_code 1 = .ok (.iload_n 1, 1) := by decide +kernel
theorem d55 : decode jdk_48_method_27_code 2 = .ok (.iload_n 2, 1) := by decide +kernel
theorem w_199 {Z : State} {a0 : Array Value} (hw : HW Z a0) : (Jvm.Cond.methodLink "jdk/internal/util/ArraysSupport" (194 : Nat) m_7).before a0 Z = true := hw _ (List.mem_of_getElem? (i := 199) rfl)
theorem w_202 {Z : State} {a0 : Array Value} (hw : HW Z a0) : (Jvm.Cond.code m_7 jdk_29_method_65_code (2 : Nat) (Option.some FieldType.int)).before a0 Z = true := hw _ (List.mem_of_getElem? (i := 202) rfl)
theorem w_201 {Z : State} {a0 : Array Value} (hw : HW Z a0) : (Jvm.Cond.initialized "java/lang/Math").before a0 Z = true := hw _ (List.mem_of_getElem? (i := 201) rfl)
theorem pd_4 : parseMethodDescriptor "(II)I" = some ⟨[.int, .int], some .int⟩ := by decide +kernel
theorem d56 : decode jdk_48_method_27_code 3 = .ok (.invokestatic 194, 3) := by decide +kernel
theorem w_200 {Z : State} {a0 : Array Value} (hw : HW Z a0) : (Jvm.Cond.static m_7).before a0 Z = true := hw _ (List.mem_of_getElem? (i := 200) rfl)
theorem d57 : decode jdk_48_method_27_code 6 = .ok (.iadd, 1) := by decide +kernel
theorem d58 : decode jdk_48_method_27_code 7 = .ok (.istore_n 3, 1) := by decide +kernel
theorem d59 : decode jdk_48_method_27_code 8 = .ok (.iconst 0, 1) := by decide +kernel
theorem d60 : decode jdk_48_method_27_code 9 = .ok (.iload_n 3, 1) := by decide +kernel
theorem d61 : decode jdk_48_method_27_code 10 = .ok (.if_icmp .ge 11, 3) := by decide +kernel
theorem d62 : decode jdk_48_method_27_code 13 = .ok (.iload_n 3, 1) := by decide +kernel
theorem w_203 {Z : State} {a0 : Array Value} (hw : HW Z a0) : (Jvm.Cond.constant "jdk/internal/util/ArraysSupport" (200 : Nat) (2147483639 : Int32)).before a0 Z = true := hw _ (List.mem_of_getElem? (i := 203) rfl)
theorem d63 : decode jdk_48_method_27_code 14 = .ok (.ldc 200, 2) := by decide +kernel
theorem d64 : decode jdk_48_method_27_code 16 = .ok (.if_icmp .gt 5, 3) := by decide +kernel
theorem d65 : decode jdk_48_method_27_code 19 = .ok (.iload_n 3, 1) := by decide +kernel
theorem d66 : decode jdk_48_method_27_code 20 = .ok (.ireturn, 1) := by decide +kernel
theorem pn_3 : plainName "jdk/internal/util/ArraysSupport" = true := by first | (simp [plainName, overriddenIn]; done) | decide +kernel
theorem ef_4 (m : MethodId) (x0 : Int32) (x1 : Int32) (x2 : Int32) : entryFrame m #[(.int x0), (.int x1), (.int x2)] 4 = mkF m 0 #[vI x0, vI x1, vI x2, .unset] [] := by first | (simp [entryFrame, mkF, argsToLocals, Value.category, maxLocals]; done) | rfl
abbrev m_8 : MethodName := (⟨"jdk/internal/util/ArraysSupport", "newLength", "(III)I"⟩ : MethodName)
def Q_newLen16 (Z : State) (y : Int32) (h0 : Heap) (n0 : Nat) (v : Option Value) (h : Heap) (L : List Loc) : Prop := (v = some (.int 34)) ∧ (Fr n0 L) ∧ (h = h0)
theorem rm_newLen16 (l : Launch) (Z : State) (a0 : Array Value) (hw : HW Z a0) (ws : List Jvm.Cond) (y : Int32) (h0 : Heap) (n0 : Nat) (Z0 : n0 ≤ h0.size) (hy : y < (18 : Int32)) :
    MF l Z m_8 jdk_48_method_27_code 4 (some .int) ws (oR 1 0 0 14) #[(.int 16), (.int y), (.int 18)] h0 (Q_newLen16 Z y h0 n0) := by
  refine own_body (cls := "jdk/internal/util/ArraysSupport") (plainFor_of_name pn_3) rfl (fun p e s m below meth c s₁ hx hby hml hown hnm hret hZ X0 e0 => ?_)
  have N0 := Fr.nil n0
  obtain ⟨_, _, ⟨T1, L1, k1, n1⟩, -, X1, ⟨Lc1, hQ1, l1, y1, z1⟩, st1⟩ := Jvm.LawKit.callS X0 hx (y := m_7) hown (mvT hZ (w_199 hw)) (mvT hZ (w_200 hw)) (mvT hZ (w_201 hw)) (mvT hZ (w_202 hw)) (by decide) (backOf (W := 1) (rm_max16 l Z a0 hw [] y h0 n0 (by omega) hy) hZ (w_202 hw) (w_201 hw) (by decide) (by decide)) (g := (mkF m 3 #[vI 16, vI y, vI 18, .unset] [(.int 18), (.int y), (.int 16)])) rfl (by rw [hml]; rfl) (argsL := [(.int y), (.int 18)]) (rest := [(.int 16)]) (lenOf pd_4 rfl) rfl (Nat.le_of_eq rfl) (hb hby d56) (fun _ _ => ⟨rfl, e0, (by decide : 0 + 0 ≤ _), (by decide : 0 + 0 ≤ _)⟩)
  dsimp only [Pt.U, Pt.locs, Pt.cells, Pt.slots] at X1 l1 y1 z1 st1 hQ1
  rw [l1, y1, z1] at X1
  obtain ⟨rfl, Nq1, Kq1⟩ := hQ1
  have N1 := Fr.app N0 Nq1
  refine ⟨_, _, _, _, some (.int 34), X1, by decide, by decide, nofun, ?_, fun fs hr => castTop (ef_4 m (16 : Int32) y (18 : Int32)) ?_⟩
  · show Q_newLen16 Z y h0 n0 _ T1.heap _
    rw [(Kq1 : T1.heap = h0)]
    exact ⟨rfl, N1, rfl⟩
  · show Steps _ _ _ (s₁.setTop (mkF m 0 #[vI 16, vI y, vI 18, .unset] [])) _
    refine XS.iloadN X0.here hx rfl (hb hby d53) rfl ?_
    show Steps _ _ _ (s₁.setTop (mkF m 1 #[vI 16, vI y, vI 18, .unset] [(.int 16)])) _
    refine XS.iloadN X0.here hx rfl (hb hby d54) rfl ?_
    show Steps _ _ _ (s₁.setTop (mkF m 2 #[vI 16, vI y, vI 18, .unset] [(.int y), (.int 16)])) _
    refine XS.iloadN X0.here hx rfl (hb hby d55) rfl ?_
    show Steps _ _ _ (s₁.setTop (mkF m 3 #[vI 16, vI y, vI 18, .unset] [(.int 18), (.int y), (.int 16)])) _
    refine st1 _ ?_
    show Steps _ _ _ (T1.setTop (mkF m 6 #[vI 16, vI y, vI 18, .unset] [(.int 18), (.int 16)])) _
    refine XS.iadd X1.here hx rfl (hb hby d57) rfl ?_
    show Steps _ _ _ (T1.setTop (mkF m 7 #[vI 16, vI y, vI 18, .unset] [(.int 34)])) _
    refine XS.istoreN X1.here hx rfl (hb hby d58) rfl (l' := #[vI 16, vI y, vI 18, vI 34]) rfl ?_
    show Steps _ _ _ (T1.setTop (mkF m 8 #[vI 16, vI y, vI 18, vI 34] [])) _
    refine XS.iconst X1.here hx rfl (hb hby d59) ?_
    show Steps _ _ _ (T1.setTop (mkF m 9 #[vI 16, vI y, vI 18, vI 34] [(.int 0)])) _
    refine XS.iloadN X1.here hx rfl (hb hby d60) rfl ?_
    show Steps _ _ _ (T1.setTop (mkF m 10 #[vI 16, vI y, vI 18, vI 34] [(.int 34), (.int 0)])) _
    refine XS.icmpNo X1.here hx rfl (hb hby d61) rfl (tlt ((by decide) : (0 : Int32) < (34 : Int32))).2.1 ?_
    show Steps _ _ _ (T1.setTop (mkF m 13 #[vI 16, vI y, vI 18, vI 34] [])) _
    refine XS.iloadN X1.here hx rfl (hb hby d62) rfl ?_
    show Steps _ _ _ (T1.setTop (mkF m 14 #[vI 16, vI y, vI 18, vI 34] [(.int 34)])) _
    refine X1.ldcInt hx hown (mvT hZ (w_203 hw)) (g := (mkF m 14 #[vI 16, vI y, vI 18, vI 34] [(.int 34)])) rfl (hb hby d63) _ ?_
    show Steps _ _ _ (T1.setTop (mkF m 16 #[vI 16, vI y, vI 18, vI 34] [(.int 2147483639), (.int 34)])) _
    refine XS.icmpNo X1.here hx rfl (hb hby d64) rfl (flt ((by decide) : ¬ ((2147483639 : Int32) < (34 : Int32)))).2.2.1 ?_
    show Steps _ _ _ (T1.setTop (mkF m 19 #[vI 16, vI y, vI 18, vI 34] [])) _
    refine XS.iloadN X1.here hx rfl (hb hby d65) rfl ?_
    show Steps _ _ _ (T1.setTop (mkF m 20 #[vI 16, vI y, vI 18, vI 34] [(.int 34)])) _
    exact retI X1 hx hret (hb hby d66) hr
theorem d67 : decode jdk_68_method_10_code 0 = .ok (.aload_n 0, 1) := by decide +kernel
theorem w_113 {Z : State} {a0 : Array Value} (hw : HW Z a0) : (Jvm.Cond.fieldLink "java/lang/AbstractStringBuilder" (15 : Nat) "java/lang/AbstractStringBuilder" "value" "[B").before a0 Z = true := hw _ (List.mem_of_getElem? (i := 113) rfl)
theorem d68 : decode jdk_68_method_10_code 1 = .ok (.getfield 15, 3) := by decide +kernel
theorem d69 : decode jdk_68_method_10_code 4 = .ok (.arraylength, 1) := by decide +kernel
theorem d70 : decode jdk_68_method_10_code 5 = .ok (.istore_n 2, 1) := by decide +kernel
theorem d71 : decode jdk_68_method_10_code 6 = .ok (.iload_n 1, 1) := by decide +kernel
theorem d72 : decode jdk_68_method_10_code 7 = .ok (.aload_n 0, 1) := by decide +kernel
theorem w_115 {Z : State} {a0 : Array Value} (hw : HW Z a0) : (Jvm.Cond.fieldLink "java/lang/AbstractStringBuilder" (22 : Nat) "java/lang/AbstractStringBuilder" "coder" "B").before a0 Z = true := hw _ (List.mem_of_getElem? (i := 115) rfl)
theorem d73 : decode jdk_68_method_10_code 8 = .ok (.getfield 22, 3) := by decide +kernel
theorem d74 : decode jdk_68_method_10_code 11 = .ok (.ishl, 1) := by decide +kernel
theorem d75 : decode jdk_68_method_10_code 12 = .ok (.istore_n 3, 1) := by decide +kernel
theorem d76 : decode jdk_68_method_10_code 13 = .ok (.iload_n 3, 1) := by decide +kernel
theorem d77 : decode jdk_68_method_10_code 14 = .ok (.iload_n 2, 1) := by decide +kernel
theorem d78 : decode jdk_68_method_10_code 15 = .ok (.isub, 1) := by decide +kernel
theorem d79 : decode jdk_68_method_10_code 16 = .ok (.istore 4, 2) := by decide +kernel
theorem d80 : decode jdk_68_method_10_code 18 = .ok (.iload_n 2, 1) := by decide +kernel
theorem d81 : decode jdk_68_method_10_code 19 = .ok (.iload 4, 2) := by decide +kernel
theorem d82 : decode jdk_68_method_10_code 21 = .ok (.iload_n 2, 1) := by decide +kernel
theorem d83 : decode jdk_68_method_10_code 22 = .ok (.iconst 2, 1) := by decide +kernel
theorem d84 : decode jdk_68_method_10_code 23 = .ok (.aload_n 0, 1) := by decide +kernel
theorem d85 : decode jdk_68_method_10_code 24 = .ok (.getfield 22, 3) := by decide +kernel
theorem d86 : decode jdk_68_method_10_code 27 = .ok (.ishl, 1) := by decide +kernel
theorem d87 : decode jdk_68_method_10_code 28 = .ok (.iadd, 1) := by decide +kernel
theorem w_195 {Z : State} {a0 : Array Value} (hw : HW Z a0) : (Jvm.Cond.methodLink "java/lang/AbstractStringBuilder" (114 : Nat) m_8).before a0 Z = true := hw _ (List.mem_of_getElem? (i := 195) rfl)
theorem w_198 {Z : State} {a0 : Array Value} (hw : HW Z a0) : (Jvm.Cond.code m_8 jdk_48_method_27_code (4 : Nat) (Option.some FieldType.int)).before a0 Z = true := hw _ (List.mem_of_getElem? (i := 198) rfl)
theorem w_197 {Z : State} {a0 : Array Value} (hw : HW Z a0) : (Jvm.Cond.initialized "jdk/internal/util/ArraysSupport").before a0 Z = true := hw _ (List.mem_of_getElem? (i := 197) rfl)
theorem pd_5 : parseMethodDescriptor "(III)I" = some ⟨[.int, .int, .int], some .int⟩ := by decide +kernel
theorem d88 : decode jdk_68_method_10_code 29 = .ok (.invokestatic 114, 3) := by decide +kernel
theorem w_196 {Z : State} {a0 : Array Value} (hw : HW Z a0) : (Jvm.Cond.static m_8).before a0 Z = true := hw _ (List.mem_of_getElem? (i := 196) rfl)
theorem d89 : decode jdk_68_method_10_code 32 = .ok (.istore 5, 2) := by decide +kernel
theorem d90 : decode jdk_68_method_10_code 34 = .ok (.iload 5, 2) := by decide +kernel
theorem w_204 {Z : State} {a0 : Array Value} (hw : HW Z a0) : (Jvm.Cond.constant "java/lang/AbstractStringBuilder" (39 : Nat) (2147483647 : Int32)).before a0 Z = true := hw _ (List.mem_of_getElem? (i := 204) rfl)
theorem d91 : decode jdk_68_method_10_code 36 = .ok (.ldc 39, 2) := by decide +kernel
theorem d92 : decode jdk_68_method_10_code 38 = .ok (.if_icmp .ne 13, 3) := by decide +kernel
theorem d93 : decode jdk_68_method_10_code 51 = .ok (.iload 5, 2) := by decide +kernel
theorem d94 : decode jdk_68_method_10_code 53 = .ok (.aload_n 0, 1) := by decide +kernel
theorem d95 : decode jdk_68_method_10_code 54 = .ok (.getfield 22, 3) := by decide +kernel
theorem d96 : decode jdk_68_method_10_code 57 = .ok (.ishr, 1) := by decide +kernel
theorem d97 : decode jdk_68_method_10_code 58 = .ok (.ireturn, 1) := by decide +kernel
theorem pn_4 : plainName "java/lang/AbstractStringBuilder" = true := by first | (simp [plainName, overriddenIn]; done) | decide +kernel
theorem ef_5 (m : MethodId) (x0 : Addr) (x1 : Int32) : entryFrame m #[(.ref x0), (.int x1)] 6 = mkF m 0 #[vA x0, vI x1, .unset, .unset, .unset, .unset] [] := by first | (simp [entryFrame, mkF, argsToLocals, Value.category, maxLocals]; done) | rfl
abbrev m_9 : MethodName := (⟨"java/lang/AbstractStringBuilder", "newCapacity", "(I)I"⟩ : MethodName)
def Q_newCap16 (Z : State) (a_ : Addr) (v_ : Addr) (kv : ClassId) (xs : List Value) (mc : Int32) (h0 : Heap) (n0 : Nat) (v : Option Value) (h : Heap) (L : List Loc) : Prop := (v = some (.int 34)) ∧ (Fr n0 L) ∧ (h = h0)
theorem rm_newCap16 (l : Launch) (Z : State) (a0 : Array Value) (hw : HW Z a0) (ws : List Jvm.Cond) (a_ : Addr) (v_ : Addr) (kv : ClassId) (xs : List Value) (mc : Int32) (h0 : Heap) (n0 : Nat) (Z0 : n0 ≤ h0.size) (P0 : fld2 Z h0 a_ (.ref v_)) (P1 : fld3 Z h0 a_ (.int 0)) (P2 : Arv Z h0 v_ kv .byte (16 : Int32) xs (.int 0)) (hy : (mc - (16 : Int32)) < (18 : Int32)) :
    MF l Z m_9 jdk_68_method_10_code 6 (some .int) ws (oR 2 0 0 29) #[(.ref a_), (.int mc)] h0 (Q_newCap16 Z a_ v_ kv xs mc h0 n0) := by
  refine own_body (cls := "java/lang/AbstractStringBuilder") (plainFor_of_name pn_4) rfl (fun p e s m below meth c s₁ hx hby hml hown hnm hret hZ X0 e0 => ?_)
  have N0 := Fr.nil n0
  have lt1 := own_l P0.lt
  have lt2 := own_l P1.lt
  have lt3 := own_l P2.lt
  obtain ⟨T4, X4, e4, st4⟩ := getF X0 hx hZ hown (host := "") (Or.inl (w_113 hw)) Via.refl e0 P0 (g := (mkF m 1 #[vA a_, vI mc, .unset, .unset, .unset, .unset] [(.ref a_)])) rfl rfl (hb hby d68)
  obtain ⟨cl5, Ar5, q5, S5, M5, H5, G5⟩ := id P2
  obtain ⟨T6, X6, e6, st6⟩ := getF X4 hx hZ hown (host := "") (Or.inl (w_115 hw)) Via.refl e4 P1 (g := (mkF m 8 #[vA a_, vI mc, vI 16, .unset, .unset, .unset] [(.ref a_), (.int mc)])) rfl rfl (hb hby d73)
  obtain ⟨T7, X7, e7, st7⟩ := getF X6 hx hZ hown (host := "") (Or.inl (w_115 hw)) Via.refl e6 P1 (g := (mkF m 24 #[vA a_, vI mc, vI 16, vI mc, .val (.int (mc - (16 : Int32))), .unset] [(.ref a_), (.int 2), (.int 16), (.int (mc - (16 : Int32))), (.int 16)])) rfl rfl (hb hby d85)
  obtain ⟨_, _, ⟨T8, L8, k8, n8⟩, -, X8, ⟨Lc8, hQ8, l8, y8, z8⟩, st8⟩ := Jvm.LawKit.callS X7 hx (y := m_8) hown (mvT hZ (w_195 hw)) (mvT hZ (w_196 hw)) (mvT hZ (w_197 hw)) (mvT hZ (w_198 hw)) (by decide) (backOf (W := 0) (rm_newLen16 l Z a0 hw [] ((mc - (16 : Int32))) h0 n0 (by omega) hy) hZ (w_198 hw) (w_197 hw) (by decide) (by decide)) (g := (mkF m 29 #[vA a_, vI mc, vI 16, vI mc, .val (.int (mc - (16 : Int32))), .unset] [(.int 18), (.int (mc - (16 : Int32))), (.int 16)])) rfl (by rw [hml]; rfl) (argsL := [(.int 16), (.int (mc - (16 : Int32))), (.int 18)]) (rest := []) (lenOf pd_5 rfl) rfl (Nat.le_of_eq rfl) (hb hby d88) (fun _ _ => ⟨rfl, e7, (by decide : 0 + 0 ≤ _), (by decide : 0 + 0 ≤ _)⟩)
  dsimp only [Pt.U, Pt.locs, Pt.cells, Pt.slots] at X8 l8 y8 z8 st8 hQ8
  rw [l8, y8, z8] at X8
  obtain ⟨rfl, Nq8, Kq8⟩ := hQ8
  have N8 := Fr.app N0 Nq8
  obtain ⟨T10, X10, e10, st10⟩ := getF X8 hx hZ hown (host := "") (Or.inl (w_115 hw)) Via.refl Kq8 P1 (g := (mkF m 54 #[vA a_, vI mc, vI 16, vI mc, .val (.int (mc - (16 : Int32))), vI 34] [(.ref a_), (.int 34)])) rfl rfl (hb hby d95)
  refine ⟨_, _, _, _, some (.int 34), X10, by decide, by decide, nofun, ?_, fun fs hr => castTop (ef_5 m a_ mc) ?_⟩
  · show Q_newCap16 Z a_ v_ kv xs mc h0 n0 _ T10.heap _
    rw [(e10 : T10.heap = h0)]
    exact ⟨rfl, N8, rfl⟩
  · show Steps _ _ _ (s₁.setTop (mkF m 0 #[vA a_, vI mc, .unset, .unset, .unset, .unset] [])) _
    refine XS.aloadN X0.here hx rfl (hb hby d67) rfl rfl ?_
    show Steps _ _ _ (s₁.setTop (mkF m 1 #[vA a_, vI mc, .unset, .unset, .unset, .unset] [(.ref a_)])) _
    refine st4 _ ?_
    show Steps _ _ _ (T4.setTop (mkF m 4 #[vA a_, vI mc, .unset, .unset, .unset, .unset] [(.ref v_)])) _
    refine X4.arraylength hx (by rw [e4]; exact Ar5.1) (State.isArrayOf_alike hZ.alike Ar5.2.1) (g := (mkF m 4 #[vA a_, vI mc, .unset, .unset, .unset, .unset] [(.ref v_)])) rfl rfl (hb hby d69) _ ?_
    rw [len_of S5 M5]
    show Steps _ _ _ (T4.setTop (mkF m 5 #[vA a_, vI mc, .unset, .unset, .unset, .unset] [(.int 16)])) _
    refine XS.istoreN X4.here hx rfl (hb hby d70) rfl (l' := #[vA a_, vI mc, vI 16, .unset, .unset, .unset]) rfl ?_
    show Steps _ _ _ (T4.setTop (mkF m 6 #[vA a_, vI mc, vI 16, .unset, .unset, .unset] [])) _
    refine XS.iloadN X4.here hx rfl (hb hby d71) rfl ?_
    show Steps _ _ _ (T4.setTop (mkF m 7 #[vA a_, vI mc, vI 16, .unset, .unset, .unset] [(.int mc)])) _
    refine XS.aloadN X4.here hx rfl (hb hby d72) rfl rfl ?_
    show Steps _ _ _ (T4.setTop (mkF m 8 #[vA a_, vI mc, vI 16, .unset, .unset, .unset] [(.ref a_), (.int mc)])) _
    refine st6 _ ?_
    show Steps _ _ _ (T6.setTop (mkF m 11 #[vA a_, vI mc, vI 16, .unset, .unset, .unset] [(.int 0), (.int mc)])) _
    refine XS.ishl X6.here hx rfl (hb hby d74) rfl ?_
    show Steps _ _ _ (T6.setTop (mkF m 12 #[vA a_, vI mc, vI 16, .unset, .unset, .unset] [(.int (mc <<< ((0 : Int32) &&& 31)))])) _
    rw [own_shl0]
    show Steps _ _ _ (T6.setTop (mkF m 12 #[vA a_, vI mc, vI 16, .unset, .unset, .unset] [(.int mc)])) _
    refine XS.istoreN X6.here hx rfl (hb hby d75) rfl (l' := #[vA a_, vI mc, vI 16, vI mc, .unset, .unset]) rfl ?_
    show Steps _ _ _ (T6.setTop (mkF m 13 #[vA a_, vI mc, vI 16, vI mc, .unset, .unset] [])) _
    refine XS.iloadN X6.here hx rfl (hb hby d76) rfl ?_
    show Steps _ _ _ (T6.setTop (mkF m 14 #[vA a_, vI mc, vI 16, vI mc, .unset, .unset] [(.int mc)])) _
    refine XS.iloadN X6.here hx rfl (hb hby d77) rfl ?_
    show Steps _ _ _ (T6.setTop (mkF m 15 #[vA a_, vI mc, vI 16, vI mc, .unset, .unset] [(.int 16), (.int mc)])) _
    refine XS.isub X6.here hx rfl (hb hby d78) rfl ?_
    show Steps _ _ _ (T6.setTop (mkF m 16 #[vA a_, vI mc, vI 16, vI mc, .unset, .unset] [(.int (mc - (16 : Int32)))])) _
    refine XS.istore X6.here hx rfl (hb hby d79) rfl (l' := #[vA a_, vI mc, vI 16, vI mc, .val (.int (mc - (16 : Int32))), .unset]) rfl ?_
    show Steps _ _ _ (T6.setTop (mkF m 18 #[vA a_, vI mc, vI 16, vI mc, .val (.int (mc - (16 : Int32))), .unset] [])) _
    refine XS.iloadN X6.here hx rfl (hb hby d80) rfl ?_
    show Steps _ _ _ (T6.setTop (mkF m 19 #[vA a_, vI mc, vI 16, vI mc, .val (.int (mc - (16 : Int32))), .unset] [(.int 16)])) _
    refine XS.iload X6.here hx rfl (hb hby d81) rfl ?_
    show Steps _ _ _ (T6.setTop (mkF m 21 #[vA a_, vI mc, vI 16, vI mc, .val (.int (mc - (16 : Int32))), .unset] [(.int (mc - (16 : Int32))), (.int 16)])) _
    refine XS.iloadN X6.here hx rfl (hb hby d82) rfl ?_
    show Steps _ _ _ (T6.setTop (mkF m 22 #[vA a_, vI mc, vI 16, vI mc, .val (.int (mc - (16 : Int32))), .unset] [(.int 16), (.int (mc - (16 : Int32))), (.int 16)])) _
    refine XS.iconst X6.here hx rfl (hb hby d83) ?_
    show Steps _ _ _ (T6.setTop (mkF m 23 #[vA a_, vI mc, vI 16, vI mc, .val (.int (mc - (16 : Int32))), .unset] [(.int 2), (.int 16), (.int (mc - (16 : Int32))), (.int 16)])) _
    refine XS.aloadN X6.here hx rfl (hb hby d84) rfl rfl ?_
    show Steps _ _ _ (T6.setTop (mkF m 24 #[vA a_, vI mc, vI 16, vI mc, .val (.int (mc - (16 : Int32))), .unset] [(.ref a_), (.int 2), (.int 16), (.int (mc - (16 : Int32))), (.int 16)])) _
    refine st7 _ ?_
    show Steps _ _ _ (T7.setTop (mkF m 27 #[vA a_, vI mc, vI 16, vI mc, .val (.int (mc - (16 : Int32))), .unset] [(.int 0), (.int 2), (.int 16), (.int (mc - (16 : Int32))), (.int 16)])) _
    refine XS.ishl X7.here hx rfl (hb hby d86) rfl ?_
    show Steps _ _ _ (T7.setTop (mkF m 28 #[vA a_, vI mc, vI 16, vI mc, .val (.int (mc - (16 : Int32))), .unset] [(.int 2), (.int 16), (.int (mc - (16 : Int32))), (.int 16)])) _
    refine XS.iadd X7.here hx rfl (hb hby d87) rfl ?_
    show Steps _ _ _ (T7.setTop (mkF m 29 #[vA a_, vI mc, vI 16, vI mc, .val (.int (mc - (16 : Int32))), .unset] [(.int 18), (.int (mc - (16 : Int32))), (.int 16)])) _
    refine st8 _ ?_
    show Steps _ _ _ (T8.setTop (mkF m 32 #[vA a_, vI mc, vI 16, vI mc, .val (.int (mc - (16 : Int32))), .unset] [(.int 34)])) _
    refine XS.istore X8.here hx rfl (hb hby d89) rfl (l' := #[vA a_, vI mc, vI 16, vI mc, .val (.int (mc - (16 : Int32))), vI 34]) rfl ?_
    show Steps _ _ _ (T8.setTop (mkF m 34 #[vA a_, vI mc, vI 16, vI mc, .val (.int (mc - (16 : Int32))), vI 34] [])) _
    refine XS.iload X8.here hx rfl (hb hby d90) rfl ?_
    show Steps _ _ _ (T8.setTop (mkF m 36 #[vA a_, vI mc, vI 16, vI mc, .val (.int (mc - (16 : Int32))), vI 34] [(.int 34)])) _
    refine X8.ldcInt hx hown (mvT hZ (w_204 hw)) (g := (mkF m 36 #[vA a_, vI mc, vI 16, vI mc, .val (.int (mc - (16 : Int32))), vI 34] [(.int 34)])) rfl (hb hby d91) _ ?_
    show Steps _ _ _ (T8.setTop (mkF m 38 #[vA a_, vI mc, vI 16, vI mc, .val (.int (mc - (16 : Int32))), vI 34] [(.int 2147483647), (.int 34)])) _
    refine XS.icmpYes X8.here hx rfl (pc0 := 38) (pc' := 51) rfl (hb hby d92) rfl (feq ((by decide) : ¬ ((34 : Int32) = (2147483647 : Int32)))).2 (by decide) (by decide) ?_
    show Steps _ _ _ (T8.setTop (mkF m 51 #[vA a_, vI mc, vI 16, vI mc, .val (.int (mc - (16 : Int32))), vI 34] [])) _
    refine XS.iload X8.here hx rfl (hb hby d93) rfl ?_
    show Steps _ _ _ (T8.setTop (mkF m 53 #[vA a_, vI mc, vI 16, vI mc, .val (.int (mc - (16 : Int32))), vI 34] [(.int 34)])) _
    refine XS.aloadN X8.here hx rfl (hb hby d94) rfl rfl ?_
    show Steps _ _ _ (T8.setTop (mkF m 54 #[vA a_, vI mc, vI 16, vI mc, .val (.int (mc - (16 : Int32))), vI 34] [(.ref a_), (.int 34)])) _
    refine st10 _ ?_
    show Steps _ _ _ (T10.setTop (mkF m 57 #[vA a_, vI mc, vI 16, vI mc, .val (.int (mc - (16 : Int32))), vI 34] [(.int 0), (.int 34)])) _
    refine XS.ishr X10.here hx rfl (hb hby d96) rfl ?_
    show Steps _ _ _ (T10.setTop (mkF m 58 #[vA a_, vI mc, vI 16, vI mc, .val (.int (mc - (16 : Int32))), vI 34] [(.int 34)])) _
    exact retI X10 hx hret (hb hby d97) hr
theorem d98 : decode jdk_29_method_69_code 0 = .ok (.iload_n 0, 1) := by decide +kernel
theorem d99 : decode jdk_29_method_69_code 1 = .ok (.iload_n 1, 1) := by decide +kernel
theorem d100 : decode jdk_29_method_69_code 2 = .ok (.if_icmp .gt 7, 3) := by decide +kernel
theorem d101 : decode jdk_29_method_69_code 5 = .ok (.iload_n 0, 1) := by decide +kernel
theorem d102 : decode jdk_29_method_69_code 6 = .ok (.goto 4, 3) := by decide +kernel
theorem d103 : decode jdk_29_method_69_code 10 = .ok (.ireturn, 1) := by decide +kernel
theorem pn_5 : plainFor (⟨"java/lang/Math", "min", "(II)I"⟩ : MethodName) = true := by first | (simp [plainFor, overriddenIn]; done) | decide +kernel
abbrev m_10 : MethodName := (⟨"java/lang/Math", "min", "(II)I"⟩ : MethodName)
def Q_min16 (Z : State) (h0 : Heap) (n0 : Nat) (v : Option Value) (h : Heap) (L : List Loc) : Prop := (v = some (.int 16)) ∧ (Fr n0 L) ∧ (h = h0)
theorem rm_min16 (l : Launch) (Z : State) (a0 : Array Value) (hw : HW Z a0) (ws : List Jvm.Cond) (h0 : Heap) (n0 : Nat) (Z0 : n0 ≤ h0.size) :
    MF l Z m_10 jdk_29_method_69_code 2 (some .int) ws (oR 0 0 0 0) #[(.int 16), (.int 34)] h0 (Q_min16 Z  h0 n0) := by
  refine own_body (cls := "java/lang/Math") pn_5 rfl (fun p e s m below meth c s₁ hx hby hml hown hnm hret hZ X0 e0 => ?_)
  have N0 := Fr.nil n0
  refine ⟨_, _, _, _, some (.int 16), X0, by decide, by decide, nofun, ?_, fun fs hr => castTop (ef_3 m (16 : Int32) (34 : Int32)) ?_⟩
  · show Q_min16 Z  h0 n0 _ s₁.heap _
    rw [(e0 : s₁.heap = h0)]
    exact ⟨rfl, N0, rfl⟩
  · show Steps _ _ _ (s₁.setTop (mkF m 0 #[vI 16, vI 34] [])) _
    refine XS.iloadN X0.here hx rfl (hb hby d98) rfl ?_
    show Steps _ _ _ (s₁.setTop (mkF m 1 #[vI 16, vI 34] [(.int 16)])) _
    refine XS.iloadN X0.here hx rfl (hb hby d99) rfl ?_
    show Steps _ _ _ (s₁.setTop (mkF m 2 #[vI 16, vI 34] [(.int 34), (.int 16)])) _
    refine XS.icmpNo X0.here hx rfl (hb hby d100) rfl (flt ((by decide) : ¬ ((34 : Int32) < (16 : Int32)))).2.2.1 ?_
    show Steps _ _ _ (s₁.setTop (mkF m 5 #[vI 16, vI 34] [])) _
    refine XS.iloadN X0.here hx rfl (hb hby d101) rfl ?_
    show Steps _ _ _ (s₁.setTop (mkF m 6 #[vI 16, vI 34] [(.int 16)])) _
    refine XS.goto X0.here hx rfl (pc0 := 6) (pc' := 10) rfl (hb hby d102) (by decide) (by decide) ?_
    show Steps _ _ _ (s₁.setTop (mkF m 10 #[vI 16, vI 34] [(.int 16)])) _
    exact retI X0 hx hret (hb hby d103) hr
theorem d104 : decode jdk_65_method_121_code 0 = .ok (.iload_n 1, 1) := by decide +kernel
theorem d105 : decode jdk_65_method_121_code 1 = .ok (.aload_n 0, 1) := by decide +kernel
theorem d106 : decode jdk_65_method_121_code 2 = .ok (.arraylength, 1) := by decide +kernel
theorem d107 : decode jdk_65_method_121_code 3 = .ok (.if_icmp .ne 11, 3) := by decide +kernel
theorem d108 : decode jdk_65_method_121_code 14 = .ok (.iload_n 1, 1) := by decide +kernel
theorem d109 : decode jdk_65_method_121_code 15 = .ok (.newarray .byte, 2) := by decide +kernel
theorem d110 : decode jdk_65_method_121_code 17 = .ok (.astore_n 2, 1) := by decide +kernel
theorem d111 : decode jdk_65_method_121_code 18 = .ok (.aload_n 0, 1) := by decide +kernel
theorem d112 : decode jdk_65_method_121_code 19 = .ok (.iconst 0, 1) := by decide +kernel
theorem d113 : decode jdk_65_method_121_code 20 = .ok (.aload_n 2, 1) := by decide +kernel
theorem d114 : decode jdk_65_method_121_code 21 = .ok (.iconst 0, 1) := by decide +kernel
theorem d115 : decode jdk_65_method_121_code 22 = .ok (.aload_n 0, 1) := by decide +kernel
theorem d116 : decode jdk_65_method_121_code 23 = .ok (.arraylength, 1) := by decide +kernel
theorem d117 : decode jdk_65_method_121_code 24 = .ok (.iload_n 1, 1) := by decide +kernel
theorem w_209 {Z : State} {a0 : Array Value} (hw : HW Z a0) : (Jvm.Cond.methodLink "java/util/Arrays" (304 : Nat) m_10).before a0 Z = true := hw _ (List.mem_of_getElem? (i := 209) rfl)
theorem w_211 {Z : State} {a0 : Array Value} (hw : HW Z a0) : (Jvm.Cond.code m_10 jdk_29_method_69_code (2 : Nat) (Option.some FieldType.int)).before a0 Z = true := hw _ (List.mem_of_getElem? (i := 211) rfl)
theorem d118 : decode jdk_65_method_121_code 25 = .ok (.invokestatic 304, 3) := by decide +kernel
theorem w_210 {Z : State} {a0 : Array Value} (hw : HW Z a0) : (Jvm.Cond.static m_10).before a0 Z = true := hw _ (List.mem_of_getElem? (i := 210) rfl)
abbrev m_11 : MethodName := (⟨"java/lang/System", "arraycopy", "(Ljava/lang/Object;ILjava/lang/Object;II)V"⟩ : MethodName)
theorem w_212 {Z : State} {a0 : Array Value} (hw : HW Z a0) : (Jvm.Cond.methodLink "java/util/Arrays" (150 : Nat) m_11).before a0 Z = true := hw _ (List.mem_of_getElem? (i := 212) rfl)
theorem w_163 {Z : State} {a0 : Array Value} (hw : HW Z a0) : (Jvm.Cond.native m_11).before a0 Z = true := hw _ (List.mem_of_getElem? (i := 163) rfl)
theorem w_161 {Z : State} {a0 : Array Value} (hw : HW Z a0) : (Jvm.Cond.static m_11).before a0 Z = true := hw _ (List.mem_of_getElem? (i := 161) rfl)
theorem w_162 {Z : State} {a0 : Array Value} (hw : HW Z a0) : (Jvm.Cond.initialized "java/lang/System").before a0 Z = true := hw _ (List.mem_of_getElem? (i := 162) rfl)
theorem d119 : decode jdk_65_method_121_code 28 = .ok (.invokestatic 150, 3) := by decide +kernel
theorem d120 : decode jdk_65_method_121_code 31 = .ok (.aload_n 2, 1) := by decide +kernel
theorem d121 : decode jdk_65_method_121_code 32 = .ok (.areturn, 1) := by decide +kernel
theorem pn_6 : plainName "java/util/Arrays" = true := by first | (simp [plainName, overriddenIn]; done) | decide +kernel
theorem ef_6 (m : MethodId) (x0 : Addr) (x1 : Int32) : entryFrame m #[(.ref x0), (.int x1)] 3 = mkF m 0 #[vA x0, vI x1, .unset] [] := by first | (simp [entryFrame, mkF, argsToLocals, Value.category, maxLocals]; done) | rfl
abbrev m_12 : MethodName := (⟨"java/util/Arrays", "copyOf", "([BI)[B"⟩ : MethodName)
def Q_copyOf16 (Z : State) (v_ : Addr) (kv : ClassId) (xs : List Value) (h0 : Heap) (n0 : Nat) (v : Option Value) (h : Heap) (L : List Loc) : Prop := ∃ (b : Addr) (k : ClassId) (ys : List Value), (v = some (.ref b)) ∧ (Fr n0 L) ∧ (Keep h0 h []) ∧ (h0.size ≤ b) ∧ (Exa Z h b "[B") ∧ (Arv Z h b k .byte (34 : Int32) ys (.int 0))
theorem rm_copyOf16 (l : Launch) (Z : State) (a0 : Array Value) (hw : HW Z a0) (ws : List Jvm.Cond) (v_ : Addr) (kv : ClassId) (xs : List Value) (h0 : Heap) (n0 : Nat) (Z0 : n0 ≤ h0.size) (P0 : Arv Z h0 v_ kv .byte (16 : Int32) xs (.int 0)) :
    MF l Z m_12 jdk_65_method_121_code 3 (some (.array .byte)) ws (oR 1 1 34 18) #[(.ref v_), (.int 34)] h0 (Q_copyOf16 Z v_ kv xs h0 n0) := by
  refine own_body (cls := "java/util/Arrays") (plainFor_of_name pn_6) rfl (fun p e s m below meth c s₁ hx hby hml hown hnm hret hZ X0 e0 => ?_)
  have N0 := Fr.nil n0
  have K0 := Keep.refl h0 []
  have lt1 := own_l P0.lt
  obtain ⟨cl2, Ar2, q2, S2, M2, H2, G2⟩ := id P0
  obtain ⟨T3, h3, k3, X3, e3, E3, A3, AE3, st3⟩ := newPE X0 hx hZ (aty := .byte) (w_22 hw) e0 (g := (mkF m 15 #[vA v_, vI 34, .unset] [(.int 34)])) rfl (hb hby d109) rfl (by decide) (cap := 34) (by decide) (by decide) (by decide) (by decide) (ad := "[B") (by decide)
  obtain ⟨b3, g3⟩ : ∃ z, z = h0.size := ⟨_, rfl⟩
  rw [← g3] at A3 AE3 st3
  have z3 := E3.1
  have K3 := K0.ext E3
  have V3 : Arv Z h3 b3 k3 .byte (34 : Int32) [] (.int 0) := Arv.new A3 (by decide)
  have lt4 := own_l V3.lt
  have f6 := P0.ext E3
  obtain ⟨cl5, Ar5, q5, S5, M5, H5, G5⟩ := id f6
  obtain ⟨_, _, ⟨T7, L7, k7, n7⟩, -, X7, ⟨Lc7, hQ7, l7, y7, z7⟩, st7⟩ := Jvm.LawKit.callS X3 hx (y := m_10) hown (mvT hZ (w_209 hw)) (mvT hZ (w_210 hw)) (mvT hZ (w_201 hw)) (mvT hZ (w_211 hw)) (by decide) (backOf (W := 4) (rm_min16 l Z a0 hw []  h3 n0 (by omega) ) hZ (w_211 hw) (w_201 hw) (by decide) (by decide)) (g := (mkF m 25 #[vA v_, vI 34, vA b3] [(.int 34), (.int 16), (.int 0), (.ref b3), (.int 0), (.ref v_)])) rfl (by rw [hml]; rfl) (argsL := [(.int 16), (.int 34)]) (rest := [(.int 0), (.ref b3), (.int 0), (.ref v_)]) (lenOf pd_4 rfl) rfl (Nat.le_of_eq rfl) (hb hby d118) (fun _ _ => ⟨rfl, e3, (by decide : 1 + 0 ≤ _), (by decide : 34 + 0 ≤ _)⟩)
  dsimp only [Pt.U, Pt.locs, Pt.cells, Pt.slots] at X7 l7 y7 z7 st7 hQ7
  rw [l7, y7, z7] at X7
  obtain ⟨rfl, Nq7, Kq7⟩ := hQ7
  have N7 := Fr.app N0 Nq7
  obtain ⟨T8, h8, L8, ys8, X8, e8, N8, Kq8, V8, st8⟩ := cpE X7 hx hZ hown (w_212 hw) (w_163 hw) (w_161 hw) (w_162 hw) Kq7 f6 V3 (by decide) (by decide) (by decide) (by decide) N7 (by omega) (g := (mkF m 28 #[vA v_, vI 34, vA b3] [(.int 16), (.int 0), (.ref b3), (.int 0), (.ref v_)])) rfl (by rw [hml]; rfl) rfl (hb hby d119) (by decide) (W := 0) (Nat.le_of_eq rfl) (by decide)
  replace V8 : Arv Z h8 b3 k3 .byte (34 : Int32) ys8 (.int 0) := V8
  have z8' := Kq8.1
  have K8 := K3.trans Kq8 (allS (Or.inr (by omega)) all0)
  have f9 := AE3.keep Kq8
  refine ⟨_, _, _, _, some (.ref b3), X8, by decide, by decide, nofun, ?_, fun fs hr => castTop (ef_6 m v_ (34 : Int32)) ?_⟩
  · show Q_copyOf16 Z v_ kv xs h0 n0 _ T8.heap _
    rw [(e8 : T8.heap = h8)]
    exact ⟨b3, k3, ys8, rfl, N8, K8, (by omega), f9, V8⟩
  · show Steps _ _ _ (s₁.setTop (mkF m 0 #[vA v_, vI 34, .unset] [])) _
    refine XS.iloadN X0.here hx rfl (hb hby d104) rfl ?_
    show Steps _ _ _ (s₁.setTop (mkF m 1 #[vA v_, vI 34, .unset] [(.int 34)])) _
    refine XS.aloadN X0.here hx rfl (hb hby d105) rfl rfl ?_
    show Steps _ _ _ (s₁.setTop (mkF m 2 #[vA v_, vI 34, .unset] [(.ref v_), (.int 34)])) _
    refine X0.arraylength hx (by rw [e0]; exact Ar2.1) (State.isArrayOf_alike hZ.alike Ar2.2.1) (g := (mkF m 2 #[vA v_, vI 34, .unset] [(.ref v_), (.int 34)])) rfl rfl (hb hby d106) _ ?_
    rw [len_of S2 M2]
    show Steps _ _ _ (s₁.setTop (mkF m 3 #[vA v_, vI 34, .unset] [(.int 16), (.int 34)])) _
    refine XS.icmpYes X0.here hx rfl (pc0 := 3) (pc' := 14) rfl (hb hby d107) rfl (feq ((by decide) : ¬ ((34 : Int32) = (16 : Int32)))).2 (by decide) (by decide) ?_
    show Steps _ _ _ (s₁.setTop (mkF m 14 #[vA v_, vI 34, .unset] [])) _
    refine XS.iloadN X0.here hx rfl (hb hby d108) rfl ?_
    show Steps _ _ _ (s₁.setTop (mkF m 15 #[vA v_, vI 34, .unset] [(.int 34)])) _
    refine st3 _ ?_
    show Steps _ _ _ (T3.setTop (mkF m 17 #[vA v_, vI 34, .unset] [(.ref b3)])) _
    refine XS.astoreN X3.here hx rfl (hb hby d110) rfl rfl (l' := #[vA v_, vI 34, vA b3]) rfl ?_
    show Steps _ _ _ (T3.setTop (mkF m 18 #[vA v_, vI 34, vA b3] [])) _
    refine XS.aloadN X3.here hx rfl (hb hby d111) rfl rfl ?_
    show Steps _ _ _ (T3.setTop (mkF m 19 #[vA v_, vI 34, vA b3] [(.ref v_)])) _
    refine XS.iconst X3.here hx rfl (hb hby d112) ?_
    show Steps _ _ _ (T3.setTop (mkF m 20 #[vA v_, vI 34, vA b3] [(.int 0), (.ref v_)])) _
    refine XS.aloadN X3.here hx rfl (hb hby d113) rfl rfl ?_
    show Steps _ _ _ (T3.setTop (mkF m 21 #[vA v_, vI 34, vA b3] [(.ref b3), (.int 0), (.ref v_)])) _
    refine XS.iconst X3.here hx rfl (hb hby d114) ?_
    show Steps _ _ _ (T3.setTop (mkF m 22 #[vA v_, vI 34, vA b3] [(.int 0), (.ref b3), (.int 0), (.ref v_)])) _
    refine XS.aloadN X3.here hx rfl (hb hby d115) rfl rfl ?_
    show Steps _ _ _ (T3.setTop (mkF m 23 #[vA v_, vI 34, vA b3] [(.ref v_), (.int 0), (.ref b3), (.int 0), (.ref v_)])) _
    refine X3.arraylength hx (by rw [e3]; exact Ar5.1) (State.isArrayOf_alike hZ.alike Ar5.2.1) (g := (mkF m 23 #[vA v_, vI 34, vA b3] [(.ref v_), (.int 0), (.ref b3), (.int 0), (.ref v_)])) rfl rfl (hb hby d116) _ ?_
    rw [len_of S5 M5]
    show Steps _ _ _ (T3.setTop (mkF m 24 #[vA v_, vI 34, vA b3] [(.int 16), (.int 0), (.ref b3), (.int 0), (.ref v_)])) _
    refine XS.iloadN X3.here hx rfl (hb hby d117) rfl ?_
    show Steps _ _ _ (T3.setTop (mkF m 25 #[vA v_, vI 34, vA b3] [(.int 34), (.int 16), (.int 0), (.ref b3), (.int 0), (.ref v_)])) _
    refine st7 _ ?_
    show Steps _ _ _ (T7.setTop (mkF m 28 #[vA v_, vI 34, vA b3] [(.int 16), (.int 0), (.ref b3), (.int 0), (.ref v_)])) _
    refine st8 _ ?_
    show Steps _ _ _ (T8.setTop (mkF m 31 #[vA v_, vI 34, vA b3] [])) _
    refine XS.aloadN X8.here hx rfl (hb hby d120) rfl rfl ?_
    show Steps _ _ _ (T8.setTop (mkF m 32 #[vA v_, vI 34, vA b3] [(.ref b3)])) _
    exact retOut X8 hx hret (own_narrow_ref rfl) (Or.inr (Or.inr (Or.inr (Or.inr ⟨rfl, rfl, rfl⟩)))) (hb hby d121) hr
def Q_max34 (Z : State) (y : Int32) (h0 : Heap) (n0 : Nat) (v : Option Value) (h : Heap) (L : List Loc) : Prop := (v = some (.int 36)) ∧ (Fr n0 L) ∧ (h = h0)
theorem rm_max34 (l : Launch) (Z : State) (a0 : Array Value) (hw : HW Z a0) (ws : List Jvm.Cond) (y : Int32) (h0 : Heap) (n0 : Nat) (Z0 : n0 ≤ h0.size) (hy : y < (36 : Int32)) :
    MF l Z m_7 jdk_29_method_65_code 2 (some .int) ws (oR 0 0 0 0) #[(.int y), (.int 36)] h0 (Q_max34 Z y h0 n0) := by
  refine own_body (cls := "java/lang/Math") pn_2 rfl (fun p e s m below meth c s₁ hx hby hml hown hnm hret hZ X0 e0 => ?_)
  have N0 := Fr.nil n0
  refine ⟨_, _, _, _, some (.int 36), X0, by decide, by decide, nofun, ?_, fun fs hr => castTop (ef_3 m y (36 : Int32)) ?_⟩
  · show Q_max34 Z y h0 n0 _ s₁.heap _
    rw [(e0 : s₁.heap = h0)]
    exact ⟨rfl, N0, rfl⟩
  · show Steps _ _ _ (s₁.setTop (mkF m 0 #[vI y, vI 36] [])) _
    refine XS.iloadN X0.here hx rfl (hb hby d48) rfl ?_
    show Steps _ _ _ (s₁.setTop (mkF m 1 #[vI y, vI 36] [(.int y)])) _
    refine XS.iloadN X0.here hx rfl (hb hby d49) rfl ?_
    show Steps _ _ _ (s₁.setTop (mkF m 2 #[vI y, vI 36] [(.int 36), (.int y)])) _
    refine XS.icmpYes X0.here hx rfl (pc0 := 2) (pc' := 9) rfl (hb hby d50) rfl (tlt (hy : y < (36 : Int32))).1 (by decide) (by decide) ?_
    show Steps _ _ _ (s₁.setTop (mkF m 9 #[vI y, vI 36] [])) _
    refine XS.iloadN X0.here hx rfl (hb hby d51) rfl ?_
    show Steps _ _ _ (s₁.setTop (mkF m 10 #[vI y, vI 36] [(.int 36)])) _
    exact retI X0 hx hret (hb hby d52) hr
def Q_newLen34 (Z : State) (y : Int32) (h0 : Heap) (n0 : Nat) (v : Option Value) (h : Heap) (L : List Loc) : Prop := (v = some (.int 70)) ∧ (Fr n0 L) ∧ (h = h0)
theorem rm_newLen34 (l : Launch) (Z : State) (a0 : Array Value) (hw : HW Z a0) (ws : List Jvm.Cond) (y : Int32) (h0 : Heap) (n0 : Nat) (Z0 : n0 ≤ h0.size) (hy : y < (36 : Int32)) :
    MF l Z m_8 jdk_48_method_27_code 4 (some .int) ws (oR 1 0 0 14) #[(.int 34), (.int y), (.int 36)] h0 (Q_newLen34 Z y h0 n0) := by
  refine own_body (cls := "jdk/internal/util/ArraysSupport") (plainFor_of_name pn_3) rfl (fun p e s m below meth c s₁ hx hby hml hown hnm hret hZ X0 e0 => ?_)
  have N0 := Fr.nil n0
  obtain ⟨_, _, ⟨T1, L1, k1, n1⟩, -, X1, ⟨Lc1, hQ1, l1, y1, z1⟩, st1⟩ := Jvm.LawKit.callS X0 hx (y := m_7) hown (mvT hZ (w_199 hw)) (mvT hZ (w_200 hw)) (mvT hZ (w_201 hw)) (mvT hZ (w_202 hw)) (by decide) (backOf (W := 1) (rm_max34 l Z a0 hw [] y h0 n0 (by omega) hy) hZ (w_202 hw) (w_201 hw) (by decide) (by decide)) (g := (mkF m 3 #[vI 34, vI y, vI 36, .unset] [(.int 36), (.int y), (.int 34)])) rfl (by rw [hml]; rfl) (argsL := [(.int y), (.int 36)]) (rest := [(.int 34)]) (lenOf pd_4 rfl) rfl (Nat.le_of_eq rfl) (hb hby d56) (fun _ _ => ⟨rfl, e0, (by decide : 0 + 0 ≤ _), (by decide : 0 + 0 ≤ _)⟩)
  dsimp only [Pt.U, Pt.locs, Pt.cells, Pt.slots] at X1 l1 y1 z1 st1 hQ1
  rw [l1, y1, z1] at X1
  obtain ⟨rfl, Nq1, Kq1⟩ := hQ1
  have N1 := Fr.app N0 Nq1
  refine ⟨_, _, _, _, some (.int 70), X1, by decide, by decide, nofun, ?_, fun fs hr => castTop (ef_4 m (34 : Int32) y (36 : Int32)) ?_⟩
  · show Q_newLen34 Z y h0 n0 _ T1.heap _
    rw [(Kq1 : T1.heap = h0)]
    exact ⟨rfl, N1, rfl⟩
  · show Steps _ _ _ (s₁.setTop (mkF m 0 #[vI 34, vI y, vI 36, .unset] [])) _
    refine XS.iloadN X0.here hx rfl (hb hby d53) rfl ?_
    show Steps _ _ _ (s₁.setTop (mkF m 1 #[vI 34, vI y, vI 36, .unset] [(.int 34)])) _
    refine XS.iloadN X0.here hx rfl (hb hby d54) rfl ?_
    show Steps _ _ _ (s₁.setTop (mkF m 2 #[vI 34, vI y, vI 36, .unset] [(.int y), (.int 34)])) _
    refine XS.iloadN X0.here hx rfl (hb hby d55) rfl ?_
    show Steps _ _ _ (s₁.setTop (mkF m 3 #[vI 34, vI y, vI 36, .unset] [(.int 36), (.int y), (.int 34)])) _
    refine st1 _ ?_
    show Steps _ _ _ (T1.setTop (mkF m 6 #[vI 34, vI y, vI 36, .unset] [(.int 36), (.int 34)])) _
    refine XS.iadd X1.here hx rfl (hb hby d57) rfl ?_
    show Steps _ _ _ (T1.setTop (mkF m 7 #[vI 34, vI y, vI 36, .unset] [(.int 70)])) _
    refine XS.istoreN X1.here hx rfl (hb hby d58) rfl (l' := #[vI 34, vI y, vI 36, vI 70]) rfl ?_
    show Steps _ _ _ (T1.setTop (mkF m 8 #[vI 34, vI y, vI 36, vI 70] [])) _
    refine XS.iconst X1.here hx rfl (hb hby d59) ?_
    show Steps _ _ _ (T1.setTop (mkF m 9 #[vI 34, vI y, vI 36, vI 70] [(.int 0)])) _
    refine XS.iloadN X1.here hx rfl (hb hby d60) rfl ?_
    show Steps _ _ _ (T1.setTop (mkF m 10 #[vI 34, vI y, vI 36, vI 70] [(.int 70), (.int 0)])) _
    refine XS.icmpNo X1.here hx rfl (hb hby d61) rfl (tlt ((by decide) : (0 : Int32) < (70 : Int32))).2.1 ?_
    show Steps _ _ _ (T1.setTop (mkF m 13 #[vI 34, vI y, vI 36, vI 70] [])) _
    refine XS.iloadN X1.here hx rfl (hb hby d62) rfl ?_
    show Steps _ _ _ (T1.setTop (mkF m 14 #[vI 34, vI y, vI 36, vI 70] [(.int 70)])) _
    refine X1.ldcInt hx hown (mvT hZ (w_203 hw)) (g := (mkF m 14 #[vI 34, vI y, vI 36, vI 70] [(.int 70)])) rfl (hb hby d63) _ ?_
    show Steps _ _ _ (T1.setTop (mkF m 16 #[vI 34, vI y, vI 36, vI 70] [(.int 2147483639), (.int 70)])) _
    refine XS.icmpNo X1.here hx rfl (hb hby d64) rfl (flt ((by decide) : ¬ ((2147483639 : Int32) < (70 : Int32)))).2.2.1 ?_
    show Steps _ _ _ (T1.setTop (mkF m 19 #[vI 34, vI y, vI 36, vI 70] [])) _
    refine XS.iloadN X1.here hx rfl (hb hby d65) rfl ?_
    show Steps _ _ _ (T1.setTop (mkF m 20 #[vI 34, vI y, vI 36, vI 70] [(.int 70)])) _
    exact retI X1 hx hret (hb hby d66) hr
def Q_newCap34 (Z : State) (a_ : Addr) (v_ : Addr) (kv : ClassId) (xs : List Value) (mc : Int32) (h0 : Heap) (n0 : Nat) (v : Option Value) (h : Heap) (L : List Loc) : Prop := (v = some (.int 70)) ∧ (Fr n0 L) ∧ (h = h0)
theorem rm_newCap34 (l : Launch) (Z : State) (a0 : Array Value) (hw : HW Z a0) (ws : List Jvm.Cond) (a_ : Addr) (v_ : Addr) (kv : ClassId) (xs : List Value) (mc : Int32) (h0 : Heap) (n0 : Nat) (Z0 : n0 ≤ h0.size) (P0 : fld2 Z h0 a_ (.ref v_)) (P1 : fld3 Z h0 a_ (.int 0)) (P2 : Arv Z h0 v_ kv .byte (34 : Int32) xs (.int 0)) (hy : (mc - (34 : Int32)) < (36 : Int32)) :
    MF l Z m_9 jdk_68_method_10_code 6 (some .int) ws (oR 2 0 0 29) #[(.ref a_), (.int mc)] h0 (Q_newCap34 Z a_ v_ kv xs mc h0 n0) := by
  refine own_body (cls := "java/lang/AbstractStringBuilder") (plainFor_of_name pn_4) rfl (fun p e s m below meth c s₁ hx hby hml hown hnm hret hZ X0 e0 => ?_)
  have N0 := Fr.nil n0
  have lt1 := own_l P0.lt
  have lt2 := own_l P1.lt
  have lt3 := own_l P2.lt
  obtain ⟨T4, X4, e4, st4⟩ := getF X0 hx hZ hown (host := "") (Or.inl (w_113 hw)) Via.refl e0 P0 (g := (mkF m 1 #[vA a_, vI mc, .unset, .unset, .unset, .unset] [(.ref a_)])) rfl rfl (hb hby d68)
  obtain ⟨cl5, Ar5, q5, S5, M5, H5, G5⟩ := id P2
  obtain ⟨T6, X6, e6, st6⟩ := getF X4 hx hZ hown (host := "") (Or.inl (w_115 hw)) Via.refl e4 P1 (g := (mkF m 8 #[vA a_, vI mc, vI 34, .unset, .unset, .unset] [(.ref a_), (.int mc)])) rfl rfl (hb hby d73)
  obtain ⟨T7, X7, e7, st7⟩ := getF X6 hx hZ hown (host := "") (Or.inl (w_115 hw)) Via.refl e6 P1 (g := (mkF m 24 #[vA a_, vI mc, vI 34, vI mc, .val (.int (mc - (34 : Int32))), .unset] [(.ref a_), (.int 2), (.int 34), (.int (mc - (34 : Int32))), (.int 34)])) rfl rfl (hb hby d85)
  obtain ⟨_, _, ⟨T8, L8, k8, n8⟩, -, X8, ⟨Lc8, hQ8, l8, y8, z8⟩, st8⟩ := Jvm.LawKit.callS X7 hx (y := m_8) hown (mvT hZ (w_195 hw)) (mvT hZ (w_196 hw)) (mvT hZ (w_197 hw)) (mvT hZ (w_198 hw)) (by decide) (backOf (W := 0) (rm_newLen34 l Z a0 hw [] ((mc - (34 : Int32))) h0 n0 (by omega) hy) hZ (w_198 hw) (w_197 hw) (by decide) (by decide)) (g := (mkF m 29 #[vA a_, vI mc, vI 34, vI mc, .val (.int (mc - (34 : Int32))), .unset] [(.int 36), (.int (mc - (34 : Int32))), (.int 34)])) rfl (by rw [hml]; rfl) (argsL := [(.int 34), (.int (mc - (34 : Int32))), (.int 36)]) (rest := []) (lenOf pd_5 rfl) rfl (Nat.le_of_eq rfl) (hb hby d88) (fun _ _ => ⟨rfl, e7, (by decide : 0 + 0 ≤ _), (by decide : 0 + 0 ≤ _)⟩)
  dsimp only [Pt.U, Pt.locs, Pt.cells, Pt.slots] at X8 l8 y8 z8 st8 hQ8
  rw [l8, y8, z8] at X8
  obtain ⟨rfl, Nq8, Kq8⟩ := hQ8
  have N8 := Fr.app N0 Nq8
  obtain ⟨T10, X10, e10, st10⟩ := getF X8 hx hZ hown (host := "") (Or.inl (w_115 hw)) Via.refl Kq8 P1 (g := (mkF m 54 #[vA a_, vI mc, vI 34, vI mc, .val (.int (mc - (34 : Int32))), vI 70] [(.ref a_), (.int 70)])) rfl rfl (hb hby d95)
  refine ⟨_, _, _, _, some (.int 70), X10, by decide, by decide, nofun, ?_, fun fs hr => castTop (ef_5 m a_ mc) ?_⟩
  · show Q_newCap34 Z a_ v_ kv xs mc h0 n0 _ T10.heap _
    rw [(e10 : T10.heap = h0)]
    exact ⟨rfl, N8, rfl⟩
  · show Steps _ _ _ (s₁.setTop (mkF m 0 #[vA a_, vI mc, .unset, .unset, .unset, .unset] [])) _
    refine XS.aloadN X0.here hx rfl (hb hby d67) rfl rfl ?_
    show Steps _ _ _ (s₁.setTop (mkF m 1 #[vA a_, vI mc, .unset, .unset, .unset, .unset] [(.ref a_)])) _
    refine st4 _ ?_
    show Steps _ _ _ (T4.setTop (mkF m 4 #[vA a_, vI mc, .unset, .unset, .unset, .unset] [(.ref v_)])) _
    refine X4.arraylength hx (by rw [e4]; exact Ar5.1) (State.isArrayOf_alike hZ.alike Ar5.2.1) (g := (mkF m 4 #[vA a_, vI mc, .unset, .unset, .unset, .unset] [(.ref v_)])) rfl rfl (hb hby d69) _ ?_
    rw [len_of S5 M5]
    show Steps _ _ _ (T4.setTop (mkF m 5 #[vA a_, vI mc, .unset, .unset, .unset, .unset] [(.int 34)])) _
    refine XS.istoreN X4.here hx rfl (hb hby d70) rfl (l' := #[vA a_, vI mc, vI 34, .unset, .unset, .unset]) rfl ?_
    show Steps _ _ _ (T4.setTop (mkF m 6 #[vA a_, vI mc, vI 34, .unset, .unset, .unset] [])) _
    refine XS.iloadN X4.here hx rfl (hb hby d71) rfl ?_
    show Steps _ _ _ (T4.setTop (mkF m 7 #[vA a_, vI mc, vI 34, .unset, .unset, .unset] [(.int mc)])) _
    refine XS.aloadN X4.here hx rfl (hb hby d72) rfl rfl ?_
    show Steps _ _ _ (T4.setTop (mkF m 8 #[vA a_, vI mc, vI 34, .unset, .unset, .unset] [(.ref a_), (.int mc)])) _
    refine st6 _ ?_
    show Steps _ _ _ (T6.setTop (mkF m 11 #[vA a_, vI mc, vI 34, .unset, .unset, .unset] [(.int 0), (.int mc)])) _
    refine XS.ishl X6.here hx rfl (hb hby d74) rfl ?_
    show Steps _ _ _ (T6.setTop (mkF m 12 #[vA a_, vI mc, vI 34, .unset, .unset, .unset] [(.int (mc <<< ((0 : Int32) &&& 31)))])) _
    rw [own_shl0]
    show Steps _ _ _ (T6.setTop (mkF m 12 #[vA a_, vI mc, vI 34, .unset, .unset, .unset] [(.int mc)])) _
    refine XS.istoreN X6.here hx rfl (hb hby d75) rfl (l' := #[vA a_, vI mc, vI 34, vI mc, .unset, .unset]) rfl ?_
    show Steps _ _ _ (T6.setTop (mkF m 13 #[vA a_, vI mc, vI 34, vI mc, .unset, .unset] [])) _
    refine XS.iloadN X6.here hx rfl (hb hby d76) rfl ?_
    show Steps _ _ _ (T6.setTop (mkF m 14 #[vA a_, vI mc, vI 34, vI mc, .unset, .unset] [(.int mc)])) _
    refine XS.iloadN X6.here hx rfl (hb hby d77) rfl ?_
    show Steps _ _ _ (T6.setTop (mkF m 15 #[vA a_, vI mc, vI 34, vI mc, .unset, .unset] [(.int 34), (.int mc)])) _
    refine XS.isub X6.here hx rfl (hb hby d78) rfl ?_
    show Steps _ _ _ (T6.setTop (mkF m 16 #[vA a_, vI mc, vI 34, vI mc, .unset, .unset] [(.int (mc - (34 : Int32)))])) _
    refine XS.istore X6.here hx rfl (hb hby d79) rfl (l' := #[vA a_, vI mc, vI 34, vI mc, .val (.int (mc - (34 : Int32))), .unset]) rfl ?_
    show Steps _ _ _ (T6.setTop (mkF m 18 #[vA a_, vI mc, vI 34, vI mc, .val (.int (mc - (34 : Int32))), .unset] [])) _
    refine XS.iloadN X6.here hx rfl (hb hby d80) rfl ?_
    show Steps _ _ _ (T6.setTop (mkF m 19 #[vA a_, vI mc, vI 34, vI mc, .val (.int (mc - (34 : Int32))), .unset] [(.int 34)])) _
    refine XS.iload X6.here hx rfl (hb hby d81) rfl ?_
    show Steps _ _ _ (T6.setTop (mkF m 21 #[vA a_, vI mc, vI 34, vI mc, .val (.int (mc - (34 : Int32))), .unset] [(.int (mc - (34 : Int32))), (.int 34)])) _
    refine XS.iloadN X6.here hx rfl (hb hby d82) rfl ?_
    show Steps _ _ _ (T6.setTop (mkF m 22 #[vA a_, vI mc, vI 34, vI mc, .val (.int (mc - (34 : Int32))), .unset] [(.int 34), (.int (mc - (34 : Int32))), (.int 34)])) _
    refine XS.iconst X6.here hx rfl (hb hby d83) ?_
    show Steps _ _ _ (T6.setTop (mkF m 23 #[vA a_, vI mc, vI 34, vI mc, .val (.int (mc - (34 : Int32))), .unset] [(.int 2), (.int 34), (.int (mc - (34 : Int32))), (.int 34)])) _
    refine XS.aloadN X6.here hx rfl (hb hby d84) rfl rfl ?_
    show Steps _ _ _ (T6.setTop (mkF m 24 #[vA a_, vI mc, vI 34, vI mc, .val (.int (mc - (34 : Int32))), .unset] [(.ref a_), (.int 2), (.int 34), (.int (mc - (34 : Int32))), (.int 34)])) _
    refine st7 _ ?_
    show Steps _ _ _ (T7.setTop (mkF m 27 #[vA a_, vI mc, vI 34, vI mc, .val (.int (mc - (34 : Int32))), .unset] [(.int 0), (.int 2), (.int 34), (.int (mc - (34 : Int32))), (.int 34)])) _
    refine XS.ishl X7.here hx rfl (hb hby d86) rfl ?_
    show Steps _ _ _ (T7.setTop (mkF m 28 #[vA a_, vI mc, vI 34, vI mc, .val (.int (mc - (34 : Int32))), .unset] [(.int 2), (.int 34), (.int (mc - (34 : Int32))), (.int 34)])) _
    refine XS.iadd X7.here hx rfl (hb hby d87) rfl ?_
    show Steps _ _ _ (T7.setTop (mkF m 29 #[vA a_, vI mc, vI 34, vI mc, .val (.int (mc - (34 : Int32))), .unset] [(.int 36), (.int (mc - (34 : Int32))), (.int 34)])) _
    refine st8 _ ?_
    show Steps _ _ _ (T8.setTop (mkF m 32 #[vA a_, vI mc, vI 34, vI mc, .val (.int (mc - (34 : Int32))), .unset] [(.int 70)])) _
    refine XS.istore X8.here hx rfl (hb hby d89) rfl (l' := #[vA a_, vI mc, vI 34, vI mc, .val (.int (mc - (34 : Int32))), vI 70]) rfl ?_
    show Steps _ _ _ (T8.setTop (mkF m 34 #[vA a_, vI mc, vI 34, vI mc, .val (.int (mc - (34 : Int32))), vI 70] [])) _
    refine XS.iload X8.here hx rfl (hb hby d90) rfl ?_
    show Steps _ _ _ (T8.setTop (mkF m 36 #[vA a_, vI mc, vI 34, vI mc, .val (.int (mc - (34 : Int32))), vI 70] [(.int 70)])) _
    refine X8.ldcInt hx hown (mvT hZ (w_204 hw)) (g := (mkF m 36 #[vA a_, vI mc, vI 34, vI mc, .val (.int (mc - (34 : Int32))), vI 70] [(.int 70)])) rfl (hb hby d91) _ ?_
    show Steps _ _ _ (T8.setTop (mkF m 38 #[vA a_, vI mc, vI 34, vI mc, .val (.int (mc - (34 : Int32))), vI 70] [(.int 2147483647), (.int 70)])) _
    refine XS.icmpYes X8.here hx rfl (pc0 := 38) (pc' := 51) rfl (hb hby d92) rfl (feq ((by decide) : ¬ ((70 : Int32) = (2147483647 : Int32)))).2 (by decide) (by decide) ?_
    show Steps _ _ _ (T8.setTop (mkF m 51 #[vA a_, vI mc, vI 34, vI mc, .val (.int (mc - (34 : Int32))), vI 70] [])) _
    refine XS.iload X8.here hx rfl (hb hby d93) rfl ?_
    show Steps _ _ _ (T8.setTop (mkF m 53 #[vA a_, vI mc, vI 34, vI mc, .val (.int (mc - (34 : Int32))), vI 70] [(.int 70)])) _
    refine XS.aloadN X8.here hx rfl (hb hby d94) rfl rfl ?_
    show Steps _ _ _ (T8.setTop (mkF m 54 #[vA a_, vI mc, vI 34, vI mc, .val (.int (mc - (34 : Int32))), vI 70] [(.ref a_), (.int 70)])) _
    refine st10 _ ?_
    show Steps _ _ _ (T10.setTop (mkF m 57 #[vA a_, vI mc, vI 34, vI mc, .val (.int (mc - (34 : Int32))), vI 70] [(.int 0), (.int 70)])) _
    refine XS.ishr X10.here hx rfl (hb hby d96) rfl ?_
    show Steps _ _ _ (T10.setTop (mkF m 58 #[vA a_, vI mc, vI 34, vI mc, .val (.int (mc - (34 : Int32))), vI 70] [(.int 70)])) _
    exact retI X10 hx hret (hb hby d97) hr
def Q_min34 (Z : State) (h0 : Heap) (n0 : Nat) (v : Option Value) (h : Heap) (L : List Loc) : Prop := (v = some (.int 34)) ∧ (Fr n0 L) ∧ (h = h0)
theorem rm_min34 (l : Launch) (Z : State) (a0 : Array Value) (hw : HW Z a0) (ws : List Jvm.Cond) (h0 : Heap) (n0 : Nat) (Z0 : n0 ≤ h0.size) :
    MF l Z m_10 jdk_29_method_69_code 2 (some .int) ws (oR 0 0 0 0) #[(.int 34), (.int 70)] h0 (Q_min34 Z  h0 n0) := by
  refine own_body (cls := "java/lang/Math") pn_5 rfl (fun p e s m below meth c s₁ hx hby hml hown hnm hret hZ X0 e0 => ?_)
  have N0 := Fr.nil n0
  refine ⟨_, _, _, _, some (.int 34), X0, by decide, by decide, nofun, ?_, fun fs hr => castTop (ef_3 m (34 : Int32) (70 : Int32)) ?_⟩
  · show Q_min34 Z  h0 n0 _ s₁.heap _
    rw [(e0 : s₁.heap = h0)]
    exact ⟨rfl, N0, rfl⟩
  · show Steps _ _ _ (s₁.setTop (mkF m 0 #[vI 34, vI 70] [])) _
    refine XS.iloadN X0.here hx rfl (hb hby d98) rfl ?_
    show Steps _ _ _ (s₁.setTop (mkF m 1 #[vI 34, vI 70] [(.int 34)])) _
    refine XS.iloadN X0.here hx rfl (hb hby d99) rfl ?_
    show Steps _ _ _ (s₁.setTop (mkF m 2 #[vI 34, vI 70] [(.int 70), (.int 34)])) _
    refine XS.icmpNo X0.here hx rfl (hb hby d100) rfl (flt ((by decide) : ¬ ((70 : Int32) < (34 : Int32)))).2.2.1 ?_
    show Steps _ _ _ (s₁.setTop (mkF m 5 #[vI 34, vI 70] [])) _
    refine XS.iloadN X0.here hx rfl (hb hby d101) rfl ?_
    show Steps _ _ _ (s₁.setTop (mkF m 6 #[vI 34, vI 70] [(.int 34)])) _
    refine XS.goto X0.here hx rfl (pc0 := 6) (pc' := 10) rfl (hb hby d102) (by decide) (by decide) ?_
    show Steps _ _ _ (s₁.setTop (mkF m 10 #[vI 34, vI 70] [(.int 34)])) _
    exact retI X0 hx hret (hb hby d103) hr
def Q_copyOf34 (Z : State) (v_ : Addr) (kv : ClassId) (xs : List Value) (h0 : Heap) (n0 : Nat) (v : Option Value) (h : Heap) (L : List Loc) : Prop := ∃ (b : Addr) (k : ClassId) (ys : List Value), (v = some (.ref b)) ∧ (Fr n0 L) ∧ (Keep h0 h []) ∧ (h0.size ≤ b) ∧ (Exa Z h b "[B") ∧ (Arv Z h b k .byte (70 : Int32) ys (.int 0))
theorem rm_copyOf34 (l : Launch) (Z : State) (a0 : Array Value) (hw : HW Z a0) (ws : List Jvm.Cond) (v_ : Addr) (kv : ClassId) (xs : List Value) (h0 : Heap) (n0 : Nat) (Z0 : n0 ≤ h0.size) (P0 : Arv Z h0 v_ kv .byte (34 : Int32) xs (.int 0)) :
    MF l Z m_12 jdk_65_method_121_code 3 (some (.array .byte)) ws (oR 1 1 70 18) #[(.ref v_), (.int 70)] h0 (Q_copyOf34 Z v_ kv xs h0 n0) := by
  refine own_body (cls := "java/util/Arrays") (plainFor_of_name pn_6) rfl (fun p e s m below meth c s₁ hx hby hml hown hnm hret hZ X0 e0 => ?_)
  have N0 := Fr.nil n0
  have K0 := Keep.refl h0 []
  have lt1 := own_l P0.lt
  obtain ⟨cl2, Ar2, q2, S2, M2, H2, G2⟩ := id P0
  obtain ⟨T3, h3, k3, X3, e3, E3, A3, AE3, st3⟩ := newPE X0 hx hZ (aty := .byte) (w_22 hw) e0 (g := (mkF m 15 #[vA v_, vI 70, .unset] [(.int 70)])) rfl (hb hby d109) rfl (by decide) (cap := 70) (by decide) (by decide) (by decide) (by decide) (ad := "[B") (by decide)
  obtain ⟨b3, g3⟩ : ∃ z, z = h0.size := ⟨_, rfl⟩
  rw [← g3] at A3 AE3 st3
  have z3 := E3.1
  have K3 := K0.ext E3
  have V3 : Arv Z h3 b3 k3 .byte (70 : Int32) [] (.int 0) := Arv.new A3 (by decide)
  have lt4 := own_l V3.lt
  have f6 := P0.ext E3
  obtain ⟨cl5, Ar5, q5, S5, M5, H5, G5⟩ := id f6
  obtain ⟨_, _, ⟨T7, L7, k7, n7⟩, -, X7, ⟨Lc7, hQ7, l7, y7, z7⟩, st7⟩ := Jvm.LawKit.callS X3 hx (y := m_10) hown (mvT hZ (w_209 hw)) (mvT hZ (w_210 hw)) (mvT hZ (w_201 hw)) (mvT hZ (w_211 hw)) (by decide) (backOf (W := 4) (rm_min34 l Z a0 hw []  h3 n0 (by omega) ) hZ (w_211 hw) (w_201 hw) (by decide) (by decide)) (g := (mkF m 25 #[vA v_, vI 70, vA b3] [(.int 70), (.int 34), (.int 0), (.ref b3), (.int 0), (.ref v_)])) rfl (by rw [hml]; rfl) (argsL := [(.int 34), (.int 70)]) (rest := [(.int 0), (.ref b3), (.int 0), (.ref v_)]) (lenOf pd_4 rfl) rfl (Nat.le_of_eq rfl) (hb hby d118) (fun _ _ => ⟨rfl, e3, (by decide : 1 + 0 ≤ _), (by decide : 70 + 0 ≤ _)⟩)
  dsimp only [Pt.U, Pt.locs, Pt.cells, Pt.slots] at X7 l7 y7 z7 st7 hQ7
  rw [l7, y7, z7] at X7
  obtain ⟨rfl, Nq7, Kq7⟩ := hQ7
  have N7 := Fr.app N0 Nq7
  obtain ⟨T8, h8, L8, ys8, X8, e8, N8, Kq8, V8, st8⟩ := cpE X7 hx hZ hown (w_212 hw) (w_163 hw) (w_161 hw) (w_162 hw) Kq7 f6 V3 (by decide) (by decide) (by decide) (by decide) N7 (by omega) (g := (mkF m 28 #[vA v_, vI 70, vA b3] [(.int 34), (.int 0), (.ref b3), (.int 0), (.ref v_)])) rfl (by rw [hml]; rfl) rfl (hb hby d119) (by decide) (W := 0) (Nat.le_of_eq rfl) (by decide)
  replace V8 : Arv Z h8 b3 k3 .byte (70 : Int32) ys8 (.int 0) := V8
  have z8' := Kq8.1
  have K8 := K3.trans Kq8 (allS (Or.inr (by omega)) all0)
  have f9 := AE3.keep Kq8
  refine ⟨_, _, _, _, some (.ref b3), X8, by decide, by decide, nofun, ?_, fun fs hr => castTop (ef_6 m v_ (70 : Int32)) ?_⟩
  · show Q_copyOf34 Z v_ kv xs h0 n0 _ T8.heap _
    rw [(e8 : T8.heap = h8)]
    exact ⟨b3, k3, ys8, rfl, N8, K8, (by omega), f9, V8⟩
  · show Steps _ _ _ (s₁.setTop (mkF m 0 #[vA v_, vI 70, .unset] [])) _
    refine XS.iloadN X0.here hx rfl (hb hby d104) rfl ?_
    show Steps _ _ _ (s₁.setTop (mkF m 1 #[vA v_, vI 70, .unset] [(.int 70)])) _
    refine XS.aloadN X0.here hx rfl (hb hby d105) rfl rfl ?_
    show Steps _ _ _ (s₁.setTop (mkF m 2 #[vA v_, vI 70, .unset] [(.ref v_), (.int 70)])) _
    refine X0.arraylength hx (by rw [e0]; exact Ar2.1) (State.isArrayOf_alike hZ.alike Ar2.2.1) (g := (mkF m 2 #[vA v_, vI 70, .unset] [(.ref v_), (.int 70)])) rfl rfl (hb hby d106) _ ?_
    rw [len_of S2 M2]
    show Steps _ _ _ (s₁.setTop (mkF m 3 #[vA v_, vI 70, .unset] [(.int 34), (.int 70)])) _
    refine XS.icmpYes X0.here hx rfl (pc0 := 3) (pc' := 14) rfl (hb hby d107) rfl (feq ((by decide) : ¬ ((70 : Int32) = (34 : Int32)))).2 (by decide) (by decide) ?_
    show Steps _ _ _ (s₁.setTop (mkF m 14 #[vA v_, vI 70, .unset] [])) _
    refine XS.iloadN X0.here hx rfl (hb hby d108) rfl ?_
    show Steps _ _ _ (s₁.setTop (mkF m 15 #[vA v_, vI 70, .unset] [(.int 70)])) _
    refine st3 _ ?_
    show Steps _ _ _ (T3.setTop (mkF m 17 #[vA v_, vI 70, .unset] [(.ref b3)])) _
    refine XS.astoreN X3.here hx rfl (hb hby d110) rfl rfl (l' := #[vA v_, vI 70, vA b3]) rfl ?_
    show Steps _ _ _ (T3.setTop (mkF m 18 #[vA v_, vI 70, vA b3] [])) _
    refine XS.aloadN X3.here hx rfl (hb hby d111) rfl rfl ?_
    show Steps _ _ _ (T3.setTop (mkF m 19 #[vA v_, vI 70, vA b3] [(.ref v_)])) _
    refine XS.iconst X3.here hx rfl (hb hby d112) ?_
    show Steps _ _ _ (T3.setTop (mkF m 20 #[vA v_, vI 70, vA b3] [(.int 0), (.ref v_)])) _
    refine XS.aloadN X3.here hx rfl (hb hby d113) rfl rfl ?_
    show Steps _ _ _ (T3.setTop (mkF m 21 #[vA v_, vI 70, vA b3] [(.ref b3), (.int 0), (.ref v_)])) _
    refine XS.iconst X3.here hx rfl (hb hby d114) ?_
    show Steps _ _ _ (T3.setTop (mkF m 22 #[vA v_, vI 70, vA b3] [(.int 0), (.ref b3), (.int 0), (.ref v_)])) _
    refine XS.aloadN X3.here hx rfl (hb hby d115) rfl rfl ?_
    show Steps _ _ _ (T3.setTop (mkF m 23 #[vA v_, vI 70, vA b3] [(.ref v_), (.int 0), (.ref b3), (.int 0), (.ref v_)])) _
    refine X3.arraylength hx (by rw [e3]; exact Ar5.1) (State.isArrayOf_alike hZ.alike Ar5.2.1) (g := (mkF m 23 #[vA v_, vI 70, vA b3] [(.ref v_), (.int 0), (.ref b3), (.int 0), (.ref v_)])) rfl rfl (hb hby d116) _ ?_
    rw [len_of S5 M5]
    show Steps _ _ _ (T3.setTop (mkF m 24 #[vA v_, vI 70, vA b3] [(.int 34), (.int 0), (.ref b3), (.int 0), (.ref v_)])) _
    refine XS.iloadN X3.here hx rfl (hb hby d117) rfl ?_
    show Steps _ _ _ (T3.setTop (mkF m 25 #[vA v_, vI 70, vA b3] [(.int 70), (.int 34), (.int 0), (.ref b3), (.int 0), (.ref v_)])) _
    refine st7 _ ?_
    show Steps _ _ _ (T7.setTop (mkF m 28 #[vA v_, vI 70, vA b3] [(.int 34), (.int 0), (.ref b3), (.int 0), (.ref v_)])) _
    refine st8 _ ?_
    show Steps _ _ _ (T8.setTop (mkF m 31 #[vA v_, vI 70, vA b3] [])) _
    refine XS.aloadN X8.here hx rfl (hb hby d120) rfl rfl ?_
    show Steps _ _ _ (T8.setTop (mkF m 32 #[vA v_, vI 70, vA b3] [(.ref b3)])) _
    exact retOut X8 hx hret (own_narrow_ref rfl) (Or.inr (Or.inr (Or.inr (Or.inr ⟨rfl, rfl, rfl⟩)))) (hb hby d121) hr
theorem d122 : decode jdk_68_method_9_code 0 = .ok (.aload_n 0, 1) := by decide +kernel
theorem d123 : decode jdk_68_method_9_code 1 = .ok (.getfield 15, 3) := by decide +kernel
theorem d124 : decode jdk_68_method_9_code 4 = .ok (.arraylength, 1) := by decide +kernel
theorem d125 : decode jdk_68_method_9_code 5 = .ok (.aload_n 0, 1) := by decide +kernel
theorem d126 : decode jdk_68_method_9_code 6 = .ok (.getfield 22, 3) := by decide +kernel
theorem d127 : decode jdk_68_method_9_code 9 = .ok (.ishr, 1) := by decide +kernel
theorem d128 : decode jdk_68_method_9_code 10 = .ok (.istore_n 2, 1) := by decide +kernel
theorem d129 : decode jdk_68_method_9_code 11 = .ok (.iload_n 1, 1) := by decide +kernel
theorem d130 : decode jdk_68_method_9_code 12 = .ok (.iload_n 2, 1) := by decide +kernel
theorem d131 : decode jdk_68_method_9_code 13 = .ok (.isub, 1) := by decide +kernel
theorem d132 : decode jdk_68_method_9_code 14 = .ok (.ifCond .le 24, 3) := by decide +kernel
theorem d133 : decode jdk_68_method_9_code 38 = .ok (.return_, 1) := by decide +kernel
theorem d134 : decode jdk_68_method_9_code 17 = .ok (.aload_n 0, 1) := by decide +kernel
theorem d135 : decode jdk_68_method_9_code 18 = .ok (.aload_n 0, 1) := by decide +kernel
theorem d136 : decode jdk_68_method_9_code 19 = .ok (.getfield 15, 3) := by decide +kernel
theorem d137 : decode jdk_68_method_9_code 22 = .ok (.aload_n 0, 1) := by decide +kernel
theorem d138 : decode jdk_68_method_9_code 23 = .ok (.iload_n 1, 1) := by decide +kernel
theorem w_190 {Z : State} {a0 : Array Value} (hw : HW Z a0) : (Jvm.Cond.methodLink "java/lang/AbstractStringBuilder" (104 : Nat) m_9).before a0 Z = true := hw _ (List.mem_of_getElem? (i := 190) rfl)
theorem w_194 {Z : State} {a0 : Array Value} (hw : HW Z a0) : (Jvm.Cond.code m_9 jdk_68_method_10_code (6 : Nat) (Option.some FieldType.int)).before a0 Z = true := hw _ (List.mem_of_getElem? (i := 194) rfl)
theorem w_109 {Z : State} {a0 : Array Value} (hw : HW Z a0) : (Jvm.Cond.initialized "java/lang/AbstractStringBuilder").before a0 Z = true := hw _ (List.mem_of_getElem? (i := 109) rfl)
theorem pd_6 : parseMethodDescriptor "(I)I" = some ⟨[.int], some .int⟩ := by decide +kernel
theorem d139 : decode jdk_68_method_9_code 24 = .ok (.invokevirtual 104, 3) := by decide +kernel
theorem w_191 {Z : State} {a0 : Array Value} (hw : HW Z a0) : (Jvm.Cond.instanceMethod m_9).before a0 Z = true := hw _ (List.mem_of_getElem? (i := 191) rfl)
theorem w_192 {Z : State} {a0 : Array Value} (hw : HW Z a0) : (Jvm.Cond.privateMethod m_9).before a0 Z = true := hw _ (List.mem_of_getElem? (i := 192) rfl)
theorem w_193 {Z : State} {a0 : Array Value} (hw : HW Z a0) : (Jvm.Cond.selects "java/lang/StringBuilder" m_9 m_9).before a0 Z = true := hw _ (List.mem_of_getElem? (i := 193) rfl)
theorem d140 : decode jdk_68_method_9_code 27 = .ok (.aload_n 0, 1) := by decide +kernel
theorem d141 : decode jdk_68_method_9_code 28 = .ok (.getfield 22, 3) := by decide +kernel
theorem d142 : decode jdk_68_method_9_code 31 = .ok (.ishl, 1) := by decide +kernel
theorem w_205 {Z : State} {a0 : Array Value} (hw : HW Z a0) : (Jvm.Cond.methodLink "java/lang/AbstractStringBuilder" (108 : Nat) m_12).before a0 Z = true := hw _ (List.mem_of_getElem? (i := 205) rfl)
theorem w_208 {Z : State} {a0 : Array Value} (hw : HW Z a0) : (Jvm.Cond.code m_12 jdk_65_method_121_code (3 : Nat) (Option.some (FieldType.array FieldType.byte))).before a0 Z = true := hw _ (List.mem_of_getElem? (i := 208) rfl)
theorem w_207 {Z : State} {a0 : Array Value} (hw : HW Z a0) : (Jvm.Cond.initialized "java/util/Arrays").before a0 Z = true := hw _ (List.mem_of_getElem? (i := 207) rfl)
theorem pd_7 : parseMethodDescriptor "([BI)[B" = some ⟨[(.array .byte), .int], some (.array .byte)⟩ := by decide +kernel
theorem d143 : decode jdk_68_method_9_code 32 = .ok (.invokestatic 108, 3) := by decide +kernel
theorem w_206 {Z : State} {a0 : Array Value} (hw : HW Z a0) : (Jvm.Cond.static m_12).before a0 Z = true := hw _ (List.mem_of_getElem? (i := 206) rfl)
theorem w_114 {Z : State} {a0 : Array Value} (hw : HW Z a0) : (Jvm.Cond.lays "java/lang/StringBuilder" "java/lang/AbstractStringBuilder" "value" "[B").before a0 Z = true := hw _ (List.mem_of_getElem? (i := 114) rfl)
theorem w_100 {Z : State} {a0 : Array Value} (hw : HW Z a0) : (Jvm.Cond.instantiable "java/lang/StringBuilder" (4 : Nat)).before a0 Z = true := hw _ (List.mem_of_getElem? (i := 100) rfl)
theorem d144 : decode jdk_68_method_9_code 35 = .ok (.putfield 15, 3) := by decide +kernel
abbrev m_13 : MethodName := (⟨"java/lang/AbstractStringBuilder", "ensureCapacityInternal", "(I)V"⟩ : MethodName)
def Q_ens (Z : State) (a_ : Addr) (v_ : Addr) (kv : ClassId) (N : Int32) (cnt : Int32) (xs : List Value) (mc : Int32) (h0 : Heap) (n0 : Nat) (v : Option Value) (h : Heap) (L : List Loc) : Prop := ∃ (b : Addr) (k : ClassId) (N2 : Int32) (ys : List Value), (v = none) ∧ (Fr n0 L) ∧ (Keep h0 h [a_]) ∧ (Exa Z h a_ "java/lang/StringBuilder") ∧ (fld3 Z h a_ (.int 0)) ∧ (fld4 Z h a_ (.int cnt)) ∧ (fld2 Z h a_ (.ref b)) ∧ (Exa Z h b "[B") ∧ (Arv Z h b k .byte N2 ys (.int 0)) ∧ (oN N2) ∧ (mc.toInt ≤ N2.toInt) ∧ (b = v_ ∨ h0.size ≤ b) ∧ (n0 ≤ b) ∧ (a_ ≠ b)
theorem rm_ens_n (l : Launch) (Z : State) (a0 : Array Value) (hw : HW Z a0) (ws : List Jvm.Cond) (a_ : Addr) (v_ : Addr) (kv : ClassId) (N : Int32) (cnt : Int32) (xs : List Value) (mc : Int32) (h0 : Heap) (n0 : Nat) (Z0 : n0 ≤ h0.size) (P0 : Exa Z h0 a_ "java/lang/StringBuilder") (P1 : fld2 Z h0 a_ (.ref v_)) (P2 : Exa Z h0 v_ "[B") (P3 : fld3 Z h0 a_ (.int 0)) (P4 : fld4 Z h0 a_ (.int cnt)) (P5 : Arv Z h0 v_ kv .byte N xs (.int 0)) (P6 : n0 ≤ a_) (P7 : n0 ≤ v_) (P8 : a_ ≠ v_) (hN : oN N) (hm : 0 ≤ mc.toInt ∧ mc.toInt ≤ 39 ∧ mc.toInt ≤ N.toInt + 17) (hc14 : ¬ ((0 : Int32) < (mc - N))) :
    MF l Z m_13 jdk_68_method_9_code 3 none ws (oR 3 1 70 48) #[(.ref a_), (.int mc)] h0 (Q_ens Z a_ v_ kv N cnt xs mc h0 n0) := by
  refine own_body (cls := "java/lang/AbstractStringBuilder") (plainFor_of_name pn_4) rfl (fun p e s m below meth c s₁ hx hby hml hown hnm hret hZ X0 e0 => ?_)
  have N0 := Fr.nil n0
  have K0 := Keep.refl h0 [a_]
  have lt1 := own_l P0.lt
  have lt2 := own_l P1.lt
  have lt3 := own_l P2.lt
  have lt4 := own_l P3.lt
  have lt5 := own_l P4.lt
  have lt6 := own_l P5.lt
  obtain ⟨T7, X7, e7, st7⟩ := getF X0 hx hZ hown (host := "") (Or.inl (w_113 hw)) Via.refl e0 P1 (g := (mkF m 1 #[vA a_, vI mc, .unset] [(.ref a_)])) rfl rfl (hb hby d123)
  obtain ⟨cl8, Ar8, q8, S8, M8, H8, G8⟩ := id P5
  obtain ⟨T9, X9, e9, st9⟩ := getF X7 hx hZ hown (host := "") (Or.inl (w_115 hw)) Via.refl e7 P3 (g := (mkF m 6 #[vA a_, vI mc, .unset] [(.ref a_), (.int N)])) rfl rfl (hb hby d126)
  refine ⟨_, _, _, _, none, X9, by decide, by decide, fun _ => rfl, ?_, fun fs hr => castTop (ef_6 m a_ mc) ?_⟩
  · show Q_ens Z a_ v_ kv N cnt xs mc h0 n0 _ T9.heap _
    rw [(e9 : T9.heap = h0)]
    exact ⟨v_, kv, N, xs, rfl, N0, K0, P0, P3, P4, P1, P2, P5, hN, (own_ng hN hm hc14), (Or.inl rfl), (by omega), (fun q => P8 q)⟩
  · show Steps _ _ _ (s₁.setTop (mkF m 0 #[vA a_, vI mc, .unset] [])) _
    refine XS.aloadN X0.here hx rfl (hb hby d122) rfl rfl ?_
    show Steps _ _ _ (s₁.setTop (mkF m 1 #[vA a_, vI mc, .unset] [(.ref a_)])) _
    refine st7 _ ?_
    show Steps _ _ _ (T7.setTop (mkF m 4 #[vA a_, vI mc, .unset] [(.ref v_)])) _
    refine X7.arraylength hx (by rw [e7]; exact Ar8.1) (State.isArrayOf_alike hZ.alike Ar8.2.1) (g := (mkF m 4 #[vA a_, vI mc, .unset] [(.ref v_)])) rfl rfl (hb hby d124) _ ?_
    rw [len_of S8 M8]
    show Steps _ _ _ (T7.setTop (mkF m 5 #[vA a_, vI mc, .unset] [(.int N)])) _
    refine XS.aloadN X7.here hx rfl (hb hby d125) rfl rfl ?_
    show Steps _ _ _ (T7.setTop (mkF m 6 #[vA a_, vI mc, .unset] [(.ref a_), (.int N)])) _
    refine st9 _ ?_
    show Steps _ _ _ (T9.setTop (mkF m 9 #[vA a_, vI mc, .unset] [(.int 0), (.int N)])) _
    refine XS.ishr X9.here hx rfl (hb hby d127) rfl ?_
    show Steps _ _ _ (T9.setTop (mkF m 10 #[vA a_, vI mc, .unset] [(.int (N >>> ((0 : Int32) &&& 31)))])) _
    rw [own_shr0]
    show Steps _ _ _ (T9.setTop (mkF m 10 #[vA a_, vI mc, .unset] [(.int N)])) _
    refine XS.istoreN X9.here hx rfl (hb hby d128) rfl (l' := #[vA a_, vI mc, vI N]) rfl ?_
    show Steps _ _ _ (T9.setTop (mkF m 11 #[vA a_, vI mc, vI N] [])) _
    refine XS.iloadN X9.here hx rfl (hb hby d129) rfl ?_
    show Steps _ _ _ (T9.setTop (mkF m 12 #[vA a_, vI mc, vI N] [(.int mc)])) _
    refine XS.iloadN X9.here hx rfl (hb hby d130) rfl ?_
    show Steps _ _ _ (T9.setTop (mkF m 13 #[vA a_, vI mc, vI N] [(.int N), (.int mc)])) _
    refine XS.isub X9.here hx rfl (hb hby d131) rfl ?_
    show Steps _ _ _ (T9.setTop (mkF m 14 #[vA a_, vI mc, vI N] [(.int (mc - N))])) _
    refine XS.ifYes X9.here hx rfl (pc0 := 14) (pc' := 38) rfl (hb hby d132) rfl ((if0 _ _).trans (flt (hc14 : ¬ ((0 : Int32) < (mc - N)))).2.2.2) (by decide) (by decide) ?_
    show Steps _ _ _ (T9.setTop (mkF m 38 #[vA a_, vI mc, vI N] [])) _
    exact X9.returnOut hx hret (hb hby d133) hr
theorem w_116 {Z : State} {a0 : Array Value} (hw : HW Z a0) : (Jvm.Cond.lays "java/lang/StringBuilder" "java/lang/AbstractStringBuilder" "coder" "B").before a0 Z = true := hw _ (List.mem_of_getElem? (i := 116) rfl)
theorem w_138 {Z : State} {a0 : Array Value} (hw : HW Z a0) : (Jvm.Cond.lays "java/lang/StringBuilder" "java/lang/AbstractStringBuilder" "count" "I").before a0 Z = true := hw _ (List.mem_of_getElem? (i := 138) rfl)
theorem rm_ens_16 (l : Launch) (Z : State) (a0 : Array Value) (hw : HW Z a0) (ws : List Jvm.Cond) (a_ : Addr) (v_ : Addr) (kv : ClassId) (cnt : Int32) (xs : List Value) (mc : Int32) (h0 : Heap) (n0 : Nat) (Z0 : n0 ≤ h0.size) (P0 : Exa Z h0 a_ "java/lang/StringBuilder") (P1 : fld2 Z h0 a_ (.ref v_)) (P2 : Exa Z h0 v_ "[B") (P3 : fld3 Z h0 a_ (.int 0)) (P4 : fld4 Z h0 a_ (.int cnt)) (P5 : Arv Z h0 v_ kv .byte (16 : Int32) xs (.int 0)) (P6 : n0 ≤ a_) (P7 : n0 ≤ v_) (P8 : a_ ≠ v_) (hm : 0 ≤ mc.toInt ∧ mc.toInt ≤ 39 ∧ mc.toInt ≤ (16 : Int32).toInt + 17) (hg : (0 : Int32) < (mc - (16 : Int32))) :
    MF l Z m_13 jdk_68_method_9_code 3 none ws (oR 3 1 70 48) #[(.ref a_), (.int mc)] h0 (Q_ens Z a_ v_ kv (16 : Int32) cnt xs mc h0 n0) := by
  refine own_body (cls := "java/lang/AbstractStringBuilder") (plainFor_of_name pn_4) rfl (fun p e s m below meth c s₁ hx hby hml hown hnm hret hZ X0 e0 => ?_)
  have N0 := Fr.nil n0
  have K0 := Keep.refl h0 [a_]
  have lt1 := own_l P0.lt
  have lt2 := own_l P1.lt
  have lt3 := own_l P2.lt
  have lt4 := own_l P3.lt
  have lt5 := own_l P4.lt
  have lt6 := own_l P5.lt
  obtain ⟨T7, X7, e7, st7⟩ := getF X0 hx hZ hown (host := "") (Or.inl (w_113 hw)) Via.refl e0 P1 (g := (mkF m 1 #[vA a_, vI mc, .unset] [(.ref a_)])) rfl rfl (hb hby d123)
  obtain ⟨cl8, Ar8, q8, S8, M8, H8, G8⟩ := id P5
  obtain ⟨T9, X9, e9, st9⟩ := getF X7 hx hZ hown (host := "") (Or.inl (w_115 hw)) Via.refl e7 P3 (g := (mkF m 6 #[vA a_, vI mc, .unset] [(.ref a_), (.int 16)])) rfl rfl (hb hby d126)
  obtain ⟨T10, X10, e10, st10⟩ := getF X9 hx hZ hown (host := "") (Or.inl (w_113 hw)) Via.refl e9 P1 (g := (mkF m 19 #[vA a_, vI mc, vI 16] [(.ref a_), (.ref a_)])) rfl rfl (hb hby d136)
  obtain ⟨cq11, kq11, qa11, qb11, qc11⟩ := isOf hZ e10 P0
  obtain ⟨cc11, ca11, cb11⟩ := P0.cell
  obtain ⟨_, _, ⟨T11, L11, k11, n11⟩, -, X11, ⟨Lc11, hQ11, l11, y11, z11⟩, st11⟩ := X10.privateBack hx (y := m_9) hown (mvT hZ (w_190 hw)) (mvT hZ (w_191 hw)) (mvT hZ (own_selOwn (by decide) (w_191 hw) (Cond.privateMethod_at (w_192 hw)) (w_193 hw))) (Cond.privateMethod_at (mvP hZ (w_192 hw) (args := #[]))) (mvT hZ (w_194 hw)) (by decide) (backOf (W := 2) (rm_newCap16 l Z a0 hw [] a_ v_ kv xs mc h0 n0 (by omega) P1 P3 P5 (own_g16 hm)) hZ (w_194 hw) (w_109 hw) (by decide) (by decide)) (g := (mkF m 24 #[vA a_, vI mc, vI 16] [(.int mc), (.ref a_), (.ref v_), (.ref a_)])) rfl (by rw [hml]; rfl) (Steps.refl _) (a := a_) (cell := cc11) (by rw [e10]; exact ca11) cb11 (argsL := [(.int mc)]) (rest := [(.ref v_), (.ref a_)]) (lenOf pd_6 rfl) rfl (Nat.le_of_eq rfl) (hb hby d139) (fun _ _ => ⟨rfl, e10, (by decide : 0 + 0 ≤ _), (by decide : 0 + 0 ≤ _)⟩)
  dsimp only [Pt.U, Pt.locs, Pt.cells, Pt.slots] at X11 l11 y11 z11 st11 hQ11
  rw [l11, y11, z11] at X11
  obtain ⟨rfl, Nq11, Kq11⟩ := hQ11
  have N11 := Fr.app N0 Nq11
  obtain ⟨T12, X12, e12, st12⟩ := getF X11 hx hZ hown (host := "") (Or.inl (w_115 hw)) Via.refl Kq11 P3 (g := (mkF m 28 #[vA a_, vI mc, vI 16] [(.ref a_), (.int 34), (.ref v_), (.ref a_)])) rfl rfl (hb hby d141)
  obtain ⟨_, _, ⟨T13, L13, k13, n13⟩, -, X13, ⟨Lc13, hQ13, l13, y13, z13⟩, st13⟩ := Jvm.LawKit.callS X12 hx (y := m_12) hown (mvT hZ (w_205 hw)) (mvT hZ (w_206 hw)) (mvT hZ (w_207 hw)) (mvT hZ (w_208 hw)) (by decide) (backOf (W := 1) (rm_copyOf16 l Z a0 hw [] v_ kv xs h0 n0 (by omega) P5) hZ (w_208 hw) (w_207 hw) (by decide) (by decide)) (g := (mkF m 32 #[vA a_, vI mc, vI 16] [(.int 34), (.ref v_), (.ref a_)])) rfl (by rw [hml]; rfl) (argsL := [(.ref v_), (.int 34)]) (rest := [(.ref a_)]) (lenOf pd_7 rfl) rfl (Nat.le_of_eq rfl) (hb hby d143) (fun _ _ => ⟨rfl, e12, (by decide : 0 + 1 ≤ _), (by decide : 0 + 34 ≤ _)⟩)
  dsimp only [Pt.U, Pt.locs, Pt.cells, Pt.slots] at X13 l13 y13 z13 st13 hQ13
  rw [l13, y13, z13] at X13
  obtain ⟨x13_b, x13_k, x13_ys, rfl, Nq13, Kq13, r13_0, r13_1, r13_2⟩ := hQ13
  have N13 := Fr.app N11 Nq13
  have z13' := Kq13.1
  have K13 := K0.trans Kq13 all0
  have lt14 := own_l r13_1.lt
  have lt15 := own_l r13_2.lt
  have f17 := P1.keep Kq13 nin0
  have f18 := P0.keep Kq13
  obtain ⟨T16, h16, X16, e16, W16, st16⟩ := putF X13 hx hZ hown (host := "") (Or.inl (w_113 hw)) Via.refl rfl f17 f18 (Or.inl (w_114 hw)) (w_100 hw) (ty := (.array .byte)) (by decide) rfl rfl (g := (mkF m 35 #[vA a_, vI mc, vI 16] [(.ref x13_b), (.ref a_)])) rfl rfl (hb hby d144)
  have F16 := f17.same W16
  have z16 := W16.size
  have K16 := K13.wr W16 (Or.inl (List.mem_of_getElem? (i := 0) rfl))
  have N16 := Fr.snoc X16 N13 (by omega)
  have f19 := f18.wr W16
  have f20 := P3.keep Kq13 nin0
  have f21 := f20.other W16 (Or.inr (slot_ne (a0 := a0) (t := .byte) (t' := (.array .byte)) (Or.inl (w_116 hw)) (Or.inl (w_114 hw)) (by decide) (by decide) (by decide)))
  have f22 := P4.keep Kq13 nin0
  have f23 := f22.other W16 (Or.inr (slot_ne (a0 := a0) (t := .int) (t' := (.array .byte)) (Or.inl (w_138 hw)) (Or.inl (w_114 hw)) (by decide) (by decide) (by decide)))
  have f24 := r13_1.wr W16
  have f25 := r13_2.other W16 (own_ne (by omega))
  refine ⟨_, _, _, _, none, X16, by decide, by decide, fun _ => rfl, ?_, fun fs hr => castTop (ef_6 m a_ mc) ?_⟩
  · show Q_ens Z a_ v_ kv (16 : Int32) cnt xs mc h0 n0 _ T16.heap _
    rw [(e16 : T16.heap = h16)]
    exact ⟨x13_b, x13_k, (34 : Int32), x13_ys, rfl, N16, K16, f19, f21, f23, F16, f24, f25, (by decide), (own_p34 hm), (Or.inr (by omega)), (by omega), (own_ne (by omega))⟩
  · show Steps _ _ _ (s₁.setTop (mkF m 0 #[vA a_, vI mc, .unset] [])) _
    refine XS.aloadN X0.here hx rfl (hb hby d122) rfl rfl ?_
    show Steps _ _ _ (s₁.setTop (mkF m 1 #[vA a_, vI mc, .unset] [(.ref a_)])) _
    refine st7 _ ?_
    show Steps _ _ _ (T7.setTop (mkF m 4 #[vA a_, vI mc, .unset] [(.ref v_)])) _
    refine X7.arraylength hx (by rw [e7]; exact Ar8.1) (State.isArrayOf_alike hZ.alike Ar8.2.1) (g := (mkF m 4 #[vA a_, vI mc, .unset] [(.ref v_)])) rfl rfl (hb hby d124) _ ?_
    rw [len_of S8 M8]
    show Steps _ _ _ (T7.setTop (mkF m 5 #[vA a_, vI mc, .unset] [(.int 16)])) _
    refine XS.aloadN X7.here hx rfl (hb hby d125) rfl rfl ?_
    show Steps _ _ _ (T7.setTop (mkF m 6 #[vA a_, vI mc, .unset] [(.ref a_), (.int 16)])) _
    refine st9 _ ?_
    show Steps _ _ _ (T9.setTop (mkF m 9 #[vA a_, vI mc, .unset] [(.int 0), (.int 16)])) _
    refine XS.ishr X9.here hx rfl (hb hby d127) rfl ?_
    show Steps _ _ _ (T9.setTop (mkF m 10 #[vA a_, vI mc, .unset] [(.int 16)])) _
    refine XS.istoreN X9.here hx rfl (hb hby d128) rfl (l' := #[vA a_, vI mc, vI 16]) rfl ?_
    show Steps _ _ _ (T9.setTop (mkF m 11 #[vA a_, vI mc, vI 16] [])) _
    refine XS.iloadN X9.here hx rfl (hb hby d129) rfl ?_
    show Steps _ _ _ (T9.setTop (mkF m 12 #[vA a_, vI mc, vI 16] [(.int mc)])) _
    refine XS.iloadN X9.here hx rfl (hb hby d130) rfl ?_
    show Steps _ _ _ (T9.setTop (mkF m 13 #[vA a_, vI mc, vI 16] [(.int 16), (.int mc)])) _
    refine XS.isub X9.here hx rfl (hb hby d131) rfl ?_
    show Steps _ _ _ (T9.setTop (mkF m 14 #[vA a_, vI mc, vI 16] [(.int (mc - (16 : Int32)))])) _
    refine XS.ifNo X9.here hx rfl (hb hby d132) rfl ((if0 _ _).trans (tlt (hg : (0 : Int32) < (mc - (16 : Int32)))).2.2.2) ?_
    show Steps _ _ _ (T9.setTop (mkF m 17 #[vA a_, vI mc, vI 16] [])) _
    refine XS.aloadN X9.here hx rfl (hb hby d134) rfl rfl ?_
    show Steps _ _ _ (T9.setTop (mkF m 18 #[vA a_, vI mc, vI 16] [(.ref a_)])) _
    refine XS.aloadN X9.here hx rfl (hb hby d135) rfl rfl ?_
    show Steps _ _ _ (T9.setTop (mkF m 19 #[vA a_, vI mc, vI 16] [(.ref a_), (.ref a_)])) _
    refine st10 _ ?_
    show Steps _ _ _ (T10.setTop (mkF m 22 #[vA a_, vI mc, vI 16] [(.ref v_), (.ref a_)])) _
    refine XS.aloadN X10.here hx rfl (hb hby d137) rfl rfl ?_
    show Steps _ _ _ (T10.setTop (mkF m 23 #[vA a_, vI mc, vI 16] [(.ref a_), (.ref v_), (.ref a_)])) _
    refine XS.iloadN X10.here hx rfl (hb hby d138) rfl ?_
    show Steps _ _ _ (T10.setTop (mkF m 24 #[vA a_, vI mc, vI 16] [(.int mc), (.ref a_), (.ref v_), (.ref a_)])) _
    refine st11.trans ?_
    show Steps _ _ _ (T11.setTop (mkF m 27 #[vA a_, vI mc, vI 16] [(.int 34), (.ref v_), (.ref a_)])) _
    refine XS.aloadN X11.here hx rfl (hb hby d140) rfl rfl ?_
    show Steps _ _ _ (T11.setTop (mkF m 28 #[vA a_, vI mc, vI 16] [(.ref a_), (.int 34), (.ref v_), (.ref a_)])) _
    refine st12 _ ?_
    show Steps _ _ _ (T12.setTop (mkF m 31 #[vA a_, vI mc, vI 16] [(.int 0), (.int 34), (.ref v_), (.ref a_)])) _
    refine XS.ishl X12.here hx rfl (hb hby d142) rfl ?_
    show Steps _ _ _ (T12.setTop (mkF m 32 #[vA a_, vI mc, vI 16] [(.int 34), (.ref v_), (.ref a_)])) _
    refine st13 _ ?_
    show Steps _ _ _ (T13.setTop (mkF m 35 #[vA a_, vI mc, vI 16] [(.ref x13_b), (.ref a_)])) _
    refine st16 _ ?_
    show Steps _ _ _ (T16.setTop (mkF m 38 #[vA a_, vI mc, vI 16] [])) _
    exact X16.returnOut hx hret (hb hby d133) hr
theorem rm_ens_34 (l : Launch) (Z : State) (a0 : Array Value) (hw : HW Z a0) (ws : List Jvm.Cond) (a_ : Addr) (v_ : Addr) (kv : ClassId) (cnt : Int32) (xs : List Value) (mc : Int32) (h0 : Heap) (n0 : Nat) (Z0 : n0 ≤ h0.size) (P0 : Exa Z h0 a_ "java/lang/StringBuilder") (P1 : fld2 Z h0 a_ (.ref v_)) (P2 : Exa Z h0 v_ "[B") (P3 : fld3 Z h0 a_ (.int 0)) (P4 : fld4 Z h0 a_ (.int cnt)) (P5 : Arv Z h0 v_ kv .byte (34 : Int32) xs (.int 0)) (P6 : n0 ≤ a_) (P7 : n0 ≤ v_) (P8 : a_ ≠ v_) (hm : 0 ≤ mc.toInt ∧ mc.toInt ≤ 39 ∧ mc.toInt ≤ (34 : Int32).toInt + 17) (hg : (0 : Int32) < (mc - (34 : Int32))) :
    MF l Z m_13 jdk_68_method_9_code 3 none ws (oR 3 1 70 48) #[(.ref a_), (.int mc)] h0 (Q_ens Z a_ v_ kv (34 : Int32) cnt xs mc h0 n0) := by
  refine own_body (cls := "java/lang/AbstractStringBuilder") (plainFor_of_name pn_4) rfl (fun p e s m below meth c s₁ hx hby hml hown hnm hret hZ X0 e0 => ?_)
  have N0 := Fr.nil n0
  have K0 := Keep.refl h0 [a_]
  have lt1 := own_l P0.lt
  have lt2 := own_l P1.lt
  have lt3 := own_l P2.lt
  have lt4 := own_l P3.lt
  have lt5 := own_l P4.lt
  have lt6 := own_l P5.lt
  obtain ⟨T7, X7, e7, st7⟩ := getF X0 hx hZ hown (host := "") (Or.inl (w_113 hw)) Via.refl e0 P1 (g := (mkF m 1 #[vA a_, vI mc, .unset] [(.ref a_)])) rfl rfl (hb hby d123)
  obtain ⟨cl8, Ar8, q8, S8, M8, H8, G8⟩ := id P5
  obtain ⟨T9, X9, e9, st9⟩ := getF X7 hx hZ hown (host := "") (Or.inl (w_115 hw)) Via.refl e7 P3 (g := (mkF m 6 #[vA a_, vI mc, .unset] [(.ref a_), (.int 34)])) rfl rfl (hb hby d126)
  obtain ⟨T10, X10, e10, st10⟩ := getF X9 hx hZ hown (host := "") (Or.inl (w_113 hw)) Via.refl e9 P1 (g := (mkF m 19 #[vA a_, vI mc, vI 34] [(.ref a_), (.ref a_)])) rfl rfl (hb hby d136)
  obtain ⟨cq11, kq11, qa11, qb11, qc11⟩ := isOf hZ e10 P0
  obtain ⟨cc11, ca11, cb11⟩ := P0.cell
  obtain ⟨_, _, ⟨T11, L11, k11, n11⟩, -, X11, ⟨Lc11, hQ11, l11, y11, z11⟩, st11⟩ := X10.privateBack hx (y := m_9) hown (mvT hZ (w_190 hw)) (mvT hZ (w_191 hw)) (mvT hZ (own_selOwn (by decide) (w_191 hw) (Cond.privateMethod_at (w_192 hw)) (w_193 hw))) (Cond.privateMethod_at (mvP hZ (w_192 hw) (args := #[]))) (mvT hZ (w_194 hw)) (by decide) (backOf (W := 2) (rm_newCap34 l Z a0 hw [] a_ v_ kv xs mc h0 n0 (by omega) P1 P3 P5 (own_g34 hm)) hZ (w_194 hw) (w_109 hw) (by decide) (by decide)) (g := (mkF m 24 #[vA a_, vI mc, vI 34] [(.int mc), (.ref a_), (.ref v_), (.ref a_)])) rfl (by rw [hml]; rfl) (Steps.refl _) (a := a_) (cell := cc11) (by rw [e10]; exact ca11) cb11 (argsL := [(.int mc)]) (rest := [(.ref v_), (.ref a_)]) (lenOf pd_6 rfl) rfl (Nat.le_of_eq rfl) (hb hby d139) (fun _ _ => ⟨rfl, e10, (by decide : 0 + 0 ≤ _), (by decide : 0 + 0 ≤ _)⟩)
  dsimp only [Pt.U, Pt.locs, Pt.cells, Pt.slots] at X11 l11 y11 z11 st11 hQ11
  rw [l11, y11, z11] at X11
  obtain ⟨rfl, Nq11, Kq11⟩ := hQ11
  have N11 := Fr.app N0 Nq11
  obtain ⟨T12, X12, e12, st12⟩ := getF X11 hx hZ hown (host := "") (Or.inl (w_115 hw)) Via.refl Kq11 P3 (g := (mkF m 28 #[vA a_, vI mc, vI 34] [(.ref a_), (.int 70), (.ref v_), (.ref a_)])) rfl rfl (hb hby d141)
  obtain ⟨_, _, ⟨T13, L13, k13, n13⟩, -, X13, ⟨Lc13, hQ13, l13, y13, z13⟩, st13⟩ := Jvm.LawKit.callS X12 hx (y := m_12) hown (mvT hZ (w_205 hw)) (mvT hZ (w_206 hw)) (mvT hZ (w_207 hw)) (mvT hZ (w_208 hw)) (by decide) (backOf (W := 1) (rm_copyOf34 l Z a0 hw [] v_ kv xs h0 n0 (by omega) P5) hZ (w_208 hw) (w_207 hw) (by decide) (by decide)) (g := (mkF m 32 #[vA a_, vI mc, vI 34] [(.int 70), (.ref v_), (.ref a_)])) rfl (by rw [hml]; rfl) (argsL := [(.ref v_), (.int 70)]) (rest := [(.ref a_)]) (lenOf pd_7 rfl) rfl (Nat.le_of_eq rfl) (hb hby d143) (fun _ _ => ⟨rfl, e12, (by decide : 0 + 1 ≤ _), (by decide : 0 + 70 ≤ _)⟩)
  dsimp only [Pt.U, Pt.locs, Pt.cells, Pt.slots] at X13 l13 y13 z13 st13 hQ13
  rw [l13, y13, z13] at X13
  obtain ⟨x13_b, x13_k, x13_ys, rfl, Nq13, Kq13, r13_0, r13_1, r13_2⟩ := hQ13
  have N13 := Fr.app N11 Nq13
  have z13' := Kq13.1
  have K13 := K0.trans Kq13 all0
  have lt14 := own_l r13_1.lt
  have lt15 := own_l r13_2.lt
  have f17 := P1.keep Kq13 nin0
  have f18 := P0.keep Kq13
  obtain ⟨T16, h16, X16, e16, W16, st16⟩ := putF X13 hx hZ hown (host := "") (Or.inl (w_113 hw)) Via.refl rfl f17 f18 (Or.inl (w_114 hw)) (w_100 hw) (ty := (.array .byte)) (by decide) rfl rfl (g := (mkF m 35 #[vA a_, vI mc, vI 34] [(.ref x13_b), (.ref a_)])) rfl rfl (hb hby d144)
  have F16 := f17.same W16
  have z16 := W16.size
  have K16 := K13.wr W16 (Or.inl (List.mem_of_getElem? (i := 0) rfl))
  have N16 := Fr.snoc X16 N13 (by omega)
  have f19 := f18.wr W16
  have f20 := P3.keep Kq13 nin0
  have f21 := f20.other W16 (Or.inr (slot_ne (a0 := a0) (t := .byte) (t' := (.array .byte)) (Or.inl (w_116 hw)) (Or.inl (w_114 hw)) (by decide) (by decide) (by decide)))
  have f22 := P4.keep Kq13 nin0
  have f23 := f22.other W16 (Or.inr (slot_ne (a0 := a0) (t := .int) (t' := (.array .byte)) (Or.inl (w_138 hw)) (Or.inl (w_114 hw)) (by decide) (by decide) (by decide)))
  have f24 := r13_1.wr W16
  have f25 := r13_2.other W16 (own_ne (by omega))
  refine ⟨_, _, _, _, none, X16, by decide, by decide, fun _ => rfl, ?_, fun fs hr => castTop (ef_6 m a_ mc) ?_⟩
  · show Q_ens Z a_ v_ kv (34 : Int32) cnt xs mc h0 n0 _ T16.heap _
    rw [(e16 : T16.heap = h16)]
    exact ⟨x13_b, x13_k, (70 : Int32), x13_ys, rfl, N16, K16, f19, f21, f23, F16, f24, f25, (by decide), (own_p70 hm), (Or.inr (by omega)), (by omega), (own_ne (by omega))⟩
  · show Steps _ _ _ (s₁.setTop (mkF m 0 #[vA a_, vI mc, .unset] [])) _
    refine XS.aloadN X0.here hx rfl (hb hby d122) rfl rfl ?_
    show Steps _ _ _ (s₁.setTop (mkF m 1 #[vA a_, vI mc, .unset] [(.ref a_)])) _
    refine st7 _ ?_
    show Steps _ _ _ (T7.setTop (mkF m 4 #[vA a_, vI mc, .unset] [(.ref v_)])) _
    refine X7.arraylength hx (by rw [e7]; exact Ar8.1) (State.isArrayOf_alike hZ.alike Ar8.2.1) (g := (mkF m 4 #[vA a_, vI mc, .unset] [(.ref v_)])) rfl rfl (hb hby d124) _ ?_
    rw [len_of S8 M8]
    show Steps _ _ _ (T7.setTop (mkF m 5 #[vA a_, vI mc, .unset] [(.int 34)])) _
    refine XS.aloadN X7.here hx rfl (hb hby d125) rfl rfl ?_
    show Steps _ _ _ (T7.setTop (mkF m 6 #[vA a_, vI mc, .unset] [(.ref a_), (.int 34)])) _
    refine st9 _ ?_
    show Steps _ _ _ (T9.setTop (mkF m 9 #[vA a_, vI mc, .unset] [(.int 0), (.int 34)])) _
    refine XS.ishr X9.here hx rfl (hb hby d127) rfl ?_
    show Steps _ _ _ (T9.setTop (mkF m 10 #[vA a_, vI mc, .unset] [(.int 34)])) _
    refine XS.istoreN X9.here hx rfl (hb hby d128) rfl (l' := #[vA a_, vI mc, vI 34]) rfl ?_
    show Steps _ _ _ (T9.setTop (mkF m 11 #[vA a_, vI mc, vI 34] [])) _
    refine XS.iloadN X9.here hx rfl (hb hby d129) rfl ?_
    show Steps _ _ _ (T9.setTop (mkF m 12 #[vA a_, vI mc, vI 34] [(.int mc)])) _
    refine XS.iloadN X9.here hx rfl (hb hby d130) rfl ?_
    show Steps _ _ _ (T9.setTop (mkF m 13 #[vA a_, vI mc, vI 34] [(.int 34), (.int mc)])) _
    refine XS.isub X9.here hx rfl (hb hby d131) rfl ?_
    show Steps _ _ _ (T9.setTop (mkF m 14 #[vA a_, vI mc, vI 34] [(.int (mc - (34 : Int32)))])) _
    refine XS.ifNo X9.here hx rfl (hb hby d132) rfl ((if0 _ _).trans (tlt (hg : (0 : Int32) < (mc - (34 : Int32)))).2.2.2) ?_
    show Steps _ _ _ (T9.setTop (mkF m 17 #[vA a_, vI mc, vI 34] [])) _
    refine XS.aloadN X9.here hx rfl (hb hby d134) rfl rfl ?_
    show Steps _ _ _ (T9.setTop (mkF m 18 #[vA a_, vI mc, vI 34] [(.ref a_)])) _
    refine XS.aloadN X9.here hx rfl (hb hby d135) rfl rfl ?_
    show Steps _ _ _ (T9.setTop (mkF m 19 #[vA a_, vI mc, vI 34] [(.ref a_), (.ref a_)])) _
    refine st10 _ ?_
    show Steps _ _ _ (T10.setTop (mkF m 22 #[vA a_, vI mc, vI 34] [(.ref v_), (.ref a_)])) _
    refine XS.aloadN X10.here hx rfl (hb hby d137) rfl rfl ?_
    show Steps _ _ _ (T10.setTop (mkF m 23 #[vA a_, vI mc, vI 34] [(.ref a_), (.ref v_), (.ref a_)])) _
    refine XS.iloadN X10.here hx rfl (hb hby d138) rfl ?_
    show Steps _ _ _ (T10.setTop (mkF m 24 #[vA a_, vI mc, vI 34] [(.int mc), (.ref a_), (.ref v_), (.ref a_)])) _
    refine st11.trans ?_
    show Steps _ _ _ (T11.setTop (mkF m 27 #[vA a_, vI mc, vI 34] [(.int 70), (.ref v_), (.ref a_)])) _
    refine XS.aloadN X11.here hx rfl (hb hby d140) rfl rfl ?_
    show Steps _ _ _ (T11.setTop (mkF m 28 #[vA a_, vI mc, vI 34] [(.ref a_), (.int 70), (.ref v_), (.ref a_)])) _
    refine st12 _ ?_
    show Steps _ _ _ (T12.setTop (mkF m 31 #[vA a_, vI mc, vI 34] [(.int 0), (.int 70), (.ref v_), (.ref a_)])) _
    refine XS.ishl X12.here hx rfl (hb hby d142) rfl ?_
    show Steps _ _ _ (T12.setTop (mkF m 32 #[vA a_, vI mc, vI 34] [(.int 70), (.ref v_), (.ref a_)])) _
    refine st13 _ ?_
    show Steps _ _ _ (T13.setTop (mkF m 35 #[vA a_, vI mc, vI 34] [(.ref x13_b), (.ref a_)])) _
    refine st16 _ ?_
    show Steps _ _ _ (T16.setTop (mkF m 38 #[vA a_, vI mc, vI 34] [])) _
    exact X16.returnOut hx hret (hb hby d133) hr
theorem rm_ens (l : Launch) (Z : State) (a0 : Array Value) (hw : HW Z a0) (ws : List Jvm.Cond) (a_ : Addr) (v_ : Addr) (kv : ClassId) (N : Int32) (cnt : Int32) (xs : List Value) (mc : Int32) (h0 : Heap) (n0 : Nat) (Z0 : n0 ≤ h0.size) (P0 : Exa Z h0 a_ "java/lang/StringBuilder") (P1 : fld2 Z h0 a_ (.ref v_)) (P2 : Exa Z h0 v_ "[B") (P3 : fld3 Z h0 a_ (.int 0)) (P4 : fld4 Z h0 a_ (.int cnt)) (P5 : Arv Z h0 v_ kv .byte N xs (.int 0)) (P6 : n0 ≤ a_) (P7 : n0 ≤ v_) (P8 : a_ ≠ v_) (hN : oN N) (hm : 0 ≤ mc.toInt ∧ mc.toInt ≤ 39 ∧ mc.toInt ≤ N.toInt + 17) :
    MF l Z m_13 jdk_68_method_9_code 3 none ws (oR 3 1 70 48) #[(.ref a_), (.int mc)] h0 (Q_ens Z a_ v_ kv N cnt xs mc h0 n0) := by
  by_cases hc14 : (0 : Int32) < (mc - N)
  · rcases hN with rfl | rfl | rfl
    · exact rm_ens_16 l Z a0 hw ws a_ v_ kv cnt xs mc h0 n0 Z0 P0 P1 P2 P3 P4 P5 P6 P7 P8 hm hc14
    · exact rm_ens_34 l Z a0 hw ws a_ v_ kv cnt xs mc h0 n0 Z0 P0 P1 P2 P3 P4 P5 P6 P7 P8 hm hc14
    · exact absurd hc14 (own_n70 hm)
  · exact rm_ens_n l Z a0 hw ws a_ v_ kv N cnt xs mc h0 n0 Z0 P0 P1 P2 P3 P4 P5 P6 P7 P8 hN hm hc14
theorem w_112 {Z : State} {a0 : Array Value} (hw : HW Z a0) : (Jvm.Cond.fieldLink "java/lang/AbstractStringBuilder" (18 : Nat) "java/lang/String" "COMPACT_STRINGS" "Z").before a0 Z = true := hw _ (List.mem_of_getElem? (i := 112) rfl)
theorem d145 : decode jdk_68_method_71_code 0 = .ok (.getstatic 18, 3) := by decide +kernel
theorem d146 : decode jdk_68_method_71_code 3 = .ok (.ifCond .eq 18, 3) := by decide +kernel
theorem d147 : decode jdk_68_method_71_code 6 = .ok (.aload_n 0, 1) := by decide +kernel
theorem d148 : decode jdk_68_method_71_code 7 = .ok (.getfield 22, 3) := by decide +kernel
theorem d149 : decode jdk_68_method_71_code 10 = .ok (.aload_n 1, 1) := by decide +kernel
theorem w_154 {Z : State} {a0 : Array Value} (hw : HW Z a0) : (Jvm.Cond.methodLink "java/lang/AbstractStringBuilder" (40 : Nat) m_5).before a0 Z = true := hw _ (List.mem_of_getElem? (i := 154) rfl)
theorem d150 : decode jdk_68_method_71_code 11 = .ok (.invokevirtual 40, 3) := by decide +kernel
theorem d151 : decode jdk_68_method_71_code 14 = .ok (.if_icmp .eq 7, 3) := by decide +kernel
theorem d152 : decode jdk_68_method_71_code 21 = .ok (.return_, 1) := by decide +kernel
theorem ef_7 (m : MethodId) (x0 : Addr) (x1 : Addr) : entryFrame m #[(.ref x0), (.ref x1)] 2 = mkF m 0 #[vA x0, vA x1] [] := by first | (simp [entryFrame, mkF, argsToLocals, Value.category, maxLocals]; done) | rfl
abbrev m_14 : MethodName := (⟨"java/lang/AbstractStringBuilder", "inflateIfNeededFor", "(Ljava/lang/String;)V"⟩ : MethodName)
def Q_infl (Z : State) (a_ : Addr) (t : Addr) (cp : Int32) (h0 : Heap) (n0 : Nat) (v : Option Value) (h : Heap) (L : List Loc) : Prop := (v = none) ∧ (Fr n0 L) ∧ (h = h0)
theorem rm_infl (l : Launch) (Z : State) (a0 : Array Value) (hw : HW Z a0) (ws : List Jvm.Cond) (a_ : Addr) (t : Addr) (cp : Int32) (h0 : Heap) (n0 : Nat) (Z0 : n0 ≤ h0.size) (P0 : Old Z n0 h0) (P1 : sta0 Z (.int cp)) (P2 : fld3 Z h0 a_ (.int 0)) (P3 : Exa Z h0 t "java/lang/String") (P4 : fld1 Z h0 t (.int 0)) (hcs : ¬ (cp = (0 : Int32))) :
    MF l Z m_14 jdk_68_method_71_code 2 none ws (oR 1 0 0 13) #[(.ref a_), (.ref t)] h0 (Q_infl Z a_ t cp h0 n0) := by
  refine own_body (cls := "java/lang/AbstractStringBuilder") (plainFor_of_name pn_4) rfl (fun p e s m below meth c s₁ hx hby hml hown hnm hret hZ X0 e0 => ?_)
  have N0 := Fr.nil n0
  have lt1 := own_l P2.lt
  have lt2 := own_l P3.lt
  have lt3 := own_l P4.lt
  obtain ⟨T4, X4, e4, st4⟩ := getS2 X0 hx hZ hown (host := "") (Or.inl (w_112 hw)) Via.refl e0 (P1.ext P0.2) (g := (mkF m 0 #[vA a_, vA t] [])) rfl (hb hby d145)
  obtain ⟨T5, X5, e5, st5⟩ := getF X4 hx hZ hown (host := "") (Or.inl (w_115 hw)) Via.refl e4 P2 (g := (mkF m 7 #[vA a_, vA t] [(.ref a_)])) rfl rfl (hb hby d148)
  obtain ⟨cq6, kq6, qa6, qb6, qc6⟩ := isOf hZ e5 P3
  obtain ⟨_, _, ⟨T6, L6, k6, n6⟩, -, X6, ⟨Lc6, hQ6, l6, y6, z6⟩, st6⟩ := X5.virtualBack hx (y := m_5) (z := m_5) hown (mvT hZ (w_154 hw)) (mvT hZ (w_133 hw)) (notFace_of_selects (args := #[]) (mvT hZ (w_135 hw))) (mvT hZ (w_135 hw)) (mvT hZ (w_134 hw)) (by decide) (backOf (W := 1) (rm_cod l Z a0 hw [] t cp h0 n0 (by omega) P0 P1 P4 hcs) hZ (w_136 hw) (w_10 hw) (by decide) (by decide)) qa6 qc6 (g := (mkF m 11 #[vA a_, vA t] [(.ref t), (.int 0)])) rfl (by rw [hml]; rfl) (Steps.refl _) (argsL := []) (rest := [(.int 0)]) (lenOf pd_3 rfl) rfl (Nat.le_of_eq rfl) (hb hby d150) (fun _ _ => ⟨rfl, e5, (by decide : 0 + 0 ≤ _), (by decide : 0 + 0 ≤ _)⟩)
  dsimp only [Pt.U, Pt.locs, Pt.cells, Pt.slots] at X6 l6 y6 z6 st6 hQ6
  rw [l6, y6, z6] at X6
  obtain ⟨rfl, Nq6, Kq6⟩ := hQ6
  have N6 := Fr.app N0 Nq6
  refine ⟨_, _, _, _, none, X6, by decide, by decide, fun _ => rfl, ?_, fun fs hr => castTop (ef_7 m a_ t) ?_⟩
  · show Q_infl Z a_ t cp h0 n0 _ T6.heap _
    rw [(Kq6 : T6.heap = h0)]
    exact ⟨rfl, N6, rfl⟩
  · show Steps _ _ _ (s₁.setTop (mkF m 0 #[vA a_, vA t] [])) _
    refine st4 _ ?_
    show Steps _ _ _ (T4.setTop (mkF m 3 #[vA a_, vA t] [(.int cp)])) _
    refine XS.ifNo X4.here hx rfl (hb hby d146) rfl ((if0 _ _).trans (feq (hcs : ¬ (cp = (0 : Int32)))).1) ?_
    show Steps _ _ _ (T4.setTop (mkF m 6 #[vA a_, vA t] [])) _
    refine XS.aloadN X4.here hx rfl (hb hby d147) rfl rfl ?_
    show Steps _ _ _ (T4.setTop (mkF m 7 #[vA a_, vA t] [(.ref a_)])) _
    refine st5 _ ?_
    show Steps _ _ _ (T5.setTop (mkF m 10 #[vA a_, vA t] [(.int 0)])) _
    refine XS.aloadN X5.here hx rfl (hb hby d149) rfl rfl ?_
    show Steps _ _ _ (T5.setTop (mkF m 11 #[vA a_, vA t] [(.ref t), (.int 0)])) _
    refine st6.trans ?_
    show Steps _ _ _ (T6.setTop (mkF m 14 #[vA a_, vA t] [(.int 0), (.int 0)])) _
    refine XS.icmpYes X6.here hx rfl (pc0 := 14) (pc' := 21) rfl (hb hby d151) rfl (teq ((by decide) : (0 : Int32) = (0 : Int32))).1 (by decide) (by decide) ?_
    show Steps _ _ _ (T6.setTop (mkF m 21 #[vA a_, vA t] [])) _
    exact X6.returnOut hx hret (hb hby d152) hr
theorem d153 : decode jdk_42_method_147_code 0 = .ok (.aload_n 0, 1) := by decide +kernel
theorem d154 : decode jdk_42_method_147_code 1 = .ok (.invokevirtual 335, 3) := by decide +kernel
theorem d155 : decode jdk_42_method_147_code 4 = .ok (.iload_n 3, 1) := by decide +kernel
theorem d156 : decode jdk_42_method_147_code 5 = .ok (.if_icmp .ne 23, 3) := by decide +kernel
theorem d157 : decode jdk_42_method_147_code 8 = .ok (.aload_n 0, 1) := by decide +kernel
theorem d158 : decode jdk_42_method_147_code 9 = .ok (.getfield 9, 3) := by decide +kernel
theorem d159 : decode jdk_42_method_147_code 12 = .ok (.iconst 0, 1) := by decide +kernel
theorem d160 : decode jdk_42_method_147_code 13 = .ok (.aload_n 1, 1) := by decide +kernel
theorem d161 : decode jdk_42_method_147_code 14 = .ok (.iload_n 2, 1) := by decide +kernel
theorem d162 : decode jdk_42_method_147_code 15 = .ok (.iload_n 3, 1) := by decide +kernel
theorem d163 : decode jdk_42_method_147_code 16 = .ok (.ishl, 1) := by decide +kernel
theorem d164 : decode jdk_42_method_147_code 17 = .ok (.aload_n 0, 1) := by decide +kernel
theorem d165 : decode jdk_42_method_147_code 18 = .ok (.getfield 9, 3) := by decide +kernel
theorem d166 : decode jdk_42_method_147_code 21 = .ok (.arraylength, 1) := by decide +kernel
theorem w_160 {Z : State} {a0 : Array Value} (hw : HW Z a0) : (Jvm.Cond.methodLink "java/lang/String" (212 : Nat) m_11).before a0 Z = true := hw _ (List.mem_of_getElem? (i := 160) rfl)
theorem d167 : decode jdk_42_method_147_code 22 = .ok (.invokestatic 212, 3) := by decide +kernel
theorem d168 : decode jdk_42_method_147_code 25 = .ok (.goto 18, 3) := by decide +kernel
theorem d169 : decode jdk_42_method_147_code 43 = .ok (.return_, 1) := by decide +kernel
theorem ef_8 (m : MethodId) (x0 : Addr) (x1 : Addr) (x2 : Int32) (x3 : Int32) : entryFrame m #[(.ref x0), (.ref x1), (.int x2), (.int x3)] 4 = mkF m 0 #[vA x0, vA x1, vI x2, vI x3] [] := by first | (simp [entryFrame, mkF, argsToLocals, Value.category, maxLocals]; done) | rfl
abbrev m_15 : MethodName := (⟨"java/lang/String", "getBytes", "([BIB)V"⟩ : MethodName)
def Q_getB (Z : State) (t : Addr) (tb : Addr) (kt : ClassId) (len : Int32) (bs : List Value) (cp : Int32) (v_ : Addr) (kv : ClassId) (N : Int32) (cnt : Int32) (xs : List Value) (h0 : Heap) (n0 : Nat) (v : Option Value) (h : Heap) (L : List Loc) : Prop := ∃ (ys : List Value), (v = none) ∧ (Fr n0 L) ∧ (Keep h0 h [v_]) ∧ (Arv Z h v_ kv .byte N ys (.int 0))
theorem rm_getB (l : Launch) (Z : State) (a0 : Array Value) (hw : HW Z a0) (ws : List Jvm.Cond) (t : Addr) (tb : Addr) (kt : ClassId) (len : Int32) (bs : List Value) (cp : Int32) (v_ : Addr) (kv : ClassId) (N : Int32) (cnt : Int32) (xs : List Value) (h0 : Heap) (n0 : Nat) (Z0 : n0 ≤ h0.size) (P0 : Old Z n0 h0) (P1 : sta0 Z (.int cp)) (P2 : Exa Z h0 t "java/lang/String") (P3 : fld1 Z h0 t (.int 0)) (P4 : fld0 Z h0 t (.ref tb)) (P5 : Arv Z h0 tb kt .byte len bs (.int 0)) (P6 : Arv Z h0 v_ kv .byte N xs (.int 0)) (P7 : n0 ≤ v_) (hcs : ¬ (cp = (0 : Int32))) (h2 : ¬ cnt < 0) (h3 : ¬ len < 0) (h5 : cnt.toNatClampNeg + len.toNatClampNeg ≤ N.toNatClampNeg) :
    MF l Z m_15 jdk_42_method_147_code 4 none ws (oR 1 0 0 18) #[(.ref t), (.ref v_), (.int cnt), (.int 0)] h0 (Q_getB Z t tb kt len bs cp v_ kv N cnt xs h0 n0) := by
  refine own_body (cls := "java/lang/String") (plainFor_of_name pn_1) rfl (fun p e s m below meth c s₁ hx hby hml hown hnm hret hZ X0 e0 => ?_)
  have N0 := Fr.nil n0
  have K0 := Keep.refl h0 [v_]
  have lt1 := own_l P2.lt
  have lt2 := own_l P3.lt
  have lt3 := own_l P4.lt
  have lt4 := own_l P5.lt
  have lt5 := own_l P6.lt
  obtain ⟨cq6, kq6, qa6, qb6, qc6⟩ := isOf hZ e0 P2
  obtain ⟨_, _, ⟨T6, L6, k6, n6⟩, -, X6, ⟨Lc6, hQ6, l6, y6, z6⟩, st6⟩ := X0.virtualBack hx (y := m_5) (z := m_5) hown (mvT hZ (w_132 hw)) (mvT hZ (w_133 hw)) (notFace_of_selects (args := #[]) (mvT hZ (w_135 hw))) (mvT hZ (w_135 hw)) (mvT hZ (w_134 hw)) (by decide) (backOf (W := 0) (rm_cod l Z a0 hw [] t cp h0 n0 (by omega) P0 P1 P3 hcs) hZ (w_136 hw) (w_10 hw) (by decide) (by decide)) qa6 qc6 (g := (mkF m 1 #[vA t, vA v_, vI cnt, vI 0] [(.ref t)])) rfl (by rw [hml]; rfl) (Steps.refl _) (argsL := []) (rest := []) (lenOf pd_3 rfl) rfl (Nat.le_of_eq rfl) (hb hby d154) (fun _ _ => ⟨rfl, e0, (by decide : 0 + 0 ≤ _), (by decide : 0 + 0 ≤ _)⟩)
  dsimp only [Pt.U, Pt.locs, Pt.cells, Pt.slots] at X6 l6 y6 z6 st6 hQ6
  rw [l6, y6, z6] at X6
  obtain ⟨rfl, Nq6, Kq6⟩ := hQ6
  have N6 := Fr.app N0 Nq6
  obtain ⟨T7, X7, e7, st7⟩ := getF X6 hx hZ hown (host := "") (Or.inl (w_30 hw)) Via.refl Kq6 P4 (g := (mkF m 9 #[vA t, vA v_, vI cnt, vI 0] [(.ref t)])) rfl rfl (hb hby d158)
  obtain ⟨T8, X8, e8, st8⟩ := getF X7 hx hZ hown (host := "") (Or.inl (w_30 hw)) Via.refl e7 P4 (g := (mkF m 18 #[vA t, vA v_, vI cnt, vI 0] [(.ref t), (.int cnt), (.ref v_), (.int 0), (.ref tb)])) rfl rfl (hb hby d165)
  obtain ⟨cl9, Ar9, q9, S9, M9, H9, G9⟩ := id P5
  obtain ⟨T10, h10, L10, ys10, X10, e10, N10, Kq10, V10, st10⟩ := cpE X8 hx hZ hown (w_160 hw) (w_163 hw) (w_161 hw) (w_162 hw) e8 P5 P6 h2 h3 (Nat.le_refl _) h5 N6 (by omega) (g := (mkF m 22 #[vA t, vA v_, vI cnt, vI 0] [(.int len), (.int cnt), (.ref v_), (.int 0), (.ref tb)])) rfl (by rw [hml]; rfl) rfl (hb hby d167) (by decide) (W := 0) (Nat.le_of_eq rfl) (by decide)
  replace V10 : Arv Z h10 v_ kv .byte N ys10 (.int 0) := V10
  have z10' := Kq10.1
  have K10 := K0.trans Kq10 (allS (Or.inl (List.mem_of_getElem? (i := 0) rfl)) all0)
  refine ⟨_, _, _, _, none, X10, by decide, by decide, fun _ => rfl, ?_, fun fs hr => castTop (ef_8 m t v_ cnt (0 : Int32)) ?_⟩
  · show Q_getB Z t tb kt len bs cp v_ kv N cnt xs h0 n0 _ T10.heap _
    rw [(e10 : T10.heap = h10)]
    exact ⟨ys10, rfl, N10, K10, V10⟩
  · show Steps _ _ _ (s₁.setTop (mkF m 0 #[vA t, vA v_, vI cnt, vI 0] [])) _
    refine XS.aloadN X0.here hx rfl (hb hby d153) rfl rfl ?_
    show Steps _ _ _ (s₁.setTop (mkF m 1 #[vA t, vA v_, vI cnt, vI 0] [(.ref t)])) _
    refine st6.trans ?_
    show Steps _ _ _ (T6.setTop (mkF m 4 #[vA t, vA v_, vI cnt, vI 0] [(.int 0)])) _
    refine XS.iloadN X6.here hx rfl (hb hby d155) rfl ?_
    show Steps _ _ _ (T6.setTop (mkF m 5 #[vA t, vA v_, vI cnt, vI 0] [(.int 0), (.int 0)])) _
    refine XS.icmpNo X6.here hx rfl (hb hby d156) rfl (teq ((by decide) : (0 : Int32) = (0 : Int32))).2 ?_
    show Steps _ _ _ (T6.setTop (mkF m 8 #[vA t, vA v_, vI cnt, vI 0] [])) _
    refine XS.aloadN X6.here hx rfl (hb hby d157) rfl rfl ?_
    show Steps _ _ _ (T6.setTop (mkF m 9 #[vA t, vA v_, vI cnt, vI 0] [(.ref t)])) _
    refine st7 _ ?_
    show Steps _ _ _ (T7.setTop (mkF m 12 #[vA t, vA v_, vI cnt, vI 0] [(.ref tb)])) _
    refine XS.iconst X7.here hx rfl (hb hby d159) ?_
    show Steps _ _ _ (T7.setTop (mkF m 13 #[vA t, vA v_, vI cnt, vI 0] [(.int 0), (.ref tb)])) _
    refine XS.aloadN X7.here hx rfl (hb hby d160) rfl rfl ?_
    show Steps _ _ _ (T7.setTop (mkF m 14 #[vA t, vA v_, vI cnt, vI 0] [(.ref v_), (.int 0), (.ref tb)])) _
    refine XS.iloadN X7.here hx rfl (hb hby d161) rfl ?_
    show Steps _ _ _ (T7.setTop (mkF m 15 #[vA t, vA v_, vI cnt, vI 0] [(.int cnt), (.ref v_), (.int 0), (.ref tb)])) _
    refine XS.iloadN X7.here hx rfl (hb hby d162) rfl ?_
    show Steps _ _ _ (T7.setTop (mkF m 16 #[vA t, vA v_, vI cnt, vI 0] [(.int 0), (.int cnt), (.ref v_), (.int 0), (.ref tb)])) _
    refine XS.ishl X7.here hx rfl (hb hby d163) rfl ?_
    show Steps _ _ _ (T7.setTop (mkF m 17 #[vA t, vA v_, vI cnt, vI 0] [(.int (cnt <<< ((0 : Int32) &&& 31))), (.ref v_), (.int 0), (.ref tb)])) _
    rw [own_shl0]
    show Steps _ _ _ (T7.setTop (mkF m 17 #[vA t, vA v_, vI cnt, vI 0] [(.int cnt), (.ref v_), (.int 0), (.ref tb)])) _
    refine XS.aloadN X7.here hx rfl (hb hby d164) rfl rfl ?_
    show Steps _ _ _ (T7.setTop (mkF m 18 #[vA t, vA v_, vI cnt, vI 0] [(.ref t), (.int cnt), (.ref v_), (.int 0), (.ref tb)])) _
    refine st8 _ ?_
    show Steps _ _ _ (T8.setTop (mkF m 21 #[vA t, vA v_, vI cnt, vI 0] [(.ref tb), (.int cnt), (.ref v_), (.int 0), (.ref tb)])) _
    refine X8.arraylength hx (by rw [e8]; exact Ar9.1) (State.isArrayOf_alike hZ.alike Ar9.2.1) (g := (mkF m 21 #[vA t, vA v_, vI cnt, vI 0] [(.ref tb), (.int cnt), (.ref v_), (.int 0), (.ref tb)])) rfl rfl (hb hby d166) _ ?_
    rw [len_of S9 M9]
    show Steps _ _ _ (T8.setTop (mkF m 22 #[vA t, vA v_, vI cnt, vI 0] [(.int len), (.int cnt), (.ref v_), (.int 0), (.ref tb)])) _
    refine st10 _ ?_
    show Steps _ _ _ (T10.setTop (mkF m 25 #[vA t, vA v_, vI cnt, vI 0] [])) _
    refine XS.goto X10.here hx rfl (pc0 := 25) (pc' := 43) rfl (hb hby d168) (by decide) (by decide) ?_
    show Steps _ _ _ (T10.setTop (mkF m 43 #[vA t, vA v_, vI cnt, vI 0] [])) _
    exact X10.returnOut hx hret (hb hby d169) hr
theorem d170 : decode jdk_68_method_73_code 0 = .ok (.aload_n 0, 1) := by decide +kernel
theorem d171 : decode jdk_68_method_73_code 1 = .ok (.aload_n 2, 1) := by decide +kernel
theorem w_149 {Z : State} {a0 : Array Value} (hw : HW Z a0) : (Jvm.Cond.methodLink "java/lang/AbstractStringBuilder" (397 : Nat) m_14).before a0 Z = true := hw _ (List.mem_of_getElem? (i := 149) rfl)
theorem w_153 {Z : State} {a0 : Array Value} (hw : HW Z a0) : (Jvm.Cond.code m_14 jdk_68_method_71_code (2 : Nat) (Option.none : Option Jvm.ClassFile.FieldType)).before a0 Z = true := hw _ (List.mem_of_getElem? (i := 153) rfl)
theorem pd_8 : parseMethodDescriptor "(Ljava/lang/String;)V" = some ⟨[(.object "java/lang/String")], none⟩ := by decide +kernel
theorem d172 : decode jdk_68_method_73_code 2 = .ok (.invokevirtual 397, 3) := by decide +kernel
theorem w_150 {Z : State} {a0 : Array Value} (hw : HW Z a0) : (Jvm.Cond.instanceMethod m_14).before a0 Z = true := hw _ (List.mem_of_getElem? (i := 150) rfl)
theorem w_151 {Z : State} {a0 : Array Value} (hw : HW Z a0) : (Jvm.Cond.privateMethod m_14).before a0 Z = true := hw _ (List.mem_of_getElem? (i := 151) rfl)
theorem w_152 {Z : State} {a0 : Array Value} (hw : HW Z a0) : (Jvm.Cond.selects "java/lang/StringBuilder" m_14 m_14).before a0 Z = true := hw _ (List.mem_of_getElem? (i := 152) rfl)
theorem d173 : decode jdk_68_method_73_code 5 = .ok (.aload_n 2, 1) := by decide +kernel
theorem d174 : decode jdk_68_method_73_code 6 = .ok (.aload_n 0, 1) := by decide +kernel
theorem d175 : decode jdk_68_method_73_code 7 = .ok (.getfield 15, 3) := by decide +kernel
theorem d176 : decode jdk_68_method_73_code 10 = .ok (.iload_n 1, 1) := by decide +kernel
theorem d177 : decode jdk_68_method_73_code 11 = .ok (.aload_n 0, 1) := by decide +kernel
theorem d178 : decode jdk_68_method_73_code 12 = .ok (.getfield 22, 3) := by decide +kernel
theorem w_155 {Z : State} {a0 : Array Value} (hw : HW Z a0) : (Jvm.Cond.methodLink "java/lang/AbstractStringBuilder" (399 : Nat) m_15).before a0 Z = true := hw _ (List.mem_of_getElem? (i := 155) rfl)
theorem w_159 {Z : State} {a0 : Array Value} (hw : HW Z a0) : (Jvm.Cond.code m_15 jdk_42_method_147_code (4 : Nat) (Option.none : Option Jvm.ClassFile.FieldType)).before a0 Z = true := hw _ (List.mem_of_getElem? (i := 159) rfl)
theorem pd_9 : parseMethodDescriptor "([BIB)V" = some ⟨[(.array .byte), .int, .byte], none⟩ := by decide +kernel
theorem d179 : decode jdk_68_method_73_code 15 = .ok (.invokevirtual 399, 3) := by decide +kernel
theorem w_158 {Z : State} {a0 : Array Value} (hw : HW Z a0) : (Jvm.Cond.selects "java/lang/String" m_15 m_15).before a0 Z = true := hw _ (List.mem_of_getElem? (i := 158) rfl)
theorem w_156 {Z : State} {a0 : Array Value} (hw : HW Z a0) : (Jvm.Cond.declares m_15).before a0 Z = true := hw _ (List.mem_of_getElem? (i := 156) rfl)
theorem w_157 {Z : State} {a0 : Array Value} (hw : HW Z a0) : (Jvm.Cond.instanceMethod m_15).before a0 Z = true := hw _ (List.mem_of_getElem? (i := 157) rfl)
theorem d180 : decode jdk_68_method_73_code 18 = .ok (.return_, 1) := by decide +kernel
theorem ef_9 (m : MethodId) (x0 : Addr) (x1 : Int32) (x2 : Addr) : entryFrame m #[(.ref x0), (.int x1), (.ref x2)] 3 = mkF m 0 #[vA x0, vI x1, vA x2] [] := by first | (simp [entryFrame, mkF, argsToLocals, Value.category, maxLocals]; done) | rfl
abbrev m_16 : MethodName := (⟨"java/lang/AbstractStringBuilder", "putStringAt", "(ILjava/lang/String;)V"⟩ : MethodName)
def Q_putS (Z : State) (t : Addr) (tb : Addr) (kt : ClassId) (len : Int32) (bs : List Value) (cp : Int32) (a_ : Addr) (v_ : Addr) (kv : ClassId) (N : Int32) (cnt : Int32) (xs : List Value) (h0 : Heap) (n0 : Nat) (v : Option Value) (h : Heap) (L : List Loc) : Prop := ∃ (ys : List Value), (v = none) ∧ (Fr n0 L) ∧ (Keep h0 h [v_]) ∧ (Arv Z h v_ kv .byte N ys (.int 0))
theorem rm_putS (l : Launch) (Z : State) (a0 : Array Value) (hw : HW Z a0) (ws : List Jvm.Cond) (t : Addr) (tb : Addr) (kt : ClassId) (len : Int32) (bs : List Value) (cp : Int32) (a_ : Addr) (v_ : Addr) (kv : ClassId) (N : Int32) (cnt : Int32) (xs : List Value) (h0 : Heap) (n0 : Nat) (Z0 : n0 ≤ h0.size) (P0 : Old Z n0 h0) (P1 : sta0 Z (.int cp)) (P2 : Exa Z h0 t "java/lang/String") (P3 : fld1 Z h0 t (.int 0)) (P4 : fld0 Z h0 t (.ref tb)) (P5 : Arv Z h0 tb kt .byte len bs (.int 0)) (P6 : Exa Z h0 a_ "java/lang/StringBuilder") (P7 : fld2 Z h0 a_ (.ref v_)) (P8 : fld3 Z h0 a_ (.int 0)) (P9 : Arv Z h0 v_ kv .byte N xs (.int 0)) (P10 : n0 ≤ v_) (hcs : ¬ (cp = (0 : Int32))) (h2 : ¬ cnt < 0) (h3 : ¬ len < 0) (h5 : cnt.toNatClampNeg + len.toNatClampNeg ≤ N.toNatClampNeg) :
    MF l Z m_16 jdk_68_method_73_code 3 none ws (oR 2 0 0 33) #[(.ref a_), (.int cnt), (.ref t)] h0 (Q_putS Z t tb kt len bs cp a_ v_ kv N cnt xs h0 n0) := by
  refine own_body (cls := "java/lang/AbstractStringBuilder") (plainFor_of_name pn_4) rfl (fun p e s m below meth c s₁ hx hby hml hown hnm hret hZ X0 e0 => ?_)
  have N0 := Fr.nil n0
  have K0 := Keep.refl h0 [v_]
  have lt1 := own_l P2.lt
  have lt2 := own_l P3.lt
  have lt3 := own_l P4.lt
  have lt4 := own_l P5.lt
  have lt5 := own_l P6.lt
  have lt6 := own_l P7.lt
  have lt7 := own_l P8.lt
  have lt8 := own_l P9.lt
  obtain ⟨cq9, kq9, qa9, qb9, qc9⟩ := isOf hZ e0 P6
  obtain ⟨cc9, ca9, cb9⟩ := P6.cell
  obtain ⟨_, _, ⟨T9, L9, k9, n9⟩, -, X9, ⟨Lc9, hQ9, l9, y9, z9⟩, st9⟩ := X0.privateBack hx (y := m_14) hown (mvT hZ (w_149 hw)) (mvT hZ (w_150 hw)) (mvT hZ (own_selOwn (by decide) (w_150 hw) (Cond.privateMethod_at (w_151 hw)) (w_152 hw))) (Cond.privateMethod_at (mvP hZ (w_151 hw) (args := #[]))) (mvT hZ (w_153 hw)) (by decide) (backOf (W := 0) (rm_infl l Z a0 hw [] a_ t cp h0 n0 (by omega) P0 P1 P8 P2 P3 hcs) hZ (w_153 hw) (w_109 hw) (by decide) (by decide)) (g := (mkF m 2 #[vA a_, vI cnt, vA t] [(.ref t), (.ref a_)])) rfl (by rw [hml]; rfl) (Steps.refl _) (a := a_) (cell := cc9) (by rw [e0]; exact ca9) cb9 (argsL := [(.ref t)]) (rest := []) (lenOf pd_8 rfl) rfl (Nat.le_of_eq rfl) (hb hby d172) (fun _ _ => ⟨rfl, e0, (by decide : 0 + 0 ≤ _), (by decide : 0 + 0 ≤ _)⟩)
  dsimp only [Pt.U, Pt.locs, Pt.cells, Pt.slots] at X9 l9 y9 z9 st9 hQ9
  rw [l9, y9, z9] at X9
  obtain ⟨rfl, Nq9, Kq9⟩ := hQ9
  have N9 := Fr.app N0 Nq9
  obtain ⟨T10, X10, e10, st10⟩ := getF X9 hx hZ hown (host := "") (Or.inl (w_113 hw)) Via.refl Kq9 P7 (g := (mkF m 7 #[vA a_, vI cnt, vA t] [(.ref a_), (.ref t)])) rfl rfl (hb hby d175)
  obtain ⟨T11, X11, e11, st11⟩ := getF X10 hx hZ hown (host := "") (Or.inl (w_115 hw)) Via.refl e10 P8 (g := (mkF m 12 #[vA a_, vI cnt, vA t] [(.ref a_), (.int cnt), (.ref v_), (.ref t)])) rfl rfl (hb hby d178)
  obtain ⟨cq12, kq12, qa12, qb12, qc12⟩ := isOf hZ e11 P2
  obtain ⟨_, _, ⟨T12, L12, k12, n12⟩, -, X12, ⟨Lc12, hQ12, l12, y12, z12⟩, st12⟩ := X11.virtualBack hx (y := m_15) (z := m_15) hown (mvT hZ (w_155 hw)) (mvT hZ (w_156 hw)) (notFace_of_selects (args := #[]) (mvT hZ (w_158 hw))) (mvT hZ (w_158 hw)) (mvT hZ (w_157 hw)) (by decide) (backOf (W := 0) (rm_getB l Z a0 hw [] t tb kt len bs cp v_ kv N cnt xs h0 n0 (by omega) P0 P1 P2 P3 P4 P5 P9 (by omega) hcs h2 h3 h5) hZ (w_159 hw) (w_10 hw) (by decide) (by decide)) qa12 qc12 (g := (mkF m 15 #[vA a_, vI cnt, vA t] [(.int 0), (.int cnt), (.ref v_), (.ref t)])) rfl (by rw [hml]; rfl) (Steps.refl _) (argsL := [(.ref v_), (.int cnt), (.int 0)]) (rest := []) (lenOf pd_9 rfl) rfl (Nat.le_of_eq rfl) (hb hby d179) (fun _ _ => ⟨rfl, e11, (by decide : 0 + 0 ≤ _), (by decide : 0 + 0 ≤ _)⟩)
  dsimp only [Pt.U, Pt.locs, Pt.cells, Pt.slots] at X12 l12 y12 z12 st12 hQ12
  rw [l12, y12, z12] at X12
  obtain ⟨x12_ys, rfl, Nq12, Kq12, r12_0⟩ := hQ12
  have N12 := Fr.app N9 Nq12
  have z12' := Kq12.1
  have K12 := K0.trans Kq12 (allS (Or.inl (List.mem_of_getElem? (i := 0) rfl)) all0)
  have lt13 := own_l r12_0.lt
  refine ⟨_, _, _, _, none, X12, by decide, by decide, fun _ => rfl, ?_, fun fs hr => castTop (ef_9 m a_ cnt t) ?_⟩
  · show Q_putS Z t tb kt len bs cp a_ v_ kv N cnt xs h0 n0 _ T12.heap _
    exact ⟨x12_ys, rfl, N12, K12, r12_0⟩
  · show Steps _ _ _ (s₁.setTop (mkF m 0 #[vA a_, vI cnt, vA t] [])) _
    refine XS.aloadN X0.here hx rfl (hb hby d170) rfl rfl ?_
    show Steps _ _ _ (s₁.setTop (mkF m 1 #[vA a_, vI cnt, vA t] [(.ref a_)])) _
    refine XS.aloadN X0.here hx rfl (hb hby d171) rfl rfl ?_
    show Steps _ _ _ (s₁.setTop (mkF m 2 #[vA a_, vI cnt, vA t] [(.ref t), (.ref a_)])) _
    refine st9.trans ?_
    show Steps _ _ _ (T9.setTop (mkF m 5 #[vA a_, vI cnt, vA t] [])) _
    refine XS.aloadN X9.here hx rfl (hb hby d173) rfl rfl ?_
    show Steps _ _ _ (T9.setTop (mkF m 6 #[vA a_, vI cnt, vA t] [(.ref t)])) _
    refine XS.aloadN X9.here hx rfl (hb hby d174) rfl rfl ?_
    show Steps _ _ _ (T9.setTop (mkF m 7 #[vA a_, vI cnt, vA t] [(.ref a_), (.ref t)])) _
    refine st10 _ ?_
    show Steps _ _ _ (T10.setTop (mkF m 10 #[vA a_, vI cnt, vA t] [(.ref v_), (.ref t)])) _
    refine XS.iloadN X10.here hx rfl (hb hby d176) rfl ?_
    show Steps _ _ _ (T10.setTop (mkF m 11 #[vA a_, vI cnt, vA t] [(.int cnt), (.ref v_), (.ref t)])) _
    refine XS.aloadN X10.here hx rfl (hb hby d177) rfl rfl ?_
    show Steps _ _ _ (T10.setTop (mkF m 12 #[vA a_, vI cnt, vA t] [(.ref a_), (.int cnt), (.ref v_), (.ref t)])) _
    refine st11 _ ?_
    show Steps _ _ _ (T11.setTop (mkF m 15 #[vA a_, vI cnt, vA t] [(.int 0), (.int cnt), (.ref v_), (.ref t)])) _
    refine st12.trans ?_
    show Steps _ _ _ (T12.setTop (mkF m 18 #[vA a_, vI cnt, vA t] [])) _
    exact X12.returnOut hx hret (hb hby d180) hr
theorem d181 : decode jdk_68_method_22_code 0 = .ok (.aload_n 1, 1) := by decide +kernel
theorem d182 : decode jdk_68_method_22_code 1 = .ok (.ifnonnull 8, 3) := by decide +kernel
theorem d183 : decode jdk_68_method_22_code 9 = .ok (.aload_n 1, 1) := by decide +kernel
theorem w_127 {Z : State} {a0 : Array Value} (hw : HW Z a0) : (Jvm.Cond.methodLink "java/lang/AbstractStringBuilder" (32 : Nat) m_6).before a0 Z = true := hw _ (List.mem_of_getElem? (i := 127) rfl)
theorem w_131 {Z : State} {a0 : Array Value} (hw : HW Z a0) : (Jvm.Cond.code m_6 jdk_42_method_54_code (1 : Nat) (Option.some FieldType.int)).before a0 Z = true := hw _ (List.mem_of_getElem? (i := 131) rfl)
theorem pd_10 : parseMethodDescriptor "()I" = some ⟨[], some .int⟩ := by decide +kernel
theorem d184 : decode jdk_68_method_22_code 10 = .ok (.invokevirtual 32, 3) := by decide +kernel
theorem w_130 {Z : State} {a0 : Array Value} (hw : HW Z a0) : (Jvm.Cond.selects "java/lang/String" m_6 m_6).before a0 Z = true := hw _ (List.mem_of_getElem? (i := 130) rfl)
theorem w_128 {Z : State} {a0 : Array Value} (hw : HW Z a0) : (Jvm.Cond.declares m_6).before a0 Z = true := hw _ (List.mem_of_getElem? (i := 128) rfl)
theorem w_129 {Z : State} {a0 : Array Value} (hw : HW Z a0) : (Jvm.Cond.instanceMethod m_6).before a0 Z = true := hw _ (List.mem_of_getElem? (i := 129) rfl)
theorem d185 : decode jdk_68_method_22_code 13 = .ok (.istore_n 2, 1) := by decide +kernel
theorem d186 : decode jdk_68_method_22_code 14 = .ok (.aload_n 0, 1) := by decide +kernel
theorem d187 : decode jdk_68_method_22_code 15 = .ok (.aload_n 0, 1) := by decide +kernel
theorem w_137 {Z : State} {a0 : Array Value} (hw : HW Z a0) : (Jvm.Cond.fieldLink "java/lang/AbstractStringBuilder" (79 : Nat) "java/lang/AbstractStringBuilder" "count" "I").before a0 Z = true := hw _ (List.mem_of_getElem? (i := 137) rfl)
theorem d188 : decode jdk_68_method_22_code 16 = .ok (.getfield 79, 3) := by decide +kernel
theorem d189 : decode jdk_68_method_22_code 19 = .ok (.iload_n 2, 1) := by decide +kernel
theorem d190 : decode jdk_68_method_22_code 20 = .ok (.iadd, 1) := by decide +kernel
theorem w_139 {Z : State} {a0 : Array Value} (hw : HW Z a0) : (Jvm.Cond.methodLink "java/lang/AbstractStringBuilder" (100 : Nat) m_13).before a0 Z = true := hw _ (List.mem_of_getElem? (i := 139) rfl)
theorem w_143 {Z : State} {a0 : Array Value} (hw : HW Z a0) : (Jvm.Cond.code m_13 jdk_68_method_9_code (3 : Nat) (Option.none : Option Jvm.ClassFile.FieldType)).before a0 Z = true := hw _ (List.mem_of_getElem? (i := 143) rfl)
theorem pd_11 : parseMethodDescriptor "(I)V" = some ⟨[.int], none⟩ := by decide +kernel
theorem d191 : decode jdk_68_method_22_code 21 = .ok (.invokevirtual 100, 3) := by decide +kernel
theorem w_140 {Z : State} {a0 : Array Value} (hw : HW Z a0) : (Jvm.Cond.instanceMethod m_13).before a0 Z = true := hw _ (List.mem_of_getElem? (i := 140) rfl)
theorem w_141 {Z : State} {a0 : Array Value} (hw : HW Z a0) : (Jvm.Cond.privateMethod m_13).before a0 Z = true := hw _ (List.mem_of_getElem? (i := 141) rfl)
theorem w_142 {Z : State} {a0 : Array Value} (hw : HW Z a0) : (Jvm.Cond.selects "java/lang/StringBuilder" m_13 m_13).before a0 Z = true := hw _ (List.mem_of_getElem? (i := 142) rfl)
theorem d192 : decode jdk_68_method_22_code 24 = .ok (.aload_n 0, 1) := by decide +kernel
theorem d193 : decode jdk_68_method_22_code 25 = .ok (.aload_n 0, 1) := by decide +kernel
theorem d194 : decode jdk_68_method_22_code 26 = .ok (.getfield 79, 3) := by decide +kernel
theorem d195 : decode jdk_68_method_22_code 29 = .ok (.aload_n 1, 1) := by decide +kernel
theorem w_144 {Z : State} {a0 : Array Value} (hw : HW Z a0) : (Jvm.Cond.methodLink "java/lang/AbstractStringBuilder" (208 : Nat) m_16).before a0 Z = true := hw _ (List.mem_of_getElem? (i := 144) rfl)
theorem w_148 {Z : State} {a0 : Array Value} (hw : HW Z a0) : (Jvm.Cond.code m_16 jdk_68_method_73_code (3 : Nat) (Option.none : Option Jvm.ClassFile.FieldType)).before a0 Z = true := hw _ (List.mem_of_getElem? (i := 148) rfl)
theorem pd_12 : parseMethodDescriptor "(ILjava/lang/String;)V" = some ⟨[.int, (.object "java/lang/String")], none⟩ := by decide +kernel
theorem d196 : decode jdk_68_method_22_code 30 = .ok (.invokevirtual 208, 3) := by decide +kernel
theorem w_145 {Z : State} {a0 : Array Value} (hw : HW Z a0) : (Jvm.Cond.instanceMethod m_16).before a0 Z = true := hw _ (List.mem_of_getElem? (i := 145) rfl)
theorem w_146 {Z : State} {a0 : Array Value} (hw : HW Z a0) : (Jvm.Cond.privateMethod m_16).before a0 Z = true := hw _ (List.mem_of_getElem? (i := 146) rfl)
theorem w_147 {Z : State} {a0 : Array Value} (hw : HW Z a0) : (Jvm.Cond.selects "java/lang/StringBuilder" m_16 m_16).before a0 Z = true := hw _ (List.mem_of_getElem? (i := 147) rfl)
theorem d197 : decode jdk_68_method_22_code 33 = .ok (.aload_n 0, 1) := by decide +kernel
theorem d198 : decode jdk_68_method_22_code 34 = .ok (.dup, 1) := by decide +kernel
theorem d199 : decode jdk_68_method_22_code 35 = .ok (.getfield 79, 3) := by decide +kernel
theorem d200 : decode jdk_68_method_22_code 38 = .ok (.iload_n 2, 1) := by decide +kernel
theorem d201 : decode jdk_68_method_22_code 39 = .ok (.iadd, 1) := by decide +kernel
theorem d202 : decode jdk_68_method_22_code 40 = .ok (.putfield 79, 3) := by decide +kernel
theorem d203 : decode jdk_68_method_22_code 43 = .ok (.aload_n 0, 1) := by decide +kernel
theorem d204 : decode jdk_68_method_22_code 44 = .ok (.areturn, 1) := by decide +kernel
theorem ef_10 (m : MethodId) (x0 : Addr) (x1 : Addr) : entryFrame m #[(.ref x0), (.ref x1)] 3 = mkF m 0 #[vA x0, vA x1, .unset] [] := by first | (simp [entryFrame, mkF, argsToLocals, Value.category, maxLocals]; done) | rfl
abbrev m_17 : MethodName := (⟨"java/lang/AbstractStringBuilder", "append", "(Ljava/lang/String;)Ljava/lang/AbstractStringBuilder;"⟩ : MethodName)
def Q_app (Z : State) (t : Addr) (tb : Addr) (kt : ClassId) (len : Int32) (bs : List Value) (cp : Int32) (a_ : Addr) (v_ : Addr) (kv : ClassId) (N : Int32) (cnt : Int32) (xs : List Value) (h0 : Heap) (n0 : Nat) (v : Option Value) (h : Heap) (L : List Loc) : Prop := ∃ (b : Addr) (k : ClassId) (N2 : Int32) (ys : List Value), (v = some (.ref a_)) ∧ (Fr n0 L) ∧ (Keep h0 h [a_, v_]) ∧ (Exa Z h a_ "java/lang/StringBuilder") ∧ (fld3 Z h a_ (.int 0)) ∧ (fld4 Z h a_ (.int (cnt + len))) ∧ (fld2 Z h a_ (.ref b)) ∧ (Exa Z h b "[B") ∧ (Arv Z h b k .byte N2 ys (.int 0)) ∧ (oN N2) ∧ ((cnt + len).toInt ≤ N2.toInt) ∧ (b = v_ ∨ h0.size ≤ b) ∧ (n0 ≤ b) ∧ (a_ ≠ b)
theorem rm_app (l : Launch) (Z : State) (a0 : Array Value) (hw : HW Z a0) (ws : List Jvm.Cond) (t : Addr) (tb : Addr) (kt : ClassId) (len : Int32) (bs : List Value) (cp : Int32) (a_ : Addr) (v_ : Addr) (kv : ClassId) (N : Int32) (cnt : Int32) (xs : List Value) (h0 : Heap) (n0 : Nat) (Z0 : n0 ≤ h0.size) (P0 : Old Z n0 h0) (P1 : sta0 Z (.int cp)) (P2 : Exa Z h0 t "java/lang/String") (P3 : fld1 Z h0 t (.int 0)) (P4 : fld0 Z h0 t (.ref tb)) (P5 : Arv Z h0 tb kt .byte len bs (.int 0)) (P6 : Exa Z h0 a_ "java/lang/StringBuilder") (P7 : fld2 Z h0 a_ (.ref v_)) (P8 : Exa Z h0 v_ "[B") (P9 : fld3 Z h0 a_ (.int 0)) (P10 : fld4 Z h0 a_ (.int cnt)) (P11 : Arv Z h0 v_ kv .byte N xs (.int 0)) (P12 : n0 ≤ a_) (P13 : n0 ≤ v_) (P14 : a_ ≠ v_) (P15 : tb ≠ a_) (P16 : t ≠ a_) (hcs : ¬ (cp = (0 : Int32))) (hN : oN N) (hr : oR1 cnt len N) :
    MF l Z m_17 jdk_68_method_22_code 3 (some (.object "java/lang/AbstractStringBuilder")) ws (oR 4 1 70 62) #[(.ref a_), (.ref t)] h0 (Q_app Z t tb kt len bs cp a_ v_ kv N cnt xs h0 n0) := by
  refine own_body (cls := "java/lang/AbstractStringBuilder") (plainFor_of_name pn_4) rfl (fun p e s m below meth c s₁ hx hby hml hown hnm hret hZ X0 e0 => ?_)
  have N0 := Fr.nil n0
  have K0 := Keep.refl h0 [a_, v_]
  have lt1 := own_l P2.lt
  have lt2 := own_l P3.lt
  have lt3 := own_l P4.lt
  have lt4 := own_l P5.lt
  have lt5 := own_l P6.lt
  have lt6 := own_l P7.lt
  have lt7 := own_l P8.lt
  have lt8 := own_l P9.lt
  have lt9 := own_l P10.lt
  have lt10 := own_l P11.lt
  obtain ⟨cq11, kq11, qa11, qb11, qc11⟩ := isOf hZ e0 P2
  obtain ⟨_, _, ⟨T11, L11, k11, n11⟩, -, X11, ⟨Lc11, hQ11, l11, y11, z11⟩, st11⟩ := X0.virtualBack hx (y := m_6) (z := m_6) hown (mvT hZ (w_127 hw)) (mvT hZ (w_128 hw)) (notFace_of_selects (args := #[]) (mvT hZ (w_130 hw))) (mvT hZ (w_130 hw)) (mvT hZ (w_129 hw)) (by decide) (backOf (W := 0) (rm_slen l Z a0 hw [] t tb kt len bs cp h0 n0 (by omega) P0 P1 P2 P3 P4 P5 hcs) hZ (w_131 hw) (w_10 hw) (by decide) (by decide)) qa11 qc11 (g := (mkF m 10 #[vA a_, vA t, .unset] [(.ref t)])) rfl (by rw [hml]; rfl) (Steps.refl _) (argsL := []) (rest := []) (lenOf pd_10 rfl) rfl (Nat.le_of_eq rfl) (hb hby d184) (fun _ _ => ⟨rfl, e0, (by decide : 0 + 0 ≤ _), (by decide : 0 + 0 ≤ _)⟩)
  dsimp only [Pt.U, Pt.locs, Pt.cells, Pt.slots] at X11 l11 y11 z11 st11 hQ11
  rw [l11, y11, z11] at X11
  obtain ⟨rfl, Nq11, Kq11⟩ := hQ11
  have N11 := Fr.app N0 Nq11
  obtain ⟨T12, X12, e12, st12⟩ := getF X11 hx hZ hown (host := "") (Or.inl (w_137 hw)) Via.refl Kq11 P10 (g := (mkF m 16 #[vA a_, vA t, vI len] [(.ref a_), (.ref a_)])) rfl rfl (hb hby d188)
  obtain ⟨cq13, kq13, qa13, qb13, qc13⟩ := isOf hZ e12 P6
  obtain ⟨cc13, ca13, cb13⟩ := P6.cell
  obtain ⟨_, _, ⟨T13, L13, k13, n13⟩, -, X13, ⟨Lc13, hQ13, l13, y13, z13⟩, st13⟩ := X12.privateBack hx (y := m_13) hown (mvT hZ (w_139 hw)) (mvT hZ (w_140 hw)) (mvT hZ (own_selOwn (by decide) (w_140 hw) (Cond.privateMethod_at (w_141 hw)) (w_142 hw))) (Cond.privateMethod_at (mvP hZ (w_141 hw) (args := #[]))) (mvT hZ (w_143 hw)) (by decide) (backOf (W := 0) (rm_ens l Z a0 hw [] a_ v_ kv N cnt xs ((cnt + len)) h0 n0 (by omega) P6 P7 P8 P9 P10 P11 (by omega) (by omega) (fun q => P14 q) hN (own_r1 hr)) hZ (w_143 hw) (w_109 hw) (by decide) (by decide)) (g := (mkF m 21 #[vA a_, vA t, vI len] [(.int (cnt + len)), (.ref a_)])) rfl (by rw [hml]; rfl) (Steps.refl _) (a := a_) (cell := cc13) (by rw [e12]; exact ca13) cb13 (argsL := [(.int (cnt + len))]) (rest := []) (lenOf pd_11 rfl) rfl (Nat.le_of_eq rfl) (hb hby d191) (fun _ _ => ⟨rfl, e12, (by decide : 0 + 1 ≤ _), (by decide : 0 + 70 ≤ _)⟩)
  dsimp only [Pt.U, Pt.locs, Pt.cells, Pt.slots] at X13 l13 y13 z13 st13 hQ13
  rw [l13, y13, z13] at X13
  obtain ⟨x13_b, x13_k, x13_N2, x13_ys, rfl, Nq13, Kq13, r13_0, r13_1, r13_2, r13_3, r13_4, r13_5, r13_6, r13_7, r13_8, r13_9, r13_10⟩ := hQ13
  have N13 := Fr.app N11 Nq13
  have z13' := Kq13.1
  have K13 := K0.trans Kq13 (allS (Or.inl (List.mem_of_getElem? (i := 0) rfl)) all0)
  have lt14 := own_l r13_0.lt
  have lt15 := own_l r13_1.lt
  have lt16 := own_l r13_2.lt
  have lt17 := own_l r13_3.lt
  have lt18 := own_l r13_4.lt
  have lt19 := own_l r13_5.lt
  have oe13_8 := own_or r13_8
  obtain ⟨T20, X20, e20, st20⟩ := getF X13 hx hZ hown (host := "") (Or.inl (w_137 hw)) Via.refl rfl r13_2 (g := (mkF m 26 #[vA a_, vA t, vI len] [(.ref a_), (.ref a_)])) rfl rfl (hb hby d194)
  have f22 := P0.keep Kq13 (allS (by omega) all0)
  have f23 := P2.keep Kq13
  have f24 := P3.keep Kq13 (ninS (fun q => P16 q) nin0)
  have f25 := P4.keep Kq13 (ninS (fun q => P16 q) nin0)
  have f26 := P5.keep Kq13 (ninS (fun q => P15 q) nin0)
  obtain ⟨cq21, kq21, qa21, qb21, qc21⟩ := isOf hZ e20 r13_0
  obtain ⟨cc21, ca21, cb21⟩ := r13_0.cell
  obtain ⟨_, _, ⟨T21, L21, k21, n21⟩, -, X21, ⟨Lc21, hQ21, l21, y21, z21⟩, st21⟩ := X20.privateBack hx (y := m_16) hown (mvT hZ (w_144 hw)) (mvT hZ (w_145 hw)) (mvT hZ (own_selOwn (by decide) (w_145 hw) (Cond.privateMethod_at (w_146 hw)) (w_147 hw))) (Cond.privateMethod_at (mvP hZ (w_146 hw) (args := #[]))) (mvT hZ (w_148 hw)) (by decide) (backOf (W := 0) (rm_putS l Z a0 hw [] t tb kt len bs cp a_ x13_b x13_k x13_N2 cnt x13_ys T13.heap n0 (by omega) f22 P1 f23 f24 f25 f26 r13_0 r13_3 r13_1 r13_5 (by omega) hcs (own_nn hr.1) (own_nn hr.2.2.1) (own_r2 hr r13_7)) hZ (w_148 hw) (w_109 hw) (by decide) (by decide)) (g := (mkF m 30 #[vA a_, vA t, vI len] [(.ref t), (.int cnt), (.ref a_)])) rfl (by rw [hml]; rfl) (Steps.refl _) (a := a_) (cell := cc21) (by rw [e20]; exact ca21) cb21 (argsL := [(.int cnt), (.ref t)]) (rest := []) (lenOf pd_12 rfl) rfl (Nat.le_of_eq rfl) (hb hby d196) (fun _ _ => ⟨rfl, e20, (by decide : 1 + 0 ≤ _), (by decide : 70 + 0 ≤ _)⟩)
  dsimp only [Pt.U, Pt.locs, Pt.cells, Pt.slots] at X21 l21 y21 z21 st21 hQ21
  rw [l21, y21, z21] at X21
  obtain ⟨x21_ys, rfl, Nq21, Kq21, r21_0⟩ := hQ21
  have N21 := Fr.app N13 Nq21
  have z21' := Kq21.1
  have K21 := K13.trans Kq21 (allS (r13_8.elim (fun q => q ▸ (Or.inl (List.mem_of_getElem? (i := 1) rfl))) (fun q => Or.inr (by omega))) all0)
  have lt27 := own_l r21_0.lt
  have f29 := r13_2.keep Kq21 (ninS (fun q => r13_10 q) nin0)
  obtain ⟨T28, X28, e28, st28⟩ := getF X21 hx hZ hown (host := "") (Or.inl (w_137 hw)) Via.refl rfl f29 (g := (mkF m 35 #[vA a_, vA t, vI len] [(.ref a_), (.ref a_)])) rfl rfl (hb hby d199)
  have f31 := r13_0.keep Kq21
  obtain ⟨T30, h30, X30, e30, W30, st30⟩ := putF X28 hx hZ hown (host := "") (Or.inl (w_137 hw)) Via.refl e28 f29 f31 (Or.inl (w_138 hw)) (w_100 hw) (ty := .int) (by decide) rfl rfl (g := (mkF m 40 #[vA a_, vA t, vI len] [(.int (cnt + len)), (.ref a_)])) rfl rfl (hb hby d202)
  have F30 := f29.same W30
  have z30 := W30.size
  have K30 := K21.wr W30 (Or.inl (List.mem_of_getElem? (i := 0) rfl))
  have N30 := Fr.snoc X30 N21 (by omega)
  have f32 := f31.wr W30
  have f33 := r13_1.keep Kq21 (ninS (fun q => r13_10 q) nin0)
  have f34 := f33.other W30 (Or.inr (slot_ne (a0 := a0) (t := .byte) (t' := .int) (Or.inl (w_116 hw)) (Or.inl (w_138 hw)) (by decide) (by decide) (by decide)))
  have f35 := r13_3.keep Kq21 (ninS (fun q => r13_10 q) nin0)
  have f36 := f35.other W30 (Or.inr (slot_ne (a0 := a0) (t := (.array .byte)) (t' := .int) (Or.inl (w_114 hw)) (Or.inl (w_138 hw)) (by decide) (by decide) (by decide)))
  have f37 := r13_4.keep Kq21
  have f38 := f37.wr W30
  have f39 := r21_0.other W30 (fun q => r13_10 q.symm)
  refine ⟨_, _, _, _, some (.ref a_), X30, by decide, by decide, nofun, ?_, fun fs hr => castTop (ef_10 m a_ t) ?_⟩
  · show Q_app Z t tb kt len bs cp a_ v_ kv N cnt xs h0 n0 _ T30.heap _
    rw [(e30 : T30.heap = h30)]
    exact ⟨x13_b, x13_k, x13_N2, x21_ys, rfl, N30, K30, f32, f34, F30, f36, f38, f39, r13_6, r13_7, r13_8, (by omega), (fun q => r13_10 q)⟩
  · show Steps _ _ _ (s₁.setTop (mkF m 0 #[vA a_, vA t, .unset] [])) _
    refine XS.aloadN X0.here hx rfl (hb hby d181) rfl rfl ?_
    show Steps _ _ _ (s₁.setTop (mkF m 1 #[vA a_, vA t, .unset] [(.ref t)])) _
    refine XS.ifnonnullYes X0.here hx rfl (pc0 := 1) (pc' := 9) rfl (hb hby d182) rfl (by decide) (by decide) ?_
    show Steps _ _ _ (s₁.setTop (mkF m 9 #[vA a_, vA t, .unset] [])) _
    refine XS.aloadN X0.here hx rfl (hb hby d183) rfl rfl ?_
    show Steps _ _ _ (s₁.setTop (mkF m 10 #[vA a_, vA t, .unset] [(.ref t)])) _
    refine st11.trans ?_
    show Steps _ _ _ (T11.setTop (mkF m 13 #[vA a_, vA t, .unset] [(.int len)])) _
    refine XS.istoreN X11.here hx rfl (hb hby d185) rfl (l' := #[vA a_, vA t, vI len]) rfl ?_
    show Steps _ _ _ (T11.setTop (mkF m 14 #[vA a_, vA t, vI len] [])) _
    refine XS.aloadN X11.here hx rfl (hb hby d186) rfl rfl ?_
    show Steps _ _ _ (T11.setTop (mkF m 15 #[vA a_, vA t, vI len] [(.ref a_)])) _
    refine XS.aloadN X11.here hx rfl (hb hby d187) rfl rfl ?_
    show Steps _ _ _ (T11.setTop (mkF m 16 #[vA a_, vA t, vI len] [(.ref a_), (.ref a_)])) _
    refine st12 _ ?_
    show Steps _ _ _ (T12.setTop (mkF m 19 #[vA a_, vA t, vI len] [(.int cnt), (.ref a_)])) _
    refine XS.iloadN X12.here hx rfl (hb hby d189) rfl ?_
    show Steps _ _ _ (T12.setTop (mkF m 20 #[vA a_, vA t, vI len] [(.int len), (.int cnt), (.ref a_)])) _
    refine XS.iadd X12.here hx rfl (hb hby d190) rfl ?_
    show Steps _ _ _ (T12.setTop (mkF m 21 #[vA a_, vA t, vI len] [(.int (cnt + len)), (.ref a_)])) _
    refine st13.trans ?_
    show Steps _ _ _ (T13.setTop (mkF m 24 #[vA a_, vA t, vI len] [])) _
    refine XS.aloadN X13.here hx rfl (hb hby d192) rfl rfl ?_
    show Steps _ _ _ (T13.setTop (mkF m 25 #[vA a_, vA t, vI len] [(.ref a_)])) _
    refine XS.aloadN X13.here hx rfl (hb hby d193) rfl rfl ?_
    show Steps _ _ _ (T13.setTop (mkF m 26 #[vA a_, vA t, vI len] [(.ref a_), (.ref a_)])) _
    refine st20 _ ?_
    show Steps _ _ _ (T20.setTop (mkF m 29 #[vA a_, vA t, vI len] [(.int cnt), (.ref a_)])) _
    refine XS.aloadN X20.here hx rfl (hb hby d195) rfl rfl ?_
    show Steps _ _ _ (T20.setTop (mkF m 30 #[vA a_, vA t, vI len] [(.ref t), (.int cnt), (.ref a_)])) _
    refine st21.trans ?_
    show Steps _ _ _ (T21.setTop (mkF m 33 #[vA a_, vA t, vI len] [])) _
    refine XS.aloadN X21.here hx rfl (hb hby d197) rfl rfl ?_
    show Steps _ _ _ (T21.setTop (mkF m 34 #[vA a_, vA t, vI len] [(.ref a_)])) _
    refine XS.dup X21.here hx rfl (hb hby d198) rfl rfl ?_
    show Steps _ _ _ (T21.setTop (mkF m 35 #[vA a_, vA t, vI len] [(.ref a_), (.ref a_)])) _
    refine st28 _ ?_
    show Steps _ _ _ (T28.setTop (mkF m 38 #[vA a_, vA t, vI len] [(.int cnt), (.ref a_)])) _
    refine XS.iloadN X28.here hx rfl (hb hby d200) rfl ?_
    show Steps _ _ _ (T28.setTop (mkF m 39 #[vA a_, vA t, vI len] [(.int len), (.int cnt), (.ref a_)])) _
    refine XS.iadd X28.here hx rfl (hb hby d201) rfl ?_
    show Steps _ _ _ (T28.setTop (mkF m 40 #[vA a_, vA t, vI len] [(.int (cnt + len)), (.ref a_)])) _
    refine st30 _ ?_
    show Steps _ _ _ (T30.setTop (mkF m 43 #[vA a_, vA t, vI len] [])) _
    refine XS.aloadN X30.here hx rfl (hb hby d203) rfl rfl ?_
    show Steps _ _ _ (T30.setTop (mkF m 44 #[vA a_, vA t, vI len] [(.ref a_)])) _
    exact retOut X30 hx hret (own_narrow_ref rfl) (Or.inr (Or.inr (Or.inr (Or.inr ⟨rfl, rfl, rfl⟩)))) (hb hby d204) hr
theorem d205 : decode jdk_67_method_7_code 0 = .ok (.aload_n 0, 1) := by decide +kernel
theorem d206 : decode jdk_67_method_7_code 1 = .ok (.aload_n 1, 1) := by decide +kernel
theorem w_122 {Z : State} {a0 : Array Value} (hw : HW Z a0) : (Jvm.Cond.methodLink "java/lang/StringBuilder" (29 : Nat) m_17).before a0 Z = true := hw _ (List.mem_of_getElem? (i := 122) rfl)
theorem w_126 {Z : State} {a0 : Array Value} (hw : HW Z a0) : (Jvm.Cond.code m_17 jdk_68_method_22_code (3 : Nat) (Option.some (FieldType.object "java/lang/AbstractStringBuilder"))).before a0 Z = true := hw _ (List.mem_of_getElem? (i := 126) rfl)
theorem pd_13 : parseMethodDescriptor "(Ljava/lang/String;)Ljava/lang/AbstractStringBuilder;" = some ⟨[(.object "java/lang/String")], some (.object "java/lang/AbstractStringBuilder")⟩ := by decide +kernel
theorem d207 : decode jdk_67_method_7_code 2 = .ok (.invokespecial 29, 3) := by decide +kernel
theorem w_123 {Z : State} {a0 : Array Value} (hw : HW Z a0) : (Jvm.Cond.instanceMethod m_17).before a0 Z = true := hw _ (List.mem_of_getElem? (i := 123) rfl)
theorem w_124 {Z : State} {a0 : Array Value} (hw : HW Z a0) : (Jvm.Cond.superclass "java/lang/StringBuilder" "java/lang/AbstractStringBuilder").before a0 Z = true := hw _ (List.mem_of_getElem? (i := 124) rfl)
theorem d208 : decode jdk_67_method_7_code 5 = .ok (.pop, 1) := by decide +kernel
theorem d209 : decode jdk_67_method_7_code 6 = .ok (.aload_n 0, 1) := by decide +kernel
theorem d210 : decode jdk_67_method_7_code 7 = .ok (.areturn, 1) := by decide +kernel
theorem pn_7 : plainName "java/lang/StringBuilder" = true := by first | (simp [plainName, overriddenIn]; done) | decide +kernel
abbrev m_18 : MethodName := (⟨"java/lang/StringBuilder", "append", "(Ljava/lang/String;)Ljava/lang/StringBuilder;"⟩ : MethodName)
def Q_aps (Z : State) (t : Addr) (tb : Addr) (kt : ClassId) (len : Int32) (bs : List Value) (cp : Int32) (a_ : Addr) (v_ : Addr) (kv : ClassId) (N : Int32) (cnt : Int32) (xs : List Value) (h0 : Heap) (n0 : Nat) (v : Option Value) (h : Heap) (L : List Loc) : Prop := ∃ (b : Addr) (k : ClassId) (N2 : Int32) (ys : List Value), (v = some (.ref a_)) ∧ (Fr n0 L) ∧ (Keep h0 h [a_, v_]) ∧ (Exa Z h a_ "java/lang/StringBuilder") ∧ (fld3 Z h a_ (.int 0)) ∧ (fld4 Z h a_ (.int (cnt + len))) ∧ (fld2 Z h a_ (.ref b)) ∧ (Exa Z h b "[B") ∧ (Arv Z h b k .byte N2 ys (.int 0)) ∧ (oN N2) ∧ ((cnt + len).toInt ≤ N2.toInt) ∧ (b = v_ ∨ h0.size ≤ b) ∧ (n0 ≤ b) ∧ (a_ ≠ b)
theorem rm_aps (l : Launch) (Z : State) (a0 : Array Value) (hw : HW Z a0) (ws : List Jvm.Cond) (t : Addr) (tb : Addr) (kt : ClassId) (len : Int32) (bs : List Value) (cp : Int32) (a_ : Addr) (v_ : Addr) (kv : ClassId) (N : Int32) (cnt : Int32) (xs : List Value) (h0 : Heap) (n0 : Nat) (Z0 : n0 ≤ h0.size) (P0 : Old Z n0 h0) (P1 : sta0 Z (.int cp)) (P2 : Exa Z h0 t "java/lang/String") (P3 : fld1 Z h0 t (.int 0)) (P4 : fld0 Z h0 t (.ref tb)) (P5 : Arv Z h0 tb kt .byte len bs (.int 0)) (P6 : Exa Z h0 a_ "java/lang/StringBuilder") (P7 : fld2 Z h0 a_ (.ref v_)) (P8 : Exa Z h0 v_ "[B") (P9 : fld3 Z h0 a_ (.int 0)) (P10 : fld4 Z h0 a_ (.int cnt)) (P11 : Arv Z h0 v_ kv .byte N xs (.int 0)) (P12 : n0 ≤ a_) (P13 : n0 ≤ v_) (P14 : a_ ≠ v_) (P15 : tb ≠ a_) (P16 : t ≠ a_) (hcs : ¬ (cp = (0 : Int32))) (hN : oN N) (hr : oR1 cnt len N) :
    MF l Z m_18 jdk_67_method_7_code 2 (some (.object "java/lang/StringBuilder")) ws (oR 5 1 70 76) #[(.ref a_), (.ref t)] h0 (Q_aps Z t tb kt len bs cp a_ v_ kv N cnt xs h0 n0) := by
  refine own_body (cls := "java/lang/StringBuilder") (plainFor_of_name pn_7) rfl (fun p e s m below meth c s₁ hx hby hml hown hnm hret hZ X0 e0 => ?_)
  have N0 := Fr.nil n0
  have K0 := Keep.refl h0 [a_, v_]
  have lt1 := own_l P2.lt
  have lt2 := own_l P3.lt
  have lt3 := own_l P4.lt
  have lt4 := own_l P5.lt
  have lt5 := own_l P6.lt
  have lt6 := own_l P7.lt
  have lt7 := own_l P8.lt
  have lt8 := own_l P9.lt
  have lt9 := own_l P10.lt
  have lt10 := own_l P11.lt
  obtain ⟨_, _, ⟨T11, L11, k11, n11⟩, -, X11, ⟨Lc11, hQ11, l11, y11, z11⟩, st11⟩ := superBack X0 hx hZ (y := m_17) hown (w_122 hw) (own_sameOwn (by decide) (w_123 hw) (w_140 hw) (notFace_of_selects (args := a0) (w_142 hw)) rfl) (w_123 hw) (w_124 hw) (by decide) (backOf (W := 0) (rm_app l Z a0 hw [] t tb kt len bs cp a_ v_ kv N cnt xs h0 n0 (by omega) P0 P1 P2 P3 P4 P5 P6 P7 P8 P9 P10 P11 (by omega) (by omega) (fun q => P14 q) (fun q => P15 q) (fun q => P16 q) hcs hN hr) hZ (w_126 hw) (w_109 hw) (by decide) (by decide)) e0 (Ins.self P6) (g := (mkF m 2 #[vA a_, vA t] [(.ref t), (.ref a_)])) rfl (by rw [hml]; rfl) (w_126 hw) (argsL := [(.ref t)]) (rest := []) (lenOf pd_13 rfl) rfl (Nat.le_of_eq rfl) (hb hby d207) (fun _ _ => ⟨rfl, e0, (by decide : 0 + 1 ≤ _), (by decide : 0 + 70 ≤ _)⟩)
  dsimp only [Pt.U, Pt.locs, Pt.cells, Pt.slots] at X11 l11 y11 z11 st11 hQ11
  rw [l11, y11, z11] at X11
  obtain ⟨x11_b, x11_k, x11_N2, x11_ys, rfl, Nq11, Kq11, r11_0, r11_1, r11_2, r11_3, r11_4, r11_5, r11_6, r11_7, r11_8, r11_9, r11_10⟩ := hQ11
  have N11 := Fr.app N0 Nq11
  have z11' := Kq11.1
  have K11 := K0.trans Kq11 (allS (Or.inl (List.mem_of_getElem? (i := 0) rfl)) (allS (Or.inl (List.mem_of_getElem? (i := 1) rfl)) all0))
  have lt12 := own_l r11_0.lt
  have lt13 := own_l r11_1.lt
  have lt14 := own_l r11_2.lt
  have lt15 := own_l r11_3.lt
  have lt16 := own_l r11_4.lt
  have lt17 := own_l r11_5.lt
  have oe11_8 := own_or r11_8
  refine ⟨_, _, _, _, some (.ref a_), X11, by decide, by decide, nofun, ?_, fun fs hr => castTop (ef_7 m a_ t) ?_⟩
  · show Q_aps Z t tb kt len bs cp a_ v_ kv N cnt xs h0 n0 _ T11.heap _
    exact ⟨x11_b, x11_k, x11_N2, x11_ys, rfl, N11, K11, r11_0, r11_1, r11_2, r11_3, r11_4, r11_5, r11_6, r11_7, r11_8, (by omega), (fun q => r11_10 q)⟩
  · show Steps _ _ _ (s₁.setTop (mkF m 0 #[vA a_, vA t] [])) _
    refine XS.aloadN X0.here hx rfl (hb hby d205) rfl rfl ?_
    show Steps _ _ _ (s₁.setTop (mkF m 1 #[vA a_, vA t] [(.ref a_)])) _
    refine XS.aloadN X0.here hx rfl (hb hby d206) rfl rfl ?_
    show Steps _ _ _ (s₁.setTop (mkF m 2 #[vA a_, vA t] [(.ref t), (.ref a_)])) _
    refine st11.trans ?_
    show Steps _ _ _ (T11.setTop (mkF m 5 #[vA a_, vA t] [(.ref a_)])) _
    refine XS.pop X11.here hx rfl (hb hby d208) rfl rfl ?_
    show Steps _ _ _ (T11.setTop (mkF m 6 #[vA a_, vA t] [])) _
    refine XS.aloadN X11.here hx rfl (hb hby d209) rfl rfl ?_
    show Steps _ _ _ (T11.setTop (mkF m 7 #[vA a_, vA t] [(.ref a_)])) _
    exact retOut X11 hx hret (own_narrow_ref rfl) (Or.inr (Or.inr (Or.inr (Or.inr ⟨rfl, rfl, rfl⟩)))) (hb hby d210) hr
theorem d211 : decode jdk_33_method_13_code 0 = .ok (.iconst 1, 1) := by decide +kernel
theorem d212 : decode jdk_33_method_13_code 1 = .ok (.istore_n 1, 1) := by decide +kernel
theorem d213 : decode jdk_33_method_13_code 2 = .ok (.iload_n 0, 1) := by decide +kernel
theorem d214 : decode jdk_33_method_13_code 3 = .ok (.ifCond .lt 8, 3) := by decide +kernel
theorem d215 : decode jdk_33_method_13_code 6 = .ok (.iconst 0, 1) := by decide +kernel
theorem d216 : decode jdk_33_method_13_code 7 = .ok (.istore_n 1, 1) := by decide +kernel
theorem d217 : decode jdk_33_method_13_code 8 = .ok (.iload_n 0, 1) := by decide +kernel
theorem d218 : decode jdk_33_method_13_code 9 = .ok (.ineg, 1) := by decide +kernel
theorem d219 : decode jdk_33_method_13_code 10 = .ok (.istore_n 0, 1) := by decide +kernel
theorem d220 : decode jdk_33_method_13_code 11 = .ok (.bipush (-10), 2) := by decide +kernel
theorem d221 : decode jdk_33_method_13_code 13 = .ok (.istore_n 2, 1) := by decide +kernel
theorem d222 : decode jdk_33_method_13_code 14 = .ok (.iconst 1, 1) := by decide +kernel
theorem d223 : decode jdk_33_method_13_code 15 = .ok (.istore_n 3, 1) := by decide +kernel
theorem d224 : decode jdk_33_method_13_code 16 = .ok (.iload_n 3, 1) := by decide +kernel
theorem d225 : decode jdk_33_method_13_code 17 = .ok (.bipush 10, 2) := by decide +kernel
theorem d226 : decode jdk_33_method_13_code 19 = .ok (.if_icmp .ge 23, 3) := by decide +kernel
theorem d227 : decode jdk_33_method_13_code 22 = .ok (.iload_n 0, 1) := by decide +kernel
theorem d228 : decode jdk_33_method_13_code 23 = .ok (.iload_n 2, 1) := by decide +kernel
theorem d229 : decode jdk_33_method_13_code 24 = .ok (.if_icmp .le 7, 3) := by decide +kernel
theorem d230 : decode jdk_33_method_13_code 27 = .ok (.iload_n 3, 1) := by decide +kernel
theorem d231 : decode jdk_33_method_13_code 28 = .ok (.iload_n 1, 1) := by decide +kernel
theorem d232 : decode jdk_33_method_13_code 29 = .ok (.iadd, 1) := by decide +kernel
theorem d233 : decode jdk_33_method_13_code 30 = .ok (.ireturn, 1) := by decide +kernel
theorem pn_8 : plainName "java/lang/Integer" = true := by first | (simp [plainName, overriddenIn]; done) | decide +kernel
theorem ef_11 (m : MethodId) (x0 : Int32) : entryFrame m #[(.int x0)] 4 = mkF m 0 #[vI x0, .unset, .unset, .unset] [] := by first | (simp [entryFrame, mkF, argsToLocals, Value.category, maxLocals]; done) | rfl
abbrev m_19 : MethodName := (⟨"java/lang/Integer", "stringSize", "(I)I"⟩ : MethodName)
def Q_ssz (Z : State) (w0 : Int32) (h0 : Heap) (n0 : Nat) (v : Option Value) (h : Heap) (L : List Loc) : Prop := ∃ (sz : Int32), (v = some (.int sz)) ∧ (Fr n0 L) ∧ (h = h0) ∧ (1 ≤ sz.toInt ∧ sz.toInt ≤ 10)
theorem rm_ssz_1 (l : Launch) (Z : State) (a0 : Array Value) (hw : HW Z a0) (ws : List Jvm.Cond) (w0 : Int32) (h0 : Heap) (n0 : Nat) (Z0 : n0 ≤ h0.size) (hw0 : ¬ (w0 < (0 : Int32))) (q1 : (-10 : Int32) < (-w0)) :
    MF l Z m_19 jdk_33_method_13_code 4 (some .int) ws (oR 0 0 0 0) #[(.int w0)] h0 (Q_ssz Z w0 h0 n0) := by
  refine own_body (cls := "java/lang/Integer") (plainFor_of_name pn_8) rfl (fun p e s m below meth c s₁ hx hby hml hown hnm hret hZ X0 e0 => ?_)
  have N0 := Fr.nil n0
  refine ⟨_, _, _, _, some (.int 1), X0, by decide, by decide, nofun, ?_, fun fs hr => castTop (ef_11 m w0) ?_⟩
  · show Q_ssz Z w0 h0 n0 _ s₁.heap _
    rw [(e0 : s₁.heap = h0)]
    exact ⟨(1 : Int32), rfl, N0, rfl, (by decide)⟩
  · show Steps _ _ _ (s₁.setTop (mkF m 0 #[vI w0, .unset, .unset, .unset] [])) _
    refine XS.iconst X0.here hx rfl (hb hby d211) ?_
    show Steps _ _ _ (s₁.setTop (mkF m 1 #[vI w0, .unset, .unset, .unset] [(.int 1)])) _
    refine XS.istoreN X0.here hx rfl (hb hby d212) rfl (l' := #[vI w0, vI 1, .unset, .unset]) rfl ?_
    show Steps _ _ _ (s₁.setTop (mkF m 2 #[vI w0, vI 1, .unset, .unset] [])) _
    refine XS.iloadN X0.here hx rfl (hb hby d213) rfl ?_
    show Steps _ _ _ (s₁.setTop (mkF m 3 #[vI w0, vI 1, .unset, .unset] [(.int w0)])) _
    refine XS.ifNo X0.here hx rfl (hb hby d214) rfl ((if0 _ _).trans (flt (hw0 : ¬ (w0 < (0 : Int32)))).1) ?_
    show Steps _ _ _ (s₁.setTop (mkF m 6 #[vI w0, vI 1, .unset, .unset] [])) _
    refine XS.iconst X0.here hx rfl (hb hby d215) ?_
    show Steps _ _ _ (s₁.setTop (mkF m 7 #[vI w0, vI 1, .unset, .unset] [(.int 0)])) _
    refine XS.istoreN X0.here hx rfl (hb hby d216) rfl (l' := #[vI w0, vI 0, .unset, .unset]) rfl ?_
    show Steps _ _ _ (s₁.setTop (mkF m 8 #[vI w0, vI 0, .unset, .unset] [])) _
    refine XS.iloadN X0.here hx rfl (hb hby d217) rfl ?_
    show Steps _ _ _ (s₁.setTop (mkF m 9 #[vI w0, vI 0, .unset, .unset] [(.int w0)])) _
    refine XS.ineg X0.here hx rfl (hb hby d218) rfl ?_
    show Steps _ _ _ (s₁.setTop (mkF m 10 #[vI w0, vI 0, .unset, .unset] [(.int (-w0))])) _
    refine XS.istoreN X0.here hx rfl (hb hby d219) rfl (l' := #[.val (.int (-w0)), vI 0, .unset, .unset]) rfl ?_
    show Steps _ _ _ (s₁.setTop (mkF m 11 #[.val (.int (-w0)), vI 0, .unset, .unset] [])) _
    refine XS.bipush X0.here hx rfl (hb hby d220) ?_
    show Steps _ _ _ (s₁.setTop (mkF m 13 #[.val (.int (-w0)), vI 0, .unset, .unset] [(.int (-10))])) _
    refine XS.istoreN X0.here hx rfl (hb hby d221) rfl (l' := #[.val (.int (-w0)), vI 0, .val (.int (-10)), .unset]) rfl ?_
    show Steps _ _ _ (s₁.setTop (mkF m 14 #[.val (.int (-w0)), vI 0, .val (.int (-10)), .unset] [])) _
    refine XS.iconst X0.here hx rfl (hb hby d222) ?_
    show Steps _ _ _ (s₁.setTop (mkF m 15 #[.val (.int (-w0)), vI 0, .val (.int (-10)), .unset] [(.int 1)])) _
    refine XS.istoreN X0.here hx rfl (hb hby d223) rfl (l' := #[.val (.int (-w0)), vI 0, .val (.int (-10)), vI 1]) rfl ?_
    show Steps _ _ _ (s₁.setTop (mkF m 16 #[.val (.int (-w0)), vI 0, .val (.int (-10)), vI 1] [])) _
    refine XS.iloadN X0.here hx rfl (hb hby d224) rfl ?_
    show Steps _ _ _ (s₁.setTop (mkF m 17 #[.val (.int (-w0)), vI 0, .val (.int (-10)), vI 1] [(.int 1)])) _
    refine XS.bipush X0.here hx rfl (hb hby d225) ?_
    show Steps _ _ _ (s₁.setTop (mkF m 19 #[.val (.int (-w0)), vI 0, .val (.int (-10)), vI 1] [(.int 10), (.int 1)])) _
    refine XS.icmpNo X0.here hx rfl (hb hby d226) rfl (tlt ((by decide) : (1 : Int32) < (10 : Int32))).2.1 ?_
    show Steps _ _ _ (s₁.setTop (mkF m 22 #[.val (.int (-w0)), vI 0, .val (.int (-10)), vI 1] [])) _
    refine XS.iloadN X0.here hx rfl (hb hby d227) rfl ?_
    show Steps _ _ _ (s₁.setTop (mkF m 23 #[.val (.int (-w0)), vI 0, .val (.int (-10)), vI 1] [(.int (-w0))])) _
    refine XS.iloadN X0.here hx rfl (hb hby d228) rfl ?_
    show Steps _ _ _ (s₁.setTop (mkF m 24 #[.val (.int (-w0)), vI 0, .val (.int (-10)), vI 1] [(.int (-10)), (.int (-w0))])) _
    refine XS.icmpNo X0.here hx rfl (hb hby d229) rfl (tlt (q1 : (-10 : Int32) < (-w0))).2.2.2 ?_
    show Steps _ _ _ (s₁.setTop (mkF m 27 #[.val (.int (-w0)), vI 0, .val (.int (-10)), vI 1] [])) _
    refine XS.iloadN X0.here hx rfl (hb hby d230) rfl ?_
    show Steps _ _ _ (s₁.setTop (mkF m 28 #[.val (.int (-w0)), vI 0, .val (.int (-10)), vI 1] [(.int 1)])) _
    refine XS.iloadN X0.here hx rfl (hb hby d231) rfl ?_
    show Steps _ _ _ (s₁.setTop (mkF m 29 #[.val (.int (-w0)), vI 0, .val (.int (-10)), vI 1] [(.int 0), (.int 1)])) _
    refine XS.iadd X0.here hx rfl (hb hby d232) rfl ?_
    show Steps _ _ _ (s₁.setTop (mkF m 30 #[.val (.int (-w0)), vI 0, .val (.int (-10)), vI 1] [(.int 1)])) _
    exact retI X0 hx hret (hb hby d233) hr
theorem d234 : decode jdk_33_method_13_code 31 = .ok (.bipush 10, 2) := by decide +kernel
theorem d235 : decode jdk_33_method_13_code 33 = .ok (.iload_n 2, 1) := by decide +kernel
theorem d236 : decode jdk_33_method_13_code 34 = .ok (.imul, 1) := by decide +kernel
theorem d237 : decode jdk_33_method_13_code 35 = .ok (.istore_n 2, 1) := by decide +kernel
theorem d238 : decode jdk_33_method_13_code 36 = .ok (.iinc 3 1, 3) := by decide +kernel
theorem d239 : decode jdk_33_method_13_code 39 = .ok (.goto (-23), 3) := by decide +kernel
theorem rm_ssz_2 (l : Launch) (Z : State) (a0 : Array Value) (hw : HW Z a0) (ws : List Jvm.Cond) (w0 : Int32) (h0 : Heap) (n0 : Nat) (Z0 : n0 ≤ h0.size) (hw0 : ¬ (w0 < (0 : Int32))) (q1 : ¬ ((-10 : Int32) < (-w0))) (q2 : (-100 : Int32) < (-w0)) :
    MF l Z m_19 jdk_33_method_13_code 4 (some .int) ws (oR 0 0 0 0) #[(.int w0)] h0 (Q_ssz Z w0 h0 n0) := by
  refine own_body (cls := "java/lang/Integer") (plainFor_of_name pn_8) rfl (fun p e s m below meth c s₁ hx hby hml hown hnm hret hZ X0 e0 => ?_)
  have N0 := Fr.nil n0
  refine ⟨_, _, _, _, some (.int 2), X0, by decide, by decide, nofun, ?_, fun fs hr => castTop (ef_11 m w0) ?_⟩
  · show Q_ssz Z w0 h0 n0 _ s₁.heap _
    rw [(e0 : s₁.heap = h0)]
    exact ⟨(2 : Int32), rfl, N0, rfl, (by decide)⟩
  · show Steps _ _ _ (s₁.setTop (mkF m 0 #[vI w0, .unset, .unset, .unset] [])) _
    refine XS.iconst X0.here hx rfl (hb hby d211) ?_
    show Steps _ _ _ (s₁.setTop (mkF m 1 #[vI w0, .unset, .unset, .unset] [(.int 1)])) _
    refine XS.istoreN X0.here hx rfl (hb hby d212) rfl (l' := #[vI w0, vI 1, .unset, .unset]) rfl ?_
    show Steps _ _ _ (s₁.setTop (mkF m 2 #[vI w0, vI 1, .unset, .unset] [])) _
    refine XS.iloadN X0.here hx rfl (hb hby d213) rfl ?_
    show Steps _ _ _ (s₁.setTop (mkF m 3 #[vI w0, vI 1, .unset, .unset] [(.int w0)])) _
    refine XS.ifNo X0.here hx rfl (hb hby d214) rfl ((if0 _ _).trans (flt (hw0 : ¬ (w0 < (0 : Int32)))).1) ?_
    show Steps _ _ _ (s₁.setTop (mkF m 6 #[vI w0, vI 1, .unset, .unset] [])) _
    refine XS.iconst X0.here hx rfl (hb hby d215) ?_
    show Steps _ _ _ (s₁.setTop (mkF m 7 #[vI w0, vI 1, .unset, .unset] [(.int 0)])) _
    refine XS.istoreN X0.here hx rfl (hb hby d216) rfl (l' := #[vI w0, vI 0, .unset, .unset]) rfl ?_
    show Steps _ _ _ (s₁.setTop (mkF m 8 #[vI w0, vI 0, .unset, .unset] [])) _
    refine XS.iloadN X0.here hx rfl (hb hby d217) rfl ?_
    show Steps _ _ _ (s₁.setTop (mkF m 9 #[vI w0, vI 0, .unset, .unset] [(.int w0)])) _
    refine XS.ineg X0.here hx rfl (hb hby d218) rfl ?_
    show Steps _ _ _ (s₁.setTop (mkF m 10 #[vI w0, vI 0, .unset, .unset] [(.int (-w0))])) _
    refine XS.istoreN X0.here hx rfl (hb hby d219) rfl (l' := #[.val (.int (-w0)), vI 0, .unset, .unset]) rfl ?_
    show Steps _ _ _ (s₁.setTop (mkF m 11 #[.val (.int (-w0)), vI 0, .unset, .unset] [])) _
    refine XS.bipush X0.here hx rfl (hb hby d220) ?_
    show Steps _ _ _ (s₁.setTop (mkF m 13 #[.val (.int (-w0)), vI 0, .unset, .unset] [(.int (-10))])) _
    refine XS.istoreN X0.here hx rfl (hb hby d221) rfl (l' := #[.val (.int (-w0)), vI 0, .val (.int (-10)), .unset]) rfl ?_
    show Steps _ _ _ (s₁.setTop (mkF m 14 #[.val (.int (-w0)), vI 0, .val (.int (-10)), .unset] [])) _
    refine XS.iconst X0.here hx rfl (hb hby d222) ?_
    show Steps _ _ _ (s₁.setTop (mkF m 15 #[.val (.int (-w0)), vI 0, .val (.int (-10)), .unset] [(.int 1)])) _
    refine XS.istoreN X0.here hx rfl (hb hby d223) rfl (l' := #[.val (.int (-w0)), vI 0, .val (.int (-10)), vI 1]) rfl ?_
    show Steps _ _ _ (s₁.setTop (mkF m 16 #[.val (.int (-w0)), vI 0, .val (.int (-10)), vI 1] [])) _
    refine XS.iloadN X0.here hx rfl (hb hby d224) rfl ?_
    show Steps _ _ _ (s₁.setTop (mkF m 17 #[.val (.int (-w0)), vI 0, .val (.int (-10)), vI 1] [(.int 1)])) _
    refine XS.bipush X0.here hx rfl (hb hby d225) ?_
    show Steps _ _ _ (s₁.setTop (mkF m 19 #[.val (.int (-w0)), vI 0, .val (.int (-10)), vI 1] [(.int 10), (.int 1)])) _
    refine XS.icmpNo X0.here hx rfl (hb hby d226) rfl (tlt ((by decide) : (1 : Int32) < (10 : Int32))).2.1 ?_
    show Steps _ _ _ (s₁.setTop (mkF m 22 #[.val (.int (-w0)), vI 0, .val (.int (-10)), vI 1] [])) _
    refine XS.iloadN X0.here hx rfl (hb hby d227) rfl ?_
    show Steps _ _ _ (s₁.setTop (mkF m 23 #[.val (.int (-w0)), vI 0, .val (.int (-10)), vI 1] [(.int (-w0))])) _
    refine XS.iloadN X0.here hx rfl (hb hby d228) rfl ?_
    show Steps _ _ _ (s₁.setTop (mkF m 24 #[.val (.int (-w0)), vI 0, .val (.int (-10)), vI 1] [(.int (-10)), (.int (-w0))])) _
    refine XS.icmpYes X0.here hx rfl (pc0 := 24) (pc' := 31) rfl (hb hby d229) rfl (flt (q1 : ¬ ((-10 : Int32) < (-w0)))).2.2.2 (by decide) (by decide) ?_
    show Steps _ _ _ (s₁.setTop (mkF m 31 #[.val (.int (-w0)), vI 0, .val (.int (-10)), vI 1] [])) _
    refine XS.bipush X0.here hx rfl (hb hby d234) ?_
    show Steps _ _ _ (s₁.setTop (mkF m 33 #[.val (.int (-w0)), vI 0, .val (.int (-10)), vI 1] [(.int 10)])) _
    refine XS.iloadN X0.here hx rfl (hb hby d235) rfl ?_
    show Steps _ _ _ (s₁.setTop (mkF m 34 #[.val (.int (-w0)), vI 0, .val (.int (-10)), vI 1] [(.int (-10)), (.int 10)])) _
    refine XS.imul X0.here hx rfl (hb hby d236) rfl ?_
    show Steps _ _ _ (s₁.setTop (mkF m 35 #[.val (.int (-w0)), vI 0, .val (.int (-10)), vI 1] [(.int (-100))])) _
    refine XS.istoreN X0.here hx rfl (hb hby d237) rfl (l' := #[.val (.int (-w0)), vI 0, .val (.int (-100)), vI 1]) rfl ?_
    show Steps _ _ _ (s₁.setTop (mkF m 36 #[.val (.int (-w0)), vI 0, .val (.int (-100)), vI 1] [])) _
    refine XS.iinc X0.here hx rfl (hb hby d238) rfl (l' := #[.val (.int (-w0)), vI 0, .val (.int (-100)), vI 2]) rfl ?_
    show Steps _ _ _ (s₁.setTop (mkF m 39 #[.val (.int (-w0)), vI 0, .val (.int (-100)), vI 2] [])) _
    refine XS.goto X0.here hx rfl (pc0 := 39) (pc' := 16) rfl (hb hby d239) (by decide) (by decide) ?_
    show Steps _ _ _ (s₁.setTop (mkF m 16 #[.val (.int (-w0)), vI 0, .val (.int (-100)), vI 2] [])) _
    refine XS.iloadN X0.here hx rfl (hb hby d224) rfl ?_
    show Steps _ _ _ (s₁.setTop (mkF m 17 #[.val (.int (-w0)), vI 0, .val (.int (-100)), vI 2] [(.int 2)])) _
    refine XS.bipush X0.here hx rfl (hb hby d225) ?_
    show Steps _ _ _ (s₁.setTop (mkF m 19 #[.val (.int (-w0)), vI 0, .val (.int (-100)), vI 2] [(.int 10), (.int 2)])) _
    refine XS.icmpNo X0.here hx rfl (hb hby d226) rfl (tlt ((by decide) : (2 : Int32) < (10 : Int32))).2.1 ?_
    show Steps _ _ _ (s₁.setTop (mkF m 22 #[.val (.int (-w0)), vI 0, .val (.int (-100)), vI 2] [])) _
    refine XS.iloadN X0.here hx rfl (hb hby d227) rfl ?_
    show Steps _ _ _ (s₁.setTop (mkF m 23 #[.val (.int (-w0)), vI 0, .val (.int (-100)), vI 2] [(.int (-w0))])) _
    refine XS.iloadN X0.here hx rfl (hb hby d228) rfl ?_
    show Steps _ _ _ (s₁.setTop (mkF m 24 #[.val (.int (-w0)), vI 0, .val (.int (-100)), vI 2] [(.int (-100)), (.int (-w0))])) _
    refine XS.icmpNo X0.here hx rfl (hb hby d229) rfl (tlt (q2 : (-100 : Int32) < (-w0))).2.2.2 ?_
    show Steps _ _ _ (s₁.setTop (mkF m 27 #[.val (.int (-w0)), vI 0, .val (.int (-100)), vI 2] [])) _
    refine XS.iloadN X0.here hx rfl (hb hby d230) rfl ?_
    show Steps _ _ _ (s₁.setTop (mkF m 28 #[.val (.int (-w0)), vI 0, .val (.int (-100)), vI 2] [(.int 2)])) _
    refine XS.iloadN X0.here hx rfl (hb hby d231) rfl ?_
    show Steps _ _ _ (s₁.setTop (mkF m 29 #[.val (.int (-w0)), vI 0, .val (.int (-100)), vI 2] [(.int 0), (.int 2)])) _
    refine XS.iadd X0.here hx rfl (hb hby d232) rfl ?_
    show Steps _ _ _ (s₁.setTop (mkF m 30 #[.val (.int (-w0)), vI 0, .val (.int (-100)), vI 2] [(.int 2)])) _
    exact retI X0 hx hret (hb hby d233) hr
theorem rm_ssz_3 (l : Launch) (Z : State) (a0 : Array Value) (hw : HW Z a0) (ws : List Jvm.Cond) (w0 : Int32) (h0 : Heap) (n0 : Nat) (Z0 : n0 ≤ h0.size) (hw0 : ¬ (w0 < (0 : Int32))) (q1 : ¬ ((-10 : Int32) < (-w0))) (q2 : ¬ ((-100 : Int32) < (-w0))) (q3 : (-1000 : Int32) < (-w0)) :
    MF l Z m_19 jdk_33_method_13_code 4 (some .int) ws (oR 0 0 0 0) #[(.int w0)] h0 (Q_ssz Z w0 h0 n0) := by
  refine own_body (cls := "java/lang/Integer") (plainFor_of_name pn_8) rfl (fun p e s m below meth c s₁ hx hby hml hown hnm hret hZ X0 e0 => ?_)
  have N0 := Fr.nil n0
  refine ⟨_, _, _, _, some (.int 3), X0, by decide, by decide, nofun, ?_, fun fs hr => castTop (ef_11 m w0) ?_⟩
  · show Q_ssz Z w0 h0 n0 _ s₁.heap _
    rw [(e0 : s₁.heap = h0)]
    exact ⟨(3 : Int32), rfl, N0, rfl, (by decide)⟩
  · show Steps _ _ _ (s₁.setTop (mkF m 0 #[vI w0, .unset, .unset, .unset] [])) _
    refine XS.iconst X0.here hx rfl (hb hby d211) ?_
    show Steps _ _ _ (s₁.setTop (mkF m 1 #[vI w0, .unset, .unset, .unset] [(.int 1)])) _
    refine XS.istoreN X0.here hx rfl (hb hby d212) rfl (l' := #[vI w0, vI 1, .unset, .unset]) rfl ?_
    show Steps _ _ _ (s₁.setTop (mkF m 2 #[vI w0, vI 1, .unset, .unset] [])) _
    refine XS.iloadN X0.here hx rfl (hb hby d213) rfl ?_
    show Steps _ _ _ (s₁.setTop (mkF m 3 #[vI w0, vI 1, .unset, .unset] [(.int w0)])) _
    refine XS.ifNo X0.here hx rfl (hb hby d214) rfl ((if0 _ _).trans (flt (hw0 : ¬ (w0 < (0 : Int32)))).1) ?_
    show Steps _ _ _ (s₁.setTop (mkF m 6 #[vI w0, vI 1, .unset, .unset] [])) _
    refine XS.iconst X0.here hx rfl (hb hby d215) ?_
    show Steps _ _ _ (s₁.setTop (mkF m 7 #[vI w0, vI 1, .unset, .unset] [(.int 0)])) _
    refine XS.istoreN X0.here hx rfl (hb hby d216) rfl (l' := #[vI w0, vI 0, .unset, .unset]) rfl ?_
    show Steps _ _ _ (s₁.setTop (mkF m 8 #[vI w0, vI 0, .unset, .unset] [])) _
    refine XS.iloadN X0.here hx rfl (hb hby d217) rfl ?_
    show Steps _ _ _ (s₁.setTop (mkF m 9 #[vI w0, vI 0, .unset, .unset] [(.int w0)])) _
    refine XS.ineg X0.here hx rfl (hb hby d218) rfl ?_
    show Steps _ _ _ (s₁.setTop (mkF m 10 #[vI w0, vI 0, .unset, .unset] [(.int (-w0))])) _
    refine XS.istoreN X0.here hx rfl (hb hby d219) rfl (l' := #[.val (.int (-w0)), vI 0, .unset, .unset]) rfl ?_
    show Steps _ _ _ (s₁.setTop (mkF m 11 #[.val (.int (-w0)), vI 0, .unset, .unset] [])) _
    refine XS.bipush X0.here hx rfl (hb hby d220) ?_
    show Steps _ _ _ (s₁.setTop (mkF m 13 #[.val (.int (-w0)), vI 0, .unset, .unset] [(.int (-10))])) _
    refine XS.istoreN X0.here hx rfl (hb hby d221) rfl (l' := #[.val (.int (-w0)), vI 0, .val (.int (-10)), .unset]) rfl ?_
    show Steps _ _ _ (s₁.setTop (mkF m 14 #[.val (.int (-w0)), vI 0, .val (.int (-10)), .unset] [])) _
    refine XS.iconst X0.here hx rfl (hb hby d222) ?_
    show Steps _ _ _ (s₁.setTop (mkF m 15 #[.val (.int (-w0)), vI 0, .val (.int (-10)), .unset] [(.int 1)])) _
    refine XS.istoreN X0.here hx rfl (hb hby d223) rfl (l' := #[.val (.int (-w0)), vI 0, .val (.int (-10)), vI 1]) rfl ?_
    show Steps _ _ _ (s₁.setTop (mkF m 16 #[.val (.int (-w0)), vI 0, .val (.int (-10)), vI 1] [])) _
    refine XS.iloadN X0.here hx rfl (hb hby d224) rfl ?_
    show Steps _ _ _ (s₁.setTop (mkF m 17 #[.val (.int (-w0)), vI 0, .val (.int (-10)), vI 1] [(.int 1)])) _
    refine XS.bipush X0.here hx rfl (hb hby d225) ?_
    show Steps _ _ _ (s₁.setTop (mkF m 19 #[.val (.int (-w0)), vI 0, .val (.int (-10)), vI 1] [(.int 10), (.int 1)])) _
    refine XS.icmpNo X0.here hx rfl (hb hby d226) rfl (tlt ((by decide) : (1 : Int32) < (10 : Int32))).2.1 ?_
    show Steps _ _ _ (s₁.setTop (mkF m 22 #[.val (.int (-w0)), vI 0, .val (.int (-10)), vI 1] [])) _
    refine XS.iloadN X0.here hx rfl (hb hby d227) rfl ?_
    show Steps _ _ _ (s₁.setTop (mkF m 23 #[.val (.int (-w0)), vI 0, .val (.int (-10)), vI 1] [(.int (-w0))])) _
    refine XS.iloadN X0.here hx rfl (hb hby d228) rfl ?_
    show Steps _ _ _ (s₁.setTop (mkF m 24 #[.val (.int (-w0)), vI 0, .val (.int (-10)), vI 1] [(.int (-10)), (.int (-w0))])) _
    refine XS.icmpYes X0.here hx rfl (pc0 := 24) (pc' := 31) rfl (hb hby d229) rfl (flt (q1 : ¬ ((-10 : Int32) < (-w0)))).2.2.2 (by decide) (by decide) ?_
    show Steps _ _ _ (s₁.setTop (mkF m 31 #[.val (.int (-w0)), vI 0, .val (.int (-10)), vI 1] [])) _
    refine XS.bipush X0.here hx rfl (hb hby d234) ?_
    show Steps _ _ _ (s₁.setTop (mkF m 33 #[.val (.int (-w0)), vI 0, .val (.int (-10)), vI 1] [(.int 10)])) _
    refine XS.iloadN X0.here hx rfl (hb hby d235) rfl ?_
    show Steps _ _ _ (s₁.setTop (mkF m 34 #[.val (.int (-w0)), vI 0, .val (.int (-10)), vI 1] [(.int (-10)), (.int 10)])) _
    refine XS.imul X0.here hx rfl (hb hby d236) rfl ?_
    show Steps _ _ _ (s₁.setTop (mkF m 35 #[.val (.int (-w0)), vI 0, .val (.int (-10)), vI 1] [(.int (-100))])) _
    refine XS.istoreN X0.here hx rfl (hb hby d237) rfl (l' := #[.val (.int (-w0)), vI 0, .val (.int (-100)), vI 1]) rfl ?_
    show Steps _ _ _ (s₁.setTop (mkF m 36 #[.val (.int (-w0)), vI 0, .val (.int (-100)), vI 1] [])) _
    refine XS.iinc X0.here hx rfl (hb hby d238) rfl (l' := #[.val (.int (-w0)), vI 0, .val (.int (-100)), vI 2]) rfl ?_
    show Steps _ _ _ (s₁.setTop (mkF m 39 #[.val (.int (-w0)), vI 0, .val (.int (-100)), vI 2] [])) _
    refine XS.goto X0.here hx rfl (pc0 := 39) (pc' := 16) rfl (hb hby d239) (by decide) (by decide) ?_
    show Steps _ _ _ (s₁.setTop (mkF m 16 #[.val (.int (-w0)), vI 0, .val (.int (-100)), vI 2] [])) _
    refine XS.iloadN X0.here hx rfl (hb hby d224) rfl ?_
    show Steps _ _ _ (s₁.setTop (mkF m 17 #[.val (.int (-w0)), vI 0, .val (.int (-100)), vI 2] [(.int 2)])) _
    refine XS.bipush X0.here hx rfl (hb hby d225) ?_
    show Steps _ _ _ (s₁.setTop (mkF m 19 #[.val (.int (-w0)), vI 0, .val (.int (-100)), vI 2] [(.int 10), (.int 2)])) _
    refine XS.icmpNo X0.here hx rfl (hb hby d226) rfl (tlt ((by decide) : (2 : Int32) < (10 : Int32))).2.1 ?_
    show Steps _ _ _ (s₁.setTop (mkF m 22 #[.val (.int (-w0)), vI 0, .val (.int (-100)), vI 2] [])) _
    refine XS.iloadN X0.here hx rfl (hb hby d227) rfl ?_
    show Steps _ _ _ (s₁.setTop (mkF m 23 #[.val (.int (-w0)), vI 0, .val (.int (-100)), vI 2] [(.int (-w0))])) _
    refine XS.iloadN X0.here hx rfl (hb hby d228) rfl ?_
    show Steps _ _ _ (s₁.setTop (mkF m 24 #[.val (.int (-w0)), vI 0, .val (.int (-100)), vI 2] [(.int (-100)), (.int (-w0))])) _
    refine XS.icmpYes X0.here hx rfl (pc0 := 24) (pc' := 31) rfl (hb hby d229) rfl (flt (q2 : ¬ ((-100 : Int32) < (-w0)))).2.2.2 (by decide) (by decide) ?_
    show Steps _ _ _ (s₁.setTop (mkF m 31 #[.val (.int (-w0)), vI 0, .val (.int (-100)), vI 2] [])) _
    refine XS.bipush X0.here hx rfl (hb hby d234) ?_
    show Steps _ _ _ (s₁.setTop (mkF m 33 #[.val (.int (-w0)), vI 0, .val (.int (-100)), vI 2] [(.int 10)])) _
    refine XS.iloadN X0.here hx rfl (hb hby d235) rfl ?_
    show Steps _ _ _ (s₁.setTop (mkF m 34 #[.val (.int (-w0)), vI 0, .val (.int (-100)), vI 2] [(.int (-100)), (.int 10)])) _
    refine XS.imul X0.here hx rfl (hb hby d236) rfl ?_
    show Steps _ _ _ (s₁.setTop (mkF m 35 #[.val (.int (-w0)), vI 0, .val (.int (-100)), vI 2] [(.int (-1000))])) _
    refine XS.istoreN X0.here hx rfl (hb hby d237) rfl (l' := #[.val (.int (-w0)), vI 0, .val (.int (-1000)), vI 2]) rfl ?_
    show Steps _ _ _ (s₁.setTop (mkF m 36 #[.val (.int (-w0)), vI 0, .val (.int (-1000)), vI 2] [])) _
    refine XS.iinc X0.here hx rfl (hb hby d238) rfl (l' := #[.val (.int (-w0)), vI 0, .val (.int (-1000)), vI 3]) rfl ?_
    show Steps _ _ _ (s₁.setTop (mkF m 39 #[.val (.int (-w0)), vI 0, .val (.int (-1000)), vI 3] [])) _
    refine XS.goto X0.here hx rfl (pc0 := 39) (pc' := 16) rfl (hb hby d239) (by decide) (by decide) ?_
    show Steps _ _ _ (s₁.setTop (mkF m 16 #[.val (.int (-w0)), vI 0, .val (.int (-1000)), vI 3] [])) _
    refine XS.iloadN X0.here hx rfl (hb hby d224) rfl ?_
    show Steps _ _ _ (s₁.setTop (mkF m 17 #[.val (.int (-w0)), vI 0, .val (.int (-1000)), vI 3] [(.int 3)])) _
    refine XS.bipush X0.here hx rfl (hb hby d225) ?_
    show Steps _ _ _ (s₁.setTop (mkF m 19 #[.val (.int (-w0)), vI 0, .val (.int (-1000)), vI 3] [(.int 10), (.int 3)])) _
    refine XS.icmpNo X0.here hx rfl (hb hby d226) rfl (tlt ((by decide) : (3 : Int32) < (10 : Int32))).2.1 ?_
    show Steps _ _ _ (s₁.setTop (mkF m 22 #[.val (.int (-w0)), vI 0, .val (.int (-1000)), vI 3] [])) _
    refine XS.iloadN X0.here hx rfl (hb hby d227) rfl ?_
    show Steps _ _ _ (s₁.setTop (mkF m 23 #[.val (.int (-w0)), vI 0, .val (.int (-1000)), vI 3] [(.int (-w0))])) _
    refine XS.iloadN X0.here hx rfl (hb hby d228) rfl ?_
    show Steps _ _ _ (s₁.setTop (mkF m 24 #[.val (.int (-w0)), vI 0, .val (.int (-1000)), vI 3] [(.int (-1000)), (.int (-w0))])) _
    refine XS.icmpNo X0.here hx rfl (hb hby d229) rfl (tlt (q3 : (-1000 : Int32) < (-w0))).2.2.2 ?_
    show Steps _ _ _ (s₁.setTop (mkF m 27 #[.val (.int (-w0)), vI 0, .val (.int (-1000)), vI 3] [])) _
    refine XS.iloadN X0.here hx rfl (hb hby d230) rfl ?_
    show Steps _ _ _ (s₁.setTop (mkF m 28 #[.val (.int (-w0)), vI 0, .val (.int (-1000)), vI 3] [(.int 3)])) _
    refine XS.iloadN X0.here hx rfl (hb hby d231) rfl ?_
    show Steps _ _ _ (s₁.setTop (mkF m 29 #[.val (.int (-w0)), vI 0, .val (.int (-1000)), vI 3] [(.int 0), (.int 3)])) _
    refine XS.iadd X0.here hx rfl (hb hby d232) rfl ?_
    show Steps _ _ _ (s₁.setTop (mkF m 30 #[.val (.int (-w0)), vI 0, .val (.int (-1000)), vI 3] [(.int 3)])) _
    exact retI X0 hx hret (hb hby d233) hr
theorem rm_ssz_4 (l : Launch) (Z : State) (a0 : Array Value) (hw : HW Z a0) (ws : List Jvm.Cond) (w0 : Int32) (h0 : Heap) (n0 : Nat) (Z0 : n0 ≤ h0.size) (hw0 : ¬ (w0 < (0 : Int32))) (q1 : ¬ ((-10 : Int32) < (-w0))) (q2 : ¬ ((-100 : Int32) < (-w0))) (q3 : ¬ ((-1000 : Int32) < (-w0))) (q4 : (-10000 : Int32) < (-w0)) :
    MF l Z m_19 jdk_33_method_13_code 4 (some .int) ws (oR 0 0 0 0) #[(.int w0)] h0 (Q_ssz Z w0 h0 n0) := by
  refine own_body (cls := "java/lang/Integer") (plainFor_of_name pn_8) rfl (fun p e s m below meth c s₁ hx hby hml hown hnm hret hZ X0 e0 => ?_)
  have N0 := Fr.nil n0
  refine ⟨_, _, _, _, some (.int 4), X0, by decide, by decide, nofun, ?_, fun fs hr => castTop (ef_11 m w0) ?_⟩
  · show Q_ssz Z w0 h0 n0 _ s₁.heap _
    rw [(e0 : s₁.heap = h0)]
    exact ⟨(4 : Int32), rfl, N0, rfl, (by decide)⟩
  · show Steps _ _ _ (s₁.setTop (mkF m 0 #[vI w0, .unset, .unset, .unset] [])) _
    refine XS.iconst X0.here hx rfl (hb hby d211) ?_
    show Steps _ _ _ (s₁.setTop (mkF m 1 #[vI w0, .unset, .unset, .unset] [(.int 1)])) _
    refine XS.istoreN X0.here hx rfl (hb hby d212) rfl (l' := #[vI w0, vI 1, .unset, .unset]) rfl ?_
    show Steps _ _ _ (s₁.setTop (mkF m 2 #[vI w0, vI 1, .unset, .unset] [])) _
    refine XS.iloadN X0.here hx rfl (hb hby d213) rfl ?_
    show Steps _ _ _ (s₁.setTop (mkF m 3 #[vI w0, vI 1, .unset, .unset] [(.int w0)])) _
    refine XS.ifNo X0.here hx rfl (hb hby d214) rfl ((if0 _ _).trans (flt (hw0 : ¬ (w0 < (0 : Int32)))).1) ?_
    show Steps _ _ _ (s₁.setTop (mkF m 6 #[vI w0, vI 1, .unset, .unset] [])) _
    refine XS.iconst X0.here hx rfl (hb hby d215) ?_
    show Steps _ _ _ (s₁.setTop (mkF m 7 #[vI w0, vI 1, .unset, .unset] [(.int 0)])) _
    refine XS.istoreN X0.here hx rfl (hb hby d216) rfl (l' := #[vI w0, vI 0, .unset, .unset]) rfl ?_
    show Steps _ _ _ (s₁.setTop (mkF m 8 #[vI w0, vI 0, .unset, .unset] [])) _
    refine XS.iloadN X0.here hx rfl (hb hby d217) rfl ?_
    show Steps _ _ _ (s₁.setTop (mkF m 9 #[vI w0, vI 0, .unset, .unset] [(.int w0)])) _
    refine XS.ineg X0.here hx rfl (hb hby d218) rfl ?_
    show Steps _ _ _ (s₁.setTop (mkF m 10 #[vI w0, vI 0, .unset, .unset] [(.int (-w0))])) _
    refine XS.istoreN X0.here hx rfl (hb hby d219) rfl (l' := #[.val (.int (-w0)), vI 0, .unset, .unset]) rfl ?_
    show Steps _ _ _ (s₁.setTop (mkF m 11 #[.val (.int (-w0)), vI 0, .unset, .unset] [])) _
    refine XS.bipush X0.here hx rfl (hb hby d220) ?_
    show Steps _ _ _ (s₁.setTop (mkF m 13 #[.val (.int (-w0)), vI 0, .unset, .unset] [(.int (-10))])) _
    refine XS.istoreN X0.here hx rfl (hb hby d221) rfl (l' := #[.val (.int (-w0)), vI 0, .val (.int (-10)), .unset]) rfl ?_
    show Steps _ _ _ (s₁.setTop (mkF m 14 #[.val (.int (-w0)), vI 0, .val (.int (-10)), .unset] [])) _
    refine XS.iconst X0.here hx rfl (hb hby d222) ?_
    show Steps _ _ _ (s₁.setTop (mkF m 15 #[.val (.int (-w0)), vI 0, .val (.int (-10)), .unset] [(.int 1)])) _
    refine XS.istoreN X0.here hx rfl (hb hby d223) rfl (l' := #[.val (.int (-w0)), vI 0, .val (.int (-10)), vI 1]) rfl ?_
    show Steps _ _ _ (s₁.setTop (mkF m 16 #[.val (.int (-w0)), vI 0, .val (.int (-10)), vI 1] [])) _
    refine XS.iloadN X0.here hx rfl (hb hby d224) rfl ?_
    show Steps _ _ _ (s₁.setTop (mkF m 17 #[.val (.int (-w0)), vI 0, .val (.int (-10)), vI 1] [(.int 1)])) _
    refine XS.bipush X0.here hx rfl (hb hby d225) ?_
    show Steps _ _ _ (s₁.setTop (mkF m 19 #[.val (.int (-w0)), vI 0, .val (.int (-10)), vI 1] [(.int 10), (.int 1)])) _
    refine XS.icmpNo X0.here hx rfl (hb hby d226) rfl (tlt ((by decide) : (1 : Int32) < (10 : Int32))).2.1 ?_
    show Steps _ _ _ (s₁.setTop (mkF m 22 #[.val (.int (-w0)), vI 0, .val (.int (-10)), vI 1] [])) _
    refine XS.iloadN X0.here hx rfl (hb hby d227) rfl ?_
    show Steps _ _ _ (s₁.setTop (mkF m 23 #[.val (.int (-w0)), vI 0, .val (.int (-10)), vI 1] [(.int (-w0))])) _
    refine XS.iloadN X0.here hx rfl (hb hby d228) rfl ?_
    show Steps _ _ _ (s₁.setTop (mkF m 24 #[.val (.int (-w0)), vI 0, .val (.int (-10)), vI 1] [(.int (-10)), (.int (-w0))])) _
    refine XS.icmpYes X0.here hx rfl (pc0 := 24) (pc' := 31) rfl (hb hby d229) rfl (flt (q1 : ¬ ((-10 : Int32) < (-w0)))).2.2.2 (by decide) (by decide) ?_
    show Steps _ _ _ (s₁.setTop (mkF m 31 #[.val (.int (-w0)), vI 0, .val (.int (-10)), vI 1] [])) _
    refine XS.bipush X0.here hx rfl (hb hby d234) ?_
    show Steps _ _ _ (s₁.setTop (mkF m 33 #[.val (.int (-w0)), vI 0, .val (.int (-10)), vI 1] [(.int 10)])) _
    refine XS.iloadN X0.here hx rfl (hb hby d235) rfl ?_
    show Steps _ _ _ (s₁.setTop (mkF m 34 #[.val (.int (-w0)), vI 0, .val (.int (-10)), vI 1] [(.int (-10)), (.int 10)])) _
    refine XS.imul X0.here hx rfl (hb hby d236) rfl ?_
    show Steps _ _ _ (s₁.setTop (mkF m 35 #[.val (.int (-w0)), vI 0, .val (.int (-10)), vI 1] [(.int (-100))])) _
    refine XS.istoreN X0.here hx rfl (hb hby d237) rfl (l' := #[.val (.int (-w0)), vI 0, .val (.int (-100)), vI 1]) rfl ?_
    show Steps _ _ _ (s₁.setTop (mkF m 36 #[.val (.int (-w0)), vI 0, .val (.int (-100)), vI 1] [])) _
    refine XS.iinc X0.here hx rfl (hb hby d238) rfl (l' := #[.val (.int (-w0)), vI 0, .val (.int (-100)), vI 2]) rfl ?_
    show Steps _ _ _ (s₁.setTop (mkF m 39 #[.val (.int (-w0)), vI 0, .val (.int (-100)), vI 2] [])) _
    refine XS.goto X0.here hx rfl (pc0 := 39) (pc' := 16) rfl (hb hby d239) (by decide) (by decide) ?_
    show Steps _ _ _ (s₁.setTop (mkF m 16 #[.val (.int (-w0)), vI 0, .val (.int (-100)), vI 2] [])) _
    refine XS.iloadN X0.here hx rfl (hb hby d224) rfl ?_
    show Steps _ _ _ (s₁.setTop (mkF m 17 #[.val (.int (-w0)), vI 0, .val (.int (-100)), vI 2] [(.int 2)])) _
    refine XS.bipush X0.here hx rfl (hb hby d225) ?_
    show Steps _ _ _ (s₁.setTop (mkF m 19 #[.val (.int (-w0)), vI 0, .val (.int (-100)), vI 2] [(.int 10), (.int 2)])) _
    refine XS.icmpNo X0.here hx rfl (hb hby d226) rfl (tlt ((by decide) : (2 : Int32) < (10 : Int32))).2.1 ?_
    show Steps _ _ _ (s₁.setTop (mkF m 22 #[.val (.int (-w0)), vI 0, .val (.int (-100)), vI 2] [])) _
    refine XS.iloadN X0.here hx rfl (hb hby d227) rfl ?_
    show Steps _ _ _ (s₁.setTop (mkF m 23 #[.val (.int (-w0)), vI 0, .val (.int (-100)), vI 2] [(.int (-w0))])) _
    refine XS.iloadN X0.here hx rfl (hb hby d228) rfl ?_
    show Steps _ _ _ (s₁.setTop (mkF m 24 #[.val (.int (-w0)), vI 0, .val (.int (-100)), vI 2] [(.int (-100)), (.int (-w0))])) _
    refine XS.icmpYes X0.here hx rfl (pc0 := 24) (pc' := 31) rfl (hb hby d229) rfl (flt (q2 : ¬ ((-100 : Int32) < (-w0)))).2.2.2 (by decide) (by decide) ?_
    show Steps _ _ _ (s₁.setTop (mkF m 31 #[.val (.int (-w0)), vI 0, .val (.int (-100)), vI 2] [])) _
    refine XS.bipush X0.here hx rfl (hb hby d234) ?_
    show Steps _ _ _ (s₁.setTop (mkF m 33 #[.val (.int (-w0)), vI 0, .val (.int (-100)), vI 2] [(.int 10)])) _
    refine XS.iloadN X0.here hx rfl (hb hby d235) rfl ?_
    show Steps _ _ _ (s₁.setTop (mkF m 34 #[.val (.int (-w0)), vI 0, .val (.int (-100)), vI 2] [(.int (-100)), (.int 10)])) _
    refine XS.imul X0.here hx rfl (hb hby d236) rfl ?_
    show Steps _ _ _ (s₁.setTop (mkF m 35 #[.val (.int (-w0)), vI 0, .val (.int (-100)), vI 2] [(.int (-1000))])) _
    refine XS.istoreN X0.here hx rfl (hb hby d237) rfl (l' := #[.val (.int (-w0)), vI 0, .val (.int (-1000)), vI 2]) rfl ?_
    show Steps _ _ _ (s₁.setTop (mkF m 36 #[.val (.int (-w0)), vI 0, .val (.int (-1000)), vI 2] [])) _
    refine XS.iinc X0.here hx rfl (hb hby d238) rfl (l' := #[.val (.int (-w0)), vI 0, .val (.int (-1000)), vI 3]) rfl ?_
    show Steps _ _ _ (s₁.setTop (mkF m 39 #[.val (.int (-w0)), vI 0, .val (.int (-1000)), vI 3] [])) _
    refine XS.goto X0.here hx rfl (pc0 := 39) (pc' := 16) rfl (hb hby d239) (by decide) (by decide) ?_
    show Steps _ _ _ (s₁.setTop (mkF m 16 #[.val (.int (-w0)), vI 0, .val (.int (-1000)), vI 3] [])) _
    refine XS.iloadN X0.here hx rfl (hb hby d224) rfl ?_
    show Steps _ _ _ (s₁.setTop (mkF m 17 #[.val (.int (-w0)), vI 0, .val (.int (-1000)), vI 3] [(.int 3)])) _
    refine XS.bipush X0.here hx rfl (hb hby d225) ?_
    show Steps _ _ _ (s₁.setTop (mkF m 19 #[.val (.int (-w0)), vI 0, .val (.int (-1000)), vI 3] [(.int 10), (.int 3)])) _
    refine XS.icmpNo X0.here hx rfl (hb hby d226) rfl (tlt ((by decide) : (3 : Int32) < (10 : Int32))).2.1 ?_
    show Steps _ _ _ (s₁.setTop (mkF m 22 #[.val (.int (-w0)), vI 0, .val (.int (-1000)), vI 3] [])) _
    refine XS.iloadN X0.here hx rfl (hb hby d227) rfl ?_
    show Steps _ _ _ (s₁.setTop (mkF m 23 #[.val (.int (-w0)), vI 0, .val (.int (-1000)), vI 3] [(.int (-w0))])) _
    refine XS.iloadN X0.here hx rfl (hb hby d228) rfl ?_
    show Steps _ _ _ (s₁.setTop (mkF m 24 #[.val (.int (-w0)), vI 0, .val (.int (-1000)), vI 3] [(.int (-1000)), (.int (-w0))])) _
    refine XS.icmpYes X0.here hx rfl (pc0 := 24) (pc' := 31) rfl (hb hby d229) rfl (flt (q3 : ¬ ((-1000 : Int32) < (-w0)))).2.2.2 (by decide) (by decide) ?_
    show Steps _ _ _ (s₁.setTop (mkF m 31 #[.val (.int (-w0)), vI 0, .val (.int (-1000)), vI 3] [])) _
    refine XS.bipush X0.here hx rfl (hb hby d234) ?_
    show Steps _ _ _ (s₁.setTop (mkF m 33 #[.val (.int (-w0)), vI 0, .val (.int (-1000)), vI 3] [(.int 10)])) _
    refine XS.iloadN X0.here hx rfl (hb hby d235) rfl ?_
    show Steps _ _ _ (s₁.setTop (mkF m 34 #[.val (.int (-w0)), vI 0, .val (.int (-1000)), vI 3] [(.int (-1000)), (.int 10)])) _
    refine XS.imul X0.here hx rfl (hb hby d236) rfl ?_
    show Steps _ _ _ (s₁.setTop (mkF m 35 #[.val (.int (-w0)), vI 0, .val (.int (-1000)), vI 3] [(.int (-10000))])) _
    refine XS.istoreN X0.here hx rfl (hb hby d237) rfl (l' := #[.val (.int (-w0)), vI 0, .val (.int (-10000)), vI 3]) rfl ?_
    show Steps _ _ _ (s₁.setTop (mkF m 36 #[.val (.int (-w0)), vI 0, .val (.int (-10000)), vI 3] [])) _
    refine XS.iinc X0.here hx rfl (hb hby d238) rfl (l' := #[.val (.int (-w0)), vI 0, .val (.int (-10000)), vI 4]) rfl ?_
    show Steps _ _ _ (s₁.setTop (mkF m 39 #[.val (.int (-w0)), vI 0, .val (.int (-10000)), vI 4] [])) _
    refine XS.goto X0.here hx rfl (pc0 := 39) (pc' := 16) rfl (hb hby d239) (by decide) (by decide) ?_
    show Steps _ _ _ (s₁.setTop (mkF m 16 #[.val (.int (-w0)), vI 0, .val (.int (-10000)), vI 4] [])) _
    refine XS.iloadN X0.here hx rfl (hb hby d224) rfl ?_
    show Steps _ _ _ (s₁.setTop (mkF m 17 #[.val (.int (-w0)), vI 0, .val (.int (-10000)), vI 4] [(.int 4)])) _
    refine XS.bipush X0.here hx rfl (hb hby d225) ?_
    show Steps _ _ _ (s₁.setTop (mkF m 19 #[.val (.int (-w0)), vI 0, .val (.int (-10000)), vI 4] [(.int 10), (.int 4)])) _
    refine XS.icmpNo X0.here hx rfl (hb hby d226) rfl (tlt ((by decide) : (4 : Int32) < (10 : Int32))).2.1 ?_
    show Steps _ _ _ (s₁.setTop (mkF m 22 #[.val (.int (-w0)), vI 0, .val (.int (-10000)), vI 4] [])) _
    refine XS.iloadN X0.here hx rfl (hb hby d227) rfl ?_
    show Steps _ _ _ (s₁.setTop (mkF m 23 #[.val (.int (-w0)), vI 0, .val (.int (-10000)), vI 4] [(.int (-w0))])) _
    refine XS.iloadN X0.here hx rfl (hb hby d228) rfl ?_
    show Steps _ _ _ (s₁.setTop (mkF m 24 #[.val (.int (-w0)), vI 0, .val (.int (-10000)), vI 4] [(.int (-10000)), (.int (-w0))])) _
    refine XS.icmpNo X0.here hx rfl (hb hby d229) rfl (tlt (q4 : (-10000 : Int32) < (-w0))).2.2.2 ?_
    show Steps _ _ _ (s₁.setTop (mkF m 27 #[.val (.int (-w0)), vI 0, .val (.int (-10000)), vI 4] [])) _
    refine XS.iloadN X0.here hx rfl (hb hby d230) rfl ?_
    show Steps _ _ _ (s₁.setTop (mkF m 28 #[.val (.int (-w0)), vI 0, .val (.int (-10000)), vI 4] [(.int 4)])) _
    refine XS.iloadN X0.here hx rfl (hb hby d231) rfl ?_
    show Steps _ _ _ (s₁.setTop (mkF m 29 #[.val (.int (-w0)), vI 0, .val (.int (-10000)), vI 4] [(.int 0), (.int 4)])) _
    refine XS.iadd X0.here hx rfl (hb hby d232) rfl ?_
    show Steps _ _ _ (s₁.setTop (mkF m 30 #[.val (.int (-w0)), vI 0, .val (.int (-10000)), vI 4] [(.int 4)])) _
    exact retI X0 hx hret (hb hby d233) hr
theorem rm_ssz_5 (l : Launch) (Z : State) (a0 : Array Value) (hw : HW Z a0) (ws : List Jvm.Cond) (w0 : Int32) (h0 : Heap) (n0 : Nat) (Z0 : n0 ≤ h0.size) (hw0 : ¬ (w0 < (0 : Int32))) (q1 : ¬ ((-10 : Int32) < (-w0))) (q2 : ¬ ((-100 : Int32) < (-w0))) (q3 : ¬ ((-1000 : Int32) < (-w0))) (q4 : ¬ ((-10000 : Int32) < (-w0))) (q5 : (-100000 : Int32) < (-w0)) :
    MF l Z m_19 jdk_33_method_13_code 4 (some .int) ws (oR 0 0 0 0) #[(.int w0)] h0 (Q_ssz Z w0 h0 n0) := by
  refine own_body (cls := "java/lang/Integer") (plainFor_of_name pn_8) rfl (fun p e s m below meth c s₁ hx hby hml hown hnm hret hZ X0 e0 => ?_)
  have N0 := Fr.nil n0
  refine ⟨_, _, _, _, some (.int 5), X0, by decide, by decide, nofun, ?_, fun fs hr => castTop (ef_11 m w0) ?_⟩
  · show Q_ssz Z w0 h0 n0 _ s₁.heap _
    rw [(e0 : s₁.heap = h0)]
    exact ⟨(5 : Int32), rfl, N0, rfl, (by decide)⟩
  · show Steps _ _ _ (s₁.setTop (mkF m 0 #[vI w0, .unset, .unset, .unset] [])) _
    refine XS.iconst X0.here hx rfl (hb hby d211) ?_
    show Steps _ _ _ (s₁.setTop (mkF m 1 #[vI w0, .unset, .unset, .unset] [(.int 1)])) _
    refine XS.istoreN X0.here hx rfl (hb hby d212) rfl (l' := #[vI w0, vI 1, .unset, .unset]) rfl ?_
    show Steps _ _ _ (s₁.setTop (mkF m 2 #[vI w0, vI 1, .unset, .unset] [])) _
    refine XS.iloadN X0.here hx rfl (hb hby d213) rfl ?_
    show Steps _ _ _ (s₁.setTop (mkF m 3 #[vI w0, vI 1, .unset, .unset] [(.int w0)])) _
    refine XS.ifNo X0.here hx rfl (hb hby d214) rfl ((if0 _ _).trans (flt (hw0 : ¬ (w0 < (0 : Int32)))).1) ?_
    show Steps _ _ _ (s₁.setTop (mkF m 6 #[vI w0, vI 1, .unset, .unset] [])) _
    refine XS.iconst X0.here hx rfl (hb hby d215) ?_
    show Steps _ _ _ (s₁.setTop (mkF m 7 #[vI w0, vI 1, .unset, .unset] [(.int 0)])) _
    refine XS.istoreN X0.here hx rfl (hb hby d216) rfl (l' := #[vI w0, vI 0, .unset, .unset]) rfl ?_
    show Steps _ _ _ (s₁.setTop (mkF m 8 #[vI w0, vI 0, .unset, .unset] [])) _
    refine XS.iloadN X0.here hx rfl (hb hby d217) rfl ?_
    show Steps _ _ _ (s₁.setTop (mkF m 9 #[vI w0, vI 0, .unset, .unset] [(.int w0)])) _
    refine XS.ineg X0.here hx rfl (hb hby d218) rfl ?_
    show Steps _ _ _ (s₁.setTop (mkF m 10 #[vI w0, vI 0, .unset, .unset] [(.int (-w0))])) _
    refine XS.istoreN X0.here hx rfl (hb hby d219) rfl (l' := #[.val (.int (-w0)), vI 0, .unset, .unset]) rfl ?_
    show Steps _ _ _ (s₁.setTop (mkF m 11 #[.val (.int (-w0)), vI 0, .unset, .unset] [])) _
    refine XS.bipush X0.here hx rfl (hb hby d220) ?_
    show Steps _ _ _ (s₁.setTop (mkF m 13 #[.val (.int (-w0)), vI 0, .unset, .unset] [(.int (-10))])) _
    refine XS.istoreN X0.here hx rfl (hb hby d221) rfl (l' := #[.val (.int (-w0)), vI 0, .val (.int (-10)), .unset]) rfl ?_
    show Steps _ _ _ (s₁.setTop (mkF m 14 #[.val (.int (-w0)), vI 0, .val (.int (-10)), .unset] [])) _
    refine XS.iconst X0.here hx rfl (hb hby d222) ?_
    show Steps _ _ _ (s₁.setTop (mkF m 15 #[.val (.int (-w0)), vI 0, .val (.int (-10)), .unset] [(.int 1)])) _
    refine XS.istoreN X0.here hx rfl (hb hby d223) rfl (l' := #[.val (.int (-w0)), vI 0, .val (.int (-10)), vI 1]) rfl ?_
    show Steps _ _ _ (s₁.setTop (mkF m 16 #[.val (.int (-w0)), vI 0, .val (.int (-10)), vI 1] [])) _
    refine XS.iloadN X0.here hx rfl (hb hby d224) rfl ?_
    show Steps _ _ _ (s₁.setTop (mkF m 17 #[.val (.int (-w0)), vI 0, .val (.int (-10)), vI 1] [(.int 1)])) _
    refine XS.bipush X0.here hx rfl (hb hby d225) ?_
    show Steps _ _ _ (s₁.setTop (mkF m 19 #[.val (.int (-w0)), vI 0, .val (.int (-10)), vI 1] [(.int 10), (.int 1)])) _
    refine XS.icmpNo X0.here hx rfl (hb hby d226) rfl (tlt ((by decide) : (1 : Int32) < (10 : Int32))).2.1 ?_
    show Steps _ _ _ (s₁.setTop (mkF m 22 #[.val (.int (-w0)), vI 0, .val (.int (-10)), vI 1] [])) _
    refine XS.iloadN X0.here hx rfl (hb hby d227) rfl ?_
    show Steps _ _ _ (s₁.setTop (mkF m 23 #[.val (.int (-w0)), vI 0, .val (.int (-10)), vI 1] [(.int (-w0))])) _
    refine XS.iloadN X0.here hx rfl (hb hby d228) rfl ?_
    show Steps _ _ _ (s₁.setTop (mkF m 24 #[.val (.int (-w0)), vI 0, .val (.int (-10)), vI 1] [(.int (-10)), (.int (-w0))])) _
    refine XS.icmpYes X0.here hx rfl (pc0 := 24) (pc' := 31) rfl (hb hby d229) rfl (flt (q1 : ¬ ((-10 : Int32) < (-w0)))).2.2.2 (by decide) (by decide) ?_
    show Steps _ _ _ (s₁.setTop (mkF m 31 #[.val (.int (-w0)), vI 0, .val (.int (-10)), vI 1] [])) _
    refine XS.bipush X0.here hx rfl (hb hby d234) ?_
    show Steps _ _ _ (s₁.setTop (mkF m 33 #[.val (.int (-w0)), vI 0, .val (.int (-10)), vI 1] [(.int 10)])) _
    refine XS.iloadN X0.here hx rfl (hb hby d235) rfl ?_
    show Steps _ _ _ (s₁.setTop (mkF m 34 #[.val (.int (-w0)), vI 0, .val (.int (-10)), vI 1] [(.int (-10)), (.int 10)])) _
    refine XS.imul X0.here hx rfl (hb hby d236) rfl ?_
    show Steps _ _ _ (s₁.setTop (mkF m 35 #[.val (.int (-w0)), vI 0, .val (.int (-10)), vI 1] [(.int (-100))])) _
    refine XS.istoreN X0.here hx rfl (hb hby d237) rfl (l' := #[.val (.int (-w0)), vI 0, .val (.int (-100)), vI 1]) rfl ?_
    show Steps _ _ _ (s₁.setTop (mkF m 36 #[.val (.int (-w0)), vI 0, .val (.int (-100)), vI 1] [])) _
    refine XS.iinc X0.here hx rfl (hb hby d238) rfl (l' := #[.val (.int (-w0)), vI 0, .val (.int (-100)), vI 2]) rfl ?_
    show Steps _ _ _ (s₁.setTop (mkF m 39 #[.val (.int (-w0)), vI 0, .val (.int (-100)), vI 2] [])) _
    refine XS.goto X0.here hx rfl (pc0 := 39) (pc' := 16) rfl (hb hby d239) (by decide) (by decide) ?_
    show Steps _ _ _ (s₁.setTop (mkF m 16 #[.val (.int (-w0)), vI 0, .val (.int (-100)), vI 2] [])) _
    refine XS.iloadN X0.here hx rfl (hb hby d224) rfl ?_
    show Steps _ _ _ (s₁.setTop (mkF m 17 #[.val (.int (-w0)), vI 0, .val (.int (-100)), vI 2] [(.int 2)])) _
    refine XS.bipush X0.here hx rfl (hb hby d225) ?_
    show Steps _ _ _ (s₁.setTop (mkF m 19 #[.val (.int (-w0)), vI 0, .val (.int (-100)), vI 2] [(.int 10), (.int 2)])) _
    refine XS.icmpNo X0.here hx rfl (hb hby d226) rfl (tlt ((by decide) : (2 : Int32) < (10 : Int32))).2.1 ?_
    show Steps _ _ _ (s₁.setTop (mkF m 22 #[.val (.int (-w0)), vI 0, .val (.int (-100)), vI 2] [])) _
    refine XS.iloadN X0.here hx rfl (hb hby d227) rfl ?_
    show Steps _ _ _ (s₁.setTop (mkF m 23 #[.val (.int (-w0)), vI 0, .val (.int (-100)), vI 2] [(.int (-w0))])) _
    refine XS.iloadN X0.here hx rfl (hb hby d228) rfl ?_
    show Steps _ _ _ (s₁.setTop (mkF m 24 #[.val (.int (-w0)), vI 0, .val (.int (-100)), vI 2] [(.int (-100)), (.int (-w0))])) _
    refine XS.icmpYes X0.here hx rfl (pc0 := 24) (pc' := 31) rfl (hb hby d229) rfl (flt (q2 : ¬ ((-100 : Int32) < (-w0)))).2.2.2 (by decide) (by decide) ?_
    show Steps _ _ _ (s₁.setTop (mkF m 31 #[.val (.int (-w0)), vI 0, .val (.int (-100)), vI 2] [])) _
    refine XS.bipush X0.here hx rfl (hb hby d234) ?_
    show Steps _ _ _ (s₁.setTop (mkF m 33 #[.val (.int (-w0)), vI 0, .val (.int (-100)), vI 2] [(.int 10)])) _
    refine XS.iloadN X0.here hx rfl (hb hby d235) rfl ?_
    show Steps _ _ _ (s₁.setTop (mkF m 34 #[.val (.int (-w0)), vI 0, .val (.int (-100)), vI 2] [(.int (-100)), (.int 10)])) _
    refine XS.imul X0.here hx rfl (hb hby d236) rfl ?_
    show Steps _ _ _ (s₁.setTop (mkF m 35 #[.val (.int (-w0)), vI 0, .val (.int (-100)), vI 2] [(.int (-1000))])) _
    refine XS.istoreN X0.here hx rfl (hb hby d237) rfl (l' := #[.val (.int (-w0)), vI 0, .val (.int (-1000)), vI 2]) rfl ?_
    show Steps _ _ _ (s₁.setTop (mkF m 36 #[.val (.int (-w0)), vI 0, .val (.int (-1000)), vI 2] [])) _
    refine XS.iinc X0.here hx rfl (hb hby d238) rfl (l' := #[.val (.int (-w0)), vI 0, .val (.int (-1000)), vI 3]) rfl ?_
    show Steps _ _ _ (s₁.setTop (mkF m 39 #[.val (.int (-w0)), vI 0, .val (.int (-1000)), vI 3] [])) _
    refine XS.goto X0.here hx rfl (pc0 := 39) (pc' := 16) rfl (hb hby d239) (by decide) (by decide) ?_
    show Steps _ _ _ (s₁.setTop (mkF m 16 #[.val (.int (-w0)), vI 0, .val (.int (-1000)), vI 3] [])) _
    refine XS.iloadN X0.here hx rfl (hb hby d224) rfl ?_
    show Steps _ _ _ (s₁.setTop (mkF m 17 #[.val (.int (-w0)), vI 0, .val (.int (-1000)), vI 3] [(.int 3)])) _
    refine XS.bipush X0.here hx rfl (hb hby d225) ?_
    show Steps _ _ _ (s₁.setTop (mkF m 19 #[.val (.int (-w0)), vI 0, .val (.int (-1000)), vI 3] [(.int 10), (.int 3)])) _
    refine XS.icmpNo X0.here hx rfl (hb hby d226) rfl (tlt ((by decide) : (3 : Int32) < (10 : Int32))).2.1 ?_
    show Steps _ _ _ (s₁.setTop (mkF m 22 #[.val (.int (-w0)), vI 0, .val (.int (-1000)), vI 3] [])) _
    refine XS.iloadN X0.here hx rfl (hb hby d227) rfl ?_
    show Steps _ _ _ (s₁.setTop (mkF m 23 #[.val (.int (-w0)), vI 0, .val (.int (-1000)), vI 3] [(.int (-w0))])) _
    refine XS.iloadN X0.here hx rfl (hb hby d228) rfl ?_
    show Steps _ _ _ (s₁.setTop (mkF m 24 #[.val (.int (-w0)), vI 0, .val (.int (-1000)), vI 3] [(.int (-1000)), (.int (-w0))])) _
    refine XS.icmpYes X0.here hx rfl (pc0 := 24) (pc' := 31) rfl (hb hby d229) rfl (flt (q3 : ¬ ((-1000 : Int32) < (-w0)))).2.2.2 (by decide) (by decide) ?_
    show Steps _ _ _ (s₁.setTop (mkF m 31 #[.val (.int (-w0)), vI 0, .val (.int (-1000)), vI 3] [])) _
    refine XS.bipush X0.here hx rfl (hb hby d234) ?_
    show Steps _ _ _ (s₁.setTop (mkF m 33 #[.val (.int (-w0)), vI 0, .val (.int (-1000)), vI 3] [(.int 10)])) _
    refine XS.iloadN X0.here hx rfl (hb hby d235) rfl ?_
    show Steps _ _ _ (s₁.setTop (mkF m 34 #[.val (.int (-w0)), vI 0, .val (.int (-1000)), vI 3] [(.int (-1000)), (.int 10)])) _
    refine XS.imul X0.here hx rfl (hb hby d236) rfl ?_
    show Steps _ _ _ (s₁.setTop (mkF m 35 #[.val (.int (-w0)), vI 0, .val (.int (-1000)), vI 3] [(.int (-10000))])) _
    refine XS.istoreN X0.here hx rfl (hb hby d237) rfl (l' := #[.val (.int (-w0)), vI 0, .val (.int (-10000)), vI 3]) rfl ?_
    show Steps _ _ _ (s₁.setTop (mkF m 36 #[.val (.int (-w0)), vI 0, .val (.int (-10000)), vI 3] [])) _
    refine XS.iinc X0.here hx rfl (hb hby d238) rfl (l' := #[.val (.int (-w0)), vI 0, .val (.int (-10000)), vI 4]) rfl ?_
    show Steps _ _ _ (s₁.setTop (mkF m 39 #[.val (.int (-w0)), vI 0, .val (.int (-10000)), vI 4] [])) _
    refine XS.goto X0.here hx rfl (pc0 := 39) (pc' := 16) rfl (hb hby d239) (by decide) (by decide) ?_
    show Steps _ _ _ (s₁.setTop (mkF m 16 #[.val (.int (-w0)), vI 0, .val (.int (-10000)), vI 4] [])) _
    refine XS.iloadN X0.here hx rfl (hb hby d224) rfl ?_
    show Steps _ _ _ (s₁.setTop (mkF m 17 #[.val (.int (-w0)), vI 0, .val (.int (-10000)), vI 4] [(.int 4)])) _
    refine XS.bipush X0.here hx rfl (hb hby d225) ?_
    show Steps _ _ _ (s₁.setTop (mkF m 19 #[.val (.int (-w0)), vI 0, .val (.int (-10000)), vI 4] [(.int 10), (.int 4)])) _
    refine XS.icmpNo X0.here hx rfl (hb hby d226) rfl (tlt ((by decide) : (4 : Int32) < (10 : Int32))).2.1 ?_
    show Steps _ _ _ (s₁.setTop (mkF m 22 #[.val (.int (-w0)), vI 0, .val (.int (-10000)), vI 4] [])) _
    refine XS.iloadN X0.here hx rfl (hb hby d227) rfl ?_
    show Steps _ _ _ (s₁.setTop (mkF m 23 #[.val (.int (-w0)), vI 0, .val (.int (-10000)), vI 4] [(.int (-w0))])) _
    refine XS.iloadN X0.here hx rfl (hb hby d228) rfl ?_
    show Steps _ _ _ (s₁.setTop (mkF m 24 #[.val (.int (-w0)), vI 0, .val (.int (-10000)), vI 4] [(.int (-10000)), (.int (-w0))])) _
    refine XS.icmpYes X0.here hx rfl (pc0 := 24) (pc' := 31) rfl (hb hby d229) rfl (flt (q4 : ¬ ((-10000 : Int32) < (-w0)))).2.2.2 (by decide) (by decide) ?_
    show Steps _ _ _ (s₁.setTop (mkF m 31 #[.val (.int (-w0)), vI 0, .val (.int (-10000)), vI 4] [])) _
    refine XS.bipush X0.here hx rfl (hb hby d234) ?_
    show Steps _ _ _ (s₁.setTop (mkF m 33 #[.val (.int (-w0)), vI 0, .val (.int (-10000)), vI 4] [(.int 10)])) _
    refine XS.iloadN X0.here hx rfl (hb hby d235) rfl ?_
    show Steps _ _ _ (s₁.setTop (mkF m 34 #[.val (.int (-w0)), vI 0, .val (.int (-10000)), vI 4] [(.int (-10000)), (.int 10)])) _
    refine XS.imul X0.here hx rfl (hb hby d236) rfl ?_
    show Steps _ _ _ (s₁.setTop (mkF m 35 #[.val (.int (-w0)), vI 0, .val (.int (-10000)), vI 4] [(.int (-100000))])) _
    refine XS.istoreN X0.here hx rfl (hb hby d237) rfl (l' := #[.val (.int (-w0)), vI 0, .val (.int (-100000)), vI 4]) rfl ?_
    show Steps _ _ _ (s₁.setTop (mkF m 36 #[.val (.int (-w0)), vI 0, .val (.int (-100000)), vI 4] [])) _
    refine XS.iinc X0.here hx rfl (hb hby d238) rfl (l' := #[.val (.int (-w0)), vI 0, .val (.int (-100000)), vI 5]) rfl ?_
    show Steps _ _ _ (s₁.setTop (mkF m 39 #[.val (.int (-w0)), vI 0, .val (.int (-100000)), vI 5] [])) _
    refine XS.goto X0.here hx rfl (pc0 := 39) (pc' := 16) rfl (hb hby d239) (by decide) (by decide) ?_
    show Steps _ _ _ (s₁.setTop (mkF m 16 #[.val (.int (-w0)), vI 0, .val (.int (-100000)), vI 5] [])) _
    refine XS.iloadN X0.here hx rfl (hb hby d224) rfl ?_
    show Steps _ _ _ (s₁.setTop (mkF m 17 #[.val (.int (-w0)), vI 0, .val (.int (-100000)), vI 5] [(.int 5)])) _
    refine XS.bipush X0.here hx rfl (hb hby d225) ?_
    show Steps _ _ _ (s₁.setTop (mkF m 19 #[.val (.int (-w0)), vI 0, .val (.int (-100000)), vI 5] [(.int 10), (.int 5)])) _
    refine XS.icmpNo X0.here hx rfl (hb hby d226) rfl (tlt ((by decide) : (5 : Int32) < (10 : Int32))).2.1 ?_
    show Steps _ _ _ (s₁.setTop (mkF m 22 #[.val (.int (-w0)), vI 0, .val (.int (-100000)), vI 5] [])) _
    refine XS.iloadN X0.here hx rfl (hb hby d227) rfl ?_
    show Steps _ _ _ (s₁.setTop (mkF m 23 #[.val (.int (-w0)), vI 0, .val (.int (-100000)), vI 5] [(.int (-w0))])) _
    refine XS.iloadN X0.here hx rfl (hb hby d228) rfl ?_
    show Steps _ _ _ (s₁.setTop (mkF m 24 #[.val (.int (-w0)), vI 0, .val (.int (-100000)), vI 5] [(.int (-100000)), (.int (-w0))])) _
    refine XS.icmpNo X0.here hx rfl (hb hby d229) rfl (tlt (q5 : (-100000 : Int32) < (-w0))).2.2.2 ?_
    show Steps _ _ _ (s₁.setTop (mkF m 27 #[.val (.int (-w0)), vI 0, .val (.int (-100000)), vI 5] [])) _
    refine XS.iloadN X0.here hx rfl (hb hby d230) rfl ?_
    show Steps _ _ _ (s₁.setTop (mkF m 28 #[.val (.int (-w0)), vI 0, .val (.int (-100000)), vI 5] [(.int 5)])) _
    refine XS.iloadN X0.here hx rfl (hb hby d231) rfl ?_
    show Steps _ _ _ (s₁.setTop (mkF m 29 #[.val (.int (-w0)), vI 0, .val (.int (-100000)), vI 5] [(.int 0), (.int 5)])) _
    refine XS.iadd X0.here hx rfl (hb hby d232) rfl ?_
    show Steps _ _ _ (s₁.setTop (mkF m 30 #[.val (.int (-w0)), vI 0, .val (.int (-100000)), vI 5] [(.int 5)])) _
    exact retI X0 hx hret (hb hby d233) hr
theorem rm_ssz_6 (l : Launch) (Z : State) (a0 : Array Value) (hw : HW Z a0) (ws : List Jvm.Cond) (w0 : Int32) (h0 : Heap) (n0 : Nat) (Z0 : n0 ≤ h0.size) (hw0 : ¬ (w0 < (0 : Int32))) (q1 : ¬ ((-10 : Int32) < (-w0))) (q2 : ¬ ((-100 : Int32) < (-w0))) (q3 : ¬ ((-1000 : Int32) < (-w0))) (q4 : ¬ ((-10000 : Int32) < (-w0))) (q5 : ¬ ((-100000 : Int32) < (-w0))) (q6 : (-1000000 : Int32) < (-w0)) :
    MF l Z m_19 jdk_33_method_13_code 4 (some .int) ws (oR 0 0 0 0) #[(.int w0)] h0 (Q_ssz Z w0 h0 n0) := by
  refine own_body (cls := "java/lang/Integer") (plainFor_of_name pn_8) rfl (fun p e s m below meth c s₁ hx hby hml hown hnm hret hZ X0 e0 => ?_)
  have N0 := Fr.nil n0
  refine ⟨_, _, _, _, some (.int 6), X0, by decide, by decide, nofun, ?_, fun fs hr => castTop (ef_11 m w0) ?_⟩
  · show Q_ssz Z w0 h0 n0 _ s₁.heap _
    rw [(e0 : s₁.heap = h0)]
    exact ⟨(6 : Int32), rfl, N0, rfl, (by decide)⟩
  · show Steps _ _ _ (s₁.setTop (mkF m 0 #[vI w0, .unset, .unset, .unset] [])) _
    refine XS.iconst X0.here hx rfl (hb hby d211) ?_
    show Steps _ _ _ (s₁.setTop (mkF m 1 #[vI w0, .unset, .unset, .unset] [(.int 1)])) _
    refine XS.istoreN X0.here hx rfl (hb hby d212) rfl (l' := #[vI w0, vI 1, .unset, .unset]) rfl ?_
    show Steps _ _ _ (s₁.setTop (mkF m 2 #[vI w0, vI 1, .unset, .unset] [])) _
    refine XS.iloadN X0.here hx rfl (hb hby d213) rfl ?_
    show Steps _ _ _ (s₁.setTop (mkF m 3 #[vI w0, vI 1, .unset, .unset] [(.int w0)])) _
    refine XS.ifNo X0.here hx rfl (hb hby d214) rfl ((if0 _ _).trans (flt (hw0 : ¬ (w0 < (0 : Int32)))).1) ?_
    show Steps _ _ _ (s₁.setTop (mkF m 6 #[vI w0, vI 1, .unset, .unset] [])) _
    refine XS.iconst X0.here hx rfl (hb hby d215) ?_
    show Steps _ _ _ (s₁.setTop (mkF m 7 #[vI w0, vI 1, .unset, .unset] [(.int 0)])) _
    refine XS.istoreN X0.here hx rfl (hb hby d216) rfl (l' := #[vI w0, vI 0, .unset, .unset]) rfl ?_
    show Steps _ _ _ (s₁.setTop (mkF m 8 #[vI w0, vI 0, .unset, .unset] [])) _
    refine XS.iloadN X0.here hx rfl (hb hby d217) rfl ?_
    show Steps _ _ _ (s₁.setTop (mkF m 9 #[vI w0, vI 0, .unset, .unset] [(.int w0)])) _
    refine XS.ineg X0.here hx rfl (hb hby d218) rfl ?_
    show Steps _ _ _ (s₁.setTop (mkF m 10 #[vI w0, vI 0, .unset, .unset] [(.int (-w0))])) _
    refine XS.istoreN X0.here hx rfl (hb hby d219) rfl (l' := #[.val (.int (-w0)), vI 0, .unset, .unset]) rfl ?_
    show Steps _ _ _ (s₁.setTop (mkF m 11 #[.val (.int (-w0)), vI 0, .unset, .unset] [])) _
    refine XS.bipush X0.here hx rfl (hb hby d220) ?_
    show Steps _ _ _ (s₁.setTop (mkF m 13 #[.val (.int (-w0)), vI 0, .unset, .unset] [(.int (-10))])) _
    refine XS.istoreN X0.here hx rfl (hb hby d221) rfl (l' := #[.val (.int (-w0)), vI 0, .val (.int (-10)), .unset]) rfl ?_
    show Steps _ _ _ (s₁.setTop (mkF m 14 #[.val (.int (-w0)), vI 0, .val (.int (-10)), .unset] [])) _
    refine XS.iconst X0.here hx rfl (hb hby d222) ?_
    show Steps _ _ _ (s₁.setTop (mkF m 15 #[.val (.int (-w0)), vI 0, .val (.int (-10)), .unset] [(.int 1)])) _
    refine XS.istoreN X0.here hx rfl (hb hby d223) rfl (l' := #[.val (.int (-w0)), vI 0, .val (.int (-10)), vI 1]) rfl ?_
    show Steps _ _ _ (s₁.setTop (mkF m 16 #[.val (.int (-w0)), vI 0, .val (.int (-10)), vI 1] [])) _
    refine XS.iloadN X0.here hx rfl (hb hby d224) rfl ?_
    show Steps _ _ _ (s₁.setTop (mkF m 17 #[.val (.int (-w0)), vI 0, .val (.int (-10)), vI 1] [(.int 1)])) _
    refine XS.bipush X0.here hx rfl (hb hby d225) ?_
    show Steps _ _ _ (s₁.setTop (mkF m 19 #[.val (.int (-w0)), vI 0, .val (.int (-10)), vI 1] [(.int 10), (.int 1)])) _
    refine XS.icmpNo X0.here hx rfl (hb hby d226) rfl (tlt ((by decide) : (1 : Int32) < (10 : Int32))).2.1 ?_
    show Steps _ _ _ (s₁.setTop (mkF m 22 #[.val (.int (-w0)), vI 0, .val (.int (-10)), vI 1] [])) _
    refine XS.iloadN X0.here hx rfl (hb hby d227) rfl ?_
    show Steps _ _ _ (s₁.setTop (mkF m 23 #[.val (.int (-w0)), vI 0, .val (.int (-10)), vI 1] [(.int (-w0))])) _
    refine XS.iloadN X0.here hx rfl (hb hby d228) rfl ?_
    show Steps _ _ _ (s₁.setTop (mkF m 24 #[.val (.int (-w0)), vI 0, .val (.int (-10)), vI 1] [(.int (-10)), (.int (-w0))])) _
    refine XS.icmpYes X0.here hx rfl (pc0 := 24) (pc' := 31) rfl (hb hby d229) rfl (flt (q1 : ¬ ((-10 : Int32) < (-w0)))).2.2.2 (by decide) (by decide) ?_
    show Steps _ _ _ (s₁.setTop (mkF m 31 #[.val (.int (-w0)), vI 0, .val (.int (-10)), vI 1] [])) _
    refine XS.bipush X0.here hx rfl (hb hby d234) ?_
    show Steps _ _ _ (s₁.setTop (mkF m 33 #[.val (.int (-w0)), vI 0, .val (.int (-10)), vI 1] [(.int 10)])) _
    refine XS.iloadN X0.here hx rfl (hb hby d235) rfl ?_
    show Steps _ _ _ (s₁.setTop (mkF m 34 #[.val (.int (-w0)), vI 0, .val (.int (-10)), vI 1] [(.int (-10)), (.int 10)])) _
    refine XS.imul X0.here hx rfl (hb hby d236) rfl ?_
    show Steps _ _ _ (s₁.setTop (mkF m 35 #[.val (.int (-w0)), vI 0, .val (.int (-10)), vI 1] [(.int (-100))])) _
    refine XS.istoreN X0.here hx rfl (hb hby d237) rfl (l' := #[.val (.int (-w0)), vI 0, .val (.int (-100)), vI 1]) rfl ?_
    show Steps _ _ _ (s₁.setTop (mkF m 36 #[.val (.int (-w0)), vI 0, .val (.int (-100)), vI 1] [])) _
    refine XS.iinc X0.here hx rfl (hb hby d238) rfl (l' := #[.val (.int (-w0)), vI 0, .val (.int (-100)), vI 2]) rfl ?_
    show Steps _ _ _ (s₁.setTop (mkF m 39 #[.val (.int (-w0)), vI 0, .val (.int (-100)), vI 2] [])) _
    refine XS.goto X0.here hx rfl (pc0 := 39) (pc' := 16) rfl (hb hby d239) (by decide) (by decide) ?_
    show Steps _ _ _ (s₁.setTop (mkF m 16 #[.val (.int (-w0)), vI 0, .val (.int (-100)), vI 2] [])) _
    refine XS.iloadN X0.here hx rfl (hb hby d224) rfl ?_
    show Steps _ _ _ (s₁.setTop (mkF m 17 #[.val (.int (-w0)), vI 0, .val (.int (-100)), vI 2] [(.int 2)])) _
    refine XS.bipush X0.here hx rfl (hb hby d225) ?_
    show Steps _ _ _ (s₁.setTop (mkF m 19 #[.val (.int (-w0)), vI 0, .val (.int (-100)), vI 2] [(.int 10), (.int 2)])) _
    refine XS.icmpNo X0.here hx rfl (hb hby d226) rfl (tlt ((by decide) : (2 : Int32) < (10 : Int32))).2.1 ?_
    show Steps _ _ _ (s₁.setTop (mkF m 22 #[.val (.int (-w0)), vI 0, .val (.int (-100)), vI 2] [])) _
    refine XS.iloadN X0.here hx rfl (hb hby d227) rfl ?_
    show Steps _ _ _ (s₁.setTop (mkF m 23 #[.val (.int (-w0)), vI 0, .val (.int (-100)), vI 2] [(.int (-w0))])) _
    refine XS.iloadN X0.here hx rfl (hb hby d228) rfl ?_
    show Steps _ _ _ (s₁.setTop (mkF m 24 #[.val (.int (-w0)), vI 0, .val (.int (-100)), vI 2] [(.int (-100)), (.int (-w0))])) _
    refine XS.icmpYes X0.here hx rfl (pc0 := 24) (pc' := 31) rfl (hb hby d229) rfl (flt (q2 : ¬ ((-100 : Int32) < (-w0)))).2.2.2 (by decide) (by decide) ?_
    show Steps _ _ _ (s₁.setTop (mkF m 31 #[.val (.int (-w0)), vI 0, .val (.int (-100)), vI 2] [])) _
    refine XS.bipush X0.here hx rfl (hb hby d234) ?_
    show Steps _ _ _ (s₁.setTop (mkF m 33 #[.val (.int (-w0)), vI 0, .val (.int (-100)), vI 2] [(.int 10)])) _
    refine XS.iloadN X0.here hx rfl (hb hby d235) rfl ?_
    show Steps _ _ _ (s₁.setTop (mkF m 34 #[.val (.int (-w0)), vI 0, .val (.int (-100)), vI 2] [(.int (-100)), (.int 10)])) _
    refine XS.imul X0.here hx rfl (hb hby d236) rfl ?_
    show Steps _ _ _ (s₁.setTop (mkF m 35 #[.val (.int (-w0)), vI 0, .val (.int (-100)), vI 2] [(.int (-1000))])) _
    refine XS.istoreN X0.here hx rfl (hb hby d237) rfl (l' := #[.val (.int (-w0)), vI 0, .val (.int (-1000)), vI 2]) rfl ?_
    show Steps _ _ _ (s₁.setTop (mkF m 36 #[.val (.int (-w0)), vI 0, .val (.int (-1000)), vI 2] [])) _
    refine XS.iinc X0.here hx rfl (hb hby d238) rfl (l' := #[.val (.int (-w0)), vI 0, .val (.int (-1000)), vI 3]) rfl ?_
    show Steps _ _ _ (s₁.setTop (mkF m 39 #[.val (.int (-w0)), vI 0, .val (.int (-1000)), vI 3] [])) _
    refine XS.goto X0.here hx rfl (pc0 := 39) (pc' := 16) rfl (hb hby d239) (by decide) (by decide) ?_
    show Steps _ _ _ (s₁.setTop (mkF m 16 #[.val (.int (-w0)), vI 0, .val (.int (-1000)), vI 3] [])) _
    refine XS.iloadN X0.here hx rfl (hb hby d224) rfl ?_
    show Steps _ _ _ (s₁.setTop (mkF m 17 #[.val (.int (-w0)), vI 0, .val (.int (-1000)), vI 3] [(.int 3)])) _
    refine XS.bipush X0.here hx rfl (hb hby d225) ?_
    show Steps _ _ _ (s₁.setTop (mkF m 19 #[.val (.int (-w0)), vI 0, .val (.int (-1000)), vI 3] [(.int 10), (.int 3)])) _
    refine XS.icmpNo X0.here hx rfl (hb hby d226) rfl (tlt ((by decide) : (3 : Int32) < (10 : Int32))).2.1 ?_
    show Steps _ _ _ (s₁.setTop (mkF m 22 #[.val (.int (-w0)), vI 0, .val (.int (-1000)), vI 3] [])) _
    refine XS.iloadN X0.here hx rfl (hb hby d227) rfl ?_
    show Steps _ _ _ (s₁.setTop (mkF m 23 #[.val (.int (-w0)), vI 0, .val (.int (-1000)), vI 3] [(.int (-w0))])) _
    refine XS.iloadN X0.here hx rfl (hb hby d228) rfl ?_
    show Steps _ _ _ (s₁.setTop (mkF m 24 #[.val (.int (-w0)), vI 0, .val (.int (-1000)), vI 3] [(.int (-1000)), (.int (-w0))])) _
    refine XS.icmpYes X0.here hx rfl (pc0 := 24) (pc' := 31) rfl (hb hby d229) rfl (flt (q3 : ¬ ((-1000 : Int32) < (-w0)))).2.2.2 (by decide) (by decide) ?_
    show Steps _ _ _ (s₁.setTop (mkF m 31 #[.val (.int (-w0)), vI 0, .val (.int (-1000)), vI 3] [])) _
    refine XS.bipush X0.here hx rfl (hb hby d234) ?_
    show Steps _ _ _ (s₁.setTop (mkF m 33 #[.val (.int (-w0)), vI 0, .val (.int (-1000)), vI 3] [(.int 10)])) _
    refine XS.iloadN X0.here hx rfl (hb hby d235) rfl ?_
    show Steps _ _ _ (s₁.setTop (mkF m 34 #[.val (.int (-w0)), vI 0, .val (.int (-1000)), vI 3] [(.int (-1000)), (.int 10)])) _
    refine XS.imul X0.here hx rfl (hb hby d236) rfl ?_
    show Steps _ _ _ (s₁.setTop (mkF m 35 #[.val (.int (-w0)), vI 0, .val (.int (-1000)), vI 3] [(.int (-10000))])) _
    refine XS.istoreN X0.here hx rfl (hb hby d237) rfl (l' := #[.val (.int (-w0)), vI 0, .val (.int (-10000)), vI 3]) rfl ?_
    show Steps _ _ _ (s₁.setTop (mkF m 36 #[.val (.int (-w0)), vI 0, .val (.int (-10000)), vI 3] [])) _
    refine XS.iinc X0.here hx rfl (hb hby d238) rfl (l' := #[.val (.int (-w0)), vI 0, .val (.int (-10000)), vI 4]) rfl ?_
    show Steps _ _ _ (s₁.setTop (mkF m 39 #[.val (.int (-w0)), vI 0, .val (.int (-10000)), vI 4] [])) _
    refine XS.goto X0.here hx rfl (pc0 := 39) (pc' := 16) rfl (hb hby d239) (by decide) (by decide) ?_
    show Steps _ _ _ (s₁.setTop (mkF m 16 #[.val (.int (-w0)), vI 0, .val (.int (-10000)), vI 4] [])) _
    refine XS.iloadN X0.here hx rfl (hb hby d224) rfl ?_
    show Steps _ _ _ (s₁.setTop (mkF m 17 #[.val (.int (-w0)), vI 0, .val (.int (-10000)), vI 4] [(.int 4)])) _
    refine XS.bipush X0.here hx rfl (hb hby d225) ?_
    show Steps _ _ _ (s₁.setTop (mkF m 19 #[.val (.int (-w0)), vI 0, .val (.int (-10000)), vI 4] [(.int 10), (.int 4)])) _
    refine XS.icmpNo X0.here hx rfl (hb hby d226) rfl (tlt ((by decide) : (4 : Int32) < (10 : Int32))).2.1 ?_
    show Steps _ _ _ (s₁.setTop (mkF m 22 #[.val (.int (-w0)), vI 0, .val (.int (-10000)), vI 4] [])) _
    refine XS.iloadN X0.here hx rfl (hb hby d227) rfl ?_
    show Steps _ _ _ (s₁.setTop (mkF m 23 #[.val (.int (-w0)), vI 0, .val (.int (-10000)), vI 4] [(.int (-w0))])) _
    refine XS.iloadN X0.here hx rfl (hb hby d228) rfl ?_
    show Steps _ _ _ (s₁.setTop (mkF m 24 #[.val (.int (-w0)), vI 0, .val (.int (-10000)), vI 4] [(.int (-10000)), (.int (-w0))])) _
    refine XS.icmpYes X0.here hx rfl (pc0 := 24) (pc' := 31) rfl (hb hby d229) rfl (flt (q4 : ¬ ((-10000 : Int32) < (-w0)))).2.2.2 (by decide) (by decide) ?_
    show Steps _ _ _ (s₁.setTop (mkF m 31 #[.val (.int (-w0)), vI 0, .val (.int (-10000)), vI 4] [])) _
    refine XS.bipush X0.here hx rfl (hb hby d234) ?_
    show Steps _ _ _ (s₁.setTop (mkF m 33 #[.val (.int (-w0)), vI 0, .val (.int (-10000)), vI 4] [(.int 10)])) _
    refine XS.iloadN X0.here hx rfl (hb hby d235) rfl ?_
    show Steps _ _ _ (s₁.setTop (mkF m 34 #[.val (.int (-w0)), vI 0, .val (.int (-10000)), vI 4] [(.int (-10000)), (.int 10)])) _
    refine XS.imul X0.here hx rfl (hb hby d236) rfl ?_
    show Steps _ _ _ (s₁.setTop (mkF m 35 #[.val (.int (-w0)), vI 0, .val (.int (-10000)), vI 4] [(.int (-100000))])) _
    refine XS.istoreN X0.here hx rfl (hb hby d237) rfl (l' := #[.val (.int (-w0)), vI 0, .val (.int (-100000)), vI 4]) rfl ?_
    show Steps _ _ _ (s₁.setTop (mkF m 36 #[.val (.int (-w0)), vI 0, .val (.int (-100000)), vI 4] [])) _
    refine XS.iinc X0.here hx rfl (hb hby d238) rfl (l' := #[.val (.int (-w0)), vI 0, .val (.int (-100000)), vI 5]) rfl ?_
    show Steps _ _ _ (s₁.setTop (mkF m 39 #[.val (.int (-w0)), vI 0, .val (.int (-100000)), vI 5] [])) _
    refine XS.goto X0.here hx rfl (pc0 := 39) (pc' := 16) rfl (hb hby d239) (by decide) (by decide) ?_
    show Steps _ _ _ (s₁.setTop (mkF m 16 #[.val (.int (-w0)), vI 0, .val (.int (-100000)), vI 5] [])) _
    refine XS.iloadN X0.here hx rfl (hb hby d224) rfl ?_
    show Steps _ _ _ (s₁.setTop (mkF m 17 #[.val (.int (-w0)), vI 0, .val (.int (-100000)), vI 5] [(.int 5)])) _
    refine XS.bipush X0.here hx rfl (hb hby d225) ?_
    show Steps _ _ _ (s₁.setTop (mkF m 19 #[.val (.int (-w0)), vI 0, .val (.int (-100000)), vI 5] [(.int 10), (.int 5)])) _
    refine XS.icmpNo X0.here hx rfl (hb hby d226) rfl (tlt ((by decide) : (5 : Int32) < (10 : Int32))).2.1 ?_
    show Steps _ _ _ (s₁.setTop (mkF m 22 #[.val (.int (-w0)), vI 0, .val (.int (-100000)), vI 5] [])) _
    refine XS.iloadN X0.here hx rfl (hb hby d227) rfl ?_
    show Steps _ _ _ (s₁.setTop (mkF m 23 #[.val (.int (-w0)), vI 0, .val (.int (-100000)), vI 5] [(.int (-w0))])) _
    refine XS.iloadN X0.here hx rfl (hb hby d228) rfl ?_
    show Steps _ _ _ (s₁.setTop (mkF m 24 #[.val (.int (-w0)), vI 0, .val (.int (-100000)), vI 5] [(.int (-100000)), (.int (-w0))])) _
    refine XS.icmpYes X0.here hx rfl (pc0 := 24) (pc' := 31) rfl (hb hby d229) rfl (flt (q5 : ¬ ((-100000 : Int32) < (-w0)))).2.2.2 (by decide) (by decide) ?_
    show Steps _ _ _ (s₁.setTop (mkF m 31 #[.val (.int (-w0)), vI 0, .val (.int (-100000)), vI 5] [])) _
    refine XS.bipush X0.here hx rfl (hb hby d234) ?_
    show Steps _ _ _ (s₁.setTop (mkF m 33 #[.val (.int (-w0)), vI 0, .val (.int (-100000)), vI 5] [(.int 10)])) _
    refine XS.iloadN X0.here hx rfl (hb hby d235) rfl ?_
    show Steps _ _ _ (s₁.setTop (mkF m 34 #[.val (.int (-w0)), vI 0, .val (.int (-100000)), vI 5] [(.int (-100000)), (.int 10)])) _
    refine XS.imul X0.here hx rfl (hb hby d236) rfl ?_
    show Steps _ _ _ (s₁.setTop (mkF m 35 #[.val (.int (-w0)), vI 0, .val (.int (-100000)), vI 5] [(.int (-1000000))])) _
    refine XS.istoreN X0.here hx rfl (hb hby d237) rfl (l' := #[.val (.int (-w0)), vI 0, .val (.int (-1000000)), vI 5]) rfl ?_
    show Steps _ _ _ (s₁.setTop (mkF m 36 #[.val (.int (-w0)), vI 0, .val (.int (-1000000)), vI 5] [])) _
    refine XS.iinc X0.here hx rfl (hb hby d238) rfl (l' := #[.val (.int (-w0)), vI 0, .val (.int (-1000000)), vI 6]) rfl ?_
    show Steps _ _ _ (s₁.setTop (mkF m 39 #[.val (.int (-w0)), vI 0, .val (.int (-1000000)), vI 6] [])) _
    refine XS.goto X0.here hx rfl (pc0 := 39) (pc' := 16) rfl (hb hby d239) (by decide) (by decide) ?_
    show Steps _ _ _ (s₁.setTop (mkF m 16 #[.val (.int (-w0)), vI 0, .val (.int (-1000000)), vI 6] [])) _
    refine XS.iloadN X0.here hx rfl (hb hby d224) rfl ?_
    show Steps _ _ _ (s₁.setTop (mkF m 17 #[.val (.int (-w0)), vI 0, .val (.int (-1000000)), vI 6] [(.int 6)])) _
    refine XS.bipush X0.here hx rfl (hb hby d225) ?_
    show Steps _ _ _ (s₁.setTop (mkF m 19 #[.val (.int (-w0)), vI 0, .val (.int (-1000000)), vI 6] [(.int 10), (.int 6)])) _
    refine XS.icmpNo X0.here hx rfl (hb hby d226) rfl (tlt ((by decide) : (6 : Int32) < (10 : Int32))).2.1 ?_
    show Steps _ _ _ (s₁.setTop (mkF m 22 #[.val (.int (-w0)), vI 0, .val (.int (-1000000)), vI 6] [])) _
    refine XS.iloadN X0.here hx rfl (hb hby d227) rfl ?_
    show Steps _ _ _ (s₁.setTop (mkF m 23 #[.val (.int (-w0)), vI 0, .val (.int (-1000000)), vI 6] [(.int (-w0))])) _
    refine XS.iloadN X0.here hx rfl (hb hby d228) rfl ?_
    show Steps _ _ _ (s₁.setTop (mkF m 24 #[.val (.int (-w0)), vI 0, .val (.int (-1000000)), vI 6] [(.int (-1000000)), (.int (-w0))])) _
    refine XS.icmpNo X0.here hx rfl (hb hby d229) rfl (tlt (q6 : (-1000000 : Int32) < (-w0))).2.2.2 ?_
    show Steps _ _ _ (s₁.setTop (mkF m 27 #[.val (.int (-w0)), vI 0, .val (.int (-1000000)), vI 6] [])) _
    refine XS.iloadN X0.here hx rfl (hb hby d230) rfl ?_
    show Steps _ _ _ (s₁.setTop (mkF m 28 #[.val (.int (-w0)), vI 0, .val (.int (-1000000)), vI 6] [(.int 6)])) _
    refine XS.iloadN X0.here hx rfl (hb hby d231) rfl ?_
    show Steps _ _ _ (s₁.setTop (mkF m 29 #[.val (.int (-w0)), vI 0, .val (.int (-1000000)), vI 6] [(.int 0), (.int 6)])) _
    refine XS.iadd X0.here hx rfl (hb hby d232) rfl ?_
    show Steps _ _ _ (s₁.setTop (mkF m 30 #[.val (.int (-w0)), vI 0, .val (.int (-1000000)), vI 6] [(.int 6)])) _
    exact retI X0 hx hret (hb hby d233) hr
theorem rm_ssz_7 (l : Launch) (Z : State) (a0 : Array Value) (hw : HW Z a0) (ws : List Jvm.Cond) (w0 : Int32) (h0 : Heap) (n0 : Nat) (Z0 : n0 ≤ h0.size) (hw0 : ¬ (w0 < (0 : Int32))) (q1 : ¬ ((-10 : Int32) < (-w0))) (q2 : ¬ ((-100 : Int32) < (-w0))) (q3 : ¬ ((-1000 : Int32) < (-w0))) (q4 : ¬ ((-10000 : Int32) < (-w0))) (q5 : ¬ ((-100000 : Int32) < (-w0))) (q6 : ¬ ((-1000000 : Int32) < (-w0))) (q7 : (-10000000 : Int32) < (-w0)) :
    MF l Z m_19 jdk_33_method_13_code 4 (some .int) ws (oR 0 0 0 0) #[(.int w0)] h0 (Q_ssz Z w0 h0 n0) := by
  refine own_body (cls := "java/lang/Integer") (plainFor_of_name pn_8) rfl (fun p e s m below meth c s₁ hx hby hml hown hnm hret hZ X0 e0 => ?_)
  have N0 := Fr.nil n0
  refine ⟨_, _, _, _, some (.int 7), X0, by decide, by decide, nofun, ?_, fun fs hr => castTop (ef_11 m w0) ?_⟩
  · show Q_ssz Z w0 h0 n0 _ s₁.heap _
    rw [(e0 : s₁.heap = h0)]
    exact ⟨(7 : Int32), rfl, N0, rfl, (by decide)⟩
  · show Steps _ _ _ (s₁.setTop (mkF m 0 #[vI w0, .unset, .unset, .unset] [])) _
    refine XS.iconst X0.here hx rfl (hb hby d211) ?_
    show Steps _ _ _ (s₁.setTop (mkF m 1 #[vI w0, .unset, .unset, .unset] [(.int 1)])) _
    refine XS.istoreN X0.here hx rfl (hb hby d212) rfl (l' := #[vI w0, vI 1, .unset, .unset]) rfl ?_
    show Steps _ _ _ (s₁.setTop (mkF m 2 #[vI w0, vI 1, .unset, .unset] [])) _
    refine XS.iloadN X0.here hx rfl (hb hby d213) rfl ?_
    show Steps _ _ _ (s₁.setTop (mkF m 3 #[vI w0, vI 1, .unset, .unset] [(.int w0)])) _
    refine XS.ifNo X0.here hx rfl (hb hby d214) rfl ((if0 _ _).trans (flt (hw0 : ¬ (w0 < (0 : Int32)))).1) ?_
    show Steps _ _ _ (s₁.setTop (mkF m 6 #[vI w0, vI 1, .unset, .unset] [])) _
    refine XS.iconst X0.here hx rfl (hb hby d215) ?_
    show Steps _ _ _ (s₁.setTop (mkF m 7 #[vI w0, vI 1, .unset, .unset] [(.int 0)])) _
    refine XS.istoreN X0.here hx rfl (hb hby d216) rfl (l' := #[vI w0, vI 0, .unset, .unset]) rfl ?_
    show Steps _ _ _ (s₁.setTop (mkF m 8 #[vI w0, vI 0, .unset, .unset] [])) _
    refine XS.iloadN X0.here hx rfl (hb hby d217) rfl ?_
    show Steps _ _ _ (s₁.setTop (mkF m 9 #[vI w0, vI 0, .unset, .unset] [(.int w0)])) _
    refine XS.ineg X0.here hx rfl (hb hby d218) rfl ?_
    show Steps _ _ _ (s₁.setTop (mkF m 10 #[vI w0, vI 0, .unset, .unset] [(.int (-w0))])) _
    refine XS.istoreN X0.here hx rfl (hb hby d219) rfl (l' := #[.val (.int (-w0)), vI 0, .unset, .unset]) rfl ?_
    show Steps _ _ _ (s₁.setTop (mkF m 11 #[.val (.int (-w0)), vI 0, .unset, .unset] [])) _
    refine XS.bipush X0.here hx rfl (hb hby d220) ?_
    show Steps _ _ _ (s₁.setTop (mkF m 13 #[.val (.int (-w0)), vI 0, .unset, .unset] [(.int (-10))])) _
    refine XS.istoreN X0.here hx rfl (hb hby d221) rfl (l' := #[.val (.int (-w0)), vI 0, .val (.int (-10)), .unset]) rfl ?_
    show Steps _ _ _ (s₁.setTop (mkF m 14 #[.val (.int (-w0)), vI 0, .val (.int (-10)), .unset] [])) _
    refine XS.iconst X0.here hx rfl (hb hby d222) ?_
    show Steps _ _ _ (s₁.setTop (mkF m 15 #[.val (.int (-w0)), vI 0, .val (.int (-10)), .unset] [(.int 1)])) _
    refine XS.istoreN X0.here hx rfl (hb hby d223) rfl (l' := #[.val (.int (-w0)), vI 0, .val (.int (-10)), vI 1]) rfl ?_
    show Steps _ _ _ (s₁.setTop (mkF m 16 #[.val (.int (-w0)), vI 0, .val (.int (-10)), vI 1] [])) _
    refine XS.iloadN X0.here hx rfl (hb hby d224) rfl ?_
    show Steps _ _ _ (s₁.setTop (mkF m 17 #[.val (.int (-w0)), vI 0, .val (.int (-10)), vI 1] [(.int 1)])) _
    refine XS.bipush X0.here hx rfl (hb hby d225) ?_
    show Steps _ _ _ (s₁.setTop (mkF m 19 #[.val (.int (-w0)), vI 0, .val (.int (-10)), vI 1] [(.int 10), (.int 1)])) _
    refine XS.icmpNo X0.here hx rfl (hb hby d226) rfl (tlt ((by decide) : (1 : Int32) < (10 : Int32))).2.1 ?_
    show Steps _ _ _ (s₁.setTop (mkF m 22 #[.val (.int (-w0)), vI 0, .val (.int (-10)), vI 1] [])) _
    refine XS.iloadN X0.here hx rfl (hb hby d227) rfl ?_
    show Steps _ _ _ (s₁.setTop (mkF m 23 #[.val (.int (-w0)), vI 0, .val (.int (-10)), vI 1] [(.int (-w0))])) _
    refine XS.iloadN X0.here hx rfl (hb hby d228) rfl ?_
    show Steps _ _ _ (s₁.setTop (mkF m 24 #[.val (.int (-w0)), vI 0, .val (.int (-10)), vI 1] [(.int (-10)), (.int (-w0))])) _
    refine XS.icmpYes X0.here hx rfl (pc0 := 24) (pc' := 31) rfl (hb hby d229) rfl (flt (q1 : ¬ ((-10 : Int32) < (-w0)))).2.2.2 (by decide) (by decide) ?_
    show Steps _ _ _ (s₁.setTop (mkF m 31 #[.val (.int (-w0)), vI 0, .val (.int (-10)), vI 1] [])) _
    refine XS.bipush X0.here hx rfl (hb hby d234) ?_
    show Steps _ _ _ (s₁.setTop (mkF m 33 #[.val (.int (-w0)), vI 0, .val (.int (-10)), vI 1] [(.int 10)])) _
    refine XS.iloadN X0.here hx rfl (hb hby d235) rfl ?_
    show Steps _ _ _ (s₁.setTop (mkF m 34 #[.val (.int (-w0)), vI 0, .val (.int (-10)), vI 1] [(.int (-10)), (.int 10)])) _
    refine XS.imul X0.here hx rfl (hb hby d236) rfl ?_
    show Steps _ _ _ (s₁.setTop (mkF m 35 #[.val (.int (-w0)), vI 0, .val (.int (-10)), vI 1] [(.int (-100))])) _
    refine XS.istoreN X0.here hx rfl (hb hby d237) rfl (l' := #[.val (.int (-w0)), vI 0, .val (.int (-100)), vI 1]) rfl ?_
    show Steps _ _ _ (s₁.setTop (mkF m 36 #[.val (.int (-w0)), vI 0, .val (.int (-100)), vI 1] [])) _
    refine XS.iinc X0.here hx rfl (hb hby d238) rfl (l' := #[.val (.int (-w0)), vI 0, .val (.int (-100)), vI 2]) rfl ?_
    show Steps _ _ _ (s₁.setTop (mkF m 39 #[.val (.int (-w0)), vI 0, .val (.int (-100)), vI 2] [])) _
    refine XS.goto X0.here hx rfl (pc0 := 39) (pc' := 16) rfl (hb hby d239) (by decide) (by decide) ?_
    show Steps _ _ _ (s₁.setTop (mkF m 16 #[.val (.int (-w0)), vI 0, .val (.int (-100)), vI 2] [])) _
    refine XS.iloadN X0.here hx rfl (hb hby d224) rfl ?_
    show Steps _ _ _ (s₁.setTop (mkF m 17 #[.val (.int (-w0)), vI 0, .val (.int (-100)), vI 2] [(.int 2)])) _
    refine XS.bipush X0.here hx rfl (hb hby d225) ?_
    show Steps _ _ _ (s₁.setTop (mkF m 19 #[.val (.int (-w0)), vI 0, .val (.int (-100)), vI 2] [(.int 10), (.int 2)])) _
    refine XS.icmpNo X0.here hx rfl (hb hby d226) rfl (tlt ((by decide) : (2 : Int32) < (10 : Int32))).2.1 ?_
    show Steps _ _ _ (s₁.setTop (mkF m 22 #[.val (.int (-w0)), vI 0, .val (.int (-100)), vI 2] [])) _
    refine XS.iloadN X0.here hx rfl (hb hby d227) rfl ?_
    show Steps _ _ _ (s₁.setTop (mkF m 23 #[.val (.int (-w0)), vI 0, .val (.int (-100)), vI 2] [(.int (-w0))])) _
    refine XS.iloadN X0.here hx rfl (hb hby d228) rfl ?_
    show Steps _ _ _ (s₁.setTop (mkF m 24 #[.val (.int (-w0)), vI 0, .val (.int (-100)), vI 2] [(.int (-100)), (.int (-w0))])) _
    refine XS.icmpYes X0.here hx rfl (pc0 := 24) (pc' := 31) rfl (hb hby d229) rfl (flt (q2 : ¬ ((-100 : Int32) < (-w0)))).2.2.2 (by decide) (by decide) ?_
    show Steps _ _ _ (s₁.setTop (mkF m 31 #[.val (.int (-w0)), vI 0, .val (.int (-100)), vI 2] [])) _
    refine XS.bipush X0.here hx rfl (hb hby d234) ?_
    show Steps _ _ _ (s₁.setTop (mkF m 33 #[.val (.int (-w0)), vI 0, .val (.int (-100)), vI 2] [(.int 10)])) _
    refine XS.iloadN X0.here hx rfl (hb hby d235) rfl ?_
    show Steps _ _ _ (s₁.setTop (mkF m 34 #[.val (.int (-w0)), vI 0, .val (.int (-100)), vI 2] [(.int (-100)), (.int 10)])) _
    refine XS.imul X0.here hx rfl (hb hby d236) rfl ?_
    show Steps _ _ _ (s₁.setTop (mkF m 35 #[.val (.int (-w0)), vI 0, .val (.int (-100)), vI 2] [(.int (-1000))])) _
    refine XS.istoreN X0.here hx rfl (hb hby d237) rfl (l' := #[.val (.int (-w0)), vI 0, .val (.int (-1000)), vI 2]) rfl ?_
    show Steps _ _ _ (s₁.setTop (mkF m 36 #[.val (.int (-w0)), vI 0, .val (.int (-1000)), vI 2] [])) _
    refine XS.iinc X0.here hx rfl (hb hby d238) rfl (l' := #[.val (.int (-w0)), vI 0, .val (.int (-1000)), vI 3]) rfl ?_
    show Steps _ _ _ (s₁.setTop (mkF m 39 #[.val (.int (-w0)), vI 0, .val (.int (-1000)), vI 3] [])) _
    refine XS.goto X0.here hx rfl (pc0 := 39) (pc' := 16) rfl (hb hby d239) (by decide) (by decide) ?_
    show Steps _ _ _ (s₁.setTop (mkF m 16 #[.val (.int (-w0)), vI 0, .val (.int (-1000)), vI 3] [])) _
    refine XS.iloadN X0.here hx rfl (hb hby d224) rfl ?_
    show Steps _ _ _ (s₁.setTop (mkF m 17 #[.val (.int (-w0)), vI 0, .val (.int (-1000)), vI 3] [(.int 3)])) _
    refine XS.bipush X0.here hx rfl (hb hby d225) ?_
    show Steps _ _ _ (s₁.setTop (mkF m 19 #[.val (.int (-w0)), vI 0, .val (.int (-1000)), vI 3] [(.int 10), (.int 3)])) _
    refine XS.icmpNo X0.here hx rfl (hb hby d226) rfl (tlt ((by decide) : (3 : Int32) < (10 : Int32))).2.1 ?_
    show Steps _ _ _ (s₁.setTop (mkF m 22 #[.val (.int (-w0)), vI 0, .val (.int (-1000)), vI 3] [])) _
    refine XS.iloadN X0.here hx rfl (hb hby d227) rfl ?_
    show Steps _ _ _ (s₁.setTop (mkF m 23 #[.val (.int (-w0)), vI 0, .val (.int (-1000)), vI 3] [(.int (-w0))])) _
    refine XS.iloadN X0.here hx rfl (hb hby d228) rfl ?_
    show Steps _ _ _ (s₁.setTop (mkF m 24 #[.val (.int (-w0)), vI 0, .val (.int (-1000)), vI 3] [(.int (-1000)), (.int (-w0))])) _
    refine XS.icmpYes X0.here hx rfl (pc0 := 24) (pc' := 31) rfl (hb hby d229) rfl (flt (q3 : ¬ ((-1000 : Int32) < (-w0)))).2.2.2 (by decide) (by decide) ?_
    show Steps _ _ _ (s₁.setTop (mkF m 31 #[.val (.int (-w0)), vI 0, .val (.int (-1000)), vI 3] [])) _
    refine XS.bipush X0.here hx rfl (hb hby d234) ?_
    show Steps _ _ _ (s₁.setTop (mkF m 33 #[.val (.int (-w0)), vI 0, .val (.int (-1000)), vI 3] [(.int 10)])) _
    refine XS.iloadN X0.here hx rfl (hb hby d235) rfl ?_
    show Steps _ _ _ (s₁.setTop (mkF m 34 #[.val (.int (-w0)), vI 0, .val (.int (-1000)), vI 3] [(.int (-1000)), (.int 10)])) _
    refine XS.imul X0.here hx rfl (hb hby d236) rfl ?_
    show Steps _ _ _ (s₁.setTop (mkF m 35 #[.val (.int (-w0)), vI 0, .val (.int (-1000)), vI 3] [(.int (-10000))])) _
    refine XS.istoreN X0.here hx rfl (hb hby d237) rfl (l' := #[.val (.int (-w0)), vI 0, .val (.int (-10000)), vI 3]) rfl ?_
    show Steps _ _ _ (s₁.setTop (mkF m 36 #[.val (.int (-w0)), vI 0, .val (.int (-10000)), vI 3] [])) _
    refine XS.iinc X0.here hx rfl (hb hby d238) rfl (l' := #[.val (.int (-w0)), vI 0, .val (.int (-10000)), vI 4]) rfl ?_
    show Steps _ _ _ (s₁.setTop (mkF m 39 #[.val (.int (-w0)), vI 0, .val (.int (-10000)), vI 4] [])) _
    refine XS.goto X0.here hx rfl (pc0 := 39) (pc' := 16) rfl (hb hby d239) (by decide) (by decide) ?_
    show Steps _ _ _ (s₁.setTop (mkF m 16 #[.val (.int (-w0)), vI 0, .val (.int (-10000)), vI 4] [])) _
    refine XS.iloadN X0.here hx rfl (hb hby d224) rfl ?_
    show Steps _ _ _ (s₁.setTop (mkF m 17 #[.val (.int (-w0)), vI 0, .val (.int (-10000)), vI 4] [(.int 4)])) _
    refine XS.bipush X0.here hx rfl (hb hby d225) ?_
    show Steps _ _ _ (s₁.setTop (mkF m 19 #[.val (.int (-w0)), vI 0, .val (.int (-10000)), vI 4] [(.int 10), (.int 4)])) _
    refine XS.icmpNo X0.here hx rfl (hb hby d226) rfl (tlt ((by decide) : (4 : Int32) < (10 : Int32))).2.1 ?_
    show Steps _ _ _ (s₁.setTop (mkF m 22 #[.val (.int (-w0)), vI 0, .val (.int (-10000)), vI 4] [])) _
    refine XS.iloadN X0.here hx rfl (hb hby d227) rfl ?_
    show Steps _ _ _ (s₁.setTop (mkF m 23 #[.val (.int (-w0)), vI 0, .val (.int (-10000)), vI 4] [(.int (-w0))])) _
    refine XS.iloadN X0.here hx rfl (hb hby d228) rfl ?_
    show Steps _ _ _ (s₁.setTop (mkF m 24 #[.val (.int (-w0)), vI 0, .val (.int (-10000)), vI 4] [(.int (-10000)), (.int (-w0))])) _
    refine XS.icmpYes X0.here hx rfl (pc0 := 24) (pc' := 31) rfl (hb hby d229) rfl (flt (q4 : ¬ ((-10000 : Int32) < (-w0)))).2.2.2 (by decide) (by decide) ?_
    show Steps _ _ _ (s₁.setTop (mkF m 31 #[.val (.int (-w0)), vI 0, .val (.int (-10000)), vI 4] [])) _
    refine XS.bipush X0.here hx rfl (hb hby d234) ?_
    show Steps _ _ _ (s₁.setTop (mkF m 33 #[.val (.int (-w0)), vI 0, .val (.int (-10000)), vI 4] [(.int 10)])) _
    refine XS.iloadN X0.here hx rfl (hb hby d235) rfl ?_
    show Steps _ _ _ (s₁.setTop (mkF m 34 #[.val (.int (-w0)), vI 0, .val (.int (-10000)), vI 4] [(.int (-10000)), (.int 10)])) _
    refine XS.imul X0.here hx rfl (hb hby d236) rfl ?_
    show Steps _ _ _ (s₁.setTop (mkF m 35 #[.val (.int (-w0)), vI 0, .val (.int (-10000)), vI 4] [(.int (-100000))])) _
    refine XS.istoreN X0.here hx rfl (hb hby d237) rfl (l' := #[.val (.int (-w0)), vI 0, .val (.int (-100000)), vI 4]) rfl ?_
    show Steps _ _ _ (s₁.setTop (mkF m 36 #[.val (.int (-w0)), vI 0, .val (.int (-100000)), vI 4] [])) _
    refine XS.iinc X0.here hx rfl (hb hby d238) rfl (l' := #[.val (.int (-w0)), vI 0, .val (.int (-100000)), vI 5]) rfl ?_
    show Steps _ _ _ (s₁.setTop (mkF m 39 #[.val (.int (-w0)), vI 0, .val (.int (-100000)), vI 5] [])) _
    refine XS.goto X0.here hx rfl (pc0 := 39) (pc' := 16) rfl (hb hby d239) (by decide) (by decide) ?_
    show Steps _ _ _ (s₁.setTop (mkF m 16 #[.val (.int (-w0)), vI 0, .val (.int (-100000)), vI 5] [])) _
    refine XS.iloadN X0.here hx rfl (hb hby d224) rfl ?_
    show Steps _ _ _ (s₁.setTop (mkF m 17 #[.val (.int (-w0)), vI 0, .val (.int (-100000)), vI 5] [(.int 5)])) _
    refine XS.bipush X0.here hx rfl (hb hby d225) ?_
    show Steps _ _ _ (s₁.setTop (mkF m 19 #[.val (.int (-w0)), vI 0, .val (.int (-100000)), vI 5] [(.int 10), (.int 5)])) _
    refine XS.icmpNo X0.here hx rfl (hb hby d226) rfl (tlt ((by decide) : (5 : Int32) < (10 : Int32))).2.1 ?_
    show Steps _ _ _ (s₁.setTop (mkF m 22 #[.val (.int (-w0)), vI 0, .val (.int (-100000)), vI 5] [])) _
    refine XS.iloadN X0.here hx rfl (hb hby d227) rfl ?_
    show Steps _ _ _ (s₁.setTop (mkF m 23 #[.val (.int (-w0)), vI 0, .val (.int (-100000)), vI 5] [(.int (-w0))])) _
    refine XS.iloadN X0.here hx rfl (hb hby d228) rfl ?_
    show Steps _ _ _ (s₁.setTop (mkF m 24 #[.val (.int (-w0)), vI 0, .val (.int (-100000)), vI 5] [(.int (-100000)), (.int (-w0))])) _
    refine XS.icmpYes X0.here hx rfl (pc0 := 24) (pc' := 31) rfl (hb hby d229) rfl (flt (q5 : ¬ ((-100000 : Int32) < (-w0)))).2.2.2 (by decide) (by decide) ?_
    show Steps _ _ _ (s₁.setTop (mkF m 31 #[.val (.int (-w0)), vI 0, .val (.int (-100000)), vI 5] [])) _
    refine XS.bipush X0.here hx rfl (hb hby d234) ?_
    show Steps _ _ _ (s₁.setTop (mkF m 33 #[.val (.int (-w0)), vI 0, .val (.int (-100000)), vI 5] [(.int 10)])) _
    refine XS.iloadN X0.here hx rfl (hb hby d235) rfl ?_
    show Steps _ _ _ (s₁.setTop (mkF m 34 #[.val (.int (-w0)), vI 0, .val (.int (-100000)), vI 5] [(.int (-100000)), (.int 10)])) _
    refine XS.imul X0.here hx rfl (hb hby d236) rfl ?_
    show Steps _ _ _ (s₁.setTop (mkF m 35 #[.val (.int (-w0)), vI 0, .val (.int (-100000)), vI 5] [(.int (-1000000))])) _
    refine XS.istoreN X0.here hx rfl (hb hby d237) rfl (l' := #[.val (.int (-w0)), vI 0, .val (.int (-1000000)), vI 5]) rfl ?_
    show Steps _ _ _ (s₁.setTop (mkF m 36 #[.val (.int (-w0)), vI 0, .val (.int (-1000000)), vI 5] [])) _
    refine XS.iinc X0.here hx rfl (hb hby d238) rfl (l' := #[.val (.int (-w0)), vI 0, .val (.int (-1000000)), vI 6]) rfl ?_
    show Steps _ _ _ (s₁.setTop (mkF m 39 #[.val (.int (-w0)), vI 0, .val (.int (-1000000)), vI 6] [])) _
    refine XS.goto X0.here hx rfl (pc0 := 39) (pc' := 16) rfl (hb hby d239) (by decide) (by decide) ?_
    show Steps _ _ _ (s₁.setTop (mkF m 16 #[.val (.int (-w0)), vI 0, .val (.int (-1000000)), vI 6] [])) _
    refine XS.iloadN X0.here hx rfl (hb hby d224) rfl ?_
    show Steps _ _ _ (s₁.setTop (mkF m 17 #[.val (.int (-w0)), vI 0, .val (.int (-1000000)), vI 6] [(.int 6)])) _
    refine XS.bipush X0.here hx rfl (hb hby d225) ?_
    show Steps _ _ _ (s₁.setTop (mkF m 19 #[.val (.int (-w0)), vI 0, .val (.int (-1000000)), vI 6] [(.int 10), (.int 6)])) _
    refine XS.icmpNo X0.here hx rfl (hb hby d226) rfl (tlt ((by decide) : (6 : Int32) < (10 : Int32))).2.1 ?_
    show Steps _ _ _ (s₁.setTop (mkF m 22 #[.val (.int (-w0)), vI 0, .val (.int (-1000000)), vI 6] [])) _
    refine XS.iloadN X0.here hx rfl (hb hby d227) rfl ?_
    show Steps _ _ _ (s₁.setTop (mkF m 23 #[.val (.int (-w0)), vI 0, .val (.int (-1000000)), vI 6] [(.int (-w0))])) _
    refine XS.iloadN X0.here hx rfl (hb hby d228) rfl ?_
    show Steps _ _ _ (s₁.setTop (mkF m 24 #[.val (.int (-w0)), vI 0, .val (.int (-1000000)), vI 6] [(.int (-1000000)), (.int (-w0))])) _
    refine XS.icmpYes X0.here hx rfl (pc0 := 24) (pc' := 31) rfl (hb hby d229) rfl (flt (q6 : ¬ ((-1000000 : Int32) < (-w0)))).2.2.2 (by decide) (by decide) ?_
    show Steps _ _ _ (s₁.setTop (mkF m 31 #[.val (.int (-w0)), vI 0, .val (.int (-1000000)), vI 6] [])) _
    refine XS.bipush X0.here hx rfl (hb hby d234) ?_
    show Steps _ _ _ (s₁.setTop (mkF m 33 #[.val (.int (-w0)), vI 0, .val (.int (-1000000)), vI 6] [(.int 10)])) _
    refine XS.iloadN X0.here hx rfl (hb hby d235) rfl ?_
    show Steps _ _ _ (s₁.setTop (mkF m 34 #[.val (.int (-w0)), vI 0, .val (.int (-1000000)), vI 6] [(.int (-1000000)), (.int 10)])) _
    refine XS.imul X0.here hx rfl (hb hby d236) rfl ?_
    show Steps _ _ _ (s₁.setTop (mkF m 35 #[.val (.int (-w0)), vI 0, .val (.int (-1000000)), vI 6] [(.int (-10000000))])) _
    refine XS.istoreN X0.here hx rfl (hb hby d237) rfl (l' := #[.val (.int (-w0)), vI 0, .val (.int (-10000000)), vI 6]) rfl ?_
    show Steps _ _ _ (s₁.setTop (mkF m 36 #[.val (.int (-w0)), vI 0, .val (.int (-10000000)), vI 6] [])) _
    refine XS.iinc X0.here hx rfl (hb hby d238) rfl (l' := #[.val (.int (-w0)), vI 0, .val (.int (-10000000)), vI 7]) rfl ?_
    show Steps _ _ _ (s₁.setTop (mkF m 39 #[.val (.int (-w0)), vI 0, .val (.int (-10000000)), vI 7] [])) _
    refine XS.goto X0.here hx rfl (pc0 := 39) (pc' := 16) rfl (hb hby d239) (by decide) (by decide) ?_
    show Steps _ _ _ (s₁.setTop (mkF m 16 #[.val (.int (-w0)), vI 0, .val (.int (-10000000)), vI 7] [])) _
    refine XS.iloadN X0.here hx rfl (hb hby d224) rfl ?_
    show Steps _ _ _ (s₁.setTop (mkF m 17 #[.val (.int (-w0)), vI 0, .val (.int (-10000000)), vI 7] [(.int 7)])) _
    refine XS.bipush X0.here hx rfl (hb hby d225) ?_
    show Steps _ _ _ (s₁.setTop (mkF m 19 #[.val (.int (-w0)), vI 0, .val (.int (-10000000)), vI 7] [(.int 10), (.int 7)])) _
    refine XS.icmpNo X0.here hx rfl (hb hby d226) rfl (tlt ((by decide) : (7 : Int32) < (10 : Int32))).2.1 ?_
    show Steps _ _ _ (s₁.setTop (mkF m 22 #[.val (.int (-w0)), vI 0, .val (.int (-10000000)), vI 7] [])) _
    refine XS.iloadN X0.here hx rfl (hb hby d227) rfl ?_
    show Steps _ _ _ (s₁.setTop (mkF m 23 #[.val (.int (-w0)), vI 0, .val (.int (-10000000)), vI 7] [(.int (-w0))])) _
    refine XS.iloadN X0.here hx rfl (hb hby d228) rfl ?_
    show Steps _ _ _ (s₁.setTop (mkF m 24 #[.val (.int (-w0)), vI 0, .val (.int (-10000000)), vI 7] [(.int (-10000000)), (.int (-w0))])) _
    refine XS.icmpNo X0.here hx rfl (hb hby d229) rfl (tlt (q7 : (-10000000 : Int32) < (-w0))).2.2.2 ?_
    show Steps _ _ _ (s₁.setTop (mkF m 27 #[.val (.int (-w0)), vI 0, .val (.int (-10000000)), vI 7] [])) _
    refine XS.iloadN X0.here hx rfl (hb hby d230) rfl ?_
    show Steps _ _ _ (s₁.setTop (mkF m 28 #[.val (.int (-w0)), vI 0, .val (.int (-10000000)), vI 7] [(.int 7)])) _
    refine XS.iloadN X0.here hx rfl (hb hby d231) rfl ?_
    show Steps _ _ _ (s₁.setTop (mkF m 29 #[.val (.int (-w0)), vI 0, .val (.int (-10000000)), vI 7] [(.int 0), (.int 7)])) _
    refine XS.iadd X0.here hx rfl (hb hby d232) rfl ?_
    show Steps _ _ _ (s₁.setTop (mkF m 30 #[.val (.int (-w0)), vI 0, .val (.int (-10000000)), vI 7] [(.int 7)])) _
    exact retI X0 hx hret (hb hby d233) hr
theorem rm_ssz_8 (l : Launch) (Z : State) (a0 : Array Value) (hw : HW Z a0) (ws : List Jvm.Cond) (w0 : Int32) (h0 : Heap) (n0 : Nat) (Z0 : n0 ≤ h0.size) (hw0 : ¬ (w0 < (0 : Int32))) (q1 : ¬ ((-10 : Int32) < (-w0))) (q2 : ¬ ((-100 : Int32) < (-w0))) (q3 : ¬ ((-1000 : Int32) < (-w0))) (q4 : ¬ ((-10000 : Int32) < (-w0))) (q5 : ¬ ((-100000 : Int32) < (-w0))) (q6 : ¬ ((-1000000 : Int32) < (-w0))) (q7 : ¬ ((-10000000 : Int32) < (-w0))) (q8 : (-100000000 : Int32) < (-w0)) :
    MF l Z m_19 jdk_33_method_13_code 4 (some .int) ws (oR 0 0 0 0) #[(.int w0)] h0 (Q_ssz Z w0 h0 n0) := by
  refine own_body (cls := "java/lang/Integer") (plainFor_of_name pn_8) rfl (fun p e s m below meth c s₁ hx hby hml hown hnm hret hZ X0 e0 => ?_)
  have N0 := Fr.nil n0
  refine ⟨_, _, _, _, some (.int 8), X0, by decide, by decide, nofun, ?_, fun fs hr => castTop (ef_11 m w0) ?_⟩
  · show Q_ssz Z w0 h0 n0 _ s₁.heap _
    rw [(e0 : s₁.heap = h0)]
    exact ⟨(8 : Int32), rfl, N0, rfl, (by decide)⟩
  · show Steps _ _ _ (s₁.setTop (mkF m 0 #[vI w0, .unset, .unset, .unset] [])) _
    refine XS.iconst X0.here hx rfl (hb hby d211) ?_
    show Steps _ _ _ (s₁.setTop (mkF m 1 #[vI w0, .unset, .unset, .unset] [(.int 1)])) _
    refine XS.istoreN X0.here hx rfl (hb hby d212) rfl (l' := #[vI w0, vI 1, .unset, .unset]) rfl ?_
    show Steps _ _ _ (s₁.setTop (mkF m 2 #[vI w0, vI 1, .unset, .unset] [])) _
    refine XS.iloadN X0.here hx rfl (hb hby d213) rfl ?_
    show Steps _ _ _ (s₁.setTop (mkF m 3 #[vI w0, vI 1, .unset, .unset] [(.int w0)])) _
    refine XS.ifNo X0.here hx rfl (hb hby d214) rfl ((if0 _ _).trans (flt (hw0 : ¬ (w0 < (0 : Int32)))).1) ?_
    show Steps _ _ _ (s₁.setTop (mkF m 6 #[vI w0, vI 1, .unset, .unset] [])) _
    refine XS.iconst X0.here hx rfl (hb hby d215) ?_
    show Steps _ _ _ (s₁.setTop (mkF m 7 #[vI w0, vI 1, .unset, .unset] [(.int 0)])) _
    refine XS.istoreN X0.here hx rfl (hb hby d216) rfl (l' := #[vI w0, vI 0, .unset, .unset]) rfl ?_
    show Steps _ _ _ (s₁.setTop (mkF m 8 #[vI w0, vI 0, .unset, .unset] [])) _
    refine XS.iloadN X0.here hx rfl (hb hby d217) rfl ?_
    show Steps _ _ _ (s₁.setTop (mkF m 9 #[vI w0, vI 0, .unset, .unset] [(.int w0)])) _
    refine XS.ineg X0.here hx rfl (hb hby d218) rfl ?_
    show Steps _ _ _ (s₁.setTop (mkF m 10 #[vI w0, vI 0, .unset, .unset] [(.int (-w0))])) _
    refine XS.istoreN X0.here hx rfl (hb hby d219) rfl (l' := #[.val (.int (-w0)), vI 0, .unset, .unset]) rfl ?_
    show Steps _ _ _ (s₁.setTop (mkF m 11 #[.val (.int (-w0)), vI 0, .unset, .unset] [])) _
    refine XS.bipush X0.here hx rfl (hb hby d220) ?_
    show Steps _ _ _ (s₁.setTop (mkF m 13 #[.val (.int (-w0)), vI 0, .unset, .unset] [(.int (-10))])) _
    refine XS.istoreN X0.here hx rfl (hb hby d221) rfl (l' := #[.val (.int (-w0)), vI 0, .val (.int (-10)), .unset]) rfl ?_
    show Steps _ _ _ (s₁.setTop (mkF m 14 #[.val (.int (-w0)), vI 0, .val (.int (-10)), .unset] [])) _
    refine XS.iconst X0.here hx rfl (hb hby d222) ?_
    show Steps _ _ _ (s₁.setTop (mkF m 15 #[.val (.int (-w0)), vI 0, .val (.int (-10)), .unset] [(.int 1)])) _
    refine XS.istoreN X0.here hx rfl (hb hby d223) rfl (l' := #[.val (.int (-w0)), vI 0, .val (.int (-10)), vI 1]) rfl ?_
    show Steps _ _ _ (s₁.setTop (mkF m 16 #[.val (.int (-w0)), vI 0, .val (.int (-10)), vI 1] [])) _
    refine XS.iloadN X0.here hx rfl (hb hby d224) rfl ?_
    show Steps _ _ _ (s₁.setTop (mkF m 17 #[.val (.int (-w0)), vI 0, .val (.int (-10)), vI 1] [(.int 1)])) _
    refine XS.bipush X0.here hx rfl (hb hby d225) ?_
    show Steps _ _ _ (s₁.setTop (mkF m 19 #[.val (.int (-w0)), vI 0, .val (.int (-10)), vI 1] [(.int 10), (.int 1)])) _
    refine XS.icmpNo X0.here hx rfl (hb hby d226) rfl (tlt ((by decide) : (1 : Int32) < (10 : Int32))).2.1 ?_
    show Steps _ _ _ (s₁.setTop (mkF m 22 #[.val (.int (-w0)), vI 0, .val (.int (-10)), vI 1] [])) _
    refine XS.iloadN X0.here hx rfl (hb hby d227) rfl ?_
    show Steps _ _ _ (s₁.setTop (mkF m 23 #[.val (.int (-w0)), vI 0, .val (.int (-10)), vI 1] [(.int (-w0))])) _
    refine XS.iloadN X0.here hx rfl (hb hby d228) rfl ?_
    show Steps _ _ _ (s₁.setTop (mkF m 24 #[.val (.int (-w0)), vI 0, .val (.int (-10)), vI 1] [(.int (-10)), (.int (-w0))])) _
    refine XS.icmpYes X0.here hx rfl (pc0 := 24) (pc' := 31) rfl (hb hby d229) rfl (flt (q1 : ¬ ((-10 : Int32) < (-w0)))).2.2.2 (by decide) (by decide) ?_
    show Steps _ _ _ (s₁.setTop (mkF m 31 #[.val (.int (-w0)), vI 0, .val (.int (-10)), vI 1] [])) _
    refine XS.bipush X0.here hx rfl (hb hby d234) ?_
    show Steps _ _ _ (s₁.setTop (mkF m 33 #[.val (.int (-w0)), vI 0, .val (.int (-10)), vI 1] [(.int 10)])) _
    refine XS.iloadN X0.here hx rfl (hb hby d235) rfl ?_
    show Steps _ _ _ (s₁.setTop (mkF m 34 #[.val (.int (-w0)), vI 0, .val (.int (-10)), vI 1] [(.int (-10)), (.int 10)])) _
    refine XS.imul X0.here hx rfl (hb hby d236) rfl ?_
    show Steps _ _ _ (s₁.setTop (mkF m 35 #[.val (.int (-w0)), vI 0, .val (.int (-10)), vI 1] [(.int (-100))])) _
    refine XS.istoreN X0.here hx rfl (hb hby d237) rfl (l' := #[.val (.int (-w0)), vI 0, .val (.int (-100)), vI 1]) rfl ?_
    show Steps _ _ _ (s₁.setTop (mkF m 36 #[.val (.int (-w0)), vI 0, .val (.int (-100)), vI 1] [])) _
    refine XS.iinc X0.here hx rfl (hb hby d238) rfl (l' := #[.val (.int (-w0)), vI 0, .val (.int (-100)), vI 2]) rfl ?_
    show Steps _ _ _ (s₁.setTop (mkF m 39 #[.val (.int (-w0)), vI 0, .val (.int (-100)), vI 2] [])) _
    refine XS.goto X0.here hx rfl (pc0 := 39) (pc' := 16) rfl (hb hby d239) (by decide) (by decide) ?_
    show Steps _ _ _ (s₁.setTop (mkF m 16 #[.val (.int (-w0)), vI 0, .val (.int (-100)), vI 2] [])) _
    refine XS.iloadN X0.here hx rfl (hb hby d224) rfl ?_
    show Steps _ _ _ (s₁.setTop (mkF m 17 #[.val (.int (-w0)), vI 0, .val (.int (-100)), vI 2] [(.int 2)])) _
    refine XS.bipush X0.here hx rfl (hb hby d225) ?_
    show Steps _ _ _ (s₁.setTop (mkF m 19 #[.val (.int (-w0)), vI 0, .val (.int (-100)), vI 2] [(.int 10), (.int 2)])) _
    refine XS.icmpNo X0.here hx rfl (hb hby d226) rfl (tlt ((by decide) : (2 : Int32) < (10 : Int32))).2.1 ?_
    show Steps _ _ _ (s₁.setTop (mkF m 22 #[.val (.int (-w0)), vI 0, .val (.int (-100)), vI 2] [])) _
    refine XS.iloadN X0.here hx rfl (hb hby d227) rfl ?_
    show Steps _ _ _ (s₁.setTop (mkF m 23 #[.val (.int (-w0)), vI 0, .val (.int (-100)), vI 2] [(.int (-w0))])) _
    refine XS.iloadN X0.here hx rfl (hb hby d228) rfl ?_
    show Steps _ _ _ (s₁.setTop (mkF m 24 #[.val (.int (-w0)), vI 0, .val (.int (-100)), vI 2] [(.int (-100)), (.int (-w0))])) _
    refine XS.icmpYes X0.here hx rfl (pc0 := 24) (pc' := 31) rfl (hb hby d229) rfl (flt (q2 : ¬ ((-100 : Int32) < (-w0)))).2.2.2 (by decide) (by decide) ?_
    show Steps _ _ _ (s₁.setTop (mkF m 31 #[.val (.int (-w0)), vI 0, .val (.int (-100)), vI 2] [])) _
    refine XS.bipush X0.here hx rfl (hb hby d234) ?_
    show Steps _ _ _ (s₁.setTop (mkF m 33 #[.val (.int (-w0)), vI 0, .val (.int (-100)), vI 2] [(.int 10)])) _
    refine XS.iloadN X0.here hx rfl (hb hby d235) rfl ?_
    show Steps _ _ _ (s₁.setTop (mkF m 34 #[.val (.int (-w0)), vI 0, .val (.int (-100)), vI 2] [(.int (-100)), (.int 10)])) _
    refine XS.imul X0.here hx rfl (hb hby d236) rfl ?_
    show Steps _ _ _ (s₁.setTop (mkF m 35 #[.val (.int (-w0)), vI 0, .val (.int (-100)), vI 2] [(.int (-1000))])) _
    refine XS.istoreN X0.here hx rfl (hb hby d237) rfl (l' := #[.val (.int (-w0)), vI 0, .val (.int (-1000)), vI 2]) rfl ?_
    show Steps _ _ _ (s₁.setTop (mkF m 36 #[.val (.int (-w0)), vI 0, .val (.int (-1000)), vI 2] [])) _
    refine XS.iinc X0.here hx rfl (hb hby d238) rfl (l' := #[.val (.int (-w0)), vI 0, .val (.int (-1000)), vI 3]) rfl ?_
    show Steps _ _ _ (s₁.setTop (mkF m 39 #[.val (.int (-w0)), vI 0, .val (.int (-1000)), vI 3] [])) _
    refine XS.goto X0.here hx rfl (pc0 := 39) (pc' := 16) rfl (hb hby d239) (by decide) (by decide) ?_
    show Steps _ _ _ (s₁.setTop (mkF m 16 #[.val (.int (-w0)), vI 0, .val (.int (-1000)), vI 3] [])) _
    refine XS.iloadN X0.here hx rfl (hb hby d224) rfl ?_
    show Steps _ _ _ (s₁.setTop (mkF m 17 #[.val (.int (-w0)), vI 0, .val (.int (-1000)), vI 3] [(.int 3)])) _
    refine XS.bipush X0.here hx rfl (hb hby d225) ?_
    show Steps _ _ _ (s₁.setTop (mkF m 19 #[.val (.int (-w0)), vI 0, .val (.int (-1000)), vI 3] [(.int 10), (.int 3)])) _
    refine XS.icmpNo X0.here hx rfl (hb hby d226) rfl (tlt ((by decide) : (3 : Int32) < (10 : Int32))).2.1 ?_
    show Steps _ _ _ (s₁.setTop (mkF m 22 #[.val (.int (-w0)), vI 0, .val (.int (-1000)), vI 3] [])) _
    refine XS.iloadN X0.here hx rfl (hb hby d227) rfl ?_
    show Steps _ _ _ (s₁.setTop (mkF m 23 #[.val (.int (-w0)), vI 0, .val (.int (-1000)), vI 3] [(.int (-w0))])) _
    refine XS.iloadN X0.here hx rfl (hb hby d228) rfl ?_
    show Steps _ _ _ (s₁.setTop (mkF m 24 #[.val (.int (-w0)), vI 0, .val (.int (-1000)), vI 3] [(.int (-1000)), (.int (-w0))])) _
    refine XS.icmpYes X0.here hx rfl (pc0 := 24) (pc' := 31) rfl (hb hby d229) rfl (flt (q3 : ¬ ((-1000 : Int32) < (-w0)))).2.2.2 (by decide) (by decide) ?_
    show Steps _ _ _ (s₁.setTop (mkF m 31 #[.val (.int (-w0)), vI 0, .val (.int (-1000)), vI 3] [])) _
    refine XS.bipush X0.here hx rfl (hb hby d234) ?_
    show Steps _ _ _ (s₁.setTop (mkF m 33 #[.val (.int (-w0)), vI 0, .val (.int (-1000)), vI 3] [(.int 10)])) _
    refine XS.iloadN X0.here hx rfl (hb hby d235) rfl ?_
    show Steps _ _ _ (s₁.setTop (mkF m 34 #[.val (.int (-w0)), vI 0, .val (.int (-1000)), vI 3] [(.int (-1000)), (.int 10)])) _
    refine XS.imul X0.here hx rfl (hb hby d236) rfl ?_
    show Steps _ _ _ (s₁.setTop (mkF m 35 #[.val (.int (-w0)), vI 0, .val (.int (-1000)), vI 3] [(.int (-10000))])) _
    refine XS.istoreN X0.here hx rfl (hb hby d237) rfl (l' := #[.val (.int (-w0)), vI 0, .val (.int (-10000)), vI 3]) rfl ?_
    show Steps _ _ _ (s₁.setTop (mkF m 36 #[.val (.int (-w0)), vI 0, .val (.int (-10000)), vI 3] [])) _
    refine XS.iinc X0.here hx rfl (hb hby d238) rfl (l' := #[.val (.int (-w0)), vI 0, .val (.int (-10000)), vI 4]) rfl ?_
    show Steps _ _ _ (s₁.setTop (mkF m 39 #[.val (.int (-w0)), vI 0, .val (.int (-10000)), vI 4] [])) _
    refine XS.goto X0.here hx rfl (pc0 := 39) (pc' := 16) rfl (hb hby d239) (by decide) (by decide) ?_
    show Steps _ _ _ (s₁.setTop (mkF m 16 #[.val (.int (-w0)), vI 0, .val (.int (-10000)), vI 4] [])) _
    refine XS.iloadN X0.here hx rfl (hb hby d224) rfl ?_
    show Steps _ _ _ (s₁.setTop (mkF m 17 #[.val (.int (-w0)), vI 0, .val (.int (-10000)), vI 4] [(.int 4)])) _
    refine XS.bipush X0.here hx rfl (hb hby d225) ?_
    show Steps _ _ _ (s₁.setTop (mkF m 19 #[.val (.int (-w0)), vI 0, .val (.int (-10000)), vI 4] [(.int 10), (.int 4)])) _
    refine XS.icmpNo X0.here hx rfl (hb hby d226) rfl (tlt ((by decide) : (4 : Int32) < (10 : Int32))).2.1 ?_
    show Steps _ _ _ (s₁.setTop (mkF m 22 #[.val (.int (-w0)), vI 0, .val (.int (-10000)), vI 4] [])) _
    refine XS.iloadN X0.here hx rfl (hb hby d227) rfl ?_
    show Steps _ _ _ (s₁.setTop (mkF m 23 #[.val (.int (-w0)), vI 0, .val (.int (-10000)), vI 4] [(.int (-w0))])) _
    refine XS.iloadN X0.here hx rfl (hb hby d228) rfl ?_
    show Steps _ _ _ (s₁.setTop (mkF m 24 #[.val (.int (-w0)), vI 0, .val (.int (-10000)), vI 4] [(.int (-10000)), (.int (-w0))])) _
    refine XS.icmpYes X0.here hx rfl (pc0 := 24) (pc' := 31) rfl (hb hby d229) rfl (flt (q4 : ¬ ((-10000 : Int32) < (-w0)))).2.2.2 (by decide) (by decide) ?_
    show Steps _ _ _ (s₁.setTop (mkF m 31 #[.val (.int (-w0)), vI 0, .val (.int (-10000)), vI 4] [])) _
    refine XS.bipush X0.here hx rfl (hb hby d234) ?_
    show Steps _ _ _ (s₁.setTop (mkF m 33 #[.val (.int (-w0)), vI 0, .val (.int (-10000)), vI 4] [(.int 10)])) _
    refine XS.iloadN X0.here hx rfl (hb hby d235) rfl ?_
    show Steps _ _ _ (s₁.setTop (mkF m 34 #[.val (.int (-w0)), vI 0, .val (.int (-10000)), vI 4] [(.int (-10000)), (.int 10)])) _
    refine XS.imul X0.here hx rfl (hb hby d236) rfl ?_
    show Steps _ _ _ (s₁.setTop (mkF m 35 #[.val (.int (-w0)), vI 0, .val (.int (-10000)), vI 4] [(.int (-100000))])) _
    refine XS.istoreN X0.here hx rfl (hb hby d237) rfl (l' := #[.val (.int (-w0)), vI 0, .val (.int (-100000)), vI 4]) rfl ?_
    show Steps _ _ _ (s₁.setTop (mkF m 36 #[.val (.int (-w0)), vI 0, .val (.int (-100000)), vI 4] [])) _
    refine XS.iinc X0.here hx rfl (hb hby d238) rfl (l' := #[.val (.int (-w0)), vI 0, .val (.int (-100000)), vI 5]) rfl ?_
    show Steps _ _ _ (s₁.setTop (mkF m 39 #[.val (.int (-w0)), vI 0, .val (.int (-100000)), vI 5] [])) _
    refine XS.goto X0.here hx rfl (pc0 := 39) (pc' := 16) rfl (hb hby d239) (by decide) (by decide) ?_
    show Steps _ _ _ (s₁.setTop (mkF m 16 #[.val (.int (-w0)), vI 0, .val (.int (-100000)), vI 5] [])) _
    refine XS.iloadN X0.here hx rfl (hb hby d224) rfl ?_
    show Steps _ _ _ (s₁.setTop (mkF m 17 #[.val (.int (-w0)), vI 0, .val (.int (-100000)), vI 5] [(.int 5)])) _
    refine XS.bipush X0.here hx rfl (hb hby d225) ?_
    show Steps _ _ _ (s₁.setTop (mkF m 19 #[.val (.int (-w0)), vI 0, .val (.int (-100000)), vI 5] [(.int 10), (.int 5)])) _
    refine XS.icmpNo X0.here hx rfl (hb hby d226) rfl (tlt ((by decide) : (5 : Int32) < (10 : Int32))).2.1 ?_
    show Steps _ _ _ (s₁.setTop (mkF m 22 #[.val (.int (-w0)), vI 0, .val (.int (-100000)), vI 5] [])) _
    refine XS.iloadN X0.here hx rfl (hb hby d227) rfl ?_
    show Steps _ _ _ (s₁.setTop (mkF m 23 #[.val (.int (-w0)), vI 0, .val (.int (-100000)), vI 5] [(.int (-w0))])) _
    refine XS.iloadN X0.here hx rfl (hb hby d228) rfl ?_
    show Steps _ _ _ (s₁.setTop (mkF m 24 #[.val (.int (-w0)), vI 0, .val (.int (-100000)), vI 5] [(.int (-100000)), (.int (-w0))])) _
    refine XS.icmpYes X0.here hx rfl (pc0 := 24) (pc' := 31) rfl (hb hby d229) rfl (flt (q5 : ¬ ((-100000 : Int32) < (-w0)))).2.2.2 (by decide) (by decide) ?_
    show Steps _ _ _ (s₁.setTop (mkF m 31 #[.val (.int (-w0)), vI 0, .val (.int (-100000)), vI 5] [])) _
    refine XS.bipush X0.here hx rfl (hb hby d234) ?_
    show Steps _ _ _ (s₁.setTop (mkF m 33 #[.val (.int (-w0)), vI 0, .val (.int (-100000)), vI 5] [(.int 10)])) _
    refine XS.iloadN X0.here hx rfl (hb hby d235) rfl ?_
    show Steps _ _ _ (s₁.setTop (mkF m 34 #[.val (.int (-w0)), vI 0, .val (.int (-100000)), vI 5] [(.int (-100000)), (.int 10)])) _
    refine XS.imul X0.here hx rfl (hb hby d236) rfl ?_
    show Steps _ _ _ (s₁.setTop (mkF m 35 #[.val (.int (-w0)), vI 0, .val (.int (-100000)), vI 5] [(.int (-1000000))])) _
    refine XS.istoreN X0.here hx rfl (hb hby d237) rfl (l' := #[.val (.int (-w0)), vI 0, .val (.int (-1000000)), vI 5]) rfl ?_
    show Steps _ _ _ (s₁.setTop (mkF m 36 #[.val (.int (-w0)), vI 0, .val (.int (-1000000)), vI 5] [])) _
    refine XS.iinc X0.here hx rfl (hb hby d238) rfl (l' := #[.val (.int (-w0)), vI 0, .val (.int (-1000000)), vI 6]) rfl ?_
    show Steps _ _ _ (s₁.setTop (mkF m 39 #[.val (.int (-w0)), vI 0, .val (.int (-1000000)), vI 6] [])) _
    refine XS.goto X0.here hx rfl (pc0 := 39) (pc' := 16) rfl (hb hby d239) (by decide) (by decide) ?_
    show Steps _ _ _ (s₁.setTop (mkF m 16 #[.val (.int (-w0)), vI 0, .val (.int (-1000000)), vI 6] [])) _
    refine XS.iloadN X0.here hx rfl (hb hby d224) rfl ?_
    show Steps _ _ _ (s₁.setTop (mkF m 17 #[.val (.int (-w0)), vI 0, .val (.int (-1000000)), vI 6] [(.int 6)])) _
    refine XS.bipush X0.here hx rfl (hb hby d225) ?_
    show Steps _ _ _ (s₁.setTop (mkF m 19 #[.val (.int (-w0)), vI 0, .val (.int (-1000000)), vI 6] [(.int 10), (.int 6)])) _
    refine XS.icmpNo X0.here hx rfl (hb hby d226) rfl (tlt ((by decide) : (6 : Int32) < (10 : Int32))).2.1 ?_
    show Steps _ _ _ (s₁.setTop (mkF m 22 #[.val (.int (-w0)), vI 0, .val (.int (-1000000)), vI 6] [])) _
    refine XS.iloadN X0.here hx rfl (hb hby d227) rfl ?_
    show Steps _ _ _ (s₁.setTop (mkF m 23 #[.val (.int (-w0)), vI 0, .val (.int (-1000000)), vI 6] [(.int (-w0))])) _
    refine XS.iloadN X0.here hx rfl (hb hby d228) rfl ?_
    show Steps _ _ _ (s₁.setTop (mkF m 24 #[.val (.int (-w0)), vI 0, .val (.int (-1000000)), vI 6] [(.int (-1000000)), (.int (-w0))])) _
    refine XS.icmpYes X0.here hx rfl (pc0 := 24) (pc' := 31) rfl (hb hby d229) rfl (flt (q6 : ¬ ((-1000000 : Int32) < (-w0)))).2.2.2 (by decide) (by decide) ?_
    show Steps _ _ _ (s₁.setTop (mkF m 31 #[.val (.int (-w0)), vI 0, .val (.int (-1000000)), vI 6] [])) _
    refine XS.bipush X0.here hx rfl (hb hby d234) ?_
    show Steps _ _ _ (s₁.setTop (mkF m 33 #[.val (.int (-w0)), vI 0, .val (.int (-1000000)), vI 6] [(.int 10)])) _
    refine XS.iloadN X0.here hx rfl (hb hby d235) rfl ?_
    show Steps _ _ _ (s₁.setTop (mkF m 34 #[.val (.int (-w0)), vI 0, .val (.int (-1000000)), vI 6] [(.int (-1000000)), (.int 10)])) _
    refine XS.imul X0.here hx rfl (hb hby d236) rfl ?_
    show Steps _ _ _ (s₁.setTop (mkF m 35 #[.val (.int (-w0)), vI 0, .val (.int (-1000000)), vI 6] [(.int (-10000000))])) _
    refine XS.istoreN X0.here hx rfl (hb hby d237) rfl (l' := #[.val (.int (-w0)), vI 0, .val (.int (-10000000)), vI 6]) rfl ?_
    show Steps _ _ _ (s₁.setTop (mkF m 36 #[.val (.int (-w0)), vI 0, .val (.int (-10000000)), vI 6] [])) _
    refine XS.iinc X0.here hx rfl (hb hby d238) rfl (l' := #[.val (.int (-w0)), vI 0, .val (.int (-10000000)), vI 7]) rfl ?_
    show Steps _ _ _ (s₁.setTop (mkF m 39 #[.val (.int (-w0)), vI 0, .val (.int (-10000000)), vI 7] [])) _
    refine XS.goto X0.here hx rfl (pc0 := 39) (pc' := 16) rfl (hb hby d239) (by decide) (by decide) ?_
    show Steps _ _ _ (s₁.setTop (mkF m 16 #[.val (.int (-w0)), vI 0, .val (.int (-10000000)), vI 7] [])) _
    refine XS.iloadN X0.here hx rfl (hb hby d224) rfl ?_
    show Steps _ _ _ (s₁.setTop (mkF m 17 #[.val (.int (-w0)), vI 0, .val (.int (-10000000)), vI 7] [(.int 7)])) _
    refine XS.bipush X0.here hx rfl (hb hby d225) ?_
    show Steps _ _ _ (s₁.setTop (mkF m 19 #[.val (.int (-w0)), vI 0, .val (.int (-10000000)), vI 7] [(.int 10), (.int 7)])) _
    refine XS.icmpNo X0.here hx rfl (hb hby d226) rfl (tlt ((by decide) : (7 : Int32) < (10 : Int32))).2.1 ?_
    show Steps _ _ _ (s₁.setTop (mkF m 22 #[.val (.int (-w0)), vI 0, .val (.int (-10000000)), vI 7] [])) _
    refine XS.iloadN X0.here hx rfl (hb hby d227) rfl ?_
    show Steps _ _ _ (s₁.setTop (mkF m 23 #[.val (.int (-w0)), vI 0, .val (.int (-10000000)), vI 7] [(.int (-w0))])) _
    refine XS.iloadN X0.here hx rfl (hb hby d228) rfl ?_
    show Steps _ _ _ (s₁.setTop (mkF m 24 #[.val (.int (-w0)), vI 0, .val (.int (-10000000)), vI 7] [(.int (-10000000)), (.int (-w0))])) _
    refine XS.icmpYes X0.here hx rfl (pc0 := 24) (pc' := 31) rfl (hb hby d229) rfl (flt (q7 : ¬ ((-10000000 : Int32) < (-w0)))).2.2.2 (by decide) (by decide) ?_
    show Steps _ _ _ (s₁.setTop (mkF m 31 #[.val (.int (-w0)), vI 0, .val (.int (-10000000)), vI 7] [])) _
    refine XS.bipush X0.here hx rfl (hb hby d234) ?_
    show Steps _ _ _ (s₁.setTop (mkF m 33 #[.val (.int (-w0)), vI 0, .val (.int (-10000000)), vI 7] [(.int 10)])) _
    refine XS.iloadN X0.here hx rfl (hb hby d235) rfl ?_
    show Steps _ _ _ (s₁.setTop (mkF m 34 #[.val (.int (-w0)), vI 0, .val (.int (-10000000)), vI 7] [(.int (-10000000)), (.int 10)])) _
    refine XS.imul X0.here hx rfl (hb hby d236) rfl ?_
    show Steps _ _ _ (s₁.setTop (mkF m 35 #[.val (.int (-w0)), vI 0, .val (.int (-10000000)), vI 7] [(.int (-100000000))])) _
    refine XS.istoreN X0.here hx rfl (hb hby d237) rfl (l' := #[.val (.int (-w0)), vI 0, .val (.int (-100000000)), vI 7]) rfl ?_
    show Steps _ _ _ (s₁.setTop (mkF m 36 #[.val (.int (-w0)), vI 0, .val (.int (-100000000)), vI 7] [])) _
    refine XS.iinc X0.here hx rfl (hb hby d238) rfl (l' := #[.val (.int (-w0)), vI 0, .val (.int (-100000000)), vI 8]) rfl ?_
    show Steps _ _ _ (s₁.setTop (mkF m 39 #[.val (.int (-w0)), vI 0, .val (.int (-100000000)), vI 8] [])) _
    refine XS.goto X0.here hx rfl (pc0 := 39) (pc' := 16) rfl (hb hby d239) (by decide) (by decide) ?_
    show Steps _ _ _ (s₁.setTop (mkF m 16 #[.val (.int (-w0)), vI 0, .val (.int (-100000000)), vI 8] [])) _
    refine XS.iloadN X0.here hx rfl (hb hby d224) rfl ?_
    show Steps _ _ _ (s₁.setTop (mkF m 17 #[.val (.int (-w0)), vI 0, .val (.int (-100000000)), vI 8] [(.int 8)])) _
    refine XS.bipush X0.here hx rfl (hb hby d225) ?_
    show Steps _ _ _ (s₁.setTop (mkF m 19 #[.val (.int (-w0)), vI 0, .val (.int (-100000000)), vI 8] [(.int 10), (.int 8)])) _
    refine XS.icmpNo X0.here hx rfl (hb hby d226) rfl (tlt ((by decide) : (8 : Int32) < (10 : Int32))).2.1 ?_
    show Steps _ _ _ (s₁.setTop (mkF m 22 #[.val (.int (-w0)), vI 0, .val (.int (-100000000)), vI 8] [])) _
    refine XS.iloadN X0.here hx rfl (hb hby d227) rfl ?_
    show Steps _ _ _ (s₁.setTop (mkF m 23 #[.val (.int (-w0)), vI 0, .val (.int (-100000000)), vI 8] [(.int (-w0))])) _
    refine XS.iloadN X0.here hx rfl (hb hby d228) rfl ?_
    show Steps _ _ _ (s₁.setTop (mkF m 24 #[.val (.int (-w0)), vI 0, .val (.int (-100000000)), vI 8] [(.int (-100000000)), (.int (-w0))])) _
    refine XS.icmpNo X0.here hx rfl (hb hby d229) rfl (tlt (q8 : (-100000000 : Int32) < (-w0))).2.2.2 ?_
    show Steps _ _ _ (s₁.setTop (mkF m 27 #[.val (.int (-w0)), vI 0, .val (.int (-100000000)), vI 8] [])) _
    refine XS.iloadN X0.here hx rfl (hb hby d230) rfl ?_
    show Steps _ _ _ (s₁.setTop (mkF m 28 #[.val (.int (-w0)), vI 0, .val (.int (-100000000)), vI 8] [(.int 8)])) _
    refine XS.iloadN X0.here hx rfl (hb hby d231) rfl ?_
    show Steps _ _ _ (s₁.setTop (mkF m 29 #[.val (.int (-w0)), vI 0, .val (.int (-100000000)), vI 8] [(.int 0), (.int 8)])) _
    refine XS.iadd X0.here hx rfl (hb hby d232) rfl ?_
    show Steps _ _ _ (s₁.setTop (mkF m 30 #[.val (.int (-w0)), vI 0, .val (.int (-100000000)), vI 8] [(.int 8)])) _
    exact retI X0 hx hret (hb hby d233) hr
theorem rm_ssz_9 (l : Launch) (Z : State) (a0 : Array Value) (hw : HW Z a0) (ws : List Jvm.Cond) (w0 : Int32) (h0 : Heap) (n0 : Nat) (Z0 : n0 ≤ h0.size) (hw0 : ¬ (w0 < (0 : Int32))) (q1 : ¬ ((-10 : Int32) < (-w0))) (q2 : ¬ ((-100 : Int32) < (-w0))) (q3 : ¬ ((-1000 : Int32) < (-w0))) (q4 : ¬ ((-10000 : Int32) < (-w0))) (q5 : ¬ ((-100000 : Int32) < (-w0))) (q6 : ¬ ((-1000000 : Int32) < (-w0))) (q7 : ¬ ((-10000000 : Int32) < (-w0))) (q8 : ¬ ((-100000000 : Int32) < (-w0))) (q9 : (-1000000000 : Int32) < (-w0)) :
    MF l Z m_19 jdk_33_method_13_code 4 (some .int) ws (oR 0 0 0 0) #[(.int w0)] h0 (Q_ssz Z w0 h0 n0) := by
  refine own_body (cls := "java/lang/Integer") (plainFor_of_name pn_8) rfl (fun p e s m below meth c s₁ hx hby hml hown hnm hret hZ X0 e0 => ?_)
  have N0 := Fr.nil n0
  refine ⟨_, _, _, _, some (.int 9), X0, by decide, by decide, nofun, ?_, fun fs hr => castTop (ef_11 m w0) ?_⟩
  · show Q_ssz Z w0 h0 n0 _ s₁.heap _
    rw [(e0 : s₁.heap = h0)]
    exact ⟨(9 : Int32), rfl, N0, rfl, (by decide)⟩
  · show Steps _ _ _ (s₁.setTop (mkF m 0 #[vI w0, .unset, .unset, .unset] [])) _
    refine XS.iconst X0.here hx rfl (hb hby d211) ?_
    show Steps _ _ _ (s₁.setTop (mkF m 1 #[vI w0, .unset, .unset, .unset] [(.int 1)])) _
    refine XS.istoreN X0.here hx rfl (hb hby d212) rfl (l' := #[vI w0, vI 1, .unset, .unset]) rfl ?_
    show Steps _ _ _ (s₁.setTop (mkF m 2 #[vI w0, vI 1, .unset, .unset] [])) _
    refine XS.iloadN X0.here hx rfl (hb hby d213) rfl ?_
    show Steps _ _ _ (s₁.setTop (mkF m 3 #[vI w0, vI 1, .unset, .unset] [(.int w0)])) _
    refine XS.ifNo X0.here hx rfl (hb hby d214) rfl ((if0 _ _).trans (flt (hw0 : ¬ (w0 < (0 : Int32)))).1) ?_
    show Steps _ _ _ (s₁.setTop (mkF m 6 #[vI w0, vI 1, .unset, .unset] [])) _
    refine XS.iconst X0.here hx rfl (hb hby d215) ?_
    show Steps _ _ _ (s₁.setTop (mkF m 7 #[vI w0, vI 1, .unset, .unset] [(.int 0)])) _
    refine XS.istoreN X0.here hx rfl (hb hby d216) rfl (l' := #[vI w0, vI 0, .unset, .unset]) rfl ?_
    show Steps _ _ _ (s₁.setTop (mkF m 8 #[vI w0, vI 0, .unset, .unset] [])) _
    refine XS.iloadN X0.here hx rfl (hb hby d217) rfl ?_
    show Steps _ _ _ (s₁.setTop (mkF m 9 #[vI w0, vI 0, .unset, .unset] [(.int w0)])) _
    refine XS.ineg X0.here hx rfl (hb hby d218) rfl ?_
    show Steps _ _ _ (s₁.setTop (mkF m 10 #[vI w0, vI 0, .unset, .unset] [(.int (-w0))])) _
    refine XS.istoreN X0.here hx rfl (hb hby d219) rfl (l' := #[.val (.int (-w0)), vI 0, .unset, .unset]) rfl ?_
    show Steps _ _ _ (s₁.setTop (mkF m 11 #[.val (.int (-w0)), vI 0, .unset, .unset] [])) _
    refine XS.bipush X0.here hx rfl (hb hby d220) ?_
    show Steps _ _ _ (s₁.setTop (mkF m 13 #[.val (.int (-w0)), vI 0, .unset, .unset] [(.int (-10))])) _
    refine XS.istoreN X0.here hx rfl (hb hby d221) rfl (l' := #[.val (.int (-w0)), vI 0, .val (.int (-10)), .unset]) rfl ?_
    show Steps _ _ _ (s₁.setTop (mkF m 14 #[.val (.int (-w0)), vI 0, .val (.int (-10)), .unset] [])) _
    refine XS.iconst X0.here hx rfl (hb hby d222) ?_
    show Steps _ _ _ (s₁.setTop (mkF m 15 #[.val (.int (-w0)), vI 0, .val (.int (-10)), .unset] [(.int 1)])) _
    refine XS.istoreN X0.here hx rfl (hb hby d223) rfl (l' := #[.val (.int (-w0)), vI 0, .val (.int (-10)), vI 1]) rfl ?_
    show Steps _ _ _ (s₁.setTop (mkF m 16 #[.val (.int (-w0)), vI 0, .val (.int (-10)), vI 1] [])) _
    refine XS.iloadN X0.here hx rfl (hb hby d224) rfl ?_
    show Steps _ _ _ (s₁.setTop (mkF m 17 #[.val (.int (-w0)), vI 0, .val (.int (-10)), vI 1] [(.int 1)])) _
    refine XS.bipush X0.here hx rfl (hb hby d225) ?_
    show Steps _ _ _ (s₁.setTop (mkF m 19 #[.val (.int (-w0)), vI 0, .val (.int (-10)), vI 1] [(.int 10), (.int 1)])) _
    refine XS.icmpNo X0.here hx rfl (hb hby d226) rfl (tlt ((by decide) : (1 : Int32) < (10 : Int32))).2.1 ?_
    show Steps _ _ _ (s₁.setTop (mkF m 22 #[.val (.int (-w0)), vI 0, .val (.int (-10)), vI 1] [])) _
    refine XS.iloadN X0.here hx rfl (hb hby d227) rfl ?_
    show Steps _ _ _ (s₁.setTop (mkF m 23 #[.val (.int (-w0)), vI 0, .val (.int (-10)), vI 1] [(.int (-w0))])) _
    refine XS.iloadN X0.here hx rfl (hb hby d228) rfl ?_
    show Steps _ _ _ (s₁.setTop (mkF m 24 #[.val (.int (-w0)), vI 0, .val (.int (-10)), vI 1] [(.int (-10)), (.int (-w0))])) _
    refine XS.icmpYes X0.here hx rfl (pc0 := 24) (pc' := 31) rfl (hb hby d229) rfl (flt (q1 : ¬ ((-10 : Int32) < (-w0)))).2.2.2 (by decide) (by decide) ?_
    show Steps _ _ _ (s₁.setTop (mkF m 31 #[.val (.int (-w0)), vI 0, .val (.int (-10)), vI 1] [])) _
    refine XS.bipush X0.here hx rfl (hb hby d234) ?_
    show Steps _ _ _ (s₁.setTop (mkF m 33 #[.val (.int (-w0)), vI 0, .val (.int (-10)), vI 1] [(.int 10)])) _
    refine XS.iloadN X0.here hx rfl (hb hby d235) rfl ?_
    show Steps _ _ _ (s₁.setTop (mkF m 34 #[.val (.int (-w0)), vI 0, .val (.int (-10)), vI 1] [(.int (-10)), (.int 10)])) _
    refine XS.imul X0.here hx rfl (hb hby d236) rfl ?_
    show Steps _ _ _ (s₁.setTop (mkF m 35 #[.val (.int (-w0)), vI 0, .val (.int (-10)), vI 1] [(.int (-100))])) _
    refine XS.istoreN X0.here hx rfl (hb hby d237) rfl (l' := #[.val (.int (-w0)), vI 0, .val (.int (-100)), vI 1]) rfl ?_
    show Steps _ _ _ (s₁.setTop (mkF m 36 #[.val (.int (-w0)), vI 0, .val (.int (-100)), vI 1] [])) _
    refine XS.iinc X0.here hx rfl (hb hby d238) rfl (l' := #[.val (.int (-w0)), vI 0, .val (.int (-100)), vI 2]) rfl ?_
    show Steps _ _ _ (s₁.setTop (mkF m 39 #[.val (.int (-w0)), vI 0, .val (.int (-100)), vI 2] [])) _
    refine XS.goto X0.here hx rfl (pc0 := 39) (pc' := 16) rfl (hb hby d239) (by decide) (by decide) ?_
    show Steps _ _ _ (s₁.setTop (mkF m 16 #[.val (.int (-w0)), vI 0, .val (.int (-100)), vI 2] [])) _
    refine XS.iloadN X0.here hx rfl (hb hby d224) rfl ?_
    show Steps _ _ _ (s₁.setTop (mkF m 17 #[.val (.int (-w0)), vI 0, .val (.int (-100)), vI 2] [(.int 2)])) _
    refine XS.bipush X0.here hx rfl (hb hby d225) ?_
    show Steps _ _ _ (s₁.setTop (mkF m 19 #[.val (.int (-w0)), vI 0, .val (.int (-100)), vI 2] [(.int 10), (.int 2)])) _
    refine XS.icmpNo X0.here hx rfl (hb hby d226) rfl (tlt ((by decide) : (2 : Int32) < (10 : Int32))).2.1 ?_
    show Steps _ _ _ (s₁.setTop (mkF m 22 #[.val (.int (-w0)), vI 0, .val (.int (-100)), vI 2] [])) _
    refine XS.iloadN X0.here hx rfl (hb hby d227) rfl ?_
    show Steps _ _ _ (s₁.setTop (mkF m 23 #[.val (.int (-w0)), vI 0, .val (.int (-100)), vI 2] [(.int (-w0))])) _
    refine XS.iloadN X0.here hx rfl (hb hby d228) rfl ?_
    show Steps _ _ _ (s₁.setTop (mkF m 24 #[.val (.int (-w0)), vI 0, .val (.int (-100)), vI 2] [(.int (-100)), (.int (-w0))])) _
    refine XS.icmpYes X0.here hx rfl (pc0 := 24) (pc' := 31) rfl (hb hby d229) rfl (flt (q2 : ¬ ((-100 : Int32) < (-w0)))).2.2.2 (by decide) (by decide) ?_
    show Steps _ _ _ (s₁.setTop (mkF m 31 #[.val (.int (-w0)), vI 0, .val (.int (-100)), vI 2] [])) _
    refine XS.bipush X0.here hx rfl (hb hby d234) ?_
    show Steps _ _ _ (s₁.setTop (mkF m 33 #[.val (.int (-w0)), vI 0, .val (.int (-100)), vI 2] [(.int 10)])) _
    refine XS.iloadN X0.here hx rfl (hb hby d235) rfl ?_
    show Steps _ _ _ (s₁.setTop (mkF m 34 #[.val (.int (-w0)), vI 0, .val (.int (-100)), vI 2] [(.int (-100)), (.int 10)])) _
    refine XS.imul X0.here hx rfl (hb hby d236) rfl ?_
    show Steps _ _ _ (s₁.setTop (mkF m 35 #[.val (.int (-w0)), vI 0, .val (.int (-100)), vI 2] [(.int (-1000))])) _
    refine XS.istoreN X0.here hx rfl (hb hby d237) rfl (l' := #[.val (.int (-w0)), vI 0, .val (.int (-1000)), vI 2]) rfl ?_
    show Steps _ _ _ (s₁.setTop (mkF m 36 #[.val (.int (-w0)), vI 0, .val (.int (-1000)), vI 2] [])) _
    refine XS.iinc X0.here hx rfl (hb hby d238) rfl (l' := #[.val (.int (-w0)), vI 0, .val (.int (-1000)), vI 3]) rfl ?_
    show Steps _ _ _ (s₁.setTop (mkF m 39 #[.val (.int (-w0)), vI 0, .val (.int (-1000)), vI 3] [])) _
    refine XS.goto X0.here hx rfl (pc0 := 39) (pc' := 16) rfl (hb hby d239) (by decide) (by decide) ?_
    show Steps _ _ _ (s₁.setTop (mkF m 16 #[.val (.int (-w0)), vI 0, .val (.int (-1000)), vI 3] [])) _
    refine XS.iloadN X0.here hx rfl (hb hby d224) rfl ?_
    show Steps _ _ _ (s₁.setTop (mkF m 17 #[.val (.int (-w0)), vI 0, .val (.int (-1000)), vI 3] [(.int 3)])) _
    refine XS.bipush X0.here hx rfl (hb hby d225) ?_
    show Steps _ _ _ (s₁.setTop (mkF m 19 #[.val (.int (-w0)), vI 0, .val (.int (-1000)), vI 3] [(.int 10), (.int 3)])) _
    refine XS.icmpNo X0.here hx rfl (hb hby d226) rfl (tlt ((by decide) : (3 : Int32) < (10 : Int32))).2.1 ?_
    show Steps _ _ _ (s₁.setTop (mkF m 22 #[.val (.int (-w0)), vI 0, .val (.int (-1000)), vI 3] [])) _
    refine XS.iloadN X0.here hx rfl (hb hby d227) rfl ?_
    show Steps _ _ _ (s₁.setTop (mkF m 23 #[.val (.int (-w0)), vI 0, .val (.int (-1000)), vI 3] [(.int (-w0))])) _
    refine XS.iloadN X0.here hx rfl (hb hby d228) rfl ?_
    show Steps _ _ _ (s₁.setTop (mkF m 24 #[.val (.int (-w0)), vI 0, .val (.int (-1000)), vI 3] [(.int (-1000)), (.int (-w0))])) _
    refine XS.icmpYes X0.here hx rfl (pc0 := 24) (pc' := 31) rfl (hb hby d229) rfl (flt (q3 : ¬ ((-1000 : Int32) < (-w0)))).2.2.2 (by decide) (by decide) ?_
    show Steps _ _ _ (s₁.setTop (mkF m 31 #[.val (.int (-w0)), vI 0, .val (.int (-1000)), vI 3] [])) _
    refine XS.bipush X0.here hx rfl (hb hby d234) ?_
    show Steps _ _ _ (s₁.setTop (mkF m 33 #[.val (.int (-w0)), vI 0, .val (.int (-1000)), vI 3] [(.int 10)])) _
    refine XS.iloadN X0.here hx rfl (hb hby d235) rfl ?_
    show Steps _ _ _ (s₁.setTop (mkF m 34 #[.val (.int (-w0)), vI 0, .val (.int (-1000)), vI 3] [(.int (-1000)), (.int 10)])) _
    refine XS.imul X0.here hx rfl (hb hby d236) rfl ?_
    show Steps _ _ _ (s₁.setTop (mkF m 35 #[.val (.int (-w0)), vI 0, .val (.int (-1000)), vI 3] [(.int (-10000))])) _
    refine XS.istoreN X0.here hx rfl (hb hby d237) rfl (l' := #[.val (.int (-w0)), vI 0, .val (.int (-10000)), vI 3]) rfl ?_
    show Steps _ _ _ (s₁.setTop (mkF m 36 #[.val (.int (-w0)), vI 0, .val (.int (-10000)), vI 3] [])) _
    refine XS.iinc X0.here hx rfl (hb hby d238) rfl (l' := #[.val (.int (-w0)), vI 0, .val (.int (-10000)), vI 4]) rfl ?_
    show Steps _ _ _ (s₁.setTop (mkF m 39 #[.val (.int (-w0)), vI 0, .val (.int (-10000)), vI 4] [])) _
    refine XS.goto X0.here hx rfl (pc0 := 39) (pc' := 16) rfl (hb hby d239) (by decide) (by decide) ?_
    show Steps _ _ _ (s₁.setTop (mkF m 16 #[.val (.int (-w0)), vI 0, .val (.int (-10000)), vI 4] [])) _
    refine XS.iloadN X0.here hx rfl (hb hby d224) rfl ?_
    show Steps _ _ _ (s₁.setTop (mkF m 17 #[.val (.int (-w0)), vI 0, .val (.int (-10000)), vI 4] [(.int 4)])) _
    refine XS.bipush X0.here hx rfl (hb hby d225) ?_
    show Steps _ _ _ (s₁.setTop (mkF m 19 #[.val (.int (-w0)), vI 0, .val (.int (-10000)), vI 4] [(.int 10), (.int 4)])) _
    refine XS.icmpNo X0.here hx rfl (hb hby d226) rfl (tlt ((by decide) : (4 : Int32) < (10 : Int32))).2.1 ?_
    show Steps _ _ _ (s₁.setTop (mkF m 22 #[.val (.int (-w0)), vI 0, .val (.int (-10000)), vI 4] [])) _
    refine XS.iloadN X0.here hx rfl (hb hby d227) rfl ?_
    show Steps _ _ _ (s₁.setTop (mkF m 23 #[.val (.int (-w0)), vI 0, .val (.int (-10000)), vI 4] [(.int (-w0))])) _
    refine XS.iloadN X0.here hx rfl (hb hby d228) rfl ?_
    show Steps _ _ _ (s₁.setTop (mkF m 24 #[.val (.int (-w0)), vI 0, .val (.int (-10000)), vI 4] [(.int (-10000)), (.int (-w0))])) _
    refine XS.icmpYes X0.here hx rfl (pc0 := 24) (pc' := 31) rfl (hb hby d229) rfl (flt (q4 : ¬ ((-10000 : Int32) < (-w0)))).2.2.2 (by decide) (by decide) ?_
    show Steps _ _ _ (s₁.setTop (mkF m 31 #[.val (.int (-w0)), vI 0, .val (.int (-10000)), vI 4] [])) _
    refine XS.bipush X0.here hx rfl (hb hby d234) ?_
    show Steps _ _ _ (s₁.setTop (mkF m 33 #[.val (.int (-w0)), vI 0, .val (.int (-10000)), vI 4] [(.int 10)])) _
    refine XS.iloadN X0.here hx rfl (hb hby d235) rfl ?_
    show Steps _ _ _ (s₁.setTop (mkF m 34 #[.val (.int (-w0)), vI 0, .val (.int (-10000)), vI 4] [(.int (-10000)), (.int 10)])) _
    refine XS.imul X0.here hx rfl (hb hby d236) rfl ?_
    show Steps _ _ _ (s₁.setTop (mkF m 35 #[.val (.int (-w0)), vI 0, .val (.int (-10000)), vI 4] [(.int (-100000))])) _
    refine XS.istoreN X0.here hx rfl (hb hby d237) rfl (l' := #[.val (.int (-w0)), vI 0, .val (.int (-100000)), vI 4]) rfl ?_
    show Steps _ _ _ (s₁.setTop (mkF m 36 #[.val (.int (-w0)), vI 0, .val (.int (-100000)), vI 4] [])) _
    refine XS.iinc X0.here hx rfl (hb hby d238) rfl (l' := #[.val (.int (-w0)), vI 0, .val (.int (-100000)), vI 5]) rfl ?_
    show Steps _ _ _ (s₁.setTop (mkF m 39 #[.val (.int (-w0)), vI 0, .val (.int (-100000)), vI 5] [])) _
    refine XS.goto X0.here hx rfl (pc0 := 39) (pc' := 16) rfl (hb hby d239) (by decide) (by decide) ?_
    show Steps _ _ _ (s₁.setTop (mkF m 16 #[.val (.int (-w0)), vI 0, .val (.int (-100000)), vI 5] [])) _
    refine XS.iloadN X0.here hx rfl (hb hby d224) rfl ?_
    show Steps _ _ _ (s₁.setTop (mkF m 17 #[.val (.int (-w0)), vI 0, .val (.int (-100000)), vI 5] [(.int 5)])) _
    refine XS.bipush X0.here hx rfl (hb hby d225) ?_
    show Steps _ _ _ (s₁.setTop (mkF m 19 #[.val (.int (-w0)), vI 0, .val (.int (-100000)), vI 5] [(.int 10), (.int 5)])) _
    refine XS.icmpNo X0.here hx rfl (hb hby d226) rfl (tlt ((by decide) : (5 : Int32) < (10 : Int32))).2.1 ?_
    show Steps _ _ _ (s₁.setTop (mkF m 22 #[.val (.int (-w0)), vI 0, .val (.int (-100000)), vI 5] [])) _
    refine XS.iloadN X0.here hx rfl (hb hby d227) rfl ?_
    show Steps _ _ _ (s₁.setTop (mkF m 23 #[.val (.int (-w0)), vI 0, .val (.int (-100000)), vI 5] [(.int (-w0))])) _
    refine XS.iloadN X0.here hx rfl (hb hby d228) rfl ?_
    show Steps _ _ _ (s₁.setTop (mkF m 24 #[.val (.int (-w0)), vI 0, .val (.int (-100000)), vI 5] [(.int (-100000)), (.int (-w0))])) _
    refine XS.icmpYes X0.here hx rfl (pc0 := 24) (pc' := 31) rfl (hb hby d229) rfl (flt (q5 : ¬ ((-100000 : Int32) < (-w0)))).2.2.2 (by decide) (by decide) ?_
    show Steps _ _ _ (s₁.setTop (mkF m 31 #[.val (.int (-w0)), vI 0, .val (.int (-100000)), vI 5] [])) _
    refine XS.bipush X0.here hx rfl (hb hby d234) ?_
    show Steps _ _ _ (s₁.setTop (mkF m 33 #[.val (.int (-w0)), vI 0, .val (.int (-100000)), vI 5] [(.int 10)])) _
    refine XS.iloadN X0.here hx rfl (hb hby d235) rfl ?_
    show Steps _ _ _ (s₁.setTop (mkF m 34 #[.val (.int (-w0)), vI 0, .val (.int (-100000)), vI 5] [(.int (-100000)), (.int 10)])) _
    refine XS.imul X0.here hx rfl (hb hby d236) rfl ?_
    show Steps _ _ _ (s₁.setTop (mkF m 35 #[.val (.int (-w0)), vI 0, .val (.int (-100000)), vI 5] [(.int (-1000000))])) _
    refine XS.istoreN X0.here hx rfl (hb hby d237) rfl (l' := #[.val (.int (-w0)), vI 0, .val (.int (-1000000)), vI 5]) rfl ?_
    show Steps _ _ _ (s₁.setTop (mkF m 36 #[.val (.int (-w0)), vI 0, .val (.int (-1000000)), vI 5] [])) _
    refine XS.iinc X0.here hx rfl (hb hby d238) rfl (l' := #[.val (.int (-w0)), vI 0, .val (.int (-1000000)), vI 6]) rfl ?_
    show Steps _ _ _ (s₁.setTop (mkF m 39 #[.val (.int (-w0)), vI 0, .val (.int (-1000000)), vI 6] [])) _
    refine XS.goto X0.here hx rfl (pc0 := 39) (pc' := 16) rfl (hb hby d239) (by decide) (by decide) ?_
    show Steps _ _ _ (s₁.setTop (mkF m 16 #[.val (.int (-w0)), vI 0, .val (.int (-1000000)), vI 6] [])) _
    refine XS.iloadN X0.here hx rfl (hb hby d224) rfl ?_
    show Steps _ _ _ (s₁.setTop (mkF m 17 #[.val (.int (-w0)), vI 0, .val (.int (-1000000)), vI 6] [(.int 6)])) _
    refine XS.bipush X0.here hx rfl (hb hby d225) ?_
    show Steps _ _ _ (s₁.setTop (mkF m 19 #[.val (.int (-w0)), vI 0, .val (.int (-1000000)), vI 6] [(.int 10), (.int 6)])) _
    refine XS.icmpNo X0.here hx rfl (hb hby d226) rfl (tlt ((by decide) : (6 : Int32) < (10 : Int32))).2.1 ?_
    show Steps _ _ _ (s₁.setTop (mkF m 22 #[.val (.int (-w0)), vI 0, .val (.int (-1000000)), vI 6] [])) _
    refine XS.iloadN X0.here hx rfl (hb hby d227) rfl ?_
    show Steps _ _ _ (s₁.setTop (mkF m 23 #[.val (.int (-w0)), vI 0, .val (.int (-1000000)), vI 6] [(.int (-w0))])) _
    refine XS.iloadN X0.here hx rfl (hb hby d228) rfl ?_
    show Steps _ _ _ (s₁.setTop (mkF m 24 #[.val (.int (-w0)), vI 0, .val (.int (-1000000)), vI 6] [(.int (-1000000)), (.int (-w0))])) _
    refine XS.icmpYes X0.here hx rfl (pc0 := 24) (pc' := 31) rfl (hb hby d229) rfl (flt (q6 : ¬ ((-1000000 : Int32) < (-w0)))).2.2.2 (by decide) (by decide) ?_
    show Steps _ _ _ (s₁.setTop (mkF m 31 #[.val (.int (-w0)), vI 0, .val (.int (-1000000)), vI 6] [])) _
    refine XS.bipush X0.here hx rfl (hb hby d234) ?_
    show Steps _ _ _ (s₁.setTop (mkF m 33 #[.val (.int (-w0)), vI 0, .val (.int (-1000000)), vI 6] [(.int 10)])) _
    refine XS.iloadN X0.here hx rfl (hb hby d235) rfl ?_
    show Steps _ _ _ (s₁.setTop (mkF m 34 #[.val (.int (-w0)), vI 0, .val (.int (-1000000)), vI 6] [(.int (-1000000)), (.int 10)])) _
    refine XS.imul X0.here hx rfl (hb hby d236) rfl ?_
    show Steps _ _ _ (s₁.setTop (mkF m 35 #[.val (.int (-w0)), vI 0, .val (.int (-1000000)), vI 6] [(.int (-10000000))])) _
    refine XS.istoreN X0.here hx rfl (hb hby d237) rfl (l' := #[.val (.int (-w0)), vI 0, .val (.int (-10000000)), vI 6]) rfl ?_
    show Steps _ _ _ (s₁.setTop (mkF m 36 #[.val (.int (-w0)), vI 0, .val (.int (-10000000)), vI 6] [])) _
    refine XS.iinc X0.here hx rfl (hb hby d238) rfl (l' := #[.val (.int (-w0)), vI 0, .val (.int (-10000000)), vI 7]) rfl ?_
    show Steps _ _ _ (s₁.setTop (mkF m 39 #[.val (.int (-w0)), vI 0, .val (.int (-10000000)), vI 7] [])) _
    refine XS.goto X0.here hx rfl (pc0 := 39) (pc' := 16) rfl (hb hby d239) (by decide) (by decide) ?_
    show Steps _ _ _ (s₁.setTop (mkF m 16 #[.val (.int (-w0)), vI 0, .val (.int (-10000000)), vI 7] [])) _
    refine XS.iloadN X0.here hx rfl (hb hby d224) rfl ?_
    show Steps _ _ _ (s₁.setTop (mkF m 17 #[.val (.int (-w0)), vI 0, .val (.int (-10000000)), vI 7] [(.int 7)])) _
    refine XS.bipush X0.here hx rfl (hb hby d225) ?_
    show Steps _ _ _ (s₁.setTop (mkF m 19 #[.val (.int (-w0)), vI 0, .val (.int (-10000000)), vI 7] [(.int 10), (.int 7)])) _
    refine XS.icmpNo X0.here hx rfl (hb hby d226) rfl (tlt ((by decide) : (7 : Int32) < (10 : Int32))).2.1 ?_
    show Steps _ _ _ (s₁.setTop (mkF m 22 #[.val (.int (-w0)), vI 0, .val (.int (-10000000)), vI 7] [])) _
    refine XS.iloadN X0.here hx rfl (hb hby d227) rfl ?_
    show Steps _ _ _ (s₁.setTop (mkF m 23 #[.val (.int (-w0)), vI 0, .val (.int (-10000000)), vI 7] [(.int (-w0))])) _
    refine XS.iloadN X0.here hx rfl (hb hby d228) rfl ?_
    show Steps _ _ _ (s₁.setTop (mkF m 24 #[.val (.int (-w0)), vI 0, .val (.int (-10000000)), vI 7] [(.int (-10000000)), (.int (-w0))])) _
    refine XS.icmpYes X0.here hx rfl (pc0 := 24) (pc' := 31) rfl (hb hby d229) rfl (flt (q7 : ¬ ((-10000000 : Int32) < (-w0)))).2.2.2 (by decide) (by decide) ?_
    show Steps _ _ _ (s₁.setTop (mkF m 31 #[.val (.int (-w0)), vI 0, .val (.int (-10000000)), vI 7] [])) _
    refine XS.bipush X0.here hx rfl (hb hby d234) ?_
    show Steps _ _ _ (s₁.setTop (mkF m 33 #[.val (.int (-w0)), vI 0, .val (.int (-10000000)), vI 7] [(.int 10)])) _
    refine XS.iloadN X0.here hx rfl (hb hby d235) rfl ?_
    show Steps _ _ _ (s₁.setTop (mkF m 34 #[.val (.int (-w0)), vI 0, .val (.int (-10000000)), vI 7] [(.int (-10000000)), (.int 10)])) _
    refine XS.imul X0.here hx rfl (hb hby d236) rfl ?_
    show Steps _ _ _ (s₁.setTop (mkF m 35 #[.val (.int (-w0)), vI 0, .val (.int (-10000000)), vI 7] [(.int (-100000000))])) _
    refine XS.istoreN X0.here hx rfl (hb hby d237) rfl (l' := #[.val (.int (-w0)), vI 0, .val (.int (-100000000)), vI 7]) rfl ?_
    show Steps _ _ _ (s₁.setTop (mkF m 36 #[.val (.int (-w0)), vI 0, .val (.int (-100000000)), vI 7] [])) _
    refine XS.iinc X0.here hx rfl (hb hby d238) rfl (l' := #[.val (.int (-w0)), vI 0, .val (.int (-100000000)), vI 8]) rfl ?_
    show Steps _ _ _ (s₁.setTop (mkF m 39 #[.val (.int (-w0)), vI 0, .val (.int (-100000000)), vI 8] [])) _
    refine XS.goto X0.here hx rfl (pc0 := 39) (pc' := 16) rfl (hb hby d239) (by decide) (by decide) ?_
    show Steps _ _ _ (s₁.setTop (mkF m 16 #[.val (.int (-w0)), vI 0, .val (.int (-100000000)), vI 8] [])) _
    refine XS.iloadN X0.here hx rfl (hb hby d224) rfl ?_
    show Steps _ _ _ (s₁.setTop (mkF m 17 #[.val (.int (-w0)), vI 0, .val (.int (-100000000)), vI 8] [(.int 8)])) _
    refine XS.bipush X0.here hx rfl (hb hby d225) ?_
    show Steps _ _ _ (s₁.setTop (mkF m 19 #[.val (.int (-w0)), vI 0, .val (.int (-100000000)), vI 8] [(.int 10), (.int 8)])) _
    refine XS.icmpNo X0.here hx rfl (hb hby d226) rfl (tlt ((by decide) : (8 : Int32) < (10 : Int32))).2.1 ?_
    show Steps _ _ _ (s₁.setTop (mkF m 22 #[.val (.int (-w0)), vI 0, .val (.int (-100000000)), vI 8] [])) _
    refine XS.iloadN X0.here hx rfl (hb hby d227) rfl ?_
    show Steps _ _ _ (s₁.setTop (mkF m 23 #[.val (.int (-w0)), vI 0, .val (.int (-100000000)), vI 8] [(.int (-w0))])) _
    refine XS.iloadN X0.here hx rfl (hb hby d228) rfl ?_
    show Steps _ _ _ (s₁.setTop (mkF m 24 #[.val (.int (-w0)), vI 0, .val (.int (-100000000)), vI 8] [(.int (-100000000)), (.int (-w0))])) _
    refine XS.icmpYes X0.here hx rfl (pc0 := 24) (pc' := 31) rfl (hb hby d229) rfl (flt (q8 : ¬ ((-100000000 : Int32) < (-w0)))).2.2.2 (by decide) (by decide) ?_
    show Steps _ _ _ (s₁.setTop (mkF m 31 #[.val (.int (-w0)), vI 0, .val (.int (-100000000)), vI 8] [])) _
    refine XS.bipush X0.here hx rfl (hb hby d234) ?_
    show Steps _ _ _ (s₁.setTop (mkF m 33 #[.val (.int (-w0)), vI 0, .val (.int (-100000000)), vI 8] [(.int 10)])) _
    refine XS.iloadN X0.here hx rfl (hb hby d235) rfl ?_
    show Steps _ _ _ (s₁.setTop (mkF m 34 #[.val (.int (-w0)), vI 0, .val (.int (-100000000)), vI 8] [(.int (-100000000)), (.int 10)])) _
    refine XS.imul X0.here hx rfl (hb hby d236) rfl ?_
    show Steps _ _ _ (s₁.setTop (mkF m 35 #[.val (.int (-w0)), vI 0, .val (.int (-100000000)), vI 8] [(.int (-1000000000))])) _
    refine XS.istoreN X0.here hx rfl (hb hby d237) rfl (l' := #[.val (.int (-w0)), vI 0, .val (.int (-1000000000)), vI 8]) rfl ?_
    show Steps _ _ _ (s₁.setTop (mkF m 36 #[.val (.int (-w0)), vI 0, .val (.int (-1000000000)), vI 8] [])) _
    refine XS.iinc X0.here hx rfl (hb hby d238) rfl (l' := #[.val (.int (-w0)), vI 0, .val (.int (-1000000000)), vI 9]) rfl ?_
    show Steps _ _ _ (s₁.setTop (mkF m 39 #[.val (.int (-w0)), vI 0, .val (.int (-1000000000)), vI 9] [])) _
    refine XS.goto X0.here hx rfl (pc0 := 39) (pc' := 16) rfl (hb hby d239) (by decide) (by decide) ?_
    show Steps _ _ _ (s₁.setTop (mkF m 16 #[.val (.int (-w0)), vI 0, .val (.int (-1000000000)), vI 9] [])) _
    refine XS.iloadN X0.here hx rfl (hb hby d224) rfl ?_
    show Steps _ _ _ (s₁.setTop (mkF m 17 #[.val (.int (-w0)), vI 0, .val (.int (-1000000000)), vI 9] [(.int 9)])) _
    refine XS.bipush X0.here hx rfl (hb hby d225) ?_
    show Steps _ _ _ (s₁.setTop (mkF m 19 #[.val (.int (-w0)), vI 0, .val (.int (-1000000000)), vI 9] [(.int 10), (.int 9)])) _
    refine XS.icmpNo X0.here hx rfl (hb hby d226) rfl (tlt ((by decide) : (9 : Int32) < (10 : Int32))).2.1 ?_
    show Steps _ _ _ (s₁.setTop (mkF m 22 #[.val (.int (-w0)), vI 0, .val (.int (-1000000000)), vI 9] [])) _
    refine XS.iloadN X0.here hx rfl (hb hby d227) rfl ?_
    show Steps _ _ _ (s₁.setTop (mkF m 23 #[.val (.int (-w0)), vI 0, .val (.int (-1000000000)), vI 9] [(.int (-w0))])) _
    refine XS.iloadN X0.here hx rfl (hb hby d228) rfl ?_
    show Steps _ _ _ (s₁.setTop (mkF m 24 #[.val (.int (-w0)), vI 0, .val (.int (-1000000000)), vI 9] [(.int (-1000000000)), (.int (-w0))])) _
    refine XS.icmpNo X0.here hx rfl (hb hby d229) rfl (tlt (q9 : (-1000000000 : Int32) < (-w0))).2.2.2 ?_
    show Steps _ _ _ (s₁.setTop (mkF m 27 #[.val (.int (-w0)), vI 0, .val (.int (-1000000000)), vI 9] [])) _
    refine XS.iloadN X0.here hx rfl (hb hby d230) rfl ?_
    show Steps _ _ _ (s₁.setTop (mkF m 28 #[.val (.int (-w0)), vI 0, .val (.int (-1000000000)), vI 9] [(.int 9)])) _
    refine XS.iloadN X0.here hx rfl (hb hby d231) rfl ?_
    show Steps _ _ _ (s₁.setTop (mkF m 29 #[.val (.int (-w0)), vI 0, .val (.int (-1000000000)), vI 9] [(.int 0), (.int 9)])) _
    refine XS.iadd X0.here hx rfl (hb hby d232) rfl ?_
    show Steps _ _ _ (s₁.setTop (mkF m 30 #[.val (.int (-w0)), vI 0, .val (.int (-1000000000)), vI 9] [(.int 9)])) _
    exact retI X0 hx hret (hb hby d233) hr
theorem d240 : decode jdk_33_method_13_code 42 = .ok (.bipush 10, 2) := by decide +kernel
theorem d241 : decode jdk_33_method_13_code 44 = .ok (.iload_n 1, 1) := by decide +kernel
theorem d242 : decode jdk_33_method_13_code 45 = .ok (.iadd, 1) := by decide +kernel
theorem d243 : decode jdk_33_method_13_code 46 = .ok (.ireturn, 1) := by decide +kernel
theorem rm_ssz_10 (l : Launch) (Z : State) (a0 : Array Value) (hw : HW Z a0) (ws : List Jvm.Cond) (w0 : Int32) (h0 : Heap) (n0 : Nat) (Z0 : n0 ≤ h0.size) (hw0 : ¬ (w0 < (0 : Int32))) (q1 : ¬ ((-10 : Int32) < (-w0))) (q2 : ¬ ((-100 : Int32) < (-w0))) (q3 : ¬ ((-1000 : Int32) < (-w0))) (q4 : ¬ ((-10000 : Int32) < (-w0))) (q5 : ¬ ((-100000 : Int32) < (-w0))) (q6 : ¬ ((-1000000 : Int32) < (-w0))) (q7 : ¬ ((-10000000 : Int32) < (-w0))) (q8 : ¬ ((-100000000 : Int32) < (-w0))) (q9 : ¬ ((-1000000000 : Int32) < (-w0))) :
    MF l Z m_19 jdk_33_method_13_code 4 (some .int) ws (oR 0 0 0 0) #[(.int w0)] h0 (Q_ssz Z w0 h0 n0) := by
  refine own_body (cls := "java/lang/Integer") (plainFor_of_name pn_8) rfl (fun p e s m below meth c s₁ hx hby hml hown hnm hret hZ X0 e0 => ?_)
  have N0 := Fr.nil n0
  refine ⟨_, _, _, _, some (.int 10), X0, by decide, by decide, nofun, ?_, fun fs hr => castTop (ef_11 m w0) ?_⟩
  · show Q_ssz Z w0 h0 n0 _ s₁.heap _
    rw [(e0 : s₁.heap = h0)]
    exact ⟨(10 : Int32), rfl, N0, rfl, (by decide)⟩
  · show Steps _ _ _ (s₁.setTop (mkF m 0 #[vI w0, .unset, .unset, .unset] [])) _
    refine XS.iconst X0.here hx rfl (hb hby d211) ?_
    show Steps _ _ _ (s₁.setTop (mkF m 1 #[vI w0, .unset, .unset, .unset] [(.int 1)])) _
    refine XS.istoreN X0.here hx rfl (hb hby d212) rfl (l' := #[vI w0, vI 1, .unset, .unset]) rfl ?_
    show Steps _ _ _ (s₁.setTop (mkF m 2 #[vI w0, vI 1, .unset, .unset] [])) _
    refine XS.iloadN X0.here hx rfl (hb hby d213) rfl ?_
    show Steps _ _ _ (s₁.setTop (mkF m 3 #[vI w0, vI 1, .unset, .unset] [(.int w0)])) _
    refine XS.ifNo X0.here hx rfl (hb hby d214) rfl ((if0 _ _).trans (flt (hw0 : ¬ (w0 < (0 : Int32)))).1) ?_
    show Steps _ _ _ (s₁.setTop (mkF m 6 #[vI w0, vI 1, .unset, .unset] [])) _
    refine XS.iconst X0.here hx rfl (hb hby d215) ?_
    show Steps _ _ _ (s₁.setTop (mkF m 7 #[vI w0, vI 1, .unset, .unset] [(.int 0)])) _
    refine XS.istoreN X0.here hx rfl (hb hby d216) rfl (l' := #[vI w0, vI 0, .unset, .unset]) rfl ?_
    show Steps _ _ _ (s₁.setTop (mkF m 8 #[vI w0, vI 0, .unset, .unset] [])) _
    refine XS.iloadN X0.here hx rfl (hb hby d217) rfl ?_
    show Steps _ _ _ (s₁.setTop (mkF m 9 #[vI w0, vI 0, .unset, .unset] [(.int w0)])) _
    refine XS.ineg X0.here hx rfl (hb hby d218) rfl ?_
    show Steps _ _ _ (s₁.setTop (mkF m 10 #[vI w0, vI 0, .unset, .unset] [(.int (-w0))])) _
    refine XS.istoreN X0.here hx rfl (hb hby d219) rfl (l' := #[.val (.int (-w0)), vI 0, .unset, .unset]) rfl ?_
    show Steps _ _ _ (s₁.setTop (mkF m 11 #[.val (.int (-w0)), vI 0, .unset, .unset] [])) _
    refine XS.bipush X0.here hx rfl (hb hby d220) ?_
    show Steps _ _ _ (s₁.setTop (mkF m 13 #[.val (.int (-w0)), vI 0, .unset, .unset] [(.int (-10))])) _
    refine XS.istoreN X0.here hx rfl (hb hby d221) rfl (l' := #[.val (.int (-w0)), vI 0, .val (.int (-10)), .unset]) rfl ?_
    show Steps _ _ _ (s₁.setTop (mkF m 14 #[.val (.int (-w0)), vI 0, .val (.int (-10)), .unset] [])) _
    refine XS.iconst X0.here hx rfl (hb hby d222) ?_
    show Steps _ _ _ (s₁.setTop (mkF m 15 #[.val (.int (-w0)), vI 0, .val (.int (-10)), .unset] [(.int 1)])) _
    refine XS.istoreN X0.here hx rfl (hb hby d223) rfl (l' := #[.val (.int (-w0)), vI 0, .val (.int (-10)), vI 1]) rfl ?_
    show Steps _ _ _ (s₁.setTop (mkF m 16 #[.val (.int (-w0)), vI 0, .val (.int (-10)), vI 1] [])) _
    refine XS.iloadN X0.here hx rfl (hb hby d224) rfl ?_
    show Steps _ _ _ (s₁.setTop (mkF m 17 #[.val (.int (-w0)), vI 0, .val (.int (-10)), vI 1] [(.int 1)])) _
    refine XS.bipush X0.here hx rfl (hb hby d225) ?_
    show Steps _ _ _ (s₁.setTop (mkF m 19 #[.val (.int (-w0)), vI 0, .val (.int (-10)), vI 1] [(.int 10), (.int 1)])) _
    refine XS.icmpNo X0.here hx rfl (hb hby d226) rfl (tlt ((by decide) : (1 : Int32) < (10 : Int32))).2.1 ?_
    show Steps _ _ _ (s₁.setTop (mkF m 22 #[.val (.int (-w0)), vI 0, .val (.int (-10)), vI 1] [])) _
    refine XS.iloadN X0.here hx rfl (hb hby d227) rfl ?_
    show Steps _ _ _ (s₁.setTop (mkF m 23 #[.val (.int (-w0)), vI 0, .val (.int (-10)), vI 1] [(.int (-w0))])) _
    refine XS.iloadN X0.here hx rfl (hb hby d228) rfl ?_
    show Steps _ _ _ (s₁.setTop (mkF m 24 #[.val (.int (-w0)), vI 0, .val (.int (-10)), vI 1] [(.int (-10)), (.int (-w0))])) _
    refine XS.icmpYes X0.here hx rfl (pc0 := 24) (pc' := 31) rfl (hb hby d229) rfl (flt (q1 : ¬ ((-10 : Int32) < (-w0)))).2.2.2 (by decide) (by decide) ?_
    show Steps _ _ _ (s₁.setTop (mkF m 31 #[.val (.int (-w0)), vI 0, .val (.int (-10)), vI 1] [])) _
    refine XS.bipush X0.here hx rfl (hb hby d234) ?_
    show Steps _ _ _ (s₁.setTop (mkF m 33 #[.val (.int (-w0)), vI 0, .val (.int (-10)), vI 1] [(.int 10)])) _
    refine XS.iloadN X0.here hx rfl (hb hby d235) rfl ?_
    show Steps _ _ _ (s₁.setTop (mkF m 34 #[.val (.int (-w0)), vI 0, .val (.int (-10)), vI 1] [(.int (-10)), (.int 10)])) _
    refine XS.imul X0.here hx rfl (hb hby d236) rfl ?_
    show Steps _ _ _ (s₁.setTop (mkF m 35 #[.val (.int (-w0)), vI 0, .val (.int (-10)), vI 1] [(.int (-100))])) _
    refine XS.istoreN X0.here hx rfl (hb hby d237) rfl (l' := #[.val (.int (-w0)), vI 0, .val (.int (-100)), vI 1]) rfl ?_
    show Steps _ _ _ (s₁.setTop (mkF m 36 #[.val (.int (-w0)), vI 0, .val (.int (-100)), vI 1] [])) _
    refine XS.iinc X0.here hx rfl (hb hby d238) rfl (l' := #[.val (.int (-w0)), vI 0, .val (.int (-100)), vI 2]) rfl ?_
    show Steps _ _ _ (s₁.setTop (mkF m 39 #[.val (.int (-w0)), vI 0, .val (.int (-100)), vI 2] [])) _
    refine XS.goto X0.here hx rfl (pc0 := 39) (pc' := 16) rfl (hb hby d239) (by decide) (by decide) ?_
    show Steps _ _ _ (s₁.setTop (mkF m 16 #[.val (.int (-w0)), vI 0, .val (.int (-100)), vI 2] [])) _
    refine XS.iloadN X0.here hx rfl (hb hby d224) rfl ?_
    show Steps _ _ _ (s₁.setTop (mkF m 17 #[.val (.int (-w0)), vI 0, .val (.int (-100)), vI 2] [(.int 2)])) _
    refine XS.bipush X0.here hx rfl (hb hby d225) ?_
    show Steps _ _ _ (s₁.setTop (mkF m 19 #[.val (.int (-w0)), vI 0, .val (.int (-100)), vI 2] [(.int 10), (.int 2)])) _
    refine XS.icmpNo X0.here hx rfl (hb hby d226) rfl (tlt ((by decide) : (2 : Int32) < (10 : Int32))).2.1 ?_
    show Steps _ _ _ (s₁.setTop (mkF m 22 #[.val (.int (-w0)), vI 0, .val (.int (-100)), vI 2] [])) _
    refine XS.iloadN X0.here hx rfl (hb hby d227) rfl ?_
    show Steps _ _ _ (s₁.setTop (mkF m 23 #[.val (.int (-w0)), vI 0, .val (.int (-100)), vI 2] [(.int (-w0))])) _
    refine XS.iloadN X0.here hx rfl (hb hby d228) rfl ?_
    show Steps _ _ _ (s₁.setTop (mkF m 24 #[.val (.int (-w0)), vI 0, .val (.int (-100)), vI 2] [(.int (-100)), (.int (-w0))])) _
    refine XS.icmpYes X0.here hx rfl (pc0 := 24) (pc' := 31) rfl (hb hby d229) rfl (flt (q2 : ¬ ((-100 : Int32) < (-w0)))).2.2.2 (by decide) (by decide) ?_
    show Steps _ _ _ (s₁.setTop (mkF m 31 #[.val (.int (-w0)), vI 0, .val (.int (-100)), vI 2] [])) _
    refine XS.bipush X0.here hx rfl (hb hby d234) ?_
    show Steps _ _ _ (s₁.setTop (mkF m 33 #[.val (.int (-w0)), vI 0, .val (.int (-100)), vI 2] [(.int 10)])) _
    refine XS.iloadN X0.here hx rfl (hb hby d235) rfl ?_
    show Steps _ _ _ (s₁.setTop (mkF m 34 #[.val (.int (-w0)), vI 0, .val (.int (-100)), vI 2] [(.int (-100)), (.int 10)])) _
    refine XS.imul X0.here hx rfl (hb hby d236) rfl ?_
    show Steps _ _ _ (s₁.setTop (mkF m 35 #[.val (.int (-w0)), vI 0, .val (.int (-100)), vI 2] [(.int (-1000))])) _
    refine XS.istoreN X0.here hx rfl (hb hby d237) rfl (l' := #[.val (.int (-w0)), vI 0, .val (.int (-1000)), vI 2]) rfl ?_
    show Steps _ _ _ (s₁.setTop (mkF m 36 #[.val (.int (-w0)), vI 0, .val (.int (-1000)), vI 2] [])) _
    refine XS.iinc X0.here hx rfl (hb hby d238) rfl (l' := #[.val (.int (-w0)), vI 0, .val (.int (-1000)), vI 3]) rfl ?_
    show Steps _ _ _ (s₁.setTop (mkF m 39 #[.val (.int (-w0)), vI 0, .val (.int (-1000)), vI 3] [])) _
    refine XS.goto X0.here hx rfl (pc0 := 39) (pc' := 16) rfl (hb hby d239) (by decide) (by decide) ?_
    show Steps _ _ _ (s₁.setTop (mkF m 16 #[.val (.int (-w0)), vI 0, .val (.int (-1000)), vI 3] [])) _
    refine XS.iloadN X0.here hx rfl (hb hby d224) rfl ?_
    show Steps _ _ _ (s₁.setTop (mkF m 17 #[.val (.int (-w0)), vI 0, .val (.int (-1000)), vI 3] [(.int 3)])) _
    refine XS.bipush X0.here hx rfl (hb hby d225) ?_
    show Steps _ _ _ (s₁.setTop (mkF m 19 #[.val (.int (-w0)), vI 0, .val (.int (-1000)), vI 3] [(.int 10), (.int 3)])) _
    refine XS.icmpNo X0.here hx rfl (hb hby d226) rfl (tlt ((by decide) : (3 : Int32) < (10 : Int32))).2.1 ?_
    show Steps _ _ _ (s₁.setTop (mkF m 22 #[.val (.int (-w0)), vI 0, .val (.int (-1000)), vI 3] [])) _
    refine XS.iloadN X0.here hx rfl (hb hby d227) rfl ?_
    show Steps _ _ _ (s₁.setTop (mkF m 23 #[.val (.int (-w0)), vI 0, .val (.int (-1000)), vI 3] [(.int (-w0))])) _
    refine XS.iloadN X0.here hx rfl (hb hby d228) rfl ?_
    show Steps _ _ _ (s₁.setTop (mkF m 24 #[.val (.int (-w0)), vI 0, .val (.int (-1000)), vI 3] [(.int (-1000)), (.int (-w0))])) _
    refine XS.icmpYes X0.here hx rfl (pc0 := 24) (pc' := 31) rfl (hb hby d229) rfl (flt (q3 : ¬ ((-1000 : Int32) < (-w0)))).2.2.2 (by decide) (by decide) ?_
    show Steps _ _ _ (s₁.setTop (mkF m 31 #[.val (.int (-w0)), vI 0, .val (.int (-1000)), vI 3] [])) _
    refine XS.bipush X0.here hx rfl (hb hby d234) ?_
    show Steps _ _ _ (s₁.setTop (mkF m 33 #[.val (.int (-w0)), vI 0, .val (.int (-1000)), vI 3] [(.int 10)])) _
    refine XS.iloadN X0.here hx rfl (hb hby d235) rfl ?_
    show Steps _ _ _ (s₁.setTop (mkF m 34 #[.val (.int (-w0)), vI 0, .val (.int (-1000)), vI 3] [(.int (-1000)), (.int 10)])) _
    refine XS.imul X0.here hx rfl (hb hby d236) rfl ?_
    show Steps _ _ _ (s₁.setTop (mkF m 35 #[.val (.int (-w0)), vI 0, .val (.int (-1000)), vI 3] [(.int (-10000))])) _
    refine XS.istoreN X0.here hx rfl (hb hby d237) rfl (l' := #[.val (.int (-w0)), vI 0, .val (.int (-10000)), vI 3]) rfl ?_
    show Steps _ _ _ (s₁.setTop (mkF m 36 #[.val (.int (-w0)), vI 0, .val (.int (-10000)), vI 3] [])) _
    refine XS.iinc X0.here hx rfl (hb hby d238) rfl (l' := #[.val (.int (-w0)), vI 0, .val (.int (-10000)), vI 4]) rfl ?_
    show Steps _ _ _ (s₁.setTop (mkF m 39 #[.val (.int (-w0)), vI 0, .val (.int (-10000)), vI 4] [])) _
    refine XS.goto X0.here hx rfl (pc0 := 39) (pc' := 16) rfl (hb hby d239) (by decide) (by decide) ?_
    show Steps _ _ _ (s₁.setTop (mkF m 16 #[.val (.int (-w0)), vI 0, .val (.int (-10000)), vI 4] [])) _
    refine XS.iloadN X0.here hx rfl (hb hby d224) rfl ?_
    show Steps _ _ _ (s₁.setTop (mkF m 17 #[.val (.int (-w0)), vI 0, .val (.int (-10000)), vI 4] [(.int 4)])) _
    refine XS.bipush X0.here hx rfl (hb hby d225) ?_
    show Steps _ _ _ (s₁.setTop (mkF m 19 #[.val (.int (-w0)), vI 0, .val (.int (-10000)), vI 4] [(.int 10), (.int 4)])) _
    refine XS.icmpNo X0.here hx rfl (hb hby d226) rfl (tlt ((by decide) : (4 : Int32) < (10 : Int32))).2.1 ?_
    show Steps _ _ _ (s₁.setTop (mkF m 22 #[.val (.int (-w0)), vI 0, .val (.int (-10000)), vI 4] [])) _
    refine XS.iloadN X0.here hx rfl (hb hby d227) rfl ?_
    show Steps _ _ _ (s₁.setTop (mkF m 23 #[.val (.int (-w0)), vI 0, .val (.int (-10000)), vI 4] [(.int (-w0))])) _
    refine XS.iloadN X0.here hx rfl (hb hby d228) rfl ?_
    show Steps _ _ _ (s₁.setTop (mkF m 24 #[.val (.int (-w0)), vI 0, .val (.int (-10000)), vI 4] [(.int (-10000)), (.int (-w0))])) _
    refine XS.icmpYes X0.here hx rfl (pc0 := 24) (pc' := 31) rfl (hb hby d229) rfl (flt (q4 : ¬ ((-10000 : Int32) < (-w0)))).2.2.2 (by decide) (by decide) ?_
    show Steps _ _ _ (s₁.setTop (mkF m 31 #[.val (.int (-w0)), vI 0, .val (.int (-10000)), vI 4] [])) _
    refine XS.bipush X0.here hx rfl (hb hby d234) ?_
    show Steps _ _ _ (s₁.setTop (mkF m 33 #[.val (.int (-w0)), vI 0, .val (.int (-10000)), vI 4] [(.int 10)])) _
    refine XS.iloadN X0.here hx rfl (hb hby d235) rfl ?_
    show Steps _ _ _ (s₁.setTop (mkF m 34 #[.val (.int (-w0)), vI 0, .val (.int (-10000)), vI 4] [(.int (-10000)), (.int 10)])) _
    refine XS.imul X0.here hx rfl (hb hby d236) rfl ?_
    show Steps _ _ _ (s₁.setTop (mkF m 35 #[.val (.int (-w0)), vI 0, .val (.int (-10000)), vI 4] [(.int (-100000))])) _
    refine XS.istoreN X0.here hx rfl (hb hby d237) rfl (l' := #[.val (.int (-w0)), vI 0, .val (.int (-100000)), vI 4]) rfl ?_
    show Steps _ _ _ (s₁.setTop (mkF m 36 #[.val (.int (-w0)), vI 0, .val (.int (-100000)), vI 4] [])) _
    refine XS.iinc X0.here hx rfl (hb hby d238) rfl (l' := #[.val (.int (-w0)), vI 0, .val (.int (-100000)), vI 5]) rfl ?_
    show Steps _ _ _ (s₁.setTop (mkF m 39 #[.val (.int (-w0)), vI 0, .val (.int (-100000)), vI 5] [])) _
    refine XS.goto X0.here hx rfl (pc0 := 39) (pc' := 16) rfl (hb hby d239) (by decide) (by decide) ?_
    show Steps _ _ _ (s₁.setTop (mkF m 16 #[.val (.int (-w0)), vI 0, .val (.int (-100000)), vI 5] [])) _
    refine XS.iloadN X0.here hx rfl (hb hby d224) rfl ?_
    show Steps _ _ _ (s₁.setTop (mkF m 17 #[.val (.int (-w0)), vI 0, .val (.int (-100000)), vI 5] [(.int 5)])) _
    refine XS.bipush X0.here hx rfl (hb hby d225) ?_
    show Steps _ _ _ (s₁.setTop (mkF m 19 #[.val (.int (-w0)), vI 0, .val (.int (-100000)), vI 5] [(.int 10), (.int 5)])) _
    refine XS.icmpNo X0.here hx rfl (hb hby d226) rfl (tlt ((by decide) : (5 : Int32) < (10 : Int32))).2.1 ?_
    show Steps _ _ _ (s₁.setTop (mkF m 22 #[.val (.int (-w0)), vI 0, .val (.int (-100000)), vI 5] [])) _
    refine XS.iloadN X0.here hx rfl (hb hby d227) rfl ?_
    show Steps _ _ _ (s₁.setTop (mkF m 23 #[.val (.int (-w0)), vI 0, .val (.int (-100000)), vI 5] [(.int (-w0))])) _
    refine XS.iloadN X0.here hx rfl (hb hby d228) rfl ?_
    show Steps _ _ _ (s₁.setTop (mkF m 24 #[.val (.int (-w0)), vI 0, .val (.int (-100000)), vI 5] [(.int (-100000)), (.int (-w0))])) _
    refine XS.icmpYes X0.here hx rfl (pc0 := 24) (pc' := 31) rfl (hb hby d229) rfl (flt (q5 : ¬ ((-100000 : Int32) < (-w0)))).2.2.2 (by decide) (by decide) ?_
    show Steps _ _ _ (s₁.setTop (mkF m 31 #[.val (.int (-w0)), vI 0, .val (.int (-100000)), vI 5] [])) _
    refine XS.bipush X0.here hx rfl (hb hby d234) ?_
    show Steps _ _ _ (s₁.setTop (mkF m 33 #[.val (.int (-w0)), vI 0, .val (.int (-100000)), vI 5] [(.int 10)])) _
    refine XS.iloadN X0.here hx rfl (hb hby d235) rfl ?_
    show Steps _ _ _ (s₁.setTop (mkF m 34 #[.val (.int (-w0)), vI 0, .val (.int (-100000)), vI 5] [(.int (-100000)), (.int 10)])) _
    refine XS.imul X0.here hx rfl (hb hby d236) rfl ?_
    show Steps _ _ _ (s₁.setTop (mkF m 35 #[.val (.int (-w0)), vI 0, .val (.int (-100000)), vI 5] [(.int (-1000000))])) _
    refine XS.istoreN X0.here hx rfl (hb hby d237) rfl (l' := #[.val (.int (-w0)), vI 0, .val (.int (-1000000)), vI 5]) rfl ?_
    show Steps _ _ _ (s₁.setTop (mkF m 36 #[.val (.int (-w0)), vI 0, .val (.int (-1000000)), vI 5] [])) _
    refine XS.iinc X0.here hx rfl (hb hby d238) rfl (l' := #[.val (.int (-w0)), vI 0, .val (.int (-1000000)), vI 6]) rfl ?_
    show Steps _ _ _ (s₁.setTop (mkF m 39 #[.val (.int (-w0)), vI 0, .val (.int (-1000000)), vI 6] [])) _
    refine XS.goto X0.here hx rfl (pc0 := 39) (pc' := 16) rfl (hb hby d239) (by decide) (by decide) ?_
    show Steps _ _ _ (s₁.setTop (mkF m 16 #[.val (.int (-w0)), vI 0, .val (.int (-1000000)), vI 6] [])) _
    refine XS.iloadN X0.here hx rfl (hb hby d224) rfl ?_
    show Steps _ _ _ (s₁.setTop (mkF m 17 #[.val (.int (-w0)), vI 0, .val (.int (-1000000)), vI 6] [(.int 6)])) _
    refine XS.bipush X0.here hx rfl (hb hby d225) ?_
    show Steps _ _ _ (s₁.setTop (mkF m 19 #[.val (.int (-w0)), vI 0, .val (.int (-1000000)), vI 6] [(.int 10), (.int 6)])) _
    refine XS.icmpNo X0.here hx rfl (hb hby d226) rfl (tlt ((by decide) : (6 : Int32) < (10 : Int32))).2.1 ?_
    show Steps _ _ _ (s₁.setTop (mkF m 22 #[.val (.int (-w0)), vI 0, .val (.int (-1000000)), vI 6] [])) _
    refine XS.iloadN X0.here hx rfl (hb hby d227) rfl ?_
    show Steps _ _ _ (s₁.setTop (mkF m 23 #[.val (.int (-w0)), vI 0, .val (.int (-1000000)), vI 6] [(.int (-w0))])) _
    refine XS.iloadN X0.here hx rfl (hb hby d228) rfl ?_
    show Steps _ _ _ (s₁.setTop (mkF m 24 #[.val (.int (-w0)), vI 0, .val (.int (-1000000)), vI 6] [(.int (-1000000)), (.int (-w0))])) _
    refine XS.icmpYes X0.here hx rfl (pc0 := 24) (pc' := 31) rfl (hb hby d229) rfl (flt (q6 : ¬ ((-1000000 : Int32) < (-w0)))).2.2.2 (by decide) (by decide) ?_
    show Steps _ _ _ (s₁.setTop (mkF m 31 #[.val (.int (-w0)), vI 0, .val (.int (-1000000)), vI 6] [])) _
    refine XS.bipush X0.here hx rfl (hb hby d234) ?_
    show Steps _ _ _ (s₁.setTop (mkF m 33 #[.val (.int (-w0)), vI 0, .val (.int (-1000000)), vI 6] [(.int 10)])) _
    refine XS.iloadN X0.here hx rfl (hb hby d235) rfl ?_
    show Steps _ _ _ (s₁.setTop (mkF m 34 #[.val (.int (-w0)), vI 0, .val (.int (-1000000)), vI 6] [(.int (-1000000)), (.int 10)])) _
    refine XS.imul X0.here hx rfl (hb hby d236) rfl ?_
    show Steps _ _ _ (s₁.setTop (mkF m 35 #[.val (.int (-w0)), vI 0, .val (.int (-1000000)), vI 6] [(.int (-10000000))])) _
    refine XS.istoreN X0.here hx rfl (hb hby d237) rfl (l' := #[.val (.int (-w0)), vI 0, .val (.int (-10000000)), vI 6]) rfl ?_
    show Steps _ _ _ (s₁.setTop (mkF m 36 #[.val (.int (-w0)), vI 0, .val (.int (-10000000)), vI 6] [])) _
    refine XS.iinc X0.here hx rfl (hb hby d238) rfl (l' := #[.val (.int (-w0)), vI 0, .val (.int (-10000000)), vI 7]) rfl ?_
    show Steps _ _ _ (s₁.setTop (mkF m 39 #[.val (.int (-w0)), vI 0, .val (.int (-10000000)), vI 7] [])) _
    refine XS.goto X0.here hx rfl (pc0 := 39) (pc' := 16) rfl (hb hby d239) (by decide) (by decide) ?_
    show Steps _ _ _ (s₁.setTop (mkF m 16 #[.val (.int (-w0)), vI 0, .val (.int (-10000000)), vI 7] [])) _
    refine XS.iloadN X0.here hx rfl (hb hby d224) rfl ?_
    show Steps _ _ _ (s₁.setTop (mkF m 17 #[.val (.int (-w0)), vI 0, .val (.int (-10000000)), vI 7] [(.int 7)])) _
    refine XS.bipush X0.here hx rfl (hb hby d225) ?_
    show Steps _ _ _ (s₁.setTop (mkF m 19 #[.val (.int (-w0)), vI 0, .val (.int (-10000000)), vI 7] [(.int 10), (.int 7)])) _
    refine XS.icmpNo X0.here hx rfl (hb hby d226) rfl (tlt ((by decide) : (7 : Int32) < (10 : Int32))).2.1 ?_
    show Steps _ _ _ (s₁.setTop (mkF m 22 #[.val (.int (-w0)), vI 0, .val (.int (-10000000)), vI 7] [])) _
    refine XS.iloadN X0.here hx rfl (hb hby d227) rfl ?_
    show Steps _ _ _ (s₁.setTop (mkF m 23 #[.val (.int (-w0)), vI 0, .val (.int (-10000000)), vI 7] [(.int (-w0))])) _
    refine XS.iloadN X0.here hx rfl (hb hby d228) rfl ?_
    show Steps _ _ _ (s₁.setTop (mkF m 24 #[.val (.int (-w0)), vI 0, .val (.int (-10000000)), vI 7] [(.int (-10000000)), (.int (-w0))])) _
    refine XS.icmpYes X0.here hx rfl (pc0 := 24) (pc' := 31) rfl (hb hby d229) rfl (flt (q7 : ¬ ((-10000000 : Int32) < (-w0)))).2.2.2 (by decide) (by decide) ?_
    show Steps _ _ _ (s₁.setTop (mkF m 31 #[.val (.int (-w0)), vI 0, .val (.int (-10000000)), vI 7] [])) _
    refine XS.bipush X0.here hx rfl (hb hby d234) ?_
    show Steps _ _ _ (s₁.setTop (mkF m 33 #[.val (.int (-w0)), vI 0, .val (.int (-10000000)), vI 7] [(.int 10)])) _
    refine XS.iloadN X0.here hx rfl (hb hby d235) rfl ?_
    show Steps _ _ _ (s₁.setTop (mkF m 34 #[.val (.int (-w0)), vI 0, .val (.int (-10000000)), vI 7] [(.int (-10000000)), (.int 10)])) _
    refine XS.imul X0.here hx rfl (hb hby d236) rfl ?_
    show Steps _ _ _ (s₁.setTop (mkF m 35 #[.val (.int (-w0)), vI 0, .val (.int (-10000000)), vI 7] [(.int (-100000000))])) _
    refine XS.istoreN X0.here hx rfl (hb hby d237) rfl (l' := #[.val (.int (-w0)), vI 0, .val (.int (-100000000)), vI 7]) rfl ?_
    show Steps _ _ _ (s₁.setTop (mkF m 36 #[.val (.int (-w0)), vI 0, .val (.int (-100000000)), vI 7] [])) _
    refine XS.iinc X0.here hx rfl (hb hby d238) rfl (l' := #[.val (.int (-w0)), vI 0, .val (.int (-100000000)), vI 8]) rfl ?_
    show Steps _ _ _ (s₁.setTop (mkF m 39 #[.val (.int (-w0)), vI 0, .val (.int (-100000000)), vI 8] [])) _
    refine XS.goto X0.here hx rfl (pc0 := 39) (pc' := 16) rfl (hb hby d239) (by decide) (by decide) ?_
    show Steps _ _ _ (s₁.setTop (mkF m 16 #[.val (.int (-w0)), vI 0, .val (.int (-100000000)), vI 8] [])) _
    refine XS.iloadN X0.here hx rfl (hb hby d224) rfl ?_
    show Steps _ _ _ (s₁.setTop (mkF m 17 #[.val (.int (-w0)), vI 0, .val (.int (-100000000)), vI 8] [(.int 8)])) _
    refine XS.bipush X0.here hx rfl (hb hby d225) ?_
    show Steps _ _ _ (s₁.setTop (mkF m 19 #[.val (.int (-w0)), vI 0, .val (.int (-100000000)), vI 8] [(.int 10), (.int 8)])) _
    refine XS.icmpNo X0.here hx rfl (hb hby d226) rfl (tlt ((by decide) : (8 : Int32) < (10 : Int32))).2.1 ?_
    show Steps _ _ _ (s₁.setTop (mkF m 22 #[.val (.int (-w0)), vI 0, .val (.int (-100000000)), vI 8] [])) _
    refine XS.iloadN X0.here hx rfl (hb hby d227) rfl ?_
    show Steps _ _ _ (s₁.setTop (mkF m 23 #[.val (.int (-w0)), vI 0, .val (.int (-100000000)), vI 8] [(.int (-w0))])) _
    refine XS.iloadN X0.here hx rfl (hb hby d228) rfl ?_
    show Steps _ _ _ (s₁.setTop (mkF m 24 #[.val (.int (-w0)), vI 0, .val (.int (-100000000)), vI 8] [(.int (-100000000)), (.int (-w0))])) _
    refine XS.icmpYes X0.here hx rfl (pc0 := 24) (pc' := 31) rfl (hb hby d229) rfl (flt (q8 : ¬ ((-100000000 : Int32) < (-w0)))).2.2.2 (by decide) (by decide) ?_
    show Steps _ _ _ (s₁.setTop (mkF m 31 #[.val (.int (-w0)), vI 0, .val (.int (-100000000)), vI 8] [])) _
    refine XS.bipush X0.here hx rfl (hb hby d234) ?_
    show Steps _ _ _ (s₁.setTop (mkF m 33 #[.val (.int (-w0)), vI 0, .val (.int (-100000000)), vI 8] [(.int 10)])) _
    refine XS.iloadN X0.here hx rfl (hb hby d235) rfl ?_
    show Steps _ _ _ (s₁.setTop (mkF m 34 #[.val (.int (-w0)), vI 0, .val (.int (-100000000)), vI 8] [(.int (-100000000)), (.int 10)])) _
    refine XS.imul X0.here hx rfl (hb hby d236) rfl ?_
    show Steps _ _ _ (s₁.setTop (mkF m 35 #[.val (.int (-w0)), vI 0, .val (.int (-100000000)), vI 8] [(.int (-1000000000))])) _
    refine XS.istoreN X0.here hx rfl (hb hby d237) rfl (l' := #[.val (.int (-w0)), vI 0, .val (.int (-1000000000)), vI 8]) rfl ?_
    show Steps _ _ _ (s₁.setTop (mkF m 36 #[.val (.int (-w0)), vI 0, .val (.int (-1000000000)), vI 8] [])) _
    refine XS.iinc X0.here hx rfl (hb hby d238) rfl (l' := #[.val (.int (-w0)), vI 0, .val (.int (-1000000000)), vI 9]) rfl ?_
    show Steps _ _ _ (s₁.setTop (mkF m 39 #[.val (.int (-w0)), vI 0, .val (.int (-1000000000)), vI 9] [])) _
    refine XS.goto X0.here hx rfl (pc0 := 39) (pc' := 16) rfl (hb hby d239) (by decide) (by decide) ?_
    show Steps _ _ _ (s₁.setTop (mkF m 16 #[.val (.int (-w0)), vI 0, .val (.int (-1000000000)), vI 9] [])) _
    refine XS.iloadN X0.here hx rfl (hb hby d224) rfl ?_
    show Steps _ _ _ (s₁.setTop (mkF m 17 #[.val (.int (-w0)), vI 0, .val (.int (-1000000000)), vI 9] [(.int 9)])) _
    refine XS.bipush X0.here hx rfl (hb hby d225) ?_
    show Steps _ _ _ (s₁.setTop (mkF m 19 #[.val (.int (-w0)), vI 0, .val (.int (-1000000000)), vI 9] [(.int 10), (.int 9)])) _
    refine XS.icmpNo X0.here hx rfl (hb hby d226) rfl (tlt ((by decide) : (9 : Int32) < (10 : Int32))).2.1 ?_
    show Steps _ _ _ (s₁.setTop (mkF m 22 #[.val (.int (-w0)), vI 0, .val (.int (-1000000000)), vI 9] [])) _
    refine XS.iloadN X0.here hx rfl (hb hby d227) rfl ?_
    show Steps _ _ _ (s₁.setTop (mkF m 23 #[.val (.int (-w0)), vI 0, .val (.int (-1000000000)), vI 9] [(.int (-w0))])) _
    refine XS.iloadN X0.here hx rfl (hb hby d228) rfl ?_
    show Steps _ _ _ (s₁.setTop (mkF m 24 #[.val (.int (-w0)), vI 0, .val (.int (-1000000000)), vI 9] [(.int (-1000000000)), (.int (-w0))])) _
    refine XS.icmpYes X0.here hx rfl (pc0 := 24) (pc' := 31) rfl (hb hby d229) rfl (flt (q9 : ¬ ((-1000000000 : Int32) < (-w0)))).2.2.2 (by decide) (by decide) ?_
    show Steps _ _ _ (s₁.setTop (mkF m 31 #[.val (.int (-w0)), vI 0, .val (.int (-1000000000)), vI 9] [])) _
    refine XS.bipush X0.here hx rfl (hb hby d234) ?_
    show Steps _ _ _ (s₁.setTop (mkF m 33 #[.val (.int (-w0)), vI 0, .val (.int (-1000000000)), vI 9] [(.int 10)])) _
    refine XS.iloadN X0.here hx rfl (hb hby d235) rfl ?_
    show Steps _ _ _ (s₁.setTop (mkF m 34 #[.val (.int (-w0)), vI 0, .val (.int (-1000000000)), vI 9] [(.int (-1000000000)), (.int 10)])) _
    refine XS.imul X0.here hx rfl (hb hby d236) rfl ?_
    show Steps _ _ _ (s₁.setTop (mkF m 35 #[.val (.int (-w0)), vI 0, .val (.int (-1000000000)), vI 9] [(.int (-1410065408))])) _
    refine XS.istoreN X0.here hx rfl (hb hby d237) rfl (l' := #[.val (.int (-w0)), vI 0, .val (.int (-1410065408)), vI 9]) rfl ?_
    show Steps _ _ _ (s₁.setTop (mkF m 36 #[.val (.int (-w0)), vI 0, .val (.int (-1410065408)), vI 9] [])) _
    refine XS.iinc X0.here hx rfl (hb hby d238) rfl (l' := #[.val (.int (-w0)), vI 0, .val (.int (-1410065408)), vI 10]) rfl ?_
    show Steps _ _ _ (s₁.setTop (mkF m 39 #[.val (.int (-w0)), vI 0, .val (.int (-1410065408)), vI 10] [])) _
    refine XS.goto X0.here hx rfl (pc0 := 39) (pc' := 16) rfl (hb hby d239) (by decide) (by decide) ?_
    show Steps _ _ _ (s₁.setTop (mkF m 16 #[.val (.int (-w0)), vI 0, .val (.int (-1410065408)), vI 10] [])) _
    refine XS.iloadN X0.here hx rfl (hb hby d224) rfl ?_
    show Steps _ _ _ (s₁.setTop (mkF m 17 #[.val (.int (-w0)), vI 0, .val (.int (-1410065408)), vI 10] [(.int 10)])) _
    refine XS.bipush X0.here hx rfl (hb hby d225) ?_
    show Steps _ _ _ (s₁.setTop (mkF m 19 #[.val (.int (-w0)), vI 0, .val (.int (-1410065408)), vI 10] [(.int 10), (.int 10)])) _
    refine XS.icmpYes X0.here hx rfl (pc0 := 19) (pc' := 42) rfl (hb hby d226) rfl (flt ((by decide) : ¬ ((10 : Int32) < (10 : Int32)))).2.1 (by decide) (by decide) ?_
    show Steps _ _ _ (s₁.setTop (mkF m 42 #[.val (.int (-w0)), vI 0, .val (.int (-1410065408)), vI 10] [])) _
    refine XS.bipush X0.here hx rfl (hb hby d240) ?_
    show Steps _ _ _ (s₁.setTop (mkF m 44 #[.val (.int (-w0)), vI 0, .val (.int (-1410065408)), vI 10] [(.int 10)])) _
    refine XS.iloadN X0.here hx rfl (hb hby d241) rfl ?_
    show Steps _ _ _ (s₁.setTop (mkF m 45 #[.val (.int (-w0)), vI 0, .val (.int (-1410065408)), vI 10] [(.int 0), (.int 10)])) _
    refine XS.iadd X0.here hx rfl (hb hby d242) rfl ?_
    show Steps _ _ _ (s₁.setTop (mkF m 46 #[.val (.int (-w0)), vI 0, .val (.int (-1410065408)), vI 10] [(.int 10)])) _
    exact retI X0 hx hret (hb hby d243) hr
theorem rm_ssz (l : Launch) (Z : State) (a0 : Array Value) (hw : HW Z a0) (ws : List Jvm.Cond) (w0 : Int32) (h0 : Heap) (n0 : Nat) (Z0 : n0 ≤ h0.size) (hw0 : ¬ (w0 < (0 : Int32))) :
    MF l Z m_19 jdk_33_method_13_code 4 (some .int) ws (oR 0 0 0 0) #[(.int w0)] h0 (Q_ssz Z w0 h0 n0) := by
  by_cases q1 : (-10 : Int32) < (-w0)
  · exact rm_ssz_1 l Z a0 hw ws w0 h0 n0 Z0 hw0 q1
  by_cases q2 : (-100 : Int32) < (-w0)
  · exact rm_ssz_2 l Z a0 hw ws w0 h0 n0 Z0 hw0 q1 q2
  by_cases q3 : (-1000 : Int32) < (-w0)
  · exact rm_ssz_3 l Z a0 hw ws w0 h0 n0 Z0 hw0 q1 q2 q3
  by_cases q4 : (-10000 : Int32) < (-w0)
  · exact rm_ssz_4 l Z a0 hw ws w0 h0 n0 Z0 hw0 q1 q2 q3 q4
  by_cases q5 : (-100000 : Int32) < (-w0)
  · exact rm_ssz_5 l Z a0 hw ws w0 h0 n0 Z0 hw0 q1 q2 q3 q4 q5
  by_cases q6 : (-1000000 : Int32) < (-w0)
  · exact rm_ssz_6 l Z a0 hw ws w0 h0 n0 Z0 hw0 q1 q2 q3 q4 q5 q6
  by_cases q7 : (-10000000 : Int32) < (-w0)
  · exact rm_ssz_7 l Z a0 hw ws w0 h0 n0 Z0 hw0 q1 q2 q3 q4 q5 q6 q7
  by_cases q8 : (-100000000 : Int32) < (-w0)
  · exact rm_ssz_8 l Z a0 hw ws w0 h0 n0 Z0 hw0 q1 q2 q3 q4 q5 q6 q7 q8
  by_cases q9 : (-1000000000 : Int32) < (-w0)
  · exact rm_ssz_9 l Z a0 hw ws w0 h0 n0 Z0 hw0 q1 q2 q3 q4 q5 q6 q7 q8 q9
  exact rm_ssz_10 l Z a0 hw ws w0 h0 n0 Z0 hw0 q1 q2 q3 q4 q5 q6 q7 q8 q9
theorem own_k100 : (100 : Int32).toInt = 100 := by decide
theorem own_km1 : (-1 : Int32).toInt = -1 := by decide
theorem own_km100 : (-100 : Int32).toInt = -100 := by decide
theorem own_km9 : (-9 : Int32).toInt = -9 := by decide
theorem own_dv {i : Int32} (h : i.toInt < 0) : (i / (100 : Int32)).toInt = -((-i.toInt) / 100) := (c_idiv i 100 100 (by decide) (by decide)).2 h
theorem own_rr {i : Int32} (h : ¬ ((-100 : Int32) < i)) : ¬ (((i / (100 : Int32)) * (100 : Int32)) - i) < 0 ∧ (((i / (100 : Int32)) * (100 : Int32)) - i) < (100 : Int32) := by
  simp only [own_lt, own_km100, own_k0, own_k100] at h ⊢
  have r := rng32 i
  have d := own_dv (i := i) (by omega)
  have m := c_imul (i / (100 : Int32)) 100
  rw [own_k100] at m
  have r1 := rng32 ((i / (100 : Int32)) * (100 : Int32))
  have b := c_isub ((i / (100 : Int32)) * (100 : Int32)) i
  have r2 := rng32 (((i / (100 : Int32)) * (100 : Int32)) - i)
  omega
abbrev oC2 (y N : Int32) : Prop := 2 ≤ y.toInt ∧ y.toInt ≤ N.toInt ∧ N.toInt ≤ 70
theorem own_e1 {y : Int32} (h : 1 ≤ y.toInt) : (y + (-1 : Int32)).toInt = y.toInt - 1 := by
  have q := c_iadd y (-1)
  rw [own_km1] at q
  have r1 := rng32 y
  have r := rng32 (y + (-1 : Int32))
  omega
theorem own_c1 {y N : Int32} (h : oC2 y N) : ¬ (y + (-1 : Int32)) < 0 ∧ (y + (-1 : Int32)) < N := by
  obtain ⟨h1, h2, h3⟩ := h
  rw [own_lt, own_lt, own_k0, own_e1 (by omega)]
  omega
theorem own_c2 {y N : Int32} (h : oC2 y N) : ¬ ((y + (-1 : Int32)) + (-1 : Int32)) < 0 ∧ ((y + (-1 : Int32)) + (-1 : Int32)) < N := by
  obtain ⟨h1, h2, h3⟩ := h
  have e := own_e1 (y := y) (by omega)
  rw [own_lt, own_lt, own_k0, own_e1 (by omega), e]
  omega
abbrev oI (y : Int32) : Prop := -100 < y.toInt ∧ y.toInt ≤ 0
theorem own_ni {y : Int32} (h : y.toInt ≤ 0 ∧ -2147483648 < y.toInt) : (-y).toInt = -y.toInt := by
  have q := c_ineg y
  have r := rng32 (-y)
  omega
theorem own_pi {y : Int32} (h : ¬ (y < (0 : Int32))) : (-y).toInt = -y.toInt := by
  rw [own_lt, own_k0] at h
  have q := c_ineg y
  have r := rng32 (-y)
  have r1 := rng32 y
  omega
theorem own_ri {y : Int32} (h : oI y) : ¬ (-y) < 0 ∧ (-y) < (100 : Int32) := by
  rw [own_lt, own_lt, own_k0, own_k100, own_ni ⟨h.2, by have := h.1; omega⟩]
  have := h.1
  have := h.2
  omega
theorem d244 : decode jdk_33_method_12_code 22 = .ok (.iload_n 0, 1) := by decide +kernel
theorem d245 : decode jdk_33_method_12_code 23 = .ok (.bipush (-100), 2) := by decide +kernel
theorem d246 : decode jdk_33_method_12_code 25 = .ok (.if_icmp .gt 47, 3) := by decide +kernel
theorem d247 : decode jdk_33_method_12_code 28 = .ok (.iload_n 0, 1) := by decide +kernel
theorem d248 : decode jdk_33_method_12_code 29 = .ok (.bipush 100, 2) := by decide +kernel
theorem d249 : decode jdk_33_method_12_code 31 = .ok (.idiv, 1) := by decide +kernel
theorem d250 : decode jdk_33_method_12_code 32 = .ok (.istore_n 3, 1) := by decide +kernel
theorem d251 : decode jdk_33_method_12_code 33 = .ok (.iload_n 3, 1) := by decide +kernel
theorem d252 : decode jdk_33_method_12_code 34 = .ok (.bipush 100, 2) := by decide +kernel
theorem d253 : decode jdk_33_method_12_code 36 = .ok (.imul, 1) := by decide +kernel
theorem d254 : decode jdk_33_method_12_code 37 = .ok (.iload_n 0, 1) := by decide +kernel
theorem d255 : decode jdk_33_method_12_code 38 = .ok (.isub, 1) := by decide +kernel
theorem d256 : decode jdk_33_method_12_code 39 = .ok (.istore 4, 2) := by decide +kernel
theorem d257 : decode jdk_33_method_12_code 41 = .ok (.iload_n 3, 1) := by decide +kernel
theorem d258 : decode jdk_33_method_12_code 42 = .ok (.istore_n 0, 1) := by decide +kernel
theorem d259 : decode jdk_33_method_12_code 43 = .ok (.aload_n 2, 1) := by decide +kernel
theorem d260 : decode jdk_33_method_12_code 44 = .ok (.iinc 5 (-1), 3) := by decide +kernel
theorem d261 : decode jdk_33_method_12_code 47 = .ok (.iload 5, 2) := by decide +kernel
theorem w_188 {Z : State} {a0 : Array Value} (hw : HW Z a0) : (Jvm.Cond.fieldLink "java/lang/Integer" (83 : Nat) "java/lang/Integer" "DigitOnes" "[B").before a0 Z = true := hw _ (List.mem_of_getElem? (i := 188) rfl)
theorem d262 : decode jdk_33_method_12_code 49 = .ok (.getstatic 83, 3) := by decide +kernel
theorem d263 : decode jdk_33_method_12_code 52 = .ok (.iload 4, 2) := by decide +kernel
theorem d264 : decode jdk_33_method_12_code 54 = .ok (.baload, 1) := by decide +kernel
theorem d265 : decode jdk_33_method_12_code 55 = .ok (.bastore, 1) := by decide +kernel
theorem d266 : decode jdk_33_method_12_code 56 = .ok (.aload_n 2, 1) := by decide +kernel
theorem d267 : decode jdk_33_method_12_code 57 = .ok (.iinc 5 (-1), 3) := by decide +kernel
theorem d268 : decode jdk_33_method_12_code 60 = .ok (.iload 5, 2) := by decide +kernel
theorem w_213 {Z : State} {a0 : Array Value} (hw : HW Z a0) : (Jvm.Cond.fieldLink "java/lang/Integer" (87 : Nat) "java/lang/Integer" "DigitTens" "[B").before a0 Z = true := hw _ (List.mem_of_getElem? (i := 213) rfl)
theorem d269 : decode jdk_33_method_12_code 62 = .ok (.getstatic 87, 3) := by decide +kernel
theorem d270 : decode jdk_33_method_12_code 65 = .ok (.iload 4, 2) := by decide +kernel
theorem d271 : decode jdk_33_method_12_code 67 = .ok (.baload, 1) := by decide +kernel
theorem d272 : decode jdk_33_method_12_code 68 = .ok (.bastore, 1) := by decide +kernel
theorem d273 : decode jdk_33_method_12_code 69 = .ok (.goto (-47), 3) := by decide +kernel
theorem pz_gtu {p : Program} {l : Launch} {e : Env} {R : Room} {s : State} {m : MethodId} {args : Array Value} {below : List Frame} {meth : Method} {c : Code} {T : State} {locs : List Loc} {cells slots : Nat} {Z : State} {a0 : Array Value} (X0 : Stand p l e R s m args below meth c T locs cells slots) (hx : p.tables.exec = Jvm.exec) (hw : HW Z a0) (hZ : Z.Warmed39 s.vm) (hown : s.vm.findClass "java/lang/Integer" = some m.cls) (hby : c.code = jdk_33_method_12_code) (hml : c.maxLocals = 7) (i : Int32) (idx : Int32) (vb : Addr) (kv : ClassId) (N : Int32) (xs : List Value) (cq : Int32) (od : Addr) (ko : ClassId) (vo : List Value) (ot : Addr) (kt2 : ClassId) (vt : List Value) {h0 : Heap} {n0 : Nat} (e0 : T.heap = h0) (N0 : Fr n0 locs) (Z0 : n0 ≤ h0.size) (P0 : Old Z n0 h0) (P1 : Sta Z Z.heap "java/lang/Integer" "DigitOnes" "[B" (.ref od)) (P2 : Sta Z Z.heap "java/lang/Integer" "DigitTens" "[B" (.ref ot)) (P3 : Arv Z h0 vb kv .byte N xs (.int 0)) (P4 : n0 ≤ vb) (BO : Arv Z Z.heap od ko .byte (100 : Int32) vo (.int 0)) (BT : Arv Z Z.heap ot kt2 .byte (100 : Int32) vt (.int 0)) (hc : oC2 cq N) (hi : ¬ ((-100 : Int32) < i)) (hFr : 0 ≤ R.frames) (hLo : 0 ≤ R.locals) (hCe : cells + 0 ≤ R.cells) (hSl : slots + 0 ≤ R.slots) :
    ∃ (T' : State) (h' : Heap) (locs' : List Loc) (ys : List Value), Stand p l e R s m args below meth c T' locs' (cells + 0) (slots + 0) ∧ T'.heap = h' ∧ Fr n0 locs' ∧ Keep h0 h' [vb] ∧ (Arv Z h' vb kv .byte N ys (.int 0)) ∧ (Old Z n0 h') ∧ ∀ target, Steps p.tables e below (T'.setTop (mkF m 22 #[.val (.int (i / (100 : Int32))), vI idx, vA vb, .val (.int (i / (100 : Int32))), .val (.int (((i / (100 : Int32)) * (100 : Int32)) - i)), .val (.int ((cq + (-1 : Int32)) + (-1 : Int32))), vI 0] [])) target → Steps p.tables e below (T.setTop (mkF m 22 #[vI i, vI idx, vA vb, .unset, .unset, vI cq, vI 0] [])) target := by
  have K0 := Keep.refl h0 [vb]
  have lt1 := own_l P3.lt
  obtain ⟨T2, X2, e2, st2⟩ := getS2 X0 hx hZ hown (host := "") (Or.inl (w_188 hw)) Via.refl e0 (P1.ext P0.2) (g := (mkF m 49 #[.val (.int (i / (100 : Int32))), vI idx, vA vb, .val (.int (i / (100 : Int32))), .val (.int (((i / (100 : Int32)) * (100 : Int32)) - i)), .val (.int (cq + (-1 : Int32))), vI 0] [(.int (cq + (-1 : Int32))), (.ref vb)])) rfl (hb hby d262)
  obtain ⟨cl3, y3, Ar3, hin3, hat3⟩ := own_dig (BO.ext P0.2) (r := (((i / (100 : Int32)) * (100 : Int32)) - i)) (own_rr hi)
  obtain ⟨cl4, Ar4, q4, S4, M4, H4, G4⟩ := P3.pad (vs' := xs ++ List.replicate (((cq + (-1 : Int32))).toNatClampNeg + 1) (.int 0)) (pad_rep xs (.int 0) _)
  have hin4 : ¬ ((cq + (-1 : Int32)) < 0 ∨ cl4.slots.size ≤ ((cq + (-1 : Int32))).toNatClampNeg) := inb_of S4 (own_c1 hc)
  obtain ⟨T4, h4, X4, e4, W4, st4⟩ := stB X2 hx hZ e2 Ar4 (j := (cq + (-1 : Int32))) hin4 (g := (mkF m 55 #[.val (.int (i / (100 : Int32))), vI idx, vA vb, .val (.int (i / (100 : Int32))), .val (.int (((i / (100 : Int32)) * (100 : Int32)) - i)), .val (.int (cq + (-1 : Int32))), vI 0] [(.int y3), (.int (cq + (-1 : Int32))), (.ref vb)])) rfl rfl (hb hby d265)
  obtain ⟨ys4, V4⟩ : ∃ ys, Arv Z h4 vb kv .byte N ys (.int 0) := ⟨_, Arv.set Ar4 q4 S4 M4 H4 G4 (fits_nar_byte y3) W4 _ rfl (by first | (simp; done) | (simp; omega))⟩
  have z4 := W4.size
  have K4 := K0.wr W4 (Or.inl (List.mem_of_getElem? (i := 0) rfl))
  have N4 := Fr.snoc X4 N0 (by omega)
  have f6 := P0.wr W4 (by omega)
  obtain ⟨T5, X5, e5, st5⟩ := getS2 X4 hx hZ hown (host := "") (Or.inl (w_213 hw)) Via.refl e4 (P2.ext f6.2) (g := (mkF m 62 #[.val (.int (i / (100 : Int32))), vI idx, vA vb, .val (.int (i / (100 : Int32))), .val (.int (((i / (100 : Int32)) * (100 : Int32)) - i)), .val (.int ((cq + (-1 : Int32)) + (-1 : Int32))), vI 0] [(.int ((cq + (-1 : Int32)) + (-1 : Int32))), (.ref vb)])) rfl (hb hby d269)
  obtain ⟨cl7, y7, Ar7, hin7, hat7⟩ := own_dig (BT.ext f6.2) (r := (((i / (100 : Int32)) * (100 : Int32)) - i)) (own_rr hi)
  obtain ⟨cl8, Ar8, q8, S8, M8, H8, G8⟩ := V4.pad (vs' := ys4 ++ List.replicate ((((cq + (-1 : Int32)) + (-1 : Int32))).toNatClampNeg + 1) (.int 0)) (pad_rep ys4 (.int 0) _)
  have hin8 : ¬ (((cq + (-1 : Int32)) + (-1 : Int32)) < 0 ∨ cl8.slots.size ≤ (((cq + (-1 : Int32)) + (-1 : Int32))).toNatClampNeg) := inb_of S8 (own_c2 hc)
  obtain ⟨T8, h8, X8, e8, W8, st8⟩ := stB X5 hx hZ e5 Ar8 (j := ((cq + (-1 : Int32)) + (-1 : Int32))) hin8 (g := (mkF m 68 #[.val (.int (i / (100 : Int32))), vI idx, vA vb, .val (.int (i / (100 : Int32))), .val (.int (((i / (100 : Int32)) * (100 : Int32)) - i)), .val (.int ((cq + (-1 : Int32)) + (-1 : Int32))), vI 0] [(.int y7), (.int ((cq + (-1 : Int32)) + (-1 : Int32))), (.ref vb)])) rfl rfl (hb hby d272)
  obtain ⟨ys8, V8⟩ : ∃ ys, Arv Z h8 vb kv .byte N ys (.int 0) := ⟨_, Arv.set Ar8 q8 S8 M8 H8 G8 (fits_nar_byte y7) W8 _ rfl (by first | (simp; done) | (simp; omega))⟩
  have z8 := W8.size
  have K8 := K4.wr W8 (Or.inl (List.mem_of_getElem? (i := 0) rfl))
  have N8 := Fr.snoc X8 N4 (by omega)
  have f9 := f6.wr W8 (by omega)
  refine ⟨_, _, _, ys8, X8.more (by omega) (by omega), e8, N8, K8, V8, f9, fun target hk => ?_⟩
  show Steps _ _ _ (T.setTop (mkF m 22 #[vI i, vI idx, vA vb, .unset, .unset, vI cq, vI 0] [])) _
  refine XS.iloadN X0.here hx rfl (hb hby d244) rfl ?_
  show Steps _ _ _ (T.setTop (mkF m 23 #[vI i, vI idx, vA vb, .unset, .unset, vI cq, vI 0] [(.int i)])) _
  refine XS.bipush X0.here hx rfl (hb hby d245) ?_
  show Steps _ _ _ (T.setTop (mkF m 25 #[vI i, vI idx, vA vb, .unset, .unset, vI cq, vI 0] [(.int (-100)), (.int i)])) _
  refine XS.icmpNo X0.here hx rfl (hb hby d246) rfl (flt (hi : ¬ ((-100 : Int32) < i))).2.2.1 ?_
  show Steps _ _ _ (T.setTop (mkF m 28 #[vI i, vI idx, vA vb, .unset, .unset, vI cq, vI 0] [])) _
  refine XS.iloadN X0.here hx rfl (hb hby d247) rfl ?_
  show Steps _ _ _ (T.setTop (mkF m 29 #[vI i, vI idx, vA vb, .unset, .unset, vI cq, vI 0] [(.int i)])) _
  refine XS.bipush X0.here hx rfl (hb hby d248) ?_
  show Steps _ _ _ (T.setTop (mkF m 31 #[vI i, vI idx, vA vb, .unset, .unset, vI cq, vI 0] [(.int 100), (.int i)])) _
  refine XS.idiv X0.here hx rfl (hb hby d249) rfl (by decide) ?_
  show Steps _ _ _ (T.setTop (mkF m 32 #[vI i, vI idx, vA vb, .unset, .unset, vI cq, vI 0] [(.int (i / (100 : Int32)))])) _
  refine XS.istoreN X0.here hx rfl (hb hby d250) rfl (l' := #[vI i, vI idx, vA vb, .val (.int (i / (100 : Int32))), .unset, vI cq, vI 0]) rfl ?_
  show Steps _ _ _ (T.setTop (mkF m 33 #[vI i, vI idx, vA vb, .val (.int (i / (100 : Int32))), .unset, vI cq, vI 0] [])) _
  refine XS.iloadN X0.here hx rfl (hb hby d251) rfl ?_
  show Steps _ _ _ (T.setTop (mkF m 34 #[vI i, vI idx, vA vb, .val (.int (i / (100 : Int32))), .unset, vI cq, vI 0] [(.int (i / (100 : Int32)))])) _
  refine XS.bipush X0.here hx rfl (hb hby d252) ?_
  show Steps _ _ _ (T.setTop (mkF m 36 #[vI i, vI idx, vA vb, .val (.int (i / (100 : Int32))), .unset, vI cq, vI 0] [(.int 100), (.int (i / (100 : Int32)))])) _
  refine XS.imul X0.here hx rfl (hb hby d253) rfl ?_
  show Steps _ _ _ (T.setTop (mkF m 37 #[vI i, vI idx, vA vb, .val (.int (i / (100 : Int32))), .unset, vI cq, vI 0] [(.int ((i / (100 : Int32)) * (100 : Int32)))])) _
  refine XS.iloadN X0.here hx rfl (hb hby d254) rfl ?_
  show Steps _ _ _ (T.setTop (mkF m 38 #[vI i, vI idx, vA vb, .val (.int (i / (100 : Int32))), .unset, vI cq, vI 0] [(.int i), (.int ((i / (100 : Int32)) * (100 : Int32)))])) _
  refine XS.isub X0.here hx rfl (hb hby d255) rfl ?_
  show Steps _ _ _ (T.setTop (mkF m 39 #[vI i, vI idx, vA vb, .val (.int (i / (100 : Int32))), .unset, vI cq, vI 0] [(.int (((i / (100 : Int32)) * (100 : Int32)) - i))])) _
  refine XS.istore X0.here hx rfl (hb hby d256) rfl (l' := #[vI i, vI idx, vA vb, .val (.int (i / (100 : Int32))), .val (.int (((i / (100 : Int32)) * (100 : Int32)) - i)), vI cq, vI 0]) rfl ?_
  show Steps _ _ _ (T.setTop (mkF m 41 #[vI i, vI idx, vA vb, .val (.int (i / (100 : Int32))), .val (.int (((i / (100 : Int32)) * (100 : Int32)) - i)), vI cq, vI 0] [])) _
  refine XS.iloadN X0.here hx rfl (hb hby d257) rfl ?_
  show Steps _ _ _ (T.setTop (mkF m 42 #[vI i, vI idx, vA vb, .val (.int (i / (100 : Int32))), .val (.int (((i / (100 : Int32)) * (100 : Int32)) - i)), vI cq, vI 0] [(.int (i / (100 : Int32)))])) _
  refine XS.istoreN X0.here hx rfl (hb hby d258) rfl (l' := #[.val (.int (i / (100 : Int32))), vI idx, vA vb, .val (.int (i / (100 : Int32))), .val (.int (((i / (100 : Int32)) * (100 : Int32)) - i)), vI cq, vI 0]) rfl ?_
  show Steps _ _ _ (T.setTop (mkF m 43 #[.val (.int (i / (100 : Int32))), vI idx, vA vb, .val (.int (i / (100 : Int32))), .val (.int (((i / (100 : Int32)) * (100 : Int32)) - i)), vI cq, vI 0] [])) _
  refine XS.aloadN X0.here hx rfl (hb hby d259) rfl rfl ?_
  show Steps _ _ _ (T.setTop (mkF m 44 #[.val (.int (i / (100 : Int32))), vI idx, vA vb, .val (.int (i / (100 : Int32))), .val (.int (((i / (100 : Int32)) * (100 : Int32)) - i)), vI cq, vI 0] [(.ref vb)])) _
  refine XS.iinc X0.here hx rfl (hb hby d260) rfl (l' := #[.val (.int (i / (100 : Int32))), vI idx, vA vb, .val (.int (i / (100 : Int32))), .val (.int (((i / (100 : Int32)) * (100 : Int32)) - i)), .val (.int (cq + (-1 : Int32))), vI 0]) rfl ?_
  show Steps _ _ _ (T.setTop (mkF m 47 #[.val (.int (i / (100 : Int32))), vI idx, vA vb, .val (.int (i / (100 : Int32))), .val (.int (((i / (100 : Int32)) * (100 : Int32)) - i)), .val (.int (cq + (-1 : Int32))), vI 0] [(.ref vb)])) _
  refine XS.iload X0.here hx rfl (hb hby d261) rfl ?_
  show Steps _ _ _ (T.setTop (mkF m 49 #[.val (.int (i / (100 : Int32))), vI idx, vA vb, .val (.int (i / (100 : Int32))), .val (.int (((i / (100 : Int32)) * (100 : Int32)) - i)), .val (.int (cq + (-1 : Int32))), vI 0] [(.int (cq + (-1 : Int32))), (.ref vb)])) _
  refine st2 _ ?_
  show Steps _ _ _ (T2.setTop (mkF m 52 #[.val (.int (i / (100 : Int32))), vI idx, vA vb, .val (.int (i / (100 : Int32))), .val (.int (((i / (100 : Int32)) * (100 : Int32)) - i)), .val (.int (cq + (-1 : Int32))), vI 0] [(.ref od), (.int (cq + (-1 : Int32))), (.ref vb)])) _
  refine XS.iload X2.here hx rfl (hb hby d263) rfl ?_
  show Steps _ _ _ (T2.setTop (mkF m 54 #[.val (.int (i / (100 : Int32))), vI idx, vA vb, .val (.int (i / (100 : Int32))), .val (.int (((i / (100 : Int32)) * (100 : Int32)) - i)), .val (.int (cq + (-1 : Int32))), vI 0] [(.int (((i / (100 : Int32)) * (100 : Int32)) - i)), (.ref od), (.int (cq + (-1 : Int32))), (.ref vb)])) _
  refine X2.baloadBytes hx (j := (((i / (100 : Int32)) * (100 : Int32)) - i)) (v := (.int y3)) (by rw [e2]; exact Ar3.1) (State.isArrayOf_alike hZ.alike Ar3.2.1) Ar3.2.2 hin3 hat3 (g := (mkF m 54 #[.val (.int (i / (100 : Int32))), vI idx, vA vb, .val (.int (i / (100 : Int32))), .val (.int (((i / (100 : Int32)) * (100 : Int32)) - i)), .val (.int (cq + (-1 : Int32))), vI 0] [(.int (((i / (100 : Int32)) * (100 : Int32)) - i)), (.ref od), (.int (cq + (-1 : Int32))), (.ref vb)])) rfl rfl (hb hby d264) _ ?_
  show Steps _ _ _ (T2.setTop (mkF m 55 #[.val (.int (i / (100 : Int32))), vI idx, vA vb, .val (.int (i / (100 : Int32))), .val (.int (((i / (100 : Int32)) * (100 : Int32)) - i)), .val (.int (cq + (-1 : Int32))), vI 0] [(.int y3), (.int (cq + (-1 : Int32))), (.ref vb)])) _
  refine st4 _ ?_
  show Steps _ _ _ (T4.setTop (mkF m 56 #[.val (.int (i / (100 : Int32))), vI idx, vA vb, .val (.int (i / (100 : Int32))), .val (.int (((i / (100 : Int32)) * (100 : Int32)) - i)), .val (.int (cq + (-1 : Int32))), vI 0] [])) _
  refine XS.aloadN X4.here hx rfl (hb hby d266) rfl rfl ?_
  show Steps _ _ _ (T4.setTop (mkF m 57 #[.val (.int (i / (100 : Int32))), vI idx, vA vb, .val (.int (i / (100 : Int32))), .val (.int (((i / (100 : Int32)) * (100 : Int32)) - i)), .val (.int (cq + (-1 : Int32))), vI 0] [(.ref vb)])) _
  refine XS.iinc X4.here hx rfl (hb hby d267) rfl (l' := #[.val (.int (i / (100 : Int32))), vI idx, vA vb, .val (.int (i / (100 : Int32))), .val (.int (((i / (100 : Int32)) * (100 : Int32)) - i)), .val (.int ((cq + (-1 : Int32)) + (-1 : Int32))), vI 0]) rfl ?_
  show Steps _ _ _ (T4.setTop (mkF m 60 #[.val (.int (i / (100 : Int32))), vI idx, vA vb, .val (.int (i / (100 : Int32))), .val (.int (((i / (100 : Int32)) * (100 : Int32)) - i)), .val (.int ((cq + (-1 : Int32)) + (-1 : Int32))), vI 0] [(.ref vb)])) _
  refine XS.iload X4.here hx rfl (hb hby d268) rfl ?_
  show Steps _ _ _ (T4.setTop (mkF m 62 #[.val (.int (i / (100 : Int32))), vI idx, vA vb, .val (.int (i / (100 : Int32))), .val (.int (((i / (100 : Int32)) * (100 : Int32)) - i)), .val (.int ((cq + (-1 : Int32)) + (-1 : Int32))), vI 0] [(.int ((cq + (-1 : Int32)) + (-1 : Int32))), (.ref vb)])) _
  refine st5 _ ?_
  show Steps _ _ _ (T5.setTop (mkF m 65 #[.val (.int (i / (100 : Int32))), vI idx, vA vb, .val (.int (i / (100 : Int32))), .val (.int (((i / (100 : Int32)) * (100 : Int32)) - i)), .val (.int ((cq + (-1 : Int32)) + (-1 : Int32))), vI 0] [(.ref ot), (.int ((cq + (-1 : Int32)) + (-1 : Int32))), (.ref vb)])) _
  refine XS.iload X5.here hx rfl (hb hby d270) rfl ?_
  show Steps _ _ _ (T5.setTop (mkF m 67 #[.val (.int (i / (100 : Int32))), vI idx, vA vb, .val (.int (i / (100 : Int32))), .val (.int (((i / (100 : Int32)) * (100 : Int32)) - i)), .val (.int ((cq + (-1 : Int32)) + (-1 : Int32))), vI 0] [(.int (((i / (100 : Int32)) * (100 : Int32)) - i)), (.ref ot), (.int ((cq + (-1 : Int32)) + (-1 : Int32))), (.ref vb)])) _
  refine X5.baloadBytes hx (j := (((i / (100 : Int32)) * (100 : Int32)) - i)) (v := (.int y7)) (by rw [e5]; exact Ar7.1) (State.isArrayOf_alike hZ.alike Ar7.2.1) Ar7.2.2 hin7 hat7 (g := (mkF m 67 #[.val (.int (i / (100 : Int32))), vI idx, vA vb, .val (.int (i / (100 : Int32))), .val (.int (((i / (100 : Int32)) * (100 : Int32)) - i)), .val (.int ((cq + (-1 : Int32)) + (-1 : Int32))), vI 0] [(.int (((i / (100 : Int32)) * (100 : Int32)) - i)), (.ref ot), (.int ((cq + (-1 : Int32)) + (-1 : Int32))), (.ref vb)])) rfl rfl (hb hby d271) _ ?_
  show Steps _ _ _ (T5.setTop (mkF m 68 #[.val (.int (i / (100 : Int32))), vI idx, vA vb, .val (.int (i / (100 : Int32))), .val (.int (((i / (100 : Int32)) * (100 : Int32)) - i)), .val (.int ((cq + (-1 : Int32)) + (-1 : Int32))), vI 0] [(.int y7), (.int ((cq + (-1 : Int32)) + (-1 : Int32))), (.ref vb)])) _
  refine st8 _ ?_
  show Steps _ _ _ (T8.setTop (mkF m 69 #[.val (.int (i / (100 : Int32))), vI idx, vA vb, .val (.int (i / (100 : Int32))), .val (.int (((i / (100 : Int32)) * (100 : Int32)) - i)), .val (.int ((cq + (-1 : Int32)) + (-1 : Int32))), vI 0] [])) _
  refine XS.goto X8.here hx rfl (pc0 := 69) (pc' := 22) rfl (hb hby d273) (by decide) (by decide) ?_
  show Steps _ _ _ (T8.setTop (mkF m 22 #[.val (.int (i / (100 : Int32))), vI idx, vA vb, .val (.int (i / (100 : Int32))), .val (.int (((i / (100 : Int32)) * (100 : Int32)) - i)), .val (.int ((cq + (-1 : Int32)) + (-1 : Int32))), vI 0] [])) _
  exact hk
theorem pz_gtv {p : Program} {l : Launch} {e : Env} {R : Room} {s : State} {m : MethodId} {args : Array Value} {below : List Frame} {meth : Method} {c : Code} {T : State} {locs : List Loc} {cells slots : Nat} {Z : State} {a0 : Array Value} (X0 : Stand p l e R s m args below meth c T locs cells slots) (hx : p.tables.exec = Jvm.exec) (hw : HW Z a0) (hZ : Z.Warmed39 s.vm) (hown : s.vm.findClass "java/lang/Integer" = some m.cls) (hby : c.code = jdk_33_method_12_code) (hml : c.maxLocals = 7) (i : Int32) (idx : Int32) (vb : Addr) (kv : ClassId) (N : Int32) (xs : List Value) (cq : Int32) (od : Addr) (ko : ClassId) (vo : List Value) (ot : Addr) (kt2 : ClassId) (vt : List Value) (w3 : Int32) (w4 : Int32) {h0 : Heap} {n0 : Nat} (e0 : T.heap = h0) (N0 : Fr n0 locs) (Z0 : n0 ≤ h0.size) (P0 : Old Z n0 h0) (P1 : Sta Z Z.heap "java/lang/Integer" "DigitOnes" "[B" (.ref od)) (P2 : Sta Z Z.heap "java/lang/Integer" "DigitTens" "[B" (.ref ot)) (P3 : Arv Z h0 vb kv .byte N xs (.int 0)) (P4 : n0 ≤ vb) (BO : Arv Z Z.heap od ko .byte (100 : Int32) vo (.int 0)) (BT : Arv Z Z.heap ot kt2 .byte (100 : Int32) vt (.int 0)) (hc : oC2 cq N) (hi : ¬ ((-100 : Int32) < i)) (hFr : 0 ≤ R.frames) (hLo : 0 ≤ R.locals) (hCe : cells + 0 ≤ R.cells) (hSl : slots + 0 ≤ R.slots) :
    ∃ (T' : State) (h' : Heap) (locs' : List Loc) (ys : List Value), Stand p l e R s m args below meth c T' locs' (cells + 0) (slots + 0) ∧ T'.heap = h' ∧ Fr n0 locs' ∧ Keep h0 h' [vb] ∧ (Arv Z h' vb kv .byte N ys (.int 0)) ∧ (Old Z n0 h') ∧ ∀ target, Steps p.tables e below (T'.setTop (mkF m 22 #[.val (.int (i / (100 : Int32))), vI idx, vA vb, .val (.int (i / (100 : Int32))), .val (.int (((i / (100 : Int32)) * (100 : Int32)) - i)), .val (.int ((cq + (-1 : Int32)) + (-1 : Int32))), vI 0] [])) target → Steps p.tables e below (T.setTop (mkF m 22 #[vI i, vI idx, vA vb, vI w3, vI w4, vI cq, vI 0] [])) target := by
  have K0 := Keep.refl h0 [vb]
  have lt1 := own_l P3.lt
  obtain ⟨T2, X2, e2, st2⟩ := getS2 X0 hx hZ hown (host := "") (Or.inl (w_188 hw)) Via.refl e0 (P1.ext P0.2) (g := (mkF m 49 #[.val (.int (i / (100 : Int32))), vI idx, vA vb, .val (.int (i / (100 : Int32))), .val (.int (((i / (100 : Int32)) * (100 : Int32)) - i)), .val (.int (cq + (-1 : Int32))), vI 0] [(.int (cq + (-1 : Int32))), (.ref vb)])) rfl (hb hby d262)
  obtain ⟨cl3, y3, Ar3, hin3, hat3⟩ := own_dig (BO.ext P0.2) (r := (((i / (100 : Int32)) * (100 : Int32)) - i)) (own_rr hi)
  obtain ⟨cl4, Ar4, q4, S4, M4, H4, G4⟩ := P3.pad (vs' := xs ++ List.replicate (((cq + (-1 : Int32))).toNatClampNeg + 1) (.int 0)) (pad_rep xs (.int 0) _)
  have hin4 : ¬ ((cq + (-1 : Int32)) < 0 ∨ cl4.slots.size ≤ ((cq + (-1 : Int32))).toNatClampNeg) := inb_of S4 (own_c1 hc)
  obtain ⟨T4, h4, X4, e4, W4, st4⟩ := stB X2 hx hZ e2 Ar4 (j := (cq + (-1 : Int32))) hin4 (g := (mkF m 55 #[.val (.int (i / (100 : Int32))), vI idx, vA vb, .val (.int (i / (100 : Int32))), .val (.int (((i / (100 : Int32)) * (100 : Int32)) - i)), .val (.int (cq + (-1 : Int32))), vI 0] [(.int y3), (.int (cq + (-1 : Int32))), (.ref vb)])) rfl rfl (hb hby d265)
  obtain ⟨ys4, V4⟩ : ∃ ys, Arv Z h4 vb kv .byte N ys (.int 0) := ⟨_, Arv.set Ar4 q4 S4 M4 H4 G4 (fits_nar_byte y3) W4 _ rfl (by first | (simp; done) | (simp; omega))⟩
  have z4 := W4.size
  have K4 := K0.wr W4 (Or.inl (List.mem_of_getElem? (i := 0) rfl))
  have N4 := Fr.snoc X4 N0 (by omega)
  have f6 := P0.wr W4 (by omega)
  obtain ⟨T5, X5, e5, st5⟩ := getS2 X4 hx hZ hown (host := "") (Or.inl (w_213 hw)) Via.refl e4 (P2.ext f6.2) (g := (mkF m 62 #[.val (.int (i / (100 : Int32))), vI idx, vA vb, .val (.int (i / (100 : Int32))), .val (.int (((i / (100 : Int32)) * (100 : Int32)) - i)), .val (.int ((cq + (-1 : Int32)) + (-1 : Int32))), vI 0] [(.int ((cq + (-1 : Int32)) + (-1 : Int32))), (.ref vb)])) rfl (hb hby d269)
  obtain ⟨cl7, y7, Ar7, hin7, hat7⟩ := own_dig (BT.ext f6.2) (r := (((i / (100 : Int32)) * (100 : Int32)) - i)) (own_rr hi)
  obtain ⟨cl8, Ar8, q8, S8, M8, H8, G8⟩ := V4.pad (vs' := ys4 ++ List.replicate ((((cq + (-1 : Int32)) + (-1 : Int32))).toNatClampNeg + 1) (.int 0)) (pad_rep ys4 (.int 0) _)
  have hin8 : ¬ (((cq + (-1 : Int32)) + (-1 : Int32)) < 0 ∨ cl8.slots.size ≤ (((cq + (-1 : Int32)) + (-1 : Int32))).toNatClampNeg) := inb_of S8 (own_c2 hc)
  obtain ⟨T8, h8, X8, e8, W8, st8⟩ := stB X5 hx hZ e5 Ar8 (j := ((cq + (-1 : Int32)) + (-1 : Int32))) hin8 (g := (mkF m 68 #[.val (.int (i / (100 : Int32))), vI idx, vA vb, .val (.int (i / (100 : Int32))), .val (.int (((i / (100 : Int32)) * (100 : Int32)) - i)), .val (.int ((cq + (-1 : Int32)) + (-1 : Int32))), vI 0] [(.int y7), (.int ((cq + (-1 : Int32)) + (-1 : Int32))), (.ref vb)])) rfl rfl (hb hby d272)
  obtain ⟨ys8, V8⟩ : ∃ ys, Arv Z h8 vb kv .byte N ys (.int 0) := ⟨_, Arv.set Ar8 q8 S8 M8 H8 G8 (fits_nar_byte y7) W8 _ rfl (by first | (simp; done) | (simp; omega))⟩
  have z8 := W8.size
  have K8 := K4.wr W8 (Or.inl (List.mem_of_getElem? (i := 0) rfl))
  have N8 := Fr.snoc X8 N4 (by omega)
  have f9 := f6.wr W8 (by omega)
  refine ⟨_, _, _, ys8, X8.more (by omega) (by omega), e8, N8, K8, V8, f9, fun target hk => ?_⟩
  show Steps _ _ _ (T.setTop (mkF m 22 #[vI i, vI idx, vA vb, vI w3, vI w4, vI cq, vI 0] [])) _
  refine XS.iloadN X0.here hx rfl (hb hby d244) rfl ?_
  show Steps _ _ _ (T.setTop (mkF m 23 #[vI i, vI idx, vA vb, vI w3, vI w4, vI cq, vI 0] [(.int i)])) _
  refine XS.bipush X0.here hx rfl (hb hby d245) ?_
  show Steps _ _ _ (T.setTop (mkF m 25 #[vI i, vI idx, vA vb, vI w3, vI w4, vI cq, vI 0] [(.int (-100)), (.int i)])) _
  refine XS.icmpNo X0.here hx rfl (hb hby d246) rfl (flt (hi : ¬ ((-100 : Int32) < i))).2.2.1 ?_
  show Steps _ _ _ (T.setTop (mkF m 28 #[vI i, vI idx, vA vb, vI w3, vI w4, vI cq, vI 0] [])) _
  refine XS.iloadN X0.here hx rfl (hb hby d247) rfl ?_
  show Steps _ _ _ (T.setTop (mkF m 29 #[vI i, vI idx, vA vb, vI w3, vI w4, vI cq, vI 0] [(.int i)])) _
  refine XS.bipush X0.here hx rfl (hb hby d248) ?_
  show Steps _ _ _ (T.setTop (mkF m 31 #[vI i, vI idx, vA vb, vI w3, vI w4, vI cq, vI 0] [(.int 100), (.int i)])) _
  refine XS.idiv X0.here hx rfl (hb hby d249) rfl (by decide) ?_
  show Steps _ _ _ (T.setTop (mkF m 32 #[vI i, vI idx, vA vb, vI w3, vI w4, vI cq, vI 0] [(.int (i / (100 : Int32)))])) _
  refine XS.istoreN X0.here hx rfl (hb hby d250) rfl (l' := #[vI i, vI idx, vA vb, .val (.int (i / (100 : Int32))), vI w4, vI cq, vI 0]) rfl ?_
  show Steps _ _ _ (T.setTop (mkF m 33 #[vI i, vI idx, vA vb, .val (.int (i / (100 : Int32))), vI w4, vI cq, vI 0] [])) _
  refine XS.iloadN X0.here hx rfl (hb hby d251) rfl ?_
  show Steps _ _ _ (T.setTop (mkF m 34 #[vI i, vI idx, vA vb, .val (.int (i / (100 : Int32))), vI w4, vI cq, vI 0] [(.int (i / (100 : Int32)))])) _
  refine XS.bipush X0.here hx rfl (hb hby d252) ?_
  show Steps _ _ _ (T.setTop (mkF m 36 #[vI i, vI idx, vA vb, .val (.int (i / (100 : Int32))), vI w4, vI cq, vI 0] [(.int 100), (.int (i / (100 : Int32)))])) _
  refine XS.imul X0.here hx rfl (hb hby d253) rfl ?_
  show Steps _ _ _ (T.setTop (mkF m 37 #[vI i, vI idx, vA vb, .val (.int (i / (100 : Int32))), vI w4, vI cq, vI 0] [(.int ((i / (100 : Int32)) * (100 : Int32)))])) _
  refine XS.iloadN X0.here hx rfl (hb hby d254) rfl ?_
  show Steps _ _ _ (T.setTop (mkF m 38 #[vI i, vI idx, vA vb, .val (.int (i / (100 : Int32))), vI w4, vI cq, vI 0] [(.int i), (.int ((i / (100 : Int32)) * (100 : Int32)))])) _
  refine XS.isub X0.here hx rfl (hb hby d255) rfl ?_
  show Steps _ _ _ (T.setTop (mkF m 39 #[vI i, vI idx, vA vb, .val (.int (i / (100 : Int32))), vI w4, vI cq, vI 0] [(.int (((i / (100 : Int32)) * (100 : Int32)) - i))])) _
  refine XS.istore X0.here hx rfl (hb hby d256) rfl (l' := #[vI i, vI idx, vA vb, .val (.int (i / (100 : Int32))), .val (.int (((i / (100 : Int32)) * (100 : Int32)) - i)), vI cq, vI 0]) rfl ?_
  show Steps _ _ _ (T.setTop (mkF m 41 #[vI i, vI idx, vA vb, .val (.int (i / (100 : Int32))), .val (.int (((i / (100 : Int32)) * (100 : Int32)) - i)), vI cq, vI 0] [])) _
  refine XS.iloadN X0.here hx rfl (hb hby d257) rfl ?_
  show Steps _ _ _ (T.setTop (mkF m 42 #[vI i, vI idx, vA vb, .val (.int (i / (100 : Int32))), .val (.int (((i / (100 : Int32)) * (100 : Int32)) - i)), vI cq, vI 0] [(.int (i / (100 : Int32)))])) _
  refine XS.istoreN X0.here hx rfl (hb hby d258) rfl (l' := #[.val (.int (i / (100 : Int32))), vI idx, vA vb, .val (.int (i / (100 : Int32))), .val (.int (((i / (100 : Int32)) * (100 : Int32)) - i)), vI cq, vI 0]) rfl ?_
  show Steps _ _ _ (T.setTop (mkF m 43 #[.val (.int (i / (100 : Int32))), vI idx, vA vb, .val (.int (i / (100 : Int32))), .val (.int (((i / (100 : Int32)) * (100 : Int32)) - i)), vI cq, vI 0] [])) _
  refine XS.aloadN X0.here hx rfl (hb hby d259) rfl rfl ?_
  show Steps _ _ _ (T.setTop (mkF m 44 #[.val (.int (i / (100 : Int32))), vI idx, vA vb, .val (.int (i / (100 : Int32))), .val (.int (((i / (100 : Int32)) * (100 : Int32)) - i)), vI cq, vI 0] [(.ref vb)])) _
  refine XS.iinc X0.here hx rfl (hb hby d260) rfl (l' := #[.val (.int (i / (100 : Int32))), vI idx, vA vb, .val (.int (i / (100 : Int32))), .val (.int (((i / (100 : Int32)) * (100 : Int32)) - i)), .val (.int (cq + (-1 : Int32))), vI 0]) rfl ?_
  show Steps _ _ _ (T.setTop (mkF m 47 #[.val (.int (i / (100 : Int32))), vI idx, vA vb, .val (.int (i / (100 : Int32))), .val (.int (((i / (100 : Int32)) * (100 : Int32)) - i)), .val (.int (cq + (-1 : Int32))), vI 0] [(.ref vb)])) _
  refine XS.iload X0.here hx rfl (hb hby d261) rfl ?_
  show Steps _ _ _ (T.setTop (mkF m 49 #[.val (.int (i / (100 : Int32))), vI idx, vA vb, .val (.int (i / (100 : Int32))), .val (.int (((i / (100 : Int32)) * (100 : Int32)) - i)), .val (.int (cq + (-1 : Int32))), vI 0] [(.int (cq + (-1 : Int32))), (.ref vb)])) _
  refine st2 _ ?_
  show Steps _ _ _ (T2.setTop (mkF m 52 #[.val (.int (i / (100 : Int32))), vI idx, vA vb, .val (.int (i / (100 : Int32))), .val (.int (((i / (100 : Int32)) * (100 : Int32)) - i)), .val (.int (cq + (-1 : Int32))), vI 0] [(.ref od), (.int (cq + (-1 : Int32))), (.ref vb)])) _
  refine XS.iload X2.here hx rfl (hb hby d263) rfl ?_
  show Steps _ _ _ (T2.setTop (mkF m 54 #[.val (.int (i / (100 : Int32))), vI idx, vA vb, .val (.int (i / (100 : Int32))), .val (.int (((i / (100 : Int32)) * (100 : Int32)) - i)), .val (.int (cq + (-1 : Int32))), vI 0] [(.int (((i / (100 : Int32)) * (100 : Int32)) - i)), (.ref od), (.int (cq + (-1 : Int32))), (.ref vb)])) _
  refine X2.baloadBytes hx (j := (((i / (100 : Int32)) * (100 : Int32)) - i)) (v := (.int y3)) (by rw [e2]; exact Ar3.1) (State.isArrayOf_alike hZ.alike Ar3.2.1) Ar3.2.2 hin3 hat3 (g := (mkF m 54 #[.val (.int (i / (100 : Int32))), vI idx, vA vb, .val (.int (i / (100 : Int32))), .val (.int (((i / (100 : Int32)) * (100 : Int32)) - i)), .val (.int (cq + (-1 : Int32))), vI 0] [(.int (((i / (100 : Int32)) * (100 : Int32)) - i)), (.ref od), (.int (cq + (-1 : Int32))), (.ref vb)])) rfl rfl (hb hby d264) _ ?_
  show Steps _ _ _ (T2.setTop (mkF m 55 #[.val (.int (i / (100 : Int32))), vI idx, vA vb, .val (.int (i / (100 : Int32))), .val (.int (((i / (100 : Int32)) * (100 : Int32)) - i)), .val (.int (cq + (-1 : Int32))), vI 0] [(.int y3), (.int (cq + (-1 : Int32))), (.ref vb)])) _
  refine st4 _ ?_
  show Steps _ _ _ (T4.setTop (mkF m 56 #[.val (.int (i / (100 : Int32))), vI idx, vA vb, .val (.int (i / (100 : Int32))), .val (.int (((i / (100 : Int32)) * (100 : Int32)) - i)), .val (.int (cq + (-1 : Int32))), vI 0] [])) _
  refine XS.aloadN X4.here hx rfl (hb hby d266) rfl rfl ?_
  show Steps _ _ _ (T4.setTop (mkF m 57 #[.val (.int (i / (100 : Int32))), vI idx, vA vb, .val (.int (i / (100 : Int32))), .val (.int (((i / (100 : Int32)) * (100 : Int32)) - i)), .val (.int (cq + (-1 : Int32))), vI 0] [(.ref vb)])) _
  refine XS.iinc X4.here hx rfl (hb hby d267) rfl (l' := #[.val (.int (i / (100 : Int32))), vI idx, vA vb, .val (.int (i / (100 : Int32))), .val (.int (((i / (100 : Int32)) * (100 : Int32)) - i)), .val (.int ((cq + (-1 : Int32)) + (-1 : Int32))), vI 0]) rfl ?_
  show Steps _ _ _ (T4.setTop (mkF m 60 #[.val (.int (i / (100 : Int32))), vI idx, vA vb, .val (.int (i / (100 : Int32))), .val (.int (((i / (100 : Int32)) * (100 : Int32)) - i)), .val (.int ((cq + (-1 : Int32)) + (-1 : Int32))), vI 0] [(.ref vb)])) _
  refine XS.iload X4.here hx rfl (hb hby d268) rfl ?_
  show Steps _ _ _ (T4.setTop (mkF m 62 #[.val (.int (i / (100 : Int32))), vI idx, vA vb, .val (.int (i / (100 : Int32))), .val (.int (((i / (100 : Int32)) * (100 : Int32)) - i)), .val (.int ((cq + (-1 : Int32)) + (-1 : Int32))), vI 0] [(.int ((cq + (-1 : Int32)) + (-1 : Int32))), (.ref vb)])) _
  refine st5 _ ?_
  show Steps _ _ _ (T5.setTop (mkF m 65 #[.val (.int (i / (100 : Int32))), vI idx, vA vb, .val (.int (i / (100 : Int32))), .val (.int (((i / (100 : Int32)) * (100 : Int32)) - i)), .val (.int ((cq + (-1 : Int32)) + (-1 : Int32))), vI 0] [(.ref ot), (.int ((cq + (-1 : Int32)) + (-1 : Int32))), (.ref vb)])) _
  refine XS.iload X5.here hx rfl (hb hby d270) rfl ?_
  show Steps _ _ _ (T5.setTop (mkF m 67 #[.val (.int (i / (100 : Int32))), vI idx, vA vb, .val (.int (i / (100 : Int32))), .val (.int (((i / (100 : Int32)) * (100 : Int32)) - i)), .val (.int ((cq + (-1 : Int32)) + (-1 : Int32))), vI 0] [(.int (((i / (100 : Int32)) * (100 : Int32)) - i)), (.ref ot), (.int ((cq + (-1 : Int32)) + (-1 : Int32))), (.ref vb)])) _
  refine X5.baloadBytes hx (j := (((i / (100 : Int32)) * (100 : Int32)) - i)) (v := (.int y7)) (by rw [e5]; exact Ar7.1) (State.isArrayOf_alike hZ.alike Ar7.2.1) Ar7.2.2 hin7 hat7 (g := (mkF m 67 #[.val (.int (i / (100 : Int32))), vI idx, vA vb, .val (.int (i / (100 : Int32))), .val (.int (((i / (100 : Int32)) * (100 : Int32)) - i)), .val (.int ((cq + (-1 : Int32)) + (-1 : Int32))), vI 0] [(.int (((i / (100 : Int32)) * (100 : Int32)) - i)), (.ref ot), (.int ((cq + (-1 : Int32)) + (-1 : Int32))), (.ref vb)])) rfl rfl (hb hby d271) _ ?_
  show Steps _ _ _ (T5.setTop (mkF m 68 #[.val (.int (i / (100 : Int32))), vI idx, vA vb, .val (.int (i / (100 : Int32))), .val (.int (((i / (100 : Int32)) * (100 : Int32)) - i)), .val (.int ((cq + (-1 : Int32)) + (-1 : Int32))), vI 0] [(.int y7), (.int ((cq + (-1 : Int32)) + (-1 : Int32))), (.ref vb)])) _
  refine st8 _ ?_
  show Steps _ _ _ (T8.setTop (mkF m 69 #[.val (.int (i / (100 : Int32))), vI idx, vA vb, .val (.int (i / (100 : Int32))), .val (.int (((i / (100 : Int32)) * (100 : Int32)) - i)), .val (.int ((cq + (-1 : Int32)) + (-1 : Int32))), vI 0] [])) _
  refine XS.goto X8.here hx rfl (pc0 := 69) (pc' := 22) rfl (hb hby d273) (by decide) (by decide) ?_
  show Steps _ _ _ (T8.setTop (mkF m 22 #[.val (.int (i / (100 : Int32))), vI idx, vA vb, .val (.int (i / (100 : Int32))), .val (.int (((i / (100 : Int32)) * (100 : Int32)) - i)), .val (.int ((cq + (-1 : Int32)) + (-1 : Int32))), vI 0] [])) _
  exact hk
def oPw : Nat → Int
  | 0 => 100
  | n + 1 => 100 * oPw n
theorem own_z0 {i : Int32} (h : -(oPw 0) < i.toInt) : -100 < i.toInt := h
theorem own_l0 {i : Int32} (h : -100 < i.toInt) : (-100 : Int32) < i := by rw [own_lt, own_km100]; exact h
theorem own_l1 {i : Int32} (h : (-100 : Int32) < i) : -100 < i.toInt := by rw [own_lt, own_km100] at h; exact h
theorem own_l2 {n : Nat} {i : Int32} (h : -(oPw (n + 1)) < i.toInt) (q : ¬ ((-100 : Int32) < i)) : -(oPw n) < (i / (100 : Int32)).toInt ∧ (i / (100 : Int32)).toInt ≤ 0 := by
  rw [own_lt, own_km100] at q
  have d := own_dv (i := i) (by omega)
  have e : oPw (n + 1) = 100 * oPw n := rfl
  rw [d]
  generalize oPw n = P at e ⊢
  rw [e] at h
  omega
theorem own_l3 {n : Nat} {y N : Int32} (h : 2 * ((n + 1 : Nat) : Int) + 2 ≤ y.toInt ∧ y.toInt ≤ N.toInt ∧ N.toInt ≤ 70) : 2 * (n : Int) + 2 ≤ ((y + (-1 : Int32)) + (-1 : Int32)).toInt ∧ ((y + (-1 : Int32)) + (-1 : Int32)).toInt ≤ N.toInt ∧ N.toInt ≤ 70 := by
  obtain ⟨h1, h2, h3⟩ := h
  have e := own_e1 (y := y) (by omega)
  rw [own_e1 (by omega), e]
  omega
theorem own_l4 {n : Nat} {y N : Int32} (h : 2 * (n : Int) + 2 ≤ y.toInt ∧ y.toInt ≤ N.toInt ∧ N.toInt ≤ 70) : oC2 y N := ⟨by have := h.1; omega, h.2.1, h.2.2⟩
theorem pz_gx {p : Program} {l : Launch} {e : Env} {R : Room} {s : State} {m : MethodId} {args : Array Value} {below : List Frame} {meth : Method} {c : Code} {T : State} {locs : List Loc} {cells slots : Nat} {Z : State} {a0 : Array Value} (X0 : Stand p l e R s m args below meth c T locs cells slots) (hx : p.tables.exec = Jvm.exec) (hw : HW Z a0) (hZ : Z.Warmed39 s.vm) (hown : s.vm.findClass "java/lang/Integer" = some m.cls) (hby : c.code = jdk_33_method_12_code) (hml : c.maxLocals = 7) (i : Int32) (idx : Int32) (vb : Addr) (kv : ClassId) (N : Int32) (xs : List Value) (x3 : Slot) (x4 : Slot) (cq : Int32) (od : Addr) (ko : ClassId) (vo : List Value) (ot : Addr) (kt2 : ClassId) (vt : List Value) {h0 : Heap} {n0 : Nat} (e0 : T.heap = h0) (N0 : Fr n0 locs) (Z0 : n0 ≤ h0.size) (P0 : Old Z n0 h0) (P1 : Sta Z Z.heap "java/lang/Integer" "DigitOnes" "[B" (.ref od)) (P2 : Sta Z Z.heap "java/lang/Integer" "DigitTens" "[B" (.ref ot)) (P3 : Arv Z h0 vb kv .byte N xs (.int 0)) (P4 : n0 ≤ vb) (hi : (-100 : Int32) < i) (hFr : 0 ≤ R.frames) (hLo : 0 ≤ R.locals) (hCe : cells + 0 ≤ R.cells) (hSl : slots + 0 ≤ R.slots) :
    ∃ (T' : State) (h' : Heap) (locs' : List Loc) (ys : List Value), Stand p l e R s m args below meth c T' locs' (cells + 0) (slots + 0) ∧ T'.heap = h' ∧ Fr n0 locs' ∧ Keep h0 h' [vb] ∧ (Arv Z h' vb kv .byte N ys (.int 0)) ∧ (Old Z n0 h') ∧ ∀ target, Steps p.tables e below (T'.setTop (mkF m 72 #[vI i, vI idx, vA vb, x3, x4, vI cq, vI 0] [])) target → Steps p.tables e below (T.setTop (mkF m 22 #[vI i, vI idx, vA vb, x3, x4, vI cq, vI 0] [])) target := by
  have K0 := Keep.refl h0 [vb]
  have lt1 := own_l P3.lt
  refine ⟨_, _, _, xs, X0.more (by omega) (by omega), e0, N0, K0, P3, P0, fun target hk => ?_⟩
  show Steps _ _ _ (T.setTop (mkF m 22 #[vI i, vI idx, vA vb, x3, x4, vI cq, vI 0] [])) _
  refine XS.iloadN X0.here hx rfl (hb hby d244) rfl ?_
  show Steps _ _ _ (T.setTop (mkF m 23 #[vI i, vI idx, vA vb, x3, x4, vI cq, vI 0] [(.int i)])) _
  refine XS.bipush X0.here hx rfl (hb hby d245) ?_
  show Steps _ _ _ (T.setTop (mkF m 25 #[vI i, vI idx, vA vb, x3, x4, vI cq, vI 0] [(.int (-100)), (.int i)])) _
  refine XS.icmpYes X0.here hx rfl (pc0 := 25) (pc' := 72) rfl (hb hby d246) rfl (tlt (hi : (-100 : Int32) < i)).2.2.1 (by decide) (by decide) ?_
  show Steps _ _ _ (T.setTop (mkF m 72 #[vI i, vI idx, vA vb, x3, x4, vI cq, vI 0] [])) _
  exact hk
theorem d274 : decode jdk_33_method_12_code 72 = .ok (.aload_n 2, 1) := by decide +kernel
theorem d275 : decode jdk_33_method_12_code 73 = .ok (.iinc 5 (-1), 3) := by decide +kernel
theorem d276 : decode jdk_33_method_12_code 76 = .ok (.iload 5, 2) := by decide +kernel
theorem d277 : decode jdk_33_method_12_code 78 = .ok (.getstatic 83, 3) := by decide +kernel
theorem d278 : decode jdk_33_method_12_code 81 = .ok (.iload_n 0, 1) := by decide +kernel
theorem d279 : decode jdk_33_method_12_code 82 = .ok (.ineg, 1) := by decide +kernel
theorem d280 : decode jdk_33_method_12_code 83 = .ok (.baload, 1) := by decide +kernel
theorem d281 : decode jdk_33_method_12_code 84 = .ok (.bastore, 1) := by decide +kernel
theorem d282 : decode jdk_33_method_12_code 85 = .ok (.iload_n 0, 1) := by decide +kernel
theorem d283 : decode jdk_33_method_12_code 86 = .ok (.bipush (-9), 2) := by decide +kernel
theorem d284 : decode jdk_33_method_12_code 88 = .ok (.if_icmp .ge 16, 3) := by decide +kernel
theorem pz_ga_0 {p : Program} {l : Launch} {e : Env} {R : Room} {s : State} {m : MethodId} {args : Array Value} {below : List Frame} {meth : Method} {c : Code} {T : State} {locs : List Loc} {cells slots : Nat} {Z : State} {a0 : Array Value} (X0 : Stand p l e R s m args below meth c T locs cells slots) (hx : p.tables.exec = Jvm.exec) (hw : HW Z a0) (hZ : Z.Warmed39 s.vm) (hown : s.vm.findClass "java/lang/Integer" = some m.cls) (hby : c.code = jdk_33_method_12_code) (hml : c.maxLocals = 7) (i : Int32) (idx : Int32) (vb : Addr) (kv : ClassId) (N : Int32) (xs : List Value) (x3 : Slot) (x4 : Slot) (cq : Int32) (od : Addr) (ko : ClassId) (vo : List Value) (ot : Addr) (kt2 : ClassId) (vt : List Value) {h0 : Heap} {n0 : Nat} (e0 : T.heap = h0) (N0 : Fr n0 locs) (Z0 : n0 ≤ h0.size) (P0 : Old Z n0 h0) (P1 : Sta Z Z.heap "java/lang/Integer" "DigitOnes" "[B" (.ref od)) (P2 : Sta Z Z.heap "java/lang/Integer" "DigitTens" "[B" (.ref ot)) (P3 : Arv Z h0 vb kv .byte N xs (.int 0)) (P4 : n0 ≤ vb) (BO : Arv Z Z.heap od ko .byte (100 : Int32) vo (.int 0)) (BT : Arv Z Z.heap ot kt2 .byte (100 : Int32) vt (.int 0)) (hc : oC2 cq N) (hi : oI i) (hc88 : ¬ (i < (-9 : Int32))) (hFr : 0 ≤ R.frames) (hLo : 0 ≤ R.locals) (hCe : cells + 0 ≤ R.cells) (hSl : slots + 0 ≤ R.slots) :
    ∃ (T' : State) (h' : Heap) (locs' : List Loc) (c2 : Int32) (ys : List Value), Stand p l e R s m args below meth c T' locs' (cells + 0) (slots + 0) ∧ T'.heap = h' ∧ Fr n0 locs' ∧ Keep h0 h' [vb] ∧ (Arv Z h' vb kv .byte N ys (.int 0)) ∧ (Old Z n0 h') ∧ ∀ target, Steps p.tables e below (T'.setTop (mkF m 104 #[vI i, vI idx, vA vb, x3, x4, vI c2, vI 0] [])) target → Steps p.tables e below (T.setTop (mkF m 72 #[vI i, vI idx, vA vb, x3, x4, vI cq, vI 0] [])) target := by
  have K0 := Keep.refl h0 [vb]
  have lt1 := own_l P3.lt
  obtain ⟨T2, X2, e2, st2⟩ := getS2 X0 hx hZ hown (host := "") (Or.inl (w_188 hw)) Via.refl e0 (P1.ext P0.2) (g := (mkF m 78 #[vI i, vI idx, vA vb, x3, x4, .val (.int (cq + (-1 : Int32))), vI 0] [(.int (cq + (-1 : Int32))), (.ref vb)])) rfl (hb hby d277)
  obtain ⟨cl3, y3, Ar3, hin3, hat3⟩ := own_dig (BO.ext P0.2) (r := (-i)) (own_ri hi)
  obtain ⟨cl4, Ar4, q4, S4, M4, H4, G4⟩ := P3.pad (vs' := xs ++ List.replicate (((cq + (-1 : Int32))).toNatClampNeg + 1) (.int 0)) (pad_rep xs (.int 0) _)
  have hin4 : ¬ ((cq + (-1 : Int32)) < 0 ∨ cl4.slots.size ≤ ((cq + (-1 : Int32))).toNatClampNeg) := inb_of S4 (own_c1 hc)
  obtain ⟨T4, h4, X4, e4, W4, st4⟩ := stB X2 hx hZ e2 Ar4 (j := (cq + (-1 : Int32))) hin4 (g := (mkF m 84 #[vI i, vI idx, vA vb, x3, x4, .val (.int (cq + (-1 : Int32))), vI 0] [(.int y3), (.int (cq + (-1 : Int32))), (.ref vb)])) rfl rfl (hb hby d281)
  obtain ⟨ys4, V4⟩ : ∃ ys, Arv Z h4 vb kv .byte N ys (.int 0) := ⟨_, Arv.set Ar4 q4 S4 M4 H4 G4 (fits_nar_byte y3) W4 _ rfl (by first | (simp; done) | (simp; omega))⟩
  have z4 := W4.size
  have K4 := K0.wr W4 (Or.inl (List.mem_of_getElem? (i := 0) rfl))
  have N4 := Fr.snoc X4 N0 (by omega)
  have f5 := P0.wr W4 (by omega)
  refine ⟨_, _, _, (cq + (-1 : Int32)), ys4, X4.more (by omega) (by omega), e4, N4, K4, V4, f5, fun target hk => ?_⟩
  show Steps _ _ _ (T.setTop (mkF m 72 #[vI i, vI idx, vA vb, x3, x4, vI cq, vI 0] [])) _
  refine XS.aloadN X0.here hx rfl (hb hby d274) rfl rfl ?_
  show Steps _ _ _ (T.setTop (mkF m 73 #[vI i, vI idx, vA vb, x3, x4, vI cq, vI 0] [(.ref vb)])) _
  refine XS.iinc X0.here hx rfl (hb hby d275) rfl (l' := #[vI i, vI idx, vA vb, x3, x4, .val (.int (cq + (-1 : Int32))), vI 0]) rfl ?_
  show Steps _ _ _ (T.setTop (mkF m 76 #[vI i, vI idx, vA vb, x3, x4, .val (.int (cq + (-1 : Int32))), vI 0] [(.ref vb)])) _
  refine XS.iload X0.here hx rfl (hb hby d276) rfl ?_
  show Steps _ _ _ (T.setTop (mkF m 78 #[vI i, vI idx, vA vb, x3, x4, .val (.int (cq + (-1 : Int32))), vI 0] [(.int (cq + (-1 : Int32))), (.ref vb)])) _
  refine st2 _ ?_
  show Steps _ _ _ (T2.setTop (mkF m 81 #[vI i, vI idx, vA vb, x3, x4, .val (.int (cq + (-1 : Int32))), vI 0] [(.ref od), (.int (cq + (-1 : Int32))), (.ref vb)])) _
  refine XS.iloadN X2.here hx rfl (hb hby d278) rfl ?_
  show Steps _ _ _ (T2.setTop (mkF m 82 #[vI i, vI idx, vA vb, x3, x4, .val (.int (cq + (-1 : Int32))), vI 0] [(.int i), (.ref od), (.int (cq + (-1 : Int32))), (.ref vb)])) _
  refine XS.ineg X2.here hx rfl (hb hby d279) rfl ?_
  show Steps _ _ _ (T2.setTop (mkF m 83 #[vI i, vI idx, vA vb, x3, x4, .val (.int (cq + (-1 : Int32))), vI 0] [(.int (-i)), (.ref od), (.int (cq + (-1 : Int32))), (.ref vb)])) _
  refine X2.baloadBytes hx (j := (-i)) (v := (.int y3)) (by rw [e2]; exact Ar3.1) (State.isArrayOf_alike hZ.alike Ar3.2.1) Ar3.2.2 hin3 hat3 (g := (mkF m 83 #[vI i, vI idx, vA vb, x3, x4, .val (.int (cq + (-1 : Int32))), vI 0] [(.int (-i)), (.ref od), (.int (cq + (-1 : Int32))), (.ref vb)])) rfl rfl (hb hby d280) _ ?_
  show Steps _ _ _ (T2.setTop (mkF m 84 #[vI i, vI idx, vA vb, x3, x4, .val (.int (cq + (-1 : Int32))), vI 0] [(.int y3), (.int (cq + (-1 : Int32))), (.ref vb)])) _
  refine st4 _ ?_
  show Steps _ _ _ (T4.setTop (mkF m 85 #[vI i, vI idx, vA vb, x3, x4, .val (.int (cq + (-1 : Int32))), vI 0] [])) _
  refine XS.iloadN X4.here hx rfl (hb hby d282) rfl ?_
  show Steps _ _ _ (T4.setTop (mkF m 86 #[vI i, vI idx, vA vb, x3, x4, .val (.int (cq + (-1 : Int32))), vI 0] [(.int i)])) _
  refine XS.bipush X4.here hx rfl (hb hby d283) ?_
  show Steps _ _ _ (T4.setTop (mkF m 88 #[vI i, vI idx, vA vb, x3, x4, .val (.int (cq + (-1 : Int32))), vI 0] [(.int (-9)), (.int i)])) _
  refine XS.icmpYes X4.here hx rfl (pc0 := 88) (pc' := 104) rfl (hb hby d284) rfl (flt (hc88 : ¬ (i < (-9 : Int32)))).2.1 (by decide) (by decide) ?_
  show Steps _ _ _ (T4.setTop (mkF m 104 #[vI i, vI idx, vA vb, x3, x4, .val (.int (cq + (-1 : Int32))), vI 0] [])) _
  exact hk
theorem d285 : decode jdk_33_method_12_code 91 = .ok (.aload_n 2, 1) := by decide +kernel
theorem d286 : decode jdk_33_method_12_code 92 = .ok (.iinc 5 (-1), 3) := by decide +kernel
theorem d287 : decode jdk_33_method_12_code 95 = .ok (.iload 5, 2) := by decide +kernel
theorem d288 : decode jdk_33_method_12_code 97 = .ok (.getstatic 87, 3) := by decide +kernel
theorem d289 : decode jdk_33_method_12_code 100 = .ok (.iload_n 0, 1) := by decide +kernel
theorem d290 : decode jdk_33_method_12_code 101 = .ok (.ineg, 1) := by decide +kernel
theorem d291 : decode jdk_33_method_12_code 102 = .ok (.baload, 1) := by decide +kernel
theorem d292 : decode jdk_33_method_12_code 103 = .ok (.bastore, 1) := by decide +kernel
theorem pz_ga_1 {p : Program} {l : Launch} {e : Env} {R : Room} {s : State} {m : MethodId} {args : Array Value} {below : List Frame} {meth : Method} {c : Code} {T : State} {locs : List Loc} {cells slots : Nat} {Z : State} {a0 : Array Value} (X0 : Stand p l e R s m args below meth c T locs cells slots) (hx : p.tables.exec = Jvm.exec) (hw : HW Z a0) (hZ : Z.Warmed39 s.vm) (hown : s.vm.findClass "java/lang/Integer" = some m.cls) (hby : c.code = jdk_33_method_12_code) (hml : c.maxLocals = 7) (i : Int32) (idx : Int32) (vb : Addr) (kv : ClassId) (N : Int32) (xs : List Value) (x3 : Slot) (x4 : Slot) (cq : Int32) (od : Addr) (ko : ClassId) (vo : List Value) (ot : Addr) (kt2 : ClassId) (vt : List Value) {h0 : Heap} {n0 : Nat} (e0 : T.heap = h0) (N0 : Fr n0 locs) (Z0 : n0 ≤ h0.size) (P0 : Old Z n0 h0) (P1 : Sta Z Z.heap "java/lang/Integer" "DigitOnes" "[B" (.ref od)) (P2 : Sta Z Z.heap "java/lang/Integer" "DigitTens" "[B" (.ref ot)) (P3 : Arv Z h0 vb kv .byte N xs (.int 0)) (P4 : n0 ≤ vb) (BO : Arv Z Z.heap od ko .byte (100 : Int32) vo (.int 0)) (BT : Arv Z Z.heap ot kt2 .byte (100 : Int32) vt (.int 0)) (hc : oC2 cq N) (hi : oI i) (hc88 : i < (-9 : Int32)) (hFr : 0 ≤ R.frames) (hLo : 0 ≤ R.locals) (hCe : cells + 0 ≤ R.cells) (hSl : slots + 0 ≤ R.slots) :
    ∃ (T' : State) (h' : Heap) (locs' : List Loc) (c2 : Int32) (ys : List Value), Stand p l e R s m args below meth c T' locs' (cells + 0) (slots + 0) ∧ T'.heap = h' ∧ Fr n0 locs' ∧ Keep h0 h' [vb] ∧ (Arv Z h' vb kv .byte N ys (.int 0)) ∧ (Old Z n0 h') ∧ ∀ target, Steps p.tables e below (T'.setTop (mkF m 104 #[vI i, vI idx, vA vb, x3, x4, vI c2, vI 0] [])) target → Steps p.tables e below (T.setTop (mkF m 72 #[vI i, vI idx, vA vb, x3, x4, vI cq, vI 0] [])) target := by
  have K0 := Keep.refl h0 [vb]
  have lt1 := own_l P3.lt
  obtain ⟨T2, X2, e2, st2⟩ := getS2 X0 hx hZ hown (host := "") (Or.inl (w_188 hw)) Via.refl e0 (P1.ext P0.2) (g := (mkF m 78 #[vI i, vI idx, vA vb, x3, x4, .val (.int (cq + (-1 : Int32))), vI 0] [(.int (cq + (-1 : Int32))), (.ref vb)])) rfl (hb hby d277)
  obtain ⟨cl3, y3, Ar3, hin3, hat3⟩ := own_dig (BO.ext P0.2) (r := (-i)) (own_ri hi)
  obtain ⟨cl4, Ar4, q4, S4, M4, H4, G4⟩ := P3.pad (vs' := xs ++ List.replicate (((cq + (-1 : Int32))).toNatClampNeg + 1) (.int 0)) (pad_rep xs (.int 0) _)
  have hin4 : ¬ ((cq + (-1 : Int32)) < 0 ∨ cl4.slots.size ≤ ((cq + (-1 : Int32))).toNatClampNeg) := inb_of S4 (own_c1 hc)
  obtain ⟨T4, h4, X4, e4, W4, st4⟩ := stB X2 hx hZ e2 Ar4 (j := (cq + (-1 : Int32))) hin4 (g := (mkF m 84 #[vI i, vI idx, vA vb, x3, x4, .val (.int (cq + (-1 : Int32))), vI 0] [(.int y3), (.int (cq + (-1 : Int32))), (.ref vb)])) rfl rfl (hb hby d281)
  obtain ⟨ys4, V4⟩ : ∃ ys, Arv Z h4 vb kv .byte N ys (.int 0) := ⟨_, Arv.set Ar4 q4 S4 M4 H4 G4 (fits_nar_byte y3) W4 _ rfl (by first | (simp; done) | (simp; omega))⟩
  have z4 := W4.size
  have K4 := K0.wr W4 (Or.inl (List.mem_of_getElem? (i := 0) rfl))
  have N4 := Fr.snoc X4 N0 (by omega)
  have f6 := P0.wr W4 (by omega)
  obtain ⟨T5, X5, e5, st5⟩ := getS2 X4 hx hZ hown (host := "") (Or.inl (w_213 hw)) Via.refl e4 (P2.ext f6.2) (g := (mkF m 97 #[vI i, vI idx, vA vb, x3, x4, .val (.int ((cq + (-1 : Int32)) + (-1 : Int32))), vI 0] [(.int ((cq + (-1 : Int32)) + (-1 : Int32))), (.ref vb)])) rfl (hb hby d288)
  obtain ⟨cl7, y7, Ar7, hin7, hat7⟩ := own_dig (BT.ext f6.2) (r := (-i)) (own_ri hi)
  obtain ⟨cl8, Ar8, q8, S8, M8, H8, G8⟩ := V4.pad (vs' := ys4 ++ List.replicate ((((cq + (-1 : Int32)) + (-1 : Int32))).toNatClampNeg + 1) (.int 0)) (pad_rep ys4 (.int 0) _)
  have hin8 : ¬ (((cq + (-1 : Int32)) + (-1 : Int32)) < 0 ∨ cl8.slots.size ≤ (((cq + (-1 : Int32)) + (-1 : Int32))).toNatClampNeg) := inb_of S8 (own_c2 hc)
  obtain ⟨T8, h8, X8, e8, W8, st8⟩ := stB X5 hx hZ e5 Ar8 (j := ((cq + (-1 : Int32)) + (-1 : Int32))) hin8 (g := (mkF m 103 #[vI i, vI idx, vA vb, x3, x4, .val (.int ((cq + (-1 : Int32)) + (-1 : Int32))), vI 0] [(.int y7), (.int ((cq + (-1 : Int32)) + (-1 : Int32))), (.ref vb)])) rfl rfl (hb hby d292)
  obtain ⟨ys8, V8⟩ : ∃ ys, Arv Z h8 vb kv .byte N ys (.int 0) := ⟨_, Arv.set Ar8 q8 S8 M8 H8 G8 (fits_nar_byte y7) W8 _ rfl (by first | (simp; done) | (simp; omega))⟩
  have z8 := W8.size
  have K8 := K4.wr W8 (Or.inl (List.mem_of_getElem? (i := 0) rfl))
  have N8 := Fr.snoc X8 N4 (by omega)
  have f9 := f6.wr W8 (by omega)
  refine ⟨_, _, _, ((cq + (-1 : Int32)) + (-1 : Int32)), ys8, X8.more (by omega) (by omega), e8, N8, K8, V8, f9, fun target hk => ?_⟩
  show Steps _ _ _ (T.setTop (mkF m 72 #[vI i, vI idx, vA vb, x3, x4, vI cq, vI 0] [])) _
  refine XS.aloadN X0.here hx rfl (hb hby d274) rfl rfl ?_
  show Steps _ _ _ (T.setTop (mkF m 73 #[vI i, vI idx, vA vb, x3, x4, vI cq, vI 0] [(.ref vb)])) _
  refine XS.iinc X0.here hx rfl (hb hby d275) rfl (l' := #[vI i, vI idx, vA vb, x3, x4, .val (.int (cq + (-1 : Int32))), vI 0]) rfl ?_
  show Steps _ _ _ (T.setTop (mkF m 76 #[vI i, vI idx, vA vb, x3, x4, .val (.int (cq + (-1 : Int32))), vI 0] [(.ref vb)])) _
  refine XS.iload X0.here hx rfl (hb hby d276) rfl ?_
  show Steps _ _ _ (T.setTop (mkF m 78 #[vI i, vI idx, vA vb, x3, x4, .val (.int (cq + (-1 : Int32))), vI 0] [(.int (cq + (-1 : Int32))), (.ref vb)])) _
  refine st2 _ ?_
  show Steps _ _ _ (T2.setTop (mkF m 81 #[vI i, vI idx, vA vb, x3, x4, .val (.int (cq + (-1 : Int32))), vI 0] [(.ref od), (.int (cq + (-1 : Int32))), (.ref vb)])) _
  refine XS.iloadN X2.here hx rfl (hb hby d278) rfl ?_
  show Steps _ _ _ (T2.setTop (mkF m 82 #[vI i, vI idx, vA vb, x3, x4, .val (.int (cq + (-1 : Int32))), vI 0] [(.int i), (.ref od), (.int (cq + (-1 : Int32))), (.ref vb)])) _
  refine XS.ineg X2.here hx rfl (hb hby d279) rfl ?_
  show Steps _ _ _ (T2.setTop (mkF m 83 #[vI i, vI idx, vA vb, x3, x4, .val (.int (cq + (-1 : Int32))), vI 0] [(.int (-i)), (.ref od), (.int (cq + (-1 : Int32))), (.ref vb)])) _
  refine X2.baloadBytes hx (j := (-i)) (v := (.int y3)) (by rw [e2]; exact Ar3.1) (State.isArrayOf_alike hZ.alike Ar3.2.1) Ar3.2.2 hin3 hat3 (g := (mkF m 83 #[vI i, vI idx, vA vb, x3, x4, .val (.int (cq + (-1 : Int32))), vI 0] [(.int (-i)), (.ref od), (.int (cq + (-1 : Int32))), (.ref vb)])) rfl rfl (hb hby d280) _ ?_
  show Steps _ _ _ (T2.setTop (mkF m 84 #[vI i, vI idx, vA vb, x3, x4, .val (.int (cq + (-1 : Int32))), vI 0] [(.int y3), (.int (cq + (-1 : Int32))), (.ref vb)])) _
  refine st4 _ ?_
  show Steps _ _ _ (T4.setTop (mkF m 85 #[vI i, vI idx, vA vb, x3, x4, .val (.int (cq + (-1 : Int32))), vI 0] [])) _
  refine XS.iloadN X4.here hx rfl (hb hby d282) rfl ?_
  show Steps _ _ _ (T4.setTop (mkF m 86 #[vI i, vI idx, vA vb, x3, x4, .val (.int (cq + (-1 : Int32))), vI 0] [(.int i)])) _
  refine XS.bipush X4.here hx rfl (hb hby d283) ?_
  show Steps _ _ _ (T4.setTop (mkF m 88 #[vI i, vI idx, vA vb, x3, x4, .val (.int (cq + (-1 : Int32))), vI 0] [(.int (-9)), (.int i)])) _
  refine XS.icmpNo X4.here hx rfl (hb hby d284) rfl (tlt (hc88 : i < (-9 : Int32))).2.1 ?_
  show Steps _ _ _ (T4.setTop (mkF m 91 #[vI i, vI idx, vA vb, x3, x4, .val (.int (cq + (-1 : Int32))), vI 0] [])) _
  refine XS.aloadN X4.here hx rfl (hb hby d285) rfl rfl ?_
  show Steps _ _ _ (T4.setTop (mkF m 92 #[vI i, vI idx, vA vb, x3, x4, .val (.int (cq + (-1 : Int32))), vI 0] [(.ref vb)])) _
  refine XS.iinc X4.here hx rfl (hb hby d286) rfl (l' := #[vI i, vI idx, vA vb, x3, x4, .val (.int ((cq + (-1 : Int32)) + (-1 : Int32))), vI 0]) rfl ?_
  show Steps _ _ _ (T4.setTop (mkF m 95 #[vI i, vI idx, vA vb, x3, x4, .val (.int ((cq + (-1 : Int32)) + (-1 : Int32))), vI 0] [(.ref vb)])) _
  refine XS.iload X4.here hx rfl (hb hby d287) rfl ?_
  show Steps _ _ _ (T4.setTop (mkF m 97 #[vI i, vI idx, vA vb, x3, x4, .val (.int ((cq + (-1 : Int32)) + (-1 : Int32))), vI 0] [(.int ((cq + (-1 : Int32)) + (-1 : Int32))), (.ref vb)])) _
  refine st5 _ ?_
  show Steps _ _ _ (T5.setTop (mkF m 100 #[vI i, vI idx, vA vb, x3, x4, .val (.int ((cq + (-1 : Int32)) + (-1 : Int32))), vI 0] [(.ref ot), (.int ((cq + (-1 : Int32)) + (-1 : Int32))), (.ref vb)])) _
  refine XS.iloadN X5.here hx rfl (hb hby d289) rfl ?_
  show Steps _ _ _ (T5.setTop (mkF m 101 #[vI i, vI idx, vA vb, x3, x4, .val (.int ((cq + (-1 : Int32)) + (-1 : Int32))), vI 0] [(.int i), (.ref ot), (.int ((cq + (-1 : Int32)) + (-1 : Int32))), (.ref vb)])) _
  refine XS.ineg X5.here hx rfl (hb hby d290) rfl ?_
  show Steps _ _ _ (T5.setTop (mkF m 102 #[vI i, vI idx, vA vb, x3, x4, .val (.int ((cq + (-1 : Int32)) + (-1 : Int32))), vI 0] [(.int (-i)), (.ref ot), (.int ((cq + (-1 : Int32)) + (-1 : Int32))), (.ref vb)])) _
  refine X5.baloadBytes hx (j := (-i)) (v := (.int y7)) (by rw [e5]; exact Ar7.1) (State.isArrayOf_alike hZ.alike Ar7.2.1) Ar7.2.2 hin7 hat7 (g := (mkF m 102 #[vI i, vI idx, vA vb, x3, x4, .val (.int ((cq + (-1 : Int32)) + (-1 : Int32))), vI 0] [(.int (-i)), (.ref ot), (.int ((cq + (-1 : Int32)) + (-1 : Int32))), (.ref vb)])) rfl rfl (hb hby d291) _ ?_
  show Steps _ _ _ (T5.setTop (mkF m 103 #[vI i, vI idx, vA vb, x3, x4, .val (.int ((cq + (-1 : Int32)) + (-1 : Int32))), vI 0] [(.int y7), (.int ((cq + (-1 : Int32)) + (-1 : Int32))), (.ref vb)])) _
  refine st8 _ ?_
  show Steps _ _ _ (T8.setTop (mkF m 104 #[vI i, vI idx, vA vb, x3, x4, .val (.int ((cq + (-1 : Int32)) + (-1 : Int32))), vI 0] [])) _
  exact hk
theorem pz_ga {p : Program} {l : Launch} {e : Env} {R : Room} {s : State} {m : MethodId} {args : Array Value} {below : List Frame} {meth : Method} {c : Code} {T : State} {locs : List Loc} {cells slots : Nat} {Z : State} {a0 : Array Value} (X0 : Stand p l e R s m args below meth c T locs cells slots) (hx : p.tables.exec = Jvm.exec) (hw : HW Z a0) (hZ : Z.Warmed39 s.vm) (hown : s.vm.findClass "java/lang/Integer" = some m.cls) (hby : c.code = jdk_33_method_12_code) (hml : c.maxLocals = 7) (i : Int32) (idx : Int32) (vb : Addr) (kv : ClassId) (N : Int32) (xs : List Value) (x3 : Slot) (x4 : Slot) (cq : Int32) (od : Addr) (ko : ClassId) (vo : List Value) (ot : Addr) (kt2 : ClassId) (vt : List Value) {h0 : Heap} {n0 : Nat} (e0 : T.heap = h0) (N0 : Fr n0 locs) (Z0 : n0 ≤ h0.size) (P0 : Old Z n0 h0) (P1 : Sta Z Z.heap "java/lang/Integer" "DigitOnes" "[B" (.ref od)) (P2 : Sta Z Z.heap "java/lang/Integer" "DigitTens" "[B" (.ref ot)) (P3 : Arv Z h0 vb kv .byte N xs (.int 0)) (P4 : n0 ≤ vb) (BO : Arv Z Z.heap od ko .byte (100 : Int32) vo (.int 0)) (BT : Arv Z Z.heap ot kt2 .byte (100 : Int32) vt (.int 0)) (hc : oC2 cq N) (hi : oI i) (hFr : 0 ≤ R.frames) (hLo : 0 ≤ R.locals) (hCe : cells + 0 ≤ R.cells) (hSl : slots + 0 ≤ R.slots) :
    ∃ (T' : State) (h' : Heap) (locs' : List Loc) (c2 : Int32) (ys : List Value), Stand p l e R s m args below meth c T' locs' (cells + 0) (slots + 0) ∧ T'.heap = h' ∧ Fr n0 locs' ∧ Keep h0 h' [vb] ∧ (Arv Z h' vb kv .byte N ys (.int 0)) ∧ (Old Z n0 h') ∧ ∀ target, Steps p.tables e below (T'.setTop (mkF m 104 #[vI i, vI idx, vA vb, x3, x4, vI c2, vI 0] [])) target → Steps p.tables e below (T.setTop (mkF m 72 #[vI i, vI idx, vA vb, x3, x4, vI cq, vI 0] [])) target := by
  by_cases h9 : i < (-9 : Int32)
  · exact pz_ga_1 X0 hx hw hZ hown hby hml i idx vb kv N xs x3 x4 cq od ko vo ot kt2 vt e0 N0 Z0 P0 P1 P2 P3 P4 BO BT hc hi h9 hFr hLo hCe hSl
  · exact pz_ga_0 X0 hx hw hZ hown hby hml i idx vb kv N xs x3 x4 cq od ko vo ot kt2 vt e0 N0 Z0 P0 P1 P2 P3 P4 BO BT hc hi h9 hFr hLo hCe hSl
theorem pz_gl {p : Program} {l : Launch} {e : Env} {R : Room} {s : State} {m : MethodId} {args : Array Value} {below : List Frame} {meth : Method} {c : Code} {T : State} {locs : List Loc} {cells slots : Nat} {Z : State} {a0 : Array Value} (X0 : Stand p l e R s m args below meth c T locs cells slots) (hx : p.tables.exec = Jvm.exec) (hw : HW Z a0) (hZ : Z.Warmed39 s.vm) (hown : s.vm.findClass "java/lang/Integer" = some m.cls) (hby : c.code = jdk_33_method_12_code) (hml : c.maxLocals = 7) (i : Int32) (idx : Int32) (vb : Addr) (kv : ClassId) (N : Int32) (xs : List Value) (x3 : Slot) (x4 : Slot) (cq : Int32) (od : Addr) (ko : ClassId) (vo : List Value) (ot : Addr) (kt2 : ClassId) (vt : List Value) (n : Nat) {h0 : Heap} {n0 : Nat} (e0 : T.heap = h0) (N0 : Fr n0 locs) (Z0 : n0 ≤ h0.size) (P0 : Old Z n0 h0) (P1 : Sta Z Z.heap "java/lang/Integer" "DigitOnes" "[B" (.ref od)) (P2 : Sta Z Z.heap "java/lang/Integer" "DigitTens" "[B" (.ref ot)) (P3 : Arv Z h0 vb kv .byte N xs (.int 0)) (P4 : n0 ≤ vb) (BO : Arv Z Z.heap od ko .byte (100 : Int32) vo (.int 0)) (BT : Arv Z Z.heap ot kt2 .byte (100 : Int32) vt (.int 0)) (hs : (x3 = .unset ∧ x4 = .unset) ∨ ∃ y3 y4 : Int32, x3 = vI y3 ∧ x4 = vI y4) (hn : -(oPw n) < i.toInt ∧ i.toInt ≤ 0) (hc : 2 * (n : Int) + 2 ≤ cq.toInt ∧ cq.toInt ≤ N.toInt ∧ N.toInt ≤ 70) (hFr : 0 ≤ R.frames) (hLo : 0 ≤ R.locals) (hCe : cells + 0 ≤ R.cells) (hSl : slots + 0 ≤ R.slots) :
    ∃ (T' : State) (h' : Heap) (locs' : List Loc) (i2 : Int32) (c2 : Int32) (y3 : Slot) (y4 : Slot) (ys : List Value), Stand p l e R s m args below meth c T' locs' (cells + 0) (slots + 0) ∧ T'.heap = h' ∧ Fr n0 locs' ∧ Keep h0 h' [vb] ∧ (Arv Z h' vb kv .byte N ys (.int 0)) ∧ (Old Z n0 h') ∧ (oI i2) ∧ (oC2 c2 N) ∧ ∀ target, Steps p.tables e below (T'.setTop (mkF m 72 #[vI i2, vI idx, vA vb, y3, y4, vI c2, vI 0] [])) target → Steps p.tables e below (T.setTop (mkF m 22 #[vI i, vI idx, vA vb, x3, x4, vI cq, vI 0] [])) target := by
  induction n generalizing T locs i xs x3 x4 cq h0 with
  | zero =>
    have hlt : (-100 : Int32) < i := own_l0 (own_z0 hn.1)
    have hoI : oI i := ⟨own_l1 hlt, hn.2⟩
    obtain ⟨T1, h1, L1, ys1, X1, e1, N1, K1, V1, O1, st1⟩ := pz_gx X0 hx hw hZ hown hby hml i idx vb kv N xs x3 x4 cq od ko vo ot kt2 vt e0 N0 Z0 P0 P1 P2 P3 P4 hlt hFr hLo hCe hSl
    exact ⟨T1, h1, L1, i, cq, x3, x4, ys1, X1, e1, N1, K1, V1, O1, hoI, own_l4 hc, st1⟩
  | succ n ih =>
    by_cases hlt : (-100 : Int32) < i
    · have hoI : oI i := ⟨own_l1 hlt, hn.2⟩
      obtain ⟨T1, h1, L1, ys1, X1, e1, N1, K1, V1, O1, st1⟩ := pz_gx X0 hx hw hZ hown hby hml i idx vb kv N xs x3 x4 cq od ko vo ot kt2 vt e0 N0 Z0 P0 P1 P2 P3 P4 hlt hFr hLo hCe hSl
      exact ⟨T1, h1, L1, i, cq, x3, x4, ys1, X1, e1, N1, K1, V1, O1, hoI, own_l4 hc, st1⟩
    · have turn : ∃ (T' : State) (h' : Heap) (locs' : List Loc) (ys : List Value), Stand p l e R s m args below meth c T' locs' (cells + 0) (slots + 0) ∧ T'.heap = h' ∧ Fr n0 locs' ∧ Keep h0 h' [vb] ∧ (Arv Z h' vb kv .byte N ys (.int 0)) ∧ (Old Z n0 h') ∧ ∀ target, Steps p.tables e below (T'.setTop (mkF m 22 #[.val (.int (i / (100 : Int32))), vI idx, vA vb, .val (.int (i / (100 : Int32))), .val (.int (((i / (100 : Int32)) * (100 : Int32)) - i)), .val (.int ((cq + (-1 : Int32)) + (-1 : Int32))), vI 0] [])) target → Steps p.tables e below (T.setTop (mkF m 22 #[vI i, vI idx, vA vb, x3, x4, vI cq, vI 0] [])) target := by
        have hcc : oC2 cq N := own_l4 hc
        rcases hs with ⟨rfl, rfl⟩ | ⟨y3, y4, rfl, rfl⟩
        · exact pz_gtu X0 hx hw hZ hown hby hml i idx vb kv N xs cq od ko vo ot kt2 vt e0 N0 Z0 P0 P1 P2 P3 P4 BO BT hcc hlt hFr hLo hCe hSl
        · exact pz_gtv X0 hx hw hZ hown hby hml i idx vb kv N xs cq od ko vo ot kt2 vt y3 y4 e0 N0 Z0 P0 P1 P2 P3 P4 BO BT hcc hlt hFr hLo hCe hSl
      obtain ⟨T1, h1, L1, ys1, X1, e1, N1, K1, V1, O1, st1⟩ := turn
      obtain ⟨T2, h2, L2, i2, c2, y3, y4, ys2, X2, e2, N2, K2, V2, O2, q1, q2, st2⟩ := ih (T := T1) (locs := L1) (h0 := h1) X1 (i / (100 : Int32)) ys1 (.val (.int (i / (100 : Int32)))) (.val (.int (((i / (100 : Int32)) * (100 : Int32)) - i))) ((cq + (-1 : Int32)) + (-1 : Int32)) e1 N1 (Nat.le_trans Z0 K1.1) O1 V1 (Or.inr ⟨_, _, rfl, rfl⟩) (own_l2 hn.1 hlt) (own_l3 hc)
      exact ⟨T2, h2, L2, i2, c2, y3, y4, ys2, X2, e2, N2, K1.trans K2 (allS (Or.inl (List.mem_of_getElem? (i := 0) rfl)) all0), V2, O2, q1, q2, fun target hk => st1 _ (st2 _ hk)⟩
theorem own_h1 {w0 : Int32} (h : ¬ (w0 < (0 : Int32))) : -(oPw 4) < (-w0).toInt ∧ (-w0).toInt ≤ 0 := by
  rw [own_pi h]
  rw [own_lt, own_k0] at h
  have r := rng32 w0
  have e : oPw 4 = 10000000000 := by decide
  omega
theorem own_h2 {idx N : Int32} (h : 11 ≤ idx.toInt ∧ idx.toInt ≤ N.toInt ∧ N.toInt ≤ 70) : 2 * ((4 : Nat) : Int) + 2 ≤ idx.toInt ∧ idx.toInt ≤ N.toInt ∧ N.toInt ≤ 70 := ⟨by have := h.1; omega, h.2.1, h.2.2⟩
theorem d293 : decode jdk_33_method_12_code 0 = .ok (.iload_n 1, 1) := by decide +kernel
theorem d294 : decode jdk_33_method_12_code 1 = .ok (.istore 5, 2) := by decide +kernel
theorem d295 : decode jdk_33_method_12_code 3 = .ok (.iload_n 0, 1) := by decide +kernel
theorem d296 : decode jdk_33_method_12_code 4 = .ok (.ifCond .ge 7, 3) := by decide +kernel
theorem d297 : decode jdk_33_method_12_code 11 = .ok (.iconst 0, 1) := by decide +kernel
theorem d298 : decode jdk_33_method_12_code 12 = .ok (.istore 6, 2) := by decide +kernel
theorem d299 : decode jdk_33_method_12_code 14 = .ok (.iload 6, 2) := by decide +kernel
theorem d300 : decode jdk_33_method_12_code 16 = .ok (.ifCond .ne 6, 3) := by decide +kernel
theorem d301 : decode jdk_33_method_12_code 19 = .ok (.iload_n 0, 1) := by decide +kernel
theorem d302 : decode jdk_33_method_12_code 20 = .ok (.ineg, 1) := by decide +kernel
theorem d303 : decode jdk_33_method_12_code 21 = .ok (.istore_n 0, 1) := by decide +kernel
theorem d304 : decode jdk_33_method_12_code 104 = .ok (.iload 6, 2) := by decide +kernel
theorem d305 : decode jdk_33_method_12_code 106 = .ok (.ifCond .eq 12, 3) := by decide +kernel
theorem d306 : decode jdk_33_method_12_code 118 = .ok (.iload 5, 2) := by decide +kernel
theorem d307 : decode jdk_33_method_12_code 120 = .ok (.ireturn, 1) := by decide +kernel
theorem ef_12 (m : MethodId) (x0 : Int32) (x1 : Int32) (x2 : Addr) : entryFrame m #[(.int x0), (.int x1), (.ref x2)] 7 = mkF m 0 #[vI x0, vI x1, vA x2, .unset, .unset, .unset, .unset] [] := by first | (simp [entryFrame, mkF, argsToLocals, Value.category, maxLocals]; done) | rfl
abbrev m_20 : MethodName := (⟨"java/lang/Integer", "getChars", "(II[B)I"⟩ : MethodName)
def Q_gch (Z : State) (w0 : Int32) (idx : Int32) (vb : Addr) (kv : ClassId) (N : Int32) (xs : List Value) (od : Addr) (ko : ClassId) (vo : List Value) (ot : Addr) (kt2 : ClassId) (vt : List Value) (h0 : Heap) (n0 : Nat) (v : Option Value) (h : Heap) (L : List Loc) : Prop := ∃ (rp : Int32) (ys : List Value), (v = some (.int rp)) ∧ (Fr n0 L) ∧ (Keep h0 h [vb]) ∧ (Arv Z h vb kv .byte N ys (.int 0))
theorem rm_gch (l : Launch) (Z : State) (a0 : Array Value) (hw : HW Z a0) (ws : List Jvm.Cond) (w0 : Int32) (idx : Int32) (vb : Addr) (kv : ClassId) (N : Int32) (xs : List Value) (od : Addr) (ko : ClassId) (vo : List Value) (ot : Addr) (kt2 : ClassId) (vt : List Value) (h0 : Heap) (n0 : Nat) (Z0 : n0 ≤ h0.size) (P0 : Old Z n0 h0) (P1 : Sta Z Z.heap "java/lang/Integer" "DigitOnes" "[B" (.ref od)) (P2 : Sta Z Z.heap "java/lang/Integer" "DigitTens" "[B" (.ref ot)) (P3 : Arv Z h0 vb kv .byte N xs (.int 0)) (P4 : n0 ≤ vb) (hw0 : ¬ (w0 < (0 : Int32))) (hi : 11 ≤ idx.toInt ∧ idx.toInt ≤ N.toInt ∧ N.toInt ≤ 70) (BO : Arv Z Z.heap od ko .byte (100 : Int32) vo (.int 0)) (BT : Arv Z Z.heap ot kt2 .byte (100 : Int32) vt (.int 0)) :
    MF l Z m_20 jdk_33_method_12_code 7 (some .int) ws (oR 0 0 0 0) #[(.int w0), (.int idx), (.ref vb)] h0 (Q_gch Z w0 idx vb kv N xs od ko vo ot kt2 vt h0 n0) := by
  refine own_body (cls := "java/lang/Integer") (plainFor_of_name pn_8) rfl (fun p e s m below meth c s₁ hx hby hml hown hnm hret hZ X0 e0 => ?_)
  have N0 := Fr.nil n0
  have K0 := Keep.refl h0 [vb]
  have lt1 := own_l P3.lt
  obtain ⟨T2, h2, L2, x2_i2, x2_c2, x2_y3, x2_y4, x2_ys, X2, e2, N2, Kq2, r2_0, r2_1, r2_2, r2_3, st2⟩ := pz_gl X0 hx hw hZ hown hby hml ((-w0)) idx vb kv N xs ((.unset)) ((.unset)) idx od ko vo ot kt2 vt 4 e0 N0 (by omega) P0 P1 P2 P3 (by omega) BO BT (Or.inl ⟨rfl, rfl⟩) (own_h1 hw0) (own_h2 hi) (by decide) (by decide) (by decide) (by decide)
  have z2' := Kq2.1
  have K2 := K0.trans Kq2 (allS (Or.inl (List.mem_of_getElem? (i := 0) rfl)) all0)
  have lt3 := own_l r2_0.lt
  obtain ⟨T4, h4, L4, x4_c2, x4_ys, X4, e4, N4, Kq4, r4_0, r4_1, st4⟩ := pz_ga X2 hx hw hZ hown hby hml x2_i2 idx vb kv N x2_ys ((x2_y3)) ((x2_y4)) x2_c2 od ko vo ot kt2 vt e2 N2 (by omega) r2_1 P1 P2 r2_0 (by omega) BO BT r2_3 r2_2 (by decide) (by decide) (by decide) (by decide)
  have z4' := Kq4.1
  have K4 := K2.trans Kq4 (allS (Or.inl (List.mem_of_getElem? (i := 0) rfl)) all0)
  have lt5 := own_l r4_0.lt
  refine ⟨_, _, _, _, some (.int x4_c2), X4, by decide, by decide, nofun, ?_, fun fs hr => castTop (ef_12 m w0 idx vb) ?_⟩
  · show Q_gch Z w0 idx vb kv N xs od ko vo ot kt2 vt h0 n0 _ T4.heap _
    rw [(e4 : T4.heap = h4)]
    exact ⟨x4_c2, x4_ys, rfl, N4, K4, r4_0⟩
  · show Steps _ _ _ (s₁.setTop (mkF m 0 #[vI w0, vI idx, vA vb, .unset, .unset, .unset, .unset] [])) _
    refine XS.iloadN X0.here hx rfl (hb hby d293) rfl ?_
    show Steps _ _ _ (s₁.setTop (mkF m 1 #[vI w0, vI idx, vA vb, .unset, .unset, .unset, .unset] [(.int idx)])) _
    refine XS.istore X0.here hx rfl (hb hby d294) rfl (l' := #[vI w0, vI idx, vA vb, .unset, .unset, vI idx, .unset]) rfl ?_
    show Steps _ _ _ (s₁.setTop (mkF m 3 #[vI w0, vI idx, vA vb, .unset, .unset, vI idx, .unset] [])) _
    refine XS.iloadN X0.here hx rfl (hb hby d295) rfl ?_
    show Steps _ _ _ (s₁.setTop (mkF m 4 #[vI w0, vI idx, vA vb, .unset, .unset, vI idx, .unset] [(.int w0)])) _
    refine XS.ifYes X0.here hx rfl (pc0 := 4) (pc' := 11) rfl (hb hby d296) rfl ((if0 _ _).trans (flt (hw0 : ¬ (w0 < (0 : Int32)))).2.1) (by decide) (by decide) ?_
    show Steps _ _ _ (s₁.setTop (mkF m 11 #[vI w0, vI idx, vA vb, .unset, .unset, vI idx, .unset] [])) _
    refine XS.iconst X0.here hx rfl (hb hby d297) ?_
    show Steps _ _ _ (s₁.setTop (mkF m 12 #[vI w0, vI idx, vA vb, .unset, .unset, vI idx, .unset] [(.int 0)])) _
    refine XS.istore X0.here hx rfl (hb hby d298) rfl (l' := #[vI w0, vI idx, vA vb, .unset, .unset, vI idx, vI 0]) rfl ?_
    show Steps _ _ _ (s₁.setTop (mkF m 14 #[vI w0, vI idx, vA vb, .unset, .unset, vI idx, vI 0] [])) _
    refine XS.iload X0.here hx rfl (hb hby d299) rfl ?_
    show Steps _ _ _ (s₁.setTop (mkF m 16 #[vI w0, vI idx, vA vb, .unset, .unset, vI idx, vI 0] [(.int 0)])) _
    refine XS.ifNo X0.here hx rfl (hb hby d300) rfl ((if0 _ _).trans (teq ((by decide) : (0 : Int32) = (0 : Int32))).2) ?_
    show Steps _ _ _ (s₁.setTop (mkF m 19 #[vI w0, vI idx, vA vb, .unset, .unset, vI idx, vI 0] [])) _
    refine XS.iloadN X0.here hx rfl (hb hby d301) rfl ?_
    show Steps _ _ _ (s₁.setTop (mkF m 20 #[vI w0, vI idx, vA vb, .unset, .unset, vI idx, vI 0] [(.int w0)])) _
    refine XS.ineg X0.here hx rfl (hb hby d302) rfl ?_
    show Steps _ _ _ (s₁.setTop (mkF m 21 #[vI w0, vI idx, vA vb, .unset, .unset, vI idx, vI 0] [(.int (-w0))])) _
    refine XS.istoreN X0.here hx rfl (hb hby d303) rfl (l' := #[.val (.int (-w0)), vI idx, vA vb, .unset, .unset, vI idx, vI 0]) rfl ?_
    show Steps _ _ _ (s₁.setTop (mkF m 22 #[.val (.int (-w0)), vI idx, vA vb, .unset, .unset, vI idx, vI 0] [])) _
    refine st2 _ ?_
    show Steps _ _ _ (T2.setTop (mkF m 72 #[vI x2_i2, vI idx, vA vb, x2_y3, x2_y4, vI x2_c2, vI 0] [])) _
    refine st4 _ ?_
    show Steps _ _ _ (T4.setTop (mkF m 104 #[vI x2_i2, vI idx, vA vb, (x2_y3), (x2_y4), vI x4_c2, vI 0] [])) _
    refine XS.iload X4.here hx rfl (hb hby d304) rfl ?_
    show Steps _ _ _ (T4.setTop (mkF m 106 #[vI x2_i2, vI idx, vA vb, (x2_y3), (x2_y4), vI x4_c2, vI 0] [(.int 0)])) _
    refine XS.ifYes X4.here hx rfl (pc0 := 106) (pc' := 118) rfl (hb hby d305) rfl ((if0 _ _).trans (teq ((by decide) : (0 : Int32) = (0 : Int32))).1) (by decide) (by decide) ?_
    show Steps _ _ _ (T4.setTop (mkF m 118 #[vI x2_i2, vI idx, vA vb, (x2_y3), (x2_y4), vI x4_c2, vI 0] [])) _
    refine XS.iload X4.here hx rfl (hb hby d306) rfl ?_
    show Steps _ _ _ (T4.setTop (mkF m 120 #[vI x2_i2, vI idx, vA vb, (x2_y3), (x2_y4), vI x4_c2, vI 0] [(.int x4_c2)])) _
    exact retI X4 hx hret (hb hby d307) hr
theorem d308 : decode jdk_68_method_68_code 0 = .ok (.getstatic 18, 3) := by decide +kernel
theorem d309 : decode jdk_68_method_68_code 3 = .ok (.ifCond .eq 14, 3) := by decide +kernel
theorem d310 : decode jdk_68_method_68_code 6 = .ok (.aload_n 0, 1) := by decide +kernel
theorem d311 : decode jdk_68_method_68_code 7 = .ok (.getfield 22, 3) := by decide +kernel
theorem d312 : decode jdk_68_method_68_code 10 = .ok (.ifCond .ne 7, 3) := by decide +kernel
theorem d313 : decode jdk_68_method_68_code 13 = .ok (.iconst 1, 1) := by decide +kernel
theorem d314 : decode jdk_68_method_68_code 14 = .ok (.goto 4, 3) := by decide +kernel
theorem d315 : decode jdk_68_method_68_code 18 = .ok (.ireturn, 1) := by decide +kernel
abbrev m_21 : MethodName := (⟨"java/lang/AbstractStringBuilder", "isLatin1", "()Z"⟩ : MethodName)
def Q_isL (Z : State) (a_ : Addr) (cp : Int32) (h0 : Heap) (n0 : Nat) (v : Option Value) (h : Heap) (L : List Loc) : Prop := (v = some (.int 1)) ∧ (Fr n0 L) ∧ (h = h0)
theorem rm_isL (l : Launch) (Z : State) (a0 : Array Value) (hw : HW Z a0) (ws : List Jvm.Cond) (a_ : Addr) (cp : Int32) (h0 : Heap) (n0 : Nat) (Z0 : n0 ≤ h0.size) (P0 : Old Z n0 h0) (P1 : sta0 Z (.int cp)) (P2 : fld3 Z h0 a_ (.int 0)) (hcs : ¬ (cp = (0 : Int32))) :
    MF l Z m_21 jdk_68_method_68_code 1 (some .boolean) ws (oR 0 0 0 0) #[(.ref a_)] h0 (Q_isL Z a_ cp h0 n0) := by
  refine own_body (cls := "java/lang/AbstractStringBuilder") (plainFor_of_name pn_4) rfl (fun p e s m below meth c s₁ hx hby hml hown hnm hret hZ X0 e0 => ?_)
  have N0 := Fr.nil n0
  have lt1 := own_l P2.lt
  obtain ⟨T2, X2, e2, st2⟩ := getS2 X0 hx hZ hown (host := "") (Or.inl (w_112 hw)) Via.refl e0 (P1.ext P0.2) (g := (mkF m 0 #[vA a_] [])) rfl (hb hby d308)
  obtain ⟨T3, X3, e3, st3⟩ := getF X2 hx hZ hown (host := "") (Or.inl (w_115 hw)) Via.refl e2 P2 (g := (mkF m 7 #[vA a_] [(.ref a_)])) rfl rfl (hb hby d311)
  refine ⟨_, _, _, _, some (.int 1), X3, by decide, by decide, nofun, ?_, fun fs hr => castTop (ef_2 m a_) ?_⟩
  · show Q_isL Z a_ cp h0 n0 _ T3.heap _
    rw [(e3 : T3.heap = h0)]
    exact ⟨rfl, N0, rfl⟩
  · show Steps _ _ _ (s₁.setTop (mkF m 0 #[vA a_] [])) _
    refine st2 _ ?_
    show Steps _ _ _ (T2.setTop (mkF m 3 #[vA a_] [(.int cp)])) _
    refine XS.ifNo X2.here hx rfl (hb hby d309) rfl ((if0 _ _).trans (feq (hcs : ¬ (cp = (0 : Int32)))).1) ?_
    show Steps _ _ _ (T2.setTop (mkF m 6 #[vA a_] [])) _
    refine XS.aloadN X2.here hx rfl (hb hby d310) rfl rfl ?_
    show Steps _ _ _ (T2.setTop (mkF m 7 #[vA a_] [(.ref a_)])) _
    refine st3 _ ?_
    show Steps _ _ _ (T3.setTop (mkF m 10 #[vA a_] [(.int 0)])) _
    refine XS.ifNo X3.here hx rfl (hb hby d312) rfl ((if0 _ _).trans (teq ((by decide) : (0 : Int32) = (0 : Int32))).2) ?_
    show Steps _ _ _ (T3.setTop (mkF m 13 #[vA a_] [])) _
    refine XS.iconst X3.here hx rfl (hb hby d313) ?_
    show Steps _ _ _ (T3.setTop (mkF m 14 #[vA a_] [(.int 1)])) _
    refine XS.goto X3.here hx rfl (pc0 := 14) (pc' := 18) rfl (hb hby d314) (by decide) (by decide) ?_
    show Steps _ _ _ (T3.setTop (mkF m 18 #[vA a_] [(.int 1)])) _
    exact retN X3 hx (t := .boolean) hret (by simp) (hb hby d315) hr
abbrev oR2 (cnt N : Int32) : Prop := 10 ≤ cnt.toInt ∧ cnt.toInt ≤ N.toInt ∧ cnt.toInt ≤ 29
abbrev oSZ (sz : Int32) : Prop := 1 ≤ sz.toInt ∧ sz.toInt ≤ 10
theorem own_as {cnt sz N : Int32} (h : oR2 cnt N) (q : oSZ sz) : (cnt + sz).toInt = cnt.toInt + sz.toInt := own_add (by have := h.1; omega) (by have := q.1; omega) (by have := h.2.2; have := q.2; omega)
theorem own_a1 {cnt sz N : Int32} (h : oR2 cnt N) (q : oSZ sz) : 0 ≤ (cnt + sz).toInt ∧ (cnt + sz).toInt ≤ 39 ∧ (cnt + sz).toInt ≤ N.toInt + 17 := by
  rw [own_as h q]
  obtain ⟨h1, h2, h3⟩ := h
  obtain ⟨q1, q2⟩ := q
  omega
theorem own_a2 {cnt sz N M : Int32} (h : oR2 cnt N) (q : oSZ sz) (hM : oN M) (r : (cnt + sz).toInt ≤ M.toInt) : 11 ≤ (cnt + sz).toInt ∧ (cnt + sz).toInt ≤ M.toInt ∧ M.toInt ≤ 70 := by
  refine ⟨?_, r, (own_rN hM).2⟩
  rw [own_as h q]
  have := h.1
  have := q.1
  omega
theorem d316 : decode jdk_68_method_32_code 0 = .ok (.aload_n 0, 1) := by decide +kernel
theorem d317 : decode jdk_68_method_32_code 1 = .ok (.getfield 79, 3) := by decide +kernel
theorem d318 : decode jdk_68_method_32_code 4 = .ok (.istore_n 2, 1) := by decide +kernel
theorem d319 : decode jdk_68_method_32_code 5 = .ok (.iload_n 2, 1) := by decide +kernel
theorem d320 : decode jdk_68_method_32_code 6 = .ok (.iload_n 1, 1) := by decide +kernel
theorem w_176 {Z : State} {a0 : Array Value} (hw : HW Z a0) : (Jvm.Cond.methodLink "java/lang/AbstractStringBuilder" (245 : Nat) m_19).before a0 Z = true := hw _ (List.mem_of_getElem? (i := 176) rfl)
theorem w_179 {Z : State} {a0 : Array Value} (hw : HW Z a0) : (Jvm.Cond.code m_19 jdk_33_method_13_code (4 : Nat) (Option.some FieldType.int)).before a0 Z = true := hw _ (List.mem_of_getElem? (i := 179) rfl)
theorem w_178 {Z : State} {a0 : Array Value} (hw : HW Z a0) : (Jvm.Cond.initialized "java/lang/Integer").before a0 Z = true := hw _ (List.mem_of_getElem? (i := 178) rfl)
theorem d321 : decode jdk_68_method_32_code 7 = .ok (.invokestatic 245, 3) := by decide +kernel
theorem w_177 {Z : State} {a0 : Array Value} (hw : HW Z a0) : (Jvm.Cond.static m_19).before a0 Z = true := hw _ (List.mem_of_getElem? (i := 177) rfl)
theorem d322 : decode jdk_68_method_32_code 10 = .ok (.iadd, 1) := by decide +kernel
theorem d323 : decode jdk_68_method_32_code 11 = .ok (.istore_n 3, 1) := by decide +kernel
theorem d324 : decode jdk_68_method_32_code 12 = .ok (.aload_n 0, 1) := by decide +kernel
theorem d325 : decode jdk_68_method_32_code 13 = .ok (.iload_n 3, 1) := by decide +kernel
theorem d326 : decode jdk_68_method_32_code 14 = .ok (.invokevirtual 100, 3) := by decide +kernel
theorem d327 : decode jdk_68_method_32_code 17 = .ok (.aload_n 0, 1) := by decide +kernel
theorem w_180 {Z : State} {a0 : Array Value} (hw : HW Z a0) : (Jvm.Cond.methodLink "java/lang/AbstractStringBuilder" (83 : Nat) m_21).before a0 Z = true := hw _ (List.mem_of_getElem? (i := 180) rfl)
theorem w_184 {Z : State} {a0 : Array Value} (hw : HW Z a0) : (Jvm.Cond.code m_21 jdk_68_method_68_code (1 : Nat) (Option.some FieldType.boolean)).before a0 Z = true := hw _ (List.mem_of_getElem? (i := 184) rfl)
theorem pd_14 : parseMethodDescriptor "()Z" = some ⟨[], some .boolean⟩ := by decide +kernel
theorem d328 : decode jdk_68_method_32_code 18 = .ok (.invokevirtual 83, 3) := by decide +kernel
theorem w_183 {Z : State} {a0 : Array Value} (hw : HW Z a0) : (Jvm.Cond.selects "java/lang/StringBuilder" m_21 m_21).before a0 Z = true := hw _ (List.mem_of_getElem? (i := 183) rfl)
theorem w_181 {Z : State} {a0 : Array Value} (hw : HW Z a0) : (Jvm.Cond.declares m_21).before a0 Z = true := hw _ (List.mem_of_getElem? (i := 181) rfl)
theorem w_182 {Z : State} {a0 : Array Value} (hw : HW Z a0) : (Jvm.Cond.instanceMethod m_21).before a0 Z = true := hw _ (List.mem_of_getElem? (i := 182) rfl)
theorem d329 : decode jdk_68_method_32_code 21 = .ok (.ifCond .eq 16, 3) := by decide +kernel
theorem d330 : decode jdk_68_method_32_code 24 = .ok (.iload_n 1, 1) := by decide +kernel
theorem d331 : decode jdk_68_method_32_code 25 = .ok (.iload_n 3, 1) := by decide +kernel
theorem d332 : decode jdk_68_method_32_code 26 = .ok (.aload_n 0, 1) := by decide +kernel
theorem d333 : decode jdk_68_method_32_code 27 = .ok (.getfield 15, 3) := by decide +kernel
theorem w_185 {Z : State} {a0 : Array Value} (hw : HW Z a0) : (Jvm.Cond.methodLink "java/lang/AbstractStringBuilder" (248 : Nat) m_20).before a0 Z = true := hw _ (List.mem_of_getElem? (i := 185) rfl)
theorem w_187 {Z : State} {a0 : Array Value} (hw : HW Z a0) : (Jvm.Cond.code m_20 jdk_33_method_12_code (7 : Nat) (Option.some FieldType.int)).before a0 Z = true := hw _ (List.mem_of_getElem? (i := 187) rfl)
theorem pd_15 : parseMethodDescriptor "(II[B)I" = some ⟨[.int, .int, (.array .byte)], some .int⟩ := by decide +kernel
theorem d334 : decode jdk_68_method_32_code 30 = .ok (.invokestatic 248, 3) := by decide +kernel
theorem w_186 {Z : State} {a0 : Array Value} (hw : HW Z a0) : (Jvm.Cond.static m_20).before a0 Z = true := hw _ (List.mem_of_getElem? (i := 186) rfl)
theorem d335 : decode jdk_68_method_32_code 33 = .ok (.pop, 1) := by decide +kernel
theorem d336 : decode jdk_68_method_32_code 34 = .ok (.goto 14, 3) := by decide +kernel
theorem d337 : decode jdk_68_method_32_code 48 = .ok (.aload_n 0, 1) := by decide +kernel
theorem d338 : decode jdk_68_method_32_code 49 = .ok (.iload_n 3, 1) := by decide +kernel
theorem d339 : decode jdk_68_method_32_code 50 = .ok (.putfield 79, 3) := by decide +kernel
theorem d340 : decode jdk_68_method_32_code 53 = .ok (.aload_n 0, 1) := by decide +kernel
theorem d341 : decode jdk_68_method_32_code 54 = .ok (.areturn, 1) := by decide +kernel
theorem ef_13 (m : MethodId) (x0 : Addr) (x1 : Int32) : entryFrame m #[(.ref x0), (.int x1)] 4 = mkF m 0 #[vA x0, vI x1, .unset, .unset] [] := by first | (simp [entryFrame, mkF, argsToLocals, Value.category, maxLocals]; done) | rfl
abbrev m_22 : MethodName := (⟨"java/lang/AbstractStringBuilder", "append", "(I)Ljava/lang/AbstractStringBuilder;"⟩ : MethodName)
def Q_api (Z : State) (w0 : Int32) (cp : Int32) (a_ : Addr) (v_ : Addr) (kv : ClassId) (N : Int32) (cnt : Int32) (xs : List Value) (od : Addr) (ko : ClassId) (vo : List Value) (ot : Addr) (kt2 : ClassId) (vt : List Value) (h0 : Heap) (n0 : Nat) (v : Option Value) (h : Heap) (L : List Loc) : Prop := ∃ (b : Addr) (k : ClassId) (N2 : Int32) (ys : List Value) (sz : Int32), (v = some (.ref a_)) ∧ (Fr n0 L) ∧ (Keep h0 h [a_, v_]) ∧ (Exa Z h a_ "java/lang/StringBuilder") ∧ (fld3 Z h a_ (.int 0)) ∧ (fld4 Z h a_ (.int (cnt + sz))) ∧ (fld2 Z h a_ (.ref b)) ∧ (Exa Z h b "[B") ∧ (Arv Z h b k .byte N2 ys (.int 0)) ∧ (oN N2) ∧ ((cnt + sz).toInt ≤ N2.toInt) ∧ (b = v_ ∨ h0.size ≤ b) ∧ (n0 ≤ b) ∧ (a_ ≠ b) ∧ (oSZ sz)
theorem rm_api (l : Launch) (Z : State) (a0 : Array Value) (hw : HW Z a0) (ws : List Jvm.Cond) (w0 : Int32) (cp : Int32) (a_ : Addr) (v_ : Addr) (kv : ClassId) (N : Int32) (cnt : Int32) (xs : List Value) (od : Addr) (ko : ClassId) (vo : List Value) (ot : Addr) (kt2 : ClassId) (vt : List Value) (h0 : Heap) (n0 : Nat) (Z0 : n0 ≤ h0.size) (P0 : Old Z n0 h0) (P1 : sta0 Z (.int cp)) (P2 : Sta Z Z.heap "java/lang/Integer" "DigitOnes" "[B" (.ref od)) (P3 : Sta Z Z.heap "java/lang/Integer" "DigitTens" "[B" (.ref ot)) (P4 : Exa Z h0 a_ "java/lang/StringBuilder") (P5 : fld2 Z h0 a_ (.ref v_)) (P6 : Exa Z h0 v_ "[B") (P7 : fld3 Z h0 a_ (.int 0)) (P8 : fld4 Z h0 a_ (.int cnt)) (P9 : Arv Z h0 v_ kv .byte N xs (.int 0)) (P10 : n0 ≤ a_) (P11 : n0 ≤ v_) (P12 : a_ ≠ v_) (hcs : ¬ (cp = (0 : Int32))) (hw0 : ¬ (w0 < (0 : Int32))) (hN : oN N) (hr : oR2 cnt N) (BO : Arv Z Z.heap od ko .byte (100 : Int32) vo (.int 0)) (BT : Arv Z Z.heap ot kt2 .byte (100 : Int32) vt (.int 0)) :
    MF l Z m_22 jdk_68_method_32_code 4 (some (.object "java/lang/AbstractStringBuilder")) ws (oR 4 1 70 62) #[(.ref a_), (.int w0)] h0 (Q_api Z w0 cp a_ v_ kv N cnt xs od ko vo ot kt2 vt h0 n0) := by
  refine own_body (cls := "java/lang/AbstractStringBuilder") (plainFor_of_name pn_4) rfl (fun p e s m below meth c s₁ hx hby hml hown hnm hret hZ X0 e0 => ?_)
  have N0 := Fr.nil n0
  have K0 := Keep.refl h0 [a_, v_]
  have lt1 := own_l P4.lt
  have lt2 := own_l P5.lt
  have lt3 := own_l P6.lt
  have lt4 := own_l P7.lt
  have lt5 := own_l P8.lt
  have lt6 := own_l P9.lt
  obtain ⟨T7, X7, e7, st7⟩ := getF X0 hx hZ hown (host := "") (Or.inl (w_137 hw)) Via.refl e0 P8 (g := (mkF m 1 #[vA a_, vI w0, .unset, .unset] [(.ref a_)])) rfl rfl (hb hby d317)
  obtain ⟨_, _, ⟨T8, L8, k8, n8⟩, -, X8, ⟨Lc8, hQ8, l8, y8, z8⟩, st8⟩ := Jvm.LawKit.callS X7 hx (y := m_19) hown (mvT hZ (w_176 hw)) (mvT hZ (w_177 hw)) (mvT hZ (w_178 hw)) (mvT hZ (w_179 hw)) (by decide) (backOf (W := 1) (rm_ssz l Z a0 hw [] w0 h0 n0 (by omega) hw0) hZ (w_179 hw) (w_178 hw) (by decide) (by decide)) (g := (mkF m 7 #[vA a_, vI w0, vI cnt, .unset] [(.int w0), (.int cnt)])) rfl (by rw [hml]; rfl) (argsL := [(.int w0)]) (rest := [(.int cnt)]) (lenOf pd_6 rfl) rfl (Nat.le_of_eq rfl) (hb hby d321) (fun _ _ => ⟨rfl, e7, (by decide : 0 + 0 ≤ _), (by decide : 0 + 0 ≤ _)⟩)
  dsimp only [Pt.U, Pt.locs, Pt.cells, Pt.slots] at X8 l8 y8 z8 st8 hQ8
  rw [l8, y8, z8] at X8
  obtain ⟨x8_sz, rfl, Nq8, Kq8, r8_0⟩ := hQ8
  have N8 := Fr.app N0 Nq8
  obtain ⟨cq9, kq9, qa9, qb9, qc9⟩ := isOf hZ Kq8 P4
  obtain ⟨cc9, ca9, cb9⟩ := P4.cell
  obtain ⟨_, _, ⟨T9, L9, k9, n9⟩, -, X9, ⟨Lc9, hQ9, l9, y9, z9⟩, st9⟩ := X8.privateBack hx (y := m_13) hown (mvT hZ (w_139 hw)) (mvT hZ (w_140 hw)) (mvT hZ (own_selOwn (by decide) (w_140 hw) (Cond.privateMethod_at (w_141 hw)) (w_142 hw))) (Cond.privateMethod_at (mvP hZ (w_141 hw) (args := #[]))) (mvT hZ (w_143 hw)) (by decide) (backOf (W := 0) (rm_ens l Z a0 hw [] a_ v_ kv N cnt xs ((cnt + x8_sz)) h0 n0 (by omega) P4 P5 P6 P7 P8 P9 (by omega) (by omega) (fun q => P12 q) hN (own_a1 hr r8_0)) hZ (w_143 hw) (w_109 hw) (by decide) (by decide)) (g := (mkF m 14 #[vA a_, vI w0, vI cnt, .val (.int (cnt + x8_sz))] [(.int (cnt + x8_sz)), (.ref a_)])) rfl (by rw [hml]; rfl) (Steps.refl _) (a := a_) (cell := cc9) (by rw [Kq8]; exact ca9) cb9 (argsL := [(.int (cnt + x8_sz))]) (rest := []) (lenOf pd_11 rfl) rfl (Nat.le_of_eq rfl) (hb hby d326) (fun _ _ => ⟨rfl, Kq8, (by decide : 0 + 1 ≤ _), (by decide : 0 + 70 ≤ _)⟩)
  dsimp only [Pt.U, Pt.locs, Pt.cells, Pt.slots] at X9 l9 y9 z9 st9 hQ9
  rw [l9, y9, z9] at X9
  obtain ⟨x9_b, x9_k, x9_N2, x9_ys, rfl, Nq9, Kq9, r9_0, r9_1, r9_2, r9_3, r9_4, r9_5, r9_6, r9_7, r9_8, r9_9, r9_10⟩ := hQ9
  have N9 := Fr.app N8 Nq9
  have z9' := Kq9.1
  have K9 := K0.trans Kq9 (allS (Or.inl (List.mem_of_getElem? (i := 0) rfl)) all0)
  have lt10 := own_l r9_0.lt
  have lt11 := own_l r9_1.lt
  have lt12 := own_l r9_2.lt
  have lt13 := own_l r9_3.lt
  have lt14 := own_l r9_4.lt
  have lt15 := own_l r9_5.lt
  have oe9_8 := own_or r9_8
  have f17 := P0.keep Kq9 (allS (by omega) all0)
  obtain ⟨cq16, kq16, qa16, qb16, qc16⟩ := isOf hZ rfl r9_0
  obtain ⟨_, _, ⟨T16, L16, k16, n16⟩, -, X16, ⟨Lc16, hQ16, l16, y16, z16⟩, st16⟩ := X9.virtualBack hx (y := m_21) (z := m_21) hown (mvT hZ (w_180 hw)) (mvT hZ (w_181 hw)) (notFace_of_selects (args := #[]) (mvT hZ (w_183 hw))) (mvT hZ (w_183 hw)) (mvT hZ (w_182 hw)) (by decide) (backOf (W := 0) (rm_isL l Z a0 hw [] a_ cp T9.heap n0 (by omega) f17 P1 r9_1 hcs) hZ (w_184 hw) (w_109 hw) (by decide) (by decide)) qa16 qc16 (g := (mkF m 18 #[vA a_, vI w0, vI cnt, .val (.int (cnt + x8_sz))] [(.ref a_)])) rfl (by rw [hml]; rfl) (Steps.refl _) (argsL := []) (rest := []) (lenOf pd_14 rfl) rfl (Nat.le_of_eq rfl) (hb hby d328) (fun _ _ => ⟨rfl, rfl, (by decide : 1 + 0 ≤ _), (by decide : 70 + 0 ≤ _)⟩)
  dsimp only [Pt.U, Pt.locs, Pt.cells, Pt.slots] at X16 l16 y16 z16 st16 hQ16
  rw [l16, y16, z16] at X16
  obtain ⟨rfl, Nq16, Kq16⟩ := hQ16
  have N16 := Fr.app N9 Nq16
  obtain ⟨T18, X18, e18, st18⟩ := getF X16 hx hZ hown (host := "") (Or.inl (w_113 hw)) Via.refl Kq16 r9_3 (g := (mkF m 27 #[vA a_, vI w0, vI cnt, .val (.int (cnt + x8_sz))] [(.ref a_), (.int (cnt + x8_sz)), (.int w0)])) rfl rfl (hb hby d333)
  obtain ⟨_, _, ⟨T19, L19, k19, n19⟩, -, X19, ⟨Lc19, hQ19, l19, y19, z19⟩, st19⟩ := Jvm.LawKit.callS X18 hx (y := m_20) hown (mvT hZ (w_185 hw)) (mvT hZ (w_186 hw)) (mvT hZ (w_178 hw)) (mvT hZ (w_187 hw)) (by decide) (backOf (W := 0) (rm_gch l Z a0 hw [] w0 ((cnt + x8_sz)) x9_b x9_k x9_N2 x9_ys od ko vo ot kt2 vt T9.heap n0 (by omega) f17 P2 P3 r9_5 (by omega) hw0 (own_a2 hr r8_0 r9_6 r9_7) BO BT) hZ (w_187 hw) (w_178 hw) (by decide) (by decide)) (g := (mkF m 30 #[vA a_, vI w0, vI cnt, .val (.int (cnt + x8_sz))] [(.ref x9_b), (.int (cnt + x8_sz)), (.int w0)])) rfl (by rw [hml]; rfl) (argsL := [(.int w0), (.int (cnt + x8_sz)), (.ref x9_b)]) (rest := []) (lenOf pd_15 rfl) rfl (Nat.le_of_eq rfl) (hb hby d334) (fun _ _ => ⟨rfl, e18, (by decide : 1 + 0 ≤ _), (by decide : 70 + 0 ≤ _)⟩)
  dsimp only [Pt.U, Pt.locs, Pt.cells, Pt.slots] at X19 l19 y19 z19 st19 hQ19
  rw [l19, y19, z19] at X19
  obtain ⟨x19_rp, x19_ys, rfl, Nq19, Kq19, r19_0⟩ := hQ19
  have N19 := Fr.app N16 Nq19
  have z19' := Kq19.1
  have K19 := K9.trans Kq19 (allS (r9_8.elim (fun q => q ▸ (Or.inl (List.mem_of_getElem? (i := 1) rfl))) (fun q => Or.inr (by omega))) all0)
  have lt20 := own_l r19_0.lt
  have f22 := r9_2.keep Kq19 (ninS (fun q => r9_10 q) nin0)
  have f23 := r9_0.keep Kq19
  obtain ⟨T21, h21, X21, e21, W21, st21⟩ := putF X19 hx hZ hown (host := "") (Or.inl (w_137 hw)) Via.refl rfl f22 f23 (Or.inl (w_138 hw)) (w_100 hw) (ty := .int) (by decide) rfl rfl (g := (mkF m 50 #[vA a_, vI w0, vI cnt, .val (.int (cnt + x8_sz))] [(.int (cnt + x8_sz)), (.ref a_)])) rfl rfl (hb hby d339)
  have F21 := f22.same W21
  have z21 := W21.size
  have K21 := K19.wr W21 (Or.inl (List.mem_of_getElem? (i := 0) rfl))
  have N21 := Fr.snoc X21 N19 (by omega)
  have f24 := f23.wr W21
  have f25 := r9_1.keep Kq19 (ninS (fun q => r9_10 q) nin0)
  have f26 := f25.other W21 (Or.inr (slot_ne (a0 := a0) (t := .byte) (t' := .int) (Or.inl (w_116 hw)) (Or.inl (w_138 hw)) (by decide) (by decide) (by decide)))
  have f27 := r9_3.keep Kq19 (ninS (fun q => r9_10 q) nin0)
  have f28 := f27.other W21 (Or.inr (slot_ne (a0 := a0) (t := (.array .byte)) (t' := .int) (Or.inl (w_114 hw)) (Or.inl (w_138 hw)) (by decide) (by decide) (by decide)))
  have f29 := r9_4.keep Kq19
  have f30 := f29.wr W21
  have f31 := r19_0.other W21 (fun q => r9_10 q.symm)
  refine ⟨_, _, _, _, some (.ref a_), X21, by decide, by decide, nofun, ?_, fun fs hr => castTop (ef_13 m a_ w0) ?_⟩
  · show Q_api Z w0 cp a_ v_ kv N cnt xs od ko vo ot kt2 vt h0 n0 _ T21.heap _
    rw [(e21 : T21.heap = h21)]
    exact ⟨x9_b, x9_k, x9_N2, x19_ys, x8_sz, rfl, N21, K21, f24, f26, F21, f28, f30, f31, r9_6, r9_7, r9_8, (by omega), (fun q => r9_10 q), r8_0⟩
  · show Steps _ _ _ (s₁.setTop (mkF m 0 #[vA a_, vI w0, .unset, .unset] [])) _
    refine XS.aloadN X0.here hx rfl (hb hby d316) rfl rfl ?_
    show Steps _ _ _ (s₁.setTop (mkF m 1 #[vA a_, vI w0, .unset, .unset] [(.ref a_)])) _
    refine st7 _ ?_
    show Steps _ _ _ (T7.setTop (mkF m 4 #[vA a_, vI w0, .unset, .unset] [(.int cnt)])) _
    refine XS.istoreN X7.here hx rfl (hb hby d318) rfl (l' := #[vA a_, vI w0, vI cnt, .unset]) rfl ?_
    show Steps _ _ _ (T7.setTop (mkF m 5 #[vA a_, vI w0, vI cnt, .unset] [])) _
    refine XS.iloadN X7.here hx rfl (hb hby d319) rfl ?_
    show Steps _ _ _ (T7.setTop (mkF m 6 #[vA a_, vI w0, vI cnt, .unset] [(.int cnt)])) _
    refine XS.iloadN X7.here hx rfl (hb hby d320) rfl ?_
    show Steps _ _ _ (T7.setTop (mkF m 7 #[vA a_, vI w0, vI cnt, .unset] [(.int w0), (.int cnt)])) _
    refine st8 _ ?_
    show Steps _ _ _ (T8.setTop (mkF m 10 #[vA a_, vI w0, vI cnt, .unset] [(.int x8_sz), (.int cnt)])) _
    refine XS.iadd X8.here hx rfl (hb hby d322) rfl ?_
    show Steps _ _ _ (T8.setTop (mkF m 11 #[vA a_, vI w0, vI cnt, .unset] [(.int (cnt + x8_sz))])) _
    refine XS.istoreN X8.here hx rfl (hb hby d323) rfl (l' := #[vA a_, vI w0, vI cnt, .val (.int (cnt + x8_sz))]) rfl ?_
    show Steps _ _ _ (T8.setTop (mkF m 12 #[vA a_, vI w0, vI cnt, .val (.int (cnt + x8_sz))] [])) _
    refine XS.aloadN X8.here hx rfl (hb hby d324) rfl rfl ?_
    show Steps _ _ _ (T8.setTop (mkF m 13 #[vA a_, vI w0, vI cnt, .val (.int (cnt + x8_sz))] [(.ref a_)])) _
    refine XS.iloadN X8.here hx rfl (hb hby d325) rfl ?_
    show Steps _ _ _ (T8.setTop (mkF m 14 #[vA a_, vI w0, vI cnt, .val (.int (cnt + x8_sz))] [(.int (cnt + x8_sz)), (.ref a_)])) _
    refine st9.trans ?_
    show Steps _ _ _ (T9.setTop (mkF m 17 #[vA a_, vI w0, vI cnt, .val (.int (cnt + x8_sz))] [])) _
    refine XS.aloadN X9.here hx rfl (hb hby d327) rfl rfl ?_
    show Steps _ _ _ (T9.setTop (mkF m 18 #[vA a_, vI w0, vI cnt, .val (.int (cnt + x8_sz))] [(.ref a_)])) _
    refine st16.trans ?_
    show Steps _ _ _ (T16.setTop (mkF m 21 #[vA a_, vI w0, vI cnt, .val (.int (cnt + x8_sz))] [(.int 1)])) _
    refine XS.ifNo X16.here hx rfl (hb hby d329) rfl ((if0 _ _).trans (feq ((by decide) : ¬ ((1 : Int32) = (0 : Int32)))).1) ?_
    show Steps _ _ _ (T16.setTop (mkF m 24 #[vA a_, vI w0, vI cnt, .val (.int (cnt + x8_sz))] [])) _
    refine XS.iloadN X16.here hx rfl (hb hby d330) rfl ?_
    show Steps _ _ _ (T16.setTop (mkF m 25 #[vA a_, vI w0, vI cnt, .val (.int (cnt + x8_sz))] [(.int w0)])) _
    refine XS.iloadN X16.here hx rfl (hb hby d331) rfl ?_
    show Steps _ _ _ (T16.setTop (mkF m 26 #[vA a_, vI w0, vI cnt, .val (.int (cnt + x8_sz))] [(.int (cnt + x8_sz)), (.int w0)])) _
    refine XS.aloadN X16.here hx rfl (hb hby d332) rfl rfl ?_
    show Steps _ _ _ (T16.setTop (mkF m 27 #[vA a_, vI w0, vI cnt, .val (.int (cnt + x8_sz))] [(.ref a_), (.int (cnt + x8_sz)), (.int w0)])) _
    refine st18 _ ?_
    show Steps _ _ _ (T18.setTop (mkF m 30 #[vA a_, vI w0, vI cnt, .val (.int (cnt + x8_sz))] [(.ref x9_b), (.int (cnt + x8_sz)), (.int w0)])) _
    refine st19 _ ?_
    show Steps _ _ _ (T19.setTop (mkF m 33 #[vA a_, vI w0, vI cnt, .val (.int (cnt + x8_sz))] [(.int x19_rp)])) _
    refine XS.pop X19.here hx rfl (hb hby d335) rfl rfl ?_
    show Steps _ _ _ (T19.setTop (mkF m 34 #[vA a_, vI w0, vI cnt, .val (.int (cnt + x8_sz))] [])) _
    refine XS.goto X19.here hx rfl (pc0 := 34) (pc' := 48) rfl (hb hby d336) (by decide) (by decide) ?_
    show Steps _ _ _ (T19.setTop (mkF m 48 #[vA a_, vI w0, vI cnt, .val (.int (cnt + x8_sz))] [])) _
    refine XS.aloadN X19.here hx rfl (hb hby d337) rfl rfl ?_
    show Steps _ _ _ (T19.setTop (mkF m 49 #[vA a_, vI w0, vI cnt, .val (.int (cnt + x8_sz))] [(.ref a_)])) _
    refine XS.iloadN X19.here hx rfl (hb hby d338) rfl ?_
    show Steps _ _ _ (T19.setTop (mkF m 50 #[vA a_, vI w0, vI cnt, .val (.int (cnt + x8_sz))] [(.int (cnt + x8_sz)), (.ref a_)])) _
    refine st21 _ ?_
    show Steps _ _ _ (T21.setTop (mkF m 53 #[vA a_, vI w0, vI cnt, .val (.int (cnt + x8_sz))] [])) _
    refine XS.aloadN X21.here hx rfl (hb hby d340) rfl rfl ?_
    show Steps _ _ _ (T21.setTop (mkF m 54 #[vA a_, vI w0, vI cnt, .val (.int (cnt + x8_sz))] [(.ref a_)])) _
    exact retOut X21 hx hret (own_narrow_ref rfl) (Or.inr (Or.inr (Or.inr (Or.inr ⟨rfl, rfl, rfl⟩)))) (hb hby d341) hr
theorem d342 : decode jdk_67_method_15_code 0 = .ok (.aload_n 0, 1) := by decide +kernel
theorem d343 : decode jdk_67_method_15_code 1 = .ok (.iload_n 1, 1) := by decide +kernel
theorem w_172 {Z : State} {a0 : Array Value} (hw : HW Z a0) : (Jvm.Cond.methodLink "java/lang/StringBuilder" (53 : Nat) m_22).before a0 Z = true := hw _ (List.mem_of_getElem? (i := 172) rfl)
theorem w_175 {Z : State} {a0 : Array Value} (hw : HW Z a0) : (Jvm.Cond.code m_22 jdk_68_method_32_code (4 : Nat) (Option.some (FieldType.object "java/lang/AbstractStringBuilder"))).before a0 Z = true := hw _ (List.mem_of_getElem? (i := 175) rfl)
theorem pd_16 : parseMethodDescriptor "(I)Ljava/lang/AbstractStringBuilder;" = some ⟨[.int], some (.object "java/lang/AbstractStringBuilder")⟩ := by decide +kernel
theorem d344 : decode jdk_67_method_15_code 2 = .ok (.invokespecial 53, 3) := by decide +kernel
theorem w_173 {Z : State} {a0 : Array Value} (hw : HW Z a0) : (Jvm.Cond.instanceMethod m_22).before a0 Z = true := hw _ (List.mem_of_getElem? (i := 173) rfl)
theorem d345 : decode jdk_67_method_15_code 5 = .ok (.pop, 1) := by decide +kernel
theorem d346 : decode jdk_67_method_15_code 6 = .ok (.aload_n 0, 1) := by decide +kernel
theorem d347 : decode jdk_67_method_15_code 7 = .ok (.areturn, 1) := by decide +kernel
theorem ef_14 (m : MethodId) (x0 : Addr) (x1 : Int32) : entryFrame m #[(.ref x0), (.int x1)] 2 = mkF m 0 #[vA x0, vI x1] [] := by first | (simp [entryFrame, mkF, argsToLocals, Value.category, maxLocals]; done) | rfl
abbrev m_23 : MethodName := (⟨"java/lang/StringBuilder", "append", "(I)Ljava/lang/StringBuilder;"⟩ : MethodName)
def Q_aps_i (Z : State) (w0 : Int32) (cp : Int32) (a_ : Addr) (v_ : Addr) (kv : ClassId) (N : Int32) (cnt : Int32) (xs : List Value) (od : Addr) (ko : ClassId) (vo : List Value) (ot : Addr) (kt2 : ClassId) (vt : List Value) (h0 : Heap) (n0 : Nat) (v : Option Value) (h : Heap) (L : List Loc) : Prop := ∃ (b : Addr) (k : ClassId) (N2 : Int32) (ys : List Value) (sz : Int32), (v = some (.ref a_)) ∧ (Fr n0 L) ∧ (Keep h0 h [a_, v_]) ∧ (Exa Z h a_ "java/lang/StringBuilder") ∧ (fld3 Z h a_ (.int 0)) ∧ (fld4 Z h a_ (.int (cnt + sz))) ∧ (fld2 Z h a_ (.ref b)) ∧ (Exa Z h b "[B") ∧ (Arv Z h b k .byte N2 ys (.int 0)) ∧ (oN N2) ∧ ((cnt + sz).toInt ≤ N2.toInt) ∧ (b = v_ ∨ h0.size ≤ b) ∧ (n0 ≤ b) ∧ (a_ ≠ b) ∧ (oSZ sz)
theorem rm_aps_i (l : Launch) (Z : State) (a0 : Array Value) (hw : HW Z a0) (ws : List Jvm.Cond) (w0 : Int32) (cp : Int32) (a_ : Addr) (v_ : Addr) (kv : ClassId) (N : Int32) (cnt : Int32) (xs : List Value) (od : Addr) (ko : ClassId) (vo : List Value) (ot : Addr) (kt2 : ClassId) (vt : List Value) (h0 : Heap) (n0 : Nat) (Z0 : n0 ≤ h0.size) (P0 : Old Z n0 h0) (P1 : sta0 Z (.int cp)) (P2 : Sta Z Z.heap "java/lang/Integer" "DigitOnes" "[B" (.ref od)) (P3 : Sta Z Z.heap "java/lang/Integer" "DigitTens" "[B" (.ref ot)) (P4 : Exa Z h0 a_ "java/lang/StringBuilder") (P5 : fld2 Z h0 a_ (.ref v_)) (P6 : Exa Z h0 v_ "[B") (P7 : fld3 Z h0 a_ (.int 0)) (P8 : fld4 Z h0 a_ (.int cnt)) (P9 : Arv Z h0 v_ kv .byte N xs (.int 0)) (P10 : n0 ≤ a_) (P11 : n0 ≤ v_) (P12 : a_ ≠ v_) (hcs : ¬ (cp = (0 : Int32))) (hw0 : ¬ (w0 < (0 : Int32))) (hN : oN N) (hr : oR2 cnt N) (BO : Arv Z Z.heap od ko .byte (100 : Int32) vo (.int 0)) (BT : Arv Z Z.heap ot kt2 .byte (100 : Int32) vt (.int 0)) :
    MF l Z m_23 jdk_67_method_15_code 2 (some (.object "java/lang/StringBuilder")) ws (oR 5 1 70 77) #[(.ref a_), (.int w0)] h0 (Q_aps_i Z w0 cp a_ v_ kv N cnt xs od ko vo ot kt2 vt h0 n0) := by
  refine own_body (cls := "java/lang/StringBuilder") (plainFor_of_name pn_7) rfl (fun p e s m below meth c s₁ hx hby hml hown hnm hret hZ X0 e0 => ?_)
  have N0 := Fr.nil n0
  have K0 := Keep.refl h0 [a_, v_]
  have lt1 := own_l P4.lt
  have lt2 := own_l P5.lt
  have lt3 := own_l P6.lt
  have lt4 := own_l P7.lt
  have lt5 := own_l P8.lt
  have lt6 := own_l P9.lt
  obtain ⟨_, _, ⟨T7, L7, k7, n7⟩, -, X7, ⟨Lc7, hQ7, l7, y7, z7⟩, st7⟩ := superBack X0 hx hZ (y := m_22) hown (w_172 hw) (own_sameOwn (by decide) (w_173 hw) (w_140 hw) (notFace_of_selects (args := a0) (w_142 hw)) rfl) (w_173 hw) (w_124 hw) (by decide) (backOf (W := 0) (rm_api l Z a0 hw [] w0 cp a_ v_ kv N cnt xs od ko vo ot kt2 vt h0 n0 (by omega) P0 P1 P2 P3 P4 P5 P6 P7 P8 P9 (by omega) (by omega) (fun q => P12 q) hcs hw0 hN hr BO BT) hZ (w_175 hw) (w_109 hw) (by decide) (by decide)) e0 (Ins.self P4) (g := (mkF m 2 #[vA a_, vI w0] [(.int w0), (.ref a_)])) rfl (by rw [hml]; rfl) (w_175 hw) (argsL := [(.int w0)]) (rest := []) (lenOf pd_16 rfl) rfl (Nat.le_of_eq rfl) (hb hby d344) (fun _ _ => ⟨rfl, e0, (by decide : 0 + 1 ≤ _), (by decide : 0 + 70 ≤ _)⟩)
  dsimp only [Pt.U, Pt.locs, Pt.cells, Pt.slots] at X7 l7 y7 z7 st7 hQ7
  rw [l7, y7, z7] at X7
  obtain ⟨x7_b, x7_k, x7_N2, x7_ys, x7_sz, rfl, Nq7, Kq7, r7_0, r7_1, r7_2, r7_3, r7_4, r7_5, r7_6, r7_7, r7_8, r7_9, r7_10, r7_11⟩ := hQ7
  have N7 := Fr.app N0 Nq7
  have z7' := Kq7.1
  have K7 := K0.trans Kq7 (allS (Or.inl (List.mem_of_getElem? (i := 0) rfl)) (allS (Or.inl (List.mem_of_getElem? (i := 1) rfl)) all0))
  have lt8 := own_l r7_0.lt
  have lt9 := own_l r7_1.lt
  have lt10 := own_l r7_2.lt
  have lt11 := own_l r7_3.lt
  have lt12 := own_l r7_4.lt
  have lt13 := own_l r7_5.lt
  have oe7_8 := own_or r7_8
  refine ⟨_, _, _, _, some (.ref a_), X7, by decide, by decide, nofun, ?_, fun fs hr => castTop (ef_14 m a_ w0) ?_⟩
  · show Q_aps_i Z w0 cp a_ v_ kv N cnt xs od ko vo ot kt2 vt h0 n0 _ T7.heap _
    exact ⟨x7_b, x7_k, x7_N2, x7_ys, x7_sz, rfl, N7, K7, r7_0, r7_1, r7_2, r7_3, r7_4, r7_5, r7_6, r7_7, r7_8, (by omega), (fun q => r7_10 q), r7_11⟩
  · show Steps _ _ _ (s₁.setTop (mkF m 0 #[vA a_, vI w0] [])) _
    refine XS.aloadN X0.here hx rfl (hb hby d342) rfl rfl ?_
    show Steps _ _ _ (s₁.setTop (mkF m 1 #[vA a_, vI w0] [(.ref a_)])) _
    refine XS.iloadN X0.here hx rfl (hb hby d343) rfl ?_
    show Steps _ _ _ (s₁.setTop (mkF m 2 #[vA a_, vI w0] [(.int w0), (.ref a_)])) _
    refine st7.trans ?_
    show Steps _ _ _ (T7.setTop (mkF m 5 #[vA a_, vI w0] [(.ref a_)])) _
    refine XS.pop X7.here hx rfl (hb hby d345) rfl rfl ?_
    show Steps _ _ _ (T7.setTop (mkF m 6 #[vA a_, vI w0] [])) _
    refine XS.aloadN X7.here hx rfl (hb hby d346) rfl rfl ?_
    show Steps _ _ _ (T7.setTop (mkF m 7 #[vA a_, vI w0] [(.ref a_)])) _
    exact retOut X7 hx hret (own_narrow_ref rfl) (Or.inr (Or.inr (Or.inr (Or.inr ⟨rfl, rfl, rfl⟩)))) (hb hby d347) hr
theorem d348 : decode jdk_68_method_2_code 0 = .ok (.aload_n 0, 1) := by decide +kernel
theorem w_111 {Z : State} {a0 : Array Value} (hw : HW Z a0) : (Jvm.Cond.methodLink "java/lang/AbstractStringBuilder" (3 : Nat) m_2).before a0 Z = true := hw _ (List.mem_of_getElem? (i := 111) rfl)
theorem d349 : decode jdk_68_method_2_code 1 = .ok (.invokespecial 3, 3) := by decide +kernel
theorem d350 : decode jdk_68_method_2_code 4 = .ok (.getstatic 18, 3) := by decide +kernel
theorem d351 : decode jdk_68_method_2_code 7 = .ok (.ifCond .eq 18, 3) := by decide +kernel
theorem d352 : decode jdk_68_method_2_code 10 = .ok (.aload_n 0, 1) := by decide +kernel
theorem d353 : decode jdk_68_method_2_code 11 = .ok (.iload_n 1, 1) := by decide +kernel
theorem d354 : decode jdk_68_method_2_code 12 = .ok (.newarray .byte, 2) := by decide +kernel
theorem d355 : decode jdk_68_method_2_code 14 = .ok (.putfield 15, 3) := by decide +kernel
theorem d356 : decode jdk_68_method_2_code 17 = .ok (.aload_n 0, 1) := by decide +kernel
theorem d357 : decode jdk_68_method_2_code 18 = .ok (.iconst 0, 1) := by decide +kernel
theorem d358 : decode jdk_68_method_2_code 19 = .ok (.putfield 22, 3) := by decide +kernel
theorem d359 : decode jdk_68_method_2_code 22 = .ok (.goto 16, 3) := by decide +kernel
theorem d360 : decode jdk_68_method_2_code 38 = .ok (.return_, 1) := by decide +kernel
abbrev m_24 : MethodName := (⟨"java/lang/AbstractStringBuilder", "<init>", "(I)V"⟩ : MethodName)
def Q_binit (Z : State) (a_ : Addr) (c0 : Int32) (cp : Int32) (h0 : Heap) (n0 : Nat) (v : Option Value) (h : Heap) (L : List Loc) : Prop := ∃ (b : Addr) (k : ClassId), (v = none) ∧ (Fr n0 L) ∧ (Keep h0 h [a_]) ∧ (h0.size ≤ b) ∧ (Exa Z h a_ "java/lang/StringBuilder") ∧ (fld2 Z h a_ (.ref b)) ∧ (fld3 Z h a_ (.int 0)) ∧ (fld4 Z h a_ (.int 0)) ∧ (Exa Z h b "[B") ∧ (Arv Z h b k .byte (16 : Int32) [] (.int 0))
theorem rm_binit (l : Launch) (Z : State) (a0 : Array Value) (hw : HW Z a0) (ws : List Jvm.Cond) (a_ : Addr) (c0 : Int32) (cp : Int32) (h0 : Heap) (n0 : Nat) (Z0 : n0 ≤ h0.size) (P0 : Old Z n0 h0) (P1 : sta0 Z (.int cp)) (P2 : Exa Z h0 a_ "java/lang/StringBuilder") (P3 : fld2 Z h0 a_ .null) (P4 : fld3 Z h0 a_ (.int c0)) (P5 : fld4 Z h0 a_ (.int 0)) (P6 : n0 ≤ a_) (hcs : ¬ (cp = (0 : Int32))) :
    MF l Z m_24 jdk_68_method_2_code 2 none ws (oR 1 1 16 12) #[(.ref a_), (.int 16)] h0 (Q_binit Z a_ c0 cp h0 n0) := by
  refine own_body (cls := "java/lang/AbstractStringBuilder") (plainFor_of_name pn_4) rfl (fun p e s m below meth c s₁ hx hby hml hown hnm hret hZ X0 e0 => ?_)
  have N0 := Fr.nil n0
  have K0 := Keep.refl h0 [a_]
  have lt1 := own_l P2.lt
  have lt2 := own_l P3.lt
  have lt3 := own_l P4.lt
  have lt4 := own_l P5.lt
  obtain ⟨T5, X5, e5, st5⟩ := initO X0 hx hZ hown (w_111 hw) (w_28 hw) (w_29 hw) e0 (g := (mkF m 1 #[vA a_, vI 16] [(.ref a_)])) rfl (by rw [hml]; rfl) rfl (hb hby d349) (by decide) (W := 0) (Nat.le_of_eq rfl) (by decide)
  obtain ⟨T6, X6, e6, st6⟩ := getS2 X5 hx hZ hown (host := "") (Or.inl (w_112 hw)) Via.refl e5 (P1.ext P0.2) (g := (mkF m 4 #[vA a_, vI 16] [])) rfl (hb hby d350)
  obtain ⟨T7, h7, k7, X7, e7, E7, A7, AE7, st7⟩ := newPE X6 hx hZ (aty := .byte) (w_22 hw) e6 (g := (mkF m 12 #[vA a_, vI 16] [(.int 16), (.ref a_)])) rfl (hb hby d354) rfl (by decide) (cap := 16) (by decide) (by decide) (by decide) (by decide) (ad := "[B") (by decide)
  obtain ⟨b7, g7⟩ : ∃ z, z = h0.size := ⟨_, rfl⟩
  rw [← g7] at A7 AE7 st7
  have z7 := E7.1
  have K7 := K0.ext E7
  have V7 : Arv Z h7 b7 k7 .byte (16 : Int32) [] (.int 0) := Arv.new A7 (by decide)
  have lt8 := own_l V7.lt
  have f10 := P3.ext E7
  have f11 := P2.ext E7
  obtain ⟨T9, h9, X9, e9, W9, st9⟩ := putF X7 hx hZ hown (host := "") (Or.inl (w_113 hw)) Via.refl e7 f10 f11 (Or.inl (w_114 hw)) (w_100 hw) (ty := (.array .byte)) (by decide) rfl rfl (g := (mkF m 14 #[vA a_, vI 16] [(.ref b7), (.ref a_)])) rfl rfl (hb hby d355)
  have F9 := f10.same W9
  have z9 := W9.size
  have K9 := K7.wr W9 (Or.inl (List.mem_of_getElem? (i := 0) rfl))
  have N9 := Fr.snoc X9 N0 (by omega)
  have f13 := P4.ext E7
  have f14 := f13.other W9 (Or.inr (slot_ne (a0 := a0) (t := .byte) (t' := (.array .byte)) (Or.inl (w_116 hw)) (Or.inl (w_114 hw)) (by decide) (by decide) (by decide)))
  have f15 := f11.wr W9
  obtain ⟨T12, h12, X12, e12, W12, st12⟩ := putFN X9 hx hZ hown (w_115 hw) Via.refl e9 f14 f15 (Or.inl (w_116 hw)) (w_100 hw) (ty := .byte) (v' := (.int 0)) (by decide) rfl rfl (g := (mkF m 19 #[vA a_, vI 16] [(.int 0), (.ref a_)])) rfl rfl (hb hby d358)
  have F12 := f14.same W12
  have z12 := W12.size
  have K12 := K9.wr W12 (Or.inl (List.mem_of_getElem? (i := 0) rfl))
  have N12 := Fr.snoc X12 N9 (by omega)
  have f16 := f15.wr W12
  have f17 := F9.other W12 (Or.inr (slot_ne (a0 := a0) (t := (.array .byte)) (t' := .byte) (Or.inl (w_114 hw)) (Or.inl (w_116 hw)) (by decide) (by decide) (by decide)))
  have f18 := P5.ext E7
  have f19 := f18.other W9 (Or.inr (slot_ne (a0 := a0) (t := .int) (t' := (.array .byte)) (Or.inl (w_138 hw)) (Or.inl (w_114 hw)) (by decide) (by decide) (by decide)))
  have f20 := f19.other W12 (Or.inr (slot_ne (a0 := a0) (t := .int) (t' := .byte) (Or.inl (w_138 hw)) (Or.inl (w_116 hw)) (by decide) (by decide) (by decide)))
  have f21 := AE7.wr W9
  have f22 := f21.wr W12
  have f23 := V7.other W9 (own_ne (by omega))
  have f24 := f23.other W12 (own_ne (by omega))
  refine ⟨_, _, _, _, none, X12, by decide, by decide, fun _ => rfl, ?_, fun fs hr => castTop (ef_14 m a_ (16 : Int32)) ?_⟩
  · show Q_binit Z a_ c0 cp h0 n0 _ T12.heap _
    rw [(e12 : T12.heap = h12)]
    exact ⟨b7, k7, rfl, N12, K12, (by omega), f16, f17, F12, f20, f22, f24⟩
  · show Steps _ _ _ (s₁.setTop (mkF m 0 #[vA a_, vI 16] [])) _
    refine XS.aloadN X0.here hx rfl (hb hby d348) rfl rfl ?_
    show Steps _ _ _ (s₁.setTop (mkF m 1 #[vA a_, vI 16] [(.ref a_)])) _
    refine st5 _ ?_
    show Steps _ _ _ (T5.setTop (mkF m 4 #[vA a_, vI 16] [])) _
    refine st6 _ ?_
    show Steps _ _ _ (T6.setTop (mkF m 7 #[vA a_, vI 16] [(.int cp)])) _
    refine XS.ifNo X6.here hx rfl (hb hby d351) rfl ((if0 _ _).trans (feq (hcs : ¬ (cp = (0 : Int32)))).1) ?_
    show Steps _ _ _ (T6.setTop (mkF m 10 #[vA a_, vI 16] [])) _
    refine XS.aloadN X6.here hx rfl (hb hby d352) rfl rfl ?_
    show Steps _ _ _ (T6.setTop (mkF m 11 #[vA a_, vI 16] [(.ref a_)])) _
    refine XS.iloadN X6.here hx rfl (hb hby d353) rfl ?_
    show Steps _ _ _ (T6.setTop (mkF m 12 #[vA a_, vI 16] [(.int 16), (.ref a_)])) _
    refine st7 _ ?_
    show Steps _ _ _ (T7.setTop (mkF m 14 #[vA a_, vI 16] [(.ref b7), (.ref a_)])) _
    refine st9 _ ?_
    show Steps _ _ _ (T9.setTop (mkF m 17 #[vA a_, vI 16] [])) _
    refine XS.aloadN X9.here hx rfl (hb hby d356) rfl rfl ?_
    show Steps _ _ _ (T9.setTop (mkF m 18 #[vA a_, vI 16] [(.ref a_)])) _
    refine XS.iconst X9.here hx rfl (hb hby d357) ?_
    show Steps _ _ _ (T9.setTop (mkF m 19 #[vA a_, vI 16] [(.int 0), (.ref a_)])) _
    refine st12 _ ?_
    show Steps _ _ _ (T12.setTop (mkF m 22 #[vA a_, vI 16] [])) _
    refine XS.goto X12.here hx rfl (pc0 := 22) (pc' := 38) rfl (hb hby d359) (by decide) (by decide) ?_
    show Steps _ _ _ (T12.setTop (mkF m 38 #[vA a_, vI 16] [])) _
    exact X12.returnOut hx hret (hb hby d360) hr
theorem d361 : decode jdk_67_method_1_code 0 = .ok (.aload_n 0, 1) := by decide +kernel
theorem d362 : decode jdk_67_method_1_code 1 = .ok (.bipush 16, 2) := by decide +kernel
theorem w_105 {Z : State} {a0 : Array Value} (hw : HW Z a0) : (Jvm.Cond.methodLink "java/lang/StringBuilder" (1 : Nat) m_24).before a0 Z = true := hw _ (List.mem_of_getElem? (i := 105) rfl)
theorem w_110 {Z : State} {a0 : Array Value} (hw : HW Z a0) : (Jvm.Cond.code m_24 jdk_68_method_2_code (2 : Nat) (Option.none : Option Jvm.ClassFile.FieldType)).before a0 Z = true := hw _ (List.mem_of_getElem? (i := 110) rfl)
theorem d363 : decode jdk_67_method_1_code 3 = .ok (.invokespecial 1, 3) := by decide +kernel
theorem w_106 {Z : State} {a0 : Array Value} (hw : HW Z a0) : (Jvm.Cond.instanceMethod m_24).before a0 Z = true := hw _ (List.mem_of_getElem? (i := 106) rfl)
theorem d364 : decode jdk_67_method_1_code 6 = .ok (.return_, 1) := by decide +kernel
abbrev m_25 : MethodName := (⟨"java/lang/StringBuilder", "<init>", "()V"⟩ : MethodName)
def Q_sbi (Z : State) (a_ : Addr) (c0 : Int32) (cp : Int32) (h0 : Heap) (n0 : Nat) (v : Option Value) (h : Heap) (L : List Loc) : Prop := ∃ (b : Addr) (k : ClassId), (v = none) ∧ (Fr n0 L) ∧ (Keep h0 h [a_]) ∧ (h0.size ≤ b) ∧ (Exa Z h a_ "java/lang/StringBuilder") ∧ (fld2 Z h a_ (.ref b)) ∧ (fld3 Z h a_ (.int 0)) ∧ (fld4 Z h a_ (.int 0)) ∧ (Exa Z h b "[B") ∧ (Arv Z h b k .byte (16 : Int32) [] (.int 0))
theorem rm_sbi (l : Launch) (Z : State) (a0 : Array Value) (hw : HW Z a0) (ws : List Jvm.Cond) (a_ : Addr) (c0 : Int32) (cp : Int32) (h0 : Heap) (n0 : Nat) (Z0 : n0 ≤ h0.size) (P0 : Old Z n0 h0) (P1 : sta0 Z (.int cp)) (P2 : Exa Z h0 a_ "java/lang/StringBuilder") (P3 : fld2 Z h0 a_ .null) (P4 : fld3 Z h0 a_ (.int c0)) (P5 : fld4 Z h0 a_ (.int 0)) (P6 : n0 ≤ a_) (hcs : ¬ (cp = (0 : Int32))) :
    MF l Z m_25 jdk_67_method_1_code 1 none ws (oR 2 1 16 25) #[(.ref a_)] h0 (Q_sbi Z a_ c0 cp h0 n0) := by
  refine own_body (cls := "java/lang/StringBuilder") (plainFor_of_name pn_7) rfl (fun p e s m below meth c s₁ hx hby hml hown hnm hret hZ X0 e0 => ?_)
  have N0 := Fr.nil n0
  have K0 := Keep.refl h0 [a_]
  have lt1 := own_l P2.lt
  have lt2 := own_l P3.lt
  have lt3 := own_l P4.lt
  have lt4 := own_l P5.lt
  obtain ⟨_, _, ⟨T5, L5, k5, n5⟩, -, X5, ⟨Lc5, hQ5, l5, y5, z5⟩, st5⟩ := X0.specialBack hx (y := m_24) rfl hown (mvT hZ (w_105 hw)) (mvT hZ (w_106 hw)) (mvT hZ (w_110 hw)) (by decide) (backOf (W := 0) (rm_binit l Z a0 hw [] a_ c0 cp h0 n0 (by omega) P0 P1 P2 P3 P4 P5 (by omega) hcs) hZ (w_110 hw) (w_109 hw) (by decide) (by decide)) (g := (mkF m 3 #[vA a_] [(.int 16), (.ref a_)])) rfl (by rw [hml]; rfl) (Steps.refl _) (a := a_) (argsL := [(.int 16)]) (rest := []) (lenOf pd_11 rfl) rfl (Nat.le_of_eq rfl) (hb hby d363) (fun _ _ => ⟨rfl, e0, (by decide : 0 + 1 ≤ _), (by decide : 0 + 16 ≤ _)⟩)
  dsimp only [Pt.U, Pt.locs, Pt.cells, Pt.slots] at X5 l5 y5 z5 st5 hQ5
  rw [l5, y5, z5] at X5
  obtain ⟨x5_b, x5_k, rfl, Nq5, Kq5, r5_0, r5_1, r5_2, r5_3, r5_4, r5_5, r5_6⟩ := hQ5
  have N5 := Fr.app N0 Nq5
  have z5' := Kq5.1
  have K5 := K0.trans Kq5 (allS (Or.inl (List.mem_of_getElem? (i := 0) rfl)) all0)
  have lt6 := own_l r5_1.lt
  have lt7 := own_l r5_2.lt
  have lt8 := own_l r5_3.lt
  have lt9 := own_l r5_4.lt
  have lt10 := own_l r5_5.lt
  have lt11 := own_l r5_6.lt
  refine ⟨_, _, _, _, none, X5, by decide, by decide, fun _ => rfl, ?_, fun fs hr => castTop (ef_2 m a_) ?_⟩
  · show Q_sbi Z a_ c0 cp h0 n0 _ T5.heap _
    exact ⟨x5_b, x5_k, rfl, N5, K5, (by omega), r5_1, r5_2, r5_3, r5_4, r5_5, r5_6⟩
  · show Steps _ _ _ (s₁.setTop (mkF m 0 #[vA a_] [])) _
    refine XS.aloadN X0.here hx rfl (hb hby d361) rfl rfl ?_
    show Steps _ _ _ (s₁.setTop (mkF m 1 #[vA a_] [(.ref a_)])) _
    refine XS.bipush X0.here hx rfl (hb hby d362) ?_
    show Steps _ _ _ (s₁.setTop (mkF m 3 #[vA a_] [(.int 16), (.ref a_)])) _
    refine st5.trans ?_
    show Steps _ _ _ (T5.setTop (mkF m 6 #[vA a_] [])) _
    exact X5.returnOut hx hret (hb hby d364) hr
theorem d365 : decode jdk_68_method_64_code 0 = .ok (.aload_n 0, 1) := by decide +kernel
theorem d366 : decode jdk_68_method_64_code 1 = .ok (.getfield 15, 3) := by decide +kernel
theorem d367 : decode jdk_68_method_64_code 4 = .ok (.areturn, 1) := by decide +kernel
abbrev m_26 : MethodName := (⟨"java/lang/AbstractStringBuilder", "getValue", "()[B"⟩ : MethodName)
def Q_getV (Z : State) (a_ : Addr) (v_ : Addr) (h0 : Heap) (n0 : Nat) (v : Option Value) (h : Heap) (L : List Loc) : Prop := (v = some (.ref v_)) ∧ (Fr n0 L) ∧ (h = h0)
theorem rm_getV (l : Launch) (Z : State) (a0 : Array Value) (hw : HW Z a0) (ws : List Jvm.Cond) (a_ : Addr) (v_ : Addr) (h0 : Heap) (n0 : Nat) (Z0 : n0 ≤ h0.size) (P0 : fld2 Z h0 a_ (.ref v_)) :
    MF l Z m_26 jdk_68_method_64_code 1 (some (.array .byte)) ws (oR 0 0 0 0) #[(.ref a_)] h0 (Q_getV Z a_ v_ h0 n0) := by
  refine own_body (cls := "java/lang/AbstractStringBuilder") (plainFor_of_name pn_4) rfl (fun p e s m below meth c s₁ hx hby hml hown hnm hret hZ X0 e0 => ?_)
  have N0 := Fr.nil n0
  have lt1 := own_l P0.lt
  obtain ⟨T2, X2, e2, st2⟩ := getF X0 hx hZ hown (host := "") (Or.inl (w_113 hw)) Via.refl e0 P0 (g := (mkF m 1 #[vA a_] [(.ref a_)])) rfl rfl (hb hby d366)
  refine ⟨_, _, _, _, some (.ref v_), X2, by decide, by decide, nofun, ?_, fun fs hr => castTop (ef_2 m a_) ?_⟩
  · show Q_getV Z a_ v_ h0 n0 _ T2.heap _
    rw [(e2 : T2.heap = h0)]
    exact ⟨rfl, N0, rfl⟩
  · show Steps _ _ _ (s₁.setTop (mkF m 0 #[vA a_] [])) _
    refine XS.aloadN X0.here hx rfl (hb hby d365) rfl rfl ?_
    show Steps _ _ _ (s₁.setTop (mkF m 1 #[vA a_] [(.ref a_)])) _
    refine st2 _ ?_
    show Steps _ _ _ (T2.setTop (mkF m 4 #[vA a_] [(.ref v_)])) _
    exact retOut X2 hx hret (own_narrow_ref rfl) (Or.inr (Or.inr (Or.inr (Or.inr ⟨rfl, rfl, rfl⟩)))) (hb hby d367) hr
theorem d368 : decode jdk_68_method_6_code 0 = .ok (.aload_n 0, 1) := by decide +kernel
theorem d369 : decode jdk_68_method_6_code 1 = .ok (.getfield 79, 3) := by decide +kernel
theorem d370 : decode jdk_68_method_6_code 4 = .ok (.ireturn, 1) := by decide +kernel
abbrev m_27 : MethodName := (⟨"java/lang/AbstractStringBuilder", "length", "()I"⟩ : MethodName)
def Q_alen (Z : State) (a_ : Addr) (cnt : Int32) (h0 : Heap) (n0 : Nat) (v : Option Value) (h : Heap) (L : List Loc) : Prop := (v = some (.int cnt)) ∧ (Fr n0 L) ∧ (h = h0)
theorem rm_alen (l : Launch) (Z : State) (a0 : Array Value) (hw : HW Z a0) (ws : List Jvm.Cond) (a_ : Addr) (cnt : Int32) (h0 : Heap) (n0 : Nat) (Z0 : n0 ≤ h0.size) (P0 : fld4 Z h0 a_ (.int cnt)) :
    MF l Z m_27 jdk_68_method_6_code 1 (some .int) ws (oR 0 0 0 0) #[(.ref a_)] h0 (Q_alen Z a_ cnt h0 n0) := by
  refine own_body (cls := "java/lang/AbstractStringBuilder") (plainFor_of_name pn_4) rfl (fun p e s m below meth c s₁ hx hby hml hown hnm hret hZ X0 e0 => ?_)
  have N0 := Fr.nil n0
  have lt1 := own_l P0.lt
  obtain ⟨T2, X2, e2, st2⟩ := getF X0 hx hZ hown (host := "") (Or.inl (w_137 hw)) Via.refl e0 P0 (g := (mkF m 1 #[vA a_] [(.ref a_)])) rfl rfl (hb hby d369)
  refine ⟨_, _, _, _, some (.int cnt), X2, by decide, by decide, nofun, ?_, fun fs hr => castTop (ef_2 m a_) ?_⟩
  · show Q_alen Z a_ cnt h0 n0 _ T2.heap _
    rw [(e2 : T2.heap = h0)]
    exact ⟨rfl, N0, rfl⟩
  · show Steps _ _ _ (s₁.setTop (mkF m 0 #[vA a_] [])) _
    refine XS.aloadN X0.here hx rfl (hb hby d368) rfl rfl ?_
    show Steps _ _ _ (s₁.setTop (mkF m 1 #[vA a_] [(.ref a_)])) _
    refine st2 _ ?_
    show Steps _ _ _ (T2.setTop (mkF m 4 #[vA a_] [(.int cnt)])) _
    exact retI X2 hx hret (hb hby d370) hr
theorem d371 : decode jdk_67_method_93_code 0 = .ok (.aload_n 0, 1) := by decide +kernel
theorem w_237 {Z : State} {a0 : Array Value} (hw : HW Z a0) : (Jvm.Cond.methodLink "java/lang/StringBuilder" (343 : Nat) m_27).before a0 Z = true := hw _ (List.mem_of_getElem? (i := 237) rfl)
theorem w_238 {Z : State} {a0 : Array Value} (hw : HW Z a0) : (Jvm.Cond.code m_27 jdk_68_method_6_code (1 : Nat) (Option.some FieldType.int)).before a0 Z = true := hw _ (List.mem_of_getElem? (i := 238) rfl)
theorem d372 : decode jdk_67_method_93_code 1 = .ok (.invokespecial 343, 3) := by decide +kernel
theorem w_233 {Z : State} {a0 : Array Value} (hw : HW Z a0) : (Jvm.Cond.instanceMethod m_27).before a0 Z = true := hw _ (List.mem_of_getElem? (i := 233) rfl)
theorem d373 : decode jdk_67_method_93_code 4 = .ok (.ireturn, 1) := by decide +kernel
abbrev m_28 : MethodName := (⟨"java/lang/StringBuilder", "length", "()I"⟩ : MethodName)
def Q_blen (Z : State) (a_ : Addr) (cnt : Int32) (h0 : Heap) (n0 : Nat) (v : Option Value) (h : Heap) (L : List Loc) : Prop := (v = some (.int cnt)) ∧ (Fr n0 L) ∧ (h = h0)
theorem rm_blen (l : Launch) (Z : State) (a0 : Array Value) (hw : HW Z a0) (ws : List Jvm.Cond) (a_ : Addr) (cnt : Int32) (h0 : Heap) (n0 : Nat) (Z0 : n0 ≤ h0.size) (P0 : Exa Z h0 a_ "java/lang/StringBuilder") (P1 : fld4 Z h0 a_ (.int cnt)) :
    MF l Z m_28 jdk_67_method_93_code 1 (some .int) ws (oR 1 0 0 12) #[(.ref a_)] h0 (Q_blen Z a_ cnt h0 n0) := by
  refine own_body (cls := "java/lang/StringBuilder") (plainFor_of_name pn_7) rfl (fun p e s m below meth c s₁ hx hby hml hown hnm hret hZ X0 e0 => ?_)
  have N0 := Fr.nil n0
  have lt1 := own_l P0.lt
  have lt2 := own_l P1.lt
  obtain ⟨_, _, ⟨T3, L3, k3, n3⟩, -, X3, ⟨Lc3, hQ3, l3, y3, z3⟩, st3⟩ := superBack X0 hx hZ (y := m_27) hown (w_237 hw) (own_sameOwn (by decide) (w_233 hw) (w_140 hw) (notFace_of_selects (args := a0) (w_142 hw)) rfl) (w_233 hw) (w_124 hw) (by decide) (backOf (W := 0) (rm_alen l Z a0 hw [] a_ cnt h0 n0 (by omega) P1) hZ (w_238 hw) (w_109 hw) (by decide) (by decide)) e0 (Ins.self P0) (g := (mkF m 1 #[vA a_] [(.ref a_)])) rfl (by rw [hml]; rfl) (w_238 hw) (argsL := []) (rest := []) (lenOf pd_10 rfl) rfl (Nat.le_of_eq rfl) (hb hby d372) (fun _ _ => ⟨rfl, e0, (by decide : 0 + 0 ≤ _), (by decide : 0 + 0 ≤ _)⟩)
  dsimp only [Pt.U, Pt.locs, Pt.cells, Pt.slots] at X3 l3 y3 z3 st3 hQ3
  rw [l3, y3, z3] at X3
  obtain ⟨rfl, Nq3, Kq3⟩ := hQ3
  have N3 := Fr.app N0 Nq3
  refine ⟨_, _, _, _, some (.int cnt), X3, by decide, by decide, nofun, ?_, fun fs hr => castTop (ef_2 m a_) ?_⟩
  · show Q_blen Z a_ cnt h0 n0 _ T3.heap _
    rw [(Kq3 : T3.heap = h0)]
    exact ⟨rfl, N3, rfl⟩
  · show Steps _ _ _ (s₁.setTop (mkF m 0 #[vA a_] [])) _
    refine XS.aloadN X0.here hx rfl (hb hby d371) rfl rfl ?_
    show Steps _ _ _ (s₁.setTop (mkF m 1 #[vA a_] [(.ref a_)])) _
    refine st3.trans ?_
    show Steps _ _ _ (T3.setTop (mkF m 4 #[vA a_] [(.int cnt)])) _
    exact retI X3 hx hret (hb hby d373) hr
theorem d374 : decode jdk_65_method_131_code 0 = .ok (.iload_n 1, 1) := by decide +kernel
theorem d375 : decode jdk_65_method_131_code 1 = .ok (.iload_n 0, 1) := by decide +kernel
theorem d376 : decode jdk_65_method_131_code 2 = .ok (.if_icmp .ge 35, 3) := by decide +kernel
theorem d377 : decode jdk_65_method_131_code 37 = .ok (.return_, 1) := by decide +kernel
abbrev m_29 : MethodName := (⟨"java/util/Arrays", "checkLength", "(II)V"⟩ : MethodName)
def Q_chk (Z : State) (cnt : Int32) (h0 : Heap) (n0 : Nat) (v : Option Value) (h : Heap) (L : List Loc) : Prop := (v = none) ∧ (Fr n0 L) ∧ (h = h0)
theorem rm_chk (l : Launch) (Z : State) (a0 : Array Value) (hw : HW Z a0) (ws : List Jvm.Cond) (cnt : Int32) (h0 : Heap) (n0 : Nat) (Z0 : n0 ≤ h0.size) (h2 : ¬ cnt < 0) :
    MF l Z m_29 jdk_65_method_131_code 2 none ws (oR 0 0 0 0) #[(.int 0), (.int cnt)] h0 (Q_chk Z cnt h0 n0) := by
  refine own_body (cls := "java/util/Arrays") (plainFor_of_name pn_6) rfl (fun p e s m below meth c s₁ hx hby hml hown hnm hret hZ X0 e0 => ?_)
  have N0 := Fr.nil n0
  refine ⟨_, _, _, _, none, X0, by decide, by decide, fun _ => rfl, ?_, fun fs hr => castTop (ef_3 m (0 : Int32) cnt) ?_⟩
  · show Q_chk Z cnt h0 n0 _ s₁.heap _
    rw [(e0 : s₁.heap = h0)]
    exact ⟨rfl, N0, rfl⟩
  · show Steps _ _ _ (s₁.setTop (mkF m 0 #[vI 0, vI cnt] [])) _
    refine XS.iloadN X0.here hx rfl (hb hby d374) rfl ?_
    show Steps _ _ _ (s₁.setTop (mkF m 1 #[vI 0, vI cnt] [(.int cnt)])) _
    refine XS.iloadN X0.here hx rfl (hb hby d375) rfl ?_
    show Steps _ _ _ (s₁.setTop (mkF m 2 #[vI 0, vI cnt] [(.int 0), (.int cnt)])) _
    refine XS.icmpYes X0.here hx rfl (pc0 := 2) (pc' := 37) rfl (hb hby d376) rfl (flt (h2 : ¬ (cnt < (0 : Int32)))).2.1 (by decide) (by decide) ?_
    show Steps _ _ _ (s₁.setTop (mkF m 37 #[vI 0, vI cnt] [])) _
    exact X0.returnOut hx hret (hb hby d377) hr
theorem d378 : decode jdk_29_method_69_code 9 = .ok (.iload_n 1, 1) := by decide +kernel
def Q_minS (Z : State) (u1 : Int32) (u2 : Int32) (h0 : Heap) (n0 : Nat) (v : Option Value) (h : Heap) (L : List Loc) : Prop := (v = some (.int u2)) ∧ (Fr n0 L) ∧ (h = h0)
theorem rm_minS (l : Launch) (Z : State) (a0 : Array Value) (hw : HW Z a0) (ws : List Jvm.Cond) (u1 : Int32) (u2 : Int32) (h0 : Heap) (n0 : Nat) (Z0 : n0 ≤ h0.size) (hlt : u2 < u1) :
    MF l Z m_10 jdk_29_method_69_code 2 (some .int) ws (oR 0 0 0 0) #[(.int u1), (.int u2)] h0 (Q_minS Z u1 u2 h0 n0) := by
  refine own_body (cls := "java/lang/Math") pn_5 rfl (fun p e s m below meth c s₁ hx hby hml hown hnm hret hZ X0 e0 => ?_)
  have N0 := Fr.nil n0
  refine ⟨_, _, _, _, some (.int u2), X0, by decide, by decide, nofun, ?_, fun fs hr => castTop (ef_3 m u1 u2) ?_⟩
  · show Q_minS Z u1 u2 h0 n0 _ s₁.heap _
    rw [(e0 : s₁.heap = h0)]
    exact ⟨rfl, N0, rfl⟩
  · show Steps _ _ _ (s₁.setTop (mkF m 0 #[vI u1, vI u2] [])) _
    refine XS.iloadN X0.here hx rfl (hb hby d98) rfl ?_
    show Steps _ _ _ (s₁.setTop (mkF m 1 #[vI u1, vI u2] [(.int u1)])) _
    refine XS.iloadN X0.here hx rfl (hb hby d99) rfl ?_
    show Steps _ _ _ (s₁.setTop (mkF m 2 #[vI u1, vI u2] [(.int u2), (.int u1)])) _
    refine XS.icmpYes X0.here hx rfl (pc0 := 2) (pc' := 9) rfl (hb hby d100) rfl (tlt (hlt : u2 < u1)).2.2.1 (by decide) (by decide) ?_
    show Steps _ _ _ (s₁.setTop (mkF m 9 #[vI u1, vI u2] [])) _
    refine XS.iloadN X0.here hx rfl (hb hby d378) rfl ?_
    show Steps _ _ _ (s₁.setTop (mkF m 10 #[vI u1, vI u2] [(.int u2)])) _
    exact retI X0 hx hret (hb hby d103) hr
theorem own_ltN {cnt N : Int32} (h : cnt.toInt ≤ N.toInt) (q : ¬ (cnt = N)) : cnt < N := by
  rw [own_lt]
  have : cnt.toInt ≠ N.toInt := fun e => q (Int32.toInt_inj.mp e)
  omega
theorem own_leN {cnt N : Int32} (h : cnt.toInt ≤ N.toInt) : cnt.toNatClampNeg ≤ N.toNatClampNeg := by simp only [own_tn]; omega
theorem own_cap {N : Int32} (h : oN N) : N.toNatClampNeg ≤ 70 := by have := own_rN h; simp only [own_tn]; omega
theorem own_cap2 {cnt N : Int32} (h : oN N) (q : cnt.toInt ≤ N.toInt) : cnt.toNatClampNeg ≤ 70 := Nat.le_trans (own_leN q) (own_cap h)
theorem d379 : decode jdk_65_method_133_code 0 = .ok (.iload_n 1, 1) := by decide +kernel
theorem d380 : decode jdk_65_method_133_code 1 = .ok (.iload_n 2, 1) := by decide +kernel
theorem w_246 {Z : State} {a0 : Array Value} (hw : HW Z a0) : (Jvm.Cond.methodLink "java/util/Arrays" (343 : Nat) m_29).before a0 Z = true := hw _ (List.mem_of_getElem? (i := 246) rfl)
theorem w_248 {Z : State} {a0 : Array Value} (hw : HW Z a0) : (Jvm.Cond.code m_29 jdk_65_method_131_code (2 : Nat) (Option.none : Option Jvm.ClassFile.FieldType)).before a0 Z = true := hw _ (List.mem_of_getElem? (i := 248) rfl)
theorem pd_17 : parseMethodDescriptor "(II)V" = some ⟨[.int, .int], none⟩ := by decide +kernel
theorem d381 : decode jdk_65_method_133_code 2 = .ok (.invokestatic 343, 3) := by decide +kernel
theorem w_247 {Z : State} {a0 : Array Value} (hw : HW Z a0) : (Jvm.Cond.static m_29).before a0 Z = true := hw _ (List.mem_of_getElem? (i := 247) rfl)
theorem d382 : decode jdk_65_method_133_code 5 = .ok (.iload_n 2, 1) := by decide +kernel
theorem d383 : decode jdk_65_method_133_code 6 = .ok (.iload_n 1, 1) := by decide +kernel
theorem d384 : decode jdk_65_method_133_code 7 = .ok (.isub, 1) := by decide +kernel
theorem d385 : decode jdk_65_method_133_code 8 = .ok (.istore_n 3, 1) := by decide +kernel
theorem d386 : decode jdk_65_method_133_code 9 = .ok (.iload_n 3, 1) := by decide +kernel
theorem d387 : decode jdk_65_method_133_code 10 = .ok (.newarray .byte, 2) := by decide +kernel
theorem d388 : decode jdk_65_method_133_code 12 = .ok (.astore 4, 2) := by decide +kernel
theorem d389 : decode jdk_65_method_133_code 14 = .ok (.aload_n 0, 1) := by decide +kernel
theorem d390 : decode jdk_65_method_133_code 15 = .ok (.iload_n 1, 1) := by decide +kernel
theorem d391 : decode jdk_65_method_133_code 16 = .ok (.aload 4, 2) := by decide +kernel
theorem d392 : decode jdk_65_method_133_code 18 = .ok (.iconst 0, 1) := by decide +kernel
theorem d393 : decode jdk_65_method_133_code 19 = .ok (.aload_n 0, 1) := by decide +kernel
theorem d394 : decode jdk_65_method_133_code 20 = .ok (.arraylength, 1) := by decide +kernel
theorem d395 : decode jdk_65_method_133_code 21 = .ok (.iload_n 1, 1) := by decide +kernel
theorem d396 : decode jdk_65_method_133_code 22 = .ok (.isub, 1) := by decide +kernel
theorem d397 : decode jdk_65_method_133_code 23 = .ok (.iload_n 3, 1) := by decide +kernel
theorem d398 : decode jdk_65_method_133_code 24 = .ok (.invokestatic 304, 3) := by decide +kernel
theorem d399 : decode jdk_65_method_133_code 27 = .ok (.invokestatic 150, 3) := by decide +kernel
theorem d400 : decode jdk_65_method_133_code 30 = .ok (.aload 4, 2) := by decide +kernel
theorem d401 : decode jdk_65_method_133_code 32 = .ok (.areturn, 1) := by decide +kernel
theorem ef_15 (m : MethodId) (x0 : Addr) (x1 : Int32) (x2 : Int32) : entryFrame m #[(.ref x0), (.int x1), (.int x2)] 5 = mkF m 0 #[vA x0, vI x1, vI x2, .unset, .unset] [] := by first | (simp [entryFrame, mkF, argsToLocals, Value.category, maxLocals]; done) | rfl
abbrev m_30 : MethodName := (⟨"java/util/Arrays", "copyOfRangeByte", "([BII)[B"⟩ : MethodName)
def Q_corb (Z : State) (v_ : Addr) (kv : ClassId) (N : Int32) (cnt : Int32) (xs : List Value) (h0 : Heap) (n0 : Nat) (v : Option Value) (h : Heap) (L : List Loc) : Prop := ∃ (b : Addr), (v = some (.ref b)) ∧ (Fr n0 L) ∧ (Keep h0 h []) ∧ (h0.size ≤ b)
theorem rm_corb (l : Launch) (Z : State) (a0 : Array Value) (hw : HW Z a0) (ws : List Jvm.Cond) (v_ : Addr) (kv : ClassId) (N : Int32) (cnt : Int32) (xs : List Value) (h0 : Heap) (n0 : Nat) (Z0 : n0 ≤ h0.size) (P0 : Arv Z h0 v_ kv .byte N xs (.int 0)) (h2 : ¬ cnt < 0) (hN : oN N) (hle : cnt.toInt ≤ N.toInt) (hlt : cnt < N) :
    MF l Z m_30 jdk_65_method_133_code 5 (some (.array .byte)) ws (oR 1 1 70 18) #[(.ref v_), (.int 0), (.int cnt)] h0 (Q_corb Z v_ kv N cnt xs h0 n0) := by
  refine own_body (cls := "java/util/Arrays") (plainFor_of_name pn_6) rfl (fun p e s m below meth c s₁ hx hby hml hown hnm hret hZ X0 e0 => ?_)
  have N0 := Fr.nil n0
  have K0 := Keep.refl h0 []
  have lt1 := own_l P0.lt
  obtain ⟨_, _, ⟨T2, L2, k2, n2⟩, -, X2, ⟨Lc2, hQ2, l2, y2, z2⟩, st2⟩ := Jvm.LawKit.callS X0 hx (y := m_29) hown (mvT hZ (w_246 hw)) (mvT hZ (w_247 hw)) (mvT hZ (w_207 hw)) (mvT hZ (w_248 hw)) (by decide) (backOf (W := 0) (rm_chk l Z a0 hw [] cnt h0 n0 (by omega) h2) hZ (w_248 hw) (w_207 hw) (by decide) (by decide)) (g := (mkF m 2 #[vA v_, vI 0, vI cnt, .unset, .unset] [(.int cnt), (.int 0)])) rfl (by rw [hml]; rfl) (argsL := [(.int 0), (.int cnt)]) (rest := []) (lenOf pd_17 rfl) rfl (Nat.le_of_eq rfl) (hb hby d381) (fun _ _ => ⟨rfl, e0, (by decide : 0 + 0 ≤ _), (by decide : 0 + 0 ≤ _)⟩)
  dsimp only [Pt.U, Pt.locs, Pt.cells, Pt.slots] at X2 l2 y2 z2 st2 hQ2
  rw [l2, y2, z2] at X2
  obtain ⟨rfl, Nq2, Kq2⟩ := hQ2
  have N2 := Fr.app N0 Nq2
  obtain ⟨T3, h3, k3, X3, e3, E3, A3, AE3, st3⟩ := newPE X2 hx hZ (aty := .byte) (w_22 hw) Kq2 (g := (mkF m 10 #[vA v_, vI 0, vI cnt, vI cnt, .unset] [(.int cnt)])) rfl (hb hby d387) rfl h2 (cap := 70) (own_cap2 hN hle) (by decide) (by decide) (by decide) (ad := "[B") (by decide)
  obtain ⟨b3, g3⟩ : ∃ z, z = h0.size := ⟨_, rfl⟩
  rw [← g3] at A3 AE3 st3
  have z3 := E3.1
  have K3 := K0.ext E3
  have V3 : Arv Z h3 b3 k3 .byte cnt [] (.int 0) := Arv.new A3 h2
  have lt4 := own_l V3.lt
  have f6 := P0.ext E3
  obtain ⟨cl5, Ar5, q5, S5, M5, H5, G5⟩ := id f6
  obtain ⟨_, _, ⟨T7, L7, k7, n7⟩, -, X7, ⟨Lc7, hQ7, l7, y7, z7⟩, st7⟩ := Jvm.LawKit.callS X3 hx (y := m_10) hown (mvT hZ (w_209 hw)) (mvT hZ (w_210 hw)) (mvT hZ (w_201 hw)) (mvT hZ (w_211 hw)) (by decide) (backOf (W := 4) (rm_minS l Z a0 hw [] N cnt h3 n0 (by omega) hlt) hZ (w_211 hw) (w_201 hw) (by decide) (by decide)) (g := (mkF m 24 #[vA v_, vI 0, vI cnt, vI cnt, vA b3] [(.int cnt), (.int N), (.int 0), (.ref b3), (.int 0), (.ref v_)])) rfl (by rw [hml]; rfl) (argsL := [(.int N), (.int cnt)]) (rest := [(.int 0), (.ref b3), (.int 0), (.ref v_)]) (lenOf pd_4 rfl) rfl (Nat.le_of_eq rfl) (hb hby d398) (fun _ _ => ⟨rfl, e3, (by decide : 1 + 0 ≤ _), (by decide : 70 + 0 ≤ _)⟩)
  dsimp only [Pt.U, Pt.locs, Pt.cells, Pt.slots] at X7 l7 y7 z7 st7 hQ7
  rw [l7, y7, z7] at X7
  obtain ⟨rfl, Nq7, Kq7⟩ := hQ7
  have N7 := Fr.app N2 Nq7
  obtain ⟨T8, h8, L8, ys8, X8, e8, N8, Kq8, V8, st8⟩ := cpE X7 hx hZ hown (w_212 hw) (w_163 hw) (w_161 hw) (w_162 hw) Kq7 f6 V3 (by decide) h2 (own_leN hle) (by rw [show (0 : Int32).toNatClampNeg = 0 from rfl]; omega) N7 (by omega) (g := (mkF m 27 #[vA v_, vI 0, vI cnt, vI cnt, vA b3] [(.int cnt), (.int 0), (.ref b3), (.int 0), (.ref v_)])) rfl (by rw [hml]; rfl) rfl (hb hby d399) (by decide) (W := 0) (Nat.le_of_eq rfl) (by decide)
  replace V8 : Arv Z h8 b3 k3 .byte cnt ys8 (.int 0) := V8
  have z8' := Kq8.1
  have K8 := K3.trans Kq8 (allS (Or.inr (by omega)) all0)
  refine ⟨_, _, _, _, some (.ref b3), X8, by decide, by decide, nofun, ?_, fun fs hr => castTop (ef_15 m v_ (0 : Int32) cnt) ?_⟩
  · show Q_corb Z v_ kv N cnt xs h0 n0 _ T8.heap _
    rw [(e8 : T8.heap = h8)]
    exact ⟨b3, rfl, N8, K8, (by omega)⟩
  · show Steps _ _ _ (s₁.setTop (mkF m 0 #[vA v_, vI 0, vI cnt, .unset, .unset] [])) _
    refine XS.iloadN X0.here hx rfl (hb hby d379) rfl ?_
    show Steps _ _ _ (s₁.setTop (mkF m 1 #[vA v_, vI 0, vI cnt, .unset, .unset] [(.int 0)])) _
    refine XS.iloadN X0.here hx rfl (hb hby d380) rfl ?_
    show Steps _ _ _ (s₁.setTop (mkF m 2 #[vA v_, vI 0, vI cnt, .unset, .unset] [(.int cnt), (.int 0)])) _
    refine st2 _ ?_
    show Steps _ _ _ (T2.setTop (mkF m 5 #[vA v_, vI 0, vI cnt, .unset, .unset] [])) _
    refine XS.iloadN X2.here hx rfl (hb hby d382) rfl ?_
    show Steps _ _ _ (T2.setTop (mkF m 6 #[vA v_, vI 0, vI cnt, .unset, .unset] [(.int cnt)])) _
    refine XS.iloadN X2.here hx rfl (hb hby d383) rfl ?_
    show Steps _ _ _ (T2.setTop (mkF m 7 #[vA v_, vI 0, vI cnt, .unset, .unset] [(.int 0), (.int cnt)])) _
    refine XS.isub X2.here hx rfl (hb hby d384) rfl ?_
    show Steps _ _ _ (T2.setTop (mkF m 8 #[vA v_, vI 0, vI cnt, .unset, .unset] [(.int (cnt - (0 : Int32)))])) _
    rw [own_sub0]
    show Steps _ _ _ (T2.setTop (mkF m 8 #[vA v_, vI 0, vI cnt, .unset, .unset] [(.int cnt)])) _
    refine XS.istoreN X2.here hx rfl (hb hby d385) rfl (l' := #[vA v_, vI 0, vI cnt, vI cnt, .unset]) rfl ?_
    show Steps _ _ _ (T2.setTop (mkF m 9 #[vA v_, vI 0, vI cnt, vI cnt, .unset] [])) _
    refine XS.iloadN X2.here hx rfl (hb hby d386) rfl ?_
    show Steps _ _ _ (T2.setTop (mkF m 10 #[vA v_, vI 0, vI cnt, vI cnt, .unset] [(.int cnt)])) _
    refine st3 _ ?_
    show Steps _ _ _ (T3.setTop (mkF m 12 #[vA v_, vI 0, vI cnt, vI cnt, .unset] [(.ref b3)])) _
    refine XS.astore X3.here hx rfl (hb hby d388) rfl rfl (l' := #[vA v_, vI 0, vI cnt, vI cnt, vA b3]) rfl ?_
    show Steps _ _ _ (T3.setTop (mkF m 14 #[vA v_, vI 0, vI cnt, vI cnt, vA b3] [])) _
    refine XS.aloadN X3.here hx rfl (hb hby d389) rfl rfl ?_
    show Steps _ _ _ (T3.setTop (mkF m 15 #[vA v_, vI 0, vI cnt, vI cnt, vA b3] [(.ref v_)])) _
    refine XS.iloadN X3.here hx rfl (hb hby d390) rfl ?_
    show Steps _ _ _ (T3.setTop (mkF m 16 #[vA v_, vI 0, vI cnt, vI cnt, vA b3] [(.int 0), (.ref v_)])) _
    refine XS.aload X3.here hx rfl (hb hby d391) rfl rfl ?_
    show Steps _ _ _ (T3.setTop (mkF m 18 #[vA v_, vI 0, vI cnt, vI cnt, vA b3] [(.ref b3), (.int 0), (.ref v_)])) _
    refine XS.iconst X3.here hx rfl (hb hby d392) ?_
    show Steps _ _ _ (T3.setTop (mkF m 19 #[vA v_, vI 0, vI cnt, vI cnt, vA b3] [(.int 0), (.ref b3), (.int 0), (.ref v_)])) _
    refine XS.aloadN X3.here hx rfl (hb hby d393) rfl rfl ?_
    show Steps _ _ _ (T3.setTop (mkF m 20 #[vA v_, vI 0, vI cnt, vI cnt, vA b3] [(.ref v_), (.int 0), (.ref b3), (.int 0), (.ref v_)])) _
    refine X3.arraylength hx (by rw [e3]; exact Ar5.1) (State.isArrayOf_alike hZ.alike Ar5.2.1) (g := (mkF m 20 #[vA v_, vI 0, vI cnt, vI cnt, vA b3] [(.ref v_), (.int 0), (.ref b3), (.int 0), (.ref v_)])) rfl rfl (hb hby d394) _ ?_
    rw [len_of S5 M5]
    show Steps _ _ _ (T3.setTop (mkF m 21 #[vA v_, vI 0, vI cnt, vI cnt, vA b3] [(.int N), (.int 0), (.ref b3), (.int 0), (.ref v_)])) _
    refine XS.iloadN X3.here hx rfl (hb hby d395) rfl ?_
    show Steps _ _ _ (T3.setTop (mkF m 22 #[vA v_, vI 0, vI cnt, vI cnt, vA b3] [(.int 0), (.int N), (.int 0), (.ref b3), (.int 0), (.ref v_)])) _
    refine XS.isub X3.here hx rfl (hb hby d396) rfl ?_
    show Steps _ _ _ (T3.setTop (mkF m 23 #[vA v_, vI 0, vI cnt, vI cnt, vA b3] [(.int (N - (0 : Int32))), (.int 0), (.ref b3), (.int 0), (.ref v_)])) _
    rw [own_sub0]
    show Steps _ _ _ (T3.setTop (mkF m 23 #[vA v_, vI 0, vI cnt, vI cnt, vA b3] [(.int N), (.int 0), (.ref b3), (.int 0), (.ref v_)])) _
    refine XS.iloadN X3.here hx rfl (hb hby d397) rfl ?_
    show Steps _ _ _ (T3.setTop (mkF m 24 #[vA v_, vI 0, vI cnt, vI cnt, vA b3] [(.int cnt), (.int N), (.int 0), (.ref b3), (.int 0), (.ref v_)])) _
    refine st7 _ ?_
    show Steps _ _ _ (T7.setTop (mkF m 27 #[vA v_, vI 0, vI cnt, vI cnt, vA b3] [(.int cnt), (.int 0), (.ref b3), (.int 0), (.ref v_)])) _
    refine st8 _ ?_
    show Steps _ _ _ (T8.setTop (mkF m 30 #[vA v_, vI 0, vI cnt, vI cnt, vA b3] [])) _
    refine XS.aload X8.here hx rfl (hb hby d400) rfl rfl ?_
    show Steps _ _ _ (T8.setTop (mkF m 32 #[vA v_, vI 0, vI cnt, vI cnt, vA b3] [(.ref b3)])) _
    exact retOut X8 hx hret (own_narrow_ref rfl) (Or.inr (Or.inr (Or.inr (Or.inr ⟨rfl, rfl, rfl⟩)))) (hb hby d401) hr
theorem d402 : decode jdk_65_method_132_code 0 = .ok (.iload_n 1, 1) := by decide +kernel
theorem d403 : decode jdk_65_method_132_code 1 = .ok (.ifCond .ne 9, 3) := by decide +kernel
theorem d404 : decode jdk_65_method_132_code 4 = .ok (.iload_n 2, 1) := by decide +kernel
theorem d405 : decode jdk_65_method_132_code 5 = .ok (.aload_n 0, 1) := by decide +kernel
theorem d406 : decode jdk_65_method_132_code 6 = .ok (.arraylength, 1) := by decide +kernel
theorem d407 : decode jdk_65_method_132_code 7 = .ok (.if_icmp .eq 10, 3) := by decide +kernel
theorem d408 : decode jdk_65_method_132_code 17 = .ok (.aload_n 0, 1) := by decide +kernel
abbrev m_31 : MethodName := (⟨"[B", "clone", "()Ljava/lang/Object;"⟩ : MethodName)
theorem w_251 {Z : State} {a0 : Array Value} (hw : HW Z a0) : (Jvm.Cond.methodLink "java/util/Arrays" (310 : Nat) m_31).before a0 Z = true := hw _ (List.mem_of_getElem? (i := 251) rfl)
theorem w_252 {Z : State} {a0 : Array Value} (hw : HW Z a0) : (Jvm.Cond.sameMethod "[B" "java/lang/Object" "clone" "()Ljava/lang/Object;").before a0 Z = true := hw _ (List.mem_of_getElem? (i := 252) rfl)
abbrev m_32 : MethodName := (⟨"java/lang/Object", "clone", "()Ljava/lang/Object;"⟩ : MethodName)
theorem w_256 {Z : State} {a0 : Array Value} (hw : HW Z a0) : (Jvm.Cond.native m_32).before a0 Z = true := hw _ (List.mem_of_getElem? (i := 256) rfl)
theorem w_254 {Z : State} {a0 : Array Value} (hw : HW Z a0) : (Jvm.Cond.instanceMethod m_32).before a0 Z = true := hw _ (List.mem_of_getElem? (i := 254) rfl)
theorem w_255 {Z : State} {a0 : Array Value} (hw : HW Z a0) : (Jvm.Cond.selects "[B" m_31 m_32).before a0 Z = true := hw _ (List.mem_of_getElem? (i := 255) rfl)
theorem w_257 {Z : State} {a0 : Array Value} (hw : HW Z a0) : (Jvm.Cond.castable "[B" "java/lang/Cloneable").before a0 Z = true := hw _ (List.mem_of_getElem? (i := 257) rfl)
theorem d409 : decode jdk_65_method_132_code 18 = .ok (.invokevirtual 310, 3) := by decide +kernel
theorem w_258 {Z : State} {a0 : Array Value} (hw : HW Z a0) : (Jvm.Cond.classLink "java/util/Arrays" (311 : Nat) "[B").before a0 Z = true := hw _ (List.mem_of_getElem? (i := 258) rfl)
theorem d410 : decode jdk_65_method_132_code 21 = .ok (.checkcast 311, 3) := by decide +kernel
theorem d411 : decode jdk_65_method_132_code 24 = .ok (.areturn, 1) := by decide +kernel
theorem d412 : decode jdk_65_method_132_code 10 = .ok (.aload_n 0, 1) := by decide +kernel
theorem d413 : decode jdk_65_method_132_code 11 = .ok (.iload_n 1, 1) := by decide +kernel
theorem d414 : decode jdk_65_method_132_code 12 = .ok (.iload_n 2, 1) := by decide +kernel
theorem w_243 {Z : State} {a0 : Array Value} (hw : HW Z a0) : (Jvm.Cond.methodLink "java/util/Arrays" (339 : Nat) m_30).before a0 Z = true := hw _ (List.mem_of_getElem? (i := 243) rfl)
theorem w_245 {Z : State} {a0 : Array Value} (hw : HW Z a0) : (Jvm.Cond.code m_30 jdk_65_method_133_code (5 : Nat) (Option.some (FieldType.array FieldType.byte))).before a0 Z = true := hw _ (List.mem_of_getElem? (i := 245) rfl)
theorem pd_18 : parseMethodDescriptor "([BII)[B" = some ⟨[(.array .byte), .int, .int], some (.array .byte)⟩ := by decide +kernel
theorem d415 : decode jdk_65_method_132_code 13 = .ok (.invokestatic 339, 3) := by decide +kernel
theorem w_244 {Z : State} {a0 : Array Value} (hw : HW Z a0) : (Jvm.Cond.static m_30).before a0 Z = true := hw _ (List.mem_of_getElem? (i := 244) rfl)
theorem d416 : decode jdk_65_method_132_code 16 = .ok (.areturn, 1) := by decide +kernel
theorem ef_16 (m : MethodId) (x0 : Addr) (x1 : Int32) (x2 : Int32) : entryFrame m #[(.ref x0), (.int x1), (.int x2)] 3 = mkF m 0 #[vA x0, vI x1, vI x2] [] := by first | (simp [entryFrame, mkF, argsToLocals, Value.category, maxLocals]; done) | rfl
abbrev m_33 : MethodName := (⟨"java/util/Arrays", "copyOfRange", "([BII)[B"⟩ : MethodName)
def Q_cor (Z : State) (v_ : Addr) (kv : ClassId) (N : Int32) (cnt : Int32) (xs : List Value) (h0 : Heap) (n0 : Nat) (v : Option Value) (h : Heap) (L : List Loc) : Prop := ∃ (b : Addr), (v = some (.ref b)) ∧ (Fr n0 L) ∧ (Keep h0 h []) ∧ (h0.size ≤ b)
theorem rm_cor_e (l : Launch) (Z : State) (a0 : Array Value) (hw : HW Z a0) (ws : List Jvm.Cond) (v_ : Addr) (kv : ClassId) (N : Int32) (cnt : Int32) (xs : List Value) (h0 : Heap) (n0 : Nat) (Z0 : n0 ≤ h0.size) (P0 : Exa Z h0 v_ "[B") (P1 : Arv Z h0 v_ kv .byte N xs (.int 0)) (h2 : ¬ cnt < 0) (hN : oN N) (hle : cnt.toInt ≤ N.toInt) (hc7 : cnt = N) :
    MF l Z m_33 jdk_65_method_132_code 3 (some (.array .byte)) ws (oR 2 1 70 34) #[(.ref v_), (.int 0), (.int cnt)] h0 (Q_cor Z v_ kv N cnt xs h0 n0) := by
  refine own_body (cls := "java/util/Arrays") (plainFor_of_name pn_6) rfl (fun p e s m below meth c s₁ hx hby hml hown hnm hret hZ X0 e0 => ?_)
  have N0 := Fr.nil n0
  have K0 := Keep.refl h0 []
  have lt1 := own_l P0.lt
  have lt2 := own_l P1.lt
  obtain ⟨cl3, Ar3, q3, S3, M3, H3, G3⟩ := id P1
  obtain ⟨T4, h4, X4, e4, E4, V4, A4, st4⟩ := cloneH X0 hx hZ hown (w_251 hw) (w_252 hw) (w_256 hw) (w_254 hw) (w_255 hw) (w_257 hw) e0 P1.arh P0 (g := (mkF m 18 #[vA v_, vI 0, vI cnt] [(.ref v_)])) rfl (by rw [hml]; rfl) rfl (hb hby d409) (by decide) (W := 0) (cap := 70) (Nat.le_of_eq rfl) (by decide) (own_cap hN) (by decide) (by decide)
  obtain ⟨b4, g4⟩ : ∃ z, z = h0.size := ⟨_, rfl⟩
  rw [← g4] at A4 V4 st4
  replace V4 : Arv Z h4 b4 kv .byte N xs (.int 0) := V4
  have z4 := E4.1
  have K4 := K0.ext E4
  have lt5 := own_l V4.lt
  obtain ⟨T6, X6, e6, st6⟩ := castY X4 hx hZ hown (w_258 hw) e4 (Ins.self A4) (g := (mkF m 21 #[vA v_, vI 0, vI cnt] [(.ref b4)])) rfl rfl (hb hby d410)
  refine ⟨_, _, _, _, some (.ref b4), X6, by decide, by decide, nofun, ?_, fun fs hr => castTop (ef_16 m v_ (0 : Int32) cnt) ?_⟩
  · show Q_cor Z v_ kv N cnt xs h0 n0 _ T6.heap _
    rw [(e6 : T6.heap = h4)]
    exact ⟨b4, rfl, N0, K4, (by omega)⟩
  · show Steps _ _ _ (s₁.setTop (mkF m 0 #[vA v_, vI 0, vI cnt] [])) _
    refine XS.iloadN X0.here hx rfl (hb hby d402) rfl ?_
    show Steps _ _ _ (s₁.setTop (mkF m 1 #[vA v_, vI 0, vI cnt] [(.int 0)])) _
    refine XS.ifNo X0.here hx rfl (hb hby d403) rfl ((if0 _ _).trans (teq ((by decide) : (0 : Int32) = (0 : Int32))).2) ?_
    show Steps _ _ _ (s₁.setTop (mkF m 4 #[vA v_, vI 0, vI cnt] [])) _
    refine XS.iloadN X0.here hx rfl (hb hby d404) rfl ?_
    show Steps _ _ _ (s₁.setTop (mkF m 5 #[vA v_, vI 0, vI cnt] [(.int cnt)])) _
    refine XS.aloadN X0.here hx rfl (hb hby d405) rfl rfl ?_
    show Steps _ _ _ (s₁.setTop (mkF m 6 #[vA v_, vI 0, vI cnt] [(.ref v_), (.int cnt)])) _
    refine X0.arraylength hx (by rw [e0]; exact Ar3.1) (State.isArrayOf_alike hZ.alike Ar3.2.1) (g := (mkF m 6 #[vA v_, vI 0, vI cnt] [(.ref v_), (.int cnt)])) rfl rfl (hb hby d406) _ ?_
    rw [len_of S3 M3]
    show Steps _ _ _ (s₁.setTop (mkF m 7 #[vA v_, vI 0, vI cnt] [(.int N), (.int cnt)])) _
    refine XS.icmpYes X0.here hx rfl (pc0 := 7) (pc' := 17) rfl (hb hby d407) rfl (teq (hc7 : cnt = N)).1 (by decide) (by decide) ?_
    show Steps _ _ _ (s₁.setTop (mkF m 17 #[vA v_, vI 0, vI cnt] [])) _
    refine XS.aloadN X0.here hx rfl (hb hby d408) rfl rfl ?_
    show Steps _ _ _ (s₁.setTop (mkF m 18 #[vA v_, vI 0, vI cnt] [(.ref v_)])) _
    refine st4 _ ?_
    show Steps _ _ _ (T4.setTop (mkF m 21 #[vA v_, vI 0, vI cnt] [(.ref b4)])) _
    refine st6 _ ?_
    show Steps _ _ _ (T6.setTop (mkF m 24 #[vA v_, vI 0, vI cnt] [(.ref b4)])) _
    exact retOut X6 hx hret (own_narrow_ref rfl) (Or.inr (Or.inr (Or.inr (Or.inr ⟨rfl, rfl, rfl⟩)))) (hb hby d411) hr
theorem rm_cor_n (l : Launch) (Z : State) (a0 : Array Value) (hw : HW Z a0) (ws : List Jvm.Cond) (v_ : Addr) (kv : ClassId) (N : Int32) (cnt : Int32) (xs : List Value) (h0 : Heap) (n0 : Nat) (Z0 : n0 ≤ h0.size) (P0 : Exa Z h0 v_ "[B") (P1 : Arv Z h0 v_ kv .byte N xs (.int 0)) (h2 : ¬ cnt < 0) (hN : oN N) (hle : cnt.toInt ≤ N.toInt) (hc7 : ¬ (cnt = N)) :
    MF l Z m_33 jdk_65_method_132_code 3 (some (.array .byte)) ws (oR 2 1 70 34) #[(.ref v_), (.int 0), (.int cnt)] h0 (Q_cor Z v_ kv N cnt xs h0 n0) := by
  refine own_body (cls := "java/util/Arrays") (plainFor_of_name pn_6) rfl (fun p e s m below meth c s₁ hx hby hml hown hnm hret hZ X0 e0 => ?_)
  have N0 := Fr.nil n0
  have K0 := Keep.refl h0 []
  have lt1 := own_l P0.lt
  have lt2 := own_l P1.lt
  obtain ⟨cl3, Ar3, q3, S3, M3, H3, G3⟩ := id P1
  obtain ⟨_, _, ⟨T4, L4, k4, n4⟩, -, X4, ⟨Lc4, hQ4, l4, y4, z4⟩, st4⟩ := Jvm.LawKit.callS X0 hx (y := m_30) hown (mvT hZ (w_243 hw)) (mvT hZ (w_244 hw)) (mvT hZ (w_207 hw)) (mvT hZ (w_245 hw)) (by decide) (backOf (W := 0) (rm_corb l Z a0 hw [] v_ kv N cnt xs h0 n0 (by omega) P1 h2 hN hle (own_ltN hle hc7)) hZ (w_245 hw) (w_207 hw) (by decide) (by decide)) (g := (mkF m 13 #[vA v_, vI 0, vI cnt] [(.int cnt), (.int 0), (.ref v_)])) rfl (by rw [hml]; rfl) (argsL := [(.ref v_), (.int 0), (.int cnt)]) (rest := []) (lenOf pd_18 rfl) rfl (Nat.le_of_eq rfl) (hb hby d415) (fun _ _ => ⟨rfl, e0, (by decide : 0 + 1 ≤ _), (by decide : 0 + 70 ≤ _)⟩)
  dsimp only [Pt.U, Pt.locs, Pt.cells, Pt.slots] at X4 l4 y4 z4 st4 hQ4
  rw [l4, y4, z4] at X4
  obtain ⟨x4_b, rfl, Nq4, Kq4, r4_0⟩ := hQ4
  have N4 := Fr.app N0 Nq4
  have z4' := Kq4.1
  have K4 := K0.trans Kq4 all0
  refine ⟨_, _, _, _, some (.ref x4_b), X4, by decide, by decide, nofun, ?_, fun fs hr => castTop (ef_16 m v_ (0 : Int32) cnt) ?_⟩
  · show Q_cor Z v_ kv N cnt xs h0 n0 _ T4.heap _
    exact ⟨x4_b, rfl, N4, K4, (by omega)⟩
  · show Steps _ _ _ (s₁.setTop (mkF m 0 #[vA v_, vI 0, vI cnt] [])) _
    refine XS.iloadN X0.here hx rfl (hb hby d402) rfl ?_
    show Steps _ _ _ (s₁.setTop (mkF m 1 #[vA v_, vI 0, vI cnt] [(.int 0)])) _
    refine XS.ifNo X0.here hx rfl (hb hby d403) rfl ((if0 _ _).trans (teq ((by decide) : (0 : Int32) = (0 : Int32))).2) ?_
    show Steps _ _ _ (s₁.setTop (mkF m 4 #[vA v_, vI 0, vI cnt] [])) _
    refine XS.iloadN X0.here hx rfl (hb hby d404) rfl ?_
    show Steps _ _ _ (s₁.setTop (mkF m 5 #[vA v_, vI 0, vI cnt] [(.int cnt)])) _
    refine XS.aloadN X0.here hx rfl (hb hby d405) rfl rfl ?_
    show Steps _ _ _ (s₁.setTop (mkF m 6 #[vA v_, vI 0, vI cnt] [(.ref v_), (.int cnt)])) _
    refine X0.arraylength hx (by rw [e0]; exact Ar3.1) (State.isArrayOf_alike hZ.alike Ar3.2.1) (g := (mkF m 6 #[vA v_, vI 0, vI cnt] [(.ref v_), (.int cnt)])) rfl rfl (hb hby d406) _ ?_
    rw [len_of S3 M3]
    show Steps _ _ _ (s₁.setTop (mkF m 7 #[vA v_, vI 0, vI cnt] [(.int N), (.int cnt)])) _
    refine XS.icmpNo X0.here hx rfl (hb hby d407) rfl (feq (hc7 : ¬ (cnt = N))).1 ?_
    show Steps _ _ _ (s₁.setTop (mkF m 10 #[vA v_, vI 0, vI cnt] [])) _
    refine XS.aloadN X0.here hx rfl (hb hby d412) rfl rfl ?_
    show Steps _ _ _ (s₁.setTop (mkF m 11 #[vA v_, vI 0, vI cnt] [(.ref v_)])) _
    refine XS.iloadN X0.here hx rfl (hb hby d413) rfl ?_
    show Steps _ _ _ (s₁.setTop (mkF m 12 #[vA v_, vI 0, vI cnt] [(.int 0), (.ref v_)])) _
    refine XS.iloadN X0.here hx rfl (hb hby d414) rfl ?_
    show Steps _ _ _ (s₁.setTop (mkF m 13 #[vA v_, vI 0, vI cnt] [(.int cnt), (.int 0), (.ref v_)])) _
    refine st4 _ ?_
    show Steps _ _ _ (T4.setTop (mkF m 16 #[vA v_, vI 0, vI cnt] [(.ref x4_b)])) _
    exact retOut X4 hx hret (own_narrow_ref rfl) (Or.inr (Or.inr (Or.inr (Or.inr ⟨rfl, rfl, rfl⟩)))) (hb hby d416) hr
theorem rm_cor (l : Launch) (Z : State) (a0 : Array Value) (hw : HW Z a0) (ws : List Jvm.Cond) (v_ : Addr) (kv : ClassId) (N : Int32) (cnt : Int32) (xs : List Value) (h0 : Heap) (n0 : Nat) (Z0 : n0 ≤ h0.size) (P0 : Exa Z h0 v_ "[B") (P1 : Arv Z h0 v_ kv .byte N xs (.int 0)) (h2 : ¬ cnt < 0) (hN : oN N) (hle : cnt.toInt ≤ N.toInt) :
    MF l Z m_33 jdk_65_method_132_code 3 (some (.array .byte)) ws (oR 2 1 70 34) #[(.ref v_), (.int 0), (.int cnt)] h0 (Q_cor Z v_ kv N cnt xs h0 n0) := by
  by_cases hc7 : cnt = N
  · exact rm_cor_e l Z a0 hw ws v_ kv N cnt xs h0 n0 Z0 P0 P1 h2 hN hle hc7
  · exact rm_cor_n l Z a0 hw ws v_ kv N cnt xs h0 n0 Z0 P0 P1 h2 hN hle hc7
theorem d417 : decode jdk_42_method_150_code 0 = .ok (.aload_n 0, 1) := by decide +kernel
theorem d418 : decode jdk_42_method_150_code 1 = .ok (.invokespecial 1, 3) := by decide +kernel
theorem d419 : decode jdk_42_method_150_code 4 = .ok (.aload_n 1, 1) := by decide +kernel
theorem w_226 {Z : State} {a0 : Array Value} (hw : HW Z a0) : (Jvm.Cond.methodLink "java/lang/String" (552 : Nat) m_26).before a0 Z = true := hw _ (List.mem_of_getElem? (i := 226) rfl)
theorem w_230 {Z : State} {a0 : Array Value} (hw : HW Z a0) : (Jvm.Cond.code m_26 jdk_68_method_64_code (1 : Nat) (Option.some (FieldType.array FieldType.byte))).before a0 Z = true := hw _ (List.mem_of_getElem? (i := 230) rfl)
theorem pd_19 : parseMethodDescriptor "()[B" = some ⟨[], some (.array .byte)⟩ := by decide +kernel
theorem d420 : decode jdk_42_method_150_code 5 = .ok (.invokevirtual 552, 3) := by decide +kernel
theorem w_229 {Z : State} {a0 : Array Value} (hw : HW Z a0) : (Jvm.Cond.selects "java/lang/StringBuilder" m_26 m_26).before a0 Z = true := hw _ (List.mem_of_getElem? (i := 229) rfl)
theorem w_227 {Z : State} {a0 : Array Value} (hw : HW Z a0) : (Jvm.Cond.declares m_26).before a0 Z = true := hw _ (List.mem_of_getElem? (i := 227) rfl)
theorem w_228 {Z : State} {a0 : Array Value} (hw : HW Z a0) : (Jvm.Cond.instanceMethod m_26).before a0 Z = true := hw _ (List.mem_of_getElem? (i := 228) rfl)
theorem d421 : decode jdk_42_method_150_code 8 = .ok (.astore_n 3, 1) := by decide +kernel
theorem d422 : decode jdk_42_method_150_code 9 = .ok (.aload_n 1, 1) := by decide +kernel
theorem w_231 {Z : State} {a0 : Array Value} (hw : HW Z a0) : (Jvm.Cond.methodLink "java/lang/String" (549 : Nat) m_27).before a0 Z = true := hw _ (List.mem_of_getElem? (i := 231) rfl)
theorem w_236 {Z : State} {a0 : Array Value} (hw : HW Z a0) : (Jvm.Cond.code m_28 jdk_67_method_93_code (1 : Nat) (Option.some FieldType.int)).before a0 Z = true := hw _ (List.mem_of_getElem? (i := 236) rfl)
theorem w_101 {Z : State} {a0 : Array Value} (hw : HW Z a0) : (Jvm.Cond.initialized "java/lang/StringBuilder").before a0 Z = true := hw _ (List.mem_of_getElem? (i := 101) rfl)
theorem d423 : decode jdk_42_method_150_code 10 = .ok (.invokevirtual 549, 3) := by decide +kernel
theorem w_234 {Z : State} {a0 : Array Value} (hw : HW Z a0) : (Jvm.Cond.selects "java/lang/StringBuilder" m_27 m_28).before a0 Z = true := hw _ (List.mem_of_getElem? (i := 234) rfl)
theorem w_232 {Z : State} {a0 : Array Value} (hw : HW Z a0) : (Jvm.Cond.declares m_27).before a0 Z = true := hw _ (List.mem_of_getElem? (i := 232) rfl)
theorem w_235 {Z : State} {a0 : Array Value} (hw : HW Z a0) : (Jvm.Cond.instanceMethod m_28).before a0 Z = true := hw _ (List.mem_of_getElem? (i := 235) rfl)
theorem d424 : decode jdk_42_method_150_code 13 = .ok (.istore 4, 2) := by decide +kernel
theorem d425 : decode jdk_42_method_150_code 15 = .ok (.aload_n 1, 1) := by decide +kernel
theorem w_239 {Z : State} {a0 : Array Value} (hw : HW Z a0) : (Jvm.Cond.methodLink "java/lang/String" (1047 : Nat) m_21).before a0 Z = true := hw _ (List.mem_of_getElem? (i := 239) rfl)
theorem d426 : decode jdk_42_method_150_code 16 = .ok (.invokevirtual 1047, 3) := by decide +kernel
theorem d427 : decode jdk_42_method_150_code 19 = .ok (.ifCond .eq 22, 3) := by decide +kernel
theorem d428 : decode jdk_42_method_150_code 22 = .ok (.aload_n 0, 1) := by decide +kernel
theorem d429 : decode jdk_42_method_150_code 23 = .ok (.iconst 0, 1) := by decide +kernel
theorem d430 : decode jdk_42_method_150_code 24 = .ok (.putfield 15, 3) := by decide +kernel
theorem d431 : decode jdk_42_method_150_code 27 = .ok (.aload_n 0, 1) := by decide +kernel
theorem d432 : decode jdk_42_method_150_code 28 = .ok (.aload_n 3, 1) := by decide +kernel
theorem d433 : decode jdk_42_method_150_code 29 = .ok (.iconst 0, 1) := by decide +kernel
theorem d434 : decode jdk_42_method_150_code 30 = .ok (.iload 4, 2) := by decide +kernel
theorem w_240 {Z : State} {a0 : Array Value} (hw : HW Z a0) : (Jvm.Cond.methodLink "java/lang/String" (54 : Nat) m_33).before a0 Z = true := hw _ (List.mem_of_getElem? (i := 240) rfl)
theorem w_242 {Z : State} {a0 : Array Value} (hw : HW Z a0) : (Jvm.Cond.code m_33 jdk_65_method_132_code (3 : Nat) (Option.some (FieldType.array FieldType.byte))).before a0 Z = true := hw _ (List.mem_of_getElem? (i := 242) rfl)
theorem d435 : decode jdk_42_method_150_code 32 = .ok (.invokestatic 54, 3) := by decide +kernel
theorem w_241 {Z : State} {a0 : Array Value} (hw : HW Z a0) : (Jvm.Cond.static m_33).before a0 Z = true := hw _ (List.mem_of_getElem? (i := 241) rfl)
theorem d436 : decode jdk_42_method_150_code 35 = .ok (.putfield 9, 3) := by decide +kernel
theorem d437 : decode jdk_42_method_150_code 38 = .ok (.goto 59, 3) := by decide +kernel
theorem d438 : decode jdk_42_method_150_code 97 = .ok (.return_, 1) := by decide +kernel
theorem ef_17 (m : MethodId) (x0 : Addr) (x1 : Addr) : entryFrame m #[(.ref x0), (.ref x1), .null] 5 = mkF m 0 #[vA x0, vA x1, .val .null, .unset, .unset] [] := by first | (simp [entryFrame, mkF, argsToLocals, Value.category, maxLocals]; done) | rfl
abbrev m_34 : MethodName := (⟨"java/lang/String", "<init>", "(Ljava/lang/AbstractStringBuilder;Ljava/lang/Void;)V"⟩ : MethodName)
def Q_sab (Z : State) (r : Addr) (u : Value) (c0 : Int32) (cp : Int32) (a_ : Addr) (v_ : Addr) (kv : ClassId) (N : Int32) (cnt : Int32) (xs : List Value) (h0 : Heap) (n0 : Nat) (v : Option Value) (h : Heap) (L : List Loc) : Prop := (v = none) ∧ (Fr n0 L) ∧ (Keep h0 h [r]) ∧ (Exa Z h r "java/lang/String")
theorem rm_sab (l : Launch) (Z : State) (a0 : Array Value) (hw : HW Z a0) (ws : List Jvm.Cond) (r : Addr) (u : Value) (c0 : Int32) (cp : Int32) (a_ : Addr) (v_ : Addr) (kv : ClassId) (N : Int32) (cnt : Int32) (xs : List Value) (h0 : Heap) (n0 : Nat) (Z0 : n0 ≤ h0.size) (P0 : Old Z n0 h0) (P1 : sta0 Z (.int cp)) (P2 : Exa Z h0 r "java/lang/String") (P3 : fld0 Z h0 r u) (P4 : fld1 Z h0 r (.int c0)) (P5 : n0 ≤ r) (P6 : Exa Z h0 a_ "java/lang/StringBuilder") (P7 : fld2 Z h0 a_ (.ref v_)) (P8 : Exa Z h0 v_ "[B") (P9 : fld3 Z h0 a_ (.int 0)) (P10 : fld4 Z h0 a_ (.int cnt)) (P11 : Arv Z h0 v_ kv .byte N xs (.int 0)) (P12 : r ≠ v_) (P13 : r ≠ a_) (hcs : ¬ (cp = (0 : Int32))) (h2 : ¬ cnt < 0) (hN : oN N) (hle : cnt.toInt ≤ N.toInt) :
    MF l Z m_34 jdk_42_method_150_code 5 none ws (oR 3 1 70 49) #[(.ref r), (.ref a_), .null] h0 (Q_sab Z r u c0 cp a_ v_ kv N cnt xs h0 n0) := by
  refine own_body (cls := "java/lang/String") (plainFor_of_name pn_1) rfl (fun p e s m below meth c s₁ hx hby hml hown hnm hret hZ X0 e0 => ?_)
  have N0 := Fr.nil n0
  have K0 := Keep.refl h0 [r]
  have lt1 := own_l P2.lt
  have lt2 := own_l P3.lt
  have lt3 := own_l P4.lt
  have lt4 := own_l P6.lt
  have lt5 := own_l P7.lt
  have lt6 := own_l P8.lt
  have lt7 := own_l P9.lt
  have lt8 := own_l P10.lt
  have lt9 := own_l P11.lt
  obtain ⟨T10, X10, e10, st10⟩ := initO X0 hx hZ hown (w_27 hw) (w_28 hw) (w_29 hw) e0 (g := (mkF m 1 #[vA r, vA a_, .val .null, .unset, .unset] [(.ref r)])) rfl (by rw [hml]; rfl) rfl (hb hby d418) (by decide) (W := 0) (Nat.le_of_eq rfl) (by decide)
  obtain ⟨cq11, kq11, qa11, qb11, qc11⟩ := isOf hZ e10 P6
  obtain ⟨_, _, ⟨T11, L11, k11, n11⟩, -, X11, ⟨Lc11, hQ11, l11, y11, z11⟩, st11⟩ := X10.virtualBack hx (y := m_26) (z := m_26) hown (mvT hZ (w_226 hw)) (mvT hZ (w_227 hw)) (notFace_of_selects (args := #[]) (mvT hZ (w_229 hw))) (mvT hZ (w_229 hw)) (mvT hZ (w_228 hw)) (by decide) (backOf (W := 0) (rm_getV l Z a0 hw [] a_ v_ h0 n0 (by omega) P7) hZ (w_230 hw) (w_109 hw) (by decide) (by decide)) qa11 qc11 (g := (mkF m 5 #[vA r, vA a_, .val .null, .unset, .unset] [(.ref a_)])) rfl (by rw [hml]; rfl) (Steps.refl _) (argsL := []) (rest := []) (lenOf pd_19 rfl) rfl (Nat.le_of_eq rfl) (hb hby d420) (fun _ _ => ⟨rfl, e10, (by decide : 0 + 0 ≤ _), (by decide : 0 + 0 ≤ _)⟩)
  dsimp only [Pt.U, Pt.locs, Pt.cells, Pt.slots] at X11 l11 y11 z11 st11 hQ11
  rw [l11, y11, z11] at X11
  obtain ⟨rfl, Nq11, Kq11⟩ := hQ11
  have N11 := Fr.app N0 Nq11
  obtain ⟨cq12, kq12, qa12, qb12, qc12⟩ := isOf hZ Kq11 P6
  obtain ⟨_, _, ⟨T12, L12, k12, n12⟩, -, X12, ⟨Lc12, hQ12, l12, y12, z12⟩, st12⟩ := X11.virtualBack hx (y := m_27) (z := m_28) hown (mvT hZ (w_231 hw)) (mvT hZ (w_232 hw)) (own_nf (a0 := #[]) (mvT hZ (w_140 hw)) (notFace_of_selects (args := #[]) (mvT hZ (w_142 hw))) rfl) (mvT hZ (w_234 hw)) (mvT hZ (w_235 hw)) (by decide) (backOf (W := 0) (rm_blen l Z a0 hw [] a_ cnt h0 n0 (by omega) P6 P10) hZ (w_236 hw) (w_101 hw) (by decide) (by decide)) qa12 qc12 (g := (mkF m 10 #[vA r, vA a_, .val .null, vA v_, .unset] [(.ref a_)])) rfl (by rw [hml]; rfl) (Steps.refl _) (argsL := []) (rest := []) (lenOf pd_10 rfl) rfl (Nat.le_of_eq rfl) (hb hby d423) (fun _ _ => ⟨rfl, Kq11, (by decide : 0 + 0 ≤ _), (by decide : 0 + 0 ≤ _)⟩)
  dsimp only [Pt.U, Pt.locs, Pt.cells, Pt.slots] at X12 l12 y12 z12 st12 hQ12
  rw [l12, y12, z12] at X12
  obtain ⟨rfl, Nq12, Kq12⟩ := hQ12
  have N12 := Fr.app N11 Nq12
  obtain ⟨cq13, kq13, qa13, qb13, qc13⟩ := isOf hZ Kq12 P6
  obtain ⟨_, _, ⟨T13, L13, k13, n13⟩, -, X13, ⟨Lc13, hQ13, l13, y13, z13⟩, st13⟩ := X12.virtualBack hx (y := m_21) (z := m_21) hown (mvT hZ (w_239 hw)) (mvT hZ (w_181 hw)) (notFace_of_selects (args := #[]) (mvT hZ (w_183 hw))) (mvT hZ (w_183 hw)) (mvT hZ (w_182 hw)) (by decide) (backOf (W := 0) (rm_isL l Z a0 hw [] a_ cp h0 n0 (by omega) P0 P1 P9 hcs) hZ (w_184 hw) (w_109 hw) (by decide) (by decide)) qa13 qc13 (g := (mkF m 16 #[vA r, vA a_, .val .null, vA v_, vI cnt] [(.ref a_)])) rfl (by rw [hml]; rfl) (Steps.refl _) (argsL := []) (rest := []) (lenOf pd_14 rfl) rfl (Nat.le_of_eq rfl) (hb hby d426) (fun _ _ => ⟨rfl, Kq12, (by decide : 0 + 0 ≤ _), (by decide : 0 + 0 ≤ _)⟩)
  dsimp only [Pt.U, Pt.locs, Pt.cells, Pt.slots] at X13 l13 y13 z13 st13 hQ13
  rw [l13, y13, z13] at X13
  obtain ⟨rfl, Nq13, Kq13⟩ := hQ13
  have N13 := Fr.app N12 Nq13
  obtain ⟨T14, h14, X14, e14, W14, st14⟩ := putFN X13 hx hZ hown (w_32 hw) Via.refl Kq13 P4 P2 (Or.inr ⟨(w_33 hw), rfl, hnm⟩) (w_18 hw) (ty := .byte) (v' := (.int 0)) (by decide) rfl rfl (g := (mkF m 24 #[vA r, vA a_, .val .null, vA v_, vI cnt] [(.int 0), (.ref r)])) rfl rfl (hb hby d430)
  have F14 := P4.same W14
  have z14 := W14.size
  have K14 := K0.wr W14 (Or.inl (List.mem_of_getElem? (i := 0) rfl))
  have N14 := Fr.snoc X14 N13 (by omega)
  have f16 := P8.wr W14
  have f17 := P11.other W14 (fun q => P12 q.symm)
  obtain ⟨_, _, ⟨T15, L15, k15, n15⟩, -, X15, ⟨Lc15, hQ15, l15, y15, z15⟩, st15⟩ := Jvm.LawKit.callS X14 hx (y := m_33) hown (mvT hZ (w_240 hw)) (mvT hZ (w_241 hw)) (mvT hZ (w_207 hw)) (mvT hZ (w_242 hw)) (by decide) (backOf (W := 1) (rm_cor l Z a0 hw [] v_ kv N cnt xs h14 n0 (by omega) f16 f17 h2 hN hle) hZ (w_242 hw) (w_207 hw) (by decide) (by decide)) (g := (mkF m 32 #[vA r, vA a_, .val .null, vA v_, vI cnt] [(.int cnt), (.int 0), (.ref v_), (.ref r)])) rfl (by rw [hml]; rfl) (argsL := [(.ref v_), (.int 0), (.int cnt)]) (rest := [(.ref r)]) (lenOf pd_18 rfl) rfl (Nat.le_of_eq rfl) (hb hby d435) (fun _ _ => ⟨rfl, e14, (by decide : 0 + 1 ≤ _), (by decide : 0 + 70 ≤ _)⟩)
  dsimp only [Pt.U, Pt.locs, Pt.cells, Pt.slots] at X15 l15 y15 z15 st15 hQ15
  rw [l15, y15, z15] at X15
  obtain ⟨x15_b, rfl, Nq15, Kq15, r15_0⟩ := hQ15
  have N15 := Fr.app N14 Nq15
  have z15' := Kq15.1
  have K15 := K14.trans Kq15 all0
  have f19 := P3.other W14 (Or.inr (slot_ne (a0 := a0) (t := (.array .byte)) (t' := .byte) (Or.inr (w_31 hw)) (Or.inr (w_33 hw)) (by decide) (by decide) (by decide)))
  have f20 := f19.keep Kq15 nin0
  have f21 := P2.wr W14
  have f22 := f21.keep Kq15
  obtain ⟨T18, h18, X18, e18, W18, st18⟩ := putF X15 hx hZ hown (host := "") (Or.inl (w_30 hw)) Via.refl rfl f20 f22 (Or.inr ⟨(w_31 hw), rfl, hnm⟩) (w_18 hw) (ty := (.array .byte)) (by decide) rfl rfl (g := (mkF m 35 #[vA r, vA a_, .val .null, vA v_, vI cnt] [(.ref x15_b), (.ref r)])) rfl rfl (hb hby d436)
  have F18 := f20.same W18
  have z18 := W18.size
  have K18 := K15.wr W18 (Or.inl (List.mem_of_getElem? (i := 0) rfl))
  have N18 := Fr.snoc X18 N15 (by omega)
  have f23 := f22.wr W18
  refine ⟨_, _, _, _, none, X18, by decide, by decide, fun _ => rfl, ?_, fun fs hr => castTop (ef_17 m r a_) ?_⟩
  · show Q_sab Z r u c0 cp a_ v_ kv N cnt xs h0 n0 _ T18.heap _
    rw [(e18 : T18.heap = h18)]
    exact ⟨rfl, N18, K18, f23⟩
  · show Steps _ _ _ (s₁.setTop (mkF m 0 #[vA r, vA a_, .val .null, .unset, .unset] [])) _
    refine XS.aloadN X0.here hx rfl (hb hby d417) rfl rfl ?_
    show Steps _ _ _ (s₁.setTop (mkF m 1 #[vA r, vA a_, .val .null, .unset, .unset] [(.ref r)])) _
    refine st10 _ ?_
    show Steps _ _ _ (T10.setTop (mkF m 4 #[vA r, vA a_, .val .null, .unset, .unset] [])) _
    refine XS.aloadN X10.here hx rfl (hb hby d419) rfl rfl ?_
    show Steps _ _ _ (T10.setTop (mkF m 5 #[vA r, vA a_, .val .null, .unset, .unset] [(.ref a_)])) _
    refine st11.trans ?_
    show Steps _ _ _ (T11.setTop (mkF m 8 #[vA r, vA a_, .val .null, .unset, .unset] [(.ref v_)])) _
    refine XS.astoreN X11.here hx rfl (hb hby d421) rfl rfl (l' := #[vA r, vA a_, .val .null, vA v_, .unset]) rfl ?_
    show Steps _ _ _ (T11.setTop (mkF m 9 #[vA r, vA a_, .val .null, vA v_, .unset] [])) _
    refine XS.aloadN X11.here hx rfl (hb hby d422) rfl rfl ?_
    show Steps _ _ _ (T11.setTop (mkF m 10 #[vA r, vA a_, .val .null, vA v_, .unset] [(.ref a_)])) _
    refine st12.trans ?_
    show Steps _ _ _ (T12.setTop (mkF m 13 #[vA r, vA a_, .val .null, vA v_, .unset] [(.int cnt)])) _
    refine XS.istore X12.here hx rfl (hb hby d424) rfl (l' := #[vA r, vA a_, .val .null, vA v_, vI cnt]) rfl ?_
    show Steps _ _ _ (T12.setTop (mkF m 15 #[vA r, vA a_, .val .null, vA v_, vI cnt] [])) _
    refine XS.aloadN X12.here hx rfl (hb hby d425) rfl rfl ?_
    show Steps _ _ _ (T12.setTop (mkF m 16 #[vA r, vA a_, .val .null, vA v_, vI cnt] [(.ref a_)])) _
    refine st13.trans ?_
    show Steps _ _ _ (T13.setTop (mkF m 19 #[vA r, vA a_, .val .null, vA v_, vI cnt] [(.int 1)])) _
    refine XS.ifNo X13.here hx rfl (hb hby d427) rfl ((if0 _ _).trans (feq ((by decide) : ¬ ((1 : Int32) = (0 : Int32)))).1) ?_
    show Steps _ _ _ (T13.setTop (mkF m 22 #[vA r, vA a_, .val .null, vA v_, vI cnt] [])) _
    refine XS.aloadN X13.here hx rfl (hb hby d428) rfl rfl ?_
    show Steps _ _ _ (T13.setTop (mkF m 23 #[vA r, vA a_, .val .null, vA v_, vI cnt] [(.ref r)])) _
    refine XS.iconst X13.here hx rfl (hb hby d429) ?_
    show Steps _ _ _ (T13.setTop (mkF m 24 #[vA r, vA a_, .val .null, vA v_, vI cnt] [(.int 0), (.ref r)])) _
    refine st14 _ ?_
    show Steps _ _ _ (T14.setTop (mkF m 27 #[vA r, vA a_, .val .null, vA v_, vI cnt] [])) _
    refine XS.aloadN X14.here hx rfl (hb hby d431) rfl rfl ?_
    show Steps _ _ _ (T14.setTop (mkF m 28 #[vA r, vA a_, .val .null, vA v_, vI cnt] [(.ref r)])) _
    refine XS.aloadN X14.here hx rfl (hb hby d432) rfl rfl ?_
    show Steps _ _ _ (T14.setTop (mkF m 29 #[vA r, vA a_, .val .null, vA v_, vI cnt] [(.ref v_), (.ref r)])) _
    refine XS.iconst X14.here hx rfl (hb hby d433) ?_
    show Steps _ _ _ (T14.setTop (mkF m 30 #[vA r, vA a_, .val .null, vA v_, vI cnt] [(.int 0), (.ref v_), (.ref r)])) _
    refine XS.iload X14.here hx rfl (hb hby d434) rfl ?_
    show Steps _ _ _ (T14.setTop (mkF m 32 #[vA r, vA a_, .val .null, vA v_, vI cnt] [(.int cnt), (.int 0), (.ref v_), (.ref r)])) _
    refine st15 _ ?_
    show Steps _ _ _ (T15.setTop (mkF m 35 #[vA r, vA a_, .val .null, vA v_, vI cnt] [(.ref x15_b), (.ref r)])) _
    refine st18 _ ?_
    show Steps _ _ _ (T18.setTop (mkF m 38 #[vA r, vA a_, .val .null, vA v_, vI cnt] [])) _
    refine XS.goto X18.here hx rfl (pc0 := 38) (pc' := 97) rfl (hb hby d437) (by decide) (by decide) ?_
    show Steps _ _ _ (T18.setTop (mkF m 97 #[vA r, vA a_, .val .null, vA v_, vI cnt] [])) _
    exact X18.returnOut hx hret (hb hby d438) hr
theorem d439 : decode jdk_42_method_53_code 0 = .ok (.aload_n 0, 1) := by decide +kernel
theorem d440 : decode jdk_42_method_53_code 1 = .ok (.aload_n 1, 1) := by decide +kernel
theorem d441 : decode jdk_42_method_53_code 2 = .ok (.aconst_null, 1) := by decide +kernel
theorem w_223 {Z : State} {a0 : Array Value} (hw : HW Z a0) : (Jvm.Cond.methodLink "java/lang/String" (489 : Nat) m_34).before a0 Z = true := hw _ (List.mem_of_getElem? (i := 223) rfl)
theorem w_225 {Z : State} {a0 : Array Value} (hw : HW Z a0) : (Jvm.Cond.code m_34 jdk_42_method_150_code (5 : Nat) (Option.none : Option Jvm.ClassFile.FieldType)).before a0 Z = true := hw _ (List.mem_of_getElem? (i := 225) rfl)
theorem pd_20 : parseMethodDescriptor "(Ljava/lang/AbstractStringBuilder;Ljava/lang/Void;)V" = some ⟨[(.object "java/lang/AbstractStringBuilder"), (.object "java/lang/Void")], none⟩ := by decide +kernel
theorem d442 : decode jdk_42_method_53_code 3 = .ok (.invokespecial 489, 3) := by decide +kernel
theorem w_224 {Z : State} {a0 : Array Value} (hw : HW Z a0) : (Jvm.Cond.instanceMethod m_34).before a0 Z = true := hw _ (List.mem_of_getElem? (i := 224) rfl)
theorem d443 : decode jdk_42_method_53_code 6 = .ok (.return_, 1) := by decide +kernel
abbrev m_35 : MethodName := (⟨"java/lang/String", "<init>", "(Ljava/lang/StringBuilder;)V"⟩ : MethodName)
def Q_ssb (Z : State) (r : Addr) (u : Value) (c0 : Int32) (cp : Int32) (a_ : Addr) (v_ : Addr) (kv : ClassId) (N : Int32) (cnt : Int32) (xs : List Value) (h0 : Heap) (n0 : Nat) (v : Option Value) (h : Heap) (L : List Loc) : Prop := (v = none) ∧ (Fr n0 L) ∧ (Keep h0 h [r]) ∧ (Exa Z h r "java/lang/String")
theorem rm_ssb (l : Launch) (Z : State) (a0 : Array Value) (hw : HW Z a0) (ws : List Jvm.Cond) (r : Addr) (u : Value) (c0 : Int32) (cp : Int32) (a_ : Addr) (v_ : Addr) (kv : ClassId) (N : Int32) (cnt : Int32) (xs : List Value) (h0 : Heap) (n0 : Nat) (Z0 : n0 ≤ h0.size) (P0 : Old Z n0 h0) (P1 : sta0 Z (.int cp)) (P2 : Exa Z h0 r "java/lang/String") (P3 : fld0 Z h0 r u) (P4 : fld1 Z h0 r (.int c0)) (P5 : n0 ≤ r) (P6 : Exa Z h0 a_ "java/lang/StringBuilder") (P7 : fld2 Z h0 a_ (.ref v_)) (P8 : Exa Z h0 v_ "[B") (P9 : fld3 Z h0 a_ (.int 0)) (P10 : fld4 Z h0 a_ (.int cnt)) (P11 : Arv Z h0 v_ kv .byte N xs (.int 0)) (P12 : r ≠ v_) (P13 : r ≠ a_) (hcs : ¬ (cp = (0 : Int32))) (h2 : ¬ cnt < 0) (hN : oN N) (hle : cnt.toInt ≤ N.toInt) :
    MF l Z m_35 jdk_42_method_53_code 2 none ws (oR 4 1 70 65) #[(.ref r), (.ref a_)] h0 (Q_ssb Z r u c0 cp a_ v_ kv N cnt xs h0 n0) := by
  refine own_body (cls := "java/lang/String") (plainFor_of_name pn_1) rfl (fun p e s m below meth c s₁ hx hby hml hown hnm hret hZ X0 e0 => ?_)
  have N0 := Fr.nil n0
  have K0 := Keep.refl h0 [r]
  have lt1 := own_l P2.lt
  have lt2 := own_l P3.lt
  have lt3 := own_l P4.lt
  have lt4 := own_l P6.lt
  have lt5 := own_l P7.lt
  have lt6 := own_l P8.lt
  have lt7 := own_l P9.lt
  have lt8 := own_l P10.lt
  have lt9 := own_l P11.lt
  obtain ⟨_, _, ⟨T10, L10, k10, n10⟩, -, X10, ⟨Lc10, hQ10, l10, y10, z10⟩, st10⟩ := X0.specialBack hx (y := m_34) rfl hown (mvT hZ (w_223 hw)) (mvT hZ (w_224 hw)) (mvT hZ (w_225 hw)) (by decide) (backOf (W := 0) (rm_sab l Z a0 hw [] r u c0 cp a_ v_ kv N cnt xs h0 n0 (by omega) P0 P1 P2 P3 P4 (by omega) P6 P7 P8 P9 P10 P11 (fun q => P12 q) (fun q => P13 q) hcs h2 hN hle) hZ (w_225 hw) (w_10 hw) (by decide) (by decide)) (g := (mkF m 3 #[vA r, vA a_] [.null, (.ref a_), (.ref r)])) rfl (by rw [hml]; rfl) (Steps.refl _) (a := r) (argsL := [(.ref a_), .null]) (rest := []) (lenOf pd_20 rfl) rfl (Nat.le_of_eq rfl) (hb hby d442) (fun _ _ => ⟨rfl, e0, (by decide : 0 + 1 ≤ _), (by decide : 0 + 70 ≤ _)⟩)
  dsimp only [Pt.U, Pt.locs, Pt.cells, Pt.slots] at X10 l10 y10 z10 st10 hQ10
  rw [l10, y10, z10] at X10
  obtain ⟨rfl, Nq10, Kq10, r10_0⟩ := hQ10
  have N10 := Fr.app N0 Nq10
  have z10' := Kq10.1
  have K10 := K0.trans Kq10 (allS (Or.inl (List.mem_of_getElem? (i := 0) rfl)) all0)
  have lt11 := own_l r10_0.lt
  refine ⟨_, _, _, _, none, X10, by decide, by decide, fun _ => rfl, ?_, fun fs hr => castTop (ef_7 m r a_) ?_⟩
  · show Q_ssb Z r u c0 cp a_ v_ kv N cnt xs h0 n0 _ T10.heap _
    exact ⟨rfl, N10, K10, r10_0⟩
  · show Steps _ _ _ (s₁.setTop (mkF m 0 #[vA r, vA a_] [])) _
    refine XS.aloadN X0.here hx rfl (hb hby d439) rfl rfl ?_
    show Steps _ _ _ (s₁.setTop (mkF m 1 #[vA r, vA a_] [(.ref r)])) _
    refine XS.aloadN X0.here hx rfl (hb hby d440) rfl rfl ?_
    show Steps _ _ _ (s₁.setTop (mkF m 2 #[vA r, vA a_] [(.ref a_), (.ref r)])) _
    refine XS.aconstNull X0.here hx rfl (hb hby d441) ?_
    show Steps _ _ _ (s₁.setTop (mkF m 3 #[vA r, vA a_] [.null, (.ref a_), (.ref r)])) _
    refine st10.trans ?_
    show Steps _ _ _ (T10.setTop (mkF m 6 #[vA r, vA a_] [])) _
    exact X10.returnOut hx hret (hb hby d443) hr
theorem w_219 {Z : State} {a0 : Array Value} (hw : HW Z a0) : (Jvm.Cond.classLink "java/lang/StringBuilder" (18 : Nat) "java/lang/String").before a0 Z = true := hw _ (List.mem_of_getElem? (i := 219) rfl)
theorem d444 : decode jdk_67_method_42_code 0 = .ok (.new 18, 3) := by decide +kernel
theorem d445 : decode jdk_67_method_42_code 3 = .ok (.dup, 1) := by decide +kernel
theorem d446 : decode jdk_67_method_42_code 4 = .ok (.aload_n 0, 1) := by decide +kernel
theorem w_220 {Z : State} {a0 : Array Value} (hw : HW Z a0) : (Jvm.Cond.methodLink "java/lang/StringBuilder" (137 : Nat) m_35).before a0 Z = true := hw _ (List.mem_of_getElem? (i := 220) rfl)
theorem w_222 {Z : State} {a0 : Array Value} (hw : HW Z a0) : (Jvm.Cond.code m_35 jdk_42_method_53_code (2 : Nat) (Option.none : Option Jvm.ClassFile.FieldType)).before a0 Z = true := hw _ (List.mem_of_getElem? (i := 222) rfl)
theorem pd_21 : parseMethodDescriptor "(Ljava/lang/StringBuilder;)V" = some ⟨[(.object "java/lang/StringBuilder")], none⟩ := by decide +kernel
theorem d447 : decode jdk_67_method_42_code 5 = .ok (.invokespecial 137, 3) := by decide +kernel
theorem w_221 {Z : State} {a0 : Array Value} (hw : HW Z a0) : (Jvm.Cond.instanceMethod m_35).before a0 Z = true := hw _ (List.mem_of_getElem? (i := 221) rfl)
theorem d448 : decode jdk_67_method_42_code 8 = .ok (.areturn, 1) := by decide +kernel
abbrev m_36 : MethodName := (⟨"java/lang/StringBuilder", "toString", "()Ljava/lang/String;"⟩ : MethodName)
def Q_tos (Z : State) (cp : Int32) (a_ : Addr) (v_ : Addr) (kv : ClassId) (N : Int32) (cnt : Int32) (xs : List Value) (h0 : Heap) (n0 : Nat) (v : Option Value) (h : Heap) (L : List Loc) : Prop := ∃ (r : Addr), (v = some (.ref r)) ∧ (Fr n0 L) ∧ (Keep h0 h []) ∧ (h0.size ≤ r) ∧ (Exa Z h r "java/lang/String")
theorem rm_tos (l : Launch) (Z : State) (a0 : Array Value) (hw : HW Z a0) (ws : List Jvm.Cond) (cp : Int32) (a_ : Addr) (v_ : Addr) (kv : ClassId) (N : Int32) (cnt : Int32) (xs : List Value) (h0 : Heap) (n0 : Nat) (Z0 : n0 ≤ h0.size) (P0 : Old Z n0 h0) (P1 : sta0 Z (.int cp)) (P2 : Exa Z h0 a_ "java/lang/StringBuilder") (P3 : fld2 Z h0 a_ (.ref v_)) (P4 : Exa Z h0 v_ "[B") (P5 : fld3 Z h0 a_ (.int 0)) (P6 : fld4 Z h0 a_ (.int cnt)) (P7 : Arv Z h0 v_ kv .byte N xs (.int 0)) (hcs : ¬ (cp = (0 : Int32))) (h2 : ¬ cnt < 0) (hN : oN N) (hle : cnt.toInt ≤ N.toInt) :
    MF l Z m_36 jdk_67_method_42_code 1 (some (.object "java/lang/String")) ws (oR 5 2 74 79) #[(.ref a_)] h0 (Q_tos Z cp a_ v_ kv N cnt xs h0 n0) := by
  refine own_body (cls := "java/lang/StringBuilder") (plainFor_of_name pn_7) rfl (fun p e s m below meth c s₁ hx hby hml hown hnm hret hZ X0 e0 => ?_)
  have N0 := Fr.nil n0
  have K0 := Keep.refl h0 []
  have lt1 := own_l P2.lt
  have lt2 := own_l P3.lt
  have lt3 := own_l P4.lt
  have lt4 := own_l P5.lt
  have lt5 := own_l P6.lt
  have lt6 := own_l P7.lt
  obtain ⟨T7, h7, X7, e7, E7, A7, D7, -, st7⟩ := newO X0 hx hZ hown (w_219 hw) (w_18 hw) (w_10 hw) e0 (g := (mkF m 0 #[vA a_] [])) rfl (hb hby d444) (by decide) (by decide)
  obtain ⟨b7, g7⟩ : ∃ z, z = h0.size := ⟨_, rfl⟩
  rw [← g7] at A7 D7 st7
  have z7 := E7.1
  have K7 := K0.ext E7
  have lt8 := own_l A7.lt
  have F7_31 : Fld Z h7 b7 "java/lang/String" "value" "[B" .null := D7 (Or.inr (w_31 hw)) (ty := (.array .byte)) (by decide)
  have F7_33 : Fld Z h7 b7 "java/lang/String" "coder" "B" (.int 0) := D7 (Or.inr (w_33 hw)) (ty := .byte) (by decide)
  have f10 := P0.ext E7
  have f11 := P2.ext E7
  have f12 := P3.ext E7
  have f13 := P4.ext E7
  have f14 := P5.ext E7
  have f15 := P6.ext E7
  have f16 := P7.ext E7
  obtain ⟨_, _, ⟨T9, L9, k9, n9⟩, -, X9, ⟨Lc9, hQ9, l9, y9, z9⟩, st9⟩ := X7.specialBack hx (y := m_35) rfl hown (mvT hZ (w_220 hw)) (mvT hZ (w_221 hw)) (mvT hZ (w_222 hw)) (by decide) (backOf (W := 1) (rm_ssb l Z a0 hw [] b7 (.null) ((0 : Int32)) cp a_ v_ kv N cnt xs h7 n0 (by omega) f10 P1 A7 F7_31 F7_33 (by omega) f11 f12 f13 f14 f15 f16 (own_ne (by omega)) (own_ne (by omega)) hcs h2 hN hle) hZ (w_222 hw) (w_10 hw) (by decide) (by decide)) (g := (mkF m 5 #[vA a_] [(.ref a_), (.ref b7), (.ref b7)])) rfl (by rw [hml]; rfl) (Steps.refl _) (a := b7) (argsL := [(.ref a_)]) (rest := [(.ref b7)]) (lenOf pd_21 rfl) rfl (Nat.le_of_eq rfl) (hb hby d447) (fun _ _ => ⟨rfl, e7, (by decide : 1 + 1 ≤ _), (by decide : 4 + 70 ≤ _)⟩)
  dsimp only [Pt.U, Pt.locs, Pt.cells, Pt.slots] at X9 l9 y9 z9 st9 hQ9
  rw [l9, y9, z9] at X9
  obtain ⟨rfl, Nq9, Kq9, r9_0⟩ := hQ9
  have N9 := Fr.app N0 Nq9
  have z9' := Kq9.1
  have K9 := K7.trans Kq9 (allS (Or.inr (by omega)) all0)
  have lt17 := own_l r9_0.lt
  refine ⟨_, _, _, _, some (.ref b7), X9, by decide, by decide, nofun, ?_, fun fs hr => castTop (ef_2 m a_) ?_⟩
  · show Q_tos Z cp a_ v_ kv N cnt xs h0 n0 _ T9.heap _
    exact ⟨b7, rfl, N9, K9, (by omega), r9_0⟩
  · show Steps _ _ _ (s₁.setTop (mkF m 0 #[vA a_] [])) _
    refine st7 _ ?_
    show Steps _ _ _ (T7.setTop (mkF m 3 #[vA a_] [(.ref b7)])) _
    refine XS.dup X7.here hx rfl (hb hby d445) rfl rfl ?_
    show Steps _ _ _ (T7.setTop (mkF m 4 #[vA a_] [(.ref b7), (.ref b7)])) _
    refine XS.aloadN X7.here hx rfl (hb hby d446) rfl rfl ?_
    show Steps _ _ _ (T7.setTop (mkF m 5 #[vA a_] [(.ref a_), (.ref b7), (.ref b7)])) _
    refine st9.trans ?_
    show Steps _ _ _ (T9.setTop (mkF m 8 #[vA a_] [(.ref b7)])) _
    exact retOut X9 hx hret (own_narrow_ref rfl) (Or.inr (Or.inr (Or.inr (Or.inr ⟨rfl, rfl, rfl⟩)))) (hb hby d448) hr
theorem d449 : decode jdk_78_method_5_code 0 = .ok (.aload_n 0, 1) := by decide +kernel
theorem w_60 {Z : State} {a0 : Array Value} (hw : HW Z a0) : (Jvm.Cond.methodLink "java/lang/Throwable" (1 : Nat) m_2).before a0 Z = true := hw _ (List.mem_of_getElem? (i := 60) rfl)
theorem d450 : decode jdk_78_method_5_code 1 = .ok (.invokespecial 1, 3) := by decide +kernel
theorem d451 : decode jdk_78_method_5_code 4 = .ok (.aload_n 0, 1) := by decide +kernel
theorem d452 : decode jdk_78_method_5_code 5 = .ok (.aload_n 0, 1) := by decide +kernel
theorem w_61 {Z : State} {a0 : Array Value} (hw : HW Z a0) : (Jvm.Cond.fieldLink "java/lang/Throwable" (7 : Nat) "java/lang/Throwable" "cause" "Ljava/lang/Throwable;").before a0 Z = true := hw _ (List.mem_of_getElem? (i := 61) rfl)
theorem w_62 {Z : State} {a0 : Array Value} (hw : HW Z a0) : (Jvm.Cond.lays "com/example/formulary/formulary/host/FormulaException" "java/lang/Throwable" "cause" "Ljava/lang/Throwable;").before a0 Z = true := hw _ (List.mem_of_getElem? (i := 62) rfl)
theorem w_35 {Z : State} {a0 : Array Value} (hw : HW Z a0) : (Jvm.Cond.instantiable "com/example/formulary/formulary/host/FormulaException" (10 : Nat)).before a0 Z = true := hw _ (List.mem_of_getElem? (i := 35) rfl)
theorem d453 : decode jdk_78_method_5_code 6 = .ok (.putfield 7, 3) := by decide +kernel
theorem d454 : decode jdk_78_method_5_code 9 = .ok (.aload_n 0, 1) := by decide +kernel
theorem w_63 {Z : State} {a0 : Array Value} (hw : HW Z a0) : (Jvm.Cond.fieldLink "java/lang/Throwable" (13 : Nat) "java/lang/Throwable" "UNASSIGNED_STACK" "[Ljava/lang/StackTraceElement;").before a0 Z = true := hw _ (List.mem_of_getElem? (i := 63) rfl)
theorem d455 : decode jdk_78_method_5_code 10 = .ok (.getstatic 13, 3) := by decide +kernel
theorem w_64 {Z : State} {a0 : Array Value} (hw : HW Z a0) : (Jvm.Cond.fieldLink "java/lang/Throwable" (17 : Nat) "java/lang/Throwable" "stackTrace" "[Ljava/lang/StackTraceElement;").before a0 Z = true := hw _ (List.mem_of_getElem? (i := 64) rfl)
theorem w_65 {Z : State} {a0 : Array Value} (hw : HW Z a0) : (Jvm.Cond.lays "com/example/formulary/formulary/host/FormulaException" "java/lang/Throwable" "stackTrace" "[Ljava/lang/StackTraceElement;").before a0 Z = true := hw _ (List.mem_of_getElem? (i := 65) rfl)
theorem d456 : decode jdk_78_method_5_code 13 = .ok (.putfield 17, 3) := by decide +kernel
theorem d457 : decode jdk_78_method_5_code 16 = .ok (.aload_n 0, 1) := by decide +kernel
theorem w_66 {Z : State} {a0 : Array Value} (hw : HW Z a0) : (Jvm.Cond.fieldLink "java/lang/Throwable" (20 : Nat) "java/lang/Throwable" "SUPPRESSED_SENTINEL" "Ljava/util/List;").before a0 Z = true := hw _ (List.mem_of_getElem? (i := 66) rfl)
theorem d458 : decode jdk_78_method_5_code 17 = .ok (.getstatic 20, 3) := by decide +kernel
theorem w_67 {Z : State} {a0 : Array Value} (hw : HW Z a0) : (Jvm.Cond.fieldLink "java/lang/Throwable" (24 : Nat) "java/lang/Throwable" "suppressedExceptions" "Ljava/util/List;").before a0 Z = true := hw _ (List.mem_of_getElem? (i := 67) rfl)
theorem w_68 {Z : State} {a0 : Array Value} (hw : HW Z a0) : (Jvm.Cond.lays "com/example/formulary/formulary/host/FormulaException" "java/lang/Throwable" "suppressedExceptions" "Ljava/util/List;").before a0 Z = true := hw _ (List.mem_of_getElem? (i := 68) rfl)
theorem d459 : decode jdk_78_method_5_code 20 = .ok (.putfield 24, 3) := by decide +kernel
theorem d460 : decode jdk_78_method_5_code 23 = .ok (.iload 4, 2) := by decide +kernel
theorem d461 : decode jdk_78_method_5_code 25 = .ok (.ifCond .eq 11, 3) := by decide +kernel
theorem d462 : decode jdk_78_method_5_code 36 = .ok (.aload_n 0, 1) := by decide +kernel
theorem d463 : decode jdk_78_method_5_code 37 = .ok (.aconst_null, 1) := by decide +kernel
theorem d464 : decode jdk_78_method_5_code 38 = .ok (.putfield 17, 3) := by decide +kernel
theorem d465 : decode jdk_78_method_5_code 41 = .ok (.aload_n 0, 1) := by decide +kernel
theorem d466 : decode jdk_78_method_5_code 42 = .ok (.aload_n 1, 1) := by decide +kernel
theorem w_69 {Z : State} {a0 : Array Value} (hw : HW Z a0) : (Jvm.Cond.fieldLink "java/lang/Throwable" (31 : Nat) "java/lang/Throwable" "detailMessage" "Ljava/lang/String;").before a0 Z = true := hw _ (List.mem_of_getElem? (i := 69) rfl)
theorem w_70 {Z : State} {a0 : Array Value} (hw : HW Z a0) : (Jvm.Cond.lays "com/example/formulary/formulary/host/FormulaException" "java/lang/Throwable" "detailMessage" "Ljava/lang/String;").before a0 Z = true := hw _ (List.mem_of_getElem? (i := 70) rfl)
theorem d467 : decode jdk_78_method_5_code 43 = .ok (.putfield 31, 3) := by decide +kernel
theorem d468 : decode jdk_78_method_5_code 46 = .ok (.aload_n 0, 1) := by decide +kernel
theorem d469 : decode jdk_78_method_5_code 47 = .ok (.aload_n 2, 1) := by decide +kernel
theorem d470 : decode jdk_78_method_5_code 48 = .ok (.putfield 7, 3) := by decide +kernel
theorem d471 : decode jdk_78_method_5_code 51 = .ok (.iload_n 3, 1) := by decide +kernel
theorem d472 : decode jdk_78_method_5_code 52 = .ok (.ifCond .ne 8, 3) := by decide +kernel
theorem d473 : decode jdk_78_method_5_code 55 = .ok (.aload_n 0, 1) := by decide +kernel
theorem d474 : decode jdk_78_method_5_code 56 = .ok (.aconst_null, 1) := by decide +kernel
theorem d475 : decode jdk_78_method_5_code 57 = .ok (.putfield 24, 3) := by decide +kernel
theorem d476 : decode jdk_78_method_5_code 60 = .ok (.return_, 1) := by decide +kernel
theorem w_72 {Z : State} {a0 : Array Value} (hw : HW Z a0) : (Jvm.Cond.laysFinal "com/example/formulary/formulary/host/FormulaException" "com/example/formulary/formulary/host/FormulaException" "kind" "Lcom/example/formulary/formulary/host/FormulaException$Kind;").before a0 Z = true := hw _ (List.mem_of_getElem? (i := 72) rfl)
theorem w_74 {Z : State} {a0 : Array Value} (hw : HW Z a0) : (Jvm.Cond.laysFinal "com/example/formulary/formulary/host/FormulaException" "com/example/formulary/formulary/host/FormulaException" "description" "Ljava/lang/String;").before a0 Z = true := hw _ (List.mem_of_getElem? (i := 74) rfl)
theorem w_76 {Z : State} {a0 : Array Value} (hw : HW Z a0) : (Jvm.Cond.laysFinal "com/example/formulary/formulary/host/FormulaException" "com/example/formulary/formulary/host/FormulaException" "line" "I").before a0 Z = true := hw _ (List.mem_of_getElem? (i := 76) rfl)
theorem w_78 {Z : State} {a0 : Array Value} (hw : HW Z a0) : (Jvm.Cond.laysFinal "com/example/formulary/formulary/host/FormulaException" "com/example/formulary/formulary/host/FormulaException" "column" "I").before a0 Z = true := hw _ (List.mem_of_getElem? (i := 78) rfl)
theorem pn_9 : plainName "java/lang/Throwable" = true := by first | (simp [plainName, overriddenIn]; done) | decide +kernel
theorem ef_18 (m : MethodId) (x0 : Addr) (x1 : Addr) (x3 : Int32) (x4 : Int32) : entryFrame m #[(.ref x0), (.ref x1), .null, (.int x3), (.int x4)] 5 = mkF m 0 #[vA x0, vA x1, .val .null, vI x3, vI x4] [] := by first | (simp [entryFrame, mkF, argsToLocals, Value.category, maxLocals]; done) | rfl
abbrev m_37 : MethodName := (⟨"java/lang/Throwable", "<init>", "(Ljava/lang/String;Ljava/lang/Throwable;ZZ)V"⟩ : MethodName)
def Q_thi (Z : State) (fe : Addr) (ms : Addr) (su : Value) (ss : Value) (h0 : Heap) (n0 : Nat) (v : Option Value) (h : Heap) (L : List Loc) : Prop := (v = none) ∧ (Fr n0 L) ∧ (Keep h0 h [fe]) ∧ (Exa Z h fe "com/example/formulary/formulary/host/FormulaException") ∧ (Fld Z h fe "com/example/formulary/formulary/host/FormulaException" "kind" "Lcom/example/formulary/formulary/host/FormulaException$Kind;" .null) ∧ (Fld Z h fe "com/example/formulary/formulary/host/FormulaException" "description" "Ljava/lang/String;" .null) ∧ (Fld Z h fe "com/example/formulary/formulary/host/FormulaException" "line" "I" (.int 0)) ∧ (Fld Z h fe "com/example/formulary/formulary/host/FormulaException" "column" "I" (.int 0))
theorem rm_thi (l : Launch) (Z : State) (a0 : Array Value) (hw : HW Z a0) (ws : List Jvm.Cond) (fe : Addr) (ms : Addr) (su : Value) (ss : Value) (h0 : Heap) (n0 : Nat) (Z0 : n0 ≤ h0.size) (P0 : Old Z n0 h0) (P1 : Sta Z Z.heap "java/lang/Throwable" "UNASSIGNED_STACK" "[Ljava/lang/StackTraceElement;" su) (P2 : Sta Z Z.heap "java/lang/Throwable" "SUPPRESSED_SENTINEL" "Ljava/util/List;" ss) (P3 : Exa Z h0 fe "com/example/formulary/formulary/host/FormulaException") (P4 : Fld Z h0 fe "java/lang/Throwable" "cause" "Ljava/lang/Throwable;" .null) (P5 : Fld Z h0 fe "java/lang/Throwable" "stackTrace" "[Ljava/lang/StackTraceElement;" .null) (P6 : Fld Z h0 fe "java/lang/Throwable" "suppressedExceptions" "Ljava/util/List;" .null) (P7 : Fld Z h0 fe "java/lang/Throwable" "detailMessage" "Ljava/lang/String;" .null) (P8 : Fld Z h0 fe "com/example/formulary/formulary/host/FormulaException" "kind" "Lcom/example/formulary/formulary/host/FormulaException$Kind;" .null) (P9 : Fld Z h0 fe "com/example/formulary/formulary/host/FormulaException" "description" "Ljava/lang/String;" .null) (P10 : Fld Z h0 fe "com/example/formulary/formulary/host/FormulaException" "line" "I" (.int 0)) (P11 : Fld Z h0 fe "com/example/formulary/formulary/host/FormulaException" "column" "I" (.int 0)) (P12 : n0 ≤ fe) (hsu : su.isRef = true) (hss : ss.isRef = true) :
    MF l Z m_37 jdk_78_method_5_code 5 none ws (oR 1 0 0 12) #[(.ref fe), (.ref ms), .null, (.int 0), (.int 0)] h0 (Q_thi Z fe ms su ss h0 n0) := by
  refine own_body (cls := "java/lang/Throwable") (plainFor_of_name pn_9) rfl (fun p e s m below meth c s₁ hx hby hml hown hnm hret hZ X0 e0 => ?_)
  have N0 := Fr.nil n0
  have K0 := Keep.refl h0 [fe]
  have lt1 := own_l P3.lt
  have lt2 := own_l P4.lt
  have lt3 := own_l P5.lt
  have lt4 := own_l P6.lt
  have lt5 := own_l P7.lt
  have lt6 := own_l P8.lt
  have lt7 := own_l P9.lt
  have lt8 := own_l P10.lt
  have lt9 := own_l P11.lt
  obtain ⟨T10, X10, e10, st10⟩ := initO X0 hx hZ hown (w_60 hw) (w_28 hw) (w_29 hw) e0 (g := (mkF m 1 #[vA fe, vA ms, .val .null, vI 0, vI 0] [(.ref fe)])) rfl (by rw [hml]; rfl) rfl (hb hby d450) (by decide) (W := 0) (Nat.le_of_eq rfl) (by decide)
  obtain ⟨T11, h11, X11, e11, W11, st11⟩ := putF X10 hx hZ hown (host := "") (Or.inl (w_61 hw)) Via.refl e10 P4 P3 (Or.inl (w_62 hw)) (w_35 hw) (ty := (.object "java/lang/Throwable")) (by decide) rfl rfl (g := (mkF m 6 #[vA fe, vA ms, .val .null, vI 0, vI 0] [(.ref fe), (.ref fe)])) rfl rfl (hb hby d453)
  have F11 := P4.same W11
  have z11 := W11.size
  have K11 := K0.wr W11 (Or.inl (List.mem_of_getElem? (i := 0) rfl))
  have N11 := Fr.snoc X11 N0 (by omega)
  have f13 := P0.wr W11 (by omega)
  obtain ⟨T12, X12, e12, st12⟩ := getS2 X11 hx hZ hown (host := "") (Or.inl (w_63 hw)) Via.refl e11 (P1.ext f13.2) (g := (mkF m 10 #[vA fe, vA ms, .val .null, vI 0, vI 0] [(.ref fe)])) rfl (hb hby d455)
  have f15 := P5.other W11 (Or.inr (slot_ne (a0 := a0) (t := (.array (.object "java/lang/StackTraceElement"))) (t' := (.object "java/lang/Throwable")) (Or.inl (w_65 hw)) (Or.inl (w_62 hw)) (by decide) (by decide) (by decide)))
  have f16 := P3.wr W11
  obtain ⟨T14, h14, X14, e14, W14, st14⟩ := putF X12 hx hZ hown (host := "") (Or.inl (w_64 hw)) Via.refl e12 f15 f16 (Or.inl (w_65 hw)) (w_35 hw) (ty := (.array (.object "java/lang/StackTraceElement"))) (by decide) (own_narrow_ref hsu) (own_fits_ref hsu rfl) (g := (mkF m 13 #[vA fe, vA ms, .val .null, vI 0, vI 0] [su, (.ref fe)])) rfl rfl (hb hby d456)
  have F14 := f15.same W14
  have z14 := W14.size
  have K14 := K11.wr W14 (Or.inl (List.mem_of_getElem? (i := 0) rfl))
  have N14 := Fr.snoc X14 N11 (by omega)
  have f18 := f13.wr W14 (by omega)
  obtain ⟨T17, X17, e17, st17⟩ := getS2 X14 hx hZ hown (host := "") (Or.inl (w_66 hw)) Via.refl e14 (P2.ext f18.2) (g := (mkF m 17 #[vA fe, vA ms, .val .null, vI 0, vI 0] [(.ref fe)])) rfl (hb hby d458)
  have f20 := P6.other W11 (Or.inr (slot_ne (a0 := a0) (t := (.object "java/util/List")) (t' := (.object "java/lang/Throwable")) (Or.inl (w_68 hw)) (Or.inl (w_62 hw)) (by decide) (by decide) (by decide)))
  have f21 := f20.other W14 (Or.inr (slot_ne (a0 := a0) (t := (.object "java/util/List")) (t' := (.array (.object "java/lang/StackTraceElement"))) (Or.inl (w_68 hw)) (Or.inl (w_65 hw)) (by decide) (by decide) (by decide)))
  have f22 := f16.wr W14
  obtain ⟨T19, h19, X19, e19, W19, st19⟩ := putF X17 hx hZ hown (host := "") (Or.inl (w_67 hw)) Via.refl e17 f21 f22 (Or.inl (w_68 hw)) (w_35 hw) (ty := (.object "java/util/List")) (by decide) (own_narrow_ref hss) (own_fits_ref hss rfl) (g := (mkF m 20 #[vA fe, vA ms, .val .null, vI 0, vI 0] [ss, (.ref fe)])) rfl rfl (hb hby d459)
  have F19 := f21.same W19
  have z19 := W19.size
  have K19 := K14.wr W19 (Or.inl (List.mem_of_getElem? (i := 0) rfl))
  have N19 := Fr.snoc X19 N14 (by omega)
  have f24 := F14.other W19 (Or.inr (slot_ne (a0 := a0) (t := (.array (.object "java/lang/StackTraceElement"))) (t' := (.object "java/util/List")) (Or.inl (w_65 hw)) (Or.inl (w_68 hw)) (by decide) (by decide) (by decide)))
  have f25 := f22.wr W19
  obtain ⟨T23, h23, X23, e23, W23, st23⟩ := putF X19 hx hZ hown (host := "") (Or.inl (w_64 hw)) Via.refl e19 f24 f25 (Or.inl (w_65 hw)) (w_35 hw) (ty := (.array (.object "java/lang/StackTraceElement"))) (by decide) rfl rfl (g := (mkF m 38 #[vA fe, vA ms, .val .null, vI 0, vI 0] [.null, (.ref fe)])) rfl rfl (hb hby d464)
  have F23 := f24.same W23
  have z23 := W23.size
  have K23 := K19.wr W23 (Or.inl (List.mem_of_getElem? (i := 0) rfl))
  have N23 := Fr.snoc X23 N19 (by omega)
  have f27 := P7.other W11 (Or.inr (slot_ne (a0 := a0) (t := (.object "java/lang/String")) (t' := (.object "java/lang/Throwable")) (Or.inl (w_70 hw)) (Or.inl (w_62 hw)) (by decide) (by decide) (by decide)))
  have f28 := f27.other W14 (Or.inr (slot_ne (a0 := a0) (t := (.object "java/lang/String")) (t' := (.array (.object "java/lang/StackTraceElement"))) (Or.inl (w_70 hw)) (Or.inl (w_65 hw)) (by decide) (by decide) (by decide)))
  have f29 := f28.other W19 (Or.inr (slot_ne (a0 := a0) (t := (.object "java/lang/String")) (t' := (.object "java/util/List")) (Or.inl (w_70 hw)) (Or.inl (w_68 hw)) (by decide) (by decide) (by decide)))
  have f30 := f29.other W23 (Or.inr (slot_ne (a0 := a0) (t := (.object "java/lang/String")) (t' := (.array (.object "java/lang/StackTraceElement"))) (Or.inl (w_70 hw)) (Or.inl (w_65 hw)) (by decide) (by decide) (by decide)))
  have f31 := f25.wr W23
  obtain ⟨T26, h26, X26, e26, W26, st26⟩ := putF X23 hx hZ hown (host := "") (Or.inl (w_69 hw)) Via.refl e23 f30 f31 (Or.inl (w_70 hw)) (w_35 hw) (ty := (.object "java/lang/String")) (by decide) rfl rfl (g := (mkF m 43 #[vA fe, vA ms, .val .null, vI 0, vI 0] [(.ref ms), (.ref fe)])) rfl rfl (hb hby d467)
  have F26 := f30.same W26
  have z26 := W26.size
  have K26 := K23.wr W26 (Or.inl (List.mem_of_getElem? (i := 0) rfl))
  have N26 := Fr.snoc X26 N23 (by omega)
  have f33 := F11.other W14 (Or.inr (slot_ne (a0 := a0) (t := (.object "java/lang/Throwable")) (t' := (.array (.object "java/lang/StackTraceElement"))) (Or.inl (w_62 hw)) (Or.inl (w_65 hw)) (by decide) (by decide) (by decide)))
  have f34 := f33.other W19 (Or.inr (slot_ne (a0 := a0) (t := (.object "java/lang/Throwable")) (t' := (.object "java/util/List")) (Or.inl (w_62 hw)) (Or.inl (w_68 hw)) (by decide) (by decide) (by decide)))
  have f35 := f34.other W23 (Or.inr (slot_ne (a0 := a0) (t := (.object "java/lang/Throwable")) (t' := (.array (.object "java/lang/StackTraceElement"))) (Or.inl (w_62 hw)) (Or.inl (w_65 hw)) (by decide) (by decide) (by decide)))
  have f36 := f35.other W26 (Or.inr (slot_ne (a0 := a0) (t := (.object "java/lang/Throwable")) (t' := (.object "java/lang/String")) (Or.inl (w_62 hw)) (Or.inl (w_70 hw)) (by decide) (by decide) (by decide)))
  have f37 := f31.wr W26
  obtain ⟨T32, h32, X32, e32, W32, st32⟩ := putF X26 hx hZ hown (host := "") (Or.inl (w_61 hw)) Via.refl e26 f36 f37 (Or.inl (w_62 hw)) (w_35 hw) (ty := (.object "java/lang/Throwable")) (by decide) rfl rfl (g := (mkF m 48 #[vA fe, vA ms, .val .null, vI 0, vI 0] [.null, (.ref fe)])) rfl rfl (hb hby d470)
  have F32 := f36.same W32
  have z32 := W32.size
  have K32 := K26.wr W32 (Or.inl (List.mem_of_getElem? (i := 0) rfl))
  have N32 := Fr.snoc X32 N26 (by omega)
  have f39 := F19.other W23 (Or.inr (slot_ne (a0 := a0) (t := (.object "java/util/List")) (t' := (.array (.object "java/lang/StackTraceElement"))) (Or.inl (w_68 hw)) (Or.inl (w_65 hw)) (by decide) (by decide) (by decide)))
  have f40 := f39.other W26 (Or.inr (slot_ne (a0 := a0) (t := (.object "java/util/List")) (t' := (.object "java/lang/String")) (Or.inl (w_68 hw)) (Or.inl (w_70 hw)) (by decide) (by decide) (by decide)))
  have f41 := f40.other W32 (Or.inr (slot_ne (a0 := a0) (t := (.object "java/util/List")) (t' := (.object "java/lang/Throwable")) (Or.inl (w_68 hw)) (Or.inl (w_62 hw)) (by decide) (by decide) (by decide)))
  have f42 := f37.wr W32
  obtain ⟨T38, h38, X38, e38, W38, st38⟩ := putF X32 hx hZ hown (host := "") (Or.inl (w_67 hw)) Via.refl e32 f41 f42 (Or.inl (w_68 hw)) (w_35 hw) (ty := (.object "java/util/List")) (by decide) rfl rfl (g := (mkF m 57 #[vA fe, vA ms, .val .null, vI 0, vI 0] [.null, (.ref fe)])) rfl rfl (hb hby d475)
  have F38 := f41.same W38
  have z38 := W38.size
  have K38 := K32.wr W38 (Or.inl (List.mem_of_getElem? (i := 0) rfl))
  have N38 := Fr.snoc X38 N32 (by omega)
  have f43 := f42.wr W38
  have f44 := P8.other W11 (Or.inr (slot_ne (a0 := a0) (t := (.object "com/example/formulary/formulary/host/FormulaException$Kind")) (t' := (.object "java/lang/Throwable")) (Or.inr (w_72 hw)) (Or.inl (w_62 hw)) (by decide) (by decide) (by decide)))
  have f45 := f44.other W14 (Or.inr (slot_ne (a0 := a0) (t := (.object "com/example/formulary/formulary/host/FormulaException$Kind")) (t' := (.array (.object "java/lang/StackTraceElement"))) (Or.inr (w_72 hw)) (Or.inl (w_65 hw)) (by decide) (by decide) (by decide)))
  have f46 := f45.other W19 (Or.inr (slot_ne (a0 := a0) (t := (.object "com/example/formulary/formulary/host/FormulaException$Kind")) (t' := (.object "java/util/List")) (Or.inr (w_72 hw)) (Or.inl (w_68 hw)) (by decide) (by decide) (by decide)))
  have f47 := f46.other W23 (Or.inr (slot_ne (a0 := a0) (t := (.object "com/example/formulary/formulary/host/FormulaException$Kind")) (t' := (.array (.object "java/lang/StackTraceElement"))) (Or.inr (w_72 hw)) (Or.inl (w_65 hw)) (by decide) (by decide) (by decide)))
  have f48 := f47.other W26 (Or.inr (slot_ne (a0 := a0) (t := (.object "com/example/formulary/formulary/host/FormulaException$Kind")) (t' := (.object "java/lang/String")) (Or.inr (w_72 hw)) (Or.inl (w_70 hw)) (by decide) (by decide) (by decide)))
  have f49 := f48.other W32 (Or.inr (slot_ne (a0 := a0) (t := (.object "com/example/formulary/formulary/host/FormulaException$Kind")) (t' := (.object "java/lang/Throwable")) (Or.inr (w_72 hw)) (Or.inl (w_62 hw)) (by decide) (by decide) (by decide)))
  have f50 := f49.other W38 (Or.inr (slot_ne (a0 := a0) (t := (.object "com/example/formulary/formulary/host/FormulaException$Kind")) (t' := (.object "java/util/List")) (Or.inr (w_72 hw)) (Or.inl (w_68 hw)) (by decide) (by decide) (by decide)))
  have f51 := P9.other W11 (Or.inr (slot_ne (a0 := a0) (t := (.object "java/lang/String")) (t' := (.object "java/lang/Throwable")) (Or.inr (w_74 hw)) (Or.inl (w_62 hw)) (by decide) (by decide) (by decide)))
  have f52 := f51.other W14 (Or.inr (slot_ne (a0 := a0) (t := (.object "java/lang/String")) (t' := (.array (.object "java/lang/StackTraceElement"))) (Or.inr (w_74 hw)) (Or.inl (w_65 hw)) (by decide) (by decide) (by decide)))
  have f53 := f52.other W19 (Or.inr (slot_ne (a0 := a0) (t := (.object "java/lang/String")) (t' := (.object "java/util/List")) (Or.inr (w_74 hw)) (Or.inl (w_68 hw)) (by decide) (by decide) (by decide)))
  have f54 := f53.other W23 (Or.inr (slot_ne (a0 := a0) (t := (.object "java/lang/String")) (t' := (.array (.object "java/lang/StackTraceElement"))) (Or.inr (w_74 hw)) (Or.inl (w_65 hw)) (by decide) (by decide) (by decide)))
  have f55 := f54.other W26 (Or.inr (slot_ne (a0 := a0) (t := (.object "java/lang/String")) (t' := (.object "java/lang/String")) (Or.inr (w_74 hw)) (Or.inl (w_70 hw)) (by decide) (by decide) (by decide)))
  have f56 := f55.other W32 (Or.inr (slot_ne (a0 := a0) (t := (.object "java/lang/String")) (t' := (.object "java/lang/Throwable")) (Or.inr (w_74 hw)) (Or.inl (w_62 hw)) (by decide) (by decide) (by decide)))
  have f57 := f56.other W38 (Or.inr (slot_ne (a0 := a0) (t := (.object "java/lang/String")) (t' := (.object "java/util/List")) (Or.inr (w_74 hw)) (Or.inl (w_68 hw)) (by decide) (by decide) (by decide)))
  have f58 := P10.other W11 (Or.inr (slot_ne (a0 := a0) (t := .int) (t' := (.object "java/lang/Throwable")) (Or.inr (w_76 hw)) (Or.inl (w_62 hw)) (by decide) (by decide) (by decide)))
  have f59 := f58.other W14 (Or.inr (slot_ne (a0 := a0) (t := .int) (t' := (.array (.object "java/lang/StackTraceElement"))) (Or.inr (w_76 hw)) (Or.inl (w_65 hw)) (by decide) (by decide) (by decide)))
  have f60 := f59.other W19 (Or.inr (slot_ne (a0 := a0) (t := .int) (t' := (.object "java/util/List")) (Or.inr (w_76 hw)) (Or.inl (w_68 hw)) (by decide) (by decide) (by decide)))
  have f61 := f60.other W23 (Or.inr (slot_ne (a0 := a0) (t := .int) (t' := (.array (.object "java/lang/StackTraceElement"))) (Or.inr (w_76 hw)) (Or.inl (w_65 hw)) (by decide) (by decide) (by decide)))
  have f62 := f61.other W26 (Or.inr (slot_ne (a0 := a0) (t := .int) (t' := (.object "java/lang/String")) (Or.inr (w_76 hw)) (Or.inl (w_70 hw)) (by decide) (by decide) (by decide)))
  have f63 := f62.other W32 (Or.inr (slot_ne (a0 := a0) (t := .int) (t' := (.object "java/lang/Throwable")) (Or.inr (w_76 hw)) (Or.inl (w_62 hw)) (by decide) (by decide) (by decide)))
  have f64 := f63.other W38 (Or.inr (slot_ne (a0 := a0) (t := .int) (t' := (.object "java/util/List")) (Or.inr (w_76 hw)) (Or.inl (w_68 hw)) (by decide) (by decide) (by decide)))
  have f65 := P11.other W11 (Or.inr (slot_ne (a0 := a0) (t := .int) (t' := (.object "java/lang/Throwable")) (Or.inr (w_78 hw)) (Or.inl (w_62 hw)) (by decide) (by decide) (by decide)))
  have f66 := f65.other W14 (Or.inr (slot_ne (a0 := a0) (t := .int) (t' := (.array (.object "java/lang/StackTraceElement"))) (Or.inr (w_78 hw)) (Or.inl (w_65 hw)) (by decide) (by decide) (by decide)))
  have f67 := f66.other W19 (Or.inr (slot_ne (a0 := a0) (t := .int) (t' := (.object "java/util/List")) (Or.inr (w_78 hw)) (Or.inl (w_68 hw)) (by decide) (by decide) (by decide)))
  have f68 := f67.other W23 (Or.inr (slot_ne (a0 := a0) (t := .int) (t' := (.array (.object "java/lang/StackTraceElement"))) (Or.inr (w_78 hw)) (Or.inl (w_65 hw)) (by decide) (by decide) (by decide)))
  have f69 := f68.other W26 (Or.inr (slot_ne (a0 := a0) (t := .int) (t' := (.object "java/lang/String")) (Or.inr (w_78 hw)) (Or.inl (w_70 hw)) (by decide) (by decide) (by decide)))
  have f70 := f69.other W32 (Or.inr (slot_ne (a0 := a0) (t := .int) (t' := (.object "java/lang/Throwable")) (Or.inr (w_78 hw)) (Or.inl (w_62 hw)) (by decide) (by decide) (by decide)))
  have f71 := f70.other W38 (Or.inr (slot_ne (a0 := a0) (t := .int) (t' := (.object "java/util/List")) (Or.inr (w_78 hw)) (Or.inl (w_68 hw)) (by decide) (by decide) (by decide)))
  refine ⟨_, _, _, _, none, X38, by decide, by decide, fun _ => rfl, ?_, fun fs hr => castTop (ef_18 m fe ms (0 : Int32) (0 : Int32)) ?_⟩
  · show Q_thi Z fe ms su ss h0 n0 _ T38.heap _
    rw [(e38 : T38.heap = h38)]
    exact ⟨rfl, N38, K38, f43, f50, f57, f64, f71⟩
  · show Steps _ _ _ (s₁.setTop (mkF m 0 #[vA fe, vA ms, .val .null, vI 0, vI 0] [])) _
    refine XS.aloadN X0.here hx rfl (hb hby d449) rfl rfl ?_
    show Steps _ _ _ (s₁.setTop (mkF m 1 #[vA fe, vA ms, .val .null, vI 0, vI 0] [(.ref fe)])) _
    refine st10 _ ?_
    show Steps _ _ _ (T10.setTop (mkF m 4 #[vA fe, vA ms, .val .null, vI 0, vI 0] [])) _
    refine XS.aloadN X10.here hx rfl (hb hby d451) rfl rfl ?_
    show Steps _ _ _ (T10.setTop (mkF m 5 #[vA fe, vA ms, .val .null, vI 0, vI 0] [(.ref fe)])) _
    refine XS.aloadN X10.here hx rfl (hb hby d452) rfl rfl ?_
    show Steps _ _ _ (T10.setTop (mkF m 6 #[vA fe, vA ms, .val .null, vI 0, vI 0] [(.ref fe), (.ref fe)])) _
    refine st11 _ ?_
    show Steps _ _ _ (T11.setTop (mkF m 9 #[vA fe, vA ms, .val .null, vI 0, vI 0] [])) _
    refine XS.aloadN X11.here hx rfl (hb hby d454) rfl rfl ?_
    show Steps _ _ _ (T11.setTop (mkF m 10 #[vA fe, vA ms, .val .null, vI 0, vI 0] [(.ref fe)])) _
    refine st12 _ ?_
    show Steps _ _ _ (T12.setTop (mkF m 13 #[vA fe, vA ms, .val .null, vI 0, vI 0] [su, (.ref fe)])) _
    refine st14 _ ?_
    show Steps _ _ _ (T14.setTop (mkF m 16 #[vA fe, vA ms, .val .null, vI 0, vI 0] [])) _
    refine XS.aloadN X14.here hx rfl (hb hby d457) rfl rfl ?_
    show Steps _ _ _ (T14.setTop (mkF m 17 #[vA fe, vA ms, .val .null, vI 0, vI 0] [(.ref fe)])) _
    refine st17 _ ?_
    show Steps _ _ _ (T17.setTop (mkF m 20 #[vA fe, vA ms, .val .null, vI 0, vI 0] [ss, (.ref fe)])) _
    refine st19 _ ?_
    show Steps _ _ _ (T19.setTop (mkF m 23 #[vA fe, vA ms, .val .null, vI 0, vI 0] [])) _
    refine XS.iload X19.here hx rfl (hb hby d460) rfl ?_
    show Steps _ _ _ (T19.setTop (mkF m 25 #[vA fe, vA ms, .val .null, vI 0, vI 0] [(.int 0)])) _
    refine XS.ifYes X19.here hx rfl (pc0 := 25) (pc' := 36) rfl (hb hby d461) rfl ((if0 _ _).trans (teq ((by decide) : (0 : Int32) = (0 : Int32))).1) (by decide) (by decide) ?_
    show Steps _ _ _ (T19.setTop (mkF m 36 #[vA fe, vA ms, .val .null, vI 0, vI 0] [])) _
    refine XS.aloadN X19.here hx rfl (hb hby d462) rfl rfl ?_
    show Steps _ _ _ (T19.setTop (mkF m 37 #[vA fe, vA ms, .val .null, vI 0, vI 0] [(.ref fe)])) _
    refine XS.aconstNull X19.here hx rfl (hb hby d463) ?_
    show Steps _ _ _ (T19.setTop (mkF m 38 #[vA fe, vA ms, .val .null, vI 0, vI 0] [.null, (.ref fe)])) _
    refine st23 _ ?_
    show Steps _ _ _ (T23.setTop (mkF m 41 #[vA fe, vA ms, .val .null, vI 0, vI 0] [])) _
    refine XS.aloadN X23.here hx rfl (hb hby d465) rfl rfl ?_
    show Steps _ _ _ (T23.setTop (mkF m 42 #[vA fe, vA ms, .val .null, vI 0, vI 0] [(.ref fe)])) _
    refine XS.aloadN X23.here hx rfl (hb hby d466) rfl rfl ?_
    show Steps _ _ _ (T23.setTop (mkF m 43 #[vA fe, vA ms, .val .null, vI 0, vI 0] [(.ref ms), (.ref fe)])) _
    refine st26 _ ?_
    show Steps _ _ _ (T26.setTop (mkF m 46 #[vA fe, vA ms, .val .null, vI 0, vI 0] [])) _
    refine XS.aloadN X26.here hx rfl (hb hby d468) rfl rfl ?_
    show Steps _ _ _ (T26.setTop (mkF m 47 #[vA fe, vA ms, .val .null, vI 0, vI 0] [(.ref fe)])) _
    refine XS.aloadN X26.here hx rfl (hb hby d469) rfl rfl ?_
    show Steps _ _ _ (T26.setTop (mkF m 48 #[vA fe, vA ms, .val .null, vI 0, vI 0] [.null, (.ref fe)])) _
    refine st32 _ ?_
    show Steps _ _ _ (T32.setTop (mkF m 51 #[vA fe, vA ms, .val .null, vI 0, vI 0] [])) _
    refine XS.iloadN X32.here hx rfl (hb hby d471) rfl ?_
    show Steps _ _ _ (T32.setTop (mkF m 52 #[vA fe, vA ms, .val .null, vI 0, vI 0] [(.int 0)])) _
    refine XS.ifNo X32.here hx rfl (hb hby d472) rfl ((if0 _ _).trans (teq ((by decide) : (0 : Int32) = (0 : Int32))).2) ?_
    show Steps _ _ _ (T32.setTop (mkF m 55 #[vA fe, vA ms, .val .null, vI 0, vI 0] [])) _
    refine XS.aloadN X32.here hx rfl (hb hby d473) rfl rfl ?_
    show Steps _ _ _ (T32.setTop (mkF m 56 #[vA fe, vA ms, .val .null, vI 0, vI 0] [(.ref fe)])) _
    refine XS.aconstNull X32.here hx rfl (hb hby d474) ?_
    show Steps _ _ _ (T32.setTop (mkF m 57 #[vA fe, vA ms, .val .null, vI 0, vI 0] [.null, (.ref fe)])) _
    refine st38 _ ?_
    show Steps _ _ _ (T38.setTop (mkF m 60 #[vA fe, vA ms, .val .null, vI 0, vI 0] [])) _
    exact X38.returnOut hx hret (hb hby d476) hr
theorem d477 : decode jdk_59_method_5_code 0 = .ok (.aload_n 0, 1) := by decide +kernel
theorem d478 : decode jdk_59_method_5_code 1 = .ok (.aload_n 1, 1) := by decide +kernel
theorem d479 : decode jdk_59_method_5_code 2 = .ok (.aload_n 2, 1) := by decide +kernel
theorem d480 : decode jdk_59_method_5_code 3 = .ok (.iload_n 3, 1) := by decide +kernel
theorem d481 : decode jdk_59_method_5_code 4 = .ok (.iload 4, 2) := by decide +kernel
theorem w_54 {Z : State} {a0 : Array Value} (hw : HW Z a0) : (Jvm.Cond.methodLink "java/lang/Exception" (16 : Nat) m_37).before a0 Z = true := hw _ (List.mem_of_getElem? (i := 54) rfl)
theorem w_59 {Z : State} {a0 : Array Value} (hw : HW Z a0) : (Jvm.Cond.code m_37 jdk_78_method_5_code (5 : Nat) (Option.none : Option Jvm.ClassFile.FieldType)).before a0 Z = true := hw _ (List.mem_of_getElem? (i := 59) rfl)
theorem w_58 {Z : State} {a0 : Array Value} (hw : HW Z a0) : (Jvm.Cond.initialized "java/lang/Throwable").before a0 Z = true := hw _ (List.mem_of_getElem? (i := 58) rfl)
theorem pd_22 : parseMethodDescriptor "(Ljava/lang/String;Ljava/lang/Throwable;ZZ)V" = some ⟨[(.object "java/lang/String"), (.object "java/lang/Throwable"), .boolean, .boolean], none⟩ := by decide +kernel
theorem d482 : decode jdk_59_method_5_code 6 = .ok (.invokespecial 16, 3) := by decide +kernel
theorem w_55 {Z : State} {a0 : Array Value} (hw : HW Z a0) : (Jvm.Cond.instanceMethod m_37).before a0 Z = true := hw _ (List.mem_of_getElem? (i := 55) rfl)
theorem d483 : decode jdk_59_method_5_code 9 = .ok (.return_, 1) := by decide +kernel
theorem pn_10 : plainName "java/lang/Exception" = true := by first | (simp [plainName, overriddenIn]; done) | decide +kernel
abbrev m_38 : MethodName := (⟨"java/lang/Exception", "<init>", "(Ljava/lang/String;Ljava/lang/Throwable;ZZ)V"⟩ : MethodName)
def Q_exi (Z : State) (fe : Addr) (ms : Addr) (su : Value) (ss : Value) (h0 : Heap) (n0 : Nat) (v : Option Value) (h : Heap) (L : List Loc) : Prop := (v = none) ∧ (Fr n0 L) ∧ (Keep h0 h [fe]) ∧ (Exa Z h fe "com/example/formulary/formulary/host/FormulaException") ∧ (Fld Z h fe "com/example/formulary/formulary/host/FormulaException" "kind" "Lcom/example/formulary/formulary/host/FormulaException$Kind;" .null) ∧ (Fld Z h fe "com/example/formulary/formulary/host/FormulaException" "description" "Ljava/lang/String;" .null) ∧ (Fld Z h fe "com/example/formulary/formulary/host/FormulaException" "line" "I" (.int 0)) ∧ (Fld Z h fe "com/example/formulary/formulary/host/FormulaException" "column" "I" (.int 0))
theorem rm_exi (l : Launch) (Z : State) (a0 : Array Value) (hw : HW Z a0) (ws : List Jvm.Cond) (fe : Addr) (ms : Addr) (su : Value) (ss : Value) (h0 : Heap) (n0 : Nat) (Z0 : n0 ≤ h0.size) (P0 : Old Z n0 h0) (P1 : Sta Z Z.heap "java/lang/Throwable" "UNASSIGNED_STACK" "[Ljava/lang/StackTraceElement;" su) (P2 : Sta Z Z.heap "java/lang/Throwable" "SUPPRESSED_SENTINEL" "Ljava/util/List;" ss) (P3 : Exa Z h0 fe "com/example/formulary/formulary/host/FormulaException") (P4 : Fld Z h0 fe "java/lang/Throwable" "cause" "Ljava/lang/Throwable;" .null) (P5 : Fld Z h0 fe "java/lang/Throwable" "stackTrace" "[Ljava/lang/StackTraceElement;" .null) (P6 : Fld Z h0 fe "java/lang/Throwable" "suppressedExceptions" "Ljava/util/List;" .null) (P7 : Fld Z h0 fe "java/lang/Throwable" "detailMessage" "Ljava/lang/String;" .null) (P8 : Fld Z h0 fe "com/example/formulary/formulary/host/FormulaException" "kind" "Lcom/example/formulary/formulary/host/FormulaException$Kind;" .null) (P9 : Fld Z h0 fe "com/example/formulary/formulary/host/FormulaException" "description" "Ljava/lang/String;" .null) (P10 : Fld Z h0 fe "com/example/formulary/formulary/host/FormulaException" "line" "I" (.int 0)) (P11 : Fld Z h0 fe "com/example/formulary/formulary/host/FormulaException" "column" "I" (.int 0)) (P12 : n0 ≤ fe) (hsu : su.isRef = true) (hss : ss.isRef = true) :
    MF l Z m_38 jdk_59_method_5_code 5 none ws (oR 2 0 0 28) #[(.ref fe), (.ref ms), .null, (.int 0), (.int 0)] h0 (Q_exi Z fe ms su ss h0 n0) := by
  refine own_body (cls := "java/lang/Exception") (plainFor_of_name pn_10) rfl (fun p e s m below meth c s₁ hx hby hml hown hnm hret hZ X0 e0 => ?_)
  have N0 := Fr.nil n0
  have K0 := Keep.refl h0 [fe]
  have lt1 := own_l P3.lt
  have lt2 := own_l P4.lt
  have lt3 := own_l P5.lt
  have lt4 := own_l P6.lt
  have lt5 := own_l P7.lt
  have lt6 := own_l P8.lt
  have lt7 := own_l P9.lt
  have lt8 := own_l P10.lt
  have lt9 := own_l P11.lt
  obtain ⟨_, _, ⟨T10, L10, k10, n10⟩, -, X10, ⟨Lc10, hQ10, l10, y10, z10⟩, st10⟩ := X0.specialBack hx (y := m_37) rfl hown (mvT hZ (w_54 hw)) (mvT hZ (w_55 hw)) (mvT hZ (w_59 hw)) (by decide) (backOf (W := 0) (rm_thi l Z a0 hw [] fe ms su ss h0 n0 (by omega) P0 P1 P2 P3 P4 P5 P6 P7 P8 P9 P10 P11 (by omega) hsu hss) hZ (w_59 hw) (w_58 hw) (by decide) (by decide)) (g := (mkF m 6 #[vA fe, vA ms, .val .null, vI 0, vI 0] [(.int 0), (.int 0), .null, (.ref ms), (.ref fe)])) rfl (by rw [hml]; rfl) (Steps.refl _) (a := fe) (argsL := [(.ref ms), .null, (.int 0), (.int 0)]) (rest := []) (lenOf pd_22 rfl) rfl (Nat.le_of_eq rfl) (hb hby d482) (fun _ _ => ⟨rfl, e0, (by decide : 0 + 0 ≤ _), (by decide : 0 + 0 ≤ _)⟩)
  dsimp only [Pt.U, Pt.locs, Pt.cells, Pt.slots] at X10 l10 y10 z10 st10 hQ10
  rw [l10, y10, z10] at X10
  obtain ⟨rfl, Nq10, Kq10, r10_0, r10_1, r10_2, r10_3, r10_4⟩ := hQ10
  have N10 := Fr.app N0 Nq10
  have z10' := Kq10.1
  have K10 := K0.trans Kq10 (allS (Or.inl (List.mem_of_getElem? (i := 0) rfl)) all0)
  have lt11 := own_l r10_0.lt
  have lt12 := own_l r10_1.lt
  have lt13 := own_l r10_2.lt
  have lt14 := own_l r10_3.lt
  have lt15 := own_l r10_4.lt
  refine ⟨_, _, _, _, none, X10, by decide, by decide, fun _ => rfl, ?_, fun fs hr => castTop (ef_18 m fe ms (0 : Int32) (0 : Int32)) ?_⟩
  · show Q_exi Z fe ms su ss h0 n0 _ T10.heap _
    exact ⟨rfl, N10, K10, r10_0, r10_1, r10_2, r10_3, r10_4⟩
  · show Steps _ _ _ (s₁.setTop (mkF m 0 #[vA fe, vA ms, .val .null, vI 0, vI 0] [])) _
    refine XS.aloadN X0.here hx rfl (hb hby d477) rfl rfl ?_
    show Steps _ _ _ (s₁.setTop (mkF m 1 #[vA fe, vA ms, .val .null, vI 0, vI 0] [(.ref fe)])) _
    refine XS.aloadN X0.here hx rfl (hb hby d478) rfl rfl ?_
    show Steps _ _ _ (s₁.setTop (mkF m 2 #[vA fe, vA ms, .val .null, vI 0, vI 0] [(.ref ms), (.ref fe)])) _
    refine XS.aloadN X0.here hx rfl (hb hby d479) rfl rfl ?_
    show Steps _ _ _ (s₁.setTop (mkF m 3 #[vA fe, vA ms, .val .null, vI 0, vI 0] [.null, (.ref ms), (.ref fe)])) _
    refine XS.iloadN X0.here hx rfl (hb hby d480) rfl ?_
    show Steps _ _ _ (s₁.setTop (mkF m 4 #[vA fe, vA ms, .val .null, vI 0, vI 0] [(.int 0), .null, (.ref ms), (.ref fe)])) _
    refine XS.iload X0.here hx rfl (hb hby d481) rfl ?_
    show Steps _ _ _ (s₁.setTop (mkF m 6 #[vA fe, vA ms, .val .null, vI 0, vI 0] [(.int 0), (.int 0), .null, (.ref ms), (.ref fe)])) _
    refine st10.trans ?_
    show Steps _ _ _ (T10.setTop (mkF m 9 #[vA fe, vA ms, .val .null, vI 0, vI 0] [])) _
    exact X10.returnOut hx hret (hb hby d483) hr
theorem d484 : decode jdk_58_method_5_code 0 = .ok (.aload_n 0, 1) := by decide +kernel
theorem d485 : decode jdk_58_method_5_code 1 = .ok (.aload_n 1, 1) := by decide +kernel
theorem d486 : decode jdk_58_method_5_code 2 = .ok (.aload_n 2, 1) := by decide +kernel
theorem d487 : decode jdk_58_method_5_code 3 = .ok (.iload_n 3, 1) := by decide +kernel
theorem d488 : decode jdk_58_method_5_code 4 = .ok (.iload 4, 2) := by decide +kernel
theorem w_48 {Z : State} {a0 : Array Value} (hw : HW Z a0) : (Jvm.Cond.methodLink "java/lang/RuntimeException" (16 : Nat) m_38).before a0 Z = true := hw _ (List.mem_of_getElem? (i := 48) rfl)
theorem w_53 {Z : State} {a0 : Array Value} (hw : HW Z a0) : (Jvm.Cond.code m_38 jdk_59_method_5_code (5 : Nat) (Option.none : Option Jvm.ClassFile.FieldType)).before a0 Z = true := hw _ (List.mem_of_getElem? (i := 53) rfl)
theorem w_52 {Z : State} {a0 : Array Value} (hw : HW Z a0) : (Jvm.Cond.initialized "java/lang/Exception").before a0 Z = true := hw _ (List.mem_of_getElem? (i := 52) rfl)
theorem d489 : decode jdk_58_method_5_code 6 = .ok (.invokespecial 16, 3) := by decide +kernel
theorem w_49 {Z : State} {a0 : Array Value} (hw : HW Z a0) : (Jvm.Cond.instanceMethod m_38).before a0 Z = true := hw _ (List.mem_of_getElem? (i := 49) rfl)
theorem d490 : decode jdk_58_method_5_code 9 = .ok (.return_, 1) := by decide +kernel
theorem pn_11 : plainName "java/lang/RuntimeException" = true := by first | (simp [plainName, overriddenIn]; done) | decide +kernel
abbrev m_39 : MethodName := (⟨"java/lang/RuntimeException", "<init>", "(Ljava/lang/String;Ljava/lang/Throwable;ZZ)V"⟩ : MethodName)
def Q_rti (Z : State) (fe : Addr) (ms : Addr) (su : Value) (ss : Value) (h0 : Heap) (n0 : Nat) (v : Option Value) (h : Heap) (L : List Loc) : Prop := (v = none) ∧ (Fr n0 L) ∧ (Keep h0 h [fe]) ∧ (Exa Z h fe "com/example/formulary/formulary/host/FormulaException") ∧ (Fld Z h fe "com/example/formulary/formulary/host/FormulaException" "kind" "Lcom/example/formulary/formulary/host/FormulaException$Kind;" .null) ∧ (Fld Z h fe "com/example/formulary/formulary/host/FormulaException" "description" "Ljava/lang/String;" .null) ∧ (Fld Z h fe "com/example/formulary/formulary/host/FormulaException" "line" "I" (.int 0)) ∧ (Fld Z h fe "com/example/formulary/formulary/host/FormulaException" "column" "I" (.int 0))
theorem rm_rti (l : Launch) (Z : State) (a0 : Array Value) (hw : HW Z a0) (ws : List Jvm.Cond) (fe : Addr) (ms : Addr) (su : Value) (ss : Value) (h0 : Heap) (n0 : Nat) (Z0 : n0 ≤ h0.size) (P0 : Old Z n0 h0) (P1 : Sta Z Z.heap "java/lang/Throwable" "UNASSIGNED_STACK" "[Ljava/lang/StackTraceElement;" su) (P2 : Sta Z Z.heap "java/lang/Throwable" "SUPPRESSED_SENTINEL" "Ljava/util/List;" ss) (P3 : Exa Z h0 fe "com/example/formulary/formulary/host/FormulaException") (P4 : Fld Z h0 fe "java/lang/Throwable" "cause" "Ljava/lang/Throwable;" .null) (P5 : Fld Z h0 fe "java/lang/Throwable" "stackTrace" "[Ljava/lang/StackTraceElement;" .null) (P6 : Fld Z h0 fe "java/lang/Throwable" "suppressedExceptions" "Ljava/util/List;" .null) (P7 : Fld Z h0 fe "java/lang/Throwable" "detailMessage" "Ljava/lang/String;" .null) (P8 : Fld Z h0 fe "com/example/formulary/formulary/host/FormulaException" "kind" "Lcom/example/formulary/formulary/host/FormulaException$Kind;" .null) (P9 : Fld Z h0 fe "com/example/formulary/formulary/host/FormulaException" "description" "Ljava/lang/String;" .null) (P10 : Fld Z h0 fe "com/example/formulary/formulary/host/FormulaException" "line" "I" (.int 0)) (P11 : Fld Z h0 fe "com/example/formulary/formulary/host/FormulaException" "column" "I" (.int 0)) (P12 : n0 ≤ fe) (hsu : su.isRef = true) (hss : ss.isRef = true) :
    MF l Z m_39 jdk_58_method_5_code 5 none ws (oR 3 0 0 44) #[(.ref fe), (.ref ms), .null, (.int 0), (.int 0)] h0 (Q_rti Z fe ms su ss h0 n0) := by
  refine own_body (cls := "java/lang/RuntimeException") (plainFor_of_name pn_11) rfl (fun p e s m below meth c s₁ hx hby hml hown hnm hret hZ X0 e0 => ?_)
  have N0 := Fr.nil n0
  have K0 := Keep.refl h0 [fe]
  have lt1 := own_l P3.lt
  have lt2 := own_l P4.lt
  have lt3 := own_l P5.lt
  have lt4 := own_l P6.lt
  have lt5 := own_l P7.lt
  have lt6 := own_l P8.lt
  have lt7 := own_l P9.lt
  have lt8 := own_l P10.lt
  have lt9 := own_l P11.lt
  obtain ⟨_, _, ⟨T10, L10, k10, n10⟩, -, X10, ⟨Lc10, hQ10, l10, y10, z10⟩, st10⟩ := X0.specialBack hx (y := m_38) rfl hown (mvT hZ (w_48 hw)) (mvT hZ (w_49 hw)) (mvT hZ (w_53 hw)) (by decide) (backOf (W := 0) (rm_exi l Z a0 hw [] fe ms su ss h0 n0 (by omega) P0 P1 P2 P3 P4 P5 P6 P7 P8 P9 P10 P11 (by omega) hsu hss) hZ (w_53 hw) (w_52 hw) (by decide) (by decide)) (g := (mkF m 6 #[vA fe, vA ms, .val .null, vI 0, vI 0] [(.int 0), (.int 0), .null, (.ref ms), (.ref fe)])) rfl (by rw [hml]; rfl) (Steps.refl _) (a := fe) (argsL := [(.ref ms), .null, (.int 0), (.int 0)]) (rest := []) (lenOf pd_22 rfl) rfl (Nat.le_of_eq rfl) (hb hby d489) (fun _ _ => ⟨rfl, e0, (by decide : 0 + 0 ≤ _), (by decide : 0 + 0 ≤ _)⟩)
  dsimp only [Pt.U, Pt.locs, Pt.cells, Pt.slots] at X10 l10 y10 z10 st10 hQ10
  rw [l10, y10, z10] at X10
  obtain ⟨rfl, Nq10, Kq10, r10_0, r10_1, r10_2, r10_3, r10_4⟩ := hQ10
  have N10 := Fr.app N0 Nq10
  have z10' := Kq10.1
  have K10 := K0.trans Kq10 (allS (Or.inl (List.mem_of_getElem? (i := 0) rfl)) all0)
  have lt11 := own_l r10_0.lt
  have lt12 := own_l r10_1.lt
  have lt13 := own_l r10_2.lt
  have lt14 := own_l r10_3.lt
  have lt15 := own_l r10_4.lt
  refine ⟨_, _, _, _, none, X10, by decide, by decide, fun _ => rfl, ?_, fun fs hr => castTop (ef_18 m fe ms (0 : Int32) (0 : Int32)) ?_⟩
  · show Q_rti Z fe ms su ss h0 n0 _ T10.heap _
    exact ⟨rfl, N10, K10, r10_0, r10_1, r10_2, r10_3, r10_4⟩
  · show Steps _ _ _ (s₁.setTop (mkF m 0 #[vA fe, vA ms, .val .null, vI 0, vI 0] [])) _
    refine XS.aloadN X0.here hx rfl (hb hby d484) rfl rfl ?_
    show Steps _ _ _ (s₁.setTop (mkF m 1 #[vA fe, vA ms, .val .null, vI 0, vI 0] [(.ref fe)])) _
    refine XS.aloadN X0.here hx rfl (hb hby d485) rfl rfl ?_
    show Steps _ _ _ (s₁.setTop (mkF m 2 #[vA fe, vA ms, .val .null, vI 0, vI 0] [(.ref ms), (.ref fe)])) _
    refine XS.aloadN X0.here hx rfl (hb hby d486) rfl rfl ?_
    show Steps _ _ _ (s₁.setTop (mkF m 3 #[vA fe, vA ms, .val .null, vI 0, vI 0] [.null, (.ref ms), (.ref fe)])) _
    refine XS.iloadN X0.here hx rfl (hb hby d487) rfl ?_
    show Steps _ _ _ (s₁.setTop (mkF m 4 #[vA fe, vA ms, .val .null, vI 0, vI 0] [(.int 0), .null, (.ref ms), (.ref fe)])) _
    refine XS.iload X0.here hx rfl (hb hby d488) rfl ?_
    show Steps _ _ _ (s₁.setTop (mkF m 6 #[vA fe, vA ms, .val .null, vI 0, vI 0] [(.int 0), (.int 0), .null, (.ref ms), (.ref fe)])) _
    refine st10.trans ?_
    show Steps _ _ _ (T10.setTop (mkF m 9 #[vA fe, vA ms, .val .null, vI 0, vI 0] [])) _
    exact X10.returnOut hx hret (hb hby d490) hr
theorem d491 : decode prog_36_method_3_code 0 = .ok (.aload_n 0, 1) := by decide +kernel
theorem d492 : decode prog_36_method_3_code 1 = .ok (.aload 5, 2) := by decide +kernel
theorem d493 : decode prog_36_method_3_code 3 = .ok (.aconst_null, 1) := by decide +kernel
theorem d494 : decode prog_36_method_3_code 4 = .ok (.iconst 0, 1) := by decide +kernel
theorem d495 : decode prog_36_method_3_code 5 = .ok (.iconst 0, 1) := by decide +kernel
theorem w_43 {Z : State} {a0 : Array Value} (hw : HW Z a0) : (Jvm.Cond.methodLink "com/example/formulary/formulary/host/FormulaException" (34 : Nat) m_39).before a0 Z = true := hw _ (List.mem_of_getElem? (i := 43) rfl)
theorem w_47 {Z : State} {a0 : Array Value} (hw : HW Z a0) : (Jvm.Cond.code m_39 jdk_58_method_5_code (5 : Nat) (Option.none : Option Jvm.ClassFile.FieldType)).before a0 Z = true := hw _ (List.mem_of_getElem? (i := 47) rfl)
theorem w_46 {Z : State} {a0 : Array Value} (hw : HW Z a0) : (Jvm.Cond.initialized "java/lang/RuntimeException").before a0 Z = true := hw _ (List.mem_of_getElem? (i := 46) rfl)
theorem d496 : decode prog_36_method_3_code 6 = .ok (.invokespecial 34, 3) := by decide +kernel
theorem w_44 {Z : State} {a0 : Array Value} (hw : HW Z a0) : (Jvm.Cond.instanceMethod m_39).before a0 Z = true := hw _ (List.mem_of_getElem? (i := 44) rfl)
theorem d497 : decode prog_36_method_3_code 9 = .ok (.aload_n 1, 1) := by decide +kernel
theorem d498 : decode prog_36_method_3_code 10 = .ok (.ifnull 7, 3) := by decide +kernel
theorem d499 : decode prog_36_method_3_code 13 = .ok (.aload_n 2, 1) := by decide +kernel
theorem d500 : decode prog_36_method_3_code 14 = .ok (.ifnonnull 13, 3) := by decide +kernel
theorem d501 : decode prog_36_method_3_code 27 = .ok (.aload_n 0, 1) := by decide +kernel
theorem d502 : decode prog_36_method_3_code 28 = .ok (.aload_n 1, 1) := by decide +kernel
theorem w_71 {Z : State} {a0 : Array Value} (hw : HW Z a0) : (Jvm.Cond.fieldLink "com/example/formulary/formulary/host/FormulaException" (41 : Nat) "com/example/formulary/formulary/host/FormulaException" "kind" "Lcom/example/formulary/formulary/host/FormulaException$Kind;").before a0 Z = true := hw _ (List.mem_of_getElem? (i := 71) rfl)
theorem d503 : decode prog_36_method_3_code 29 = .ok (.putfield 41, 3) := by decide +kernel
theorem d504 : decode prog_36_method_3_code 32 = .ok (.aload_n 0, 1) := by decide +kernel
theorem d505 : decode prog_36_method_3_code 33 = .ok (.aload_n 2, 1) := by decide +kernel
theorem w_73 {Z : State} {a0 : Array Value} (hw : HW Z a0) : (Jvm.Cond.fieldLink "com/example/formulary/formulary/host/FormulaException" (45 : Nat) "com/example/formulary/formulary/host/FormulaException" "description" "Ljava/lang/String;").before a0 Z = true := hw _ (List.mem_of_getElem? (i := 73) rfl)
theorem d506 : decode prog_36_method_3_code 34 = .ok (.putfield 45, 3) := by decide +kernel
theorem d507 : decode prog_36_method_3_code 37 = .ok (.aload_n 0, 1) := by decide +kernel
theorem d508 : decode prog_36_method_3_code 38 = .ok (.iload_n 3, 1) := by decide +kernel
theorem w_75 {Z : State} {a0 : Array Value} (hw : HW Z a0) : (Jvm.Cond.fieldLink "com/example/formulary/formulary/host/FormulaException" (49 : Nat) "com/example/formulary/formulary/host/FormulaException" "line" "I").before a0 Z = true := hw _ (List.mem_of_getElem? (i := 75) rfl)
theorem d509 : decode prog_36_method_3_code 39 = .ok (.putfield 49, 3) := by decide +kernel
theorem d510 : decode prog_36_method_3_code 42 = .ok (.aload_n 0, 1) := by decide +kernel
theorem d511 : decode prog_36_method_3_code 43 = .ok (.iload 4, 2) := by decide +kernel
theorem w_77 {Z : State} {a0 : Array Value} (hw : HW Z a0) : (Jvm.Cond.fieldLink "com/example/formulary/formulary/host/FormulaException" (53 : Nat) "com/example/formulary/formulary/host/FormulaException" "column" "I").before a0 Z = true := hw _ (List.mem_of_getElem? (i := 77) rfl)
theorem d512 : decode prog_36_method_3_code 45 = .ok (.putfield 53, 3) := by decide +kernel
theorem d513 : decode prog_36_method_3_code 48 = .ok (.return_, 1) := by decide +kernel
theorem pn_12 : plainName "com/example/formulary/formulary/host/FormulaException" = true := by first | (simp [plainName, overriddenIn]; done) | decide +kernel
theorem ef_19 (m : MethodId) (x0 : Addr) (x1 : Addr) (x2 : Addr) (x3 : Int32) (x4 : Int32) (x5 : Addr) : entryFrame m #[(.ref x0), (.ref x1), (.ref x2), (.int x3), (.int x4), (.ref x5)] 6 = mkF m 0 #[vA x0, vA x1, vA x2, vI x3, vI x4, vA x5] [] := by first | (simp [entryFrame, mkF, argsToLocals, Value.category, maxLocals]; done) | rfl
abbrev m_40 : MethodName := (⟨"com/example/formulary/formulary/host/FormulaException", "<init>", "(Lcom/example/formulary/formulary/host/FormulaException$Kind;Ljava/lang/String;IILjava/lang/String;)V"⟩ : MethodName)
def Q_fi5 (Z : State) (fe : Addr) (kd : Addr) (ds : Addr) (ln : Int32) (cl : Int32) (ms : Addr) (su : Value) (ss : Value) (h0 : Heap) (n0 : Nat) (v : Option Value) (h : Heap) (L : List Loc) : Prop := (v = none) ∧ (Fr n0 L) ∧ (Keep h0 h [fe]) ∧ (Exa Z h fe "com/example/formulary/formulary/host/FormulaException") ∧ (Fld Z h fe "com/example/formulary/formulary/host/FormulaException" "line" "I" (.int ln)) ∧ (Fld Z h fe "com/example/formulary/formulary/host/FormulaException" "column" "I" (.int cl))
theorem rm_fi5 (l : Launch) (Z : State) (a0 : Array Value) (hw : HW Z a0) (ws : List Jvm.Cond) (fe : Addr) (kd : Addr) (ds : Addr) (ln : Int32) (cl : Int32) (ms : Addr) (su : Value) (ss : Value) (h0 : Heap) (n0 : Nat) (Z0 : n0 ≤ h0.size) (P0 : Old Z n0 h0) (P1 : Sta Z Z.heap "java/lang/Throwable" "UNASSIGNED_STACK" "[Ljava/lang/StackTraceElement;" su) (P2 : Sta Z Z.heap "java/lang/Throwable" "SUPPRESSED_SENTINEL" "Ljava/util/List;" ss) (P3 : Exa Z h0 fe "com/example/formulary/formulary/host/FormulaException") (P4 : Fld Z h0 fe "java/lang/Throwable" "cause" "Ljava/lang/Throwable;" .null) (P5 : Fld Z h0 fe "java/lang/Throwable" "stackTrace" "[Ljava/lang/StackTraceElement;" .null) (P6 : Fld Z h0 fe "java/lang/Throwable" "suppressedExceptions" "Ljava/util/List;" .null) (P7 : Fld Z h0 fe "java/lang/Throwable" "detailMessage" "Ljava/lang/String;" .null) (P8 : Fld Z h0 fe "com/example/formulary/formulary/host/FormulaException" "kind" "Lcom/example/formulary/formulary/host/FormulaException$Kind;" .null) (P9 : Fld Z h0 fe "com/example/formulary/formulary/host/FormulaException" "description" "Ljava/lang/String;" .null) (P10 : Fld Z h0 fe "com/example/formulary/formulary/host/FormulaException" "line" "I" (.int 0)) (P11 : Fld Z h0 fe "com/example/formulary/formulary/host/FormulaException" "column" "I" (.int 0)) (P12 : n0 ≤ fe) (hsu : su.isRef = true) (hss : ss.isRef = true) :
    MF l Z m_40 prog_36_method_3_code 6 none ws (oR 4 0 0 60) #[(.ref fe), (.ref kd), (.ref ds), (.int ln), (.int cl), (.ref ms)] h0 (Q_fi5 Z fe kd ds ln cl ms su ss h0 n0) := by
  refine own_body (cls := "com/example/formulary/formulary/host/FormulaException") (plainFor_of_name pn_12) rfl (fun p e s m below meth c s₁ hx hby hml hown hnm hret hZ X0 e0 => ?_)
  have N0 := Fr.nil n0
  have K0 := Keep.refl h0 [fe]
  have lt1 := own_l P3.lt
  have lt2 := own_l P4.lt
  have lt3 := own_l P5.lt
  have lt4 := own_l P6.lt
  have lt5 := own_l P7.lt
  have lt6 := own_l P8.lt
  have lt7 := own_l P9.lt
  have lt8 := own_l P10.lt
  have lt9 := own_l P11.lt
  obtain ⟨_, _, ⟨T10, L10, k10, n10⟩, -, X10, ⟨Lc10, hQ10, l10, y10, z10⟩, st10⟩ := X0.specialBack hx (y := m_39) rfl hown (mvT hZ (w_43 hw)) (mvT hZ (w_44 hw)) (mvT hZ (w_47 hw)) (by decide) (backOf (W := 0) (rm_rti l Z a0 hw [] fe ms su ss h0 n0 (by omega) P0 P1 P2 P3 P4 P5 P6 P7 P8 P9 P10 P11 (by omega) hsu hss) hZ (w_47 hw) (w_46 hw) (by decide) (by decide)) (g := (mkF m 6 #[vA fe, vA kd, vA ds, vI ln, vI cl, vA ms] [(.int 0), (.int 0), .null, (.ref ms), (.ref fe)])) rfl (by rw [hml]; rfl) (Steps.refl _) (a := fe) (argsL := [(.ref ms), .null, (.int 0), (.int 0)]) (rest := []) (lenOf pd_22 rfl) rfl (Nat.le_of_eq rfl) (hb hby d496) (fun _ _ => ⟨rfl, e0, (by decide : 0 + 0 ≤ _), (by decide : 0 + 0 ≤ _)⟩)
  dsimp only [Pt.U, Pt.locs, Pt.cells, Pt.slots] at X10 l10 y10 z10 st10 hQ10
  rw [l10, y10, z10] at X10
  obtain ⟨rfl, Nq10, Kq10, r10_0, r10_1, r10_2, r10_3, r10_4⟩ := hQ10
  have N10 := Fr.app N0 Nq10
  have z10' := Kq10.1
  have K10 := K0.trans Kq10 (allS (Or.inl (List.mem_of_getElem? (i := 0) rfl)) all0)
  have lt11 := own_l r10_0.lt
  have lt12 := own_l r10_1.lt
  have lt13 := own_l r10_2.lt
  have lt14 := own_l r10_3.lt
  have lt15 := own_l r10_4.lt
  obtain ⟨T16, h16, X16, e16, W16, st16⟩ := putF X10 hx hZ hown (host := "") (Or.inl (w_71 hw)) Via.refl rfl r10_1 r10_0 (Or.inr ⟨(w_72 hw), rfl, hnm⟩) (w_35 hw) (ty := (.object "com/example/formulary/formulary/host/FormulaException$Kind")) (by decide) rfl rfl (g := (mkF m 29 #[vA fe, vA kd, vA ds, vI ln, vI cl, vA ms] [(.ref kd), (.ref fe)])) rfl rfl (hb hby d503)
  have F16 := r10_1.same W16
  have z16 := W16.size
  have K16 := K10.wr W16 (Or.inl (List.mem_of_getElem? (i := 0) rfl))
  have N16 := Fr.snoc X16 N10 (by omega)
  have f18 := r10_2.other W16 (Or.inr (slot_ne (a0 := a0) (t := (.object "java/lang/String")) (t' := (.object "com/example/formulary/formulary/host/FormulaException$Kind")) (Or.inr (w_74 hw)) (Or.inr (w_72 hw)) (by decide) (by decide) (by decide)))
  have f19 := r10_0.wr W16
  obtain ⟨T17, h17, X17, e17, W17, st17⟩ := putF X16 hx hZ hown (host := "") (Or.inl (w_73 hw)) Via.refl e16 f18 f19 (Or.inr ⟨(w_74 hw), rfl, hnm⟩) (w_35 hw) (ty := (.object "java/lang/String")) (by decide) rfl rfl (g := (mkF m 34 #[vA fe, vA kd, vA ds, vI ln, vI cl, vA ms] [(.ref ds), (.ref fe)])) rfl rfl (hb hby d506)
  have F17 := f18.same W17
  have z17 := W17.size
  have K17 := K16.wr W17 (Or.inl (List.mem_of_getElem? (i := 0) rfl))
  have N17 := Fr.snoc X17 N16 (by omega)
  have f21 := r10_3.other W16 (Or.inr (slot_ne (a0 := a0) (t := .int) (t' := (.object "com/example/formulary/formulary/host/FormulaException$Kind")) (Or.inr (w_76 hw)) (Or.inr (w_72 hw)) (by decide) (by decide) (by decide)))
  have f22 := f21.other W17 (Or.inr (slot_ne (a0 := a0) (t := .int) (t' := (.object "java/lang/String")) (Or.inr (w_76 hw)) (Or.inr (w_74 hw)) (by decide) (by decide) (by decide)))
  have f23 := f19.wr W17
  obtain ⟨T20, h20, X20, e20, W20, st20⟩ := putF X17 hx hZ hown (host := "") (Or.inl (w_75 hw)) Via.refl e17 f22 f23 (Or.inr ⟨(w_76 hw), rfl, hnm⟩) (w_35 hw) (ty := .int) (by decide) rfl rfl (g := (mkF m 39 #[vA fe, vA kd, vA ds, vI ln, vI cl, vA ms] [(.int ln), (.ref fe)])) rfl rfl (hb hby d509)
  have F20 := f22.same W20
  have z20 := W20.size
  have K20 := K17.wr W20 (Or.inl (List.mem_of_getElem? (i := 0) rfl))
  have N20 := Fr.snoc X20 N17 (by omega)
  have f25 := r10_4.other W16 (Or.inr (slot_ne (a0 := a0) (t := .int) (t' := (.object "com/example/formulary/formulary/host/FormulaException$Kind")) (Or.inr (w_78 hw)) (Or.inr (w_72 hw)) (by decide) (by decide) (by decide)))
  have f26 := f25.other W17 (Or.inr (slot_ne (a0 := a0) (t := .int) (t' := (.object "java/lang/String")) (Or.inr (w_78 hw)) (Or.inr (w_74 hw)) (by decide) (by decide) (by decide)))
  have f27 := f26.other W20 (Or.inr (slot_ne (a0 := a0) (t := .int) (t' := .int) (Or.inr (w_78 hw)) (Or.inr (w_76 hw)) (by decide) (by decide) (by decide)))
  have f28 := f23.wr W20
  obtain ⟨T24, h24, X24, e24, W24, st24⟩ := putF X20 hx hZ hown (host := "") (Or.inl (w_77 hw)) Via.refl e20 f27 f28 (Or.inr ⟨(w_78 hw), rfl, hnm⟩) (w_35 hw) (ty := .int) (by decide) rfl rfl (g := (mkF m 45 #[vA fe, vA kd, vA ds, vI ln, vI cl, vA ms] [(.int cl), (.ref fe)])) rfl rfl (hb hby d512)
  have F24 := f27.same W24
  have z24 := W24.size
  have K24 := K20.wr W24 (Or.inl (List.mem_of_getElem? (i := 0) rfl))
  have N24 := Fr.snoc X24 N20 (by omega)
  have f29 := f28.wr W24
  have f30 := F20.other W24 (Or.inr (slot_ne (a0 := a0) (t := .int) (t' := .int) (Or.inr (w_76 hw)) (Or.inr (w_78 hw)) (by decide) (by decide) (by decide)))
  refine ⟨_, _, _, _, none, X24, by decide, by decide, fun _ => rfl, ?_, fun fs hr => castTop (ef_19 m fe kd ds ln cl ms) ?_⟩
  · show Q_fi5 Z fe kd ds ln cl ms su ss h0 n0 _ T24.heap _
    rw [(e24 : T24.heap = h24)]
    exact ⟨rfl, N24, K24, f29, f30, F24⟩
  · show Steps _ _ _ (s₁.setTop (mkF m 0 #[vA fe, vA kd, vA ds, vI ln, vI cl, vA ms] [])) _
    refine XS.aloadN X0.here hx rfl (hb hby d491) rfl rfl ?_
    show Steps _ _ _ (s₁.setTop (mkF m 1 #[vA fe, vA kd, vA ds, vI ln, vI cl, vA ms] [(.ref fe)])) _
    refine XS.aload X0.here hx rfl (hb hby d492) rfl rfl ?_
    show Steps _ _ _ (s₁.setTop (mkF m 3 #[vA fe, vA kd, vA ds, vI ln, vI cl, vA ms] [(.ref ms), (.ref fe)])) _
    refine XS.aconstNull X0.here hx rfl (hb hby d493) ?_
    show Steps _ _ _ (s₁.setTop (mkF m 4 #[vA fe, vA kd, vA ds, vI ln, vI cl, vA ms] [.null, (.ref ms), (.ref fe)])) _
    refine XS.iconst X0.here hx rfl (hb hby d494) ?_
    show Steps _ _ _ (s₁.setTop (mkF m 5 #[vA fe, vA kd, vA ds, vI ln, vI cl, vA ms] [(.int 0), .null, (.ref ms), (.ref fe)])) _
    refine XS.iconst X0.here hx rfl (hb hby d495) ?_
    show Steps _ _ _ (s₁.setTop (mkF m 6 #[vA fe, vA kd, vA ds, vI ln, vI cl, vA ms] [(.int 0), (.int 0), .null, (.ref ms), (.ref fe)])) _
    refine st10.trans ?_
    show Steps _ _ _ (T10.setTop (mkF m 9 #[vA fe, vA kd, vA ds, vI ln, vI cl, vA ms] [])) _
    refine XS.aloadN X10.here hx rfl (hb hby d497) rfl rfl ?_
    show Steps _ _ _ (T10.setTop (mkF m 10 #[vA fe, vA kd, vA ds, vI ln, vI cl, vA ms] [(.ref kd)])) _
    refine XS.ifnullNo X10.here hx rfl (hb hby d498) rfl ?_
    show Steps _ _ _ (T10.setTop (mkF m 13 #[vA fe, vA kd, vA ds, vI ln, vI cl, vA ms] [])) _
    refine XS.aloadN X10.here hx rfl (hb hby d499) rfl rfl ?_
    show Steps _ _ _ (T10.setTop (mkF m 14 #[vA fe, vA kd, vA ds, vI ln, vI cl, vA ms] [(.ref ds)])) _
    refine XS.ifnonnullYes X10.here hx rfl (pc0 := 14) (pc' := 27) rfl (hb hby d500) rfl (by decide) (by decide) ?_
    show Steps _ _ _ (T10.setTop (mkF m 27 #[vA fe, vA kd, vA ds, vI ln, vI cl, vA ms] [])) _
    refine XS.aloadN X10.here hx rfl (hb hby d501) rfl rfl ?_
    show Steps _ _ _ (T10.setTop (mkF m 28 #[vA fe, vA kd, vA ds, vI ln, vI cl, vA ms] [(.ref fe)])) _
    refine XS.aloadN X10.here hx rfl (hb hby d502) rfl rfl ?_
    show Steps _ _ _ (T10.setTop (mkF m 29 #[vA fe, vA kd, vA ds, vI ln, vI cl, vA ms] [(.ref kd), (.ref fe)])) _
    refine st16 _ ?_
    show Steps _ _ _ (T16.setTop (mkF m 32 #[vA fe, vA kd, vA ds, vI ln, vI cl, vA ms] [])) _
    refine XS.aloadN X16.here hx rfl (hb hby d504) rfl rfl ?_
    show Steps _ _ _ (T16.setTop (mkF m 33 #[vA fe, vA kd, vA ds, vI ln, vI cl, vA ms] [(.ref fe)])) _
    refine XS.aloadN X16.here hx rfl (hb hby d505) rfl rfl ?_
    show Steps _ _ _ (T16.setTop (mkF m 34 #[vA fe, vA kd, vA ds, vI ln, vI cl, vA ms] [(.ref ds), (.ref fe)])) _
    refine st17 _ ?_
    show Steps _ _ _ (T17.setTop (mkF m 37 #[vA fe, vA kd, vA ds, vI ln, vI cl, vA ms] [])) _
    refine XS.aloadN X17.here hx rfl (hb hby d507) rfl rfl ?_
    show Steps _ _ _ (T17.setTop (mkF m 38 #[vA fe, vA kd, vA ds, vI ln, vI cl, vA ms] [(.ref fe)])) _
    refine XS.iloadN X17.here hx rfl (hb hby d508) rfl ?_
    show Steps _ _ _ (T17.setTop (mkF m 39 #[vA fe, vA kd, vA ds, vI ln, vI cl, vA ms] [(.int ln), (.ref fe)])) _
    refine st20 _ ?_
    show Steps _ _ _ (T20.setTop (mkF m 42 #[vA fe, vA kd, vA ds, vI ln, vI cl, vA ms] [])) _
    refine XS.aloadN X20.here hx rfl (hb hby d510) rfl rfl ?_
    show Steps _ _ _ (T20.setTop (mkF m 43 #[vA fe, vA kd, vA ds, vI ln, vI cl, vA ms] [(.ref fe)])) _
    refine XS.iload X20.here hx rfl (hb hby d511) rfl ?_
    show Steps _ _ _ (T20.setTop (mkF m 45 #[vA fe, vA kd, vA ds, vI ln, vI cl, vA ms] [(.int cl), (.ref fe)])) _
    refine st24 _ ?_
    show Steps _ _ _ (T24.setTop (mkF m 48 #[vA fe, vA kd, vA ds, vI ln, vI cl, vA ms] [])) _
    exact X24.returnOut hx hret (hb hby d513) hr
theorem d514 : decode prog_36_method_2_code 0 = .ok (.aload_n 0, 1) := by decide +kernel
theorem d515 : decode prog_36_method_2_code 1 = .ok (.aload_n 1, 1) := by decide +kernel
theorem d516 : decode prog_36_method_2_code 2 = .ok (.aload_n 2, 1) := by decide +kernel
theorem d517 : decode prog_36_method_2_code 3 = .ok (.iconst 0, 1) := by decide +kernel
theorem d518 : decode prog_36_method_2_code 4 = .ok (.iconst 0, 1) := by decide +kernel
theorem d519 : decode prog_36_method_2_code 5 = .ok (.aload_n 2, 1) := by decide +kernel
theorem w_40 {Z : State} {a0 : Array Value} (hw : HW Z a0) : (Jvm.Cond.methodLink "com/example/formulary/formulary/host/FormulaException" (22 : Nat) m_40).before a0 Z = true := hw _ (List.mem_of_getElem? (i := 40) rfl)
theorem w_42 {Z : State} {a0 : Array Value} (hw : HW Z a0) : (Jvm.Cond.code m_40 prog_36_method_3_code (6 : Nat) (Option.none : Option Jvm.ClassFile.FieldType)).before a0 Z = true := hw _ (List.mem_of_getElem? (i := 42) rfl)
theorem w_36 {Z : State} {a0 : Array Value} (hw : HW Z a0) : (Jvm.Cond.initialized "com/example/formulary/formulary/host/FormulaException").before a0 Z = true := hw _ (List.mem_of_getElem? (i := 36) rfl)
theorem pd_23 : parseMethodDescriptor "(Lcom/example/formulary/formulary/host/FormulaException$Kind;Ljava/lang/String;IILjava/lang/String;)V" = some ⟨[(.object "com/example/formulary/formulary/host/FormulaException$Kind"), (.object "java/lang/String"), .int, .int, (.object "java/lang/String")], none⟩ := by decide +kernel
theorem d520 : decode prog_36_method_2_code 6 = .ok (.invokespecial 22, 3) := by decide +kernel
theorem w_41 {Z : State} {a0 : Array Value} (hw : HW Z a0) : (Jvm.Cond.instanceMethod m_40).before a0 Z = true := hw _ (List.mem_of_getElem? (i := 41) rfl)
theorem d521 : decode prog_36_method_2_code 9 = .ok (.return_, 1) := by decide +kernel
theorem ef_20 (m : MethodId) (x0 : Addr) (x1 : Addr) (x2 : Addr) : entryFrame m #[(.ref x0), (.ref x1), (.ref x2)] 3 = mkF m 0 #[vA x0, vA x1, vA x2] [] := by first | (simp [entryFrame, mkF, argsToLocals, Value.category, maxLocals]; done) | rfl
abbrev m_41 : MethodName := (⟨"com/example/formulary/formulary/host/FormulaException", "<init>", "(Lcom/example/formulary/formulary/host/FormulaException$Kind;Ljava/lang/String;)V"⟩ : MethodName)
def Q_fi2 (Z : State) (fe : Addr) (kd : Addr) (ds : Addr) (su : Value) (ss : Value) (h0 : Heap) (n0 : Nat) (v : Option Value) (h : Heap) (L : List Loc) : Prop := (v = none) ∧ (Fr n0 L) ∧ (Keep h0 h [fe]) ∧ (Exa Z h fe "com/example/formulary/formulary/host/FormulaException") ∧ (Fld Z h fe "com/example/formulary/formulary/host/FormulaException" "line" "I" (.int 0)) ∧ (Fld Z h fe "com/example/formulary/formulary/host/FormulaException" "column" "I" (.int 0))
theorem rm_fi2 (l : Launch) (Z : State) (a0 : Array Value) (hw : HW Z a0) (ws : List Jvm.Cond) (fe : Addr) (kd : Addr) (ds : Addr) (su : Value) (ss : Value) (h0 : Heap) (n0 : Nat) (Z0 : n0 ≤ h0.size) (P0 : Old Z n0 h0) (P1 : Sta Z Z.heap "java/lang/Throwable" "UNASSIGNED_STACK" "[Ljava/lang/StackTraceElement;" su) (P2 : Sta Z Z.heap "java/lang/Throwable" "SUPPRESSED_SENTINEL" "Ljava/util/List;" ss) (P3 : Exa Z h0 fe "com/example/formulary/formulary/host/FormulaException") (P4 : Fld Z h0 fe "java/lang/Throwable" "cause" "Ljava/lang/Throwable;" .null) (P5 : Fld Z h0 fe "java/lang/Throwable" "stackTrace" "[Ljava/lang/StackTraceElement;" .null) (P6 : Fld Z h0 fe "java/lang/Throwable" "suppressedExceptions" "Ljava/util/List;" .null) (P7 : Fld Z h0 fe "java/lang/Throwable" "detailMessage" "Ljava/lang/String;" .null) (P8 : Fld Z h0 fe "com/example/formulary/formulary/host/FormulaException" "kind" "Lcom/example/formulary/formulary/host/FormulaException$Kind;" .null) (P9 : Fld Z h0 fe "com/example/formulary/formulary/host/FormulaException" "description" "Ljava/lang/String;" .null) (P10 : Fld Z h0 fe "com/example/formulary/formulary/host/FormulaException" "line" "I" (.int 0)) (P11 : Fld Z h0 fe "com/example/formulary/formulary/host/FormulaException" "column" "I" (.int 0)) (P12 : n0 ≤ fe) (hsu : su.isRef = true) (hss : ss.isRef = true) :
    MF l Z m_41 prog_36_method_2_code 3 none ws (oR 5 0 0 77) #[(.ref fe), (.ref kd), (.ref ds)] h0 (Q_fi2 Z fe kd ds su ss h0 n0) := by
  refine own_body (cls := "com/example/formulary/formulary/host/FormulaException") (plainFor_of_name pn_12) rfl (fun p e s m below meth c s₁ hx hby hml hown hnm hret hZ X0 e0 => ?_)
  have N0 := Fr.nil n0
  have K0 := Keep.refl h0 [fe]
  have lt1 := own_l P3.lt
  have lt2 := own_l P4.lt
  have lt3 := own_l P5.lt
  have lt4 := own_l P6.lt
  have lt5 := own_l P7.lt
  have lt6 := own_l P8.lt
  have lt7 := own_l P9.lt
  have lt8 := own_l P10.lt
  have lt9 := own_l P11.lt
  obtain ⟨_, _, ⟨T10, L10, k10, n10⟩, -, X10, ⟨Lc10, hQ10, l10, y10, z10⟩, st10⟩ := X0.specialBack hx (y := m_40) rfl hown (mvT hZ (w_40 hw)) (mvT hZ (w_41 hw)) (mvT hZ (w_42 hw)) (by decide) (backOf (W := 0) (rm_fi5 l Z a0 hw [] fe kd ds ((0 : Int32)) ((0 : Int32)) ds su ss h0 n0 (by omega) P0 P1 P2 P3 P4 P5 P6 P7 P8 P9 P10 P11 (by omega) hsu hss) hZ (w_42 hw) (w_36 hw) (by decide) (by decide)) (g := (mkF m 6 #[vA fe, vA kd, vA ds] [(.ref ds), (.int 0), (.int 0), (.ref ds), (.ref kd), (.ref fe)])) rfl (by rw [hml]; rfl) (Steps.refl _) (a := fe) (argsL := [(.ref kd), (.ref ds), (.int 0), (.int 0), (.ref ds)]) (rest := []) (lenOf pd_23 rfl) rfl (Nat.le_of_eq rfl) (hb hby d520) (fun _ _ => ⟨rfl, e0, (by decide : 0 + 0 ≤ _), (by decide : 0 + 0 ≤ _)⟩)
  dsimp only [Pt.U, Pt.locs, Pt.cells, Pt.slots] at X10 l10 y10 z10 st10 hQ10
  rw [l10, y10, z10] at X10
  obtain ⟨rfl, Nq10, Kq10, r10_0, r10_1, r10_2⟩ := hQ10
  have N10 := Fr.app N0 Nq10
  have z10' := Kq10.1
  have K10 := K0.trans Kq10 (allS (Or.inl (List.mem_of_getElem? (i := 0) rfl)) all0)
  have lt11 := own_l r10_0.lt
  have lt12 := own_l r10_1.lt
  have lt13 := own_l r10_2.lt
  refine ⟨_, _, _, _, none, X10, by decide, by decide, fun _ => rfl, ?_, fun fs hr => castTop (ef_20 m fe kd ds) ?_⟩
  · show Q_fi2 Z fe kd ds su ss h0 n0 _ T10.heap _
    exact ⟨rfl, N10, K10, r10_0, r10_1, r10_2⟩
  · show Steps _ _ _ (s₁.setTop (mkF m 0 #[vA fe, vA kd, vA ds] [])) _
    refine XS.aloadN X0.here hx rfl (hb hby d514) rfl rfl ?_
    show Steps _ _ _ (s₁.setTop (mkF m 1 #[vA fe, vA kd, vA ds] [(.ref fe)])) _
    refine XS.aloadN X0.here hx rfl (hb hby d515) rfl rfl ?_
    show Steps _ _ _ (s₁.setTop (mkF m 2 #[vA fe, vA kd, vA ds] [(.ref kd), (.ref fe)])) _
    refine XS.aloadN X0.here hx rfl (hb hby d516) rfl rfl ?_
    show Steps _ _ _ (s₁.setTop (mkF m 3 #[vA fe, vA kd, vA ds] [(.ref ds), (.ref kd), (.ref fe)])) _
    refine XS.iconst X0.here hx rfl (hb hby d517) ?_
    show Steps _ _ _ (s₁.setTop (mkF m 4 #[vA fe, vA kd, vA ds] [(.int 0), (.ref ds), (.ref kd), (.ref fe)])) _
    refine XS.iconst X0.here hx rfl (hb hby d518) ?_
    show Steps _ _ _ (s₁.setTop (mkF m 5 #[vA fe, vA kd, vA ds] [(.int 0), (.int 0), (.ref ds), (.ref kd), (.ref fe)])) _
    refine XS.aloadN X0.here hx rfl (hb hby d519) rfl rfl ?_
    show Steps _ _ _ (s₁.setTop (mkF m 6 #[vA fe, vA kd, vA ds] [(.ref ds), (.int 0), (.int 0), (.ref ds), (.ref kd), (.ref fe)])) _
    refine st10.trans ?_
    show Steps _ _ _ (T10.setTop (mkF m 9 #[vA fe, vA kd, vA ds] [])) _
    exact X10.returnOut hx hret (hb hby d521) hr
theorem own_ten {N : Int32} (r : (((0 : Int32) + (1 : Int32)) + (9 : Int32)).toInt ≤ N.toInt) : oR2 (((0 : Int32) + (1 : Int32)) + (9 : Int32)) N := ⟨by decide, r, by decide⟩
theorem own_t0 {N : Int32} (r : ((0 : Int32) + (1 : Int32)).toInt ≤ N.toInt) : oR1 ((0 : Int32) + (1 : Int32)) (9 : Int32) N := ⟨by decide, r, by decide, by decide, by decide⟩
theorem own_t1 {z N : Int32} (q : oSZ z) : ((((0 : Int32) + (1 : Int32)) + (9 : Int32)) + z).toInt = 10 + z.toInt := by
  have e : (((0 : Int32) + (1 : Int32)) + (9 : Int32)).toInt = 10 := by decide
  obtain ⟨q1, q2⟩ := q
  rw [own_add (by omega) (by omega) (by omega), e]
theorem own_t2 {z N : Int32} (q : oSZ z) (r : ((((0 : Int32) + (1 : Int32)) + (9 : Int32)) + z).toInt ≤ N.toInt) : oR1 ((((0 : Int32) + (1 : Int32)) + (9 : Int32)) + z) (9 : Int32) N := by
  have e := own_t1 (N := N) q
  have k : (9 : Int32).toInt = 9 := by decide
  obtain ⟨q1, q2⟩ := q
  exact ⟨by omega, r, by omega, by omega, by omega⟩
theorem own_t3 {z : Int32} (q : oSZ z) : (((((0 : Int32) + (1 : Int32)) + (9 : Int32)) + z) + (9 : Int32)).toInt = 19 + z.toInt := by
  have e := own_t1 (N := 0) q
  have k : (9 : Int32).toInt = 9 := by decide
  obtain ⟨q1, q2⟩ := q
  rw [own_add (by omega) (by omega) (by omega), e, k]
  omega
theorem own_t4 {z N : Int32} (q : oSZ z) (r : (((((0 : Int32) + (1 : Int32)) + (9 : Int32)) + z) + (9 : Int32)).toInt ≤ N.toInt) : oR2 (((((0 : Int32) + (1 : Int32)) + (9 : Int32)) + z) + (9 : Int32)) N := by
  have e := own_t3 q
  obtain ⟨q1, q2⟩ := q
  exact ⟨by omega, r, by omega⟩
theorem own_t5 {z y : Int32} (q : oSZ z) (p : oSZ y) : ¬ ((((((0 : Int32) + (1 : Int32)) + (9 : Int32)) + z) + (9 : Int32)) + y) < 0 := by
  have e := own_t3 q
  obtain ⟨q1, q2⟩ := q
  obtain ⟨p1, p2⟩ := p
  rw [own_lt, own_k0, own_add (by omega) (by omega) (by omega)]
  omega
theorem d522 : decode prog_36_method_1_code 0 = .ok (.aload_n 0, 1) := by decide +kernel
theorem d523 : decode prog_36_method_1_code 1 = .ok (.aload_n 1, 1) := by decide +kernel
theorem d524 : decode prog_36_method_1_code 2 = .ok (.aload_n 2, 1) := by decide +kernel
theorem d525 : decode prog_36_method_1_code 3 = .ok (.iload_n 3, 1) := by decide +kernel
theorem d526 : decode prog_36_method_1_code 4 = .ok (.iload 4, 2) := by decide +kernel
theorem w_99 {Z : State} {a0 : Array Value} (hw : HW Z a0) : (Jvm.Cond.classLink "com/example/formulary/formulary/host/FormulaException" (1 : Nat) "java/lang/StringBuilder").before a0 Z = true := hw _ (List.mem_of_getElem? (i := 99) rfl)
theorem d527 : decode prog_36_method_1_code 6 = .ok (.new 1, 3) := by decide +kernel
theorem d528 : decode prog_36_method_1_code 9 = .ok (.dup, 1) := by decide +kernel
theorem w_102 {Z : State} {a0 : Array Value} (hw : HW Z a0) : (Jvm.Cond.methodLink "com/example/formulary/formulary/host/FormulaException" (3 : Nat) m_25).before a0 Z = true := hw _ (List.mem_of_getElem? (i := 102) rfl)
theorem w_104 {Z : State} {a0 : Array Value} (hw : HW Z a0) : (Jvm.Cond.code m_25 jdk_67_method_1_code (1 : Nat) (Option.none : Option Jvm.ClassFile.FieldType)).before a0 Z = true := hw _ (List.mem_of_getElem? (i := 104) rfl)
theorem pd_24 : parseMethodDescriptor "()V" = some ⟨[], none⟩ := by decide +kernel
theorem d529 : decode prog_36_method_1_code 10 = .ok (.invokespecial 3, 3) := by decide +kernel
theorem w_103 {Z : State} {a0 : Array Value} (hw : HW Z a0) : (Jvm.Cond.instanceMethod m_25).before a0 Z = true := hw _ (List.mem_of_getElem? (i := 103) rfl)
theorem d530 : decode prog_36_method_1_code 13 = .ok (.aload_n 2, 1) := by decide +kernel
theorem w_117 {Z : State} {a0 : Array Value} (hw : HW Z a0) : (Jvm.Cond.methodLink "com/example/formulary/formulary/host/FormulaException" (7 : Nat) m_18).before a0 Z = true := hw _ (List.mem_of_getElem? (i := 117) rfl)
theorem w_121 {Z : State} {a0 : Array Value} (hw : HW Z a0) : (Jvm.Cond.code m_18 jdk_67_method_7_code (2 : Nat) (Option.some (FieldType.object "java/lang/StringBuilder"))).before a0 Z = true := hw _ (List.mem_of_getElem? (i := 121) rfl)
theorem pd_25 : parseMethodDescriptor "(Ljava/lang/String;)Ljava/lang/StringBuilder;" = some ⟨[(.object "java/lang/String")], some (.object "java/lang/StringBuilder")⟩ := by decide +kernel
theorem d531 : decode prog_36_method_1_code 14 = .ok (.invokevirtual 7, 3) := by decide +kernel
theorem w_120 {Z : State} {a0 : Array Value} (hw : HW Z a0) : (Jvm.Cond.selects "java/lang/StringBuilder" m_18 m_18).before a0 Z = true := hw _ (List.mem_of_getElem? (i := 120) rfl)
theorem w_118 {Z : State} {a0 : Array Value} (hw : HW Z a0) : (Jvm.Cond.declares m_18).before a0 Z = true := hw _ (List.mem_of_getElem? (i := 118) rfl)
theorem w_119 {Z : State} {a0 : Array Value} (hw : HW Z a0) : (Jvm.Cond.instanceMethod m_18).before a0 Z = true := hw _ (List.mem_of_getElem? (i := 119) rfl)
theorem d532 : decode prog_36_method_1_code 17 = .ok (.ldc 11, 2) := by decide +kernel
theorem d533 : decode prog_36_method_1_code 19 = .ok (.invokevirtual 7, 3) := by decide +kernel
theorem d534 : decode prog_36_method_1_code 22 = .ok (.iload_n 3, 1) := by decide +kernel
theorem w_167 {Z : State} {a0 : Array Value} (hw : HW Z a0) : (Jvm.Cond.methodLink "com/example/formulary/formulary/host/FormulaException" (13 : Nat) m_23).before a0 Z = true := hw _ (List.mem_of_getElem? (i := 167) rfl)
theorem w_171 {Z : State} {a0 : Array Value} (hw : HW Z a0) : (Jvm.Cond.code m_23 jdk_67_method_15_code (2 : Nat) (Option.some (FieldType.object "java/lang/StringBuilder"))).before a0 Z = true := hw _ (List.mem_of_getElem? (i := 171) rfl)
theorem pd_26 : parseMethodDescriptor "(I)Ljava/lang/StringBuilder;" = some ⟨[.int], some (.object "java/lang/StringBuilder")⟩ := by decide +kernel
theorem d535 : decode prog_36_method_1_code 23 = .ok (.invokevirtual 13, 3) := by decide +kernel
theorem w_170 {Z : State} {a0 : Array Value} (hw : HW Z a0) : (Jvm.Cond.selects "java/lang/StringBuilder" m_23 m_23).before a0 Z = true := hw _ (List.mem_of_getElem? (i := 170) rfl)
theorem w_168 {Z : State} {a0 : Array Value} (hw : HW Z a0) : (Jvm.Cond.declares m_23).before a0 Z = true := hw _ (List.mem_of_getElem? (i := 168) rfl)
theorem w_169 {Z : State} {a0 : Array Value} (hw : HW Z a0) : (Jvm.Cond.instanceMethod m_23).before a0 Z = true := hw _ (List.mem_of_getElem? (i := 169) rfl)
theorem d536 : decode prog_36_method_1_code 26 = .ok (.ldc 16, 2) := by decide +kernel
theorem d537 : decode prog_36_method_1_code 28 = .ok (.invokevirtual 7, 3) := by decide +kernel
theorem d538 : decode prog_36_method_1_code 31 = .ok (.iload 4, 2) := by decide +kernel
theorem d539 : decode prog_36_method_1_code 33 = .ok (.invokevirtual 13, 3) := by decide +kernel
theorem w_214 {Z : State} {a0 : Array Value} (hw : HW Z a0) : (Jvm.Cond.methodLink "com/example/formulary/formulary/host/FormulaException" (18 : Nat) m_36).before a0 Z = true := hw _ (List.mem_of_getElem? (i := 214) rfl)
theorem w_218 {Z : State} {a0 : Array Value} (hw : HW Z a0) : (Jvm.Cond.code m_36 jdk_67_method_42_code (1 : Nat) (Option.some (FieldType.object "java/lang/String"))).before a0 Z = true := hw _ (List.mem_of_getElem? (i := 218) rfl)
theorem pd_27 : parseMethodDescriptor "()Ljava/lang/String;" = some ⟨[], some (.object "java/lang/String")⟩ := by decide +kernel
theorem d540 : decode prog_36_method_1_code 36 = .ok (.invokevirtual 18, 3) := by decide +kernel
theorem w_217 {Z : State} {a0 : Array Value} (hw : HW Z a0) : (Jvm.Cond.selects "java/lang/StringBuilder" m_36 m_36).before a0 Z = true := hw _ (List.mem_of_getElem? (i := 217) rfl)
theorem w_215 {Z : State} {a0 : Array Value} (hw : HW Z a0) : (Jvm.Cond.declares m_36).before a0 Z = true := hw _ (List.mem_of_getElem? (i := 215) rfl)
theorem w_216 {Z : State} {a0 : Array Value} (hw : HW Z a0) : (Jvm.Cond.instanceMethod m_36).before a0 Z = true := hw _ (List.mem_of_getElem? (i := 216) rfl)
theorem d541 : decode prog_36_method_1_code 39 = .ok (.invokespecial 22, 3) := by decide +kernel
theorem d542 : decode prog_36_method_1_code 42 = .ok (.iload_n 3, 1) := by decide +kernel
theorem d543 : decode prog_36_method_1_code 43 = .ok (.iconst 1, 1) := by decide +kernel
theorem d544 : decode prog_36_method_1_code 44 = .ok (.if_icmp .lt 9, 3) := by decide +kernel
theorem d545 : decode prog_36_method_1_code 47 = .ok (.iload 4, 2) := by decide +kernel
theorem d546 : decode prog_36_method_1_code 49 = .ok (.iconst 1, 1) := by decide +kernel
theorem d547 : decode prog_36_method_1_code 50 = .ok (.if_icmp .ge 40, 3) := by decide +kernel
theorem d548 : decode prog_36_method_1_code 90 = .ok (.return_, 1) := by decide +kernel
theorem ef_21 (m : MethodId) (x0 : Addr) (x1 : Addr) (x2 : Addr) (x3 : Int32) (x4 : Int32) : entryFrame m #[(.ref x0), (.ref x1), (.ref x2), (.int x3), (.int x4)] 5 = mkF m 0 #[vA x0, vA x1, vA x2, vI x3, vI x4] [] := by first | (simp [entryFrame, mkF, argsToLocals, Value.category, maxLocals]; done) | rfl
abbrev m_42 : MethodName := (⟨"com/example/formulary/formulary/host/FormulaException", "<init>", "(Lcom/example/formulary/formulary/host/FormulaException$Kind;Ljava/lang/String;II)V"⟩ : MethodName)
def Q_fi4 (Z : State) (fe : Addr) (kd : Addr) (t : Addr) (tb : Addr) (kt : ClassId) (bs : List Value) (ln : Int32) (cl : Int32) (cp : Int32) (su : Value) (ss : Value) (od : Addr) (ko : ClassId) (vo : List Value) (ot : Addr) (kt2 : ClassId) (vt : List Value) (h0 : Heap) (n0 : Nat) (v : Option Value) (h : Heap) (L : List Loc) : Prop := (v = none) ∧ (Fr n0 L) ∧ (Keep h0 h [fe]) ∧ (Exa Z h fe "com/example/formulary/formulary/host/FormulaException") ∧ (Fld Z h fe "com/example/formulary/formulary/host/FormulaException" "line" "I" (.int ln)) ∧ (Fld Z h fe "com/example/formulary/formulary/host/FormulaException" "column" "I" (.int cl))
theorem rm_fi4 (l : Launch) (Z : State) (a0 : Array Value) (hw : HW Z a0) (ws : List Jvm.Cond) (fe : Addr) (kd : Addr) (t : Addr) (tb : Addr) (kt : ClassId) (bs : List Value) (ln : Int32) (cl : Int32) (cp : Int32) (su : Value) (ss : Value) (od : Addr) (ko : ClassId) (vo : List Value) (ot : Addr) (kt2 : ClassId) (vt : List Value) (h0 : Heap) (n0 : Nat) (Z0 : n0 ≤ h0.size) (P0 : Old Z n0 h0) (P1 : Sta Z Z.heap "java/lang/Throwable" "UNASSIGNED_STACK" "[Ljava/lang/StackTraceElement;" su) (P2 : Sta Z Z.heap "java/lang/Throwable" "SUPPRESSED_SENTINEL" "Ljava/util/List;" ss) (P3 : Exa Z h0 fe "com/example/formulary/formulary/host/FormulaException") (P4 : Fld Z h0 fe "java/lang/Throwable" "cause" "Ljava/lang/Throwable;" .null) (P5 : Fld Z h0 fe "java/lang/Throwable" "stackTrace" "[Ljava/lang/StackTraceElement;" .null) (P6 : Fld Z h0 fe "java/lang/Throwable" "suppressedExceptions" "Ljava/util/List;" .null) (P7 : Fld Z h0 fe "java/lang/Throwable" "detailMessage" "Ljava/lang/String;" .null) (P8 : Fld Z h0 fe "com/example/formulary/formulary/host/FormulaException" "kind" "Lcom/example/formulary/formulary/host/FormulaException$Kind;" .null) (P9 : Fld Z h0 fe "com/example/formulary/formulary/host/FormulaException" "description" "Ljava/lang/String;" .null) (P10 : Fld Z h0 fe "com/example/formulary/formulary/host/FormulaException" "line" "I" (.int 0)) (P11 : Fld Z h0 fe "com/example/formulary/formulary/host/FormulaException" "column" "I" (.int 0)) (P12 : n0 ≤ fe) (P13 : sta0 Z (.int cp)) (P14 : Sta Z Z.heap "java/lang/Integer" "DigitOnes" "[B" (.ref od)) (P15 : Sta Z Z.heap "java/lang/Integer" "DigitTens" "[B" (.ref ot)) (P16 : Exa Z h0 t "java/lang/String") (P17 : fld1 Z h0 t (.int 0)) (P18 : fld0 Z h0 t (.ref tb)) (P19 : Arv Z h0 tb kt .byte (1 : Int32) bs (.int 0)) (P20 : t ≠ fe) (P21 : tb ≠ fe) (hsu : su.isRef = true) (hss : ss.isRef = true) (hcs : ¬ (cp = (0 : Int32))) (BO : Arv Z Z.heap od ko .byte (100 : Int32) vo (.int 0)) (BT : Arv Z Z.heap ot kt2 .byte (100 : Int32) vt (.int 0)) (hln : ¬ (ln < (0 : Int32))) (hcl : ¬ (cl < (0 : Int32))) (hl1 : ¬ (ln < (1 : Int32))) (hc1 : ¬ (cl < (1 : Int32))) :
    MetFree l m_42 (head1 (Jvm.Cond.code m_42 prog_36_method_1_code 5 none :: ws) (oR 6 13 524 96)) (fun as' U => as' = #[(.ref fe), (.ref kd), (.ref t), (.int ln), (.int cl)] ∧ Z.Warmed39 U.vm ∧ U.heap = h0 ∧ CHv Z own_EL U.vm h0) (fun _ _ _ _ _ => True) (fun _ U o U' => ∃ v L, o = .returned v ∧ Q_fi4 Z fe kd t tb kt bs ln cl cp su ss od ko vo ot kt2 vt h0 n0 v U'.heap L ∧ CHr Z own_EL U.vm U.heap U'.vm U'.heap ∧ ReturnedEndW U o U' L (oR 6 13 524 96).cells (oR 6 13 524 96).slots) := by
  refine MetFree.of_bodySF (plainFor_of_name pn_12) hisR ?_
  intro p e s m args below meth c s₁ Bd hml0 hP hK
  obtain ⟨rfl, hZ, hh, hCH⟩ := hP
  have hx := Bd.exec
  have hby := Bd.bytes
  have hml : c.maxLocals = 5 := hml0
  have hown : (s.setVm s.vm).vm.findClass "com/example/formulary/formulary/host/FormulaException" = some m.cls := findClass_of_methodNamed Bd.named
  have hnm := (name_of_methodNamed Bd.named Bd.method).1
  have X0 : Stand p l e (oR 6 13 524 96) (s.setVm s.vm) m #[(.ref fe), (.ref kd), (.ref t), (.int ln), (.int cl)] below meth c s₁ [] 0 0 := Stand.of_body Bd
  have e0 : s₁.heap = h0 := by rw [← hh, Bd.state]; rfl
  have N0 := Fr.nil n0
  have hZ : Z.Warmed39 (s.setVm s.vm).vm := hZ
  have hS0 : s.Since s.vm h0.size := (State.WarmedH.refl s).since _
  have hk0 : h0.size ≤ h0.size := Nat.le_refl _
  have C0 : CHr Z own_EL s.vm h0 s.vm h0 := CHr.refl hCH
  have K0 := Keep.refl h0 [fe]
  have lt1 := own_l P3.lt
  have lt2 := own_l P4.lt
  have lt3 := own_l P5.lt
  have lt4 := own_l P6.lt
  have lt5 := own_l P7.lt
  have lt6 := own_l P8.lt
  have lt7 := own_l P9.lt
  have lt8 := own_l P10.lt
  have lt9 := own_l P11.lt
  have lt10 := own_l P16.lt
  have lt11 := own_l P17.lt
  have lt12 := own_l P18.lt
  have lt13 := own_l P19.lt
  obtain ⟨T14, h14, X14, e14, E14, A14, D14, -, st14⟩ := newO X0 hx hZ hown (w_99 hw) (w_100 hw) (w_101 hw) e0 (g := (mkF m 6 #[vA fe, vA kd, vA t, vI ln, vI cl] [(.int cl), (.int ln), (.ref t), (.ref kd), (.ref fe)])) rfl (hb hby d527) (by decide) (by decide)
  obtain ⟨b14, g14⟩ : ∃ z, z = h0.size := ⟨_, rfl⟩
  rw [← g14] at A14 D14 st14
  have z14 := E14.1
  have C14 := C0.trans (CHr.ext E14 C0.1)
  have K14 := K0.ext E14
  have lt15 := own_l A14.lt
  have F14_114 : Fld Z h14 b14 "java/lang/AbstractStringBuilder" "value" "[B" .null := D14 (Or.inl (w_114 hw)) (ty := (.array .byte)) (by decide)
  have F14_116 : Fld Z h14 b14 "java/lang/AbstractStringBuilder" "coder" "B" (.int 0) := D14 (Or.inl (w_116 hw)) (ty := .byte) (by decide)
  have F14_138 : Fld Z h14 b14 "java/lang/AbstractStringBuilder" "count" "I" (.int 0) := D14 (Or.inl (w_138 hw)) (ty := .int) (by decide)
  have sfb16 : Safe Z own_EL s.vm h14 b14 := (Safe.exa (Z := Z) (EL := own_EL) (vm := s.vm) hZ.alike A14 (by decide) (by decide))
  have f18 := P0.ext E14
  obtain ⟨_, _, ⟨T17, L17, k17, n17⟩, -, X17, ⟨Lc17, hQ17, l17, y17, z17⟩, st17⟩ := X14.specialBack hx (y := m_25) rfl hown (mvT hZ (w_102 hw)) (mvT hZ (w_103 hw)) (mvT hZ (w_104 hw)) (by decide) (backOf (W := 6) (rm_sbi l Z a0 hw [] b14 ((0 : Int32)) cp h14 n0 (by omega) f18 P13 A14 F14_114 F14_116 F14_138 (by omega) hcs) hZ (w_104 hw) (w_101 hw) (by decide) (by decide)) (g := (mkF m 10 #[vA fe, vA kd, vA t, vI ln, vI cl] [(.ref b14), (.ref b14), (.int cl), (.int ln), (.ref t), (.ref kd), (.ref fe)])) rfl (by rw [hml]; rfl) (Steps.refl _) (a := b14) (argsL := []) (rest := [(.ref b14), (.int cl), (.int ln), (.ref t), (.ref kd), (.ref fe)]) (lenOf pd_24 rfl) rfl (Nat.le_of_eq rfl) (hb hby d529) (fun _ _ => ⟨rfl, e14, (by decide : 1 + 1 ≤ _), (by decide : 4 + 16 ≤ _)⟩)
  dsimp only [Pt.U, Pt.locs, Pt.cells, Pt.slots] at X17 l17 y17 z17 st17 hQ17
  rw [l17, y17, z17] at X17
  obtain ⟨x17_b, x17_k, rfl, Nq17, Kq17, r17_0, r17_1, r17_2, r17_3, r17_4, r17_5, r17_6⟩ := hQ17
  have N17 := Fr.app N0 Nq17
  have C17 := C14.trans (CHr.keep Kq17 (sfS (Safe.exa (Z := Z) (EL := own_EL) (vm := s.vm) hZ.alike A14 (by decide) (by decide)) sf0) C14.1)
  have z17' := Kq17.1
  have K17 := K14.trans Kq17 (allS (Or.inr (by omega)) all0)
  have sf17_0 : Safe Z own_EL s.vm T17.heap x17_b := Safe.keep Kq17 (sfS (Safe.exa (Z := Z) (EL := own_EL) (vm := s.vm) hZ.alike A14 (by decide) (by decide)) sf0) C14.1 (Safe.new (by omega))
  have lt19 := own_l r17_1.lt
  have lt20 := own_l r17_2.lt
  have lt21 := own_l r17_3.lt
  have lt22 := own_l r17_4.lt
  have lt23 := own_l r17_5.lt
  have lt24 := own_l r17_6.lt
  have f26 := f18.keep Kq17 (allS (by omega) all0)
  have f27 := P16.ext E14
  have f28 := f27.keep Kq17
  have f29 := P17.ext E14
  have f30 := f29.keep Kq17 (ninS (own_ne (by omega)) nin0)
  have f31 := P18.ext E14
  have f32 := f31.keep Kq17 (ninS (own_ne (by omega)) nin0)
  have f33 := P19.ext E14
  have f34 := f33.keep Kq17 (ninS (own_ne (by omega)) nin0)
  obtain ⟨cq25, kq25, qa25, qb25, qc25⟩ := isOf hZ rfl r17_1
  obtain ⟨_, _, ⟨T25, L25, k25, n25⟩, -, X25, ⟨Lc25, hQ25, l25, y25, z25⟩, st25⟩ := X17.virtualBack hx (y := m_18) (z := m_18) hown (mvT hZ (w_117 hw)) (mvT hZ (w_118 hw)) (notFace_of_selects (args := #[]) (mvT hZ (w_120 hw))) (mvT hZ (w_120 hw)) (mvT hZ (w_119 hw)) (by decide) (backOf (W := 5) (rm_aps l Z a0 hw [] t tb kt ((1 : Int32)) bs cp b14 x17_b x17_k ((16 : Int32)) ((0 : Int32)) ([]) T17.heap n0 (by omega) f26 P13 f28 f30 f32 f34 r17_1 r17_2 r17_5 r17_3 r17_4 r17_6 (by omega) (by omega) (own_ne (by omega)) (own_ne (by omega)) (own_ne (by omega)) hcs (by decide) (by decide)) hZ (w_121 hw) (w_101 hw) (by decide) (by decide)) qa25 qc25 (g := (mkF m 14 #[vA fe, vA kd, vA t, vI ln, vI cl] [(.ref t), (.ref b14), (.int cl), (.int ln), (.ref t), (.ref kd), (.ref fe)])) rfl (by rw [hml]; rfl) (Steps.refl _) (argsL := [(.ref t)]) (rest := [(.int cl), (.int ln), (.ref t), (.ref kd), (.ref fe)]) (lenOf pd_25 rfl) rfl (Nat.le_of_eq rfl) (hb hby d531) (fun _ _ => ⟨rfl, rfl, (by decide : 2 + 1 ≤ _), (by decide : 20 + 70 ≤ _)⟩)
  dsimp only [Pt.U, Pt.locs, Pt.cells, Pt.slots] at X25 l25 y25 z25 st25 hQ25
  rw [l25, y25, z25] at X25
  obtain ⟨x25_b, x25_k, x25_N2, x25_ys, rfl, Nq25, Kq25, r25_0, r25_1, r25_2, r25_3, r25_4, r25_5, r25_6, r25_7, r25_8, r25_9, r25_10⟩ := hQ25
  have N25 := Fr.app N17 Nq25
  have f35 := (Safe.keep Kq17 (sfS (Safe.exa (Z := Z) (EL := own_EL) (vm := s.vm) hZ.alike A14 (by decide) (by decide)) sf0) C14.1 sfb16)
  have C25 := C17.trans (CHr.keep Kq25 (sfS (Safe.exa (Z := Z) (EL := own_EL) (vm := s.vm) hZ.alike r17_1 (by decide) (by decide)) (sfS sf17_0 sf0)) C17.1)
  have z25' := Kq25.1
  have K25 := K17.trans Kq25 (allS (Or.inr (by omega)) (allS (Or.inr (by omega)) all0))
  have lt36 := own_l r25_0.lt
  have lt37 := own_l r25_1.lt
  have lt38 := own_l r25_2.lt
  have lt39 := own_l r25_3.lt
  have lt40 := own_l r25_4.lt
  have lt41 := own_l r25_5.lt
  have sf25_8 : Safe Z own_EL s.vm T25.heap x25_b := r25_8.elim (fun q => q.symm ▸ Safe.keep Kq25 (sfS (Safe.exa (Z := Z) (EL := own_EL) (vm := s.vm) hZ.alike r17_1 (by decide) (by decide)) (sfS sf17_0 sf0)) C17.1 sf17_0) (fun q => Safe.keep Kq25 (sfS (Safe.exa (Z := Z) (EL := own_EL) (vm := s.vm) hZ.alike r17_1 (by decide) (by decide)) (sfS sf17_0 sf0)) C17.1 (Safe.new q))
  have oe25_8 := own_or r25_8
  obtain ⟨a42, T42, h42, k1_42, b42, k42, X42, e42, E42, hS42, hk42, hZ42, hown42, A42, FC42, FV42, V42, -, -, Cs42, Lt42, Sn42, st42⟩ := ldcCH X25 hx hZ hown (w_164 hw) (own_wS hw) rfl hS0 (by omega) (own_EW hw) (by decide) C25.1 (vs := [(.int 32), (.int 97), (.int 116), (.int 32), (.int 108), (.int 105), (.int 110), (.int 101), (.int 32)]) (z := (9 : Int32)) ⟨by decide, by decide⟩ (by decide) (by decide) (g := (mkF m 17 #[vA fe, vA kd, vA t, vI ln, vI cl] [(.ref b14), (.int cl), (.int ln), (.ref t), (.ref kd), (.ref fe)])) rfl (hb hby d532) (n := 36) (by decide) (by decide) (by decide) (by decide)
  have z42 := E42.1
  have C42 := C25.trans Cs42
  have K42 := K25.ext E42
  have lt43 := own_l A42.lt
  have lt44 := own_l V42.lt
  have f45 := (Safe.keep Kq25 (sfS (Safe.exa (Z := Z) (EL := own_EL) (vm := s.vm) hZ.alike r17_1 (by decide) (by decide)) (sfS sf17_0 sf0)) C17.1 f35)
  have f46 := (Cs42.safe (by show @LT.lt Nat _ _ _; omega) f45)
  have ns42_b14 := Sn42 _ f46
  have f47 := (Safe.keep Kq25 (sfS (Safe.exa (Z := Z) (EL := own_EL) (vm := s.vm) hZ.alike r17_1 (by decide) (by decide)) (sfS sf17_0 sf0)) C17.1 sf17_0)
  have f48 := (Cs42.safe (by show @LT.lt Nat _ _ _; omega) f47)
  have ns42_x17_b := Sn42 _ f48
  have f49 := (Cs42.safe (by show @LT.lt Nat _ _ _; omega) sf25_8)
  have ns42_x25_b := Sn42 _ f49
  have f51 := f26.keep Kq25 (allS (by omega) (allS (by omega) all0))
  have f52 := f51.ext E42
  have f53 := r25_0.ext E42
  have f54 := r25_3.ext E42
  have f55 := r25_4.ext E42
  have f56 := r25_1.ext E42
  have f57 := r25_2.ext E42
  have f58 := r25_5.ext E42
  obtain ⟨cq50, kq50, qa50, qb50, qc50⟩ := isOf hZ42 e42 f53
  obtain ⟨_, _, ⟨T50, L50, k50, n50⟩, -, X50, ⟨Lc50, hQ50, l50, y50, z50⟩, st50⟩ := X42.virtualBack hx (y := m_18) (z := m_18) hown42 (mvT hZ42 (w_117 hw)) (mvT hZ42 (w_118 hw)) (notFace_of_selects (args := #[]) (mvT hZ42 (w_120 hw))) (mvT hZ42 (w_120 hw)) (mvT hZ42 (w_119 hw)) (by decide) (backOf (W := 5) (rm_aps l Z a0 hw [] a42 b42 k42 ((9 : Int32)) ([(.int 32), (.int 97), (.int 116), (.int 32), (.int 108), (.int 105), (.int 110), (.int 101), (.int 32)]) cp b14 x25_b x25_k x25_N2 (((0 : Int32) + (1 : Int32))) x25_ys h42 n0 (by omega) f52 P13 A42 FC42 FV42 V42 f53 f54 f55 f56 f57 f58 (by omega) (by omega) (fun q => r25_10 q) (fun q => ns42_b14.2 q.symm) (fun q => ns42_b14.1 q.symm) hcs r25_6 (own_t0 r25_7)) hZ42 (w_121 hw) (w_101 hw) (by decide) (by decide)) qa50 qc50 (g := (mkF m 19 #[vA fe, vA kd, vA t, vI ln, vI cl] [(.ref a42), (.ref b14), (.int cl), (.int ln), (.ref t), (.ref kd), (.ref fe)])) rfl (by rw [hml]; rfl) (Steps.refl _) (argsL := [(.ref a42)]) (rest := [(.int cl), (.int ln), (.ref t), (.ref kd), (.ref fe)]) (lenOf pd_25 rfl) rfl (Nat.le_of_eq rfl) (hb hby d533) (fun _ _ => ⟨rfl, e42, (by decide : 5 + 1 ≤ _), (by decide : 130 + 70 ≤ _)⟩)
  dsimp only [Pt.U, Pt.locs, Pt.cells, Pt.slots] at X50 l50 y50 z50 st50 hQ50
  rw [l50, y50, z50] at X50
  obtain ⟨x50_b, x50_k, x50_N2, x50_ys, rfl, Nq50, Kq50, r50_0, r50_1, r50_2, r50_3, r50_4, r50_5, r50_6, r50_7, r50_8, r50_9, r50_10⟩ := hQ50
  have N50 := Fr.app N25 Nq50
  have C50 := C42.trans (CHr.keep Kq50 (sfS (Safe.exa (Z := Z) (EL := own_EL) (vm := T42.vm) hZ42.alike f53 (by decide) (by decide)) (sfS f49 sf0)) C42.1)
  have z50' := Kq50.1
  have K50 := K42.trans Kq50 (allS (Or.inr (by omega)) (allS (r25_8.elim (fun q => q ▸ (Or.inr (by omega))) (fun q => Or.inr (by omega))) all0))
  have lt59 := own_l r50_0.lt
  have lt60 := own_l r50_1.lt
  have lt61 := own_l r50_2.lt
  have lt62 := own_l r50_3.lt
  have lt63 := own_l r50_4.lt
  have lt64 := own_l r50_5.lt
  have sf50_8 : Safe Z own_EL T42.vm T50.heap x50_b := r50_8.elim (fun q => q.symm ▸ Safe.keep Kq50 (sfS (Safe.exa (Z := Z) (EL := own_EL) (vm := T42.vm) hZ42.alike f53 (by decide) (by decide)) (sfS f49 sf0)) C42.1 f49) (fun q => Safe.keep Kq50 (sfS (Safe.exa (Z := Z) (EL := own_EL) (vm := T42.vm) hZ42.alike f53 (by decide) (by decide)) (sfS f49 sf0)) C42.1 (Safe.new q))
  have oe50_8 := own_or r50_8
  have f66 := f52.keep Kq50 (allS (by omega) (allS (by omega) all0))
  obtain ⟨cq65, kq65, qa65, qb65, qc65⟩ := isOf hZ42 rfl r50_0
  obtain ⟨_, _, ⟨T65, L65, k65, n65⟩, -, X65, ⟨Lc65, hQ65, l65, y65, z65⟩, st65⟩ := X50.virtualBack hx (y := m_23) (z := m_23) hown42 (mvT hZ42 (w_167 hw)) (mvT hZ42 (w_168 hw)) (notFace_of_selects (args := #[]) (mvT hZ42 (w_170 hw))) (mvT hZ42 (w_170 hw)) (mvT hZ42 (w_169 hw)) (by decide) (backOf (W := 5) (rm_aps_i l Z a0 hw [] ln cp b14 x50_b x50_k x50_N2 ((((0 : Int32) + (1 : Int32)) + (9 : Int32))) x50_ys od ko vo ot kt2 vt T50.heap n0 (by omega) f66 P13 P14 P15 r50_0 r50_3 r50_4 r50_1 r50_2 r50_5 (by omega) (by omega) (fun q => r50_10 q) hcs hln r50_6 (own_ten r50_7) BO BT) hZ42 (w_171 hw) (w_101 hw) (by decide) (by decide)) qa65 qc65 (g := (mkF m 23 #[vA fe, vA kd, vA t, vI ln, vI cl] [(.int ln), (.ref b14), (.int cl), (.int ln), (.ref t), (.ref kd), (.ref fe)])) rfl (by rw [hml]; rfl) (Steps.refl _) (argsL := [(.int ln)]) (rest := [(.int cl), (.int ln), (.ref t), (.ref kd), (.ref fe)]) (lenOf pd_26 rfl) rfl (Nat.le_of_eq rfl) (hb hby d535) (fun _ _ => ⟨rfl, rfl, (by decide : 6 + 1 ≤ _), (by decide : 200 + 70 ≤ _)⟩)
  dsimp only [Pt.U, Pt.locs, Pt.cells, Pt.slots] at X65 l65 y65 z65 st65 hQ65
  rw [l65, y65, z65] at X65
  obtain ⟨x65_b, x65_k, x65_N2, x65_ys, x65_sz, rfl, Nq65, Kq65, r65_0, r65_1, r65_2, r65_3, r65_4, r65_5, r65_6, r65_7, r65_8, r65_9, r65_10, r65_11⟩ := hQ65
  have N65 := Fr.app N50 Nq65
  have f67 := (Safe.keep Kq50 (sfS (Safe.exa (Z := Z) (EL := own_EL) (vm := T42.vm) hZ42.alike f53 (by decide) (by decide)) (sfS f49 sf0)) C42.1 f46)
  have C65 := C50.trans (CHr.keep Kq65 (sfS (Safe.exa (Z := Z) (EL := own_EL) (vm := T42.vm) hZ42.alike r50_0 (by decide) (by decide)) (sfS sf50_8 sf0)) C50.1)
  have z65' := Kq65.1
  have K65 := K50.trans Kq65 (allS (Or.inr (by omega)) (allS (r50_8.elim (fun q => q ▸ (r25_8.elim (fun q => q ▸ (Or.inr (by omega))) (fun q => Or.inr (by omega)))) (fun q => Or.inr (by omega))) all0))
  have lt68 := own_l r65_0.lt
  have lt69 := own_l r65_1.lt
  have lt70 := own_l r65_2.lt
  have lt71 := own_l r65_3.lt
  have lt72 := own_l r65_4.lt
  have lt73 := own_l r65_5.lt
  have sf65_8 : Safe Z own_EL T42.vm T65.heap x65_b := r65_8.elim (fun q => q.symm ▸ Safe.keep Kq65 (sfS (Safe.exa (Z := Z) (EL := own_EL) (vm := T42.vm) hZ42.alike r50_0 (by decide) (by decide)) (sfS sf50_8 sf0)) C50.1 sf50_8) (fun q => Safe.keep Kq65 (sfS (Safe.exa (Z := Z) (EL := own_EL) (vm := T42.vm) hZ42.alike r50_0 (by decide) (by decide)) (sfS sf50_8 sf0)) C50.1 (Safe.new q))
  have oe65_8 := own_or r65_8
  obtain ⟨a74, T74, h74, k1_74, b74, k74, X74, e74, E74, hS74, hk74, hZ74, hown74, A74, FC74, FV74, V74, -, -, Cs74, Lt74, Sn74, st74⟩ := ldcCH X65 hx hZ42 hown42 (w_189 hw) (own_wS hw) rfl hS42 (by omega) (own_EW hw) (by decide) C65.1 (vs := [(.int 44), (.int 32), (.int 99), (.int 111), (.int 108), (.int 117), (.int 109), (.int 110), (.int 32)]) (z := (9 : Int32)) ⟨by decide, by decide⟩ (by decide) (by decide) (g := (mkF m 26 #[vA fe, vA kd, vA t, vI ln, vI cl] [(.ref b14), (.int cl), (.int ln), (.ref t), (.ref kd), (.ref fe)])) rfl (hb hby d536) (n := 36) (by decide) (by decide) (by decide) (by decide)
  have z74 := E74.1
  have C74 := C65.trans Cs74
  have K74 := K65.ext E74
  have lt75 := own_l A74.lt
  have lt76 := own_l V74.lt
  have f77 := (Safe.keep Kq65 (sfS (Safe.exa (Z := Z) (EL := own_EL) (vm := T42.vm) hZ42.alike r50_0 (by decide) (by decide)) (sfS sf50_8 sf0)) C50.1 f67)
  have f78 := (Cs74.safe (by show @LT.lt Nat _ _ _; omega) f77)
  have ns74_b14 := Sn74 _ f78
  have f79 := (Safe.keep Kq50 (sfS (Safe.exa (Z := Z) (EL := own_EL) (vm := T42.vm) hZ42.alike f53 (by decide) (by decide)) (sfS f49 sf0)) C42.1 f48)
  have f80 := (Safe.keep Kq65 (sfS (Safe.exa (Z := Z) (EL := own_EL) (vm := T42.vm) hZ42.alike r50_0 (by decide) (by decide)) (sfS sf50_8 sf0)) C50.1 f79)
  have f81 := (Cs74.safe (by show @LT.lt Nat _ _ _; omega) f80)
  have ns74_x17_b := Sn74 _ f81
  have f82 := (Safe.keep Kq50 (sfS (Safe.exa (Z := Z) (EL := own_EL) (vm := T42.vm) hZ42.alike f53 (by decide) (by decide)) (sfS f49 sf0)) C42.1 f49)
  have f83 := (Safe.keep Kq65 (sfS (Safe.exa (Z := Z) (EL := own_EL) (vm := T42.vm) hZ42.alike r50_0 (by decide) (by decide)) (sfS sf50_8 sf0)) C50.1 f82)
  have f84 := (Cs74.safe (by show @LT.lt Nat _ _ _; omega) f83)
  have ns74_x25_b := Sn74 _ f84
  have f85 := (Safe.keep Kq65 (sfS (Safe.exa (Z := Z) (EL := own_EL) (vm := T42.vm) hZ42.alike r50_0 (by decide) (by decide)) (sfS sf50_8 sf0)) C50.1 sf50_8)
  have f86 := (Cs74.safe (by show @LT.lt Nat _ _ _; omega) f85)
  have ns74_x50_b := Sn74 _ f86
  have f87 := (Cs74.safe (by show @LT.lt Nat _ _ _; omega) sf65_8)
  have ns74_x65_b := Sn74 _ f87
  have f89 := f66.keep Kq65 (allS (by omega) (allS (by omega) all0))
  have f90 := f89.ext E74
  have f91 := r65_0.ext E74
  have f92 := r65_3.ext E74
  have f93 := r65_4.ext E74
  have f94 := r65_1.ext E74
  have f95 := r65_2.ext E74
  have f96 := r65_5.ext E74
  obtain ⟨cq88, kq88, qa88, qb88, qc88⟩ := isOf hZ74 e74 f91
  obtain ⟨_, _, ⟨T88, L88, k88, n88⟩, -, X88, ⟨Lc88, hQ88, l88, y88, z88⟩, st88⟩ := X74.virtualBack hx (y := m_18) (z := m_18) hown74 (mvT hZ74 (w_117 hw)) (mvT hZ74 (w_118 hw)) (notFace_of_selects (args := #[]) (mvT hZ74 (w_120 hw))) (mvT hZ74 (w_120 hw)) (mvT hZ74 (w_119 hw)) (by decide) (backOf (W := 5) (rm_aps l Z a0 hw [] a74 b74 k74 ((9 : Int32)) ([(.int 44), (.int 32), (.int 99), (.int 111), (.int 108), (.int 117), (.int 109), (.int 110), (.int 32)]) cp b14 x65_b x65_k x65_N2 (((((0 : Int32) + (1 : Int32)) + (9 : Int32)) + x65_sz)) x65_ys h74 n0 (by omega) f90 P13 A74 FC74 FV74 V74 f91 f92 f93 f94 f95 f96 (by omega) (by omega) (fun q => r65_10 q) (fun q => ns74_b14.2 q.symm) (fun q => ns74_b14.1 q.symm) hcs r65_6 (own_t2 r65_11 r65_7)) hZ74 (w_121 hw) (w_101 hw) (by decide) (by decide)) qa88 qc88 (g := (mkF m 28 #[vA fe, vA kd, vA t, vI ln, vI cl] [(.ref a74), (.ref b14), (.int cl), (.int ln), (.ref t), (.ref kd), (.ref fe)])) rfl (by rw [hml]; rfl) (Steps.refl _) (argsL := [(.ref a74)]) (rest := [(.int cl), (.int ln), (.ref t), (.ref kd), (.ref fe)]) (lenOf pd_25 rfl) rfl (Nat.le_of_eq rfl) (hb hby d537) (fun _ _ => ⟨rfl, e74, (by decide : 9 + 1 ≤ _), (by decide : 310 + 70 ≤ _)⟩)
  dsimp only [Pt.U, Pt.locs, Pt.cells, Pt.slots] at X88 l88 y88 z88 st88 hQ88
  rw [l88, y88, z88] at X88
  obtain ⟨x88_b, x88_k, x88_N2, x88_ys, rfl, Nq88, Kq88, r88_0, r88_1, r88_2, r88_3, r88_4, r88_5, r88_6, r88_7, r88_8, r88_9, r88_10⟩ := hQ88
  have N88 := Fr.app N65 Nq88
  have C88 := C74.trans (CHr.keep Kq88 (sfS (Safe.exa (Z := Z) (EL := own_EL) (vm := T74.vm) hZ74.alike f91 (by decide) (by decide)) (sfS f87 sf0)) C74.1)
  have z88' := Kq88.1
  have K88 := K74.trans Kq88 (allS (Or.inr (by omega)) (allS (r65_8.elim (fun q => q ▸ (r50_8.elim (fun q => q ▸ (r25_8.elim (fun q => q ▸ (Or.inr (by omega))) (fun q => Or.inr (by omega)))) (fun q => Or.inr (by omega)))) (fun q => Or.inr (by omega))) all0))
  have lt97 := own_l r88_0.lt
  have lt98 := own_l r88_1.lt
  have lt99 := own_l r88_2.lt
  have lt100 := own_l r88_3.lt
  have lt101 := own_l r88_4.lt
  have lt102 := own_l r88_5.lt
  have sf88_8 : Safe Z own_EL T74.vm T88.heap x88_b := r88_8.elim (fun q => q.symm ▸ Safe.keep Kq88 (sfS (Safe.exa (Z := Z) (EL := own_EL) (vm := T74.vm) hZ74.alike f91 (by decide) (by decide)) (sfS f87 sf0)) C74.1 f87) (fun q => Safe.keep Kq88 (sfS (Safe.exa (Z := Z) (EL := own_EL) (vm := T74.vm) hZ74.alike f91 (by decide) (by decide)) (sfS f87 sf0)) C74.1 (Safe.new q))
  have oe88_8 := own_or r88_8
  have f104 := f90.keep Kq88 (allS (by omega) (allS (by omega) all0))
  obtain ⟨cq103, kq103, qa103, qb103, qc103⟩ := isOf hZ74 rfl r88_0
  obtain ⟨_, _, ⟨T103, L103, k103, n103⟩, -, X103, ⟨Lc103, hQ103, l103, y103, z103⟩, st103⟩ := X88.virtualBack hx (y := m_23) (z := m_23) hown74 (mvT hZ74 (w_167 hw)) (mvT hZ74 (w_168 hw)) (notFace_of_selects (args := #[]) (mvT hZ74 (w_170 hw))) (mvT hZ74 (w_170 hw)) (mvT hZ74 (w_169 hw)) (by decide) (backOf (W := 5) (rm_aps_i l Z a0 hw [] cl cp b14 x88_b x88_k x88_N2 ((((((0 : Int32) + (1 : Int32)) + (9 : Int32)) + x65_sz) + (9 : Int32))) x88_ys od ko vo ot kt2 vt T88.heap n0 (by omega) f104 P13 P14 P15 r88_0 r88_3 r88_4 r88_1 r88_2 r88_5 (by omega) (by omega) (fun q => r88_10 q) hcs hcl r88_6 (own_t4 r65_11 r88_7) BO BT) hZ74 (w_171 hw) (w_101 hw) (by decide) (by decide)) qa103 qc103 (g := (mkF m 33 #[vA fe, vA kd, vA t, vI ln, vI cl] [(.int cl), (.ref b14), (.int cl), (.int ln), (.ref t), (.ref kd), (.ref fe)])) rfl (by rw [hml]; rfl) (Steps.refl _) (argsL := [(.int cl)]) (rest := [(.int cl), (.int ln), (.ref t), (.ref kd), (.ref fe)]) (lenOf pd_26 rfl) rfl (Nat.le_of_eq rfl) (hb hby d539) (fun _ _ => ⟨rfl, rfl, (by decide : 10 + 1 ≤ _), (by decide : 380 + 70 ≤ _)⟩)
  dsimp only [Pt.U, Pt.locs, Pt.cells, Pt.slots] at X103 l103 y103 z103 st103 hQ103
  rw [l103, y103, z103] at X103
  obtain ⟨x103_b, x103_k, x103_N2, x103_ys, x103_sz, rfl, Nq103, Kq103, r103_0, r103_1, r103_2, r103_3, r103_4, r103_5, r103_6, r103_7, r103_8, r103_9, r103_10, r103_11⟩ := hQ103
  have N103 := Fr.app N88 Nq103
  have f105 := (Safe.keep Kq88 (sfS (Safe.exa (Z := Z) (EL := own_EL) (vm := T74.vm) hZ74.alike f91 (by decide) (by decide)) (sfS f87 sf0)) C74.1 f78)
  have C103 := C88.trans (CHr.keep Kq103 (sfS (Safe.exa (Z := Z) (EL := own_EL) (vm := T74.vm) hZ74.alike r88_0 (by decide) (by decide)) (sfS sf88_8 sf0)) C88.1)
  have z103' := Kq103.1
  have K103 := K88.trans Kq103 (allS (Or.inr (by omega)) (allS (r88_8.elim (fun q => q ▸ (r65_8.elim (fun q => q ▸ (r50_8.elim (fun q => q ▸ (r25_8.elim (fun q => q ▸ (Or.inr (by omega))) (fun q => Or.inr (by omega)))) (fun q => Or.inr (by omega)))) (fun q => Or.inr (by omega)))) (fun q => Or.inr (by omega))) all0))
  have lt106 := own_l r103_0.lt
  have lt107 := own_l r103_1.lt
  have lt108 := own_l r103_2.lt
  have lt109 := own_l r103_3.lt
  have lt110 := own_l r103_4.lt
  have lt111 := own_l r103_5.lt
  have sf103_8 : Safe Z own_EL T74.vm T103.heap x103_b := r103_8.elim (fun q => q.symm ▸ Safe.keep Kq103 (sfS (Safe.exa (Z := Z) (EL := own_EL) (vm := T74.vm) hZ74.alike r88_0 (by decide) (by decide)) (sfS sf88_8 sf0)) C88.1 sf88_8) (fun q => Safe.keep Kq103 (sfS (Safe.exa (Z := Z) (EL := own_EL) (vm := T74.vm) hZ74.alike r88_0 (by decide) (by decide)) (sfS sf88_8 sf0)) C88.1 (Safe.new q))
  have oe103_8 := own_or r103_8
  have f113 := f104.keep Kq103 (allS (by omega) (allS (by omega) all0))
  obtain ⟨cq112, kq112, qa112, qb112, qc112⟩ := isOf hZ74 rfl r103_0
  obtain ⟨_, _, ⟨T112, L112, k112, n112⟩, -, X112, ⟨Lc112, hQ112, l112, y112, z112⟩, st112⟩ := X103.virtualBack hx (y := m_36) (z := m_36) hown74 (mvT hZ74 (w_214 hw)) (mvT hZ74 (w_215 hw)) (notFace_of_selects (args := #[]) (mvT hZ74 (w_217 hw))) (mvT hZ74 (w_217 hw)) (mvT hZ74 (w_216 hw)) (by decide) (backOf (W := 5) (rm_tos l Z a0 hw [] cp b14 x103_b x103_k x103_N2 (((((((0 : Int32) + (1 : Int32)) + (9 : Int32)) + x65_sz) + (9 : Int32)) + x103_sz)) x103_ys T103.heap n0 (by omega) f113 P13 r103_0 r103_3 r103_4 r103_1 r103_2 r103_5 hcs (own_t5 r65_11 r103_11) r103_6 r103_7) hZ74 (w_218 hw) (w_101 hw) (by decide) (by decide)) qa112 qc112 (g := (mkF m 36 #[vA fe, vA kd, vA t, vI ln, vI cl] [(.ref b14), (.int cl), (.int ln), (.ref t), (.ref kd), (.ref fe)])) rfl (by rw [hml]; rfl) (Steps.refl _) (argsL := []) (rest := [(.int cl), (.int ln), (.ref t), (.ref kd), (.ref fe)]) (lenOf pd_27 rfl) rfl (Nat.le_of_eq rfl) (hb hby d540) (fun _ _ => ⟨rfl, rfl, (by decide : 11 + 2 ≤ _), (by decide : 450 + 74 ≤ _)⟩)
  dsimp only [Pt.U, Pt.locs, Pt.cells, Pt.slots] at X112 l112 y112 z112 st112 hQ112
  rw [l112, y112, z112] at X112
  obtain ⟨x112_r, rfl, Nq112, Kq112, r112_0, r112_1⟩ := hQ112
  have N112 := Fr.app N103 Nq112
  have f114 := (Safe.keep Kq103 (sfS (Safe.exa (Z := Z) (EL := own_EL) (vm := T74.vm) hZ74.alike r88_0 (by decide) (by decide)) (sfS sf88_8 sf0)) C88.1 f105)
  have C112 := C103.trans (CHr.keep Kq112 sf0 C103.1)
  have z112' := Kq112.1
  have K112 := K103.trans Kq112 all0
  have sf112_0 : Safe Z own_EL T74.vm T112.heap x112_r := Safe.keep Kq112 sf0 C103.1 (Safe.new (by omega))
  have lt115 := own_l r112_1.lt
  have f117 := f113.keep Kq112 all0
  have f118 := P3.ext E14
  have f119 := f118.keep Kq17
  have f120 := f119.keep Kq25
  have f121 := f120.ext E42
  have f122 := f121.keep Kq50
  have f123 := f122.keep Kq65
  have f124 := f123.ext E74
  have f125 := f124.keep Kq88
  have f126 := f125.keep Kq103
  have f127 := f126.keep Kq112
  have f128 := P4.ext E14
  have f129 := f128.keep Kq17 (ninS (own_ne (by omega)) nin0)
  have f130 := f129.keep Kq25 (ninS (own_ne (by omega)) (ninS (own_ne (by omega)) nin0))
  have f131 := f130.ext E42
  have f132 := f131.keep Kq50 (ninS (own_ne (by omega)) (ninS (own_ne (by omega)) nin0))
  have f133 := f132.keep Kq65 (ninS (own_ne (by omega)) (ninS (own_ne (by omega)) nin0))
  have f134 := f133.ext E74
  have f135 := f134.keep Kq88 (ninS (own_ne (by omega)) (ninS (own_ne (by omega)) nin0))
  have f136 := f135.keep Kq103 (ninS (own_ne (by omega)) (ninS (own_ne (by omega)) nin0))
  have f137 := f136.keep Kq112 nin0
  have f138 := P5.ext E14
  have f139 := f138.keep Kq17 (ninS (own_ne (by omega)) nin0)
  have f140 := f139.keep Kq25 (ninS (own_ne (by omega)) (ninS (own_ne (by omega)) nin0))
  have f141 := f140.ext E42
  have f142 := f141.keep Kq50 (ninS (own_ne (by omega)) (ninS (own_ne (by omega)) nin0))
  have f143 := f142.keep Kq65 (ninS (own_ne (by omega)) (ninS (own_ne (by omega)) nin0))
  have f144 := f143.ext E74
  have f145 := f144.keep Kq88 (ninS (own_ne (by omega)) (ninS (own_ne (by omega)) nin0))
  have f146 := f145.keep Kq103 (ninS (own_ne (by omega)) (ninS (own_ne (by omega)) nin0))
  have f147 := f146.keep Kq112 nin0
  have f148 := P6.ext E14
  have f149 := f148.keep Kq17 (ninS (own_ne (by omega)) nin0)
  have f150 := f149.keep Kq25 (ninS (own_ne (by omega)) (ninS (own_ne (by omega)) nin0))
  have f151 := f150.ext E42
  have f152 := f151.keep Kq50 (ninS (own_ne (by omega)) (ninS (own_ne (by omega)) nin0))
  have f153 := f152.keep Kq65 (ninS (own_ne (by omega)) (ninS (own_ne (by omega)) nin0))
  have f154 := f153.ext E74
  have f155 := f154.keep Kq88 (ninS (own_ne (by omega)) (ninS (own_ne (by omega)) nin0))
  have f156 := f155.keep Kq103 (ninS (own_ne (by omega)) (ninS (own_ne (by omega)) nin0))
  have f157 := f156.keep Kq112 nin0
  have f158 := P7.ext E14
  have f159 := f158.keep Kq17 (ninS (own_ne (by omega)) nin0)
  have f160 := f159.keep Kq25 (ninS (own_ne (by omega)) (ninS (own_ne (by omega)) nin0))
  have f161 := f160.ext E42
  have f162 := f161.keep Kq50 (ninS (own_ne (by omega)) (ninS (own_ne (by omega)) nin0))
  have f163 := f162.keep Kq65 (ninS (own_ne (by omega)) (ninS (own_ne (by omega)) nin0))
  have f164 := f163.ext E74
  have f165 := f164.keep Kq88 (ninS (own_ne (by omega)) (ninS (own_ne (by omega)) nin0))
  have f166 := f165.keep Kq103 (ninS (own_ne (by omega)) (ninS (own_ne (by omega)) nin0))
  have f167 := f166.keep Kq112 nin0
  have f168 := P8.ext E14
  have f169 := f168.keep Kq17 (ninS (own_ne (by omega)) nin0)
  have f170 := f169.keep Kq25 (ninS (own_ne (by omega)) (ninS (own_ne (by omega)) nin0))
  have f171 := f170.ext E42
  have f172 := f171.keep Kq50 (ninS (own_ne (by omega)) (ninS (own_ne (by omega)) nin0))
  have f173 := f172.keep Kq65 (ninS (own_ne (by omega)) (ninS (own_ne (by omega)) nin0))
  have f174 := f173.ext E74
  have f175 := f174.keep Kq88 (ninS (own_ne (by omega)) (ninS (own_ne (by omega)) nin0))
  have f176 := f175.keep Kq103 (ninS (own_ne (by omega)) (ninS (own_ne (by omega)) nin0))
  have f177 := f176.keep Kq112 nin0
  have f178 := P9.ext E14
  have f179 := f178.keep Kq17 (ninS (own_ne (by omega)) nin0)
  have f180 := f179.keep Kq25 (ninS (own_ne (by omega)) (ninS (own_ne (by omega)) nin0))
  have f181 := f180.ext E42
  have f182 := f181.keep Kq50 (ninS (own_ne (by omega)) (ninS (own_ne (by omega)) nin0))
  have f183 := f182.keep Kq65 (ninS (own_ne (by omega)) (ninS (own_ne (by omega)) nin0))
  have f184 := f183.ext E74
  have f185 := f184.keep Kq88 (ninS (own_ne (by omega)) (ninS (own_ne (by omega)) nin0))
  have f186 := f185.keep Kq103 (ninS (own_ne (by omega)) (ninS (own_ne (by omega)) nin0))
  have f187 := f186.keep Kq112 nin0
  have f188 := P10.ext E14
  have f189 := f188.keep Kq17 (ninS (own_ne (by omega)) nin0)
  have f190 := f189.keep Kq25 (ninS (own_ne (by omega)) (ninS (own_ne (by omega)) nin0))
  have f191 := f190.ext E42
  have f192 := f191.keep Kq50 (ninS (own_ne (by omega)) (ninS (own_ne (by omega)) nin0))
  have f193 := f192.keep Kq65 (ninS (own_ne (by omega)) (ninS (own_ne (by omega)) nin0))
  have f194 := f193.ext E74
  have f195 := f194.keep Kq88 (ninS (own_ne (by omega)) (ninS (own_ne (by omega)) nin0))
  have f196 := f195.keep Kq103 (ninS (own_ne (by omega)) (ninS (own_ne (by omega)) nin0))
  have f197 := f196.keep Kq112 nin0
  have f198 := P11.ext E14
  have f199 := f198.keep Kq17 (ninS (own_ne (by omega)) nin0)
  have f200 := f199.keep Kq25 (ninS (own_ne (by omega)) (ninS (own_ne (by omega)) nin0))
  have f201 := f200.ext E42
  have f202 := f201.keep Kq50 (ninS (own_ne (by omega)) (ninS (own_ne (by omega)) nin0))
  have f203 := f202.keep Kq65 (ninS (own_ne (by omega)) (ninS (own_ne (by omega)) nin0))
  have f204 := f203.ext E74
  have f205 := f204.keep Kq88 (ninS (own_ne (by omega)) (ninS (own_ne (by omega)) nin0))
  have f206 := f205.keep Kq103 (ninS (own_ne (by omega)) (ninS (own_ne (by omega)) nin0))
  have f207 := f206.keep Kq112 nin0
  obtain ⟨_, _, ⟨T116, L116, k116, n116⟩, -, X116, ⟨Lc116, hQ116, l116, y116, z116⟩, st116⟩ := X112.specialBack hx (y := m_40) rfl hown74 (mvT hZ74 (w_40 hw)) (mvT hZ74 (w_41 hw)) (mvT hZ74 (w_42 hw)) (by decide) (backOf (W := 0) (rm_fi5 l Z a0 hw [] fe kd t ln cl x112_r su ss T112.heap n0 (by omega) f117 P1 P2 f127 f137 f147 f157 f167 f177 f187 f197 f207 (by omega) hsu hss) hZ74 (w_42 hw) (w_36 hw) (by decide) (by decide)) (g := (mkF m 39 #[vA fe, vA kd, vA t, vI ln, vI cl] [(.ref x112_r), (.int cl), (.int ln), (.ref t), (.ref kd), (.ref fe)])) rfl (by rw [hml]; rfl) (Steps.refl _) (a := fe) (argsL := [(.ref kd), (.ref t), (.int ln), (.int cl), (.ref x112_r)]) (rest := []) (lenOf pd_23 rfl) rfl (Nat.le_of_eq rfl) (hb hby d541) (fun _ _ => ⟨rfl, rfl, (by decide : 13 + 0 ≤ _), (by decide : 524 + 0 ≤ _)⟩)
  dsimp only [Pt.U, Pt.locs, Pt.cells, Pt.slots] at X116 l116 y116 z116 st116 hQ116
  rw [l116, y116, z116] at X116
  obtain ⟨rfl, Nq116, Kq116, r116_0, r116_1, r116_2⟩ := hQ116
  have N116 := Fr.app N112 Nq116
  have C116 := C112.trans (CHr.keep Kq116 (sfS (Safe.exa (Z := Z) (EL := own_EL) (vm := T74.vm) hZ74.alike f127 (by decide) (by decide)) sf0) C112.1)
  have z116' := Kq116.1
  have K116 := K112.trans Kq116 (allS (Or.inl (List.mem_of_getElem? (i := 0) rfl)) all0)
  have lt208 := own_l r116_0.lt
  have lt209 := own_l r116_1.lt
  have lt210 := own_l r116_2.lt
  obtain ⟨fs, hr, hrun, hended, hEnd⟩ := X116.leaveW hS74 (by first | omega | (rw [(rfl : T116.heap = T116.heap)]; omega)) (v := none) (fun _ => rfl)
  have Cz := C116.trans (CHv.at X116 hZ74 (own_EW hw) C116.1)
  refine ⟨_, _, castTop (ef_21 m fe kd t ln cl) ?_, hrun, hended, _, _, rfl, ?_, (by rw [hh]; show CHr Z own_EL s.vm h0 T116.vm T116.heap; rw [(rfl : T116.heap = T116.heap)]; exact Cz), hEnd.1, hEnd.2.1, hEnd.2.2.1, hEnd.2.2.2.mono (by decide) (by decide)⟩
  · show Steps _ _ _ (s₁.setTop (mkF m 0 #[vA fe, vA kd, vA t, vI ln, vI cl] [])) _
    refine XS.aloadN X0.here hx rfl (hb hby d522) rfl rfl ?_
    show Steps _ _ _ (s₁.setTop (mkF m 1 #[vA fe, vA kd, vA t, vI ln, vI cl] [(.ref fe)])) _
    refine XS.aloadN X0.here hx rfl (hb hby d523) rfl rfl ?_
    show Steps _ _ _ (s₁.setTop (mkF m 2 #[vA fe, vA kd, vA t, vI ln, vI cl] [(.ref kd), (.ref fe)])) _
    refine XS.aloadN X0.here hx rfl (hb hby d524) rfl rfl ?_
    show Steps _ _ _ (s₁.setTop (mkF m 3 #[vA fe, vA kd, vA t, vI ln, vI cl] [(.ref t), (.ref kd), (.ref fe)])) _
    refine XS.iloadN X0.here hx rfl (hb hby d525) rfl ?_
    show Steps _ _ _ (s₁.setTop (mkF m 4 #[vA fe, vA kd, vA t, vI ln, vI cl] [(.int ln), (.ref t), (.ref kd), (.ref fe)])) _
    refine XS.iload X0.here hx rfl (hb hby d526) rfl ?_
    show Steps _ _ _ (s₁.setTop (mkF m 6 #[vA fe, vA kd, vA t, vI ln, vI cl] [(.int cl), (.int ln), (.ref t), (.ref kd), (.ref fe)])) _
    refine st14 _ ?_
    show Steps _ _ _ (T14.setTop (mkF m 9 #[vA fe, vA kd, vA t, vI ln, vI cl] [(.ref b14), (.int cl), (.int ln), (.ref t), (.ref kd), (.ref fe)])) _
    refine XS.dup X14.here hx rfl (hb hby d528) rfl rfl ?_
    show Steps _ _ _ (T14.setTop (mkF m 10 #[vA fe, vA kd, vA t, vI ln, vI cl] [(.ref b14), (.ref b14), (.int cl), (.int ln), (.ref t), (.ref kd), (.ref fe)])) _
    refine st17.trans ?_
    show Steps _ _ _ (T17.setTop (mkF m 13 #[vA fe, vA kd, vA t, vI ln, vI cl] [(.ref b14), (.int cl), (.int ln), (.ref t), (.ref kd), (.ref fe)])) _
    refine XS.aloadN X17.here hx rfl (hb hby d530) rfl rfl ?_
    show Steps _ _ _ (T17.setTop (mkF m 14 #[vA fe, vA kd, vA t, vI ln, vI cl] [(.ref t), (.ref b14), (.int cl), (.int ln), (.ref t), (.ref kd), (.ref fe)])) _
    refine st25.trans ?_
    show Steps _ _ _ (T25.setTop (mkF m 17 #[vA fe, vA kd, vA t, vI ln, vI cl] [(.ref b14), (.int cl), (.int ln), (.ref t), (.ref kd), (.ref fe)])) _
    refine st42 _ ?_
    show Steps _ _ _ (T42.setTop (mkF m 19 #[vA fe, vA kd, vA t, vI ln, vI cl] [(.ref a42), (.ref b14), (.int cl), (.int ln), (.ref t), (.ref kd), (.ref fe)])) _
    refine st50.trans ?_
    show Steps _ _ _ (T50.setTop (mkF m 22 #[vA fe, vA kd, vA t, vI ln, vI cl] [(.ref b14), (.int cl), (.int ln), (.ref t), (.ref kd), (.ref fe)])) _
    refine XS.iloadN X50.here hx rfl (hb hby d534) rfl ?_
    show Steps _ _ _ (T50.setTop (mkF m 23 #[vA fe, vA kd, vA t, vI ln, vI cl] [(.int ln), (.ref b14), (.int cl), (.int ln), (.ref t), (.ref kd), (.ref fe)])) _
    refine st65.trans ?_
    show Steps _ _ _ (T65.setTop (mkF m 26 #[vA fe, vA kd, vA t, vI ln, vI cl] [(.ref b14), (.int cl), (.int ln), (.ref t), (.ref kd), (.ref fe)])) _
    refine st74 _ ?_
    show Steps _ _ _ (T74.setTop (mkF m 28 #[vA fe, vA kd, vA t, vI ln, vI cl] [(.ref a74), (.ref b14), (.int cl), (.int ln), (.ref t), (.ref kd), (.ref fe)])) _
    refine st88.trans ?_
    show Steps _ _ _ (T88.setTop (mkF m 31 #[vA fe, vA kd, vA t, vI ln, vI cl] [(.ref b14), (.int cl), (.int ln), (.ref t), (.ref kd), (.ref fe)])) _
    refine XS.iload X88.here hx rfl (hb hby d538) rfl ?_
    show Steps _ _ _ (T88.setTop (mkF m 33 #[vA fe, vA kd, vA t, vI ln, vI cl] [(.int cl), (.ref b14), (.int cl), (.int ln), (.ref t), (.ref kd), (.ref fe)])) _
    refine st103.trans ?_
    show Steps _ _ _ (T103.setTop (mkF m 36 #[vA fe, vA kd, vA t, vI ln, vI cl] [(.ref b14), (.int cl), (.int ln), (.ref t), (.ref kd), (.ref fe)])) _
    refine st112.trans ?_
    show Steps _ _ _ (T112.setTop (mkF m 39 #[vA fe, vA kd, vA t, vI ln, vI cl] [(.ref x112_r), (.int cl), (.int ln), (.ref t), (.ref kd), (.ref fe)])) _
    refine st116.trans ?_
    show Steps _ _ _ (T116.setTop (mkF m 42 #[vA fe, vA kd, vA t, vI ln, vI cl] [])) _
    refine XS.iloadN X116.here hx rfl (hb hby d542) rfl ?_
    show Steps _ _ _ (T116.setTop (mkF m 43 #[vA fe, vA kd, vA t, vI ln, vI cl] [(.int ln)])) _
    refine XS.iconst X116.here hx rfl (hb hby d543) ?_
    show Steps _ _ _ (T116.setTop (mkF m 44 #[vA fe, vA kd, vA t, vI ln, vI cl] [(.int 1), (.int ln)])) _
    refine XS.icmpNo X116.here hx rfl (hb hby d544) rfl (flt (hl1 : ¬ (ln < (1 : Int32)))).1 ?_
    show Steps _ _ _ (T116.setTop (mkF m 47 #[vA fe, vA kd, vA t, vI ln, vI cl] [])) _
    refine XS.iload X116.here hx rfl (hb hby d545) rfl ?_
    show Steps _ _ _ (T116.setTop (mkF m 49 #[vA fe, vA kd, vA t, vI ln, vI cl] [(.int cl)])) _
    refine XS.iconst X116.here hx rfl (hb hby d546) ?_
    show Steps _ _ _ (T116.setTop (mkF m 50 #[vA fe, vA kd, vA t, vI ln, vI cl] [(.int 1), (.int cl)])) _
    refine XS.icmpYes X116.here hx rfl (pc0 := 50) (pc' := 90) rfl (hb hby d547) rfl (flt (hc1 : ¬ (cl < (1 : Int32)))).2.1 (by decide) (by decide) ?_
    show Steps _ _ _ (T116.setTop (mkF m 90 #[vA fe, vA kd, vA t, vI ln, vI cl] [])) _
    exact X116.returnOut hx Bd.returns (hb hby d548) hr
  · show Q_fi4 Z fe kd t tb kt bs ln cl cp su ss od ko vo ot kt2 vt h0 n0 _ T116.heap _
    exact ⟨rfl, N116, K116, r116_0, r116_1, r116_2⟩
theorem d549 : decode prog_36_method_6_code 0 = .ok (.aload_n 0, 1) := by decide +kernel
theorem d550 : decode prog_36_method_6_code 1 = .ok (.getfield 49, 3) := by decide +kernel
theorem d551 : decode prog_36_method_6_code 4 = .ok (.ifCond .le 7, 3) := by decide +kernel
theorem d552 : decode prog_36_method_6_code 7 = .ok (.iconst 1, 1) := by decide +kernel
theorem d553 : decode prog_36_method_6_code 8 = .ok (.goto 4, 3) := by decide +kernel
theorem d554 : decode prog_36_method_6_code 12 = .ok (.ireturn, 1) := by decide +kernel
abbrev m_43 : MethodName := (⟨"com/example/formulary/formulary/host/FormulaException", "hasPlace", "()Z"⟩ : MethodName)
def Q_hp1 (Z : State) (fe : Addr) (ln : Int32) (h0 : Heap) (n0 : Nat) (v : Option Value) (h : Heap) (L : List Loc) : Prop := (v = some (.int 1)) ∧ (Fr n0 L) ∧ (h = h0)
theorem rm_hp1 (l : Launch) (Z : State) (a0 : Array Value) (hw : HW Z a0) (ws : List Jvm.Cond) (fe : Addr) (ln : Int32) (h0 : Heap) (n0 : Nat) (Z0 : n0 ≤ h0.size) (P0 : Fld Z h0 fe "com/example/formulary/formulary/host/FormulaException" "line" "I" (.int ln)) (hpos : (0 : Int32) < ln) :
    MF l Z m_43 prog_36_method_6_code 1 (some .boolean) ws (oR 0 0 0 0) #[(.ref fe)] h0 (Q_hp1 Z fe ln h0 n0) := by
  refine own_body (cls := "com/example/formulary/formulary/host/FormulaException") (plainFor_of_name pn_12) rfl (fun p e s m below meth c s₁ hx hby hml hown hnm hret hZ X0 e0 => ?_)
  have N0 := Fr.nil n0
  have lt1 := own_l P0.lt
  obtain ⟨T2, X2, e2, st2⟩ := getF X0 hx hZ hown (host := "") (Or.inl (w_75 hw)) Via.refl e0 P0 (g := (mkF m 1 #[vA fe] [(.ref fe)])) rfl rfl (hb hby d550)
  refine ⟨_, _, _, _, some (.int 1), X2, by decide, by decide, nofun, ?_, fun fs hr => castTop (ef_2 m fe) ?_⟩
  · show Q_hp1 Z fe ln h0 n0 _ T2.heap _
    rw [(e2 : T2.heap = h0)]
    exact ⟨rfl, N0, rfl⟩
  · show Steps _ _ _ (s₁.setTop (mkF m 0 #[vA fe] [])) _
    refine XS.aloadN X0.here hx rfl (hb hby d549) rfl rfl ?_
    show Steps _ _ _ (s₁.setTop (mkF m 1 #[vA fe] [(.ref fe)])) _
    refine st2 _ ?_
    show Steps _ _ _ (T2.setTop (mkF m 4 #[vA fe] [(.int ln)])) _
    refine XS.ifNo X2.here hx rfl (hb hby d551) rfl ((if0 _ _).trans (tlt (hpos : (0 : Int32) < ln)).2.2.2) ?_
    show Steps _ _ _ (T2.setTop (mkF m 7 #[vA fe] [])) _
    refine XS.iconst X2.here hx rfl (hb hby d552) ?_
    show Steps _ _ _ (T2.setTop (mkF m 8 #[vA fe] [(.int 1)])) _
    refine XS.goto X2.here hx rfl (pc0 := 8) (pc' := 12) rfl (hb hby d553) (by decide) (by decide) ?_
    show Steps _ _ _ (T2.setTop (mkF m 12 #[vA fe] [(.int 1)])) _
    exact retN X2 hx (t := .boolean) hret (by simp) (hb hby d554) hr
theorem d555 : decode prog_36_method_6_code 11 = .ok (.iconst 0, 1) := by decide +kernel
def Q_hp0 (Z : State) (fe : Addr) (h0 : Heap) (n0 : Nat) (v : Option Value) (h : Heap) (L : List Loc) : Prop := (v = some (.int 0)) ∧ (Fr n0 L) ∧ (h = h0)
theorem rm_hp0 (l : Launch) (Z : State) (a0 : Array Value) (hw : HW Z a0) (ws : List Jvm.Cond) (fe : Addr) (h0 : Heap) (n0 : Nat) (Z0 : n0 ≤ h0.size) (P0 : Fld Z h0 fe "com/example/formulary/formulary/host/FormulaException" "line" "I" (.int 0)) :
    MF l Z m_43 prog_36_method_6_code 1 (some .boolean) ws (oR 0 0 0 0) #[(.ref fe)] h0 (Q_hp0 Z fe h0 n0) := by
  refine own_body (cls := "com/example/formulary/formulary/host/FormulaException") (plainFor_of_name pn_12) rfl (fun p e s m below meth c s₁ hx hby hml hown hnm hret hZ X0 e0 => ?_)
  have N0 := Fr.nil n0
  have lt1 := own_l P0.lt
  obtain ⟨T2, X2, e2, st2⟩ := getF X0 hx hZ hown (host := "") (Or.inl (w_75 hw)) Via.refl e0 P0 (g := (mkF m 1 #[vA fe] [(.ref fe)])) rfl rfl (hb hby d550)
  refine ⟨_, _, _, _, some (.int 0), X2, by decide, by decide, nofun, ?_, fun fs hr => castTop (ef_2 m fe) ?_⟩
  · show Q_hp0 Z fe h0 n0 _ T2.heap _
    rw [(e2 : T2.heap = h0)]
    exact ⟨rfl, N0, rfl⟩
  · show Steps _ _ _ (s₁.setTop (mkF m 0 #[vA fe] [])) _
    refine XS.aloadN X0.here hx rfl (hb hby d549) rfl rfl ?_
    show Steps _ _ _ (s₁.setTop (mkF m 1 #[vA fe] [(.ref fe)])) _
    refine st2 _ ?_
    show Steps _ _ _ (T2.setTop (mkF m 4 #[vA fe] [(.int 0)])) _
    refine XS.ifYes X2.here hx rfl (pc0 := 4) (pc' := 11) rfl (hb hby d551) rfl ((if0 _ _).trans (flt ((by decide) : ¬ ((0 : Int32) < (0 : Int32)))).2.2.2) (by decide) (by decide) ?_
    show Steps _ _ _ (T2.setTop (mkF m 11 #[vA fe] [])) _
    refine XS.iconst X2.here hx rfl (hb hby d555) ?_
    show Steps _ _ _ (T2.setTop (mkF m 12 #[vA fe] [(.int 0)])) _
    exact retN X2 hx (t := .boolean) hret (by simp) (hb hby d554) hr
theorem d556 : decode prog_36_method_7_code 0 = .ok (.aload_n 0, 1) := by decide +kernel
theorem d557 : decode prog_36_method_7_code 1 = .ok (.getfield 49, 3) := by decide +kernel
theorem d558 : decode prog_36_method_7_code 4 = .ok (.ireturn, 1) := by decide +kernel
abbrev m_44 : MethodName := (⟨"com/example/formulary/formulary/host/FormulaException", "line", "()I"⟩ : MethodName)
def Q_line (Z : State) (fe : Addr) (ln : Int32) (h0 : Heap) (n0 : Nat) (v : Option Value) (h : Heap) (L : List Loc) : Prop := (v = some (.int ln)) ∧ (Fr n0 L) ∧ (h = h0)
theorem rm_line (l : Launch) (Z : State) (a0 : Array Value) (hw : HW Z a0) (ws : List Jvm.Cond) (fe : Addr) (ln : Int32) (h0 : Heap) (n0 : Nat) (Z0 : n0 ≤ h0.size) (P0 : Fld Z h0 fe "com/example/formulary/formulary/host/FormulaException" "line" "I" (.int ln)) :
    MF l Z m_44 prog_36_method_7_code 1 (some .int) ws (oR 0 0 0 0) #[(.ref fe)] h0 (Q_line Z fe ln h0 n0) := by
  refine own_body (cls := "com/example/formulary/formulary/host/FormulaException") (plainFor_of_name pn_12) rfl (fun p e s m below meth c s₁ hx hby hml hown hnm hret hZ X0 e0 => ?_)
  have N0 := Fr.nil n0
  have lt1 := own_l P0.lt
  obtain ⟨T2, X2, e2, st2⟩ := getF X0 hx hZ hown (host := "") (Or.inl (w_75 hw)) Via.refl e0 P0 (g := (mkF m 1 #[vA fe] [(.ref fe)])) rfl rfl (hb hby d557)
  refine ⟨_, _, _, _, some (.int ln), X2, by decide, by decide, nofun, ?_, fun fs hr => castTop (ef_2 m fe) ?_⟩
  · show Q_line Z fe ln h0 n0 _ T2.heap _
    rw [(e2 : T2.heap = h0)]
    exact ⟨rfl, N0, rfl⟩
  · show Steps _ _ _ (s₁.setTop (mkF m 0 #[vA fe] [])) _
    refine XS.aloadN X0.here hx rfl (hb hby d556) rfl rfl ?_
    show Steps _ _ _ (s₁.setTop (mkF m 1 #[vA fe] [(.ref fe)])) _
    refine st2 _ ?_
    show Steps _ _ _ (T2.setTop (mkF m 4 #[vA fe] [(.int ln)])) _
    exact retI X2 hx hret (hb hby d558) hr
theorem d559 : decode prog_36_method_8_code 0 = .ok (.aload_n 0, 1) := by decide +kernel
theorem d560 : decode prog_36_method_8_code 1 = .ok (.getfield 53, 3) := by decide +kernel
theorem d561 : decode prog_36_method_8_code 4 = .ok (.ireturn, 1) := by decide +kernel
abbrev m_45 : MethodName := (⟨"com/example/formulary/formulary/host/FormulaException", "column", "()I"⟩ : MethodName)
def Q_colu (Z : State) (fe : Addr) (cl : Int32) (h0 : Heap) (n0 : Nat) (v : Option Value) (h : Heap) (L : List Loc) : Prop := (v = some (.int cl)) ∧ (Fr n0 L) ∧ (h = h0)
theorem rm_colu (l : Launch) (Z : State) (a0 : Array Value) (hw : HW Z a0) (ws : List Jvm.Cond) (fe : Addr) (cl : Int32) (h0 : Heap) (n0 : Nat) (Z0 : n0 ≤ h0.size) (P0 : Fld Z h0 fe "com/example/formulary/formulary/host/FormulaException" "column" "I" (.int cl)) :
    MF l Z m_45 prog_36_method_8_code 1 (some .int) ws (oR 0 0 0 0) #[(.ref fe)] h0 (Q_colu Z fe cl h0 n0) := by
  refine own_body (cls := "com/example/formulary/formulary/host/FormulaException") (plainFor_of_name pn_12) rfl (fun p e s m below meth c s₁ hx hby hml hown hnm hret hZ X0 e0 => ?_)
  have N0 := Fr.nil n0
  have lt1 := own_l P0.lt
  obtain ⟨T2, X2, e2, st2⟩ := getF X0 hx hZ hown (host := "") (Or.inl (w_77 hw)) Via.refl e0 P0 (g := (mkF m 1 #[vA fe] [(.ref fe)])) rfl rfl (hb hby d560)
  refine ⟨_, _, _, _, some (.int cl), X2, by decide, by decide, nofun, ?_, fun fs hr => castTop (ef_2 m fe) ?_⟩
  · show Q_colu Z fe cl h0 n0 _ T2.heap _
    rw [(e2 : T2.heap = h0)]
    exact ⟨rfl, N0, rfl⟩
  · show Steps _ _ _ (s₁.setTop (mkF m 0 #[vA fe] [])) _
    refine XS.aloadN X0.here hx rfl (hb hby d559) rfl rfl ?_
    show Steps _ _ _ (s₁.setTop (mkF m 1 #[vA fe] [(.ref fe)])) _
    refine st2 _ ?_
    show Steps _ _ _ (T2.setTop (mkF m 4 #[vA fe] [(.int cl)])) _
    exact retI X2 hx hret (hb hby d561) hr
theorem d562 : decode method_2_code 0 = .ok (.iload_n 0, 1) := by decide +kernel
theorem w_4 {Z : State} {a0 : Array Value} (hw : HW Z a0) : (Jvm.Cond.constant "com/example/formulary/formulary/host/FormulaExceptionHasPlacePinLaw" (7 : Nat) (2147483647 : Int32)).before a0 Z = true := hw _ (List.mem_of_getElem? (i := 4) rfl)
theorem d563 : decode method_2_code 1 = .ok (.ldc 7, 2) := by decide +kernel
theorem d564 : decode method_2_code 3 = .ok (.iand, 1) := by decide +kernel
theorem d565 : decode method_2_code 4 = .ok (.iconst 3, 1) := by decide +kernel
theorem d566 : decode method_2_code 5 = .ok (.irem, 1) := by decide +kernel
theorem d567 : decode method_2_code 6 = .ok (.istore_n 1, 1) := by decide +kernel
theorem d568 : decode method_2_code 7 = .ok (.iload_n 1, 1) := by decide +kernel
theorem d569 : decode method_2_code 8 = .ok (.ifCond .ne 7, 3) := by decide +kernel
theorem w_94 {Z : State} {a0 : Array Value} (hw : HW Z a0) : (Jvm.Cond.fieldLink "com/example/formulary/formulary/host/FormulaExceptionHasPlacePinLaw" (8 : Nat) "com/example/formulary/formulary/host/FormulaException$Kind" "SYNTAX" "Lcom/example/formulary/formulary/host/FormulaException$Kind;").before a0 Z = true := hw _ (List.mem_of_getElem? (i := 94) rfl)
theorem d570 : decode method_2_code 11 = .ok (.getstatic 8, 3) := by decide +kernel
theorem d571 : decode method_2_code 14 = .ok (.areturn, 1) := by decide +kernel
theorem pn_13 : plainName "com/example/formulary/formulary/host/FormulaExceptionHasPlacePinLaw" = true := by first | (simp [plainName, overriddenIn]; done) | decide +kernel
theorem ef_22 (m : MethodId) (x0 : Int32) : entryFrame m #[(.int x0)] 2 = mkF m 0 #[vI x0, .unset] [] := by first | (simp [entryFrame, mkF, argsToLocals, Value.category, maxLocals]; done) | rfl
abbrev m_46 : MethodName := (⟨"com/example/formulary/formulary/host/FormulaExceptionHasPlacePinLaw", "kindOf", "(I)Lcom/example/formulary/formulary/host/FormulaException$Kind;"⟩ : MethodName)
def Q_kof (Z : State) (w0 : Int32) (k0 : Addr) (k1 : Addr) (k2 : Addr) (h0 : Heap) (n0 : Nat) (v : Option Value) (h : Heap) (L : List Loc) : Prop := ∃ (kd : Addr), (v = some (.ref kd)) ∧ (Fr n0 L) ∧ (h = h0)
theorem rm_kof_0 (l : Launch) (Z : State) (a0 : Array Value) (hw : HW Z a0) (ws : List Jvm.Cond) (w0 : Int32) (k0 : Addr) (k1 : Addr) (k2 : Addr) (h0 : Heap) (n0 : Nat) (Z0 : n0 ≤ h0.size) (P0 : Old Z n0 h0) (P1 : Sta Z Z.heap "com/example/formulary/formulary/host/FormulaException$Kind" "SYNTAX" "Lcom/example/formulary/formulary/host/FormulaException$Kind;" (.ref k0)) (P2 : Sta Z Z.heap "com/example/formulary/formulary/host/FormulaException$Kind" "RUNNING" "Lcom/example/formulary/formulary/host/FormulaException$Kind;" (.ref k1)) (P3 : Sta Z Z.heap "com/example/formulary/formulary/host/FormulaException$Kind" "LIMIT" "Lcom/example/formulary/formulary/host/FormulaException$Kind;" (.ref k2)) (hc8 : ((w0 &&& (2147483647 : Int32)) % (3 : Int32)) = (0 : Int32)) :
    MF l Z m_46 method_2_code 2 (some (.object "com/example/formulary/formulary/host/FormulaException$Kind")) ws (oR 0 0 0 0) #[(.int w0)] h0 (Q_kof Z w0 k0 k1 k2 h0 n0) := by
  refine own_body (cls := "com/example/formulary/formulary/host/FormulaExceptionHasPlacePinLaw") (plainFor_of_name pn_13) rfl (fun p e s m below meth c s₁ hx hby hml hown hnm hret hZ X0 e0 => ?_)
  have N0 := Fr.nil n0
  obtain ⟨T2, X2, e2, st2⟩ := getS2 X0 hx hZ hown (host := "") (Or.inl (w_94 hw)) Via.refl e0 (P1.ext P0.2) (g := (mkF m 11 #[vI w0, .val (.int ((w0 &&& (2147483647 : Int32)) % (3 : Int32)))] [])) rfl (hb hby d570)
  refine ⟨_, _, _, _, some (.ref k0), X2, by decide, by decide, nofun, ?_, fun fs hr => castTop (ef_22 m w0) ?_⟩
  · show Q_kof Z w0 k0 k1 k2 h0 n0 _ T2.heap _
    rw [(e2 : T2.heap = h0)]
    exact ⟨k0, rfl, N0, rfl⟩
  · show Steps _ _ _ (s₁.setTop (mkF m 0 #[vI w0, .unset] [])) _
    refine XS.iloadN X0.here hx rfl (hb hby d562) rfl ?_
    show Steps _ _ _ (s₁.setTop (mkF m 1 #[vI w0, .unset] [(.int w0)])) _
    refine X0.ldcInt hx hown (mvT hZ (w_4 hw)) (g := (mkF m 1 #[vI w0, .unset] [(.int w0)])) rfl (hb hby d563) _ ?_
    show Steps _ _ _ (s₁.setTop (mkF m 3 #[vI w0, .unset] [(.int 2147483647), (.int w0)])) _
    refine XS.iand X0.here hx rfl (hb hby d564) rfl ?_
    show Steps _ _ _ (s₁.setTop (mkF m 4 #[vI w0, .unset] [(.int (w0 &&& (2147483647 : Int32)))])) _
    refine XS.iconst X0.here hx rfl (hb hby d565) ?_
    show Steps _ _ _ (s₁.setTop (mkF m 5 #[vI w0, .unset] [(.int 3), (.int (w0 &&& (2147483647 : Int32)))])) _
    refine iremM (g := (mkF m 5 #[vI w0, .unset] [(.int 3), (.int (w0 &&& (2147483647 : Int32)))])) X0 hx rfl (hb hby d566) rfl (by decide) ?_
    show Steps _ _ _ (s₁.setTop (mkF m 6 #[vI w0, .unset] [(.int ((w0 &&& (2147483647 : Int32)) % (3 : Int32)))])) _
    refine XS.istoreN X0.here hx rfl (hb hby d567) rfl (l' := #[vI w0, .val (.int ((w0 &&& (2147483647 : Int32)) % (3 : Int32)))]) rfl ?_
    show Steps _ _ _ (s₁.setTop (mkF m 7 #[vI w0, .val (.int ((w0 &&& (2147483647 : Int32)) % (3 : Int32)))] [])) _
    refine XS.iloadN X0.here hx rfl (hb hby d568) rfl ?_
    show Steps _ _ _ (s₁.setTop (mkF m 8 #[vI w0, .val (.int ((w0 &&& (2147483647 : Int32)) % (3 : Int32)))] [(.int ((w0 &&& (2147483647 : Int32)) % (3 : Int32)))])) _
    refine XS.ifNo X0.here hx rfl (hb hby d569) rfl ((if0 _ _).trans (teq (hc8 : ((w0 &&& (2147483647 : Int32)) % (3 : Int32)) = (0 : Int32))).2) ?_
    show Steps _ _ _ (s₁.setTop (mkF m 11 #[vI w0, .val (.int ((w0 &&& (2147483647 : Int32)) % (3 : Int32)))] [])) _
    refine st2 _ ?_
    show Steps _ _ _ (T2.setTop (mkF m 14 #[vI w0, .val (.int ((w0 &&& (2147483647 : Int32)) % (3 : Int32)))] [(.ref k0)])) _
    exact retOut X2 hx hret (own_narrow_ref rfl) (Or.inr (Or.inr (Or.inr (Or.inr ⟨rfl, rfl, rfl⟩)))) (hb hby d571) hr
theorem d572 : decode method_2_code 15 = .ok (.iload_n 1, 1) := by decide +kernel
theorem d573 : decode method_2_code 16 = .ok (.iconst 1, 1) := by decide +kernel
theorem d574 : decode method_2_code 17 = .ok (.if_icmp .ne 7, 3) := by decide +kernel
theorem w_5 {Z : State} {a0 : Array Value} (hw : HW Z a0) : (Jvm.Cond.fieldLink "com/example/formulary/formulary/host/FormulaExceptionHasPlacePinLaw" (14 : Nat) "com/example/formulary/formulary/host/FormulaException$Kind" "RUNNING" "Lcom/example/formulary/formulary/host/FormulaException$Kind;").before a0 Z = true := hw _ (List.mem_of_getElem? (i := 5) rfl)
theorem d575 : decode method_2_code 20 = .ok (.getstatic 14, 3) := by decide +kernel
theorem d576 : decode method_2_code 23 = .ok (.areturn, 1) := by decide +kernel
theorem rm_kof_1 (l : Launch) (Z : State) (a0 : Array Value) (hw : HW Z a0) (ws : List Jvm.Cond) (w0 : Int32) (k0 : Addr) (k1 : Addr) (k2 : Addr) (h0 : Heap) (n0 : Nat) (Z0 : n0 ≤ h0.size) (P0 : Old Z n0 h0) (P1 : Sta Z Z.heap "com/example/formulary/formulary/host/FormulaException$Kind" "SYNTAX" "Lcom/example/formulary/formulary/host/FormulaException$Kind;" (.ref k0)) (P2 : Sta Z Z.heap "com/example/formulary/formulary/host/FormulaException$Kind" "RUNNING" "Lcom/example/formulary/formulary/host/FormulaException$Kind;" (.ref k1)) (P3 : Sta Z Z.heap "com/example/formulary/formulary/host/FormulaException$Kind" "LIMIT" "Lcom/example/formulary/formulary/host/FormulaException$Kind;" (.ref k2)) (hc8 : ¬ (((w0 &&& (2147483647 : Int32)) % (3 : Int32)) = (0 : Int32))) (hc17 : ((w0 &&& (2147483647 : Int32)) % (3 : Int32)) = (1 : Int32)) :
    MF l Z m_46 method_2_code 2 (some (.object "com/example/formulary/formulary/host/FormulaException$Kind")) ws (oR 0 0 0 0) #[(.int w0)] h0 (Q_kof Z w0 k0 k1 k2 h0 n0) := by
  refine own_body (cls := "com/example/formulary/formulary/host/FormulaExceptionHasPlacePinLaw") (plainFor_of_name pn_13) rfl (fun p e s m below meth c s₁ hx hby hml hown hnm hret hZ X0 e0 => ?_)
  have N0 := Fr.nil n0
  obtain ⟨T2, X2, e2, st2⟩ := getS2 X0 hx hZ hown (host := "") (Or.inl (w_5 hw)) Via.refl e0 (P2.ext P0.2) (g := (mkF m 20 #[vI w0, .val (.int ((w0 &&& (2147483647 : Int32)) % (3 : Int32)))] [])) rfl (hb hby d575)
  refine ⟨_, _, _, _, some (.ref k1), X2, by decide, by decide, nofun, ?_, fun fs hr => castTop (ef_22 m w0) ?_⟩
  · show Q_kof Z w0 k0 k1 k2 h0 n0 _ T2.heap _
    rw [(e2 : T2.heap = h0)]
    exact ⟨k1, rfl, N0, rfl⟩
  · show Steps _ _ _ (s₁.setTop (mkF m 0 #[vI w0, .unset] [])) _
    refine XS.iloadN X0.here hx rfl (hb hby d562) rfl ?_
    show Steps _ _ _ (s₁.setTop (mkF m 1 #[vI w0, .unset] [(.int w0)])) _
    refine X0.ldcInt hx hown (mvT hZ (w_4 hw)) (g := (mkF m 1 #[vI w0, .unset] [(.int w0)])) rfl (hb hby d563) _ ?_
    show Steps _ _ _ (s₁.setTop (mkF m 3 #[vI w0, .unset] [(.int 2147483647), (.int w0)])) _
    refine XS.iand X0.here hx rfl (hb hby d564) rfl ?_
    show Steps _ _ _ (s₁.setTop (mkF m 4 #[vI w0, .unset] [(.int (w0 &&& (2147483647 : Int32)))])) _
    refine XS.iconst X0.here hx rfl (hb hby d565) ?_
    show Steps _ _ _ (s₁.setTop (mkF m 5 #[vI w0, .unset] [(.int 3), (.int (w0 &&& (2147483647 : Int32)))])) _
    refine iremM (g := (mkF m 5 #[vI w0, .unset] [(.int 3), (.int (w0 &&& (2147483647 : Int32)))])) X0 hx rfl (hb hby d566) rfl (by decide) ?_
    show Steps _ _ _ (s₁.setTop (mkF m 6 #[vI w0, .unset] [(.int ((w0 &&& (2147483647 : Int32)) % (3 : Int32)))])) _
    refine XS.istoreN X0.here hx rfl (hb hby d567) rfl (l' := #[vI w0, .val (.int ((w0 &&& (2147483647 : Int32)) % (3 : Int32)))]) rfl ?_
    show Steps _ _ _ (s₁.setTop (mkF m 7 #[vI w0, .val (.int ((w0 &&& (2147483647 : Int32)) % (3 : Int32)))] [])) _
    refine XS.iloadN X0.here hx rfl (hb hby d568) rfl ?_
    show Steps _ _ _ (s₁.setTop (mkF m 8 #[vI w0, .val (.int ((w0 &&& (2147483647 : Int32)) % (3 : Int32)))] [(.int ((w0 &&& (2147483647 : Int32)) % (3 : Int32)))])) _
    refine XS.ifYes X0.here hx rfl (pc0 := 8) (pc' := 15) rfl (hb hby d569) rfl ((if0 _ _).trans (feq (hc8 : ¬ (((w0 &&& (2147483647 : Int32)) % (3 : Int32)) = (0 : Int32)))).2) (by decide) (by decide) ?_
    show Steps _ _ _ (s₁.setTop (mkF m 15 #[vI w0, .val (.int ((w0 &&& (2147483647 : Int32)) % (3 : Int32)))] [])) _
    refine XS.iloadN X0.here hx rfl (hb hby d572) rfl ?_
    show Steps _ _ _ (s₁.setTop (mkF m 16 #[vI w0, .val (.int ((w0 &&& (2147483647 : Int32)) % (3 : Int32)))] [(.int ((w0 &&& (2147483647 : Int32)) % (3 : Int32)))])) _
    refine XS.iconst X0.here hx rfl (hb hby d573) ?_
    show Steps _ _ _ (s₁.setTop (mkF m 17 #[vI w0, .val (.int ((w0 &&& (2147483647 : Int32)) % (3 : Int32)))] [(.int 1), (.int ((w0 &&& (2147483647 : Int32)) % (3 : Int32)))])) _
    refine XS.icmpNo X0.here hx rfl (hb hby d574) rfl (teq (hc17 : ((w0 &&& (2147483647 : Int32)) % (3 : Int32)) = (1 : Int32))).2 ?_
    show Steps _ _ _ (s₁.setTop (mkF m 20 #[vI w0, .val (.int ((w0 &&& (2147483647 : Int32)) % (3 : Int32)))] [])) _
    refine st2 _ ?_
    show Steps _ _ _ (T2.setTop (mkF m 23 #[vI w0, .val (.int ((w0 &&& (2147483647 : Int32)) % (3 : Int32)))] [(.ref k1)])) _
    exact retOut X2 hx hret (own_narrow_ref rfl) (Or.inr (Or.inr (Or.inr (Or.inr ⟨rfl, rfl, rfl⟩)))) (hb hby d576) hr
theorem w_249 {Z : State} {a0 : Array Value} (hw : HW Z a0) : (Jvm.Cond.fieldLink "com/example/formulary/formulary/host/FormulaExceptionHasPlacePinLaw" (17 : Nat) "com/example/formulary/formulary/host/FormulaException$Kind" "LIMIT" "Lcom/example/formulary/formulary/host/FormulaException$Kind;").before a0 Z = true := hw _ (List.mem_of_getElem? (i := 249) rfl)
theorem d577 : decode method_2_code 24 = .ok (.getstatic 17, 3) := by decide +kernel
theorem d578 : decode method_2_code 27 = .ok (.areturn, 1) := by decide +kernel
theorem rm_kof_2 (l : Launch) (Z : State) (a0 : Array Value) (hw : HW Z a0) (ws : List Jvm.Cond) (w0 : Int32) (k0 : Addr) (k1 : Addr) (k2 : Addr) (h0 : Heap) (n0 : Nat) (Z0 : n0 ≤ h0.size) (P0 : Old Z n0 h0) (P1 : Sta Z Z.heap "com/example/formulary/formulary/host/FormulaException$Kind" "SYNTAX" "Lcom/example/formulary/formulary/host/FormulaException$Kind;" (.ref k0)) (P2 : Sta Z Z.heap "com/example/formulary/formulary/host/FormulaException$Kind" "RUNNING" "Lcom/example/formulary/formulary/host/FormulaException$Kind;" (.ref k1)) (P3 : Sta Z Z.heap "com/example/formulary/formulary/host/FormulaException$Kind" "LIMIT" "Lcom/example/formulary/formulary/host/FormulaException$Kind;" (.ref k2)) (hc8 : ¬ (((w0 &&& (2147483647 : Int32)) % (3 : Int32)) = (0 : Int32))) (hc17 : ¬ (((w0 &&& (2147483647 : Int32)) % (3 : Int32)) = (1 : Int32))) :
    MF l Z m_46 method_2_code 2 (some (.object "com/example/formulary/formulary/host/FormulaException$Kind")) ws (oR 0 0 0 0) #[(.int w0)] h0 (Q_kof Z w0 k0 k1 k2 h0 n0) := by
  refine own_body (cls := "com/example/formulary/formulary/host/FormulaExceptionHasPlacePinLaw") (plainFor_of_name pn_13) rfl (fun p e s m below meth c s₁ hx hby hml hown hnm hret hZ X0 e0 => ?_)
  have N0 := Fr.nil n0
  obtain ⟨T2, X2, e2, st2⟩ := getS2 X0 hx hZ hown (host := "") (Or.inl (w_249 hw)) Via.refl e0 (P3.ext P0.2) (g := (mkF m 24 #[vI w0, .val (.int ((w0 &&& (2147483647 : Int32)) % (3 : Int32)))] [])) rfl (hb hby d577)
  refine ⟨_, _, _, _, some (.ref k2), X2, by decide, by decide, nofun, ?_, fun fs hr => castTop (ef_22 m w0) ?_⟩
  · show Q_kof Z w0 k0 k1 k2 h0 n0 _ T2.heap _
    rw [(e2 : T2.heap = h0)]
    exact ⟨k2, rfl, N0, rfl⟩
  · show Steps _ _ _ (s₁.setTop (mkF m 0 #[vI w0, .unset] [])) _
    refine XS.iloadN X0.here hx rfl (hb hby d562) rfl ?_
    show Steps _ _ _ (s₁.setTop (mkF m 1 #[vI w0, .unset] [(.int w0)])) _
    refine X0.ldcInt hx hown (mvT hZ (w_4 hw)) (g := (mkF m 1 #[vI w0, .unset] [(.int w0)])) rfl (hb hby d563) _ ?_
    show Steps _ _ _ (s₁.setTop (mkF m 3 #[vI w0, .unset] [(.int 2147483647), (.int w0)])) _
    refine XS.iand X0.here hx rfl (hb hby d564) rfl ?_
    show Steps _ _ _ (s₁.setTop (mkF m 4 #[vI w0, .unset] [(.int (w0 &&& (2147483647 : Int32)))])) _
    refine XS.iconst X0.here hx rfl (hb hby d565) ?_
    show Steps _ _ _ (s₁.setTop (mkF m 5 #[vI w0, .unset] [(.int 3), (.int (w0 &&& (2147483647 : Int32)))])) _
    refine iremM (g := (mkF m 5 #[vI w0, .unset] [(.int 3), (.int (w0 &&& (2147483647 : Int32)))])) X0 hx rfl (hb hby d566) rfl (by decide) ?_
    show Steps _ _ _ (s₁.setTop (mkF m 6 #[vI w0, .unset] [(.int ((w0 &&& (2147483647 : Int32)) % (3 : Int32)))])) _
    refine XS.istoreN X0.here hx rfl (hb hby d567) rfl (l' := #[vI w0, .val (.int ((w0 &&& (2147483647 : Int32)) % (3 : Int32)))]) rfl ?_
    show Steps _ _ _ (s₁.setTop (mkF m 7 #[vI w0, .val (.int ((w0 &&& (2147483647 : Int32)) % (3 : Int32)))] [])) _
    refine XS.iloadN X0.here hx rfl (hb hby d568) rfl ?_
    show Steps _ _ _ (s₁.setTop (mkF m 8 #[vI w0, .val (.int ((w0 &&& (2147483647 : Int32)) % (3 : Int32)))] [(.int ((w0 &&& (2147483647 : Int32)) % (3 : Int32)))])) _
    refine XS.ifYes X0.here hx rfl (pc0 := 8) (pc' := 15) rfl (hb hby d569) rfl ((if0 _ _).trans (feq (hc8 : ¬ (((w0 &&& (2147483647 : Int32)) % (3 : Int32)) = (0 : Int32)))).2) (by decide) (by decide) ?_
    show Steps _ _ _ (s₁.setTop (mkF m 15 #[vI w0, .val (.int ((w0 &&& (2147483647 : Int32)) % (3 : Int32)))] [])) _
    refine XS.iloadN X0.here hx rfl (hb hby d572) rfl ?_
    show Steps _ _ _ (s₁.setTop (mkF m 16 #[vI w0, .val (.int ((w0 &&& (2147483647 : Int32)) % (3 : Int32)))] [(.int ((w0 &&& (2147483647 : Int32)) % (3 : Int32)))])) _
    refine XS.iconst X0.here hx rfl (hb hby d573) ?_
    show Steps _ _ _ (s₁.setTop (mkF m 17 #[vI w0, .val (.int ((w0 &&& (2147483647 : Int32)) % (3 : Int32)))] [(.int 1), (.int ((w0 &&& (2147483647 : Int32)) % (3 : Int32)))])) _
    refine XS.icmpYes X0.here hx rfl (pc0 := 17) (pc' := 24) rfl (hb hby d574) rfl (feq (hc17 : ¬ (((w0 &&& (2147483647 : Int32)) % (3 : Int32)) = (1 : Int32)))).2 (by decide) (by decide) ?_
    show Steps _ _ _ (s₁.setTop (mkF m 24 #[vI w0, .val (.int ((w0 &&& (2147483647 : Int32)) % (3 : Int32)))] [])) _
    refine st2 _ ?_
    show Steps _ _ _ (T2.setTop (mkF m 27 #[vI w0, .val (.int ((w0 &&& (2147483647 : Int32)) % (3 : Int32)))] [(.ref k2)])) _
    exact retOut X2 hx hret (own_narrow_ref rfl) (Or.inr (Or.inr (Or.inr (Or.inr ⟨rfl, rfl, rfl⟩)))) (hb hby d578) hr
theorem rm_kof (l : Launch) (Z : State) (a0 : Array Value) (hw : HW Z a0) (ws : List Jvm.Cond) (w0 : Int32) (k0 : Addr) (k1 : Addr) (k2 : Addr) (h0 : Heap) (n0 : Nat) (Z0 : n0 ≤ h0.size) (P0 : Old Z n0 h0) (P1 : Sta Z Z.heap "com/example/formulary/formulary/host/FormulaException$Kind" "SYNTAX" "Lcom/example/formulary/formulary/host/FormulaException$Kind;" (.ref k0)) (P2 : Sta Z Z.heap "com/example/formulary/formulary/host/FormulaException$Kind" "RUNNING" "Lcom/example/formulary/formulary/host/FormulaException$Kind;" (.ref k1)) (P3 : Sta Z Z.heap "com/example/formulary/formulary/host/FormulaException$Kind" "LIMIT" "Lcom/example/formulary/formulary/host/FormulaException$Kind;" (.ref k2)) :
    MF l Z m_46 method_2_code 2 (some (.object "com/example/formulary/formulary/host/FormulaException$Kind")) ws (oR 0 0 0 0) #[(.int w0)] h0 (Q_kof Z w0 k0 k1 k2 h0 n0) := by
  by_cases z0 : ((w0 &&& (2147483647 : Int32)) % (3 : Int32)) = (0 : Int32)
  · exact rm_kof_0 l Z a0 hw ws w0 k0 k1 k2 h0 n0 Z0 P0 P1 P2 P3 z0
  by_cases z1 : ((w0 &&& (2147483647 : Int32)) % (3 : Int32)) = (1 : Int32)
  · exact rm_kof_1 l Z a0 hw ws w0 k0 k1 k2 h0 n0 Z0 P0 P1 P2 P3 z0 z1
  exact rm_kof_2 l Z a0 hw ws w0 k0 k1 k2 h0 n0 Z0 P0 P1 P2 P3 z0 z1
theorem own_ch (y : Int32) : ¬ ((255 : Int32) < (y &&& (255 : Int32)).toUInt32.toUInt16.toUInt32.toInt32) := by
  rw [i2c_mask]
  have q := (c_and y 255 (by decide)).2
  rw [Int32.lt_iff_toInt_lt]
  omega
theorem own_ms (y : Int32) : 0 ≤ (y &&& (2147483647 : Int32)).toInt := (c_and y 2147483647 (by decide)).1
theorem own_m0 (y : Int32) : ¬ ((y &&& (2147483647 : Int32)) < (0 : Int32)) := own_nn (own_ms y)
theorem own_mp {y : Int32} (h : ¬ ((y &&& (2147483647 : Int32)) = (0 : Int32))) : (0 : Int32) < (y &&& (2147483647 : Int32)) := by
  have q := own_ms y
  rw [own_lt, own_k0]
  have : (y &&& (2147483647 : Int32)).toInt ≠ 0 := fun e => h (Int32.toInt_inj.mp (by rw [e, own_k0]))
  omega
theorem own_m1 {y : Int32} (h : ¬ ((y &&& (2147483647 : Int32)) = (0 : Int32))) : ¬ ((y &&& (2147483647 : Int32)) < (1 : Int32)) := by
  have q := own_mp h
  rw [own_lt, own_k0] at q
  have e : (1 : Int32).toInt = 1 := by decide
  rw [own_lt, e]
  omega
theorem w_0 {Z : State} {a0 : Array Value} (hw : HW Z a0) : (Jvm.Cond.methodLink "com/example/formulary/formulary/host/FormulaExceptionHasPlacePinLaw" (20 : Nat) m_46).before a0 Z = true := hw _ (List.mem_of_getElem? (i := 0) rfl)
theorem w_3 {Z : State} {a0 : Array Value} (hw : HW Z a0) : (Jvm.Cond.code m_46 method_2_code (2 : Nat) (Option.some (FieldType.object "com/example/formulary/formulary/host/FormulaException$Kind"))).before a0 Z = true := hw _ (List.mem_of_getElem? (i := 3) rfl)
theorem w_2 {Z : State} {a0 : Array Value} (hw : HW Z a0) : (Jvm.Cond.initialized "com/example/formulary/formulary/host/FormulaExceptionHasPlacePinLaw").before a0 Z = true := hw _ (List.mem_of_getElem? (i := 2) rfl)
theorem pd_28 : parseMethodDescriptor "(I)Lcom/example/formulary/formulary/host/FormulaException$Kind;" = some ⟨[.int], some (.object "com/example/formulary/formulary/host/FormulaException$Kind")⟩ := by decide +kernel
theorem w_1 {Z : State} {a0 : Array Value} (hw : HW Z a0) : (Jvm.Cond.static m_46).before a0 Z = true := hw _ (List.mem_of_getElem? (i := 1) rfl)
theorem w_8 {Z : State} {a0 : Array Value} (hw : HW Z a0) : (Jvm.Cond.methodLink "com/example/formulary/formulary/host/FormulaExceptionHasPlacePinLaw" (26 : Nat) m_4).before a0 Z = true := hw _ (List.mem_of_getElem? (i := 8) rfl)
theorem w_11 {Z : State} {a0 : Array Value} (hw : HW Z a0) : (Jvm.Cond.code m_4 jdk_42_method_139_code (1 : Nat) (Option.some (FieldType.object "java/lang/String"))).before a0 Z = true := hw _ (List.mem_of_getElem? (i := 11) rfl)
theorem pd_29 : parseMethodDescriptor "(C)Ljava/lang/String;" = some ⟨[.char], some (.object "java/lang/String")⟩ := by decide +kernel
theorem w_9 {Z : State} {a0 : Array Value} (hw : HW Z a0) : (Jvm.Cond.static m_4).before a0 Z = true := hw _ (List.mem_of_getElem? (i := 9) rfl)
theorem w_34 {Z : State} {a0 : Array Value} (hw : HW Z a0) : (Jvm.Cond.classLink "com/example/formulary/formulary/host/FormulaExceptionHasPlacePinLaw" (32 : Nat) "com/example/formulary/formulary/host/FormulaException").before a0 Z = true := hw _ (List.mem_of_getElem? (i := 34) rfl)
theorem w_37 {Z : State} {a0 : Array Value} (hw : HW Z a0) : (Jvm.Cond.methodLink "com/example/formulary/formulary/host/FormulaExceptionHasPlacePinLaw" (48 : Nat) m_41).before a0 Z = true := hw _ (List.mem_of_getElem? (i := 37) rfl)
theorem w_39 {Z : State} {a0 : Array Value} (hw : HW Z a0) : (Jvm.Cond.code m_41 prog_36_method_2_code (3 : Nat) (Option.none : Option Jvm.ClassFile.FieldType)).before a0 Z = true := hw _ (List.mem_of_getElem? (i := 39) rfl)
theorem pd_30 : parseMethodDescriptor "(Lcom/example/formulary/formulary/host/FormulaException$Kind;Ljava/lang/String;)V" = some ⟨[(.object "com/example/formulary/formulary/host/FormulaException$Kind"), (.object "java/lang/String")], none⟩ := by decide +kernel
theorem w_38 {Z : State} {a0 : Array Value} (hw : HW Z a0) : (Jvm.Cond.instanceMethod m_41).before a0 Z = true := hw _ (List.mem_of_getElem? (i := 38) rfl)
theorem w_79 {Z : State} {a0 : Array Value} (hw : HW Z a0) : (Jvm.Cond.methodLink "com/example/formulary/formulary/host/FormulaExceptionHasPlacePinLaw" (37 : Nat) m_43).before a0 Z = true := hw _ (List.mem_of_getElem? (i := 79) rfl)
theorem w_83 {Z : State} {a0 : Array Value} (hw : HW Z a0) : (Jvm.Cond.code m_43 prog_36_method_6_code (1 : Nat) (Option.some FieldType.boolean)).before a0 Z = true := hw _ (List.mem_of_getElem? (i := 83) rfl)
theorem w_82 {Z : State} {a0 : Array Value} (hw : HW Z a0) : (Jvm.Cond.selects "com/example/formulary/formulary/host/FormulaException" m_43 m_43).before a0 Z = true := hw _ (List.mem_of_getElem? (i := 82) rfl)
theorem w_80 {Z : State} {a0 : Array Value} (hw : HW Z a0) : (Jvm.Cond.declares m_43).before a0 Z = true := hw _ (List.mem_of_getElem? (i := 80) rfl)
theorem w_81 {Z : State} {a0 : Array Value} (hw : HW Z a0) : (Jvm.Cond.instanceMethod m_43).before a0 Z = true := hw _ (List.mem_of_getElem? (i := 81) rfl)
theorem w_84 {Z : State} {a0 : Array Value} (hw : HW Z a0) : (Jvm.Cond.methodLink "com/example/formulary/formulary/host/FormulaExceptionHasPlacePinLaw" (41 : Nat) m_44).before a0 Z = true := hw _ (List.mem_of_getElem? (i := 84) rfl)
theorem w_88 {Z : State} {a0 : Array Value} (hw : HW Z a0) : (Jvm.Cond.code m_44 prog_36_method_7_code (1 : Nat) (Option.some FieldType.int)).before a0 Z = true := hw _ (List.mem_of_getElem? (i := 88) rfl)
theorem w_87 {Z : State} {a0 : Array Value} (hw : HW Z a0) : (Jvm.Cond.selects "com/example/formulary/formulary/host/FormulaException" m_44 m_44).before a0 Z = true := hw _ (List.mem_of_getElem? (i := 87) rfl)
theorem w_85 {Z : State} {a0 : Array Value} (hw : HW Z a0) : (Jvm.Cond.declares m_44).before a0 Z = true := hw _ (List.mem_of_getElem? (i := 85) rfl)
theorem w_86 {Z : State} {a0 : Array Value} (hw : HW Z a0) : (Jvm.Cond.instanceMethod m_44).before a0 Z = true := hw _ (List.mem_of_getElem? (i := 86) rfl)
theorem w_89 {Z : State} {a0 : Array Value} (hw : HW Z a0) : (Jvm.Cond.methodLink "com/example/formulary/formulary/host/FormulaExceptionHasPlacePinLaw" (45 : Nat) m_45).before a0 Z = true := hw _ (List.mem_of_getElem? (i := 89) rfl)
theorem w_93 {Z : State} {a0 : Array Value} (hw : HW Z a0) : (Jvm.Cond.code m_45 prog_36_method_8_code (1 : Nat) (Option.some FieldType.int)).before a0 Z = true := hw _ (List.mem_of_getElem? (i := 93) rfl)
theorem w_92 {Z : State} {a0 : Array Value} (hw : HW Z a0) : (Jvm.Cond.selects "com/example/formulary/formulary/host/FormulaException" m_45 m_45).before a0 Z = true := hw _ (List.mem_of_getElem? (i := 92) rfl)
theorem w_90 {Z : State} {a0 : Array Value} (hw : HW Z a0) : (Jvm.Cond.declares m_45).before a0 Z = true := hw _ (List.mem_of_getElem? (i := 90) rfl)
theorem w_91 {Z : State} {a0 : Array Value} (hw : HW Z a0) : (Jvm.Cond.instanceMethod m_45).before a0 Z = true := hw _ (List.mem_of_getElem? (i := 91) rfl)
theorem ef_23 (m : MethodId) (x0 : Int32) (x1 : Int32) (x2 : Int32) (x3 : Int32) (x4 : Int32) : entryFrame m #[(.int x0), (.int x1), (.int x2), (.int x3), (.int x4)] maxLocals = mkF m 0 #[vI x0, vI x1, vI x2, vI x3, vI x4, .unset, .unset, .unset, .unset, .unset] [] := by first | (simp [entryFrame, mkF, argsToLocals, Value.category, maxLocals]; done) | rfl
def Q_law (Z : State) (p0 : Int32) (p1 : Int32) (p2 : Int32) (p3 : Int32) (p4 : Int32) (cp : Int32) (su : Value) (ss : Value) (od : Addr) (ko : ClassId) (vo : List Value) (ot : Addr) (kt2 : ClassId) (vt : List Value) (k0 : Addr) (k1 : Addr) (k2 : Addr) (h0 : Heap) (n0 : Nat) (v : Option Value) (h : Heap) (L : List Loc) : Prop := v = some (.int 1) ∧ Fr n0 L
theorem rm_law_0 (l : Launch) (Z : State) (a0 : Array Value) (hw : HW Z a0) (ws : List Jvm.Cond) (p0 : Int32) (p1 : Int32) (p2 : Int32) (p3 : Int32) (p4 : Int32) (cp : Int32) (su : Value) (ss : Value) (od : Addr) (ko : ClassId) (vo : List Value) (ot : Addr) (kt2 : ClassId) (vt : List Value) (k0 : Addr) (k1 : Addr) (k2 : Addr) (h0 : Heap) (n0 : Nat) (Z0 : n0 ≤ h0.size) (P0 : Old Z n0 h0) (P1 : sta0 Z (.int cp)) (P2 : Sta Z Z.heap "java/lang/Throwable" "UNASSIGNED_STACK" "[Ljava/lang/StackTraceElement;" su) (P3 : Sta Z Z.heap "java/lang/Throwable" "SUPPRESSED_SENTINEL" "Ljava/util/List;" ss) (P4 : Sta Z Z.heap "java/lang/Integer" "DigitOnes" "[B" (.ref od)) (P5 : Sta Z Z.heap "java/lang/Integer" "DigitTens" "[B" (.ref ot)) (P6 : Sta Z Z.heap "com/example/formulary/formulary/host/FormulaException$Kind" "SYNTAX" "Lcom/example/formulary/formulary/host/FormulaException$Kind;" (.ref k0)) (P7 : Sta Z Z.heap "com/example/formulary/formulary/host/FormulaException$Kind" "RUNNING" "Lcom/example/formulary/formulary/host/FormulaException$Kind;" (.ref k1)) (P8 : Sta Z Z.heap "com/example/formulary/formulary/host/FormulaException$Kind" "LIMIT" "Lcom/example/formulary/formulary/host/FormulaException$Kind;" (.ref k2)) (hsu : su.isRef = true) (hss : ss.isRef = true) (hcs : ¬ (cp = (0 : Int32))) (BO : Arv Z Z.heap od ko .byte (100 : Int32) vo (.int 0)) (BT : Arv Z Z.heap ot kt2 .byte (100 : Int32) vt (.int 0)) (hc21 : (p0 &&& (1 : Int32)) = (0 : Int32)) :
    MetFree l x (head1 (Jvm.Cond.code x code maxLocals ret :: ws) room_1) (fun as' U => as' = #[(.int p0), (.int p1), (.int p2), (.int p3), (.int p4)] ∧ Z.Warmed39 U.vm ∧ U.heap = h0 ∧ CHv Z own_EL U.vm h0) (fun _ _ _ _ _ => True) (fun _ U o U' => ∃ v L, o = .returned v ∧ Q_law Z p0 p1 p2 p3 p4 cp su ss od ko vo ot kt2 vt k0 k1 k2 h0 n0 v U'.heap L ∧ ReturnedEndW U o U' L room_1.cells room_1.slots) := by
  refine MetFree.of_bodySF (plainFor_of_name pn_13) hisR ?_
  intro p e s m args below meth c s₁ Bd hml0 hP hK
  obtain ⟨rfl, hZ, hh, hCH⟩ := hP
  have hx := Bd.exec
  have hby := Bd.bytes
  have hml : c.maxLocals = 10 := hml0
  have hown : (s.setVm s.vm).vm.findClass "com/example/formulary/formulary/host/FormulaExceptionHasPlacePinLaw" = some m.cls := findClass_of_methodNamed Bd.named
  have hnm := (name_of_methodNamed Bd.named Bd.method).1
  have X0 : Stand p l e room_1 (s.setVm s.vm) m #[(.int p0), (.int p1), (.int p2), (.int p3), (.int p4)] below meth c s₁ [] 0 0 := Stand.of_body Bd
  have e0 : s₁.heap = h0 := by rw [← hh, Bd.state]; rfl
  have N0 := Fr.nil n0
  have hZ : Z.Warmed39 (s.setVm s.vm).vm := hZ
  have hS0 : s.Since s.vm h0.size := (State.WarmedH.refl s).since _
  have hk0 : h0.size ≤ h0.size := Nat.le_refl _
  have C0 : CHr Z own_EL s.vm h0 s.vm h0 := CHr.refl hCH
  obtain ⟨_, _, ⟨T1, L1, k1, n1⟩, -, X1, ⟨Lc1, hQ1, l1, y1, z1⟩, st1⟩ := Jvm.LawKit.callS X0 hx (y := m_46) hown (mvT hZ (w_0 hw)) (mvT hZ (w_1 hw)) (mvT hZ (w_2 hw)) (mvT hZ (w_3 hw)) (by decide) (backOf (W := 0) (rm_kof l Z a0 hw [] p3 k0 k1 k2 h0 n0 (by omega) P0 P6 P7 P8) hZ (w_3 hw) (w_2 hw) (by decide) (by decide)) (g := (mkF m 1 #[vI p0, vI p1, vI p2, vI p3, vI p4, .unset, .unset, .unset, .unset, .unset] [(.int p3)])) rfl (by rw [hml]; rfl) (argsL := [(.int p3)]) (rest := []) (lenOf pd_28 rfl) rfl (Nat.le_of_eq rfl) (hb hby at_1) (fun _ _ => ⟨rfl, e0, (by decide : 0 + 0 ≤ _), (by decide : 0 + 0 ≤ _)⟩)
  dsimp only [Pt.U, Pt.locs, Pt.cells, Pt.slots] at X1 l1 y1 z1 st1 hQ1
  rw [l1, y1, z1] at X1
  obtain ⟨x1_kd, rfl, Nq1, Kq1⟩ := hQ1
  have N1 := Fr.app N0 Nq1
  obtain ⟨_, _, ⟨T2, L2, k2, n2⟩, -, X2, ⟨Lc2, hQ2, l2, y2, z2⟩, st2⟩ := Jvm.LawKit.callS X1 hx (y := m_4) hown (mvT hZ (w_8 hw)) (mvT hZ (w_9 hw)) (mvT hZ (w_10 hw)) (mvT hZ (w_11 hw)) (by decide) (backOf (W := 0) (rm_valueC l Z a0 hw [] (((p4 &&& (255 : Int32)).toUInt32.toUInt16.toUInt32.toInt32)) cp h0 n0 (by omega) P0 P1 hcs (own_ch p4)) hZ (w_11 hw) (w_10 hw) (by decide) (by decide)) (g := (mkF m 13 #[vI p0, vI p1, vI p2, vI p3, vI p4, vA x1_kd, .unset, .unset, .unset, .unset] [(.int ((p4 &&& (255 : Int32)).toUInt32.toUInt16.toUInt32.toInt32))])) rfl (by rw [hml]; rfl) (argsL := [(.int ((p4 &&& (255 : Int32)).toUInt32.toUInt16.toUInt32.toInt32))]) (rest := []) (lenOf pd_29 rfl) rfl (Nat.le_of_eq rfl) (hb hby at_13) (fun _ _ => ⟨rfl, Kq1, (by decide : 0 + 2 ≤ _), (by decide : 0 + 5 ≤ _)⟩)
  dsimp only [Pt.U, Pt.locs, Pt.cells, Pt.slots] at X2 l2 y2 z2 st2 hQ2
  rw [l2, y2, z2] at X2
  obtain ⟨x2_a_, x2_b, x2_k, rfl, Nq2, Kq2, r2_0, r2_1, r2_2, r2_3, r2_4, r2_5, r2_6⟩ := hQ2
  have N2 := Fr.app N1 Nq2
  have C2 := C0.trans (CHr.keep Kq2 sf0 C0.1)
  have z2' := Kq2.1
  have sf2_0 : Safe Z own_EL s.vm T2.heap x2_a_ := Safe.keep Kq2 sf0 C0.1 (Safe.new (by omega))
  have sf2_1 : Safe Z own_EL s.vm T2.heap x2_b := Safe.keep Kq2 sf0 C0.1 (Safe.new (by omega))
  have lt3 := own_l r2_2.lt
  have lt4 := own_l r2_3.lt
  have lt5 := own_l r2_4.lt
  have lt6 := own_l r2_5.lt
  obtain ⟨T7, h7, X7, e7, E7, A7, D7, -, st7⟩ := newO X2 hx hZ hown (w_34 hw) (w_35 hw) (w_36 hw) rfl (g := (mkF m 103 #[vI p0, vI p1, vI p2, vI p3, vI p4, vA x1_kd, vA x2_a_, .unset, .unset, .unset] [])) rfl (hb hby at_103) (by decide) (by decide)
  obtain ⟨b7, g7⟩ : ∃ z, z = T2.heap.size := ⟨_, rfl⟩
  rw [← g7] at A7 D7 st7
  have z7 := E7.1
  have C7 := C2.trans (CHr.ext E7 C2.1)
  have lt8 := own_l A7.lt
  have F7_62 : Fld Z h7 b7 "java/lang/Throwable" "cause" "Ljava/lang/Throwable;" .null := D7 (Or.inl (w_62 hw)) (ty := (.object "java/lang/Throwable")) (by decide)
  have F7_65 : Fld Z h7 b7 "java/lang/Throwable" "stackTrace" "[Ljava/lang/StackTraceElement;" .null := D7 (Or.inl (w_65 hw)) (ty := (.array (.object "java/lang/StackTraceElement"))) (by decide)
  have F7_68 : Fld Z h7 b7 "java/lang/Throwable" "suppressedExceptions" "Ljava/util/List;" .null := D7 (Or.inl (w_68 hw)) (ty := (.object "java/util/List")) (by decide)
  have F7_70 : Fld Z h7 b7 "java/lang/Throwable" "detailMessage" "Ljava/lang/String;" .null := D7 (Or.inl (w_70 hw)) (ty := (.object "java/lang/String")) (by decide)
  have F7_72 : Fld Z h7 b7 "com/example/formulary/formulary/host/FormulaException" "kind" "Lcom/example/formulary/formulary/host/FormulaException$Kind;" .null := D7 (Or.inr (w_72 hw)) (ty := (.object "com/example/formulary/formulary/host/FormulaException$Kind")) (by decide)
  have F7_74 : Fld Z h7 b7 "com/example/formulary/formulary/host/FormulaException" "description" "Ljava/lang/String;" .null := D7 (Or.inr (w_74 hw)) (ty := (.object "java/lang/String")) (by decide)
  have F7_76 : Fld Z h7 b7 "com/example/formulary/formulary/host/FormulaException" "line" "I" (.int 0) := D7 (Or.inr (w_76 hw)) (ty := .int) (by decide)
  have F7_78 : Fld Z h7 b7 "com/example/formulary/formulary/host/FormulaException" "column" "I" (.int 0) := D7 (Or.inr (w_78 hw)) (ty := .int) (by decide)
  have f10 := r2_6.ext E7
  obtain ⟨_, _, ⟨T9, L9, k9, n9⟩, -, X9, ⟨Lc9, hQ9, l9, y9, z9⟩, st9⟩ := X7.specialBack hx (y := m_41) rfl hown (mvT hZ (w_37 hw)) (mvT hZ (w_38 hw)) (mvT hZ (w_39 hw)) (by decide) (backOf (W := 1) (rm_fi2 l Z a0 hw [] b7 x1_kd x2_a_ su ss h7 n0 (by omega) f10 P2 P3 A7 F7_62 F7_65 F7_68 F7_70 F7_72 F7_74 F7_76 F7_78 (by omega) hsu hss) hZ (w_39 hw) (w_36 hw) (by decide) (by decide)) (g := (mkF m 111 #[vI p0, vI p1, vI p2, vI p3, vI p4, vA x1_kd, vA x2_a_, .unset, .unset, .unset] [(.ref x2_a_), (.ref x1_kd), (.ref b7), (.ref b7)])) rfl (by rw [hml]; rfl) (Steps.refl _) (a := b7) (argsL := [(.ref x1_kd), (.ref x2_a_)]) (rest := [(.ref b7)]) (lenOf pd_30 rfl) rfl (Nat.le_of_eq rfl) (hb hby at_111) (fun _ _ => ⟨rfl, e7, (by decide : 3 + 0 ≤ _), (by decide : 15 + 0 ≤ _)⟩)
  dsimp only [Pt.U, Pt.locs, Pt.cells, Pt.slots] at X9 l9 y9 z9 st9 hQ9
  rw [l9, y9, z9] at X9
  obtain ⟨rfl, Nq9, Kq9, r9_0, r9_1, r9_2⟩ := hQ9
  have N9 := Fr.app N2 Nq9
  have f11 := (Safe.ext E7 C2.1 sf2_0)
  have C9 := C7.trans (CHr.keep Kq9 (sfS (Safe.exa (Z := Z) (EL := own_EL) (vm := s.vm) hZ.alike A7 (by decide) (by decide)) sf0) C7.1)
  have z9' := Kq9.1
  have lt12 := own_l r9_0.lt
  have lt13 := own_l r9_1.lt
  have lt14 := own_l r9_2.lt
  obtain ⟨cq15, kq15, qa15, qb15, qc15⟩ := isOf hZ rfl r9_0
  obtain ⟨_, _, ⟨T15, L15, k15, n15⟩, -, X15, ⟨Lc15, hQ15, l15, y15, z15⟩, st15⟩ := X9.virtualBack hx (y := m_43) (z := m_43) hown (mvT hZ (w_79 hw)) (mvT hZ (w_80 hw)) (notFace_of_selects (args := #[]) (mvT hZ (w_82 hw))) (mvT hZ (w_82 hw)) (mvT hZ (w_81 hw)) (by decide) (backOf (W := 0) (rm_hp0 l Z a0 hw [] b7 T9.heap n0 (by omega) r9_1) hZ (w_83 hw) (w_36 hw) (by decide) (by decide)) qa15 qc15 (g := (mkF m 118 #[vI p0, vI p1, vI p2, vI p3, vI p4, vA x1_kd, vA x2_a_, vA b7, .unset, .unset] [(.ref b7)])) rfl (by rw [hml]; rfl) (Steps.refl _) (argsL := []) (rest := []) (lenOf pd_14 rfl) rfl (Nat.le_of_eq rfl) (hb hby at_118) (fun _ _ => ⟨rfl, rfl, (by decide : 3 + 0 ≤ _), (by decide : 15 + 0 ≤ _)⟩)
  dsimp only [Pt.U, Pt.locs, Pt.cells, Pt.slots] at X15 l15 y15 z15 st15 hQ15
  rw [l15, y15, z15] at X15
  obtain ⟨rfl, Nq15, Kq15⟩ := hQ15
  have N15 := Fr.app N9 Nq15
  obtain ⟨cq16, kq16, qa16, qb16, qc16⟩ := isOf hZ Kq15 r9_0
  obtain ⟨_, _, ⟨T16, L16, k16, n16⟩, -, X16, ⟨Lc16, hQ16, l16, y16, z16⟩, st16⟩ := X15.virtualBack hx (y := m_44) (z := m_44) hown (mvT hZ (w_84 hw)) (mvT hZ (w_85 hw)) (notFace_of_selects (args := #[]) (mvT hZ (w_87 hw))) (mvT hZ (w_87 hw)) (mvT hZ (w_86 hw)) (by decide) (backOf (W := 0) (rm_line l Z a0 hw [] b7 ((0 : Int32)) T9.heap n0 (by omega) r9_1) hZ (w_88 hw) (w_36 hw) (by decide) (by decide)) qa16 qc16 (g := (mkF m 126 #[vI p0, vI p1, vI p2, vI p3, vI p4, vA x1_kd, vA x2_a_, vA b7, .unset, .unset] [(.ref b7)])) rfl (by rw [hml]; rfl) (Steps.refl _) (argsL := []) (rest := []) (lenOf pd_10 rfl) rfl (Nat.le_of_eq rfl) (hb hby at_126) (fun _ _ => ⟨rfl, Kq15, (by decide : 3 + 0 ≤ _), (by decide : 15 + 0 ≤ _)⟩)
  dsimp only [Pt.U, Pt.locs, Pt.cells, Pt.slots] at X16 l16 y16 z16 st16 hQ16
  rw [l16, y16, z16] at X16
  obtain ⟨rfl, Nq16, Kq16⟩ := hQ16
  have N16 := Fr.app N15 Nq16
  obtain ⟨cq17, kq17, qa17, qb17, qc17⟩ := isOf hZ Kq16 r9_0
  obtain ⟨_, _, ⟨T17, L17, k17, n17⟩, -, X17, ⟨Lc17, hQ17, l17, y17, z17⟩, st17⟩ := X16.virtualBack hx (y := m_45) (z := m_45) hown (mvT hZ (w_89 hw)) (mvT hZ (w_90 hw)) (notFace_of_selects (args := #[]) (mvT hZ (w_92 hw))) (mvT hZ (w_92 hw)) (mvT hZ (w_91 hw)) (by decide) (backOf (W := 0) (rm_colu l Z a0 hw [] b7 ((0 : Int32)) T9.heap n0 (by omega) r9_2) hZ (w_93 hw) (w_36 hw) (by decide) (by decide)) qa17 qc17 (g := (mkF m 134 #[vI p0, vI p1, vI p2, vI p3, vI p4, vA x1_kd, vA x2_a_, vA b7, .unset, .unset] [(.ref b7)])) rfl (by rw [hml]; rfl) (Steps.refl _) (argsL := []) (rest := []) (lenOf pd_10 rfl) rfl (Nat.le_of_eq rfl) (hb hby at_134) (fun _ _ => ⟨rfl, Kq16, (by decide : 3 + 0 ≤ _), (by decide : 15 + 0 ≤ _)⟩)
  dsimp only [Pt.U, Pt.locs, Pt.cells, Pt.slots] at X17 l17 y17 z17 st17 hQ17
  rw [l17, y17, z17] at X17
  obtain ⟨rfl, Nq17, Kq17⟩ := hQ17
  have N17 := Fr.app N16 Nq17
  obtain ⟨fs, hr, hrun, hended, hEnd⟩ := X17.leaveW hS0 (by first | omega | (rw [(Kq17 : T17.heap = T9.heap)]; omega)) (v := some (.int 1)) (fun h => by rw [Bd.returns] at h; cases h)
  refine ⟨_, _, castTop (ef_23 m p0 p1 p2 p3 p4) ?_, hrun, hended, _, _, rfl, ?_, hEnd.1, hEnd.2.1, hEnd.2.2.1, hEnd.2.2.2.mono (by decide) (by decide)⟩
  · show Steps _ _ _ (s₁.setTop (mkF m 0 #[vI p0, vI p1, vI p2, vI p3, vI p4, .unset, .unset, .unset, .unset, .unset] [])) _
    refine XS.iloadN X0.here hx rfl (hb hby at_0) rfl ?_
    show Steps _ _ _ (s₁.setTop (mkF m 1 #[vI p0, vI p1, vI p2, vI p3, vI p4, .unset, .unset, .unset, .unset, .unset] [(.int p3)])) _
    refine st1 _ ?_
    show Steps _ _ _ (T1.setTop (mkF m 4 #[vI p0, vI p1, vI p2, vI p3, vI p4, .unset, .unset, .unset, .unset, .unset] [(.ref x1_kd)])) _
    refine XS.astore X1.here hx rfl (hb hby at_4) rfl rfl (l' := #[vI p0, vI p1, vI p2, vI p3, vI p4, vA x1_kd, .unset, .unset, .unset, .unset]) rfl ?_
    show Steps _ _ _ (T1.setTop (mkF m 6 #[vI p0, vI p1, vI p2, vI p3, vI p4, vA x1_kd, .unset, .unset, .unset, .unset] [])) _
    refine XS.iload X1.here hx rfl (hb hby at_6) rfl ?_
    show Steps _ _ _ (T1.setTop (mkF m 8 #[vI p0, vI p1, vI p2, vI p3, vI p4, vA x1_kd, .unset, .unset, .unset, .unset] [(.int p4)])) _
    refine XS.sipush X1.here hx rfl (hb hby at_8) ?_
    show Steps _ _ _ (T1.setTop (mkF m 11 #[vI p0, vI p1, vI p2, vI p3, vI p4, vA x1_kd, .unset, .unset, .unset, .unset] [(.int 255), (.int p4)])) _
    refine XS.iand X1.here hx rfl (hb hby at_11) rfl ?_
    show Steps _ _ _ (T1.setTop (mkF m 12 #[vI p0, vI p1, vI p2, vI p3, vI p4, vA x1_kd, .unset, .unset, .unset, .unset] [(.int (p4 &&& (255 : Int32)))])) _
    refine XS.i2c X1.here hx rfl (hb hby at_12) rfl ?_
    show Steps _ _ _ (T1.setTop (mkF m 13 #[vI p0, vI p1, vI p2, vI p3, vI p4, vA x1_kd, .unset, .unset, .unset, .unset] [(.int ((p4 &&& (255 : Int32)).toUInt32.toUInt16.toUInt32.toInt32))])) _
    refine st2 _ ?_
    show Steps _ _ _ (T2.setTop (mkF m 16 #[vI p0, vI p1, vI p2, vI p3, vI p4, vA x1_kd, .unset, .unset, .unset, .unset] [(.ref x2_a_)])) _
    refine XS.astore X2.here hx rfl (hb hby at_16) rfl rfl (l' := #[vI p0, vI p1, vI p2, vI p3, vI p4, vA x1_kd, vA x2_a_, .unset, .unset, .unset]) rfl ?_
    show Steps _ _ _ (T2.setTop (mkF m 18 #[vI p0, vI p1, vI p2, vI p3, vI p4, vA x1_kd, vA x2_a_, .unset, .unset, .unset] [])) _
    refine XS.iloadN X2.here hx rfl (hb hby at_18) rfl ?_
    show Steps _ _ _ (T2.setTop (mkF m 19 #[vI p0, vI p1, vI p2, vI p3, vI p4, vA x1_kd, vA x2_a_, .unset, .unset, .unset] [(.int p0)])) _
    refine XS.iconst X2.here hx rfl (hb hby at_19) ?_
    show Steps _ _ _ (T2.setTop (mkF m 20 #[vI p0, vI p1, vI p2, vI p3, vI p4, vA x1_kd, vA x2_a_, .unset, .unset, .unset] [(.int 1), (.int p0)])) _
    refine XS.iand X2.here hx rfl (hb hby at_20) rfl ?_
    show Steps _ _ _ (T2.setTop (mkF m 21 #[vI p0, vI p1, vI p2, vI p3, vI p4, vA x1_kd, vA x2_a_, .unset, .unset, .unset] [(.int (p0 &&& (1 : Int32)))])) _
    refine XS.ifYes X2.here hx rfl (pc0 := 21) (pc' := 103) rfl (hb hby at_21) rfl ((if0 _ _).trans (teq (hc21 : (p0 &&& (1 : Int32)) = (0 : Int32))).1) (by decide) (by decide) ?_
    show Steps _ _ _ (T2.setTop (mkF m 103 #[vI p0, vI p1, vI p2, vI p3, vI p4, vA x1_kd, vA x2_a_, .unset, .unset, .unset] [])) _
    refine st7 _ ?_
    show Steps _ _ _ (T7.setTop (mkF m 106 #[vI p0, vI p1, vI p2, vI p3, vI p4, vA x1_kd, vA x2_a_, .unset, .unset, .unset] [(.ref b7)])) _
    refine XS.dup X7.here hx rfl (hb hby at_106) rfl rfl ?_
    show Steps _ _ _ (T7.setTop (mkF m 107 #[vI p0, vI p1, vI p2, vI p3, vI p4, vA x1_kd, vA x2_a_, .unset, .unset, .unset] [(.ref b7), (.ref b7)])) _
    refine XS.aload X7.here hx rfl (hb hby at_107) rfl rfl ?_
    show Steps _ _ _ (T7.setTop (mkF m 109 #[vI p0, vI p1, vI p2, vI p3, vI p4, vA x1_kd, vA x2_a_, .unset, .unset, .unset] [(.ref x1_kd), (.ref b7), (.ref b7)])) _
    refine XS.aload X7.here hx rfl (hb hby at_109) rfl rfl ?_
    show Steps _ _ _ (T7.setTop (mkF m 111 #[vI p0, vI p1, vI p2, vI p3, vI p4, vA x1_kd, vA x2_a_, .unset, .unset, .unset] [(.ref x2_a_), (.ref x1_kd), (.ref b7), (.ref b7)])) _
    refine st9.trans ?_
    show Steps _ _ _ (T9.setTop (mkF m 114 #[vI p0, vI p1, vI p2, vI p3, vI p4, vA x1_kd, vA x2_a_, .unset, .unset, .unset] [(.ref b7)])) _
    refine XS.astore X9.here hx rfl (hb hby at_114) rfl rfl (l' := #[vI p0, vI p1, vI p2, vI p3, vI p4, vA x1_kd, vA x2_a_, vA b7, .unset, .unset]) rfl ?_
    show Steps _ _ _ (T9.setTop (mkF m 116 #[vI p0, vI p1, vI p2, vI p3, vI p4, vA x1_kd, vA x2_a_, vA b7, .unset, .unset] [])) _
    refine XS.aload X9.here hx rfl (hb hby at_116) rfl rfl ?_
    show Steps _ _ _ (T9.setTop (mkF m 118 #[vI p0, vI p1, vI p2, vI p3, vI p4, vA x1_kd, vA x2_a_, vA b7, .unset, .unset] [(.ref b7)])) _
    refine st15.trans ?_
    show Steps _ _ _ (T15.setTop (mkF m 121 #[vI p0, vI p1, vI p2, vI p3, vI p4, vA x1_kd, vA x2_a_, vA b7, .unset, .unset] [(.int 0)])) _
    refine XS.ifNo X15.here hx rfl (hb hby at_121) rfl ((if0 _ _).trans (teq ((by decide) : (0 : Int32) = (0 : Int32))).2) ?_
    show Steps _ _ _ (T15.setTop (mkF m 124 #[vI p0, vI p1, vI p2, vI p3, vI p4, vA x1_kd, vA x2_a_, vA b7, .unset, .unset] [])) _
    refine XS.aload X15.here hx rfl (hb hby at_124) rfl rfl ?_
    show Steps _ _ _ (T15.setTop (mkF m 126 #[vI p0, vI p1, vI p2, vI p3, vI p4, vA x1_kd, vA x2_a_, vA b7, .unset, .unset] [(.ref b7)])) _
    refine st16.trans ?_
    show Steps _ _ _ (T16.setTop (mkF m 129 #[vI p0, vI p1, vI p2, vI p3, vI p4, vA x1_kd, vA x2_a_, vA b7, .unset, .unset] [(.int 0)])) _
    refine XS.ifNo X16.here hx rfl (hb hby at_129) rfl ((if0 _ _).trans (teq ((by decide) : (0 : Int32) = (0 : Int32))).2) ?_
    show Steps _ _ _ (T16.setTop (mkF m 132 #[vI p0, vI p1, vI p2, vI p3, vI p4, vA x1_kd, vA x2_a_, vA b7, .unset, .unset] [])) _
    refine XS.aload X16.here hx rfl (hb hby at_132) rfl rfl ?_
    show Steps _ _ _ (T16.setTop (mkF m 134 #[vI p0, vI p1, vI p2, vI p3, vI p4, vA x1_kd, vA x2_a_, vA b7, .unset, .unset] [(.ref b7)])) _
    refine st17.trans ?_
    show Steps _ _ _ (T17.setTop (mkF m 137 #[vI p0, vI p1, vI p2, vI p3, vI p4, vA x1_kd, vA x2_a_, vA b7, .unset, .unset] [(.int 0)])) _
    refine XS.ifNo X17.here hx rfl (hb hby at_137) rfl ((if0 _ _).trans (teq ((by decide) : (0 : Int32) = (0 : Int32))).2) ?_
    show Steps _ _ _ (T17.setTop (mkF m 140 #[vI p0, vI p1, vI p2, vI p3, vI p4, vA x1_kd, vA x2_a_, vA b7, .unset, .unset] [])) _
    refine XS.iconst X17.here hx rfl (hb hby at_140) ?_
    show Steps _ _ _ (T17.setTop (mkF m 141 #[vI p0, vI p1, vI p2, vI p3, vI p4, vA x1_kd, vA x2_a_, vA b7, .unset, .unset] [(.int 1)])) _
    refine XS.goto X17.here hx rfl (pc0 := 141) (pc' := 145) rfl (hb hby at_141) (by decide) (by decide) ?_
    show Steps _ _ _ (T17.setTop (mkF m 145 #[vI p0, vI p1, vI p2, vI p3, vI p4, vA x1_kd, vA x2_a_, vA b7, .unset, .unset] [(.int 1)])) _
    exact retN X17 hx (t := .boolean) Bd.returns (by simp) (hb hby at_145) hr
  · show Q_law Z p0 p1 p2 p3 p4 cp su ss od ko vo ot kt2 vt k0 k1 k2 h0 n0 _ T17.heap _
    rw [(Kq17 : T17.heap = T9.heap)]
    exact ⟨rfl, N17⟩
theorem w_96 {Z : State} {a0 : Array Value} (hw : HW Z a0) : (Jvm.Cond.methodLink "com/example/formulary/formulary/host/FormulaExceptionHasPlacePinLaw" (34 : Nat) m_42).before a0 Z = true := hw _ (List.mem_of_getElem? (i := 96) rfl)
theorem w_98 {Z : State} {a0 : Array Value} (hw : HW Z a0) : (Jvm.Cond.code m_42 prog_36_method_1_code (5 : Nat) (Option.none : Option Jvm.ClassFile.FieldType)).before a0 Z = true := hw _ (List.mem_of_getElem? (i := 98) rfl)
theorem pd_31 : parseMethodDescriptor "(Lcom/example/formulary/formulary/host/FormulaException$Kind;Ljava/lang/String;II)V" = some ⟨[(.object "com/example/formulary/formulary/host/FormulaException$Kind"), (.object "java/lang/String"), .int, .int], none⟩ := by decide +kernel
theorem w_97 {Z : State} {a0 : Array Value} (hw : HW Z a0) : (Jvm.Cond.instanceMethod m_42).before a0 Z = true := hw _ (List.mem_of_getElem? (i := 97) rfl)
theorem rm_law_00 (l : Launch) (Z : State) (a0 : Array Value) (hw : HW Z a0) (ws : List Jvm.Cond) (p0 : Int32) (p1 : Int32) (p2 : Int32) (p3 : Int32) (p4 : Int32) (cp : Int32) (su : Value) (ss : Value) (od : Addr) (ko : ClassId) (vo : List Value) (ot : Addr) (kt2 : ClassId) (vt : List Value) (k0 : Addr) (k1 : Addr) (k2 : Addr) (h0 : Heap) (n0 : Nat) (Z0 : n0 ≤ h0.size) (P0 : Old Z n0 h0) (P1 : sta0 Z (.int cp)) (P2 : Sta Z Z.heap "java/lang/Throwable" "UNASSIGNED_STACK" "[Ljava/lang/StackTraceElement;" su) (P3 : Sta Z Z.heap "java/lang/Throwable" "SUPPRESSED_SENTINEL" "Ljava/util/List;" ss) (P4 : Sta Z Z.heap "java/lang/Integer" "DigitOnes" "[B" (.ref od)) (P5 : Sta Z Z.heap "java/lang/Integer" "DigitTens" "[B" (.ref ot)) (P6 : Sta Z Z.heap "com/example/formulary/formulary/host/FormulaException$Kind" "SYNTAX" "Lcom/example/formulary/formulary/host/FormulaException$Kind;" (.ref k0)) (P7 : Sta Z Z.heap "com/example/formulary/formulary/host/FormulaException$Kind" "RUNNING" "Lcom/example/formulary/formulary/host/FormulaException$Kind;" (.ref k1)) (P8 : Sta Z Z.heap "com/example/formulary/formulary/host/FormulaException$Kind" "LIMIT" "Lcom/example/formulary/formulary/host/FormulaException$Kind;" (.ref k2)) (hsu : su.isRef = true) (hss : ss.isRef = true) (hcs : ¬ (cp = (0 : Int32))) (BO : Arv Z Z.heap od ko .byte (100 : Int32) vo (.int 0)) (BT : Arv Z Z.heap ot kt2 .byte (100 : Int32) vt (.int 0)) (hc21 : ¬ ((p0 &&& (1 : Int32)) = (0 : Int32))) (hc32 : (p1 &&& (2147483647 : Int32)) = (0 : Int32)) (hc46 : (p2 &&& (2147483647 : Int32)) = (0 : Int32)) :
    MetFree l x (head1 (Jvm.Cond.code x code maxLocals ret :: ws) room_1) (fun as' U => as' = #[(.int p0), (.int p1), (.int p2), (.int p3), (.int p4)] ∧ Z.Warmed39 U.vm ∧ U.heap = h0 ∧ CHv Z own_EL U.vm h0) (fun _ _ _ _ _ => True) (fun _ U o U' => ∃ v L, o = .returned v ∧ Q_law Z p0 p1 p2 p3 p4 cp su ss od ko vo ot kt2 vt k0 k1 k2 h0 n0 v U'.heap L ∧ ReturnedEndW U o U' L room_1.cells room_1.slots) := by
  refine MetFree.of_bodySF (plainFor_of_name pn_13) hisR ?_
  intro p e s m args below meth c s₁ Bd hml0 hP hK
  obtain ⟨rfl, hZ, hh, hCH⟩ := hP
  have hx := Bd.exec
  have hby := Bd.bytes
  have hml : c.maxLocals = 10 := hml0
  have hown : (s.setVm s.vm).vm.findClass "com/example/formulary/formulary/host/FormulaExceptionHasPlacePinLaw" = some m.cls := findClass_of_methodNamed Bd.named
  have hnm := (name_of_methodNamed Bd.named Bd.method).1
  have X0 : Stand p l e room_1 (s.setVm s.vm) m #[(.int p0), (.int p1), (.int p2), (.int p3), (.int p4)] below meth c s₁ [] 0 0 := Stand.of_body Bd
  have e0 : s₁.heap = h0 := by rw [← hh, Bd.state]; rfl
  have N0 := Fr.nil n0
  have hZ : Z.Warmed39 (s.setVm s.vm).vm := hZ
  have hS0 : s.Since s.vm h0.size := (State.WarmedH.refl s).since _
  have hk0 : h0.size ≤ h0.size := Nat.le_refl _
  have C0 : CHr Z own_EL s.vm h0 s.vm h0 := CHr.refl hCH
  obtain ⟨_, _, ⟨T1, L1, k1, n1⟩, -, X1, ⟨Lc1, hQ1, l1, y1, z1⟩, st1⟩ := Jvm.LawKit.callS X0 hx (y := m_46) hown (mvT hZ (w_0 hw)) (mvT hZ (w_1 hw)) (mvT hZ (w_2 hw)) (mvT hZ (w_3 hw)) (by decide) (backOf (W := 0) (rm_kof l Z a0 hw [] p3 k0 k1 k2 h0 n0 (by omega) P0 P6 P7 P8) hZ (w_3 hw) (w_2 hw) (by decide) (by decide)) (g := (mkF m 1 #[vI p0, vI p1, vI p2, vI p3, vI p4, .unset, .unset, .unset, .unset, .unset] [(.int p3)])) rfl (by rw [hml]; rfl) (argsL := [(.int p3)]) (rest := []) (lenOf pd_28 rfl) rfl (Nat.le_of_eq rfl) (hb hby at_1) (fun _ _ => ⟨rfl, e0, (by decide : 0 + 0 ≤ _), (by decide : 0 + 0 ≤ _)⟩)
  dsimp only [Pt.U, Pt.locs, Pt.cells, Pt.slots] at X1 l1 y1 z1 st1 hQ1
  rw [l1, y1, z1] at X1
  obtain ⟨x1_kd, rfl, Nq1, Kq1⟩ := hQ1
  have N1 := Fr.app N0 Nq1
  obtain ⟨_, _, ⟨T2, L2, k2, n2⟩, -, X2, ⟨Lc2, hQ2, l2, y2, z2⟩, st2⟩ := Jvm.LawKit.callS X1 hx (y := m_4) hown (mvT hZ (w_8 hw)) (mvT hZ (w_9 hw)) (mvT hZ (w_10 hw)) (mvT hZ (w_11 hw)) (by decide) (backOf (W := 0) (rm_valueC l Z a0 hw [] (((p4 &&& (255 : Int32)).toUInt32.toUInt16.toUInt32.toInt32)) cp h0 n0 (by omega) P0 P1 hcs (own_ch p4)) hZ (w_11 hw) (w_10 hw) (by decide) (by decide)) (g := (mkF m 13 #[vI p0, vI p1, vI p2, vI p3, vI p4, vA x1_kd, .unset, .unset, .unset, .unset] [(.int ((p4 &&& (255 : Int32)).toUInt32.toUInt16.toUInt32.toInt32))])) rfl (by rw [hml]; rfl) (argsL := [(.int ((p4 &&& (255 : Int32)).toUInt32.toUInt16.toUInt32.toInt32))]) (rest := []) (lenOf pd_29 rfl) rfl (Nat.le_of_eq rfl) (hb hby at_13) (fun _ _ => ⟨rfl, Kq1, (by decide : 0 + 2 ≤ _), (by decide : 0 + 5 ≤ _)⟩)
  dsimp only [Pt.U, Pt.locs, Pt.cells, Pt.slots] at X2 l2 y2 z2 st2 hQ2
  rw [l2, y2, z2] at X2
  obtain ⟨x2_a_, x2_b, x2_k, rfl, Nq2, Kq2, r2_0, r2_1, r2_2, r2_3, r2_4, r2_5, r2_6⟩ := hQ2
  have N2 := Fr.app N1 Nq2
  have C2 := C0.trans (CHr.keep Kq2 sf0 C0.1)
  have z2' := Kq2.1
  have sf2_0 : Safe Z own_EL s.vm T2.heap x2_a_ := Safe.keep Kq2 sf0 C0.1 (Safe.new (by omega))
  have sf2_1 : Safe Z own_EL s.vm T2.heap x2_b := Safe.keep Kq2 sf0 C0.1 (Safe.new (by omega))
  have lt3 := own_l r2_2.lt
  have lt4 := own_l r2_3.lt
  have lt5 := own_l r2_4.lt
  have lt6 := own_l r2_5.lt
  obtain ⟨T9, h9, X9, e9, E9, A9, D9, -, st9⟩ := newO X2 hx hZ hown (w_34 hw) (w_35 hw) (w_36 hw) rfl (g := (mkF m 52 #[vI p0, vI p1, vI p2, vI p3, vI p4, vA x1_kd, vA x2_a_, vI 1, vI 1, .unset] [])) rfl (hb hby at_52) (by decide) (by decide)
  obtain ⟨b9, g9⟩ : ∃ z, z = T2.heap.size := ⟨_, rfl⟩
  rw [← g9] at A9 D9 st9
  have z9 := E9.1
  have C9 := C2.trans (CHr.ext E9 C2.1)
  have lt10 := own_l A9.lt
  have F9_62 : Fld Z h9 b9 "java/lang/Throwable" "cause" "Ljava/lang/Throwable;" .null := D9 (Or.inl (w_62 hw)) (ty := (.object "java/lang/Throwable")) (by decide)
  have F9_65 : Fld Z h9 b9 "java/lang/Throwable" "stackTrace" "[Ljava/lang/StackTraceElement;" .null := D9 (Or.inl (w_65 hw)) (ty := (.array (.object "java/lang/StackTraceElement"))) (by decide)
  have F9_68 : Fld Z h9 b9 "java/lang/Throwable" "suppressedExceptions" "Ljava/util/List;" .null := D9 (Or.inl (w_68 hw)) (ty := (.object "java/util/List")) (by decide)
  have F9_70 : Fld Z h9 b9 "java/lang/Throwable" "detailMessage" "Ljava/lang/String;" .null := D9 (Or.inl (w_70 hw)) (ty := (.object "java/lang/String")) (by decide)
  have F9_72 : Fld Z h9 b9 "com/example/formulary/formulary/host/FormulaException" "kind" "Lcom/example/formulary/formulary/host/FormulaException$Kind;" .null := D9 (Or.inr (w_72 hw)) (ty := (.object "com/example/formulary/formulary/host/FormulaException$Kind")) (by decide)
  have F9_74 : Fld Z h9 b9 "com/example/formulary/formulary/host/FormulaException" "description" "Ljava/lang/String;" .null := D9 (Or.inr (w_74 hw)) (ty := (.object "java/lang/String")) (by decide)
  have F9_76 : Fld Z h9 b9 "com/example/formulary/formulary/host/FormulaException" "line" "I" (.int 0) := D9 (Or.inr (w_76 hw)) (ty := .int) (by decide)
  have F9_78 : Fld Z h9 b9 "com/example/formulary/formulary/host/FormulaException" "column" "I" (.int 0) := D9 (Or.inr (w_78 hw)) (ty := .int) (by decide)
  have f12 := r2_6.ext E9
  have f13 := r2_2.ext E9
  have f14 := r2_4.ext E9
  have f15 := r2_3.ext E9
  have f16 := r2_5.ext E9
  obtain ⟨_, _, ⟨T11, L11, k11, n11⟩, -, X11, hSb11, hgr11, ⟨Lc11, hQ11, l11, y11, z11, Cs11⟩, st11⟩ := X9.specialBackS hx (y := m_42) rfl hown (mvT hZ (w_96 hw)) (mvT hZ (w_97 hw)) (mvT hZ (w_98 hw)) (by decide) (backOfSH (W := 1) (rm_fi4 l Z a0 hw [] b9 x1_kd x2_a_ x2_b x2_k ([(.int (nar .byte ((((p4 &&& (255 : Int32)).toUInt32.toUInt16.toUInt32.toInt32).toInt8.toInt32))))]) ((1 : Int32)) ((1 : Int32)) cp su ss od ko vo ot kt2 vt h9 n0 (by omega) f12 P2 P3 A9 F9_62 F9_65 F9_68 F9_70 F9_72 F9_74 F9_76 F9_78 (by omega) P1 P4 P5 f13 f14 f15 f16 (own_ne (by omega)) (own_ne (by omega)) hsu hss hcs BO BT (by decide) (by decide) (by decide) (by decide)) hZ (w_98 hw) (w_36 hw) (by decide) (by decide) (own_EW hw) C9.1) (g := (mkF m 64 #[vI p0, vI p1, vI p2, vI p3, vI p4, vA x1_kd, vA x2_a_, vI 1, vI 1, .unset] [(.int 1), (.int 1), (.ref x2_a_), (.ref x1_kd), (.ref b9), (.ref b9)])) rfl (by rw [hml]; rfl) (Steps.refl _) (a := b9) (argsL := [(.ref x1_kd), (.ref x2_a_), (.int 1), (.int 1)]) (rest := [(.ref b9)]) (lenOf pd_31 rfl) rfl (Nat.le_of_eq rfl) (hb hby at_64) (fun _ _ => ⟨rfl, e9, (by decide : 3 + 13 ≤ _), (by decide : 15 + 524 ≤ _)⟩)
  dsimp only [Pt.U, Pt.locs, Pt.cells, Pt.slots] at X11 l11 y11 z11 st11 hQ11 hSb11 hgr11 Cs11
  rw [l11, y11, z11] at X11
  rw [e9] at hgr11
  obtain ⟨X11, hS11, hZ11, hown11⟩ := rebS hS0 (by omega) X11 hSb11 hgr11 hZ hown
  have hk11 : T11.heap.size ≤ T11.heap.size := Nat.le_refl _
  obtain ⟨rfl, Nq11, Kq11, r11_0, r11_1, r11_2⟩ := hQ11
  have N11 := Fr.app N2 Nq11
  have C11 := C9.trans Cs11
  have z11' := Kq11.1
  have lt17 := own_l r11_0.lt
  have lt18 := own_l r11_1.lt
  have lt19 := own_l r11_2.lt
  obtain ⟨cq20, kq20, qa20, qb20, qc20⟩ := isOf hZ11 rfl r11_0
  obtain ⟨_, _, ⟨T20, L20, k20, n20⟩, -, X20, ⟨Lc20, hQ20, l20, y20, z20⟩, st20⟩ := X11.virtualBack hx (y := m_43) (z := m_43) hown11 (mvT hZ11 (w_79 hw)) (mvT hZ11 (w_80 hw)) (notFace_of_selects (args := #[]) (mvT hZ11 (w_82 hw))) (mvT hZ11 (w_82 hw)) (mvT hZ11 (w_81 hw)) (by decide) (backOf (W := 0) (rm_hp1 l Z a0 hw [] b9 ((1 : Int32)) T11.heap n0 (by omega) r11_1 (by decide)) hZ11 (w_83 hw) (w_36 hw) (by decide) (by decide)) qa20 qc20 (g := (mkF m 71 #[vI p0, vI p1, vI p2, vI p3, vI p4, vA x1_kd, vA x2_a_, vI 1, vI 1, vA b9] [(.ref b9)])) rfl (by rw [hml]; rfl) (Steps.refl _) (argsL := []) (rest := []) (lenOf pd_14 rfl) rfl (Nat.le_of_eq rfl) (hb hby at_71) (fun _ _ => ⟨rfl, rfl, (by decide : 16 + 0 ≤ _), (by decide : 539 + 0 ≤ _)⟩)
  dsimp only [Pt.U, Pt.locs, Pt.cells, Pt.slots] at X20 l20 y20 z20 st20 hQ20
  rw [l20, y20, z20] at X20
  obtain ⟨rfl, Nq20, Kq20⟩ := hQ20
  have N20 := Fr.app N11 Nq20
  obtain ⟨cq21, kq21, qa21, qb21, qc21⟩ := isOf hZ11 Kq20 r11_0
  obtain ⟨_, _, ⟨T21, L21, k21, n21⟩, -, X21, ⟨Lc21, hQ21, l21, y21, z21⟩, st21⟩ := X20.virtualBack hx (y := m_44) (z := m_44) hown11 (mvT hZ11 (w_84 hw)) (mvT hZ11 (w_85 hw)) (notFace_of_selects (args := #[]) (mvT hZ11 (w_87 hw))) (mvT hZ11 (w_87 hw)) (mvT hZ11 (w_86 hw)) (by decide) (backOf (W := 0) (rm_line l Z a0 hw [] b9 ((1 : Int32)) T11.heap n0 (by omega) r11_1) hZ11 (w_88 hw) (w_36 hw) (by decide) (by decide)) qa21 qc21 (g := (mkF m 79 #[vI p0, vI p1, vI p2, vI p3, vI p4, vA x1_kd, vA x2_a_, vI 1, vI 1, vA b9] [(.ref b9)])) rfl (by rw [hml]; rfl) (Steps.refl _) (argsL := []) (rest := []) (lenOf pd_10 rfl) rfl (Nat.le_of_eq rfl) (hb hby at_79) (fun _ _ => ⟨rfl, Kq20, (by decide : 16 + 0 ≤ _), (by decide : 539 + 0 ≤ _)⟩)
  dsimp only [Pt.U, Pt.locs, Pt.cells, Pt.slots] at X21 l21 y21 z21 st21 hQ21
  rw [l21, y21, z21] at X21
  obtain ⟨rfl, Nq21, Kq21⟩ := hQ21
  have N21 := Fr.app N20 Nq21
  obtain ⟨cq22, kq22, qa22, qb22, qc22⟩ := isOf hZ11 Kq21 r11_0
  obtain ⟨_, _, ⟨T22, L22, k22, n22⟩, -, X22, ⟨Lc22, hQ22, l22, y22, z22⟩, st22⟩ := X21.virtualBack hx (y := m_45) (z := m_45) hown11 (mvT hZ11 (w_89 hw)) (mvT hZ11 (w_90 hw)) (notFace_of_selects (args := #[]) (mvT hZ11 (w_92 hw))) (mvT hZ11 (w_92 hw)) (mvT hZ11 (w_91 hw)) (by decide) (backOf (W := 0) (rm_colu l Z a0 hw [] b9 ((1 : Int32)) T11.heap n0 (by omega) r11_2) hZ11 (w_93 hw) (w_36 hw) (by decide) (by decide)) qa22 qc22 (g := (mkF m 89 #[vI p0, vI p1, vI p2, vI p3, vI p4, vA x1_kd, vA x2_a_, vI 1, vI 1, vA b9] [(.ref b9)])) rfl (by rw [hml]; rfl) (Steps.refl _) (argsL := []) (rest := []) (lenOf pd_10 rfl) rfl (Nat.le_of_eq rfl) (hb hby at_89) (fun _ _ => ⟨rfl, Kq21, (by decide : 16 + 0 ≤ _), (by decide : 539 + 0 ≤ _)⟩)
  dsimp only [Pt.U, Pt.locs, Pt.cells, Pt.slots] at X22 l22 y22 z22 st22 hQ22
  rw [l22, y22, z22] at X22
  obtain ⟨rfl, Nq22, Kq22⟩ := hQ22
  have N22 := Fr.app N21 Nq22
  obtain ⟨fs, hr, hrun, hended, hEnd⟩ := X22.leaveW hS11 (by first | omega | (rw [(Kq22 : T22.heap = T11.heap)]; omega)) (v := some (.int 1)) (fun h => by rw [Bd.returns] at h; cases h)
  refine ⟨_, _, castTop (ef_23 m p0 p1 p2 p3 p4) ?_, hrun, hended, _, _, rfl, ?_, hEnd.1, hEnd.2.1, hEnd.2.2.1, hEnd.2.2.2.mono (by decide) (by decide)⟩
  · show Steps _ _ _ (s₁.setTop (mkF m 0 #[vI p0, vI p1, vI p2, vI p3, vI p4, .unset, .unset, .unset, .unset, .unset] [])) _
    refine XS.iloadN X0.here hx rfl (hb hby at_0) rfl ?_
    show Steps _ _ _ (s₁.setTop (mkF m 1 #[vI p0, vI p1, vI p2, vI p3, vI p4, .unset, .unset, .unset, .unset, .unset] [(.int p3)])) _
    refine st1 _ ?_
    show Steps _ _ _ (T1.setTop (mkF m 4 #[vI p0, vI p1, vI p2, vI p3, vI p4, .unset, .unset, .unset, .unset, .unset] [(.ref x1_kd)])) _
    refine XS.astore X1.here hx rfl (hb hby at_4) rfl rfl (l' := #[vI p0, vI p1, vI p2, vI p3, vI p4, vA x1_kd, .unset, .unset, .unset, .unset]) rfl ?_
    show Steps _ _ _ (T1.setTop (mkF m 6 #[vI p0, vI p1, vI p2, vI p3, vI p4, vA x1_kd, .unset, .unset, .unset, .unset] [])) _
    refine XS.iload X1.here hx rfl (hb hby at_6) rfl ?_
    show Steps _ _ _ (T1.setTop (mkF m 8 #[vI p0, vI p1, vI p2, vI p3, vI p4, vA x1_kd, .unset, .unset, .unset, .unset] [(.int p4)])) _
    refine XS.sipush X1.here hx rfl (hb hby at_8) ?_
    show Steps _ _ _ (T1.setTop (mkF m 11 #[vI p0, vI p1, vI p2, vI p3, vI p4, vA x1_kd, .unset, .unset, .unset, .unset] [(.int 255), (.int p4)])) _
    refine XS.iand X1.here hx rfl (hb hby at_11) rfl ?_
    show Steps _ _ _ (T1.setTop (mkF m 12 #[vI p0, vI p1, vI p2, vI p3, vI p4, vA x1_kd, .unset, .unset, .unset, .unset] [(.int (p4 &&& (255 : Int32)))])) _
    refine XS.i2c X1.here hx rfl (hb hby at_12) rfl ?_
    show Steps _ _ _ (T1.setTop (mkF m 13 #[vI p0, vI p1, vI p2, vI p3, vI p4, vA x1_kd, .unset, .unset, .unset, .unset] [(.int ((p4 &&& (255 : Int32)).toUInt32.toUInt16.toUInt32.toInt32))])) _
    refine st2 _ ?_
    show Steps _ _ _ (T2.setTop (mkF m 16 #[vI p0, vI p1, vI p2, vI p3, vI p4, vA x1_kd, .unset, .unset, .unset, .unset] [(.ref x2_a_)])) _
    refine XS.astore X2.here hx rfl (hb hby at_16) rfl rfl (l' := #[vI p0, vI p1, vI p2, vI p3, vI p4, vA x1_kd, vA x2_a_, .unset, .unset, .unset]) rfl ?_
    show Steps _ _ _ (T2.setTop (mkF m 18 #[vI p0, vI p1, vI p2, vI p3, vI p4, vA x1_kd, vA x2_a_, .unset, .unset, .unset] [])) _
    refine XS.iloadN X2.here hx rfl (hb hby at_18) rfl ?_
    show Steps _ _ _ (T2.setTop (mkF m 19 #[vI p0, vI p1, vI p2, vI p3, vI p4, vA x1_kd, vA x2_a_, .unset, .unset, .unset] [(.int p0)])) _
    refine XS.iconst X2.here hx rfl (hb hby at_19) ?_
    show Steps _ _ _ (T2.setTop (mkF m 20 #[vI p0, vI p1, vI p2, vI p3, vI p4, vA x1_kd, vA x2_a_, .unset, .unset, .unset] [(.int 1), (.int p0)])) _
    refine XS.iand X2.here hx rfl (hb hby at_20) rfl ?_
    show Steps _ _ _ (T2.setTop (mkF m 21 #[vI p0, vI p1, vI p2, vI p3, vI p4, vA x1_kd, vA x2_a_, .unset, .unset, .unset] [(.int (p0 &&& (1 : Int32)))])) _
    refine XS.ifNo X2.here hx rfl (hb hby at_21) rfl ((if0 _ _).trans (feq (hc21 : ¬ ((p0 &&& (1 : Int32)) = (0 : Int32)))).1) ?_
    show Steps _ _ _ (T2.setTop (mkF m 24 #[vI p0, vI p1, vI p2, vI p3, vI p4, vA x1_kd, vA x2_a_, .unset, .unset, .unset] [])) _
    refine XS.iloadN X2.here hx rfl (hb hby at_24) rfl ?_
    show Steps _ _ _ (T2.setTop (mkF m 25 #[vI p0, vI p1, vI p2, vI p3, vI p4, vA x1_kd, vA x2_a_, .unset, .unset, .unset] [(.int p1)])) _
    refine X2.ldcInt hx hown (mvT hZ (w_4 hw)) (g := (mkF m 25 #[vI p0, vI p1, vI p2, vI p3, vI p4, vA x1_kd, vA x2_a_, .unset, .unset, .unset] [(.int p1)])) rfl (hb hby at_25) _ ?_
    show Steps _ _ _ (T2.setTop (mkF m 27 #[vI p0, vI p1, vI p2, vI p3, vI p4, vA x1_kd, vA x2_a_, .unset, .unset, .unset] [(.int 2147483647), (.int p1)])) _
    refine XS.iand X2.here hx rfl (hb hby at_27) rfl ?_
    show Steps _ _ _ (T2.setTop (mkF m 28 #[vI p0, vI p1, vI p2, vI p3, vI p4, vA x1_kd, vA x2_a_, .unset, .unset, .unset] [(.int (p1 &&& (2147483647 : Int32)))])) _
    refine XS.istore X2.here hx rfl (hb hby at_28) rfl (l' := #[vI p0, vI p1, vI p2, vI p3, vI p4, vA x1_kd, vA x2_a_, .val (.int (p1 &&& (2147483647 : Int32))), .unset, .unset]) rfl ?_
    show Steps _ _ _ (T2.setTop (mkF m 30 #[vI p0, vI p1, vI p2, vI p3, vI p4, vA x1_kd, vA x2_a_, .val (.int (p1 &&& (2147483647 : Int32))), .unset, .unset] [])) _
    refine XS.iload X2.here hx rfl (hb hby at_30) rfl ?_
    show Steps _ _ _ (T2.setTop (mkF m 32 #[vI p0, vI p1, vI p2, vI p3, vI p4, vA x1_kd, vA x2_a_, .val (.int (p1 &&& (2147483647 : Int32))), .unset, .unset] [(.int (p1 &&& (2147483647 : Int32)))])) _
    refine XS.ifNo X2.here hx rfl (hb hby at_32) rfl ((if0 _ _).trans (teq (hc32 : (p1 &&& (2147483647 : Int32)) = (0 : Int32))).2) ?_
    show Steps _ _ _ (T2.setTop (mkF m 35 #[vI p0, vI p1, vI p2, vI p3, vI p4, vA x1_kd, vA x2_a_, .val (.int (p1 &&& (2147483647 : Int32))), .unset, .unset] [])) _
    refine XS.iconst X2.here hx rfl (hb hby at_35) ?_
    show Steps _ _ _ (T2.setTop (mkF m 36 #[vI p0, vI p1, vI p2, vI p3, vI p4, vA x1_kd, vA x2_a_, .val (.int (p1 &&& (2147483647 : Int32))), .unset, .unset] [(.int 1)])) _
    refine XS.istore X2.here hx rfl (hb hby at_36) rfl (l' := #[vI p0, vI p1, vI p2, vI p3, vI p4, vA x1_kd, vA x2_a_, vI 1, .unset, .unset]) rfl ?_
    show Steps _ _ _ (T2.setTop (mkF m 38 #[vI p0, vI p1, vI p2, vI p3, vI p4, vA x1_kd, vA x2_a_, vI 1, .unset, .unset] [])) _
    refine XS.iloadN X2.here hx rfl (hb hby at_38) rfl ?_
    show Steps _ _ _ (T2.setTop (mkF m 39 #[vI p0, vI p1, vI p2, vI p3, vI p4, vA x1_kd, vA x2_a_, vI 1, .unset, .unset] [(.int p2)])) _
    refine X2.ldcInt hx hown (mvT hZ (w_4 hw)) (g := (mkF m 39 #[vI p0, vI p1, vI p2, vI p3, vI p4, vA x1_kd, vA x2_a_, vI 1, .unset, .unset] [(.int p2)])) rfl (hb hby at_39) _ ?_
    show Steps _ _ _ (T2.setTop (mkF m 41 #[vI p0, vI p1, vI p2, vI p3, vI p4, vA x1_kd, vA x2_a_, vI 1, .unset, .unset] [(.int 2147483647), (.int p2)])) _
    refine XS.iand X2.here hx rfl (hb hby at_41) rfl ?_
    show Steps _ _ _ (T2.setTop (mkF m 42 #[vI p0, vI p1, vI p2, vI p3, vI p4, vA x1_kd, vA x2_a_, vI 1, .unset, .unset] [(.int (p2 &&& (2147483647 : Int32)))])) _
    refine XS.istore X2.here hx rfl (hb hby at_42) rfl (l' := #[vI p0, vI p1, vI p2, vI p3, vI p4, vA x1_kd, vA x2_a_, vI 1, .val (.int (p2 &&& (2147483647 : Int32))), .unset]) rfl ?_
    show Steps _ _ _ (T2.setTop (mkF m 44 #[vI p0, vI p1, vI p2, vI p3, vI p4, vA x1_kd, vA x2_a_, vI 1, .val (.int (p2 &&& (2147483647 : Int32))), .unset] [])) _
    refine XS.iload X2.here hx rfl (hb hby at_44) rfl ?_
    show Steps _ _ _ (T2.setTop (mkF m 46 #[vI p0, vI p1, vI p2, vI p3, vI p4, vA x1_kd, vA x2_a_, vI 1, .val (.int (p2 &&& (2147483647 : Int32))), .unset] [(.int (p2 &&& (2147483647 : Int32)))])) _
    refine XS.ifNo X2.here hx rfl (hb hby at_46) rfl ((if0 _ _).trans (teq (hc46 : (p2 &&& (2147483647 : Int32)) = (0 : Int32))).2) ?_
    show Steps _ _ _ (T2.setTop (mkF m 49 #[vI p0, vI p1, vI p2, vI p3, vI p4, vA x1_kd, vA x2_a_, vI 1, .val (.int (p2 &&& (2147483647 : Int32))), .unset] [])) _
    refine XS.iconst X2.here hx rfl (hb hby at_49) ?_
    show Steps _ _ _ (T2.setTop (mkF m 50 #[vI p0, vI p1, vI p2, vI p3, vI p4, vA x1_kd, vA x2_a_, vI 1, .val (.int (p2 &&& (2147483647 : Int32))), .unset] [(.int 1)])) _
    refine XS.istore X2.here hx rfl (hb hby at_50) rfl (l' := #[vI p0, vI p1, vI p2, vI p3, vI p4, vA x1_kd, vA x2_a_, vI 1, vI 1, .unset]) rfl ?_
    show Steps _ _ _ (T2.setTop (mkF m 52 #[vI p0, vI p1, vI p2, vI p3, vI p4, vA x1_kd, vA x2_a_, vI 1, vI 1, .unset] [])) _
    refine st9 _ ?_
    show Steps _ _ _ (T9.setTop (mkF m 55 #[vI p0, vI p1, vI p2, vI p3, vI p4, vA x1_kd, vA x2_a_, vI 1, vI 1, .unset] [(.ref b9)])) _
    refine XS.dup X9.here hx rfl (hb hby at_55) rfl rfl ?_
    show Steps _ _ _ (T9.setTop (mkF m 56 #[vI p0, vI p1, vI p2, vI p3, vI p4, vA x1_kd, vA x2_a_, vI 1, vI 1, .unset] [(.ref b9), (.ref b9)])) _
    refine XS.aload X9.here hx rfl (hb hby at_56) rfl rfl ?_
    show Steps _ _ _ (T9.setTop (mkF m 58 #[vI p0, vI p1, vI p2, vI p3, vI p4, vA x1_kd, vA x2_a_, vI 1, vI 1, .unset] [(.ref x1_kd), (.ref b9), (.ref b9)])) _
    refine XS.aload X9.here hx rfl (hb hby at_58) rfl rfl ?_
    show Steps _ _ _ (T9.setTop (mkF m 60 #[vI p0, vI p1, vI p2, vI p3, vI p4, vA x1_kd, vA x2_a_, vI 1, vI 1, .unset] [(.ref x2_a_), (.ref x1_kd), (.ref b9), (.ref b9)])) _
    refine XS.iload X9.here hx rfl (hb hby at_60) rfl ?_
    show Steps _ _ _ (T9.setTop (mkF m 62 #[vI p0, vI p1, vI p2, vI p3, vI p4, vA x1_kd, vA x2_a_, vI 1, vI 1, .unset] [(.int 1), (.ref x2_a_), (.ref x1_kd), (.ref b9), (.ref b9)])) _
    refine XS.iload X9.here hx rfl (hb hby at_62) rfl ?_
    show Steps _ _ _ (T9.setTop (mkF m 64 #[vI p0, vI p1, vI p2, vI p3, vI p4, vA x1_kd, vA x2_a_, vI 1, vI 1, .unset] [(.int 1), (.int 1), (.ref x2_a_), (.ref x1_kd), (.ref b9), (.ref b9)])) _
    refine st11.trans ?_
    show Steps _ _ _ (T11.setTop (mkF m 67 #[vI p0, vI p1, vI p2, vI p3, vI p4, vA x1_kd, vA x2_a_, vI 1, vI 1, .unset] [(.ref b9)])) _
    refine XS.astore X11.here hx rfl (hb hby at_67) rfl rfl (l' := #[vI p0, vI p1, vI p2, vI p3, vI p4, vA x1_kd, vA x2_a_, vI 1, vI 1, vA b9]) rfl ?_
    show Steps _ _ _ (T11.setTop (mkF m 69 #[vI p0, vI p1, vI p2, vI p3, vI p4, vA x1_kd, vA x2_a_, vI 1, vI 1, vA b9] [])) _
    refine XS.aload X11.here hx rfl (hb hby at_69) rfl rfl ?_
    show Steps _ _ _ (T11.setTop (mkF m 71 #[vI p0, vI p1, vI p2, vI p3, vI p4, vA x1_kd, vA x2_a_, vI 1, vI 1, vA b9] [(.ref b9)])) _
    refine st20.trans ?_
    show Steps _ _ _ (T20.setTop (mkF m 74 #[vI p0, vI p1, vI p2, vI p3, vI p4, vA x1_kd, vA x2_a_, vI 1, vI 1, vA b9] [(.int 1)])) _
    refine XS.ifNo X20.here hx rfl (hb hby at_74) rfl ((if0 _ _).trans (feq ((by decide) : ¬ ((1 : Int32) = (0 : Int32)))).1) ?_
    show Steps _ _ _ (T20.setTop (mkF m 77 #[vI p0, vI p1, vI p2, vI p3, vI p4, vA x1_kd, vA x2_a_, vI 1, vI 1, vA b9] [])) _
    refine XS.aload X20.here hx rfl (hb hby at_77) rfl rfl ?_
    show Steps _ _ _ (T20.setTop (mkF m 79 #[vI p0, vI p1, vI p2, vI p3, vI p4, vA x1_kd, vA x2_a_, vI 1, vI 1, vA b9] [(.ref b9)])) _
    refine st21.trans ?_
    show Steps _ _ _ (T21.setTop (mkF m 82 #[vI p0, vI p1, vI p2, vI p3, vI p4, vA x1_kd, vA x2_a_, vI 1, vI 1, vA b9] [(.int 1)])) _
    refine XS.iload X21.here hx rfl (hb hby at_82) rfl ?_
    show Steps _ _ _ (T21.setTop (mkF m 84 #[vI p0, vI p1, vI p2, vI p3, vI p4, vA x1_kd, vA x2_a_, vI 1, vI 1, vA b9] [(.int 1), (.int 1)])) _
    refine XS.icmpNo X21.here hx rfl (hb hby at_84) rfl (teq ((by decide) : (1 : Int32) = (1 : Int32))).2 ?_
    show Steps _ _ _ (T21.setTop (mkF m 87 #[vI p0, vI p1, vI p2, vI p3, vI p4, vA x1_kd, vA x2_a_, vI 1, vI 1, vA b9] [])) _
    refine XS.aload X21.here hx rfl (hb hby at_87) rfl rfl ?_
    show Steps _ _ _ (T21.setTop (mkF m 89 #[vI p0, vI p1, vI p2, vI p3, vI p4, vA x1_kd, vA x2_a_, vI 1, vI 1, vA b9] [(.ref b9)])) _
    refine st22.trans ?_
    show Steps _ _ _ (T22.setTop (mkF m 92 #[vI p0, vI p1, vI p2, vI p3, vI p4, vA x1_kd, vA x2_a_, vI 1, vI 1, vA b9] [(.int 1)])) _
    refine XS.iload X22.here hx rfl (hb hby at_92) rfl ?_
    show Steps _ _ _ (T22.setTop (mkF m 94 #[vI p0, vI p1, vI p2, vI p3, vI p4, vA x1_kd, vA x2_a_, vI 1, vI 1, vA b9] [(.int 1), (.int 1)])) _
    refine XS.icmpNo X22.here hx rfl (hb hby at_94) rfl (teq ((by decide) : (1 : Int32) = (1 : Int32))).2 ?_
    show Steps _ _ _ (T22.setTop (mkF m 97 #[vI p0, vI p1, vI p2, vI p3, vI p4, vA x1_kd, vA x2_a_, vI 1, vI 1, vA b9] [])) _
    refine XS.iconst X22.here hx rfl (hb hby at_97) ?_
    show Steps _ _ _ (T22.setTop (mkF m 98 #[vI p0, vI p1, vI p2, vI p3, vI p4, vA x1_kd, vA x2_a_, vI 1, vI 1, vA b9] [(.int 1)])) _
    refine XS.goto X22.here hx rfl (pc0 := 98) (pc' := 102) rfl (hb hby at_98) (by decide) (by decide) ?_
    show Steps _ _ _ (T22.setTop (mkF m 102 #[vI p0, vI p1, vI p2, vI p3, vI p4, vA x1_kd, vA x2_a_, vI 1, vI 1, vA b9] [(.int 1)])) _
    exact retN X22 hx (t := .boolean) Bd.returns (by simp) (hb hby at_102) hr
  · show Q_law Z p0 p1 p2 p3 p4 cp su ss od ko vo ot kt2 vt k0 k1 k2 h0 n0 _ T22.heap _
    rw [(Kq22 : T22.heap = T11.heap)]
    exact ⟨rfl, N22⟩
theorem rm_law_01 (l : Launch) (Z : State) (a0 : Array Value) (hw : HW Z a0) (ws : List Jvm.Cond) (p0 : Int32) (p1 : Int32) (p2 : Int32) (p3 : Int32) (p4 : Int32) (cp : Int32) (su : Value) (ss : Value) (od : Addr) (ko : ClassId) (vo : List Value) (ot : Addr) (kt2 : ClassId) (vt : List Value) (k0 : Addr) (k1 : Addr) (k2 : Addr) (h0 : Heap) (n0 : Nat) (Z0 : n0 ≤ h0.size) (P0 : Old Z n0 h0) (P1 : sta0 Z (.int cp)) (P2 : Sta Z Z.heap "java/lang/Throwable" "UNASSIGNED_STACK" "[Ljava/lang/StackTraceElement;" su) (P3 : Sta Z Z.heap "java/lang/Throwable" "SUPPRESSED_SENTINEL" "Ljava/util/List;" ss) (P4 : Sta Z Z.heap "java/lang/Integer" "DigitOnes" "[B" (.ref od)) (P5 : Sta Z Z.heap "java/lang/Integer" "DigitTens" "[B" (.ref ot)) (P6 : Sta Z Z.heap "com/example/formulary/formulary/host/FormulaException$Kind" "SYNTAX" "Lcom/example/formulary/formulary/host/FormulaException$Kind;" (.ref k0)) (P7 : Sta Z Z.heap "com/example/formulary/formulary/host/FormulaException$Kind" "RUNNING" "Lcom/example/formulary/formulary/host/FormulaException$Kind;" (.ref k1)) (P8 : Sta Z Z.heap "com/example/formulary/formulary/host/FormulaException$Kind" "LIMIT" "Lcom/example/formulary/formulary/host/FormulaException$Kind;" (.ref k2)) (hsu : su.isRef = true) (hss : ss.isRef = true) (hcs : ¬ (cp = (0 : Int32))) (BO : Arv Z Z.heap od ko .byte (100 : Int32) vo (.int 0)) (BT : Arv Z Z.heap ot kt2 .byte (100 : Int32) vt (.int 0)) (hc21 : ¬ ((p0 &&& (1 : Int32)) = (0 : Int32))) (hc32 : (p1 &&& (2147483647 : Int32)) = (0 : Int32)) (hc46 : ¬ ((p2 &&& (2147483647 : Int32)) = (0 : Int32))) :
    MetFree l x (head1 (Jvm.Cond.code x code maxLocals ret :: ws) room_1) (fun as' U => as' = #[(.int p0), (.int p1), (.int p2), (.int p3), (.int p4)] ∧ Z.Warmed39 U.vm ∧ U.heap = h0 ∧ CHv Z own_EL U.vm h0) (fun _ _ _ _ _ => True) (fun _ U o U' => ∃ v L, o = .returned v ∧ Q_law Z p0 p1 p2 p3 p4 cp su ss od ko vo ot kt2 vt k0 k1 k2 h0 n0 v U'.heap L ∧ ReturnedEndW U o U' L room_1.cells room_1.slots) := by
  refine MetFree.of_bodySF (plainFor_of_name pn_13) hisR ?_
  intro p e s m args below meth c s₁ Bd hml0 hP hK
  obtain ⟨rfl, hZ, hh, hCH⟩ := hP
  have hx := Bd.exec
  have hby := Bd.bytes
  have hml : c.maxLocals = 10 := hml0
  have hown : (s.setVm s.vm).vm.findClass "com/example/formulary/formulary/host/FormulaExceptionHasPlacePinLaw" = some m.cls := findClass_of_methodNamed Bd.named
  have hnm := (name_of_methodNamed Bd.named Bd.method).1
  have X0 : Stand p l e room_1 (s.setVm s.vm) m #[(.int p0), (.int p1), (.int p2), (.int p3), (.int p4)] below meth c s₁ [] 0 0 := Stand.of_body Bd
  have e0 : s₁.heap = h0 := by rw [← hh, Bd.state]; rfl
  have N0 := Fr.nil n0
  have hZ : Z.Warmed39 (s.setVm s.vm).vm := hZ
  have hS0 : s.Since s.vm h0.size := (State.WarmedH.refl s).since _
  have hk0 : h0.size ≤ h0.size := Nat.le_refl _
  have C0 : CHr Z own_EL s.vm h0 s.vm h0 := CHr.refl hCH
  obtain ⟨_, _, ⟨T1, L1, k1, n1⟩, -, X1, ⟨Lc1, hQ1, l1, y1, z1⟩, st1⟩ := Jvm.LawKit.callS X0 hx (y := m_46) hown (mvT hZ (w_0 hw)) (mvT hZ (w_1 hw)) (mvT hZ (w_2 hw)) (mvT hZ (w_3 hw)) (by decide) (backOf (W := 0) (rm_kof l Z a0 hw [] p3 k0 k1 k2 h0 n0 (by omega) P0 P6 P7 P8) hZ (w_3 hw) (w_2 hw) (by decide) (by decide)) (g := (mkF m 1 #[vI p0, vI p1, vI p2, vI p3, vI p4, .unset, .unset, .unset, .unset, .unset] [(.int p3)])) rfl (by rw [hml]; rfl) (argsL := [(.int p3)]) (rest := []) (lenOf pd_28 rfl) rfl (Nat.le_of_eq rfl) (hb hby at_1) (fun _ _ => ⟨rfl, e0, (by decide : 0 + 0 ≤ _), (by decide : 0 + 0 ≤ _)⟩)
  dsimp only [Pt.U, Pt.locs, Pt.cells, Pt.slots] at X1 l1 y1 z1 st1 hQ1
  rw [l1, y1, z1] at X1
  obtain ⟨x1_kd, rfl, Nq1, Kq1⟩ := hQ1
  have N1 := Fr.app N0 Nq1
  obtain ⟨_, _, ⟨T2, L2, k2, n2⟩, -, X2, ⟨Lc2, hQ2, l2, y2, z2⟩, st2⟩ := Jvm.LawKit.callS X1 hx (y := m_4) hown (mvT hZ (w_8 hw)) (mvT hZ (w_9 hw)) (mvT hZ (w_10 hw)) (mvT hZ (w_11 hw)) (by decide) (backOf (W := 0) (rm_valueC l Z a0 hw [] (((p4 &&& (255 : Int32)).toUInt32.toUInt16.toUInt32.toInt32)) cp h0 n0 (by omega) P0 P1 hcs (own_ch p4)) hZ (w_11 hw) (w_10 hw) (by decide) (by decide)) (g := (mkF m 13 #[vI p0, vI p1, vI p2, vI p3, vI p4, vA x1_kd, .unset, .unset, .unset, .unset] [(.int ((p4 &&& (255 : Int32)).toUInt32.toUInt16.toUInt32.toInt32))])) rfl (by rw [hml]; rfl) (argsL := [(.int ((p4 &&& (255 : Int32)).toUInt32.toUInt16.toUInt32.toInt32))]) (rest := []) (lenOf pd_29 rfl) rfl (Nat.le_of_eq rfl) (hb hby at_13) (fun _ _ => ⟨rfl, Kq1, (by decide : 0 + 2 ≤ _), (by decide : 0 + 5 ≤ _)⟩)
  dsimp only [Pt.U, Pt.locs, Pt.cells, Pt.slots] at X2 l2 y2 z2 st2 hQ2
  rw [l2, y2, z2] at X2
  obtain ⟨x2_a_, x2_b, x2_k, rfl, Nq2, Kq2, r2_0, r2_1, r2_2, r2_3, r2_4, r2_5, r2_6⟩ := hQ2
  have N2 := Fr.app N1 Nq2
  have C2 := C0.trans (CHr.keep Kq2 sf0 C0.1)
  have z2' := Kq2.1
  have sf2_0 : Safe Z own_EL s.vm T2.heap x2_a_ := Safe.keep Kq2 sf0 C0.1 (Safe.new (by omega))
  have sf2_1 : Safe Z own_EL s.vm T2.heap x2_b := Safe.keep Kq2 sf0 C0.1 (Safe.new (by omega))
  have lt3 := own_l r2_2.lt
  have lt4 := own_l r2_3.lt
  have lt5 := own_l r2_4.lt
  have lt6 := own_l r2_5.lt
  obtain ⟨T9, h9, X9, e9, E9, A9, D9, -, st9⟩ := newO X2 hx hZ hown (w_34 hw) (w_35 hw) (w_36 hw) rfl (g := (mkF m 52 #[vI p0, vI p1, vI p2, vI p3, vI p4, vA x1_kd, vA x2_a_, vI 1, .val (.int (p2 &&& (2147483647 : Int32))), .unset] [])) rfl (hb hby at_52) (by decide) (by decide)
  obtain ⟨b9, g9⟩ : ∃ z, z = T2.heap.size := ⟨_, rfl⟩
  rw [← g9] at A9 D9 st9
  have z9 := E9.1
  have C9 := C2.trans (CHr.ext E9 C2.1)
  have lt10 := own_l A9.lt
  have F9_62 : Fld Z h9 b9 "java/lang/Throwable" "cause" "Ljava/lang/Throwable;" .null := D9 (Or.inl (w_62 hw)) (ty := (.object "java/lang/Throwable")) (by decide)
  have F9_65 : Fld Z h9 b9 "java/lang/Throwable" "stackTrace" "[Ljava/lang/StackTraceElement;" .null := D9 (Or.inl (w_65 hw)) (ty := (.array (.object "java/lang/StackTraceElement"))) (by decide)
  have F9_68 : Fld Z h9 b9 "java/lang/Throwable" "suppressedExceptions" "Ljava/util/List;" .null := D9 (Or.inl (w_68 hw)) (ty := (.object "java/util/List")) (by decide)
  have F9_70 : Fld Z h9 b9 "java/lang/Throwable" "detailMessage" "Ljava/lang/String;" .null := D9 (Or.inl (w_70 hw)) (ty := (.object "java/lang/String")) (by decide)
  have F9_72 : Fld Z h9 b9 "com/example/formulary/formulary/host/FormulaException" "kind" "Lcom/example/formulary/formulary/host/FormulaException$Kind;" .null := D9 (Or.inr (w_72 hw)) (ty := (.object "com/example/formulary/formulary/host/FormulaException$Kind")) (by decide)
  have F9_74 : Fld Z h9 b9 "com/example/formulary/formulary/host/FormulaException" "description" "Ljava/lang/String;" .null := D9 (Or.inr (w_74 hw)) (ty := (.object "java/lang/String")) (by decide)
  have F9_76 : Fld Z h9 b9 "com/example/formulary/formulary/host/FormulaException" "line" "I" (.int 0) := D9 (Or.inr (w_76 hw)) (ty := .int) (by decide)
  have F9_78 : Fld Z h9 b9 "com/example/formulary/formulary/host/FormulaException" "column" "I" (.int 0) := D9 (Or.inr (w_78 hw)) (ty := .int) (by decide)
  have f12 := r2_6.ext E9
  have f13 := r2_2.ext E9
  have f14 := r2_4.ext E9
  have f15 := r2_3.ext E9
  have f16 := r2_5.ext E9
  obtain ⟨_, _, ⟨T11, L11, k11, n11⟩, -, X11, hSb11, hgr11, ⟨Lc11, hQ11, l11, y11, z11, Cs11⟩, st11⟩ := X9.specialBackS hx (y := m_42) rfl hown (mvT hZ (w_96 hw)) (mvT hZ (w_97 hw)) (mvT hZ (w_98 hw)) (by decide) (backOfSH (W := 1) (rm_fi4 l Z a0 hw [] b9 x1_kd x2_a_ x2_b x2_k ([(.int (nar .byte ((((p4 &&& (255 : Int32)).toUInt32.toUInt16.toUInt32.toInt32).toInt8.toInt32))))]) ((1 : Int32)) ((p2 &&& (2147483647 : Int32))) cp su ss od ko vo ot kt2 vt h9 n0 (by omega) f12 P2 P3 A9 F9_62 F9_65 F9_68 F9_70 F9_72 F9_74 F9_76 F9_78 (by omega) P1 P4 P5 f13 f14 f15 f16 (own_ne (by omega)) (own_ne (by omega)) hsu hss hcs BO BT (by decide) (own_m0 p2) (by decide) (own_m1 hc46)) hZ (w_98 hw) (w_36 hw) (by decide) (by decide) (own_EW hw) C9.1) (g := (mkF m 64 #[vI p0, vI p1, vI p2, vI p3, vI p4, vA x1_kd, vA x2_a_, vI 1, .val (.int (p2 &&& (2147483647 : Int32))), .unset] [(.int (p2 &&& (2147483647 : Int32))), (.int 1), (.ref x2_a_), (.ref x1_kd), (.ref b9), (.ref b9)])) rfl (by rw [hml]; rfl) (Steps.refl _) (a := b9) (argsL := [(.ref x1_kd), (.ref x2_a_), (.int 1), (.int (p2 &&& (2147483647 : Int32)))]) (rest := [(.ref b9)]) (lenOf pd_31 rfl) rfl (Nat.le_of_eq rfl) (hb hby at_64) (fun _ _ => ⟨rfl, e9, (by decide : 3 + 13 ≤ _), (by decide : 15 + 524 ≤ _)⟩)
  dsimp only [Pt.U, Pt.locs, Pt.cells, Pt.slots] at X11 l11 y11 z11 st11 hQ11 hSb11 hgr11 Cs11
  rw [l11, y11, z11] at X11
  rw [e9] at hgr11
  obtain ⟨X11, hS11, hZ11, hown11⟩ := rebS hS0 (by omega) X11 hSb11 hgr11 hZ hown
  have hk11 : T11.heap.size ≤ T11.heap.size := Nat.le_refl _
  obtain ⟨rfl, Nq11, Kq11, r11_0, r11_1, r11_2⟩ := hQ11
  have N11 := Fr.app N2 Nq11
  have C11 := C9.trans Cs11
  have z11' := Kq11.1
  have lt17 := own_l r11_0.lt
  have lt18 := own_l r11_1.lt
  have lt19 := own_l r11_2.lt
  obtain ⟨cq20, kq20, qa20, qb20, qc20⟩ := isOf hZ11 rfl r11_0
  obtain ⟨_, _, ⟨T20, L20, k20, n20⟩, -, X20, ⟨Lc20, hQ20, l20, y20, z20⟩, st20⟩ := X11.virtualBack hx (y := m_43) (z := m_43) hown11 (mvT hZ11 (w_79 hw)) (mvT hZ11 (w_80 hw)) (notFace_of_selects (args := #[]) (mvT hZ11 (w_82 hw))) (mvT hZ11 (w_82 hw)) (mvT hZ11 (w_81 hw)) (by decide) (backOf (W := 0) (rm_hp1 l Z a0 hw [] b9 ((1 : Int32)) T11.heap n0 (by omega) r11_1 (by decide)) hZ11 (w_83 hw) (w_36 hw) (by decide) (by decide)) qa20 qc20 (g := (mkF m 71 #[vI p0, vI p1, vI p2, vI p3, vI p4, vA x1_kd, vA x2_a_, vI 1, .val (.int (p2 &&& (2147483647 : Int32))), vA b9] [(.ref b9)])) rfl (by rw [hml]; rfl) (Steps.refl _) (argsL := []) (rest := []) (lenOf pd_14 rfl) rfl (Nat.le_of_eq rfl) (hb hby at_71) (fun _ _ => ⟨rfl, rfl, (by decide : 16 + 0 ≤ _), (by decide : 539 + 0 ≤ _)⟩)
  dsimp only [Pt.U, Pt.locs, Pt.cells, Pt.slots] at X20 l20 y20 z20 st20 hQ20
  rw [l20, y20, z20] at X20
  obtain ⟨rfl, Nq20, Kq20⟩ := hQ20
  have N20 := Fr.app N11 Nq20
  obtain ⟨cq21, kq21, qa21, qb21, qc21⟩ := isOf hZ11 Kq20 r11_0
  obtain ⟨_, _, ⟨T21, L21, k21, n21⟩, -, X21, ⟨Lc21, hQ21, l21, y21, z21⟩, st21⟩ := X20.virtualBack hx (y := m_44) (z := m_44) hown11 (mvT hZ11 (w_84 hw)) (mvT hZ11 (w_85 hw)) (notFace_of_selects (args := #[]) (mvT hZ11 (w_87 hw))) (mvT hZ11 (w_87 hw)) (mvT hZ11 (w_86 hw)) (by decide) (backOf (W := 0) (rm_line l Z a0 hw [] b9 ((1 : Int32)) T11.heap n0 (by omega) r11_1) hZ11 (w_88 hw) (w_36 hw) (by decide) (by decide)) qa21 qc21 (g := (mkF m 79 #[vI p0, vI p1, vI p2, vI p3, vI p4, vA x1_kd, vA x2_a_, vI 1, .val (.int (p2 &&& (2147483647 : Int32))), vA b9] [(.ref b9)])) rfl (by rw [hml]; rfl) (Steps.refl _) (argsL := []) (rest := []) (lenOf pd_10 rfl) rfl (Nat.le_of_eq rfl) (hb hby at_79) (fun _ _ => ⟨rfl, Kq20, (by decide : 16 + 0 ≤ _), (by decide : 539 + 0 ≤ _)⟩)
  dsimp only [Pt.U, Pt.locs, Pt.cells, Pt.slots] at X21 l21 y21 z21 st21 hQ21
  rw [l21, y21, z21] at X21
  obtain ⟨rfl, Nq21, Kq21⟩ := hQ21
  have N21 := Fr.app N20 Nq21
  obtain ⟨cq22, kq22, qa22, qb22, qc22⟩ := isOf hZ11 Kq21 r11_0
  obtain ⟨_, _, ⟨T22, L22, k22, n22⟩, -, X22, ⟨Lc22, hQ22, l22, y22, z22⟩, st22⟩ := X21.virtualBack hx (y := m_45) (z := m_45) hown11 (mvT hZ11 (w_89 hw)) (mvT hZ11 (w_90 hw)) (notFace_of_selects (args := #[]) (mvT hZ11 (w_92 hw))) (mvT hZ11 (w_92 hw)) (mvT hZ11 (w_91 hw)) (by decide) (backOf (W := 0) (rm_colu l Z a0 hw [] b9 ((p2 &&& (2147483647 : Int32))) T11.heap n0 (by omega) r11_2) hZ11 (w_93 hw) (w_36 hw) (by decide) (by decide)) qa22 qc22 (g := (mkF m 89 #[vI p0, vI p1, vI p2, vI p3, vI p4, vA x1_kd, vA x2_a_, vI 1, .val (.int (p2 &&& (2147483647 : Int32))), vA b9] [(.ref b9)])) rfl (by rw [hml]; rfl) (Steps.refl _) (argsL := []) (rest := []) (lenOf pd_10 rfl) rfl (Nat.le_of_eq rfl) (hb hby at_89) (fun _ _ => ⟨rfl, Kq21, (by decide : 16 + 0 ≤ _), (by decide : 539 + 0 ≤ _)⟩)
  dsimp only [Pt.U, Pt.locs, Pt.cells, Pt.slots] at X22 l22 y22 z22 st22 hQ22
  rw [l22, y22, z22] at X22
  obtain ⟨rfl, Nq22, Kq22⟩ := hQ22
  have N22 := Fr.app N21 Nq22
  obtain ⟨fs, hr, hrun, hended, hEnd⟩ := X22.leaveW hS11 (by first | omega | (rw [(Kq22 : T22.heap = T11.heap)]; omega)) (v := some (.int 1)) (fun h => by rw [Bd.returns] at h; cases h)
  refine ⟨_, _, castTop (ef_23 m p0 p1 p2 p3 p4) ?_, hrun, hended, _, _, rfl, ?_, hEnd.1, hEnd.2.1, hEnd.2.2.1, hEnd.2.2.2.mono (by decide) (by decide)⟩
  · show Steps _ _ _ (s₁.setTop (mkF m 0 #[vI p0, vI p1, vI p2, vI p3, vI p4, .unset, .unset, .unset, .unset, .unset] [])) _
    refine XS.iloadN X0.here hx rfl (hb hby at_0) rfl ?_
    show Steps _ _ _ (s₁.setTop (mkF m 1 #[vI p0, vI p1, vI p2, vI p3, vI p4, .unset, .unset, .unset, .unset, .unset] [(.int p3)])) _
    refine st1 _ ?_
    show Steps _ _ _ (T1.setTop (mkF m 4 #[vI p0, vI p1, vI p2, vI p3, vI p4, .unset, .unset, .unset, .unset, .unset] [(.ref x1_kd)])) _
    refine XS.astore X1.here hx rfl (hb hby at_4) rfl rfl (l' := #[vI p0, vI p1, vI p2, vI p3, vI p4, vA x1_kd, .unset, .unset, .unset, .unset]) rfl ?_
    show Steps _ _ _ (T1.setTop (mkF m 6 #[vI p0, vI p1, vI p2, vI p3, vI p4, vA x1_kd, .unset, .unset, .unset, .unset] [])) _
    refine XS.iload X1.here hx rfl (hb hby at_6) rfl ?_
    show Steps _ _ _ (T1.setTop (mkF m 8 #[vI p0, vI p1, vI p2, vI p3, vI p4, vA x1_kd, .unset, .unset, .unset, .unset] [(.int p4)])) _
    refine XS.sipush X1.here hx rfl (hb hby at_8) ?_
    show Steps _ _ _ (T1.setTop (mkF m 11 #[vI p0, vI p1, vI p2, vI p3, vI p4, vA x1_kd, .unset, .unset, .unset, .unset] [(.int 255), (.int p4)])) _
    refine XS.iand X1.here hx rfl (hb hby at_11) rfl ?_
    show Steps _ _ _ (T1.setTop (mkF m 12 #[vI p0, vI p1, vI p2, vI p3, vI p4, vA x1_kd, .unset, .unset, .unset, .unset] [(.int (p4 &&& (255 : Int32)))])) _
    refine XS.i2c X1.here hx rfl (hb hby at_12) rfl ?_
    show Steps _ _ _ (T1.setTop (mkF m 13 #[vI p0, vI p1, vI p2, vI p3, vI p4, vA x1_kd, .unset, .unset, .unset, .unset] [(.int ((p4 &&& (255 : Int32)).toUInt32.toUInt16.toUInt32.toInt32))])) _
    refine st2 _ ?_
    show Steps _ _ _ (T2.setTop (mkF m 16 #[vI p0, vI p1, vI p2, vI p3, vI p4, vA x1_kd, .unset, .unset, .unset, .unset] [(.ref x2_a_)])) _
    refine XS.astore X2.here hx rfl (hb hby at_16) rfl rfl (l' := #[vI p0, vI p1, vI p2, vI p3, vI p4, vA x1_kd, vA x2_a_, .unset, .unset, .unset]) rfl ?_
    show Steps _ _ _ (T2.setTop (mkF m 18 #[vI p0, vI p1, vI p2, vI p3, vI p4, vA x1_kd, vA x2_a_, .unset, .unset, .unset] [])) _
    refine XS.iloadN X2.here hx rfl (hb hby at_18) rfl ?_
    show Steps _ _ _ (T2.setTop (mkF m 19 #[vI p0, vI p1, vI p2, vI p3, vI p4, vA x1_kd, vA x2_a_, .unset, .unset, .unset] [(.int p0)])) _
    refine XS.iconst X2.here hx rfl (hb hby at_19) ?_
    show Steps _ _ _ (T2.setTop (mkF m 20 #[vI p0, vI p1, vI p2, vI p3, vI p4, vA x1_kd, vA x2_a_, .unset, .unset, .unset] [(.int 1), (.int p0)])) _
    refine XS.iand X2.here hx rfl (hb hby at_20) rfl ?_
    show Steps _ _ _ (T2.setTop (mkF m 21 #[vI p0, vI p1, vI p2, vI p3, vI p4, vA x1_kd, vA x2_a_, .unset, .unset, .unset] [(.int (p0 &&& (1 : Int32)))])) _
    refine XS.ifNo X2.here hx rfl (hb hby at_21) rfl ((if0 _ _).trans (feq (hc21 : ¬ ((p0 &&& (1 : Int32)) = (0 : Int32)))).1) ?_
    show Steps _ _ _ (T2.setTop (mkF m 24 #[vI p0, vI p1, vI p2, vI p3, vI p4, vA x1_kd, vA x2_a_, .unset, .unset, .unset] [])) _
    refine XS.iloadN X2.here hx rfl (hb hby at_24) rfl ?_
    show Steps _ _ _ (T2.setTop (mkF m 25 #[vI p0, vI p1, vI p2, vI p3, vI p4, vA x1_kd, vA x2_a_, .unset, .unset, .unset] [(.int p1)])) _
    refine X2.ldcInt hx hown (mvT hZ (w_4 hw)) (g := (mkF m 25 #[vI p0, vI p1, vI p2, vI p3, vI p4, vA x1_kd, vA x2_a_, .unset, .unset, .unset] [(.int p1)])) rfl (hb hby at_25) _ ?_
    show Steps _ _ _ (T2.setTop (mkF m 27 #[vI p0, vI p1, vI p2, vI p3, vI p4, vA x1_kd, vA x2_a_, .unset, .unset, .unset] [(.int 2147483647), (.int p1)])) _
    refine XS.iand X2.here hx rfl (hb hby at_27) rfl ?_
    show Steps _ _ _ (T2.setTop (mkF m 28 #[vI p0, vI p1, vI p2, vI p3, vI p4, vA x1_kd, vA x2_a_, .unset, .unset, .unset] [(.int (p1 &&& (2147483647 : Int32)))])) _
    refine XS.istore X2.here hx rfl (hb hby at_28) rfl (l' := #[vI p0, vI p1, vI p2, vI p3, vI p4, vA x1_kd, vA x2_a_, .val (.int (p1 &&& (2147483647 : Int32))), .unset, .unset]) rfl ?_
    show Steps _ _ _ (T2.setTop (mkF m 30 #[vI p0, vI p1, vI p2, vI p3, vI p4, vA x1_kd, vA x2_a_, .val (.int (p1 &&& (2147483647 : Int32))), .unset, .unset] [])) _
    refine XS.iload X2.here hx rfl (hb hby at_30) rfl ?_
    show Steps _ _ _ (T2.setTop (mkF m 32 #[vI p0, vI p1, vI p2, vI p3, vI p4, vA x1_kd, vA x2_a_, .val (.int (p1 &&& (2147483647 : Int32))), .unset, .unset] [(.int (p1 &&& (2147483647 : Int32)))])) _
    refine XS.ifNo X2.here hx rfl (hb hby at_32) rfl ((if0 _ _).trans (teq (hc32 : (p1 &&& (2147483647 : Int32)) = (0 : Int32))).2) ?_
    show Steps _ _ _ (T2.setTop (mkF m 35 #[vI p0, vI p1, vI p2, vI p3, vI p4, vA x1_kd, vA x2_a_, .val (.int (p1 &&& (2147483647 : Int32))), .unset, .unset] [])) _
    refine XS.iconst X2.here hx rfl (hb hby at_35) ?_
    show Steps _ _ _ (T2.setTop (mkF m 36 #[vI p0, vI p1, vI p2, vI p3, vI p4, vA x1_kd, vA x2_a_, .val (.int (p1 &&& (2147483647 : Int32))), .unset, .unset] [(.int 1)])) _
    refine XS.istore X2.here hx rfl (hb hby at_36) rfl (l' := #[vI p0, vI p1, vI p2, vI p3, vI p4, vA x1_kd, vA x2_a_, vI 1, .unset, .unset]) rfl ?_
    show Steps _ _ _ (T2.setTop (mkF m 38 #[vI p0, vI p1, vI p2, vI p3, vI p4, vA x1_kd, vA x2_a_, vI 1, .unset, .unset] [])) _
    refine XS.iloadN X2.here hx rfl (hb hby at_38) rfl ?_
    show Steps _ _ _ (T2.setTop (mkF m 39 #[vI p0, vI p1, vI p2, vI p3, vI p4, vA x1_kd, vA x2_a_, vI 1, .unset, .unset] [(.int p2)])) _
    refine X2.ldcInt hx hown (mvT hZ (w_4 hw)) (g := (mkF m 39 #[vI p0, vI p1, vI p2, vI p3, vI p4, vA x1_kd, vA x2_a_, vI 1, .unset, .unset] [(.int p2)])) rfl (hb hby at_39) _ ?_
    show Steps _ _ _ (T2.setTop (mkF m 41 #[vI p0, vI p1, vI p2, vI p3, vI p4, vA x1_kd, vA x2_a_, vI 1, .unset, .unset] [(.int 2147483647), (.int p2)])) _
    refine XS.iand X2.here hx rfl (hb hby at_41) rfl ?_
    show Steps _ _ _ (T2.setTop (mkF m 42 #[vI p0, vI p1, vI p2, vI p3, vI p4, vA x1_kd, vA x2_a_, vI 1, .unset, .unset] [(.int (p2 &&& (2147483647 : Int32)))])) _
    refine XS.istore X2.here hx rfl (hb hby at_42) rfl (l' := #[vI p0, vI p1, vI p2, vI p3, vI p4, vA x1_kd, vA x2_a_, vI 1, .val (.int (p2 &&& (2147483647 : Int32))), .unset]) rfl ?_
    show Steps _ _ _ (T2.setTop (mkF m 44 #[vI p0, vI p1, vI p2, vI p3, vI p4, vA x1_kd, vA x2_a_, vI 1, .val (.int (p2 &&& (2147483647 : Int32))), .unset] [])) _
    refine XS.iload X2.here hx rfl (hb hby at_44) rfl ?_
    show Steps _ _ _ (T2.setTop (mkF m 46 #[vI p0, vI p1, vI p2, vI p3, vI p4, vA x1_kd, vA x2_a_, vI 1, .val (.int (p2 &&& (2147483647 : Int32))), .unset] [(.int (p2 &&& (2147483647 : Int32)))])) _
    refine XS.ifYes X2.here hx rfl (pc0 := 46) (pc' := 52) rfl (hb hby at_46) rfl ((if0 _ _).trans (feq (hc46 : ¬ ((p2 &&& (2147483647 : Int32)) = (0 : Int32)))).2) (by decide) (by decide) ?_
    show Steps _ _ _ (T2.setTop (mkF m 52 #[vI p0, vI p1, vI p2, vI p3, vI p4, vA x1_kd, vA x2_a_, vI 1, .val (.int (p2 &&& (2147483647 : Int32))), .unset] [])) _
    refine st9 _ ?_
    show Steps _ _ _ (T9.setTop (mkF m 55 #[vI p0, vI p1, vI p2, vI p3, vI p4, vA x1_kd, vA x2_a_, vI 1, .val (.int (p2 &&& (2147483647 : Int32))), .unset] [(.ref b9)])) _
    refine XS.dup X9.here hx rfl (hb hby at_55) rfl rfl ?_
    show Steps _ _ _ (T9.setTop (mkF m 56 #[vI p0, vI p1, vI p2, vI p3, vI p4, vA x1_kd, vA x2_a_, vI 1, .val (.int (p2 &&& (2147483647 : Int32))), .unset] [(.ref b9), (.ref b9)])) _
    refine XS.aload X9.here hx rfl (hb hby at_56) rfl rfl ?_
    show Steps _ _ _ (T9.setTop (mkF m 58 #[vI p0, vI p1, vI p2, vI p3, vI p4, vA x1_kd, vA x2_a_, vI 1, .val (.int (p2 &&& (2147483647 : Int32))), .unset] [(.ref x1_kd), (.ref b9), (.ref b9)])) _
    refine XS.aload X9.here hx rfl (hb hby at_58) rfl rfl ?_
    show Steps _ _ _ (T9.setTop (mkF m 60 #[vI p0, vI p1, vI p2, vI p3, vI p4, vA x1_kd, vA x2_a_, vI 1, .val (.int (p2 &&& (2147483647 : Int32))), .unset] [(.ref x2_a_), (.ref x1_kd), (.ref b9), (.ref b9)])) _
    refine XS.iload X9.here hx rfl (hb hby at_60) rfl ?_
    show Steps _ _ _ (T9.setTop (mkF m 62 #[vI p0, vI p1, vI p2, vI p3, vI p4, vA x1_kd, vA x2_a_, vI 1, .val (.int (p2 &&& (2147483647 : Int32))), .unset] [(.int 1), (.ref x2_a_), (.ref x1_kd), (.ref b9), (.ref b9)])) _
    refine XS.iload X9.here hx rfl (hb hby at_62) rfl ?_
    show Steps _ _ _ (T9.setTop (mkF m 64 #[vI p0, vI p1, vI p2, vI p3, vI p4, vA x1_kd, vA x2_a_, vI 1, .val (.int (p2 &&& (2147483647 : Int32))), .unset] [(.int (p2 &&& (2147483647 : Int32))), (.int 1), (.ref x2_a_), (.ref x1_kd), (.ref b9), (.ref b9)])) _
    refine st11.trans ?_
    show Steps _ _ _ (T11.setTop (mkF m 67 #[vI p0, vI p1, vI p2, vI p3, vI p4, vA x1_kd, vA x2_a_, vI 1, .val (.int (p2 &&& (2147483647 : Int32))), .unset] [(.ref b9)])) _
    refine XS.astore X11.here hx rfl (hb hby at_67) rfl rfl (l' := #[vI p0, vI p1, vI p2, vI p3, vI p4, vA x1_kd, vA x2_a_, vI 1, .val (.int (p2 &&& (2147483647 : Int32))), vA b9]) rfl ?_
    show Steps _ _ _ (T11.setTop (mkF m 69 #[vI p0, vI p1, vI p2, vI p3, vI p4, vA x1_kd, vA x2_a_, vI 1, .val (.int (p2 &&& (2147483647 : Int32))), vA b9] [])) _
    refine XS.aload X11.here hx rfl (hb hby at_69) rfl rfl ?_
    show Steps _ _ _ (T11.setTop (mkF m 71 #[vI p0, vI p1, vI p2, vI p3, vI p4, vA x1_kd, vA x2_a_, vI 1, .val (.int (p2 &&& (2147483647 : Int32))), vA b9] [(.ref b9)])) _
    refine st20.trans ?_
    show Steps _ _ _ (T20.setTop (mkF m 74 #[vI p0, vI p1, vI p2, vI p3, vI p4, vA x1_kd, vA x2_a_, vI 1, .val (.int (p2 &&& (2147483647 : Int32))), vA b9] [(.int 1)])) _
    refine XS.ifNo X20.here hx rfl (hb hby at_74) rfl ((if0 _ _).trans (feq ((by decide) : ¬ ((1 : Int32) = (0 : Int32)))).1) ?_
    show Steps _ _ _ (T20.setTop (mkF m 77 #[vI p0, vI p1, vI p2, vI p3, vI p4, vA x1_kd, vA x2_a_, vI 1, .val (.int (p2 &&& (2147483647 : Int32))), vA b9] [])) _
    refine XS.aload X20.here hx rfl (hb hby at_77) rfl rfl ?_
    show Steps _ _ _ (T20.setTop (mkF m 79 #[vI p0, vI p1, vI p2, vI p3, vI p4, vA x1_kd, vA x2_a_, vI 1, .val (.int (p2 &&& (2147483647 : Int32))), vA b9] [(.ref b9)])) _
    refine st21.trans ?_
    show Steps _ _ _ (T21.setTop (mkF m 82 #[vI p0, vI p1, vI p2, vI p3, vI p4, vA x1_kd, vA x2_a_, vI 1, .val (.int (p2 &&& (2147483647 : Int32))), vA b9] [(.int 1)])) _
    refine XS.iload X21.here hx rfl (hb hby at_82) rfl ?_
    show Steps _ _ _ (T21.setTop (mkF m 84 #[vI p0, vI p1, vI p2, vI p3, vI p4, vA x1_kd, vA x2_a_, vI 1, .val (.int (p2 &&& (2147483647 : Int32))), vA b9] [(.int 1), (.int 1)])) _
    refine XS.icmpNo X21.here hx rfl (hb hby at_84) rfl (teq ((by decide) : (1 : Int32) = (1 : Int32))).2 ?_
    show Steps _ _ _ (T21.setTop (mkF m 87 #[vI p0, vI p1, vI p2, vI p3, vI p4, vA x1_kd, vA x2_a_, vI 1, .val (.int (p2 &&& (2147483647 : Int32))), vA b9] [])) _
    refine XS.aload X21.here hx rfl (hb hby at_87) rfl rfl ?_
    show Steps _ _ _ (T21.setTop (mkF m 89 #[vI p0, vI p1, vI p2, vI p3, vI p4, vA x1_kd, vA x2_a_, vI 1, .val (.int (p2 &&& (2147483647 : Int32))), vA b9] [(.ref b9)])) _
    refine st22.trans ?_
    show Steps _ _ _ (T22.setTop (mkF m 92 #[vI p0, vI p1, vI p2, vI p3, vI p4, vA x1_kd, vA x2_a_, vI 1, .val (.int (p2 &&& (2147483647 : Int32))), vA b9] [(.int (p2 &&& (2147483647 : Int32)))])) _
    refine XS.iload X22.here hx rfl (hb hby at_92) rfl ?_
    show Steps _ _ _ (T22.setTop (mkF m 94 #[vI p0, vI p1, vI p2, vI p3, vI p4, vA x1_kd, vA x2_a_, vI 1, .val (.int (p2 &&& (2147483647 : Int32))), vA b9] [(.int (p2 &&& (2147483647 : Int32))), (.int (p2 &&& (2147483647 : Int32)))])) _
    refine XS.icmpNo X22.here hx rfl (hb hby at_94) rfl (teq (rfl : (p2 &&& (2147483647 : Int32)) = (p2 &&& (2147483647 : Int32)))).2 ?_
    show Steps _ _ _ (T22.setTop (mkF m 97 #[vI p0, vI p1, vI p2, vI p3, vI p4, vA x1_kd, vA x2_a_, vI 1, .val (.int (p2 &&& (2147483647 : Int32))), vA b9] [])) _
    refine XS.iconst X22.here hx rfl (hb hby at_97) ?_
    show Steps _ _ _ (T22.setTop (mkF m 98 #[vI p0, vI p1, vI p2, vI p3, vI p4, vA x1_kd, vA x2_a_, vI 1, .val (.int (p2 &&& (2147483647 : Int32))), vA b9] [(.int 1)])) _
    refine XS.goto X22.here hx rfl (pc0 := 98) (pc' := 102) rfl (hb hby at_98) (by decide) (by decide) ?_
    show Steps _ _ _ (T22.setTop (mkF m 102 #[vI p0, vI p1, vI p2, vI p3, vI p4, vA x1_kd, vA x2_a_, vI 1, .val (.int (p2 &&& (2147483647 : Int32))), vA b9] [(.int 1)])) _
    exact retN X22 hx (t := .boolean) Bd.returns (by simp) (hb hby at_102) hr
  · show Q_law Z p0 p1 p2 p3 p4 cp su ss od ko vo ot kt2 vt k0 k1 k2 h0 n0 _ T22.heap _
    rw [(Kq22 : T22.heap = T11.heap)]
    exact ⟨rfl, N22⟩
theorem rm_law_10 (l : Launch) (Z : State) (a0 : Array Value) (hw : HW Z a0) (ws : List Jvm.Cond) (p0 : Int32) (p1 : Int32) (p2 : Int32) (p3 : Int32) (p4 : Int32) (cp : Int32) (su : Value) (ss : Value) (od : Addr) (ko : ClassId) (vo : List Value) (ot : Addr) (kt2 : ClassId) (vt : List Value) (k0 : Addr) (k1 : Addr) (k2 : Addr) (h0 : Heap) (n0 : Nat) (Z0 : n0 ≤ h0.size) (P0 : Old Z n0 h0) (P1 : sta0 Z (.int cp)) (P2 : Sta Z Z.heap "java/lang/Throwable" "UNASSIGNED_STACK" "[Ljava/lang/StackTraceElement;" su) (P3 : Sta Z Z.heap "java/lang/Throwable" "SUPPRESSED_SENTINEL" "Ljava/util/List;" ss) (P4 : Sta Z Z.heap "java/lang/Integer" "DigitOnes" "[B" (.ref od)) (P5 : Sta Z Z.heap "java/lang/Integer" "DigitTens" "[B" (.ref ot)) (P6 : Sta Z Z.heap "com/example/formulary/formulary/host/FormulaException$Kind" "SYNTAX" "Lcom/example/formulary/formulary/host/FormulaException$Kind;" (.ref k0)) (P7 : Sta Z Z.heap "com/example/formulary/formulary/host/FormulaException$Kind" "RUNNING" "Lcom/example/formulary/formulary/host/FormulaException$Kind;" (.ref k1)) (P8 : Sta Z Z.heap "com/example/formulary/formulary/host/FormulaException$Kind" "LIMIT" "Lcom/example/formulary/formulary/host/FormulaException$Kind;" (.ref k2)) (hsu : su.isRef = true) (hss : ss.isRef = true) (hcs : ¬ (cp = (0 : Int32))) (BO : Arv Z Z.heap od ko .byte (100 : Int32) vo (.int 0)) (BT : Arv Z Z.heap ot kt2 .byte (100 : Int32) vt (.int 0)) (hc21 : ¬ ((p0 &&& (1 : Int32)) = (0 : Int32))) (hc32 : ¬ ((p1 &&& (2147483647 : Int32)) = (0 : Int32))) (hc46 : (p2 &&& (2147483647 : Int32)) = (0 : Int32)) :
    MetFree l x (head1 (Jvm.Cond.code x code maxLocals ret :: ws) room_1) (fun as' U => as' = #[(.int p0), (.int p1), (.int p2), (.int p3), (.int p4)] ∧ Z.Warmed39 U.vm ∧ U.heap = h0 ∧ CHv Z own_EL U.vm h0) (fun _ _ _ _ _ => True) (fun _ U o U' => ∃ v L, o = .returned v ∧ Q_law Z p0 p1 p2 p3 p4 cp su ss od ko vo ot kt2 vt k0 k1 k2 h0 n0 v U'.heap L ∧ ReturnedEndW U o U' L room_1.cells room_1.slots) := by
  refine MetFree.of_bodySF (plainFor_of_name pn_13) hisR ?_
  intro p e s m args below meth c s₁ Bd hml0 hP hK
  obtain ⟨rfl, hZ, hh, hCH⟩ := hP
  have hx := Bd.exec
  have hby := Bd.bytes
  have hml : c.maxLocals = 10 := hml0
  have hown : (s.setVm s.vm).vm.findClass "com/example/formulary/formulary/host/FormulaExceptionHasPlacePinLaw" = some m.cls := findClass_of_methodNamed Bd.named
  have hnm := (name_of_methodNamed Bd.named Bd.method).1
  have X0 : Stand p l e room_1 (s.setVm s.vm) m #[(.int p0), (.int p1), (.int p2), (.int p3), (.int p4)] below meth c s₁ [] 0 0 := Stand.of_body Bd
  have e0 : s₁.heap = h0 := by rw [← hh, Bd.state]; rfl
  have N0 := Fr.nil n0
  have hZ : Z.Warmed39 (s.setVm s.vm).vm := hZ
  have hS0 : s.Since s.vm h0.size := (State.WarmedH.refl s).since _
  have hk0 : h0.size ≤ h0.size := Nat.le_refl _
  have C0 : CHr Z own_EL s.vm h0 s.vm h0 := CHr.refl hCH
  obtain ⟨_, _, ⟨T1, L1, k1, n1⟩, -, X1, ⟨Lc1, hQ1, l1, y1, z1⟩, st1⟩ := Jvm.LawKit.callS X0 hx (y := m_46) hown (mvT hZ (w_0 hw)) (mvT hZ (w_1 hw)) (mvT hZ (w_2 hw)) (mvT hZ (w_3 hw)) (by decide) (backOf (W := 0) (rm_kof l Z a0 hw [] p3 k0 k1 k2 h0 n0 (by omega) P0 P6 P7 P8) hZ (w_3 hw) (w_2 hw) (by decide) (by decide)) (g := (mkF m 1 #[vI p0, vI p1, vI p2, vI p3, vI p4, .unset, .unset, .unset, .unset, .unset] [(.int p3)])) rfl (by rw [hml]; rfl) (argsL := [(.int p3)]) (rest := []) (lenOf pd_28 rfl) rfl (Nat.le_of_eq rfl) (hb hby at_1) (fun _ _ => ⟨rfl, e0, (by decide : 0 + 0 ≤ _), (by decide : 0 + 0 ≤ _)⟩)
  dsimp only [Pt.U, Pt.locs, Pt.cells, Pt.slots] at X1 l1 y1 z1 st1 hQ1
  rw [l1, y1, z1] at X1
  obtain ⟨x1_kd, rfl, Nq1, Kq1⟩ := hQ1
  have N1 := Fr.app N0 Nq1
  obtain ⟨_, _, ⟨T2, L2, k2, n2⟩, -, X2, ⟨Lc2, hQ2, l2, y2, z2⟩, st2⟩ := Jvm.LawKit.callS X1 hx (y := m_4) hown (mvT hZ (w_8 hw)) (mvT hZ (w_9 hw)) (mvT hZ (w_10 hw)) (mvT hZ (w_11 hw)) (by decide) (backOf (W := 0) (rm_valueC l Z a0 hw [] (((p4 &&& (255 : Int32)).toUInt32.toUInt16.toUInt32.toInt32)) cp h0 n0 (by omega) P0 P1 hcs (own_ch p4)) hZ (w_11 hw) (w_10 hw) (by decide) (by decide)) (g := (mkF m 13 #[vI p0, vI p1, vI p2, vI p3, vI p4, vA x1_kd, .unset, .unset, .unset, .unset] [(.int ((p4 &&& (255 : Int32)).toUInt32.toUInt16.toUInt32.toInt32))])) rfl (by rw [hml]; rfl) (argsL := [(.int ((p4 &&& (255 : Int32)).toUInt32.toUInt16.toUInt32.toInt32))]) (rest := []) (lenOf pd_29 rfl) rfl (Nat.le_of_eq rfl) (hb hby at_13) (fun _ _ => ⟨rfl, Kq1, (by decide : 0 + 2 ≤ _), (by decide : 0 + 5 ≤ _)⟩)
  dsimp only [Pt.U, Pt.locs, Pt.cells, Pt.slots] at X2 l2 y2 z2 st2 hQ2
  rw [l2, y2, z2] at X2
  obtain ⟨x2_a_, x2_b, x2_k, rfl, Nq2, Kq2, r2_0, r2_1, r2_2, r2_3, r2_4, r2_5, r2_6⟩ := hQ2
  have N2 := Fr.app N1 Nq2
  have C2 := C0.trans (CHr.keep Kq2 sf0 C0.1)
  have z2' := Kq2.1
  have sf2_0 : Safe Z own_EL s.vm T2.heap x2_a_ := Safe.keep Kq2 sf0 C0.1 (Safe.new (by omega))
  have sf2_1 : Safe Z own_EL s.vm T2.heap x2_b := Safe.keep Kq2 sf0 C0.1 (Safe.new (by omega))
  have lt3 := own_l r2_2.lt
  have lt4 := own_l r2_3.lt
  have lt5 := own_l r2_4.lt
  have lt6 := own_l r2_5.lt
  obtain ⟨T9, h9, X9, e9, E9, A9, D9, -, st9⟩ := newO X2 hx hZ hown (w_34 hw) (w_35 hw) (w_36 hw) rfl (g := (mkF m 52 #[vI p0, vI p1, vI p2, vI p3, vI p4, vA x1_kd, vA x2_a_, .val (.int (p1 &&& (2147483647 : Int32))), vI 1, .unset] [])) rfl (hb hby at_52) (by decide) (by decide)
  obtain ⟨b9, g9⟩ : ∃ z, z = T2.heap.size := ⟨_, rfl⟩
  rw [← g9] at A9 D9 st9
  have z9 := E9.1
  have C9 := C2.trans (CHr.ext E9 C2.1)
  have lt10 := own_l A9.lt
  have F9_62 : Fld Z h9 b9 "java/lang/Throwable" "cause" "Ljava/lang/Throwable;" .null := D9 (Or.inl (w_62 hw)) (ty := (.object "java/lang/Throwable")) (by decide)
  have F9_65 : Fld Z h9 b9 "java/lang/Throwable" "stackTrace" "[Ljava/lang/StackTraceElement;" .null := D9 (Or.inl (w_65 hw)) (ty := (.array (.object "java/lang/StackTraceElement"))) (by decide)
  have F9_68 : Fld Z h9 b9 "java/lang/Throwable" "suppressedExceptions" "Ljava/util/List;" .null := D9 (Or.inl (w_68 hw)) (ty := (.object "java/util/List")) (by decide)
  have F9_70 : Fld Z h9 b9 "java/lang/Throwable" "detailMessage" "Ljava/lang/String;" .null := D9 (Or.inl (w_70 hw)) (ty := (.object "java/lang/String")) (by decide)
  have F9_72 : Fld Z h9 b9 "com/example/formulary/formulary/host/FormulaException" "kind" "Lcom/example/formulary/formulary/host/FormulaException$Kind;" .null := D9 (Or.inr (w_72 hw)) (ty := (.object "com/example/formulary/formulary/host/FormulaException$Kind")) (by decide)
  have F9_74 : Fld Z h9 b9 "com/example/formulary/formulary/host/FormulaException" "description" "Ljava/lang/String;" .null := D9 (Or.inr (w_74 hw)) (ty := (.object "java/lang/String")) (by decide)
  have F9_76 : Fld Z h9 b9 "com/example/formulary/formulary/host/FormulaException" "line" "I" (.int 0) := D9 (Or.inr (w_76 hw)) (ty := .int) (by decide)
  have F9_78 : Fld Z h9 b9 "com/example/formulary/formulary/host/FormulaException" "column" "I" (.int 0) := D9 (Or.inr (w_78 hw)) (ty := .int) (by decide)
  have f12 := r2_6.ext E9
  have f13 := r2_2.ext E9
  have f14 := r2_4.ext E9
  have f15 := r2_3.ext E9
  have f16 := r2_5.ext E9
  obtain ⟨_, _, ⟨T11, L11, k11, n11⟩, -, X11, hSb11, hgr11, ⟨Lc11, hQ11, l11, y11, z11, Cs11⟩, st11⟩ := X9.specialBackS hx (y := m_42) rfl hown (mvT hZ (w_96 hw)) (mvT hZ (w_97 hw)) (mvT hZ (w_98 hw)) (by decide) (backOfSH (W := 1) (rm_fi4 l Z a0 hw [] b9 x1_kd x2_a_ x2_b x2_k ([(.int (nar .byte ((((p4 &&& (255 : Int32)).toUInt32.toUInt16.toUInt32.toInt32).toInt8.toInt32))))]) ((p1 &&& (2147483647 : Int32))) ((1 : Int32)) cp su ss od ko vo ot kt2 vt h9 n0 (by omega) f12 P2 P3 A9 F9_62 F9_65 F9_68 F9_70 F9_72 F9_74 F9_76 F9_78 (by omega) P1 P4 P5 f13 f14 f15 f16 (own_ne (by omega)) (own_ne (by omega)) hsu hss hcs BO BT (own_m0 p1) (by decide) (own_m1 hc32) (by decide)) hZ (w_98 hw) (w_36 hw) (by decide) (by decide) (own_EW hw) C9.1) (g := (mkF m 64 #[vI p0, vI p1, vI p2, vI p3, vI p4, vA x1_kd, vA x2_a_, .val (.int (p1 &&& (2147483647 : Int32))), vI 1, .unset] [(.int 1), (.int (p1 &&& (2147483647 : Int32))), (.ref x2_a_), (.ref x1_kd), (.ref b9), (.ref b9)])) rfl (by rw [hml]; rfl) (Steps.refl _) (a := b9) (argsL := [(.ref x1_kd), (.ref x2_a_), (.int (p1 &&& (2147483647 : Int32))), (.int 1)]) (rest := [(.ref b9)]) (lenOf pd_31 rfl) rfl (Nat.le_of_eq rfl) (hb hby at_64) (fun _ _ => ⟨rfl, e9, (by decide : 3 + 13 ≤ _), (by decide : 15 + 524 ≤ _)⟩)
  dsimp only [Pt.U, Pt.locs, Pt.cells, Pt.slots] at X11 l11 y11 z11 st11 hQ11 hSb11 hgr11 Cs11
  rw [l11, y11, z11] at X11
  rw [e9] at hgr11
  obtain ⟨X11, hS11, hZ11, hown11⟩ := rebS hS0 (by omega) X11 hSb11 hgr11 hZ hown
  have hk11 : T11.heap.size ≤ T11.heap.size := Nat.le_refl _
  obtain ⟨rfl, Nq11, Kq11, r11_0, r11_1, r11_2⟩ := hQ11
  have N11 := Fr.app N2 Nq11
  have C11 := C9.trans Cs11
  have z11' := Kq11.1
  have lt17 := own_l r11_0.lt
  have lt18 := own_l r11_1.lt
  have lt19 := own_l r11_2.lt
  obtain ⟨cq20, kq20, qa20, qb20, qc20⟩ := isOf hZ11 rfl r11_0
  obtain ⟨_, _, ⟨T20, L20, k20, n20⟩, -, X20, ⟨Lc20, hQ20, l20, y20, z20⟩, st20⟩ := X11.virtualBack hx (y := m_43) (z := m_43) hown11 (mvT hZ11 (w_79 hw)) (mvT hZ11 (w_80 hw)) (notFace_of_selects (args := #[]) (mvT hZ11 (w_82 hw))) (mvT hZ11 (w_82 hw)) (mvT hZ11 (w_81 hw)) (by decide) (backOf (W := 0) (rm_hp1 l Z a0 hw [] b9 ((p1 &&& (2147483647 : Int32))) T11.heap n0 (by omega) r11_1 (own_mp hc32)) hZ11 (w_83 hw) (w_36 hw) (by decide) (by decide)) qa20 qc20 (g := (mkF m 71 #[vI p0, vI p1, vI p2, vI p3, vI p4, vA x1_kd, vA x2_a_, .val (.int (p1 &&& (2147483647 : Int32))), vI 1, vA b9] [(.ref b9)])) rfl (by rw [hml]; rfl) (Steps.refl _) (argsL := []) (rest := []) (lenOf pd_14 rfl) rfl (Nat.le_of_eq rfl) (hb hby at_71) (fun _ _ => ⟨rfl, rfl, (by decide : 16 + 0 ≤ _), (by decide : 539 + 0 ≤ _)⟩)
  dsimp only [Pt.U, Pt.locs, Pt.cells, Pt.slots] at X20 l20 y20 z20 st20 hQ20
  rw [l20, y20, z20] at X20
  obtain ⟨rfl, Nq20, Kq20⟩ := hQ20
  have N20 := Fr.app N11 Nq20
  obtain ⟨cq21, kq21, qa21, qb21, qc21⟩ := isOf hZ11 Kq20 r11_0
  obtain ⟨_, _, ⟨T21, L21, k21, n21⟩, -, X21, ⟨Lc21, hQ21, l21, y21, z21⟩, st21⟩ := X20.virtualBack hx (y := m_44) (z := m_44) hown11 (mvT hZ11 (w_84 hw)) (mvT hZ11 (w_85 hw)) (notFace_of_selects (args := #[]) (mvT hZ11 (w_87 hw))) (mvT hZ11 (w_87 hw)) (mvT hZ11 (w_86 hw)) (by decide) (backOf (W := 0) (rm_line l Z a0 hw [] b9 ((p1 &&& (2147483647 : Int32))) T11.heap n0 (by omega) r11_1) hZ11 (w_88 hw) (w_36 hw) (by decide) (by decide)) qa21 qc21 (g := (mkF m 79 #[vI p0, vI p1, vI p2, vI p3, vI p4, vA x1_kd, vA x2_a_, .val (.int (p1 &&& (2147483647 : Int32))), vI 1, vA b9] [(.ref b9)])) rfl (by rw [hml]; rfl) (Steps.refl _) (argsL := []) (rest := []) (lenOf pd_10 rfl) rfl (Nat.le_of_eq rfl) (hb hby at_79) (fun _ _ => ⟨rfl, Kq20, (by decide : 16 + 0 ≤ _), (by decide : 539 + 0 ≤ _)⟩)
  dsimp only [Pt.U, Pt.locs, Pt.cells, Pt.slots] at X21 l21 y21 z21 st21 hQ21
  rw [l21, y21, z21] at X21
  obtain ⟨rfl, Nq21, Kq21⟩ := hQ21
  have N21 := Fr.app N20 Nq21
  obtain ⟨cq22, kq22, qa22, qb22, qc22⟩ := isOf hZ11 Kq21 r11_0
  obtain ⟨_, _, ⟨T22, L22, k22, n22⟩, -, X22, ⟨Lc22, hQ22, l22, y22, z22⟩, st22⟩ := X21.virtualBack hx (y := m_45) (z := m_45) hown11 (mvT hZ11 (w_89 hw)) (mvT hZ11 (w_90 hw)) (notFace_of_selects (args := #[]) (mvT hZ11 (w_92 hw))) (mvT hZ11 (w_92 hw)) (mvT hZ11 (w_91 hw)) (by decide) (backOf (W := 0) (rm_colu l Z a0 hw [] b9 ((1 : Int32)) T11.heap n0 (by omega) r11_2) hZ11 (w_93 hw) (w_36 hw) (by decide) (by decide)) qa22 qc22 (g := (mkF m 89 #[vI p0, vI p1, vI p2, vI p3, vI p4, vA x1_kd, vA x2_a_, .val (.int (p1 &&& (2147483647 : Int32))), vI 1, vA b9] [(.ref b9)])) rfl (by rw [hml]; rfl) (Steps.refl _) (argsL := []) (rest := []) (lenOf pd_10 rfl) rfl (Nat.le_of_eq rfl) (hb hby at_89) (fun _ _ => ⟨rfl, Kq21, (by decide : 16 + 0 ≤ _), (by decide : 539 + 0 ≤ _)⟩)
  dsimp only [Pt.U, Pt.locs, Pt.cells, Pt.slots] at X22 l22 y22 z22 st22 hQ22
  rw [l22, y22, z22] at X22
  obtain ⟨rfl, Nq22, Kq22⟩ := hQ22
  have N22 := Fr.app N21 Nq22
  obtain ⟨fs, hr, hrun, hended, hEnd⟩ := X22.leaveW hS11 (by first | omega | (rw [(Kq22 : T22.heap = T11.heap)]; omega)) (v := some (.int 1)) (fun h => by rw [Bd.returns] at h; cases h)
  refine ⟨_, _, castTop (ef_23 m p0 p1 p2 p3 p4) ?_, hrun, hended, _, _, rfl, ?_, hEnd.1, hEnd.2.1, hEnd.2.2.1, hEnd.2.2.2.mono (by decide) (by decide)⟩
  · show Steps _ _ _ (s₁.setTop (mkF m 0 #[vI p0, vI p1, vI p2, vI p3, vI p4, .unset, .unset, .unset, .unset, .unset] [])) _
    refine XS.iloadN X0.here hx rfl (hb hby at_0) rfl ?_
    show Steps _ _ _ (s₁.setTop (mkF m 1 #[vI p0, vI p1, vI p2, vI p3, vI p4, .unset, .unset, .unset, .unset, .unset] [(.int p3)])) _
    refine st1 _ ?_
    show Steps _ _ _ (T1.setTop (mkF m 4 #[vI p0, vI p1, vI p2, vI p3, vI p4, .unset, .unset, .unset, .unset, .unset] [(.ref x1_kd)])) _
    refine XS.astore X1.here hx rfl (hb hby at_4) rfl rfl (l' := #[vI p0, vI p1, vI p2, vI p3, vI p4, vA x1_kd, .unset, .unset, .unset, .unset]) rfl ?_
    show Steps _ _ _ (T1.setTop (mkF m 6 #[vI p0, vI p1, vI p2, vI p3, vI p4, vA x1_kd, .unset, .unset, .unset, .unset] [])) _
    refine XS.iload X1.here hx rfl (hb hby at_6) rfl ?_
    show Steps _ _ _ (T1.setTop (mkF m 8 #[vI p0, vI p1, vI p2, vI p3, vI p4, vA x1_kd, .unset, .unset, .unset, .unset] [(.int p4)])) _
    refine XS.sipush X1.here hx rfl (hb hby at_8) ?_
    show Steps _ _ _ (T1.setTop (mkF m 11 #[vI p0, vI p1, vI p2, vI p3, vI p4, vA x1_kd, .unset, .unset, .unset, .unset] [(.int 255), (.int p4)])) _
    refine XS.iand X1.here hx rfl (hb hby at_11) rfl ?_
    show Steps _ _ _ (T1.setTop (mkF m 12 #[vI p0, vI p1, vI p2, vI p3, vI p4, vA x1_kd, .unset, .unset, .unset, .unset] [(.int (p4 &&& (255 : Int32)))])) _
    refine XS.i2c X1.here hx rfl (hb hby at_12) rfl ?_
    show Steps _ _ _ (T1.setTop (mkF m 13 #[vI p0, vI p1, vI p2, vI p3, vI p4, vA x1_kd, .unset, .unset, .unset, .unset] [(.int ((p4 &&& (255 : Int32)).toUInt32.toUInt16.toUInt32.toInt32))])) _
    refine st2 _ ?_
    show Steps _ _ _ (T2.setTop (mkF m 16 #[vI p0, vI p1, vI p2, vI p3, vI p4, vA x1_kd, .unset, .unset, .unset, .unset] [(.ref x2_a_)])) _
    refine XS.astore X2.here hx rfl (hb hby at_16) rfl rfl (l' := #[vI p0, vI p1, vI p2, vI p3, vI p4, vA x1_kd, vA x2_a_, .unset, .unset, .unset]) rfl ?_
    show Steps _ _ _ (T2.setTop (mkF m 18 #[vI p0, vI p1, vI p2, vI p3, vI p4, vA x1_kd, vA x2_a_, .unset, .unset, .unset] [])) _
    refine XS.iloadN X2.here hx rfl (hb hby at_18) rfl ?_
    show Steps _ _ _ (T2.setTop (mkF m 19 #[vI p0, vI p1, vI p2, vI p3, vI p4, vA x1_kd, vA x2_a_, .unset, .unset, .unset] [(.int p0)])) _
    refine XS.iconst X2.here hx rfl (hb hby at_19) ?_
    show Steps _ _ _ (T2.setTop (mkF m 20 #[vI p0, vI p1, vI p2, vI p3, vI p4, vA x1_kd, vA x2_a_, .unset, .unset, .unset] [(.int 1), (.int p0)])) _
    refine XS.iand X2.here hx rfl (hb hby at_20) rfl ?_
    show Steps _ _ _ (T2.setTop (mkF m 21 #[vI p0, vI p1, vI p2, vI p3, vI p4, vA x1_kd, vA x2_a_, .unset, .unset, .unset] [(.int (p0 &&& (1 : Int32)))])) _
    refine XS.ifNo X2.here hx rfl (hb hby at_21) rfl ((if0 _ _).trans (feq (hc21 : ¬ ((p0 &&& (1 : Int32)) = (0 : Int32)))).1) ?_
    show Steps _ _ _ (T2.setTop (mkF m 24 #[vI p0, vI p1, vI p2, vI p3, vI p4, vA x1_kd, vA x2_a_, .unset, .unset, .unset] [])) _
    refine XS.iloadN X2.here hx rfl (hb hby at_24) rfl ?_
    show Steps _ _ _ (T2.setTop (mkF m 25 #[vI p0, vI p1, vI p2, vI p3, vI p4, vA x1_kd, vA x2_a_, .unset, .unset, .unset] [(.int p1)])) _
    refine X2.ldcInt hx hown (mvT hZ (w_4 hw)) (g := (mkF m 25 #[vI p0, vI p1, vI p2, vI p3, vI p4, vA x1_kd, vA x2_a_, .unset, .unset, .unset] [(.int p1)])) rfl (hb hby at_25) _ ?_
    show Steps _ _ _ (T2.setTop (mkF m 27 #[vI p0, vI p1, vI p2, vI p3, vI p4, vA x1_kd, vA x2_a_, .unset, .unset, .unset] [(.int 2147483647), (.int p1)])) _
    refine XS.iand X2.here hx rfl (hb hby at_27) rfl ?_
    show Steps _ _ _ (T2.setTop (mkF m 28 #[vI p0, vI p1, vI p2, vI p3, vI p4, vA x1_kd, vA x2_a_, .unset, .unset, .unset] [(.int (p1 &&& (2147483647 : Int32)))])) _
    refine XS.istore X2.here hx rfl (hb hby at_28) rfl (l' := #[vI p0, vI p1, vI p2, vI p3, vI p4, vA x1_kd, vA x2_a_, .val (.int (p1 &&& (2147483647 : Int32))), .unset, .unset]) rfl ?_
    show Steps _ _ _ (T2.setTop (mkF m 30 #[vI p0, vI p1, vI p2, vI p3, vI p4, vA x1_kd, vA x2_a_, .val (.int (p1 &&& (2147483647 : Int32))), .unset, .unset] [])) _
    refine XS.iload X2.here hx rfl (hb hby at_30) rfl ?_
    show Steps _ _ _ (T2.setTop (mkF m 32 #[vI p0, vI p1, vI p2, vI p3, vI p4, vA x1_kd, vA x2_a_, .val (.int (p1 &&& (2147483647 : Int32))), .unset, .unset] [(.int (p1 &&& (2147483647 : Int32)))])) _
    refine XS.ifYes X2.here hx rfl (pc0 := 32) (pc' := 38) rfl (hb hby at_32) rfl ((if0 _ _).trans (feq (hc32 : ¬ ((p1 &&& (2147483647 : Int32)) = (0 : Int32)))).2) (by decide) (by decide) ?_
    show Steps _ _ _ (T2.setTop (mkF m 38 #[vI p0, vI p1, vI p2, vI p3, vI p4, vA x1_kd, vA x2_a_, .val (.int (p1 &&& (2147483647 : Int32))), .unset, .unset] [])) _
    refine XS.iloadN X2.here hx rfl (hb hby at_38) rfl ?_
    show Steps _ _ _ (T2.setTop (mkF m 39 #[vI p0, vI p1, vI p2, vI p3, vI p4, vA x1_kd, vA x2_a_, .val (.int (p1 &&& (2147483647 : Int32))), .unset, .unset] [(.int p2)])) _
    refine X2.ldcInt hx hown (mvT hZ (w_4 hw)) (g := (mkF m 39 #[vI p0, vI p1, vI p2, vI p3, vI p4, vA x1_kd, vA x2_a_, .val (.int (p1 &&& (2147483647 : Int32))), .unset, .unset] [(.int p2)])) rfl (hb hby at_39) _ ?_
    show Steps _ _ _ (T2.setTop (mkF m 41 #[vI p0, vI p1, vI p2, vI p3, vI p4, vA x1_kd, vA x2_a_, .val (.int (p1 &&& (2147483647 : Int32))), .unset, .unset] [(.int 2147483647), (.int p2)])) _
    refine XS.iand X2.here hx rfl (hb hby at_41) rfl ?_
    show Steps _ _ _ (T2.setTop (mkF m 42 #[vI p0, vI p1, vI p2, vI p3, vI p4, vA x1_kd, vA x2_a_, .val (.int (p1 &&& (2147483647 : Int32))), .unset, .unset] [(.int (p2 &&& (2147483647 : Int32)))])) _
    refine XS.istore X2.here hx rfl (hb hby at_42) rfl (l' := #[vI p0, vI p1, vI p2, vI p3, vI p4, vA x1_kd, vA x2_a_, .val (.int (p1 &&& (2147483647 : Int32))), .val (.int (p2 &&& (2147483647 : Int32))), .unset]) rfl ?_
    show Steps _ _ _ (T2.setTop (mkF m 44 #[vI p0, vI p1, vI p2, vI p3, vI p4, vA x1_kd, vA x2_a_, .val (.int (p1 &&& (2147483647 : Int32))), .val (.int (p2 &&& (2147483647 : Int32))), .unset] [])) _
    refine XS.iload X2.here hx rfl (hb hby at_44) rfl ?_
    show Steps _ _ _ (T2.setTop (mkF m 46 #[vI p0, vI p1, vI p2, vI p3, vI p4, vA x1_kd, vA x2_a_, .val (.int (p1 &&& (2147483647 : Int32))), .val (.int (p2 &&& (2147483647 : Int32))), .unset] [(.int (p2 &&& (2147483647 : Int32)))])) _
    refine XS.ifNo X2.here hx rfl (hb hby at_46) rfl ((if0 _ _).trans (teq (hc46 : (p2 &&& (2147483647 : Int32)) = (0 : Int32))).2) ?_
    show Steps _ _ _ (T2.setTop (mkF m 49 #[vI p0, vI p1, vI p2, vI p3, vI p4, vA x1_kd, vA x2_a_, .val (.int (p1 &&& (2147483647 : Int32))), .val (.int (p2 &&& (2147483647 : Int32))), .unset] [])) _
    refine XS.iconst X2.here hx rfl (hb hby at_49) ?_
    show Steps _ _ _ (T2.setTop (mkF m 50 #[vI p0, vI p1, vI p2, vI p3, vI p4, vA x1_kd, vA x2_a_, .val (.int (p1 &&& (2147483647 : Int32))), .val (.int (p2 &&& (2147483647 : Int32))), .unset] [(.int 1)])) _
    refine XS.istore X2.here hx rfl (hb hby at_50) rfl (l' := #[vI p0, vI p1, vI p2, vI p3, vI p4, vA x1_kd, vA x2_a_, .val (.int (p1 &&& (2147483647 : Int32))), vI 1, .unset]) rfl ?_
    show Steps _ _ _ (T2.setTop (mkF m 52 #[vI p0, vI p1, vI p2, vI p3, vI p4, vA x1_kd, vA x2_a_, .val (.int (p1 &&& (2147483647 : Int32))), vI 1, .unset] [])) _
    refine st9 _ ?_
    show Steps _ _ _ (T9.setTop (mkF m 55 #[vI p0, vI p1, vI p2, vI p3, vI p4, vA x1_kd, vA x2_a_, .val (.int (p1 &&& (2147483647 : Int32))), vI 1, .unset] [(.ref b9)])) _
    refine XS.dup X9.here hx rfl (hb hby at_55) rfl rfl ?_
    show Steps _ _ _ (T9.setTop (mkF m 56 #[vI p0, vI p1, vI p2, vI p3, vI p4, vA x1_kd, vA x2_a_, .val (.int (p1 &&& (2147483647 : Int32))), vI 1, .unset] [(.ref b9), (.ref b9)])) _
    refine XS.aload X9.here hx rfl (hb hby at_56) rfl rfl ?_
    show Steps _ _ _ (T9.setTop (mkF m 58 #[vI p0, vI p1, vI p2, vI p3, vI p4, vA x1_kd, vA x2_a_, .val (.int (p1 &&& (2147483647 : Int32))), vI 1, .unset] [(.ref x1_kd), (.ref b9), (.ref b9)])) _
    refine XS.aload X9.here hx rfl (hb hby at_58) rfl rfl ?_
    show Steps _ _ _ (T9.setTop (mkF m 60 #[vI p0, vI p1, vI p2, vI p3, vI p4, vA x1_kd, vA x2_a_, .val (.int (p1 &&& (2147483647 : Int32))), vI 1, .unset] [(.ref x2_a_), (.ref x1_kd), (.ref b9), (.ref b9)])) _
    refine XS.iload X9.here hx rfl (hb hby at_60) rfl ?_
    show Steps _ _ _ (T9.setTop (mkF m 62 #[vI p0, vI p1, vI p2, vI p3, vI p4, vA x1_kd, vA x2_a_, .val (.int (p1 &&& (2147483647 : Int32))), vI 1, .unset] [(.int (p1 &&& (2147483647 : Int32))), (.ref x2_a_), (.ref x1_kd), (.ref b9), (.ref b9)])) _
    refine XS.iload X9.here hx rfl (hb hby at_62) rfl ?_
    show Steps _ _ _ (T9.setTop (mkF m 64 #[vI p0, vI p1, vI p2, vI p3, vI p4, vA x1_kd, vA x2_a_, .val (.int (p1 &&& (2147483647 : Int32))), vI 1, .unset] [(.int 1), (.int (p1 &&& (2147483647 : Int32))), (.ref x2_a_), (.ref x1_kd), (.ref b9), (.ref b9)])) _
    refine st11.trans ?_
    show Steps _ _ _ (T11.setTop (mkF m 67 #[vI p0, vI p1, vI p2, vI p3, vI p4, vA x1_kd, vA x2_a_, .val (.int (p1 &&& (2147483647 : Int32))), vI 1, .unset] [(.ref b9)])) _
    refine XS.astore X11.here hx rfl (hb hby at_67) rfl rfl (l' := #[vI p0, vI p1, vI p2, vI p3, vI p4, vA x1_kd, vA x2_a_, .val (.int (p1 &&& (2147483647 : Int32))), vI 1, vA b9]) rfl ?_
    show Steps _ _ _ (T11.setTop (mkF m 69 #[vI p0, vI p1, vI p2, vI p3, vI p4, vA x1_kd, vA x2_a_, .val (.int (p1 &&& (2147483647 : Int32))), vI 1, vA b9] [])) _
    refine XS.aload X11.here hx rfl (hb hby at_69) rfl rfl ?_
    show Steps _ _ _ (T11.setTop (mkF m 71 #[vI p0, vI p1, vI p2, vI p3, vI p4, vA x1_kd, vA x2_a_, .val (.int (p1 &&& (2147483647 : Int32))), vI 1, vA b9] [(.ref b9)])) _
    refine st20.trans ?_
    show Steps _ _ _ (T20.setTop (mkF m 74 #[vI p0, vI p1, vI p2, vI p3, vI p4, vA x1_kd, vA x2_a_, .val (.int (p1 &&& (2147483647 : Int32))), vI 1, vA b9] [(.int 1)])) _
    refine XS.ifNo X20.here hx rfl (hb hby at_74) rfl ((if0 _ _).trans (feq ((by decide) : ¬ ((1 : Int32) = (0 : Int32)))).1) ?_
    show Steps _ _ _ (T20.setTop (mkF m 77 #[vI p0, vI p1, vI p2, vI p3, vI p4, vA x1_kd, vA x2_a_, .val (.int (p1 &&& (2147483647 : Int32))), vI 1, vA b9] [])) _
    refine XS.aload X20.here hx rfl (hb hby at_77) rfl rfl ?_
    show Steps _ _ _ (T20.setTop (mkF m 79 #[vI p0, vI p1, vI p2, vI p3, vI p4, vA x1_kd, vA x2_a_, .val (.int (p1 &&& (2147483647 : Int32))), vI 1, vA b9] [(.ref b9)])) _
    refine st21.trans ?_
    show Steps _ _ _ (T21.setTop (mkF m 82 #[vI p0, vI p1, vI p2, vI p3, vI p4, vA x1_kd, vA x2_a_, .val (.int (p1 &&& (2147483647 : Int32))), vI 1, vA b9] [(.int (p1 &&& (2147483647 : Int32)))])) _
    refine XS.iload X21.here hx rfl (hb hby at_82) rfl ?_
    show Steps _ _ _ (T21.setTop (mkF m 84 #[vI p0, vI p1, vI p2, vI p3, vI p4, vA x1_kd, vA x2_a_, .val (.int (p1 &&& (2147483647 : Int32))), vI 1, vA b9] [(.int (p1 &&& (2147483647 : Int32))), (.int (p1 &&& (2147483647 : Int32)))])) _
    refine XS.icmpNo X21.here hx rfl (hb hby at_84) rfl (teq (rfl : (p1 &&& (2147483647 : Int32)) = (p1 &&& (2147483647 : Int32)))).2 ?_
    show Steps _ _ _ (T21.setTop (mkF m 87 #[vI p0, vI p1, vI p2, vI p3, vI p4, vA x1_kd, vA x2_a_, .val (.int (p1 &&& (2147483647 : Int32))), vI 1, vA b9] [])) _
    refine XS.aload X21.here hx rfl (hb hby at_87) rfl rfl ?_
    show Steps _ _ _ (T21.setTop (mkF m 89 #[vI p0, vI p1, vI p2, vI p3, vI p4, vA x1_kd, vA x2_a_, .val (.int (p1 &&& (2147483647 : Int32))), vI 1, vA b9] [(.ref b9)])) _
    refine st22.trans ?_
    show Steps _ _ _ (T22.setTop (mkF m 92 #[vI p0, vI p1, vI p2, vI p3, vI p4, vA x1_kd, vA x2_a_, .val (.int (p1 &&& (2147483647 : Int32))), vI 1, vA b9] [(.int 1)])) _
    refine XS.iload X22.here hx rfl (hb hby at_92) rfl ?_
    show Steps _ _ _ (T22.setTop (mkF m 94 #[vI p0, vI p1, vI p2, vI p3, vI p4, vA x1_kd, vA x2_a_, .val (.int (p1 &&& (2147483647 : Int32))), vI 1, vA b9] [(.int 1), (.int 1)])) _
    refine XS.icmpNo X22.here hx rfl (hb hby at_94) rfl (teq ((by decide) : (1 : Int32) = (1 : Int32))).2 ?_
    show Steps _ _ _ (T22.setTop (mkF m 97 #[vI p0, vI p1, vI p2, vI p3, vI p4, vA x1_kd, vA x2_a_, .val (.int (p1 &&& (2147483647 : Int32))), vI 1, vA b9] [])) _
    refine XS.iconst X22.here hx rfl (hb hby at_97) ?_
    show Steps _ _ _ (T22.setTop (mkF m 98 #[vI p0, vI p1, vI p2, vI p3, vI p4, vA x1_kd, vA x2_a_, .val (.int (p1 &&& (2147483647 : Int32))), vI 1, vA b9] [(.int 1)])) _
    refine XS.goto X22.here hx rfl (pc0 := 98) (pc' := 102) rfl (hb hby at_98) (by decide) (by decide) ?_
    show Steps _ _ _ (T22.setTop (mkF m 102 #[vI p0, vI p1, vI p2, vI p3, vI p4, vA x1_kd, vA x2_a_, .val (.int (p1 &&& (2147483647 : Int32))), vI 1, vA b9] [(.int 1)])) _
    exact retN X22 hx (t := .boolean) Bd.returns (by simp) (hb hby at_102) hr
  · show Q_law Z p0 p1 p2 p3 p4 cp su ss od ko vo ot kt2 vt k0 k1 k2 h0 n0 _ T22.heap _
    rw [(Kq22 : T22.heap = T11.heap)]
    exact ⟨rfl, N22⟩
theorem rm_law_11 (l : Launch) (Z : State) (a0 : Array Value) (hw : HW Z a0) (ws : List Jvm.Cond) (p0 : Int32) (p1 : Int32) (p2 : Int32) (p3 : Int32) (p4 : Int32) (cp : Int32) (su : Value) (ss : Value) (od : Addr) (ko : ClassId) (vo : List Value) (ot : Addr) (kt2 : ClassId) (vt : List Value) (k0 : Addr) (k1 : Addr) (k2 : Addr) (h0 : Heap) (n0 : Nat) (Z0 : n0 ≤ h0.size) (P0 : Old Z n0 h0) (P1 : sta0 Z (.int cp)) (P2 : Sta Z Z.heap "java/lang/Throwable" "UNASSIGNED_STACK" "[Ljava/lang/StackTraceElement;" su) (P3 : Sta Z Z.heap "java/lang/Throwable" "SUPPRESSED_SENTINEL" "Ljava/util/List;" ss) (P4 : Sta Z Z.heap "java/lang/Integer" "DigitOnes" "[B" (.ref od)) (P5 : Sta Z Z.heap "java/lang/Integer" "DigitTens" "[B" (.ref ot)) (P6 : Sta Z Z.heap "com/example/formulary/formulary/host/FormulaException$Kind" "SYNTAX" "Lcom/example/formulary/formulary/host/FormulaException$Kind;" (.ref k0)) (P7 : Sta Z Z.heap "com/example/formulary/formulary/host/FormulaException$Kind" "RUNNING" "Lcom/example/formulary/formulary/host/FormulaException$Kind;" (.ref k1)) (P8 : Sta Z Z.heap "com/example/formulary/formulary/host/FormulaException$Kind" "LIMIT" "Lcom/example/formulary/formulary/host/FormulaException$Kind;" (.ref k2)) (hsu : su.isRef = true) (hss : ss.isRef = true) (hcs : ¬ (cp = (0 : Int32))) (BO : Arv Z Z.heap od ko .byte (100 : Int32) vo (.int 0)) (BT : Arv Z Z.heap ot kt2 .byte (100 : Int32) vt (.int 0)) (hc21 : ¬ ((p0 &&& (1 : Int32)) = (0 : Int32))) (hc32 : ¬ ((p1 &&& (2147483647 : Int32)) = (0 : Int32))) (hc46 : ¬ ((p2 &&& (2147483647 : Int32)) = (0 : Int32))) :
    MetFree l x (head1 (Jvm.Cond.code x code maxLocals ret :: ws) room_1) (fun as' U => as' = #[(.int p0), (.int p1), (.int p2), (.int p3), (.int p4)] ∧ Z.Warmed39 U.vm ∧ U.heap = h0 ∧ CHv Z own_EL U.vm h0) (fun _ _ _ _ _ => True) (fun _ U o U' => ∃ v L, o = .returned v ∧ Q_law Z p0 p1 p2 p3 p4 cp su ss od ko vo ot kt2 vt k0 k1 k2 h0 n0 v U'.heap L ∧ ReturnedEndW U o U' L room_1.cells room_1.slots) := by
  refine MetFree.of_bodySF (plainFor_of_name pn_13) hisR ?_
  intro p e s m args below meth c s₁ Bd hml0 hP hK
  obtain ⟨rfl, hZ, hh, hCH⟩ := hP
  have hx := Bd.exec
  have hby := Bd.bytes
  have hml : c.maxLocals = 10 := hml0
  have hown : (s.setVm s.vm).vm.findClass "com/example/formulary/formulary/host/FormulaExceptionHasPlacePinLaw" = some m.cls := findClass_of_methodNamed Bd.named
  have hnm := (name_of_methodNamed Bd.named Bd.method).1
  have X0 : Stand p l e room_1 (s.setVm s.vm) m #[(.int p0), (.int p1), (.int p2), (.int p3), (.int p4)] below meth c s₁ [] 0 0 := Stand.of_body Bd
  have e0 : s₁.heap = h0 := by rw [← hh, Bd.state]; rfl
  have N0 := Fr.nil n0
  have hZ : Z.Warmed39 (s.setVm s.vm).vm := hZ
  have hS0 : s.Since s.vm h0.size := (State.WarmedH.refl s).since _
  have hk0 : h0.size ≤ h0.size := Nat.le_refl _
  have C0 : CHr Z own_EL s.vm h0 s.vm h0 := CHr.refl hCH
  obtain ⟨_, _, ⟨T1, L1, k1, n1⟩, -, X1, ⟨Lc1, hQ1, l1, y1, z1⟩, st1⟩ := Jvm.LawKit.callS X0 hx (y := m_46) hown (mvT hZ (w_0 hw)) (mvT hZ (w_1 hw)) (mvT hZ (w_2 hw)) (mvT hZ (w_3 hw)) (by decide) (backOf (W := 0) (rm_kof l Z a0 hw [] p3 k0 k1 k2 h0 n0 (by omega) P0 P6 P7 P8) hZ (w_3 hw) (w_2 hw) (by decide) (by decide)) (g := (mkF m 1 #[vI p0, vI p1, vI p2, vI p3, vI p4, .unset, .unset, .unset, .unset, .unset] [(.int p3)])) rfl (by rw [hml]; rfl) (argsL := [(.int p3)]) (rest := []) (lenOf pd_28 rfl) rfl (Nat.le_of_eq rfl) (hb hby at_1) (fun _ _ => ⟨rfl, e0, (by decide : 0 + 0 ≤ _), (by decide : 0 + 0 ≤ _)⟩)
  dsimp only [Pt.U, Pt.locs, Pt.cells, Pt.slots] at X1 l1 y1 z1 st1 hQ1
  rw [l1, y1, z1] at X1
  obtain ⟨x1_kd, rfl, Nq1, Kq1⟩ := hQ1
  have N1 := Fr.app N0 Nq1
  obtain ⟨_, _, ⟨T2, L2, k2, n2⟩, -, X2, ⟨Lc2, hQ2, l2, y2, z2⟩, st2⟩ := Jvm.LawKit.callS X1 hx (y := m_4) hown (mvT hZ (w_8 hw)) (mvT hZ (w_9 hw)) (mvT hZ (w_10 hw)) (mvT hZ (w_11 hw)) (by decide) (backOf (W := 0) (rm_valueC l Z a0 hw [] (((p4 &&& (255 : Int32)).toUInt32.toUInt16.toUInt32.toInt32)) cp h0 n0 (by omega) P0 P1 hcs (own_ch p4)) hZ (w_11 hw) (w_10 hw) (by decide) (by decide)) (g := (mkF m 13 #[vI p0, vI p1, vI p2, vI p3, vI p4, vA x1_kd, .unset, .unset, .unset, .unset] [(.int ((p4 &&& (255 : Int32)).toUInt32.toUInt16.toUInt32.toInt32))])) rfl (by rw [hml]; rfl) (argsL := [(.int ((p4 &&& (255 : Int32)).toUInt32.toUInt16.toUInt32.toInt32))]) (rest := []) (lenOf pd_29 rfl) rfl (Nat.le_of_eq rfl) (hb hby at_13) (fun _ _ => ⟨rfl, Kq1, (by decide : 0 + 2 ≤ _), (by decide : 0 + 5 ≤ _)⟩)
  dsimp only [Pt.U, Pt.locs, Pt.cells, Pt.slots] at X2 l2 y2 z2 st2 hQ2
  rw [l2, y2, z2] at X2
  obtain ⟨x2_a_, x2_b, x2_k, rfl, Nq2, Kq2, r2_0, r2_1, r2_2, r2_3, r2_4, r2_5, r2_6⟩ := hQ2
  have N2 := Fr.app N1 Nq2
  have C2 := C0.trans (CHr.keep Kq2 sf0 C0.1)
  have z2' := Kq2.1
  have sf2_0 : Safe Z own_EL s.vm T2.heap x2_a_ := Safe.keep Kq2 sf0 C0.1 (Safe.new (by omega))
  have sf2_1 : Safe Z own_EL s.vm T2.heap x2_b := Safe.keep Kq2 sf0 C0.1 (Safe.new (by omega))
  have lt3 := own_l r2_2.lt
  have lt4 := own_l r2_3.lt
  have lt5 := own_l r2_4.lt
  have lt6 := own_l r2_5.lt
  obtain ⟨T9, h9, X9, e9, E9, A9, D9, -, st9⟩ := newO X2 hx hZ hown (w_34 hw) (w_35 hw) (w_36 hw) rfl (g := (mkF m 52 #[vI p0, vI p1, vI p2, vI p3, vI p4, vA x1_kd, vA x2_a_, .val (.int (p1 &&& (2147483647 : Int32))), .val (.int (p2 &&& (2147483647 : Int32))), .unset] [])) rfl (hb hby at_52) (by decide) (by decide)
  obtain ⟨b9, g9⟩ : ∃ z, z = T2.heap.size := ⟨_, rfl⟩
  rw [← g9] at A9 D9 st9
  have z9 := E9.1
  have C9 := C2.trans (CHr.ext E9 C2.1)
  have lt10 := own_l A9.lt
  have F9_62 : Fld Z h9 b9 "java/lang/Throwable" "cause" "Ljava/lang/Throwable;" .null := D9 (Or.inl (w_62 hw)) (ty := (.object "java/lang/Throwable")) (by decide)
  have F9_65 : Fld Z h9 b9 "java/lang/Throwable" "stackTrace" "[Ljava/lang/StackTraceElement;" .null := D9 (Or.inl (w_65 hw)) (ty := (.array (.object "java/lang/StackTraceElement"))) (by decide)
  have F9_68 : Fld Z h9 b9 "java/lang/Throwable" "suppressedExceptions" "Ljava/util/List;" .null := D9 (Or.inl (w_68 hw)) (ty := (.object "java/util/List")) (by decide)
  have F9_70 : Fld Z h9 b9 "java/lang/Throwable" "detailMessage" "Ljava/lang/String;" .null := D9 (Or.inl (w_70 hw)) (ty := (.object "java/lang/String")) (by decide)
  have F9_72 : Fld Z h9 b9 "com/example/formulary/formulary/host/FormulaException" "kind" "Lcom/example/formulary/formulary/host/FormulaException$Kind;" .null := D9 (Or.inr (w_72 hw)) (ty := (.object "com/example/formulary/formulary/host/FormulaException$Kind")) (by decide)
  have F9_74 : Fld Z h9 b9 "com/example/formulary/formulary/host/FormulaException" "description" "Ljava/lang/String;" .null := D9 (Or.inr (w_74 hw)) (ty := (.object "java/lang/String")) (by decide)
  have F9_76 : Fld Z h9 b9 "com/example/formulary/formulary/host/FormulaException" "line" "I" (.int 0) := D9 (Or.inr (w_76 hw)) (ty := .int) (by decide)
  have F9_78 : Fld Z h9 b9 "com/example/formulary/formulary/host/FormulaException" "column" "I" (.int 0) := D9 (Or.inr (w_78 hw)) (ty := .int) (by decide)
  have f12 := r2_6.ext E9
  have f13 := r2_2.ext E9
  have f14 := r2_4.ext E9
  have f15 := r2_3.ext E9
  have f16 := r2_5.ext E9
  obtain ⟨_, _, ⟨T11, L11, k11, n11⟩, -, X11, hSb11, hgr11, ⟨Lc11, hQ11, l11, y11, z11, Cs11⟩, st11⟩ := X9.specialBackS hx (y := m_42) rfl hown (mvT hZ (w_96 hw)) (mvT hZ (w_97 hw)) (mvT hZ (w_98 hw)) (by decide) (backOfSH (W := 1) (rm_fi4 l Z a0 hw [] b9 x1_kd x2_a_ x2_b x2_k ([(.int (nar .byte ((((p4 &&& (255 : Int32)).toUInt32.toUInt16.toUInt32.toInt32).toInt8.toInt32))))]) ((p1 &&& (2147483647 : Int32))) ((p2 &&& (2147483647 : Int32))) cp su ss od ko vo ot kt2 vt h9 n0 (by omega) f12 P2 P3 A9 F9_62 F9_65 F9_68 F9_70 F9_72 F9_74 F9_76 F9_78 (by omega) P1 P4 P5 f13 f14 f15 f16 (own_ne (by omega)) (own_ne (by omega)) hsu hss hcs BO BT (own_m0 p1) (own_m0 p2) (own_m1 hc32) (own_m1 hc46)) hZ (w_98 hw) (w_36 hw) (by decide) (by decide) (own_EW hw) C9.1) (g := (mkF m 64 #[vI p0, vI p1, vI p2, vI p3, vI p4, vA x1_kd, vA x2_a_, .val (.int (p1 &&& (2147483647 : Int32))), .val (.int (p2 &&& (2147483647 : Int32))), .unset] [(.int (p2 &&& (2147483647 : Int32))), (.int (p1 &&& (2147483647 : Int32))), (.ref x2_a_), (.ref x1_kd), (.ref b9), (.ref b9)])) rfl (by rw [hml]; rfl) (Steps.refl _) (a := b9) (argsL := [(.ref x1_kd), (.ref x2_a_), (.int (p1 &&& (2147483647 : Int32))), (.int (p2 &&& (2147483647 : Int32)))]) (rest := [(.ref b9)]) (lenOf pd_31 rfl) rfl (Nat.le_of_eq rfl) (hb hby at_64) (fun _ _ => ⟨rfl, e9, (by decide : 3 + 13 ≤ _), (by decide : 15 + 524 ≤ _)⟩)
  dsimp only [Pt.U, Pt.locs, Pt.cells, Pt.slots] at X11 l11 y11 z11 st11 hQ11 hSb11 hgr11 Cs11
  rw [l11, y11, z11] at X11
  rw [e9] at hgr11
  obtain ⟨X11, hS11, hZ11, hown11⟩ := rebS hS0 (by omega) X11 hSb11 hgr11 hZ hown
  have hk11 : T11.heap.size ≤ T11.heap.size := Nat.le_refl _
  obtain ⟨rfl, Nq11, Kq11, r11_0, r11_1, r11_2⟩ := hQ11
  have N11 := Fr.app N2 Nq11
  have C11 := C9.trans Cs11
  have z11' := Kq11.1
  have lt17 := own_l r11_0.lt
  have lt18 := own_l r11_1.lt
  have lt19 := own_l r11_2.lt
  obtain ⟨cq20, kq20, qa20, qb20, qc20⟩ := isOf hZ11 rfl r11_0
  obtain ⟨_, _, ⟨T20, L20, k20, n20⟩, -, X20, ⟨Lc20, hQ20, l20, y20, z20⟩, st20⟩ := X11.virtualBack hx (y := m_43) (z := m_43) hown11 (mvT hZ11 (w_79 hw)) (mvT hZ11 (w_80 hw)) (notFace_of_selects (args := #[]) (mvT hZ11 (w_82 hw))) (mvT hZ11 (w_82 hw)) (mvT hZ11 (w_81 hw)) (by decide) (backOf (W := 0) (rm_hp1 l Z a0 hw [] b9 ((p1 &&& (2147483647 : Int32))) T11.heap n0 (by omega) r11_1 (own_mp hc32)) hZ11 (w_83 hw) (w_36 hw) (by decide) (by decide)) qa20 qc20 (g := (mkF m 71 #[vI p0, vI p1, vI p2, vI p3, vI p4, vA x1_kd, vA x2_a_, .val (.int (p1 &&& (2147483647 : Int32))), .val (.int (p2 &&& (2147483647 : Int32))), vA b9] [(.ref b9)])) rfl (by rw [hml]; rfl) (Steps.refl _) (argsL := []) (rest := []) (lenOf pd_14 rfl) rfl (Nat.le_of_eq rfl) (hb hby at_71) (fun _ _ => ⟨rfl, rfl, (by decide : 16 + 0 ≤ _), (by decide : 539 + 0 ≤ _)⟩)
  dsimp only [Pt.U, Pt.locs, Pt.cells, Pt.slots] at X20 l20 y20 z20 st20 hQ20
  rw [l20, y20, z20] at X20
  obtain ⟨rfl, Nq20, Kq20⟩ := hQ20
  have N20 := Fr.app N11 Nq20
  obtain ⟨cq21, kq21, qa21, qb21, qc21⟩ := isOf hZ11 Kq20 r11_0
  obtain ⟨_, _, ⟨T21, L21, k21, n21⟩, -, X21, ⟨Lc21, hQ21, l21, y21, z21⟩, st21⟩ := X20.virtualBack hx (y := m_44) (z := m_44) hown11 (mvT hZ11 (w_84 hw)) (mvT hZ11 (w_85 hw)) (notFace_of_selects (args := #[]) (mvT hZ11 (w_87 hw))) (mvT hZ11 (w_87 hw)) (mvT hZ11 (w_86 hw)) (by decide) (backOf (W := 0) (rm_line l Z a0 hw [] b9 ((p1 &&& (2147483647 : Int32))) T11.heap n0 (by omega) r11_1) hZ11 (w_88 hw) (w_36 hw) (by decide) (by decide)) qa21 qc21 (g := (mkF m 79 #[vI p0, vI p1, vI p2, vI p3, vI p4, vA x1_kd, vA x2_a_, .val (.int (p1 &&& (2147483647 : Int32))), .val (.int (p2 &&& (2147483647 : Int32))), vA b9] [(.ref b9)])) rfl (by rw [hml]; rfl) (Steps.refl _) (argsL := []) (rest := []) (lenOf pd_10 rfl) rfl (Nat.le_of_eq rfl) (hb hby at_79) (fun _ _ => ⟨rfl, Kq20, (by decide : 16 + 0 ≤ _), (by decide : 539 + 0 ≤ _)⟩)
  dsimp only [Pt.U, Pt.locs, Pt.cells, Pt.slots] at X21 l21 y21 z21 st21 hQ21
  rw [l21, y21, z21] at X21
  obtain ⟨rfl, Nq21, Kq21⟩ := hQ21
  have N21 := Fr.app N20 Nq21
  obtain ⟨cq22, kq22, qa22, qb22, qc22⟩ := isOf hZ11 Kq21 r11_0
  obtain ⟨_, _, ⟨T22, L22, k22, n22⟩, -, X22, ⟨Lc22, hQ22, l22, y22, z22⟩, st22⟩ := X21.virtualBack hx (y := m_45) (z := m_45) hown11 (mvT hZ11 (w_89 hw)) (mvT hZ11 (w_90 hw)) (notFace_of_selects (args := #[]) (mvT hZ11 (w_92 hw))) (mvT hZ11 (w_92 hw)) (mvT hZ11 (w_91 hw)) (by decide) (backOf (W := 0) (rm_colu l Z a0 hw [] b9 ((p2 &&& (2147483647 : Int32))) T11.heap n0 (by omega) r11_2) hZ11 (w_93 hw) (w_36 hw) (by decide) (by decide)) qa22 qc22 (g := (mkF m 89 #[vI p0, vI p1, vI p2, vI p3, vI p4, vA x1_kd, vA x2_a_, .val (.int (p1 &&& (2147483647 : Int32))), .val (.int (p2 &&& (2147483647 : Int32))), vA b9] [(.ref b9)])) rfl (by rw [hml]; rfl) (Steps.refl _) (argsL := []) (rest := []) (lenOf pd_10 rfl) rfl (Nat.le_of_eq rfl) (hb hby at_89) (fun _ _ => ⟨rfl, Kq21, (by decide : 16 + 0 ≤ _), (by decide : 539 + 0 ≤ _)⟩)
  dsimp only [Pt.U, Pt.locs, Pt.cells, Pt.slots] at X22 l22 y22 z22 st22 hQ22
  rw [l22, y22, z22] at X22
  obtain ⟨rfl, Nq22, Kq22⟩ := hQ22
  have N22 := Fr.app N21 Nq22
  obtain ⟨fs, hr, hrun, hended, hEnd⟩ := X22.leaveW hS11 (by first | omega | (rw [(Kq22 : T22.heap = T11.heap)]; omega)) (v := some (.int 1)) (fun h => by rw [Bd.returns] at h; cases h)
  refine ⟨_, _, castTop (ef_23 m p0 p1 p2 p3 p4) ?_, hrun, hended, _, _, rfl, ?_, hEnd.1, hEnd.2.1, hEnd.2.2.1, hEnd.2.2.2.mono (by decide) (by decide)⟩
  · show Steps _ _ _ (s₁.setTop (mkF m 0 #[vI p0, vI p1, vI p2, vI p3, vI p4, .unset, .unset, .unset, .unset, .unset] [])) _
    refine XS.iloadN X0.here hx rfl (hb hby at_0) rfl ?_
    show Steps _ _ _ (s₁.setTop (mkF m 1 #[vI p0, vI p1, vI p2, vI p3, vI p4, .unset, .unset, .unset, .unset, .unset] [(.int p3)])) _
    refine st1 _ ?_
    show Steps _ _ _ (T1.setTop (mkF m 4 #[vI p0, vI p1, vI p2, vI p3, vI p4, .unset, .unset, .unset, .unset, .unset] [(.ref x1_kd)])) _
    refine XS.astore X1.here hx rfl (hb hby at_4) rfl rfl (l' := #[vI p0, vI p1, vI p2, vI p3, vI p4, vA x1_kd, .unset, .unset, .unset, .unset]) rfl ?_
    show Steps _ _ _ (T1.setTop (mkF m 6 #[vI p0, vI p1, vI p2, vI p3, vI p4, vA x1_kd, .unset, .unset, .unset, .unset] [])) _
    refine XS.iload X1.here hx rfl (hb hby at_6) rfl ?_
    show Steps _ _ _ (T1.setTop (mkF m 8 #[vI p0, vI p1, vI p2, vI p3, vI p4, vA x1_kd, .unset, .unset, .unset, .unset] [(.int p4)])) _
    refine XS.sipush X1.here hx rfl (hb hby at_8) ?_
    show Steps _ _ _ (T1.setTop (mkF m 11 #[vI p0, vI p1, vI p2, vI p3, vI p4, vA x1_kd, .unset, .unset, .unset, .unset] [(.int 255), (.int p4)])) _
    refine XS.iand X1.here hx rfl (hb hby at_11) rfl ?_
    show Steps _ _ _ (T1.setTop (mkF m 12 #[vI p0, vI p1, vI p2, vI p3, vI p4, vA x1_kd, .unset, .unset, .unset, .unset] [(.int (p4 &&& (255 : Int32)))])) _
    refine XS.i2c X1.here hx rfl (hb hby at_12) rfl ?_
    show Steps _ _ _ (T1.setTop (mkF m 13 #[vI p0, vI p1, vI p2, vI p3, vI p4, vA x1_kd, .unset, .unset, .unset, .unset] [(.int ((p4 &&& (255 : Int32)).toUInt32.toUInt16.toUInt32.toInt32))])) _
    refine st2 _ ?_
    show Steps _ _ _ (T2.setTop (mkF m 16 #[vI p0, vI p1, vI p2, vI p3, vI p4, vA x1_kd, .unset, .unset, .unset, .unset] [(.ref x2_a_)])) _
    refine XS.astore X2.here hx rfl (hb hby at_16) rfl rfl (l' := #[vI p0, vI p1, vI p2, vI p3, vI p4, vA x1_kd, vA x2_a_, .unset, .unset, .unset]) rfl ?_
    show Steps _ _ _ (T2.setTop (mkF m 18 #[vI p0, vI p1, vI p2, vI p3, vI p4, vA x1_kd, vA x2_a_, .unset, .unset, .unset] [])) _
    refine XS.iloadN X2.here hx rfl (hb hby at_18) rfl ?_
    show Steps _ _ _ (T2.setTop (mkF m 19 #[vI p0, vI p1, vI p2, vI p3, vI p4, vA x1_kd, vA x2_a_, .unset, .unset, .unset] [(.int p0)])) _
    refine XS.iconst X2.here hx rfl (hb hby at_19) ?_
    show Steps _ _ _ (T2.setTop (mkF m 20 #[vI p0, vI p1, vI p2, vI p3, vI p4, vA x1_kd, vA x2_a_, .unset, .unset, .unset] [(.int 1), (.int p0)])) _
    refine XS.iand X2.here hx rfl (hb hby at_20) rfl ?_
    show Steps _ _ _ (T2.setTop (mkF m 21 #[vI p0, vI p1, vI p2, vI p3, vI p4, vA x1_kd, vA x2_a_, .unset, .unset, .unset] [(.int (p0 &&& (1 : Int32)))])) _
    refine XS.ifNo X2.here hx rfl (hb hby at_21) rfl ((if0 _ _).trans (feq (hc21 : ¬ ((p0 &&& (1 : Int32)) = (0 : Int32)))).1) ?_
    show Steps _ _ _ (T2.setTop (mkF m 24 #[vI p0, vI p1, vI p2, vI p3, vI p4, vA x1_kd, vA x2_a_, .unset, .unset, .unset] [])) _
    refine XS.iloadN X2.here hx rfl (hb hby at_24) rfl ?_
    show Steps _ _ _ (T2.setTop (mkF m 25 #[vI p0, vI p1, vI p2, vI p3, vI p4, vA x1_kd, vA x2_a_, .unset, .unset, .unset] [(.int p1)])) _
    refine X2.ldcInt hx hown (mvT hZ (w_4 hw)) (g := (mkF m 25 #[vI p0, vI p1, vI p2, vI p3, vI p4, vA x1_kd, vA x2_a_, .unset, .unset, .unset] [(.int p1)])) rfl (hb hby at_25) _ ?_
    show Steps _ _ _ (T2.setTop (mkF m 27 #[vI p0, vI p1, vI p2, vI p3, vI p4, vA x1_kd, vA x2_a_, .unset, .unset, .unset] [(.int 2147483647), (.int p1)])) _
    refine XS.iand X2.here hx rfl (hb hby at_27) rfl ?_
    show Steps _ _ _ (T2.setTop (mkF m 28 #[vI p0, vI p1, vI p2, vI p3, vI p4, vA x1_kd, vA x2_a_, .unset, .unset, .unset] [(.int (p1 &&& (2147483647 : Int32)))])) _
    refine XS.istore X2.here hx rfl (hb hby at_28) rfl (l' := #[vI p0, vI p1, vI p2, vI p3, vI p4, vA x1_kd, vA x2_a_, .val (.int (p1 &&& (2147483647 : Int32))), .unset, .unset]) rfl ?_
    show Steps _ _ _ (T2.setTop (mkF m 30 #[vI p0, vI p1, vI p2, vI p3, vI p4, vA x1_kd, vA x2_a_, .val (.int (p1 &&& (2147483647 : Int32))), .unset, .unset] [])) _
    refine XS.iload X2.here hx rfl (hb hby at_30) rfl ?_
    show Steps _ _ _ (T2.setTop (mkF m 32 #[vI p0, vI p1, vI p2, vI p3, vI p4, vA x1_kd, vA x2_a_, .val (.int (p1 &&& (2147483647 : Int32))), .unset, .unset] [(.int (p1 &&& (2147483647 : Int32)))])) _
    refine XS.ifYes X2.here hx rfl (pc0 := 32) (pc' := 38) rfl (hb hby at_32) rfl ((if0 _ _).trans (feq (hc32 : ¬ ((p1 &&& (2147483647 : Int32)) = (0 : Int32)))).2) (by decide) (by decide) ?_
    show Steps _ _ _ (T2.setTop (mkF m 38 #[vI p0, vI p1, vI p2, vI p3, vI p4, vA x1_kd, vA x2_a_, .val (.int (p1 &&& (2147483647 : Int32))), .unset, .unset] [])) _
    refine XS.iloadN X2.here hx rfl (hb hby at_38) rfl ?_
    show Steps _ _ _ (T2.setTop (mkF m 39 #[vI p0, vI p1, vI p2, vI p3, vI p4, vA x1_kd, vA x2_a_, .val (.int (p1 &&& (2147483647 : Int32))), .unset, .unset] [(.int p2)])) _
    refine X2.ldcInt hx hown (mvT hZ (w_4 hw)) (g := (mkF m 39 #[vI p0, vI p1, vI p2, vI p3, vI p4, vA x1_kd, vA x2_a_, .val (.int (p1 &&& (2147483647 : Int32))), .unset, .unset] [(.int p2)])) rfl (hb hby at_39) _ ?_
    show Steps _ _ _ (T2.setTop (mkF m 41 #[vI p0, vI p1, vI p2, vI p3, vI p4, vA x1_kd, vA x2_a_, .val (.int (p1 &&& (2147483647 : Int32))), .unset, .unset] [(.int 2147483647), (.int p2)])) _
    refine XS.iand X2.here hx rfl (hb hby at_41) rfl ?_
    show Steps _ _ _ (T2.setTop (mkF m 42 #[vI p0, vI p1, vI p2, vI p3, vI p4, vA x1_kd, vA x2_a_, .val (.int (p1 &&& (2147483647 : Int32))), .unset, .unset] [(.int (p2 &&& (2147483647 : Int32)))])) _
    refine XS.istore X2.here hx rfl (hb hby at_42) rfl (l' := #[vI p0, vI p1, vI p2, vI p3, vI p4, vA x1_kd, vA x2_a_, .val (.int (p1 &&& (2147483647 : Int32))), .val (.int (p2 &&& (2147483647 : Int32))), .unset]) rfl ?_
    show Steps _ _ _ (T2.setTop (mkF m 44 #[vI p0, vI p1, vI p2, vI p3, vI p4, vA x1_kd, vA x2_a_, .val (.int (p1 &&& (2147483647 : Int32))), .val (.int (p2 &&& (2147483647 : Int32))), .unset] [])) _
    refine XS.iload X2.here hx rfl (hb hby at_44) rfl ?_
    show Steps _ _ _ (T2.setTop (mkF m 46 #[vI p0, vI p1, vI p2, vI p3, vI p4, vA x1_kd, vA x2_a_, .val (.int (p1 &&& (2147483647 : Int32))), .val (.int (p2 &&& (2147483647 : Int32))), .unset] [(.int (p2 &&& (2147483647 : Int32)))])) _
    refine XS.ifYes X2.here hx rfl (pc0 := 46) (pc' := 52) rfl (hb hby at_46) rfl ((if0 _ _).trans (feq (hc46 : ¬ ((p2 &&& (2147483647 : Int32)) = (0 : Int32)))).2) (by decide) (by decide) ?_
    show Steps _ _ _ (T2.setTop (mkF m 52 #[vI p0, vI p1, vI p2, vI p3, vI p4, vA x1_kd, vA x2_a_, .val (.int (p1 &&& (2147483647 : Int32))), .val (.int (p2 &&& (2147483647 : Int32))), .unset] [])) _
    refine st9 _ ?_
    show Steps _ _ _ (T9.setTop (mkF m 55 #[vI p0, vI p1, vI p2, vI p3, vI p4, vA x1_kd, vA x2_a_, .val (.int (p1 &&& (2147483647 : Int32))), .val (.int (p2 &&& (2147483647 : Int32))), .unset] [(.ref b9)])) _
    refine XS.dup X9.here hx rfl (hb hby at_55) rfl rfl ?_
    show Steps _ _ _ (T9.setTop (mkF m 56 #[vI p0, vI p1, vI p2, vI p3, vI p4, vA x1_kd, vA x2_a_, .val (.int (p1 &&& (2147483647 : Int32))), .val (.int (p2 &&& (2147483647 : Int32))), .unset] [(.ref b9), (.ref b9)])) _
    refine XS.aload X9.here hx rfl (hb hby at_56) rfl rfl ?_
    show Steps _ _ _ (T9.setTop (mkF m 58 #[vI p0, vI p1, vI p2, vI p3, vI p4, vA x1_kd, vA x2_a_, .val (.int (p1 &&& (2147483647 : Int32))), .val (.int (p2 &&& (2147483647 : Int32))), .unset] [(.ref x1_kd), (.ref b9), (.ref b9)])) _
    refine XS.aload X9.here hx rfl (hb hby at_58) rfl rfl ?_
    show Steps _ _ _ (T9.setTop (mkF m 60 #[vI p0, vI p1, vI p2, vI p3, vI p4, vA x1_kd, vA x2_a_, .val (.int (p1 &&& (2147483647 : Int32))), .val (.int (p2 &&& (2147483647 : Int32))), .unset] [(.ref x2_a_), (.ref x1_kd), (.ref b9), (.ref b9)])) _
    refine XS.iload X9.here hx rfl (hb hby at_60) rfl ?_
    show Steps _ _ _ (T9.setTop (mkF m 62 #[vI p0, vI p1, vI p2, vI p3, vI p4, vA x1_kd, vA x2_a_, .val (.int (p1 &&& (2147483647 : Int32))), .val (.int (p2 &&& (2147483647 : Int32))), .unset] [(.int (p1 &&& (2147483647 : Int32))), (.ref x2_a_), (.ref x1_kd), (.ref b9), (.ref b9)])) _
    refine XS.iload X9.here hx rfl (hb hby at_62) rfl ?_
    show Steps _ _ _ (T9.setTop (mkF m 64 #[vI p0, vI p1, vI p2, vI p3, vI p4, vA x1_kd, vA x2_a_, .val (.int (p1 &&& (2147483647 : Int32))), .val (.int (p2 &&& (2147483647 : Int32))), .unset] [(.int (p2 &&& (2147483647 : Int32))), (.int (p1 &&& (2147483647 : Int32))), (.ref x2_a_), (.ref x1_kd), (.ref b9), (.ref b9)])) _
    refine st11.trans ?_
    show Steps _ _ _ (T11.setTop (mkF m 67 #[vI p0, vI p1, vI p2, vI p3, vI p4, vA x1_kd, vA x2_a_, .val (.int (p1 &&& (2147483647 : Int32))), .val (.int (p2 &&& (2147483647 : Int32))), .unset] [(.ref b9)])) _
    refine XS.astore X11.here hx rfl (hb hby at_67) rfl rfl (l' := #[vI p0, vI p1, vI p2, vI p3, vI p4, vA x1_kd, vA x2_a_, .val (.int (p1 &&& (2147483647 : Int32))), .val (.int (p2 &&& (2147483647 : Int32))), vA b9]) rfl ?_
    show Steps _ _ _ (T11.setTop (mkF m 69 #[vI p0, vI p1, vI p2, vI p3, vI p4, vA x1_kd, vA x2_a_, .val (.int (p1 &&& (2147483647 : Int32))), .val (.int (p2 &&& (2147483647 : Int32))), vA b9] [])) _
    refine XS.aload X11.here hx rfl (hb hby at_69) rfl rfl ?_
    show Steps _ _ _ (T11.setTop (mkF m 71 #[vI p0, vI p1, vI p2, vI p3, vI p4, vA x1_kd, vA x2_a_, .val (.int (p1 &&& (2147483647 : Int32))), .val (.int (p2 &&& (2147483647 : Int32))), vA b9] [(.ref b9)])) _
    refine st20.trans ?_
    show Steps _ _ _ (T20.setTop (mkF m 74 #[vI p0, vI p1, vI p2, vI p3, vI p4, vA x1_kd, vA x2_a_, .val (.int (p1 &&& (2147483647 : Int32))), .val (.int (p2 &&& (2147483647 : Int32))), vA b9] [(.int 1)])) _
    refine XS.ifNo X20.here hx rfl (hb hby at_74) rfl ((if0 _ _).trans (feq ((by decide) : ¬ ((1 : Int32) = (0 : Int32)))).1) ?_
    show Steps _ _ _ (T20.setTop (mkF m 77 #[vI p0, vI p1, vI p2, vI p3, vI p4, vA x1_kd, vA x2_a_, .val (.int (p1 &&& (2147483647 : Int32))), .val (.int (p2 &&& (2147483647 : Int32))), vA b9] [])) _
    refine XS.aload X20.here hx rfl (hb hby at_77) rfl rfl ?_
    show Steps _ _ _ (T20.setTop (mkF m 79 #[vI p0, vI p1, vI p2, vI p3, vI p4, vA x1_kd, vA x2_a_, .val (.int (p1 &&& (2147483647 : Int32))), .val (.int (p2 &&& (2147483647 : Int32))), vA b9] [(.ref b9)])) _
    refine st21.trans ?_
    show Steps _ _ _ (T21.setTop (mkF m 82 #[vI p0, vI p1, vI p2, vI p3, vI p4, vA x1_kd, vA x2_a_, .val (.int (p1 &&& (2147483647 : Int32))), .val (.int (p2 &&& (2147483647 : Int32))), vA b9] [(.int (p1 &&& (2147483647 : Int32)))])) _
    refine XS.iload X21.here hx rfl (hb hby at_82) rfl ?_
    show Steps _ _ _ (T21.setTop (mkF m 84 #[vI p0, vI p1, vI p2, vI p3, vI p4, vA x1_kd, vA x2_a_, .val (.int (p1 &&& (2147483647 : Int32))), .val (.int (p2 &&& (2147483647 : Int32))), vA b9] [(.int (p1 &&& (2147483647 : Int32))), (.int (p1 &&& (2147483647 : Int32)))])) _
    refine XS.icmpNo X21.here hx rfl (hb hby at_84) rfl (teq (rfl : (p1 &&& (2147483647 : Int32)) = (p1 &&& (2147483647 : Int32)))).2 ?_
    show Steps _ _ _ (T21.setTop (mkF m 87 #[vI p0, vI p1, vI p2, vI p3, vI p4, vA x1_kd, vA x2_a_, .val (.int (p1 &&& (2147483647 : Int32))), .val (.int (p2 &&& (2147483647 : Int32))), vA b9] [])) _
    refine XS.aload X21.here hx rfl (hb hby at_87) rfl rfl ?_
    show Steps _ _ _ (T21.setTop (mkF m 89 #[vI p0, vI p1, vI p2, vI p3, vI p4, vA x1_kd, vA x2_a_, .val (.int (p1 &&& (2147483647 : Int32))), .val (.int (p2 &&& (2147483647 : Int32))), vA b9] [(.ref b9)])) _
    refine st22.trans ?_
    show Steps _ _ _ (T22.setTop (mkF m 92 #[vI p0, vI p1, vI p2, vI p3, vI p4, vA x1_kd, vA x2_a_, .val (.int (p1 &&& (2147483647 : Int32))), .val (.int (p2 &&& (2147483647 : Int32))), vA b9] [(.int (p2 &&& (2147483647 : Int32)))])) _
    refine XS.iload X22.here hx rfl (hb hby at_92) rfl ?_
    show Steps _ _ _ (T22.setTop (mkF m 94 #[vI p0, vI p1, vI p2, vI p3, vI p4, vA x1_kd, vA x2_a_, .val (.int (p1 &&& (2147483647 : Int32))), .val (.int (p2 &&& (2147483647 : Int32))), vA b9] [(.int (p2 &&& (2147483647 : Int32))), (.int (p2 &&& (2147483647 : Int32)))])) _
    refine XS.icmpNo X22.here hx rfl (hb hby at_94) rfl (teq (rfl : (p2 &&& (2147483647 : Int32)) = (p2 &&& (2147483647 : Int32)))).2 ?_
    show Steps _ _ _ (T22.setTop (mkF m 97 #[vI p0, vI p1, vI p2, vI p3, vI p4, vA x1_kd, vA x2_a_, .val (.int (p1 &&& (2147483647 : Int32))), .val (.int (p2 &&& (2147483647 : Int32))), vA b9] [])) _
    refine XS.iconst X22.here hx rfl (hb hby at_97) ?_
    show Steps _ _ _ (T22.setTop (mkF m 98 #[vI p0, vI p1, vI p2, vI p3, vI p4, vA x1_kd, vA x2_a_, .val (.int (p1 &&& (2147483647 : Int32))), .val (.int (p2 &&& (2147483647 : Int32))), vA b9] [(.int 1)])) _
    refine XS.goto X22.here hx rfl (pc0 := 98) (pc' := 102) rfl (hb hby at_98) (by decide) (by decide) ?_
    show Steps _ _ _ (T22.setTop (mkF m 102 #[vI p0, vI p1, vI p2, vI p3, vI p4, vA x1_kd, vA x2_a_, .val (.int (p1 &&& (2147483647 : Int32))), .val (.int (p2 &&& (2147483647 : Int32))), vA b9] [(.int 1)])) _
    exact retN X22 hx (t := .boolean) Bd.returns (by simp) (hb hby at_102) hr
  · show Q_law Z p0 p1 p2 p3 p4 cp su ss od ko vo ot kt2 vt k0 k1 k2 h0 n0 _ T22.heap _
    rw [(Kq22 : T22.heap = T11.heap)]
    exact ⟨rfl, N22⟩
theorem rm_law (l : Launch) (Z : State) (a0 : Array Value) (hw : HW Z a0) (ws : List Jvm.Cond) (p0 : Int32) (p1 : Int32) (p2 : Int32) (p3 : Int32) (p4 : Int32) (cp : Int32) (su : Value) (ss : Value) (od : Addr) (ko : ClassId) (vo : List Value) (ot : Addr) (kt2 : ClassId) (vt : List Value) (k0 : Addr) (k1 : Addr) (k2 : Addr) (h0 : Heap) (n0 : Nat) (Z0 : n0 ≤ h0.size) (P0 : Old Z n0 h0) (P1 : sta0 Z (.int cp)) (P2 : Sta Z Z.heap "java/lang/Throwable" "UNASSIGNED_STACK" "[Ljava/lang/StackTraceElement;" su) (P3 : Sta Z Z.heap "java/lang/Throwable" "SUPPRESSED_SENTINEL" "Ljava/util/List;" ss) (P4 : Sta Z Z.heap "java/lang/Integer" "DigitOnes" "[B" (.ref od)) (P5 : Sta Z Z.heap "java/lang/Integer" "DigitTens" "[B" (.ref ot)) (P6 : Sta Z Z.heap "com/example/formulary/formulary/host/FormulaException$Kind" "SYNTAX" "Lcom/example/formulary/formulary/host/FormulaException$Kind;" (.ref k0)) (P7 : Sta Z Z.heap "com/example/formulary/formulary/host/FormulaException$Kind" "RUNNING" "Lcom/example/formulary/formulary/host/FormulaException$Kind;" (.ref k1)) (P8 : Sta Z Z.heap "com/example/formulary/formulary/host/FormulaException$Kind" "LIMIT" "Lcom/example/formulary/formulary/host/FormulaException$Kind;" (.ref k2)) (hsu : su.isRef = true) (hss : ss.isRef = true) (hcs : ¬ (cp = (0 : Int32))) (BO : Arv Z Z.heap od ko .byte (100 : Int32) vo (.int 0)) (BT : Arv Z Z.heap ot kt2 .byte (100 : Int32) vt (.int 0)) :
    MetFree l x (head1 (Jvm.Cond.code x code maxLocals ret :: ws) room_1) (fun as' U => as' = #[(.int p0), (.int p1), (.int p2), (.int p3), (.int p4)] ∧ Z.Warmed39 U.vm ∧ U.heap = h0 ∧ CHv Z own_EL U.vm h0) (fun _ _ _ _ _ => True) (fun _ U o U' => ∃ v L, o = .returned v ∧ Q_law Z p0 p1 p2 p3 p4 cp su ss od ko vo ot kt2 vt k0 k1 k2 h0 n0 v U'.heap L ∧ ReturnedEndW U o U' L room_1.cells room_1.slots) := by
  by_cases f0 : (p0 &&& (1 : Int32)) = (0 : Int32)
  · exact rm_law_0 l Z a0 hw ws p0 p1 p2 p3 p4 cp su ss od ko vo ot kt2 vt k0 k1 k2 h0 n0 Z0 P0 P1 P2 P3 P4 P5 P6 P7 P8 hsu hss hcs BO BT f0
  by_cases m1 : (p1 &&& (2147483647 : Int32)) = (0 : Int32)
  · by_cases m2 : (p2 &&& (2147483647 : Int32)) = (0 : Int32)
    · exact rm_law_00 l Z a0 hw ws p0 p1 p2 p3 p4 cp su ss od ko vo ot kt2 vt k0 k1 k2 h0 n0 Z0 P0 P1 P2 P3 P4 P5 P6 P7 P8 hsu hss hcs BO BT f0 m1 m2
    · exact rm_law_01 l Z a0 hw ws p0 p1 p2 p3 p4 cp su ss od ko vo ot kt2 vt k0 k1 k2 h0 n0 Z0 P0 P1 P2 P3 P4 P5 P6 P7 P8 hsu hss hcs BO BT f0 m1 m2
  · by_cases m2 : (p2 &&& (2147483647 : Int32)) = (0 : Int32)
    · exact rm_law_10 l Z a0 hw ws p0 p1 p2 p3 p4 cp su ss od ko vo ot kt2 vt k0 k1 k2 h0 n0 Z0 P0 P1 P2 P3 P4 P5 P6 P7 P8 hsu hss hcs BO BT f0 m1 m2
    · exact rm_law_11 l Z a0 hw ws p0 p1 p2 p3 p4 cp su ss od ko vo ot kt2 vt k0 k1 k2 h0 n0 Z0 P0 P1 P2 P3 P4 P5 P6 P7 P8 hsu hss hcs BO BT f0 m1 m2
theorem own_len {Z : State} {args : Array Value} {t : Term} {a : Addr} {c : Cell} {ty : FieldType} {z : Int32} (ev : t.eval args Z none [] Z = some (.ref a)) (A : Arr Z Z.heap a c ty) (e : (Term.length t).eval args Z none [] Z = some (.int z)) : c.slots.size < 2 ^ 31 ∧ c.slots.size.toInt32 = z := by
  have hA := A.fin (Vm.Alike.refl Z.vm) (U := Z)
  have h31 := SBG.length_lt ev hA e
  refine ⟨h31, ?_⟩
  have q : (Term.length t).eval args Z none [] Z = some (.int (Int32.ofNat c.slots.size)) := by simp [Term.eval, ev, hA, h31]
  have := Option.some.inj (q.symm.trans e)
  simpa using this
theorem own_tbl {Z : State} {args a0 : Array Value} {t : Term} (hf : Fit Z) (hex : (Cond.exactly t "[B").before args Z = true) (hlen : (Term.length t).eval args Z none [] Z = some (.int 100)) (harr : (Cond.arrayClass .byte).before a0 Z = true) : ∃ (d : Addr) (k : ClassId) (vs : List Value), t.eval args Z none [] Z = some (.ref d) ∧ Arv Z Z.heap d k .byte (100 : Int32) vs (.int 0) := by
  obtain ⟨d, cB, D, kB, hev, hfcB, hcellD, hkB, hstatD, hclsD, -⟩ := Cond.exactly_spec hex
  obtain ⟨d', D', hev', harrAt, hl⟩ := Term.length_spec hlen
  cases hev.symm.trans hev'
  obtain ⟨hcellD', hknD, -, -⟩ := State.arrayAt?_spec harrAt
  cases hcellD.symm.trans hcellD'
  obtain ⟨cB', kB', comp, hnameB, hkB', hkindB⟩ := Cond.arrayClass_spec harr
  have eBA : ("[" ++ FieldType.toString .byte) = "[B" := by decide
  rw [eBA] at hnameB
  cases hfcB.symm.trans hnameB
  cases hkB.symm.trans hkB'
  have A : Arr Z Z.heap d D .byte := ⟨hcellD, ⟨(fun q h => by rw [h] at hstatD; cases hstatD), kB, (by rw [hclsD]; exact hkB), comp, hkindB⟩, hknD⟩
  obtain ⟨q, l⟩ := own_len hev A hlen
  exact ⟨d, _, _, hev, own_arv_start hf A q l (by decide)⟩
theorem w_6 {Z : State} {a0 : Array Value} (hw : HW Z a0) : (Jvm.Cond.initialized "com/example/formulary/formulary/host/FormulaException$Kind").before a0 Z = true := hw _ (List.mem_of_getElem? (i := 6) rfl)
theorem w_95 {Z : State} {a0 : Array Value} (hw : HW Z a0) : (Jvm.Cond.laysStatic "com/example/formulary/formulary/host/FormulaException$Kind" "SYNTAX" "Lcom/example/formulary/formulary/host/FormulaException$Kind;").before a0 Z = true := hw _ (List.mem_of_getElem? (i := 95) rfl)
theorem w_7 {Z : State} {a0 : Array Value} (hw : HW Z a0) : (Jvm.Cond.laysStatic "com/example/formulary/formulary/host/FormulaException$Kind" "RUNNING" "Lcom/example/formulary/formulary/host/FormulaException$Kind;").before a0 Z = true := hw _ (List.mem_of_getElem? (i := 7) rfl)
theorem w_250 {Z : State} {a0 : Array Value} (hw : HW Z a0) : (Jvm.Cond.laysStatic "com/example/formulary/formulary/host/FormulaException$Kind" "LIMIT" "Lcom/example/formulary/formulary/host/FormulaException$Kind;").before a0 Z = true := hw _ (List.mem_of_getElem? (i := 250) rfl)
set_option maxRecDepth 65536 in
set_option maxHeartbeats 40000000 in
theorem comes_1 {Post : Tables → Env → Array Value → State → Outcome → State → Prop} (hpost : ∀ tb e args s v u, (limb_1_1.after args s (.returned v) u = true ∧ limb_1_2.after args s (.returned v) u = true ∧ True) → ReturnedEndW s (.returned v) u (Jvm.fieldLocs frame_1_writes args s ++ Jvm.arrayLocs frame_1_arrays args s ++ Jvm.staticLocs frame_1_statics s) 32 2496 → Post tb e args s (.returned v) u) :
    ArmFor flags0 classFile x code maxLocals ret World_1 tables_1 room_1 Calls_1 rest_1 Pre_1 Post := by
  intro l hfl _ _ p e ha hc hk s m args below hf hA hF happ hP
  obtain ⟨hcalls, hrest, hpre⟩ := hP
  obtain ⟨-, -, -, hnamed, -, -, -, hat⟩ := (Spec.applies_iff hf).mp happ
  obtain ⟨hg, hn⟩ := and_e (Cond.before_iff.mp (show (Jvm.Cond.and given_1 narrow_1).before args s = true from hpre))
  obtain ⟨hcount, hq0⟩ := and_e hg
  obtain ⟨hk0, hq1⟩ := and_e hq0
  obtain ⟨hk1, hq2⟩ := and_e hq1
  obtain ⟨hk2, hq3⟩ := and_e hq2
  obtain ⟨hk3, hq4⟩ := and_e hq3
  obtain ⟨w0, w1, w2, w3, w4, rfl⟩ : ∃ w0 w1 w2 w3 w4 : Value, args = #[w0, w1, w2, w3, w4] := by
    have hs : args.size = 5 := by simpa [Cond.value, given_1] using hcount
    obtain ⟨L⟩ := args
    match L, hs with
    | [w0, w1, w2, w3, w4], _ => exact ⟨w0, w1, w2, w3, w4, rfl⟩
  have hw := fun d (hd : d ∈ tables_1) => atoms_spec (ws := Jvm.Cond.code x code maxLocals ret :: tables_1) hat d (List.mem_cons_of_mem _ hd)
  obtain ⟨hsets, hown0⟩ := atoms_of _ (rest_1_c_eq ▸ (show rest_1_c.before _ s = true from hrest))
  have hfit : Fit s := fun {y c} hc i hi => by
    obtain ⟨ha, rfl⟩ := Array.getElem?_eq_some_iff.mp hc
    have q := List.all_eq_true.mp ((Array.all_eq_true_iff_forall_mem.mp hF) _ (Array.getElem_mem ha)) i (List.mem_range.mpr hi)
    simpa [Array.getElem?_eq_getElem hi] using q
  obtain ⟨i0, ev0⟩ := is_v hk0
  obtain rfl : w0 = (.int i0) := Option.some.inj ev0
  obtain ⟨i1, ev1⟩ := is_v hk1
  obtain rfl : w1 = (.int i1) := Option.some.inj ev1
  obtain ⟨i2, ev2⟩ := is_v hk2
  obtain rfl : w2 = (.int i2) := Option.some.inj ev2
  obtain ⟨i3, ev3⟩ := is_v hk3
  obtain rfl : w3 = (.int i3) := Option.some.inj ev3
  obtain ⟨i4, ev4⟩ := is_v hq4
  obtain rfl : w4 = (.int i4) := Option.some.inj ev4
  obtain ⟨cs, e4⟩ := is_v (Cond.before_iff.mp (hsets _ (List.mem_of_getElem? (i := 1) rfl)))
  have S4 : Sta s s.heap "java/lang/String" "COMPACT_STRINGS" "Z" (.int cs) := Sta.start e4 (Or.inl (hsets _ (List.mem_of_getElem? (i := 0) rfl)))
  have c4 : ¬ (cs = (0 : Int32)) := gotF (Cond.eq_ints e4 (Term.int_eval (0))) (not_v (Cond.before_iff.mp (hsets _ (List.mem_of_getElem? (i := 2) rfl))))
  obtain ⟨su, e5, r5⟩ := isR_v (Cond.before_iff.mp (hsets _ (List.mem_of_getElem? (i := 16) rfl)))
  have S5 : Sta s s.heap "java/lang/Throwable" "UNASSIGNED_STACK" "[Ljava/lang/StackTraceElement;" su := Sta.start e5 (Or.inl (hsets _ (List.mem_of_getElem? (i := 15) rfl)))
  obtain ⟨ss, e6, r6⟩ := isR_v (Cond.before_iff.mp (hsets _ (List.mem_of_getElem? (i := 21) rfl)))
  have S6 : Sta s s.heap "java/lang/Throwable" "SUPPRESSED_SENTINEL" "Ljava/util/List;" ss := Sta.start e6 (Or.inl (hsets _ (List.mem_of_getElem? (i := 20) rfl)))
  obtain ⟨od, ko, vo, e7, B7⟩ := own_tbl hfit (hsets _ (List.mem_of_getElem? (i := 32) rfl)) (eqv_i (Term.int_eval (100)) (Cond.before_iff.mp (hsets _ (List.mem_of_getElem? (i := 33) rfl)))) (w_22 hw)
  have S7 : Sta s s.heap "java/lang/Integer" "DigitOnes" "[B" (.ref od) := Sta.start e7 (Or.inl (hsets _ (List.mem_of_getElem? (i := 31) rfl)))
  obtain ⟨ot, kt2, vt, e8, B8⟩ := own_tbl hfit (hsets _ (List.mem_of_getElem? (i := 37) rfl)) (eqv_i (Term.int_eval (100)) (Cond.before_iff.mp (hsets _ (List.mem_of_getElem? (i := 38) rfl)))) (w_22 hw)
  have S8 : Sta s s.heap "java/lang/Integer" "DigitTens" "[B" (.ref ot) := Sta.start e8 (Or.inl (hsets _ (List.mem_of_getElem? (i := 36) rfl)))
  obtain ⟨nR, hn2⟩ := and_e hn
  obtain ⟨nS, nL⟩ := and_e hn2
  obtain ⟨k0, -, -, -, ek0, -⟩ := Cond.exactly_spec (Cond.before_iff.mpr nS)
  have Sk0 : Sta s s.heap "com/example/formulary/formulary/host/FormulaException$Kind" "SYNTAX" "Lcom/example/formulary/formulary/host/FormulaException$Kind;" (.ref k0) := Sta.start ek0 (Or.inr ⟨(w_6 hw), (w_95 hw)⟩)
  obtain ⟨k1, -, -, -, ek1, -⟩ := Cond.exactly_spec (Cond.before_iff.mpr nR)
  have Sk1 : Sta s s.heap "com/example/formulary/formulary/host/FormulaException$Kind" "RUNNING" "Lcom/example/formulary/formulary/host/FormulaException$Kind;" (.ref k1) := Sta.start ek1 (Or.inr ⟨(w_6 hw), (w_7 hw)⟩)
  obtain ⟨k2, -, -, -, ek2, -⟩ := Cond.exactly_spec (Cond.before_iff.mpr nL)
  have Sk2 : Sta s s.heap "com/example/formulary/formulary/host/FormulaException$Kind" "LIMIT" "Lcom/example/formulary/formulary/host/FormulaException$Kind;" (.ref k2) := Sta.start ek2 (Or.inr ⟨(w_6 hw), (w_250 hw)⟩)
  have hCH : CHv s own_EL s.vm s.heap := CHv.start (own_EW hw) (fun p hp => hcalls.1 p ((by decide : ∀ p ∈ own_EL, p ∈ consts_1) p hp)) (hsets _ (List.mem_of_getElem? (i := 2) rfl)) (w_22 hw) (w_18 hw)
  obtain ⟨n, o, h1, h2, h3, _, L, rfl, ⟨rfl, N⟩, hq⟩ := rm_law l s _ hw tables_1 i0 i1 i2 i3 i4 cs su ss od ko vo ot kt2 vt k0 k1 k2 s.heap s.heap.size (Nat.le_refl _) (Old.start s) S4 S5 S6 S7 S8 Sk0 Sk1 Sk2 r5 r6 c4 B7 B8 p e ha hc hk s m _ below hf ((Spec.applies_iff_loose hf).mp happ).1 ⟨rfl, State.Warmed39.refl s, rfl, hCH⟩ trivial
  refine ⟨n, _, h1, h2, h3, hpost _ _ _ _ _ _ ⟨Cond.after_iff.mpr rfl, Cond.after_iff.mpr (eq_i res_at (Term.int_eval (1)) rfl), trivial⟩ ⟨hq.1, hq.2.1, hq.2.2.1, (hq.2.2.2.sift fun y hy => Or.inr (N y hy)).mono (by decide) (by decide)⟩⟩
theorem main_1_1 : Claimed_1_1 := comes_1 fun _ _ _ _ _ _ h hF => ⟨h.1, hF⟩
theorem main_1_2 : Claimed_1_2 := comes_1 fun _ _ _ _ _ _ h hF => ⟨h.2.1, hF⟩
end Jvm.Pilot.@@N@@
namespace Jvm.Pilot.@@N@@
open Jvm Jvm.ClassFile Sem Op Lib Jvm.Free Jvm.Stand Jvm.Pilot.@@N@@.Jvm.D
/-! MADE BY PROGRAM (witnessworld.py) out of the Statement's table words and the real class files: 42 classes; the members and pool entries that the words name. The judged class is class 1, her method 2. -/
namespace start1
open Jvm.ClassFile
def u (s : String) : CpInfo := .utf8 (stringToUtf16 s)
/-- a pool by its gaps: so many unusable entries, then the entry; so many at the end -/
def gap : Nat → List CpInfo → List CpInfo
  | 0, r => r
  | n + 1, r => .unusable :: gap n r
def poolList (es : List (Nat × CpInfo)) (last : Nat) : List CpInfo := es.foldr (fun e r => gap e.1 (e.2 :: r)) (gap last [])
def pool (es : List (Nat × CpInfo)) (last : Nat) : Array CpInfo := ⟨poolList es last⟩
def fileOf (pool : Array CpInfo) (this : Nat) (attrs : Array Attribute := #[]) (ms : Array MethodInfo := #[]) (fl : Nat := 33) (sup : Nat := 0) (ifs : Array Nat := #[]) (fds : Array FieldInfo := #[]) : ClassFile where
  minorVersion := 0
  majorVersion := 65
  constantPool := pool
  accessFlags := fl
  thisClass := this
  superClass := sup
  interfaces := ifs
  fields := fds
  methods := ms
  attributes := attrs
def plain (name : String) (sup : Option ClassId) : Class where
  name := name
  kind := .ordinary
  loader := none
  accessFlags := 33
  super := sup
  interfaces := #[]
  cf := none
  fields := #[]
  methods := #[]
  instanceTypes := #[]
  staticTypes := #[]
  resolved := #[]
  callSites := []
  init := .initialized
  statics := none
  mirror := none

def pool0 : Array CpInfo := pool [(5, u "<init>"), (0, u "()V"), (1, .class_ 10), (1, u "java/lang/Object"), (85, u "clone"), (0, u "()Ljava/lang/Object;")] 26

def k0c0 : Code := { maxStack := 0, maxLocals := 1, code := object_method_1_code, exceptionTable := #[], attributes := #[] }
def k0m0 : Method := { name := "<init>", desc := "()V", sig := { parameters := [], returnType := none }, accessFlags := 1, code := some k0c0 }
def k0m1 : Method := { name := "clone", desc := "()Ljava/lang/Object;", sig := { parameters := [], returnType := some (.object "java/lang/Object") }, accessFlags := 260, code := none }
/-- java/lang/Object -/
def k0 : Class := { plain "java/lang/Object" none with
  accessFlags := 33
  interfaces := #[]
  cf := some (fileOf pool0 8 #[] #[{ accessFlags := 1, nameIndex := 5, descriptorIndex := 6, attributes := #[] }, { accessFlags := 260, nameIndex := 96, descriptorIndex := 97, attributes := #[] }] 33 0 #[] #[])
  fields := #[]
  methods := #[k0m0, k0m1]
  instanceTypes := #[]
  staticTypes := #[]
  resolved := Array.replicate 124 none
  statics := none }

def pool1 : Array CpInfo := pool [(2, .class_ 4), (1, u "java/lang/Object"), (0, u "<init>"), (0, u "()V"), (0, .integer 2147483647), (0, .fieldref 9 10), (0, .class_ 11), (0, .nameAndType 12 13), (0, u "com/example/formulary/formulary/host/FormulaException$Kind"), (0, u "SYNTAX"), (0, u "Lcom/example/formulary/formulary/host/FormulaException$Kind;"), (0, .fieldref 9 15), (0, .nameAndType 16 13), (0, u "RUNNING"), (0, .fieldref 9 18), (0, .nameAndType 19 13), (0, u "LIMIT"), (0, .methodref 21 22), (0, .class_ 23), (0, .nameAndType 24 25), (0, u "com/example/formulary/formulary/host/FormulaExceptionHasPlacePinLaw"), (0, u "kindOf"), (0, u "(I)Lcom/example/formulary/formulary/host/FormulaException$Kind;"), (0, .methodref 27 28), (0, .class_ 29), (0, .nameAndType 30 31), (0, u "java/lang/String"), (0, u "valueOf"), (0, u "(C)Ljava/lang/String;"), (0, .class_ 33), (0, u "com/example/formulary/formulary/host/FormulaException"), (0, .methodref 32 35), (0, .nameAndType 5 36), (0, u "(Lcom/example/formulary/formulary/host/FormulaException$Kind;Ljava/lang/String;II)V"), (0, .methodref 32 38), (0, .nameAndType 39 40), (0, u "hasPlace"), (0, u "()Z"), (0, .methodref 32 42), (0, .nameAndType 43 44), (0, u "line"), (0, u "()I"), (0, .methodref 32 46), (0, .nameAndType 47 44), (0, u "column"), (0, .methodref 32 49), (0, .nameAndType 5 50), (0, u "(Lcom/example/formulary/formulary/host/FormulaException$Kind;Ljava/lang/String;)V"), (3, u "law"), (0, u "(IIIII)Z")] 4

def k1m0 : Method := { name := "<init>", desc := "()V", sig := { parameters := [], returnType := none }, accessFlags := 1, code := none }
def k1c1 : Code := { maxStack := 2, maxLocals := 2, code := method_2_code, exceptionTable := #[], attributes := #[] }
def k1m1 : Method := { name := "kindOf", desc := "(I)Lcom/example/formulary/formulary/host/FormulaException$Kind;", sig := { parameters := [.int], returnType := some (.object "com/example/formulary/formulary/host/FormulaException$Kind") }, accessFlags := 10, code := some k1c1 }
def k1c2 : Code := { maxStack := 6, maxLocals := 10, code := code, exceptionTable := #[], attributes := #[] }
def k1m2 : Method := { name := "law", desc := "(IIIII)Z", sig := { parameters := [.int, .int, .int, .int, .int], returnType := some .boolean }, accessFlags := 9, code := some k1c2 }
/-- com/example/formulary/formulary/host/FormulaExceptionHasPlacePinLaw -/
def k1 : Class := { plain "com/example/formulary/formulary/host/FormulaExceptionHasPlacePinLaw" (some 0) with
  accessFlags := 49
  interfaces := #[]
  cf := some (fileOf pool1 21 #[] #[{ accessFlags := 1, nameIndex := 5, descriptorIndex := 6, attributes := #[] }, { accessFlags := 10, nameIndex := 24, descriptorIndex := 25, attributes := #[] }, { accessFlags := 9, nameIndex := 54, descriptorIndex := 55, attributes := #[] }] 49 2 #[] #[])
  fields := #[]
  methods := #[k1m0, k1m1, k1m2]
  instanceTypes := #[]
  staticTypes := #[]
  resolved := Array.replicate 60 none
  statics := none }

def pool2 : Array CpInfo := pool [(1, .class_ 2), (0, u "java/lang/constant/Constable"), (0, .class_ 4), (0, u "java/lang/Object")] 6

/-- java/lang/constant/Constable -/
def k2 : Class := { plain "java/lang/constant/Constable" (some 0) with
  accessFlags := 1537
  interfaces := #[]
  cf := some (fileOf pool2 1 #[] #[] 1537 3 #[] #[])
  fields := #[]
  methods := #[]
  instanceTypes := #[]
  staticTypes := #[]
  resolved := Array.replicate 11 none
  statics := none }

def pool3 : Array CpInfo := pool [(1, .class_ 2), (0, u "java/lang/Comparable"), (0, .class_ 4), (0, u "java/lang/Object")] 7

/-- java/lang/Comparable -/
def k3 : Class := { plain "java/lang/Comparable" (some 0) with
  accessFlags := 1537
  interfaces := #[]
  cf := some (fileOf pool3 1 #[] #[] 1537 3 #[] #[])
  fields := #[]
  methods := #[]
  instanceTypes := #[]
  staticTypes := #[]
  resolved := Array.replicate 12 none
  statics := none }

def pool4 : Array CpInfo := pool [(1, .class_ 2), (0, u "java/io/Serializable"), (0, .class_ 4), (0, u "java/lang/Object")] 2

/-- java/io/Serializable -/
def k4 : Class := { plain "java/io/Serializable" (some 0) with
  accessFlags := 1537
  interfaces := #[]
  cf := some (fileOf pool4 1 #[] #[] 1537 3 #[] #[])
  fields := #[]
  methods := #[]
  instanceTypes := #[]
  staticTypes := #[]
  resolved := Array.replicate 7 none
  statics := none }

def pool5 : Array CpInfo := pool [(2, .class_ 4), (1, u "java/lang/Enum"), (0, u "name"), (0, u "Ljava/lang/String;"), (2, u "ordinal"), (0, u "I"), (1, .class_ 14), (1, u "java/lang/Object"), (4, u "hash"), (86, .class_ 108), (1, u "java/lang/Enum$EnumDesc"), (2, .class_ 112), (0, u "java/lang/constant/Constable"), (0, .class_ 114), (0, u "java/lang/Comparable"), (0, .class_ 116), (0, u "java/io/Serializable")] 87

/-- java/lang/Enum -/
def k5 : Class := { plain "java/lang/Enum" (some 0) with
  accessFlags := 1057
  interfaces := #[2, 3, 4]
  cf := some (fileOf pool5 2 #[.nestMembers #[106]] #[] 1057 12 #[111, 113, 115] #[{ accessFlags := 18, nameIndex := 5, descriptorIndex := 6, attributes := #[] }, { accessFlags := 18, nameIndex := 9, descriptorIndex := 10, attributes := #[] }, { accessFlags := 2, nameIndex := 19, descriptorIndex := 10, attributes := #[] }])
  fields := #[{ name := "name", type := (.object "java/lang/String"), accessFlags := 18, slot := 0, constantValue := 0 }, { name := "ordinal", type := .int, accessFlags := 18, slot := 1, constantValue := 0 }, { name := "hash", type := .int, accessFlags := 2, slot := 2, constantValue := 0 }]
  methods := #[]
  instanceTypes := #[(.object "java/lang/String"), .int, .int]
  staticTypes := #[]
  resolved := Array.replicate 204 none
  statics := none }

def pool6 : Array CpInfo := pool [(1, .class_ 2), (0, u "com/example/formulary/formulary/host/FormulaException$Kind"), (2, u "SYNTAX"), (0, u "Lcom/example/formulary/formulary/host/FormulaException$Kind;"), (2, u "RUNNING"), (2, u "LIMIT"), (2, u "$VALUES"), (0, u "[Lcom/example/formulary/formulary/host/FormulaException$Kind;"), (6, .class_ 25), (1, u "java/lang/Enum"), (26, .class_ 53), (0, u "com/example/formulary/formulary/host/FormulaException")] 2

/-- com/example/formulary/formulary/host/FormulaException$Kind -/
def k6 : Class := { plain "com/example/formulary/formulary/host/FormulaException$Kind" (some 5) with
  accessFlags := 16433
  interfaces := #[]
  cf := some (fileOf pool6 1 #[.nestHost 52] #[] 16433 23 #[] #[{ accessFlags := 16409, nameIndex := 5, descriptorIndex := 6, attributes := #[] }, { accessFlags := 16409, nameIndex := 9, descriptorIndex := 6, attributes := #[] }, { accessFlags := 16409, nameIndex := 12, descriptorIndex := 6, attributes := #[] }, { accessFlags := 4122, nameIndex := 15, descriptorIndex := 16, attributes := #[] }])
  fields := #[{ name := "SYNTAX", type := (.object "com/example/formulary/formulary/host/FormulaException$Kind"), accessFlags := 16409, slot := 0, constantValue := 0 }, { name := "RUNNING", type := (.object "com/example/formulary/formulary/host/FormulaException$Kind"), accessFlags := 16409, slot := 1, constantValue := 0 }, { name := "LIMIT", type := (.object "com/example/formulary/formulary/host/FormulaException$Kind"), accessFlags := 16409, slot := 2, constantValue := 0 }, { name := "$VALUES", type := (.array (.object "com/example/formulary/formulary/host/FormulaException$Kind")), accessFlags := 4122, slot := 3, constantValue := 0 }]
  methods := #[]
  instanceTypes := #[(.object "java/lang/String"), .int, .int]
  staticTypes := #[(.object "com/example/formulary/formulary/host/FormulaException$Kind"), (.object "com/example/formulary/formulary/host/FormulaException$Kind"), (.object "com/example/formulary/formulary/host/FormulaException$Kind"), (.array (.object "com/example/formulary/formulary/host/FormulaException$Kind"))]
  resolved := Array.replicate 56 none
  statics := some 0 }

def pool7 : Array CpInfo := pool [(2, .class_ 4), (1, u "java/lang/CharSequence"), (42, .class_ 48), (0, u "java/lang/CharSequence$1CodePointIterator"), (10, .class_ 60), (0, u "java/lang/CharSequence$1CharIterator"), (5, .class_ 67), (0, u "java/lang/Object")] 63

/-- java/lang/CharSequence -/
def k7 : Class := { plain "java/lang/CharSequence" (some 0) with
  accessFlags := 1537
  interfaces := #[]
  cf := some (fileOf pool7 2 #[.nestMembers #[47, 59]] #[] 1537 66 #[] #[])
  fields := #[]
  methods := #[]
  instanceTypes := #[]
  staticTypes := #[]
  resolved := Array.replicate 131 none
  statics := none }

def pool8 : Array CpInfo := pool [(1, .class_ 2), (0, u "java/lang/constant/ConstantDesc"), (0, .class_ 4), (0, u "java/lang/Object")] 32

/-- java/lang/constant/ConstantDesc -/
def k8 : Class := { plain "java/lang/constant/ConstantDesc" (some 0) with
  accessFlags := 1537
  interfaces := #[]
  cf := some (fileOf pool8 1 #[] #[] 1537 3 #[] #[])
  fields := #[]
  methods := #[]
  instanceTypes := #[]
  staticTypes := #[]
  resolved := Array.replicate 37 none
  statics := none }

def pool9 : Array CpInfo := pool [(1, .methodref 2 3), (0, .class_ 4), (0, .nameAndType 5 6), (0, u "java/lang/Object"), (0, u "<init>"), (0, u "()V"), (2, .fieldref 10 11), (0, .class_ 12), (0, .nameAndType 13 14), (0, u "java/lang/String"), (0, u "value"), (0, u "[B"), (0, .fieldref 10 16), (0, .nameAndType 17 18), (0, u "coder"), (0, u "B"), (2, u "hash"), (0, u "I"), (2, u "hashIsZero"), (0, u "Z"), (11, .fieldref 10 39), (0, .nameAndType 40 26), (0, u "COMPACT_STRINGS"), (12, u "toBytes"), (0, .methodref 55 56), (0, .class_ 57), (0, .nameAndType 58 59), (0, u "java/util/Arrays"), (0, u "copyOfRange"), (0, u "([BII)[B"), (47, .class_ 109), (1, u "java/lang/StringLatin1"), (32, u "()Z"), (50, .class_ 195), (1, u "java/lang/System"), (13, .methodref 10 210), (0, .nameAndType 5 211), (0, u "([BB)V"), (0, .methodref 193 213), (0, .nameAndType 214 215), (0, u "arraycopy"), (0, u "(Ljava/lang/Object;ILjava/lang/Object;II)V"), (118, u "()I"), (0, .methodref 10 336), (0, .nameAndType 17 337), (0, u "()B"), (2, u "()[B"), (28, u "(C)Z"), (119, .methodref 10 490), (0, .nameAndType 5 491), (0, u "(Ljava/lang/AbstractStringBuilder;Ljava/lang/Void;)V"), (1, .nameAndType 494 142), (0, u "isLatin1"), (11, .nameAndType 507 334), (0, u "length"), (24, u "getBytes"), (16, .methodref 550 506), (0, .class_ 551), (0, u "java/lang/AbstractStringBuilder"), (0, .methodref 550 553), (0, .nameAndType 554 340), (0, u "getValue"), (20, .class_ 576), (0, u "java/lang/CharSequence"), (22, u "CASE_INSENSITIVE_ORDER"), (0, u "Ljava/util/Comparator;"), (181, u "valueOf"), (0, u "(C)Ljava/lang/String;"), (37, u "([BIB)V"), (193, .methodref 107 1016), (0, .nameAndType 1017 369), (0, u "canEncode"), (0, .methodref 107 1019), (0, .nameAndType 53 1020), (0, u "(C)[B"), (26, .methodref 550 493), (53, u "serialPersistentFields"), (0, u "[Ljava/io/ObjectStreamField;"), (0, .class_ 1104), (0, u "java/lang/String$CaseInsensitiveComparator"), (1, .class_ 1107), (0, u "java/io/Serializable"), (0, .class_ 1109), (0, u "java/lang/Comparable"), (0, .class_ 1111), (0, u "java/lang/constant/Constable"), (0, .class_ 1113), (0, u "java/lang/constant/ConstantDesc"), (2, u "serialVersionUID"), (0, u "J"), (3, u "REPL"), (0, u "C"), (2, u "LATIN1"), (1, u "UTF16"), (105, u "(Ljava/lang/StringBuilder;)V")] 217

def k9m0 : Method := { name := "<init>", desc := "()V", sig := { parameters := [], returnType := none }, accessFlags := 1, code := none }
def k9c1 : Code := { maxStack := 3, maxLocals := 2, code := jdk_42_method_53_code, exceptionTable := #[], attributes := #[] }
def k9m1 : Method := { name := "<init>", desc := "(Ljava/lang/StringBuilder;)V", sig := { parameters := [(.object "java/lang/StringBuilder")], returnType := none }, accessFlags := 1, code := some k9c1 }
def k9c2 : Code := { maxStack := 2, maxLocals := 1, code := jdk_42_method_54_code, exceptionTable := #[], attributes := #[] }
def k9m2 : Method := { name := "length", desc := "()I", sig := { parameters := [], returnType := some .int }, accessFlags := 1, code := some k9c2 }
def k9c3 : Code := { maxStack := 4, maxLocals := 1, code := jdk_42_method_139_code, exceptionTable := #[], attributes := #[] }
def k9m3 : Method := { name := "valueOf", desc := "(C)Ljava/lang/String;", sig := { parameters := [.char], returnType := some (.object "java/lang/String") }, accessFlags := 9, code := some k9c3 }
def k9c4 : Code := { maxStack := 5, maxLocals := 4, code := jdk_42_method_147_code, exceptionTable := #[], attributes := #[] }
def k9m4 : Method := { name := "getBytes", desc := "([BIB)V", sig := { parameters := [(.array .byte), .int, .byte], returnType := none }, accessFlags := 0, code := some k9c4 }
def k9c5 : Code := { maxStack := 5, maxLocals := 5, code := jdk_42_method_150_code, exceptionTable := #[], attributes := #[] }
def k9m5 : Method := { name := "<init>", desc := "(Ljava/lang/AbstractStringBuilder;Ljava/lang/Void;)V", sig := { parameters := [(.object "java/lang/AbstractStringBuilder"), (.object "java/lang/Void")], returnType := none }, accessFlags := 0, code := some k9c5 }
def k9c6 : Code := { maxStack := 2, maxLocals := 3, code := jdk_42_method_151_code, exceptionTable := #[], attributes := #[] }
def k9m6 : Method := { name := "<init>", desc := "([BB)V", sig := { parameters := [(.array .byte), .byte], returnType := none }, accessFlags := 0, code := some k9c6 }
def k9c7 : Code := { maxStack := 1, maxLocals := 1, code := jdk_42_method_152_code, exceptionTable := #[], attributes := #[] }
def k9m7 : Method := { name := "coder", desc := "()B", sig := { parameters := [], returnType := some .byte }, accessFlags := 0, code := some k9c7 }
/-- java/lang/String -/
def k9 : Class := { plain "java/lang/String" (some 0) with
  accessFlags := 49
  interfaces := #[4, 3, 7, 2, 8]
  cf := some (fileOf pool9 10 #[.nestMembers #[1103]] #[{ accessFlags := 1, nameIndex := 5, descriptorIndex := 6, attributes := #[] }, { accessFlags := 1, nameIndex := 5, descriptorIndex := 1233, attributes := #[] }, { accessFlags := 1, nameIndex := 507, descriptorIndex := 334, attributes := #[] }, { accessFlags := 9, nameIndex := 782, descriptorIndex := 783, attributes := #[] }, { accessFlags := 0, nameIndex := 532, descriptorIndex := 821, attributes := #[] }, { accessFlags := 0, nameIndex := 5, descriptorIndex := 491, attributes := #[] }, { accessFlags := 0, nameIndex := 5, descriptorIndex := 211, attributes := #[] }, { accessFlags := 0, nameIndex := 17, descriptorIndex := 337, attributes := #[] }] 49 2 #[1106, 1108, 575, 1110, 1112] #[{ accessFlags := 18, nameIndex := 13, descriptorIndex := 14, attributes := #[] }, { accessFlags := 18, nameIndex := 17, descriptorIndex := 18, attributes := #[] }, { accessFlags := 2, nameIndex := 21, descriptorIndex := 22, attributes := #[] }, { accessFlags := 2, nameIndex := 25, descriptorIndex := 26, attributes := #[] }, { accessFlags := 26, nameIndex := 1116, descriptorIndex := 1117, attributes := #[] }, { accessFlags := 24, nameIndex := 40, descriptorIndex := 26, attributes := #[] }, { accessFlags := 26, nameIndex := 1101, descriptorIndex := 1102, attributes := #[] }, { accessFlags := 26, nameIndex := 1121, descriptorIndex := 1122, attributes := #[] }, { accessFlags := 25, nameIndex := 599, descriptorIndex := 600, attributes := #[] }, { accessFlags := 24, nameIndex := 1125, descriptorIndex := 18, attributes := #[] }, { accessFlags := 24, nameIndex := 1127, descriptorIndex := 18, attributes := #[] }])
  fields := #[{ name := "value", type := (.array .byte), accessFlags := 18, slot := 0, constantValue := 0 }, { name := "coder", type := .byte, accessFlags := 18, slot := 1, constantValue := 0 }, { name := "hash", type := .int, accessFlags := 2, slot := 2, constantValue := 0 }, { name := "hashIsZero", type := .boolean, accessFlags := 2, slot := 3, constantValue := 0 }, { name := "serialVersionUID", type := .long, accessFlags := 26, slot := 0, constantValue := 0 }, { name := "COMPACT_STRINGS", type := .boolean, accessFlags := 24, slot := 1, constantValue := 0 }, { name := "serialPersistentFields", type := (.array (.object "java/io/ObjectStreamField")), accessFlags := 26, slot := 2, constantValue := 0 }, { name := "REPL", type := .char, accessFlags := 26, slot := 3, constantValue := 0 }, { name := "CASE_INSENSITIVE_ORDER", type := (.object "java/util/Comparator"), accessFlags := 25, slot := 4, constantValue := 0 }, { name := "LATIN1", type := .byte, accessFlags := 24, slot := 5, constantValue := 0 }, { name := "UTF16", type := .byte, accessFlags := 24, slot := 6, constantValue := 0 }]
  methods := #[k9m0, k9m1, k9m2, k9m3, k9m4, k9m5, k9m6, k9m7]
  instanceTypes := #[(.array .byte), .byte, .int, .boolean]
  staticTypes := #[.long, .boolean, (.array (.object "java/io/ObjectStreamField")), .char, (.object "java/util/Comparator"), .byte, .byte]
  resolved := Array.replicate 1451 none
  statics := some 1 }

def pool10 : Array CpInfo := pool [(4, .class_ 6), (1, u "java/lang/Object"), (0, u "<init>"), (0, u "()V"), (5, .class_ 16), (1, u "java/lang/StringLatin1"), (73, u "canEncode"), (14, u "(C)Z"), (15, u "$assertionsDisabled"), (0, u "Z"), (98, .class_ 223), (1, u "java/lang/StringLatin1$LinesSpliterator"), (156, u "toBytes"), (1, u "(C)[B"), (7, .class_ 391), (0, u "java/lang/StringLatin1$CharsSpliterator")] 3

def k10m0 : Method := { name := "<init>", desc := "()V", sig := { parameters := [], returnType := none }, accessFlags := 0, code := none }
def k10c1 : Code := { maxStack := 2, maxLocals := 1, code := jdk_43_method_3_code, exceptionTable := #[], attributes := #[] }
def k10m1 : Method := { name := "canEncode", desc := "(C)Z", sig := { parameters := [.char], returnType := some .boolean }, accessFlags := 9, code := some k10c1 }
def k10c2 : Code := { maxStack := 4, maxLocals := 1, code := jdk_43_method_46_code, exceptionTable := #[], attributes := #[] }
def k10m2 : Method := { name := "toBytes", desc := "(C)[B", sig := { parameters := [.char], returnType := some (.array .byte) }, accessFlags := 9, code := some k10c2 }
/-- java/lang/StringLatin1 -/
def k10 : Class := { plain "java/lang/StringLatin1" (some 0) with
  accessFlags := 48
  interfaces := #[]
  cf := some (fileOf pool10 14 #[.nestMembers #[390, 221]] #[{ accessFlags := 0, nameIndex := 7, descriptorIndex := 8, attributes := #[] }, { accessFlags := 9, nameIndex := 90, descriptorIndex := 105, attributes := #[] }, { accessFlags := 9, nameIndex := 380, descriptorIndex := 382, attributes := #[] }] 48 4 #[] #[{ accessFlags := 4120, nameIndex := 121, descriptorIndex := 122, attributes := #[] }])
  fields := #[{ name := "$assertionsDisabled", type := .boolean, accessFlags := 4120, slot := 0, constantValue := 0 }]
  methods := #[k10m0, k10m1, k10m2]
  instanceTypes := #[]
  staticTypes := #[.boolean]
  resolved := Array.replicate 395 none
  statics := none }

def pool11 : Array CpInfo := pool [(1, .methodref 2 3), (0, .class_ 4), (0, .nameAndType 5 6), (0, u "java/lang/Object"), (0, u "<init>"), (0, u "()V"), (0, .fieldref 8 9), (0, .class_ 10), (0, .nameAndType 11 12), (0, u "java/lang/Throwable"), (0, u "cause"), (0, u "Ljava/lang/Throwable;"), (0, .fieldref 8 14), (0, .nameAndType 15 16), (0, u "UNASSIGNED_STACK"), (0, u "[Ljava/lang/StackTraceElement;"), (0, .fieldref 8 18), (0, .nameAndType 19 16), (0, u "stackTrace"), (0, .fieldref 8 21), (0, .nameAndType 22 23), (0, u "SUPPRESSED_SENTINEL"), (0, u "Ljava/util/List;"), (0, .fieldref 8 25), (0, .nameAndType 26 23), (0, u "suppressedExceptions"), (4, .fieldref 8 32), (0, .nameAndType 33 34), (0, u "detailMessage"), (0, u "Ljava/lang/String;"), (58, .class_ 94), (0, u "java/lang/Throwable$WrappedPrintStream"), (6, .class_ 103), (1, u "java/lang/Throwable$PrintStreamOrWriter"), (61, u "$assertionsDisabled"), (0, u "Z"), (26, .class_ 194), (0, u "java/lang/Throwable$WrappedPrintWriter"), (5, u "backtrace"), (0, u "Ljava/lang/Object;"), (9, u "depth"), (0, u "I"), (56, .class_ 271), (1, u "java/lang/Throwable$SentinelHolder"), (32, u "EMPTY_THROWABLE_ARRAY"), (0, u "[Ljava/lang/Throwable;"), (12, .class_ 319), (0, u "java/io/Serializable"), (0, u "serialVersionUID"), (0, u "J"), (5, u "NULL_CAUSE_MESSAGE"), (0, u "SELF_SUPPRESSION_MESSAGE"), (0, u "CAUSE_CAPTION"), (0, u "SUPPRESSED_CAPTION"), (9, u "(Ljava/lang/String;Ljava/lang/Throwable;ZZ)V")] 63

def k11m0 : Method := { name := "<init>", desc := "()V", sig := { parameters := [], returnType := none }, accessFlags := 1, code := none }
def k11c1 : Code := { maxStack := 2, maxLocals := 5, code := jdk_78_method_5_code, exceptionTable := #[], attributes := #[] }
def k11m1 : Method := { name := "<init>", desc := "(Ljava/lang/String;Ljava/lang/Throwable;ZZ)V", sig := { parameters := [(.object "java/lang/String"), (.object "java/lang/Throwable"), .boolean, .boolean], returnType := none }, accessFlags := 4, code := some k11c1 }
/-- java/lang/Throwable -/
def k11 : Class := { plain "java/lang/Throwable" (some 0) with
  accessFlags := 33
  interfaces := #[4]
  cf := some (fileOf pool11 8 #[.nestMembers #[193, 93, 101, 269]] #[{ accessFlags := 1, nameIndex := 5, descriptorIndex := 6, attributes := #[] }, { accessFlags := 4, nameIndex := 5, descriptorIndex := 340, attributes := #[] }] 33 2 #[318] #[{ accessFlags := 26, nameIndex := 320, descriptorIndex := 321, attributes := #[] }, { accessFlags := 130, nameIndex := 200, descriptorIndex := 201, attributes := #[] }, { accessFlags := 2, nameIndex := 33, descriptorIndex := 34, attributes := #[] }, { accessFlags := 26, nameIndex := 15, descriptorIndex := 16, attributes := #[] }, { accessFlags := 2, nameIndex := 11, descriptorIndex := 12, attributes := #[] }, { accessFlags := 2, nameIndex := 19, descriptorIndex := 16, attributes := #[] }, { accessFlags := 130, nameIndex := 211, descriptorIndex := 212, attributes := #[] }, { accessFlags := 26, nameIndex := 22, descriptorIndex := 23, attributes := #[] }, { accessFlags := 2, nameIndex := 26, descriptorIndex := 23, attributes := #[] }, { accessFlags := 26, nameIndex := 327, descriptorIndex := 34, attributes := #[] }, { accessFlags := 26, nameIndex := 328, descriptorIndex := 34, attributes := #[] }, { accessFlags := 26, nameIndex := 329, descriptorIndex := 34, attributes := #[] }, { accessFlags := 26, nameIndex := 330, descriptorIndex := 34, attributes := #[] }, { accessFlags := 26, nameIndex := 304, descriptorIndex := 305, attributes := #[] }, { accessFlags := 4120, nameIndex := 165, descriptorIndex := 166, attributes := #[] }])
  fields := #[{ name := "serialVersionUID", type := .long, accessFlags := 26, slot := 0, constantValue := 0 }, { name := "backtrace", type := (.object "java/lang/Object"), accessFlags := 130, slot := 0, constantValue := 0 }, { name := "detailMessage", type := (.object "java/lang/String"), accessFlags := 2, slot := 1, constantValue := 0 }, { name := "UNASSIGNED_STACK", type := (.array (.object "java/lang/StackTraceElement")), accessFlags := 26, slot := 1, constantValue := 0 }, { name := "cause", type := (.object "java/lang/Throwable"), accessFlags := 2, slot := 2, constantValue := 0 }, { name := "stackTrace", type := (.array (.object "java/lang/StackTraceElement")), accessFlags := 2, slot := 3, constantValue := 0 }, { name := "depth", type := .int, accessFlags := 130, slot := 4, constantValue := 0 }, { name := "SUPPRESSED_SENTINEL", type := (.object "java/util/List"), accessFlags := 26, slot := 2, constantValue := 0 }, { name := "suppressedExceptions", type := (.object "java/util/List"), accessFlags := 2, slot := 5, constantValue := 0 }, { name := "NULL_CAUSE_MESSAGE", type := (.object "java/lang/String"), accessFlags := 26, slot := 3, constantValue := 0 }, { name := "SELF_SUPPRESSION_MESSAGE", type := (.object "java/lang/String"), accessFlags := 26, slot := 4, constantValue := 0 }, { name := "CAUSE_CAPTION", type := (.object "java/lang/String"), accessFlags := 26, slot := 5, constantValue := 0 }, { name := "SUPPRESSED_CAPTION", type := (.object "java/lang/String"), accessFlags := 26, slot := 6, constantValue := 0 }, { name := "EMPTY_THROWABLE_ARRAY", type := (.array (.object "java/lang/Throwable")), accessFlags := 26, slot := 7, constantValue := 0 }, { name := "$assertionsDisabled", type := .boolean, accessFlags := 4120, slot := 8, constantValue := 0 }]
  methods := #[k11m0, k11m1]
  instanceTypes := #[(.object "java/lang/Object"), (.object "java/lang/String"), (.object "java/lang/Throwable"), (.array (.object "java/lang/StackTraceElement")), .int, (.object "java/util/List")]
  staticTypes := #[.long, (.array (.object "java/lang/StackTraceElement")), (.object "java/util/List"), (.object "java/lang/String"), (.object "java/lang/String"), (.object "java/lang/String"), (.object "java/lang/String"), (.array (.object "java/lang/Throwable")), .boolean]
  resolved := Array.replicate 404 none
  statics := some 2 }

def pool12 : Array CpInfo := pool [(2, .class_ 4), (1, u "java/lang/Throwable"), (0, u "<init>"), (0, u "()V"), (9, .methodref 2 17), (0, .nameAndType 5 18), (0, u "(Ljava/lang/String;Ljava/lang/Throwable;ZZ)V"), (0, .class_ 20), (0, u "java/lang/Exception"), (0, u "serialVersionUID"), (0, u "J")] 17

def k12m0 : Method := { name := "<init>", desc := "()V", sig := { parameters := [], returnType := none }, accessFlags := 1, code := none }
def k12c1 : Code := { maxStack := 5, maxLocals := 5, code := jdk_59_method_5_code, exceptionTable := #[], attributes := #[] }
def k12m1 : Method := { name := "<init>", desc := "(Ljava/lang/String;Ljava/lang/Throwable;ZZ)V", sig := { parameters := [(.object "java/lang/String"), (.object "java/lang/Throwable"), .boolean, .boolean], returnType := none }, accessFlags := 4, code := some k12c1 }
/-- java/lang/Exception -/
def k12 : Class := { plain "java/lang/Exception" (some 11) with
  accessFlags := 33
  interfaces := #[]
  cf := some (fileOf pool12 19 #[] #[{ accessFlags := 1, nameIndex := 5, descriptorIndex := 6, attributes := #[] }, { accessFlags := 4, nameIndex := 5, descriptorIndex := 18, attributes := #[] }] 33 2 #[] #[{ accessFlags := 24, nameIndex := 21, descriptorIndex := 22, attributes := #[] }])
  fields := #[{ name := "serialVersionUID", type := .long, accessFlags := 24, slot := 0, constantValue := 0 }]
  methods := #[k12m0, k12m1]
  instanceTypes := #[(.object "java/lang/Object"), (.object "java/lang/String"), (.object "java/lang/Throwable"), (.array (.object "java/lang/StackTraceElement")), .int, (.object "java/util/List")]
  staticTypes := #[.long]
  resolved := Array.replicate 40 none
  statics := none }

def pool13 : Array CpInfo := pool [(2, .class_ 4), (1, u "java/lang/Exception"), (0, u "<init>"), (0, u "()V"), (9, .methodref 2 17), (0, .nameAndType 5 18), (0, u "(Ljava/lang/String;Ljava/lang/Throwable;ZZ)V"), (0, .class_ 20), (0, u "java/lang/RuntimeException"), (0, u "serialVersionUID"), (0, u "J")] 17

def k13m0 : Method := { name := "<init>", desc := "()V", sig := { parameters := [], returnType := none }, accessFlags := 1, code := none }
def k13c1 : Code := { maxStack := 5, maxLocals := 5, code := jdk_58_method_5_code, exceptionTable := #[], attributes := #[] }
def k13m1 : Method := { name := "<init>", desc := "(Ljava/lang/String;Ljava/lang/Throwable;ZZ)V", sig := { parameters := [(.object "java/lang/String"), (.object "java/lang/Throwable"), .boolean, .boolean], returnType := none }, accessFlags := 4, code := some k13c1 }
/-- java/lang/RuntimeException -/
def k13 : Class := { plain "java/lang/RuntimeException" (some 12) with
  accessFlags := 33
  interfaces := #[]
  cf := some (fileOf pool13 19 #[] #[{ accessFlags := 1, nameIndex := 5, descriptorIndex := 6, attributes := #[] }, { accessFlags := 4, nameIndex := 5, descriptorIndex := 18, attributes := #[] }] 33 2 #[] #[{ accessFlags := 24, nameIndex := 21, descriptorIndex := 22, attributes := #[] }])
  fields := #[{ name := "serialVersionUID", type := .long, accessFlags := 24, slot := 0, constantValue := 0 }]
  methods := #[k13m0, k13m1]
  instanceTypes := #[(.object "java/lang/Object"), (.object "java/lang/String"), (.object "java/lang/Throwable"), (.array (.object "java/lang/StackTraceElement")), .int, (.object "java/util/List")]
  staticTypes := #[.long]
  resolved := Array.replicate 40 none
  statics := none }

def pool14 : Array CpInfo := pool [(1, .class_ 2), (0, u "java/lang/StringBuilder"), (0, .methodref 1 4), (0, .nameAndType 5 6), (0, u "<init>"), (0, u "()V"), (0, .methodref 1 8), (0, .nameAndType 9 10), (0, u "append"), (0, u "(Ljava/lang/String;)Ljava/lang/StringBuilder;"), (0, .string 12), (0, u " at line "), (0, .methodref 1 14), (0, .nameAndType 9 15), (0, u "(I)Ljava/lang/StringBuilder;"), (0, .string 17), (0, u ", column "), (0, .methodref 1 19), (0, .nameAndType 20 21), (0, u "toString"), (0, u "()Ljava/lang/String;"), (0, .methodref 23 24), (0, .class_ 25), (0, .nameAndType 5 26), (0, u "com/example/formulary/formulary/host/FormulaException"), (0, u "(Lcom/example/formulary/formulary/host/FormulaException$Kind;Ljava/lang/String;IILjava/lang/String;)V"), (7, .methodref 35 36), (0, .class_ 37), (0, .nameAndType 5 38), (0, u "java/lang/RuntimeException"), (0, u "(Ljava/lang/String;Ljava/lang/Throwable;ZZ)V"), (2, .fieldref 23 42), (0, .nameAndType 43 44), (0, u "kind"), (0, u "Lcom/example/formulary/formulary/host/FormulaException$Kind;"), (0, .fieldref 23 46), (0, .nameAndType 47 48), (0, u "description"), (0, u "Ljava/lang/String;"), (0, .fieldref 23 50), (0, .nameAndType 51 52), (0, u "line"), (0, u "I"), (0, .fieldref 23 54), (0, .nameAndType 55 52), (0, u "column"), (0, u "serialVersionUID"), (0, u "J"), (3, u "(Lcom/example/formulary/formulary/host/FormulaException$Kind;Ljava/lang/String;II)V"), (3, .class_ 66), (0, u "com/example/formulary/formulary/host/FormulaException$Kind"), (2, u "(Lcom/example/formulary/formulary/host/FormulaException$Kind;Ljava/lang/String;)V"), (1, u "hasPlace"), (0, u "()Z"), (0, u "()I")] 5

def k14c0 : Code := { maxStack := 7, maxLocals := 5, code := prog_36_method_1_code, exceptionTable := #[], attributes := #[] }
def k14m0 : Method := { name := "<init>", desc := "(Lcom/example/formulary/formulary/host/FormulaException$Kind;Ljava/lang/String;II)V", sig := { parameters := [(.object "com/example/formulary/formulary/host/FormulaException$Kind"), (.object "java/lang/String"), .int, .int], returnType := none }, accessFlags := 1, code := some k14c0 }
def k14c1 : Code := { maxStack := 6, maxLocals := 3, code := prog_36_method_2_code, exceptionTable := #[], attributes := #[] }
def k14m1 : Method := { name := "<init>", desc := "(Lcom/example/formulary/formulary/host/FormulaException$Kind;Ljava/lang/String;)V", sig := { parameters := [(.object "com/example/formulary/formulary/host/FormulaException$Kind"), (.object "java/lang/String")], returnType := none }, accessFlags := 1, code := some k14c1 }
def k14c2 : Code := { maxStack := 5, maxLocals := 6, code := prog_36_method_3_code, exceptionTable := #[], attributes := #[] }
def k14m2 : Method := { name := "<init>", desc := "(Lcom/example/formulary/formulary/host/FormulaException$Kind;Ljava/lang/String;IILjava/lang/String;)V", sig := { parameters := [(.object "com/example/formulary/formulary/host/FormulaException$Kind"), (.object "java/lang/String"), .int, .int, (.object "java/lang/String")], returnType := none }, accessFlags := 2, code := some k14c2 }
def k14c3 : Code := { maxStack := 1, maxLocals := 1, code := prog_36_method_6_code, exceptionTable := #[], attributes := #[] }
def k14m3 : Method := { name := "hasPlace", desc := "()Z", sig := { parameters := [], returnType := some .boolean }, accessFlags := 1, code := some k14c3 }
def k14c4 : Code := { maxStack := 1, maxLocals := 1, code := prog_36_method_7_code, exceptionTable := #[], attributes := #[] }
def k14m4 : Method := { name := "line", desc := "()I", sig := { parameters := [], returnType := some .int }, accessFlags := 1, code := some k14c4 }
def k14c5 : Code := { maxStack := 1, maxLocals := 1, code := prog_36_method_8_code, exceptionTable := #[], attributes := #[] }
def k14m5 : Method := { name := "column", desc := "()I", sig := { parameters := [], returnType := some .int }, accessFlags := 1, code := some k14c5 }
/-- com/example/formulary/formulary/host/FormulaException -/
def k14 : Class := { plain "com/example/formulary/formulary/host/FormulaException" (some 13) with
  accessFlags := 49
  interfaces := #[]
  cf := some (fileOf pool14 23 #[.nestMembers #[65]] #[{ accessFlags := 1, nameIndex := 5, descriptorIndex := 61, attributes := #[] }, { accessFlags := 1, nameIndex := 5, descriptorIndex := 69, attributes := #[] }, { accessFlags := 2, nameIndex := 5, descriptorIndex := 26, attributes := #[] }, { accessFlags := 1, nameIndex := 71, descriptorIndex := 72, attributes := #[] }, { accessFlags := 1, nameIndex := 51, descriptorIndex := 73, attributes := #[] }, { accessFlags := 1, nameIndex := 55, descriptorIndex := 73, attributes := #[] }] 49 35 #[] #[{ accessFlags := 26, nameIndex := 56, descriptorIndex := 57, attributes := #[] }, { accessFlags := 18, nameIndex := 43, descriptorIndex := 44, attributes := #[] }, { accessFlags := 18, nameIndex := 47, descriptorIndex := 48, attributes := #[] }, { accessFlags := 18, nameIndex := 51, descriptorIndex := 52, attributes := #[] }, { accessFlags := 18, nameIndex := 55, descriptorIndex := 52, attributes := #[] }])
  fields := #[{ name := "serialVersionUID", type := .long, accessFlags := 26, slot := 0, constantValue := 0 }, { name := "kind", type := (.object "com/example/formulary/formulary/host/FormulaException$Kind"), accessFlags := 18, slot := 6, constantValue := 0 }, { name := "description", type := (.object "java/lang/String"), accessFlags := 18, slot := 7, constantValue := 0 }, { name := "line", type := .int, accessFlags := 18, slot := 8, constantValue := 0 }, { name := "column", type := .int, accessFlags := 18, slot := 9, constantValue := 0 }]
  methods := #[k14m0, k14m1, k14m2, k14m3, k14m4, k14m5]
  instanceTypes := #[(.object "java/lang/Object"), (.object "java/lang/String"), (.object "java/lang/Throwable"), (.array (.object "java/lang/StackTraceElement")), .int, (.object "java/util/List"), (.object "com/example/formulary/formulary/host/FormulaException$Kind"), (.object "java/lang/String"), .int, .int]
  staticTypes := #[.long]
  resolved := Array.replicate 79 none
  statics := none }

def pool15 : Array CpInfo := pool [(1, .class_ 2), (0, u "java/lang/Appendable"), (0, .class_ 4), (0, u "java/lang/Object")] 9

/-- java/lang/Appendable -/
def k15 : Class := { plain "java/lang/Appendable" (some 0) with
  accessFlags := 1537
  interfaces := #[]
  cf := some (fileOf pool15 1 #[] #[] 1537 3 #[] #[])
  fields := #[]
  methods := #[]
  instanceTypes := #[]
  staticTypes := #[]
  resolved := Array.replicate 14 none
  statics := none }

def pool16 : Array CpInfo := pool [(1, .class_ 2), (0, u "java/lang/String"), (0, .methodref 4 5), (0, .class_ 6), (0, .nameAndType 7 8), (0, u "java/lang/Object"), (0, u "<init>"), (0, u "()V"), (1, .class_ 12), (1, u "java/lang/AbstractStringBuilder"), (0, u "EMPTYVALUE"), (0, u "[B"), (0, .fieldref 10 16), (0, .nameAndType 17 14), (0, u "value"), (0, .fieldref 1 19), (0, .nameAndType 20 21), (0, u "COMPACT_STRINGS"), (0, u "Z"), (0, .fieldref 10 23), (0, .nameAndType 24 25), (0, u "coder"), (0, u "B"), (6, .methodref 1 33), (0, .nameAndType 34 35), (0, u "length"), (0, u "()I"), (0, .class_ 37), (0, u "java/lang/Integer"), (1, .integer 2147483647), (0, .methodref 1 41), (0, .nameAndType 24 42), (0, u "()B"), (2, u "append"), (0, u "(Ljava/lang/String;)Ljava/lang/AbstractStringBuilder;"), (1, .class_ 49), (0, u "java/lang/CharSequence"), (19, u "(Ljava/lang/String;)V"), (5, u "maybeLatin1"), (3, .fieldref 10 80), (0, .nameAndType 81 82), (0, u "count"), (0, u "I"), (0, .methodref 10 84), (0, .nameAndType 85 86), (0, u "isLatin1"), (0, u "()Z"), (13, .methodref 10 101), (0, .nameAndType 102 103), (0, u "ensureCapacityInternal"), (0, u "(I)V"), (0, .methodref 10 105), (0, .nameAndType 106 107), (0, u "newCapacity"), (0, u "(I)I"), (0, .methodref 109 110), (0, .class_ 111), (0, .nameAndType 112 113), (0, u "java/util/Arrays"), (0, u "copyOf"), (0, u "([BI)[B"), (0, .methodref 115 116), (0, .class_ 117), (0, .nameAndType 118 119), (0, u "jdk/internal/util/ArraysSupport"), (0, u "newLength"), (0, u "(III)I"), (68, u "getChars"), (19, .methodref 10 209), (0, .nameAndType 210 211), (0, u "putStringAt"), (0, u "(ILjava/lang/String;)V"), (5, u "inflateIfNeededFor"), (2, .nameAndType 221 222), (0, u "getBytes"), (0, u "([BIB)V"), (22, .methodref 36 246), (0, .nameAndType 247 107), (0, u "stringSize"), (0, .methodref 36 249), (0, .nameAndType 188 250), (0, u "(II[B)I"), (146, .methodref 10 398), (0, .nameAndType 217 69), (0, .methodref 1 220), (3, u "()[B"), (40, .class_ 445), (0, u "java/lang/Appendable"), (65, u "(I)Ljava/lang/AbstractStringBuilder;"), (40, u "getValue")] 56

def k16m0 : Method := { name := "<init>", desc := "()V", sig := { parameters := [], returnType := none }, accessFlags := 0, code := none }
def k16c1 : Code := { maxStack := 2, maxLocals := 2, code := jdk_68_method_2_code, exceptionTable := #[], attributes := #[] }
def k16m1 : Method := { name := "<init>", desc := "(I)V", sig := { parameters := [.int], returnType := none }, accessFlags := 0, code := some k16c1 }
def k16c2 : Code := { maxStack := 1, maxLocals := 1, code := jdk_68_method_6_code, exceptionTable := #[], attributes := #[] }
def k16m2 : Method := { name := "length", desc := "()I", sig := { parameters := [], returnType := some .int }, accessFlags := 1, code := some k16c2 }
def k16c3 : Code := { maxStack := 4, maxLocals := 3, code := jdk_68_method_9_code, exceptionTable := #[], attributes := #[] }
def k16m3 : Method := { name := "ensureCapacityInternal", desc := "(I)V", sig := { parameters := [.int], returnType := none }, accessFlags := 2, code := some k16c3 }
def k16c4 : Code := { maxStack := 5, maxLocals := 6, code := jdk_68_method_10_code, exceptionTable := #[], attributes := #[] }
def k16m4 : Method := { name := "newCapacity", desc := "(I)I", sig := { parameters := [.int], returnType := some .int }, accessFlags := 2, code := some k16c4 }
def k16c5 : Code := { maxStack := 3, maxLocals := 3, code := jdk_68_method_22_code, exceptionTable := #[], attributes := #[] }
def k16m5 : Method := { name := "append", desc := "(Ljava/lang/String;)Ljava/lang/AbstractStringBuilder;", sig := { parameters := [(.object "java/lang/String")], returnType := some (.object "java/lang/AbstractStringBuilder") }, accessFlags := 1, code := some k16c5 }
def k16c6 : Code := { maxStack := 4, maxLocals := 4, code := jdk_68_method_32_code, exceptionTable := #[], attributes := #[] }
def k16m6 : Method := { name := "append", desc := "(I)Ljava/lang/AbstractStringBuilder;", sig := { parameters := [.int], returnType := some (.object "java/lang/AbstractStringBuilder") }, accessFlags := 1, code := some k16c6 }
def k16c7 : Code := { maxStack := 1, maxLocals := 1, code := jdk_68_method_64_code, exceptionTable := #[], attributes := #[] }
def k16m7 : Method := { name := "getValue", desc := "()[B", sig := { parameters := [], returnType := some (.array .byte) }, accessFlags := 16, code := some k16c7 }
def k16c8 : Code := { maxStack := 1, maxLocals := 1, code := jdk_68_method_68_code, exceptionTable := #[], attributes := #[] }
def k16m8 : Method := { name := "isLatin1", desc := "()Z", sig := { parameters := [], returnType := some .boolean }, accessFlags := 16, code := some k16c8 }
def k16c9 : Code := { maxStack := 2, maxLocals := 2, code := jdk_68_method_71_code, exceptionTable := #[], attributes := #[] }
def k16m9 : Method := { name := "inflateIfNeededFor", desc := "(Ljava/lang/String;)V", sig := { parameters := [(.object "java/lang/String")], returnType := none }, accessFlags := 2, code := some k16c9 }
def k16c10 : Code := { maxStack := 4, maxLocals := 3, code := jdk_68_method_73_code, exceptionTable := #[], attributes := #[] }
def k16m10 : Method := { name := "putStringAt", desc := "(ILjava/lang/String;)V", sig := { parameters := [.int, (.object "java/lang/String")], returnType := none }, accessFlags := 2, code := some k16c10 }
/-- java/lang/AbstractStringBuilder -/
def k16 : Class := { plain "java/lang/AbstractStringBuilder" (some 0) with
  accessFlags := 1056
  interfaces := #[15, 7]
  cf := some (fileOf pool16 10 #[] #[{ accessFlags := 0, nameIndex := 7, descriptorIndex := 8, attributes := #[] }, { accessFlags := 0, nameIndex := 7, descriptorIndex := 103, attributes := #[] }, { accessFlags := 1, nameIndex := 34, descriptorIndex := 35, attributes := #[] }, { accessFlags := 2, nameIndex := 102, descriptorIndex := 103, attributes := #[] }, { accessFlags := 2, nameIndex := 106, descriptorIndex := 107, attributes := #[] }, { accessFlags := 1, nameIndex := 45, descriptorIndex := 46, attributes := #[] }, { accessFlags := 1, nameIndex := 45, descriptorIndex := 511, attributes := #[] }, { accessFlags := 16, nameIndex := 552, descriptorIndex := 403, attributes := #[] }, { accessFlags := 16, nameIndex := 85, descriptorIndex := 86, attributes := #[] }, { accessFlags := 2, nameIndex := 217, descriptorIndex := 69, attributes := #[] }, { accessFlags := 2, nameIndex := 210, descriptorIndex := 211, attributes := #[] }] 1056 4 #[444, 48] #[{ accessFlags := 0, nameIndex := 17, descriptorIndex := 14, attributes := #[] }, { accessFlags := 0, nameIndex := 24, descriptorIndex := 25, attributes := #[] }, { accessFlags := 0, nameIndex := 75, descriptorIndex := 21, attributes := #[] }, { accessFlags := 0, nameIndex := 81, descriptorIndex := 82, attributes := #[] }, { accessFlags := 26, nameIndex := 13, descriptorIndex := 14, attributes := #[] }])
  fields := #[{ name := "value", type := (.array .byte), accessFlags := 0, slot := 0, constantValue := 0 }, { name := "coder", type := .byte, accessFlags := 0, slot := 1, constantValue := 0 }, { name := "maybeLatin1", type := .boolean, accessFlags := 0, slot := 2, constantValue := 0 }, { name := "count", type := .int, accessFlags := 0, slot := 3, constantValue := 0 }, { name := "EMPTYVALUE", type := (.array .byte), accessFlags := 26, slot := 0, constantValue := 0 }]
  methods := #[k16m0, k16m1, k16m2, k16m3, k16m4, k16m5, k16m6, k16m7, k16m8, k16m9, k16m10]
  instanceTypes := #[(.array .byte), .byte, .boolean, .int]
  staticTypes := #[(.array .byte)]
  resolved := Array.replicate 609 none
  statics := none }

def pool17 : Array CpInfo := pool [(1, .methodref 2 3), (0, .class_ 4), (0, .nameAndType 5 6), (0, u "java/lang/AbstractStringBuilder"), (0, u "<init>"), (0, u "(I)V"), (11, .class_ 20), (1, u "java/lang/String"), (3, .class_ 26), (1, u "java/lang/StringBuilder"), (0, u "append"), (0, u "(Ljava/lang/String;)Ljava/lang/StringBuilder;"), (0, .methodref 2 30), (0, .nameAndType 27 31), (0, u "(Ljava/lang/String;)Ljava/lang/AbstractStringBuilder;"), (21, .methodref 2 54), (0, .nameAndType 27 55), (0, u "(I)Ljava/lang/AbstractStringBuilder;"), (81, .methodref 18 138), (0, .nameAndType 5 139), (0, u "(Ljava/lang/StringBuilder;)V"), (5, u "()V"), (10, u "()I"), (111, u "(I)Ljava/lang/StringBuilder;"), (74, .methodref 2 344), (0, .nameAndType 345 156), (0, u "length"), (3, .class_ 350), (0, u "java/lang/Appendable"), (0, .class_ 352), (0, u "java/io/Serializable"), (0, .class_ 354), (0, u "java/lang/Comparable"), (0, .class_ 356), (0, u "java/lang/CharSequence"), (0, u "serialVersionUID"), (0, u "J"), (40, u "toString"), (0, u "()Ljava/lang/String;")] 21

def k17c0 : Code := { maxStack := 2, maxLocals := 1, code := jdk_67_method_1_code, exceptionTable := #[], attributes := #[] }
def k17m0 : Method := { name := "<init>", desc := "()V", sig := { parameters := [], returnType := none }, accessFlags := 1, code := some k17c0 }
def k17c1 : Code := { maxStack := 2, maxLocals := 2, code := jdk_67_method_7_code, exceptionTable := #[], attributes := #[] }
def k17m1 : Method := { name := "append", desc := "(Ljava/lang/String;)Ljava/lang/StringBuilder;", sig := { parameters := [(.object "java/lang/String")], returnType := some (.object "java/lang/StringBuilder") }, accessFlags := 1, code := some k17c1 }
def k17c2 : Code := { maxStack := 2, maxLocals := 2, code := jdk_67_method_15_code, exceptionTable := #[], attributes := #[] }
def k17m2 : Method := { name := "append", desc := "(I)Ljava/lang/StringBuilder;", sig := { parameters := [.int], returnType := some (.object "java/lang/StringBuilder") }, accessFlags := 1, code := some k17c2 }
def k17c3 : Code := { maxStack := 3, maxLocals := 1, code := jdk_67_method_42_code, exceptionTable := #[], attributes := #[] }
def k17m3 : Method := { name := "toString", desc := "()Ljava/lang/String;", sig := { parameters := [], returnType := some (.object "java/lang/String") }, accessFlags := 1, code := some k17c3 }
def k17c4 : Code := { maxStack := 1, maxLocals := 1, code := jdk_67_method_93_code, exceptionTable := #[], attributes := #[] }
def k17m4 : Method := { name := "length", desc := "()I", sig := { parameters := [], returnType := some .int }, accessFlags := 4161, code := some k17c4 }
/-- java/lang/StringBuilder -/
def k17 : Class := { plain "java/lang/StringBuilder" (some 16) with
  accessFlags := 49
  interfaces := #[15, 4, 3, 7]
  cf := some (fileOf pool17 24 #[] #[{ accessFlags := 1, nameIndex := 5, descriptorIndex := 145, attributes := #[] }, { accessFlags := 1, nameIndex := 27, descriptorIndex := 28, attributes := #[] }, { accessFlags := 1, nameIndex := 27, descriptorIndex := 268, attributes := #[] }, { accessFlags := 1, nameIndex := 399, descriptorIndex := 400, attributes := #[] }, { accessFlags := 4161, nameIndex := 345, descriptorIndex := 156, attributes := #[] }] 49 2 #[349, 351, 353, 355] #[{ accessFlags := 24, nameIndex := 357, descriptorIndex := 358, attributes := #[] }])
  fields := #[{ name := "serialVersionUID", type := .long, accessFlags := 24, slot := 0, constantValue := 0 }]
  methods := #[k17m0, k17m1, k17m2, k17m3, k17m4]
  instanceTypes := #[(.array .byte), .byte, .boolean, .int]
  staticTypes := #[.long]
  resolved := Array.replicate 422 none
  statics := none }

def pool18 : Array CpInfo := pool [(2, .class_ 4), (1, u "java/lang/Object"), (0, u "<init>"), (0, u "()V"), (1, .class_ 10), (1, u "java/lang/System"), (0, u "allowSecurityManager"), (0, u "I"), (16, u "cons"), (0, u "Ljava/io/Console;"), (77, .class_ 110), (1, u "java/lang/System$CallersHolder"), (43, u "initialErrStream"), (0, u "Ljava/io/PrintStream;"), (19, u "security"), (0, u "Ljava/lang/SecurityManager;"), (31, .class_ 209), (0, u "java/lang/System$1"), (7, u "props"), (0, u "Ljava/util/Properties;"), (2, u "lineSeparator"), (0, u "Ljava/lang/String;"), (96, .class_ 321), (1, u "java/lang/System$LoggerFinder"), (5, .class_ 328), (0, u "java/lang/System$Logger"), (67, u "err"), (2, u "out"), (91, u "notSupportedJnuEncoding"), (15, u "in"), (17, u "initialIn"), (0, u "Ljava/io/InputStream;"), (35, u "bootLayer"), (0, u "Ljava/lang/ModuleLayer;"), (99, .class_ 664), (0, u "java/lang/System$2"), (9, u "NEVER"), (2, u "MAYBE"), (49, u "arraycopy"), (0, u "(Ljava/lang/Object;ILjava/lang/Object;II)V"), (72, .class_ 802), (0, u "java/lang/System$Logger$Level")] 31

def k18m0 : Method := { name := "<init>", desc := "()V", sig := { parameters := [], returnType := none }, accessFlags := 2, code := none }
def k18m1 : Method := { name := "arraycopy", desc := "(Ljava/lang/Object;ILjava/lang/Object;II)V", sig := { parameters := [(.object "java/lang/Object"), .int, (.object "java/lang/Object"), .int, .int], returnType := none }, accessFlags := 265, code := none }
/-- java/lang/System -/
def k18 : Class := { plain "java/lang/System" (some 0) with
  accessFlags := 49
  interfaces := #[]
  cf := some (fileOf pool18 8 #[.nestMembers #[319, 327, 801, 108, 663, 208]] #[{ accessFlags := 2, nameIndex := 5, descriptorIndex := 6, attributes := #[] }, { accessFlags := 265, nameIndex := 727, descriptorIndex := 728, attributes := #[] }] 49 2 #[] #[{ accessFlags := 25, nameIndex := 507, descriptorIndex := 526, attributes := #[] }, { accessFlags := 25, nameIndex := 399, descriptorIndex := 155, attributes := #[] }, { accessFlags := 25, nameIndex := 396, descriptorIndex := 155, attributes := #[] }, { accessFlags := 10, nameIndex := 525, descriptorIndex := 526, attributes := #[] }, { accessFlags := 26, nameIndex := 674, descriptorIndex := 12, attributes := #[] }, { accessFlags := 26, nameIndex := 677, descriptorIndex := 12, attributes := #[] }, { accessFlags := 10, nameIndex := 11, descriptorIndex := 12, attributes := #[] }, { accessFlags := 74, nameIndex := 175, descriptorIndex := 176, attributes := #[] }, { accessFlags := 10, nameIndex := 491, descriptorIndex := 222, attributes := #[] }, { accessFlags := 74, nameIndex := 29, descriptorIndex := 30, attributes := #[] }, { accessFlags := 74, nameIndex := 154, descriptorIndex := 155, attributes := #[] }, { accessFlags := 10, nameIndex := 217, descriptorIndex := 218, attributes := #[] }, { accessFlags := 10, nameIndex := 221, descriptorIndex := 222, attributes := #[] }, { accessFlags := 8, nameIndex := 562, descriptorIndex := 563, attributes := #[] }])
  fields := #[{ name := "in", type := (.object "java/io/InputStream"), accessFlags := 25, slot := 0, constantValue := 0 }, { name := "out", type := (.object "java/io/PrintStream"), accessFlags := 25, slot := 1, constantValue := 0 }, { name := "err", type := (.object "java/io/PrintStream"), accessFlags := 25, slot := 2, constantValue := 0 }, { name := "initialIn", type := (.object "java/io/InputStream"), accessFlags := 10, slot := 3, constantValue := 0 }, { name := "NEVER", type := .int, accessFlags := 26, slot := 4, constantValue := 0 }, { name := "MAYBE", type := .int, accessFlags := 26, slot := 5, constantValue := 0 }, { name := "allowSecurityManager", type := .int, accessFlags := 10, slot := 6, constantValue := 0 }, { name := "security", type := (.object "java/lang/SecurityManager"), accessFlags := 74, slot := 7, constantValue := 0 }, { name := "notSupportedJnuEncoding", type := (.object "java/lang/String"), accessFlags := 10, slot := 8, constantValue := 0 }, { name := "cons", type := (.object "java/io/Console"), accessFlags := 74, slot := 9, constantValue := 0 }, { name := "initialErrStream", type := (.object "java/io/PrintStream"), accessFlags := 74, slot := 10, constantValue := 0 }, { name := "props", type := (.object "java/util/Properties"), accessFlags := 10, slot := 11, constantValue := 0 }, { name := "lineSeparator", type := (.object "java/lang/String"), accessFlags := 10, slot := 12, constantValue := 0 }, { name := "bootLayer", type := (.object "java/lang/ModuleLayer"), accessFlags := 8, slot := 13, constantValue := 0 }]
  methods := #[k18m0, k18m1]
  instanceTypes := #[]
  staticTypes := #[(.object "java/io/InputStream"), (.object "java/io/PrintStream"), (.object "java/io/PrintStream"), (.object "java/io/InputStream"), .int, .int, .int, (.object "java/lang/SecurityManager"), (.object "java/lang/String"), (.object "java/io/Console"), (.object "java/io/PrintStream"), (.object "java/util/Properties"), (.object "java/lang/String"), (.object "java/lang/ModuleLayer")]
  resolved := Array.replicate 834 none
  statics := none }

def pool19 : Array CpInfo := pool [(2, .class_ 4), (1, u "java/lang/Object"), (0, u "<init>"), (0, u "()V"), (1, .class_ 10), (1, u "java/lang/Number"), (2, .class_ 14), (0, u "java/io/Serializable"), (0, u "serialVersionUID"), (0, u "J")] 20

def k19m0 : Method := { name := "<init>", desc := "()V", sig := { parameters := [], returnType := none }, accessFlags := 1, code := none }
/-- java/lang/Number -/
def k19 : Class := { plain "java/lang/Number" (some 0) with
  accessFlags := 1057
  interfaces := #[4]
  cf := some (fileOf pool19 8 #[] #[{ accessFlags := 1, nameIndex := 5, descriptorIndex := 6, attributes := #[] }] 1057 2 #[13] #[{ accessFlags := 26, nameIndex := 15, descriptorIndex := 16, attributes := #[] }])
  fields := #[{ name := "serialVersionUID", type := .long, accessFlags := 26, slot := 0, constantValue := 0 }]
  methods := #[k19m0]
  instanceTypes := #[]
  staticTypes := #[.long]
  resolved := Array.replicate 37 none
  statics := none }

def pool20 : Array CpInfo := pool [(1, .class_ 2), (0, u "java/lang/Integer"), (16, u "digits"), (0, u "[C"), (33, u "(I)I"), (19, u "stringSize"), (2, u "getChars"), (0, u "(II[B)I"), (4, .fieldref 1 84), (0, .nameAndType 85 86), (0, u "DigitOnes"), (0, u "[B"), (0, .fieldref 1 88), (0, .nameAndType 89 86), (0, u "DigitTens"), (99, .class_ 190), (0, u "java/lang/Integer$IntegerCache"), (3, u "I"), (8, .class_ 204), (0, u "java/lang/Number"), (2, u "value"), (94, u "TYPE"), (0, u "Ljava/lang/Class;"), (0, .class_ 305), (0, u "java/lang/Comparable"), (0, .class_ 307), (0, u "java/lang/constant/Constable"), (0, .class_ 309), (0, u "java/lang/constant/ConstantDesc"), (0, u "MIN_VALUE"), (1, u "MAX_VALUE"), (3, u "SIZE"), (1, u "BYTES"), (1, u "serialVersionUID"), (0, u "J")] 131

def k20c0 : Code := { maxStack := 4, maxLocals := 7, code := jdk_33_method_12_code, exceptionTable := #[], attributes := #[] }
def k20m0 : Method := { name := "getChars", desc := "(II[B)I", sig := { parameters := [.int, .int, (.array .byte)], returnType := some .int }, accessFlags := 8, code := some k20c0 }
def k20c1 : Code := { maxStack := 2, maxLocals := 4, code := jdk_33_method_13_code, exceptionTable := #[], attributes := #[] }
def k20m1 : Method := { name := "stringSize", desc := "(I)I", sig := { parameters := [.int], returnType := some .int }, accessFlags := 8, code := some k20c1 }
/-- java/lang/Integer -/
def k20 : Class := { plain "java/lang/Integer" (some 19) with
  accessFlags := 49
  interfaces := #[3, 2, 8]
  cf := some (fileOf pool20 1 #[.nestMembers #[189]] #[{ accessFlags := 8, nameIndex := 77, descriptorIndex := 78, attributes := #[] }, { accessFlags := 8, nameIndex := 74, descriptorIndex := 54, attributes := #[] }] 49 203 #[304, 306, 308] #[{ accessFlags := 25, nameIndex := 310, descriptorIndex := 194, attributes := #[] }, { accessFlags := 25, nameIndex := 312, descriptorIndex := 194, attributes := #[] }, { accessFlags := 25, nameIndex := 302, descriptorIndex := 303, attributes := #[] }, { accessFlags := 24, nameIndex := 19, descriptorIndex := 20, attributes := #[] }, { accessFlags := 24, nameIndex := 89, descriptorIndex := 86, attributes := #[] }, { accessFlags := 24, nameIndex := 85, descriptorIndex := 86, attributes := #[] }, { accessFlags := 18, nameIndex := 207, descriptorIndex := 194, attributes := #[] }, { accessFlags := 25, nameIndex := 316, descriptorIndex := 194, attributes := #[] }, { accessFlags := 25, nameIndex := 318, descriptorIndex := 194, attributes := #[] }, { accessFlags := 26, nameIndex := 320, descriptorIndex := 321, attributes := #[] }])
  fields := #[{ name := "MIN_VALUE", type := .int, accessFlags := 25, slot := 0, constantValue := 0 }, { name := "MAX_VALUE", type := .int, accessFlags := 25, slot := 1, constantValue := 0 }, { name := "TYPE", type := (.object "java/lang/Class"), accessFlags := 25, slot := 2, constantValue := 0 }, { name := "digits", type := (.array .char), accessFlags := 24, slot := 3, constantValue := 0 }, { name := "DigitTens", type := (.array .byte), accessFlags := 24, slot := 4, constantValue := 0 }, { name := "DigitOnes", type := (.array .byte), accessFlags := 24, slot := 5, constantValue := 0 }, { name := "value", type := .int, accessFlags := 18, slot := 0, constantValue := 0 }, { name := "SIZE", type := .int, accessFlags := 25, slot := 6, constantValue := 0 }, { name := "BYTES", type := .int, accessFlags := 25, slot := 7, constantValue := 0 }, { name := "serialVersionUID", type := .long, accessFlags := 26, slot := 8, constantValue := 0 }]
  methods := #[k20m0, k20m1]
  instanceTypes := #[.int]
  staticTypes := #[.int, .int, (.object "java/lang/Class"), (.array .char), (.array .byte), (.array .byte), .int, .int, .long]
  resolved := Array.replicate 453 none
  statics := some 3 }

def pool21 : Array CpInfo := pool [(9, u "<init>"), (6, .class_ 18), (1, u "java/lang/Object"), (0, u "()V"), (1, .class_ 23), (1, u "jdk/internal/util/ArraysSupport"), (0, u "LOG2_ARRAY_LONG_INDEX_SCALE"), (0, u "I"), (2, u "U"), (0, u "Ljdk/internal/misc/Unsafe;"), (8, u "BIG_ENDIAN"), (0, u "Z"), (8, u "LOG2_BYTE_BIT_SIZE"), (4, u "LOG2_ARRAY_INT_INDEX_SCALE"), (54, u "JLA"), (0, u "Ljdk/internal/access/JavaLangAccess;"), (11, u "LOG2_ARRAY_BOOLEAN_INDEX_SCALE"), (9, u "LOG2_ARRAY_BYTE_INDEX_SCALE"), (5, u "LOG2_ARRAY_CHAR_INDEX_SCALE"), (5, u "LOG2_ARRAY_SHORT_INDEX_SCALE"), (18, u "LOG2_ARRAY_FLOAT_INDEX_SCALE"), (24, u "LOG2_ARRAY_DOUBLE_INDEX_SCALE"), (6, .methodref 195 196), (0, .class_ 197), (0, .nameAndType 198 199), (0, u "java/lang/Math"), (0, u "max"), (0, u "(II)I"), (0, .integer 2147483639), (76, u "T_BOOLEAN"), (2, u "T_CHAR"), (1, u "T_FLOAT"), (1, u "T_DOUBLE"), (1, u "T_BYTE"), (1, u "T_SHORT"), (1, u "T_INT"), (1, u "T_LONG"), (1, u "SOFT_MAX_ARRAY_LENGTH"), (56, u "newLength"), (0, u "(III)I")] 25

def k21m0 : Method := { name := "<init>", desc := "()V", sig := { parameters := [], returnType := none }, accessFlags := 2, code := none }
def k21c1 : Code := { maxStack := 3, maxLocals := 4, code := jdk_48_method_27_code, exceptionTable := #[], attributes := #[] }
def k21m1 : Method := { name := "newLength", desc := "(III)I", sig := { parameters := [.int, .int, .int], returnType := some .int }, accessFlags := 9, code := some k21c1 }
/-- jdk/internal/util/ArraysSupport -/
def k21 : Class := { plain "jdk/internal/util/ArraysSupport" (some 0) with
  accessFlags := 33
  interfaces := #[]
  cf := some (fileOf pool21 21 #[] #[{ accessFlags := 2, nameIndex := 9, descriptorIndex := 19, attributes := #[] }, { accessFlags := 9, nameIndex := 351, descriptorIndex := 352, attributes := #[] }] 33 16 #[] #[{ accessFlags := 24, nameIndex := 28, descriptorIndex := 29, attributes := #[] }, { accessFlags := 26, nameIndex := 38, descriptorIndex := 39, attributes := #[] }, { accessFlags := 25, nameIndex := 121, descriptorIndex := 25, attributes := #[] }, { accessFlags := 25, nameIndex := 131, descriptorIndex := 25, attributes := #[] }, { accessFlags := 25, nameIndex := 137, descriptorIndex := 25, attributes := #[] }, { accessFlags := 25, nameIndex := 143, descriptorIndex := 25, attributes := #[] }, { accessFlags := 25, nameIndex := 53, descriptorIndex := 25, attributes := #[] }, { accessFlags := 25, nameIndex := 24, descriptorIndex := 25, attributes := #[] }, { accessFlags := 25, nameIndex := 162, descriptorIndex := 25, attributes := #[] }, { accessFlags := 25, nameIndex := 187, descriptorIndex := 25, attributes := #[] }, { accessFlags := 26, nameIndex := 48, descriptorIndex := 25, attributes := #[] }, { accessFlags := 25, nameIndex := 277, descriptorIndex := 25, attributes := #[] }, { accessFlags := 25, nameIndex := 280, descriptorIndex := 25, attributes := #[] }, { accessFlags := 25, nameIndex := 282, descriptorIndex := 25, attributes := #[] }, { accessFlags := 25, nameIndex := 284, descriptorIndex := 25, attributes := #[] }, { accessFlags := 25, nameIndex := 286, descriptorIndex := 25, attributes := #[] }, { accessFlags := 25, nameIndex := 288, descriptorIndex := 25, attributes := #[] }, { accessFlags := 25, nameIndex := 290, descriptorIndex := 25, attributes := #[] }, { accessFlags := 25, nameIndex := 292, descriptorIndex := 25, attributes := #[] }, { accessFlags := 26, nameIndex := 108, descriptorIndex := 109, attributes := #[] }, { accessFlags := 25, nameIndex := 294, descriptorIndex := 25, attributes := #[] }])
  fields := #[{ name := "U", type := (.object "jdk/internal/misc/Unsafe"), accessFlags := 24, slot := 0, constantValue := 0 }, { name := "BIG_ENDIAN", type := .boolean, accessFlags := 26, slot := 1, constantValue := 0 }, { name := "LOG2_ARRAY_BOOLEAN_INDEX_SCALE", type := .int, accessFlags := 25, slot := 2, constantValue := 0 }, { name := "LOG2_ARRAY_BYTE_INDEX_SCALE", type := .int, accessFlags := 25, slot := 3, constantValue := 0 }, { name := "LOG2_ARRAY_CHAR_INDEX_SCALE", type := .int, accessFlags := 25, slot := 4, constantValue := 0 }, { name := "LOG2_ARRAY_SHORT_INDEX_SCALE", type := .int, accessFlags := 25, slot := 5, constantValue := 0 }, { name := "LOG2_ARRAY_INT_INDEX_SCALE", type := .int, accessFlags := 25, slot := 6, constantValue := 0 }, { name := "LOG2_ARRAY_LONG_INDEX_SCALE", type := .int, accessFlags := 25, slot := 7, constantValue := 0 }, { name := "LOG2_ARRAY_FLOAT_INDEX_SCALE", type := .int, accessFlags := 25, slot := 8, constantValue := 0 }, { name := "LOG2_ARRAY_DOUBLE_INDEX_SCALE", type := .int, accessFlags := 25, slot := 9, constantValue := 0 }, { name := "LOG2_BYTE_BIT_SIZE", type := .int, accessFlags := 26, slot := 10, constantValue := 0 }, { name := "T_BOOLEAN", type := .int, accessFlags := 25, slot := 11, constantValue := 0 }, { name := "T_CHAR", type := .int, accessFlags := 25, slot := 12, constantValue := 0 }, { name := "T_FLOAT", type := .int, accessFlags := 25, slot := 13, constantValue := 0 }, { name := "T_DOUBLE", type := .int, accessFlags := 25, slot := 14, constantValue := 0 }, { name := "T_BYTE", type := .int, accessFlags := 25, slot := 15, constantValue := 0 }, { name := "T_SHORT", type := .int, accessFlags := 25, slot := 16, constantValue := 0 }, { name := "T_INT", type := .int, accessFlags := 25, slot := 17, constantValue := 0 }, { name := "T_LONG", type := .int, accessFlags := 25, slot := 18, constantValue := 0 }, { name := "JLA", type := (.object "jdk/internal/access/JavaLangAccess"), accessFlags := 26, slot := 19, constantValue := 0 }, { name := "SOFT_MAX_ARRAY_LENGTH", type := .int, accessFlags := 25, slot := 20, constantValue := 0 }]
  methods := #[k21m0, k21m1]
  instanceTypes := #[]
  staticTypes := #[(.object "jdk/internal/misc/Unsafe"), .boolean, .int, .int, .int, .int, .int, .int, .int, .int, .int, .int, .int, .int, .int, .int, .int, .int, .int, (.object "jdk/internal/access/JavaLangAccess"), .int]
  resolved := Array.replicate 378 none
  statics := none }

def pool22 : Array CpInfo := pool [(1, .class_ 2), (0, u "java/lang/Math"), (1, .class_ 6), (1, u "java/lang/Object"), (0, u "<init>"), (0, u "()V"), (89, .class_ 100), (1, u "java/lang/Math$RandomNumberGeneratorHolder"), (71, u "negativeZeroFloatBits"), (0, u "J"), (2, u "negativeZeroDoubleBits"), (21, u "max"), (2, u "min"), (43, u "$assertionsDisabled"), (0, u "Z"), (88, u "(II)I"), (2, u "twoToTheDoubleScaleDown"), (0, u "D"), (4, u "twoToTheDoubleScaleUp"), (9, u "E"), (3, u "PI"), (2, u "TAU"), (2, u "DEGREES_TO_RADIANS"), (0, u "RADIANS_TO_DEGREES")] 94

def k22m0 : Method := { name := "<init>", desc := "()V", sig := { parameters := [], returnType := none }, accessFlags := 2, code := none }
def k22c1 : Code := { maxStack := 2, maxLocals := 2, code := jdk_29_method_65_code, exceptionTable := #[], attributes := #[] }
def k22m1 : Method := { name := "max", desc := "(II)I", sig := { parameters := [.int, .int], returnType := some .int }, accessFlags := 9, code := some k22c1 }
def k22c2 : Code := { maxStack := 2, maxLocals := 2, code := jdk_29_method_69_code, exceptionTable := #[], attributes := #[] }
def k22m2 : Method := { name := "min", desc := "(II)I", sig := { parameters := [.int, .int], returnType := some .int }, accessFlags := 9, code := some k22c2 }
/-- java/lang/Math -/
def k22 : Class := { plain "java/lang/Math" (some 0) with
  accessFlags := 49
  interfaces := #[]
  cf := some (fileOf pool22 1 #[.nestMembers #[98]] #[{ accessFlags := 2, nameIndex := 7, descriptorIndex := 8, attributes := #[] }, { accessFlags := 9, nameIndex := 198, descriptorIndex := 335, attributes := #[] }, { accessFlags := 9, nameIndex := 201, descriptorIndex := 335, attributes := #[] }] 49 4 #[] #[{ accessFlags := 25, nameIndex := 354, descriptorIndex := 339, attributes := #[] }, { accessFlags := 25, nameIndex := 358, descriptorIndex := 339, attributes := #[] }, { accessFlags := 25, nameIndex := 361, descriptorIndex := 339, attributes := #[] }, { accessFlags := 26, nameIndex := 364, descriptorIndex := 339, attributes := #[] }, { accessFlags := 26, nameIndex := 365, descriptorIndex := 339, attributes := #[] }, { accessFlags := 26, nameIndex := 172, descriptorIndex := 173, attributes := #[] }, { accessFlags := 26, nameIndex := 176, descriptorIndex := 173, attributes := #[] }, { accessFlags := 8, nameIndex := 344, descriptorIndex := 339, attributes := #[] }, { accessFlags := 8, nameIndex := 338, descriptorIndex := 339, attributes := #[] }, { accessFlags := 4120, nameIndex := 245, descriptorIndex := 246, attributes := #[] }])
  fields := #[{ name := "E", type := .double, accessFlags := 25, slot := 0, constantValue := 0 }, { name := "PI", type := .double, accessFlags := 25, slot := 1, constantValue := 0 }, { name := "TAU", type := .double, accessFlags := 25, slot := 2, constantValue := 0 }, { name := "DEGREES_TO_RADIANS", type := .double, accessFlags := 26, slot := 3, constantValue := 0 }, { name := "RADIANS_TO_DEGREES", type := .double, accessFlags := 26, slot := 4, constantValue := 0 }, { name := "negativeZeroFloatBits", type := .long, accessFlags := 26, slot := 5, constantValue := 0 }, { name := "negativeZeroDoubleBits", type := .long, accessFlags := 26, slot := 6, constantValue := 0 }, { name := "twoToTheDoubleScaleUp", type := .double, accessFlags := 8, slot := 7, constantValue := 0 }, { name := "twoToTheDoubleScaleDown", type := .double, accessFlags := 8, slot := 8, constantValue := 0 }, { name := "$assertionsDisabled", type := .boolean, accessFlags := 4120, slot := 9, constantValue := 0 }]
  methods := #[k22m0, k22m1, k22m2]
  instanceTypes := #[]
  staticTypes := #[.double, .double, .double, .double, .double, .long, .long, .double, .double, .boolean]
  resolved := Array.replicate 460 none
  statics := none }

def pool23 : Array CpInfo := pool [(2, .class_ 4), (1, u "java/lang/Object"), (0, u "<init>"), (0, u "()V"), (7, .class_ 16), (1, u "java/util/Arrays"), (57, .class_ 76), (1, u "java/util/Arrays$NaturalOrder"), (32, u "()Ljava/lang/Object;"), (3, .class_ 115), (1, u "java/util/Arrays$LegacyMergeSort"), (1, u "Z"), (10, .nameAndType 129 109), (0, u "clone"), (9, u "copyOfRange"), (10, .methodref 151 152), (0, .class_ 153), (0, .nameAndType 154 155), (0, u "java/lang/System"), (0, u "arraycopy"), (0, u "(Ljava/lang/Object;ILjava/lang/Object;II)V"), (146, u "copyOf"), (1, .methodref 305 306), (0, .class_ 307), (0, .nameAndType 308 309), (0, u "java/lang/Math"), (0, u "min"), (0, u "(II)I"), (0, .methodref 311 128), (0, .class_ 312), (0, u "[B"), (26, .methodref 14 340), (0, .nameAndType 341 342), (0, u "copyOfRangeByte"), (0, u "([BII)[B"), (0, .methodref 14 344), (0, .nameAndType 345 346), (0, u "checkLength"), (0, u "(II)V"), (28, .class_ 376), (0, u "java/util/Arrays$ArrayList"), (68, u "$assertionsDisabled"), (269, u "MIN_ARRAY_SORT_GRAN"), (0, u "I"), (2, u "INSERTIONSORT_THRESHOLD"), (149, u "([BI)[B"), (105, .class_ 976), (0, u "java/util/Arrays$ArrayItr")] 52

def k23m0 : Method := { name := "<init>", desc := "()V", sig := { parameters := [], returnType := none }, accessFlags := 2, code := none }
def k23c1 : Code := { maxStack := 6, maxLocals := 3, code := jdk_65_method_121_code, exceptionTable := #[], attributes := #[] }
def k23m1 : Method := { name := "copyOf", desc := "([BI)[B", sig := { parameters := [(.array .byte), .int], returnType := some (.array .byte) }, accessFlags := 9, code := some k23c1 }
def k23c2 : Code := { maxStack := 4, maxLocals := 2, code := jdk_65_method_131_code, exceptionTable := #[], attributes := #[] }
def k23m2 : Method := { name := "checkLength", desc := "(II)V", sig := { parameters := [.int, .int], returnType := none }, accessFlags := 10, code := some k23c2 }
def k23c3 : Code := { maxStack := 3, maxLocals := 3, code := jdk_65_method_132_code, exceptionTable := #[], attributes := #[] }
def k23m3 : Method := { name := "copyOfRange", desc := "([BII)[B", sig := { parameters := [(.array .byte), .int, .int], returnType := some (.array .byte) }, accessFlags := 9, code := some k23c3 }
def k23c4 : Code := { maxStack := 6, maxLocals := 5, code := jdk_65_method_133_code, exceptionTable := #[], attributes := #[] }
def k23m4 : Method := { name := "copyOfRangeByte", desc := "([BII)[B", sig := { parameters := [(.array .byte), .int, .int], returnType := some (.array .byte) }, accessFlags := 10, code := some k23c4 }
/-- java/util/Arrays -/
def k23 : Class := { plain "java/util/Arrays" (some 0) with
  accessFlags := 49
  interfaces := #[]
  cf := some (fileOf pool23 14 #[.nestMembers #[975, 375, 113, 74]] #[{ accessFlags := 2, nameIndex := 5, descriptorIndex := 6, attributes := #[] }, { accessFlags := 9, nameIndex := 302, descriptorIndex := 869, attributes := #[] }, { accessFlags := 10, nameIndex := 345, descriptorIndex := 346, attributes := #[] }, { accessFlags := 9, nameIndex := 139, descriptorIndex := 342, attributes := #[] }, { accessFlags := 10, nameIndex := 341, descriptorIndex := 342, attributes := #[] }] 49 2 #[] #[{ accessFlags := 26, nameIndex := 715, descriptorIndex := 716, attributes := #[] }, { accessFlags := 26, nameIndex := 719, descriptorIndex := 716, attributes := #[] }, { accessFlags := 4120, nameIndex := 445, descriptorIndex := 117, attributes := #[] }])
  fields := #[{ name := "MIN_ARRAY_SORT_GRAN", type := .int, accessFlags := 26, slot := 0, constantValue := 0 }, { name := "INSERTIONSORT_THRESHOLD", type := .int, accessFlags := 26, slot := 1, constantValue := 0 }, { name := "$assertionsDisabled", type := .boolean, accessFlags := 4120, slot := 2, constantValue := 0 }]
  methods := #[k23m0, k23m1, k23m2, k23m3, k23m4]
  instanceTypes := #[]
  staticTypes := #[.int, .int, .boolean]
  resolved := Array.replicate 1029 none
  statics := none }

def pool24 : Array CpInfo := pool [(1, .class_ 2), (0, u "java/lang/Cloneable"), (0, .class_ 4), (0, u "java/lang/Object")] 2

/-- java/lang/Cloneable -/
def k24 : Class := { plain "java/lang/Cloneable" (some 0) with
  accessFlags := 1537
  interfaces := #[]
  cf := some (fileOf pool24 1 #[] #[] 1537 3 #[] #[])
  fields := #[]
  methods := #[]
  instanceTypes := #[]
  staticTypes := #[]
  resolved := Array.replicate 7 none
  statics := none }

def pool25 : Array CpInfo := pool [(2, .class_ 4), (1, u "java/lang/Object"), (0, u "<init>"), (0, u "()V"), (17, .class_ 26), (1, u "jdk/internal/util/Preconditions"), (28, .class_ 56), (0, u "jdk/internal/util/Preconditions$4"), (57, .class_ 115), (0, u "jdk/internal/util/Preconditions$1"), (7, u "SIOOBE_FORMATTER"), (0, u "Ljava/util/function/BiFunction;"), (0, .class_ 126), (0, u "jdk/internal/util/Preconditions$2"), (3, u "AIOOBE_FORMATTER"), (0, .class_ 132), (0, u "jdk/internal/util/Preconditions$3"), (3, u "IOOBE_FORMATTER")] 57

def k25m0 : Method := { name := "<init>", desc := "()V", sig := { parameters := [], returnType := none }, accessFlags := 1, code := none }
/-- jdk/internal/util/Preconditions -/
def k25 : Class := { plain "jdk/internal/util/Preconditions" (some 0) with
  accessFlags := 33
  interfaces := #[]
  cf := some (fileOf pool25 24 #[.nestMembers #[55, 131, 125, 114]] #[{ accessFlags := 1, nameIndex := 5, descriptorIndex := 6, attributes := #[] }] 33 2 #[] #[{ accessFlags := 25, nameIndex := 123, descriptorIndex := 124, attributes := #[] }, { accessFlags := 25, nameIndex := 130, descriptorIndex := 124, attributes := #[] }, { accessFlags := 25, nameIndex := 136, descriptorIndex := 124, attributes := #[] }])
  fields := #[{ name := "SIOOBE_FORMATTER", type := (.object "java/util/function/BiFunction"), accessFlags := 25, slot := 0, constantValue := 0 }, { name := "AIOOBE_FORMATTER", type := (.object "java/util/function/BiFunction"), accessFlags := 25, slot := 1, constantValue := 0 }, { name := "IOOBE_FORMATTER", type := (.object "java/util/function/BiFunction"), accessFlags := 25, slot := 2, constantValue := 0 }]
  methods := #[k25m0]
  instanceTypes := #[]
  staticTypes := #[(.object "java/util/function/BiFunction"), (.object "java/util/function/BiFunction"), (.object "java/util/function/BiFunction")]
  resolved := Array.replicate 194 none
  statics := some 4 }

def pool26 : Array CpInfo := pool [(2, .class_ 4), (1, u "java/lang/Object"), (0, u "<init>"), (0, u "()V"), (12, .class_ 20), (0, u "java/util/Collections"), (63, u "r"), (0, u "Ljava/util/Random;"), (80, .class_ 167), (0, u "java/util/Collections$UnmodifiableCollection"), (6, .class_ 175), (0, u "java/util/Collections$UnmodifiableSequencedCollection"), (6, .class_ 183), (0, u "java/util/Collections$UnmodifiableSet"), (6, .class_ 191), (0, u "java/util/Collections$UnmodifiableSequencedSet"), (6, .class_ 199), (0, u "java/util/Collections$UnmodifiableSortedSet"), (6, .class_ 207), (0, u "java/util/Collections$UnmodifiableNavigableSet"), (4, .class_ 213), (0, u "java/util/Collections$UnmodifiableList"), (1, .class_ 216), (0, u "java/util/Collections$UnmodifiableRandomAccessList"), (6, .class_ 224), (0, u "java/util/Collections$UnmodifiableMap"), (6, .class_ 232), (0, u "java/util/Collections$UnmodifiableSequencedMap"), (4, .class_ 238), (0, u "java/util/Collections$UnmodifiableSortedMap"), (6, .class_ 246), (0, u "java/util/Collections$UnmodifiableNavigableMap"), (3, .class_ 251), (0, u "java/util/Collections$SynchronizedCollection"), (4, .class_ 257), (0, u "java/util/Collections$SynchronizedSet"), (4, .class_ 263), (0, u "java/util/Collections$SynchronizedSortedSet"), (1, .class_ 266), (0, u "java/util/Collections$SynchronizedNavigableSet"), (1, .class_ 269), (0, u "java/util/Collections$SynchronizedRandomAccessList"), (1, .class_ 272), (0, u "java/util/Collections$SynchronizedList"), (5, .class_ 279), (0, u "java/util/Collections$SynchronizedMap"), (1, .class_ 282), (0, u "java/util/Collections$SynchronizedSortedMap"), (1, .class_ 285), (0, u "java/util/Collections$SynchronizedNavigableMap"), (1, .class_ 288), (0, u "java/util/Collections$CheckedCollection"), (11, .class_ 301), (0, u "java/util/Collections$CheckedQueue"), (3, .class_ 306), (0, u "java/util/Collections$CheckedSet"), (3, .class_ 311), (0, u "java/util/Collections$CheckedSortedSet"), (3, .class_ 316), (0, u "java/util/Collections$CheckedNavigableSet"), (3, .class_ 321), (0, u "java/util/Collections$CheckedRandomAccessList"), (3, .class_ 326), (0, u "java/util/Collections$CheckedList"), (1, .class_ 329), (0, u "java/util/Collections$CheckedMap"), (3, .class_ 334), (0, u "java/util/Collections$CheckedSortedMap"), (3, .class_ 339), (0, u "java/util/Collections$CheckedNavigableMap"), (4, .class_ 346), (1, u "java/util/Collections$EmptyIterator"), (3, .class_ 352), (1, u "java/util/Collections$EmptyListIterator"), (2, .class_ 357), (1, u "java/util/Collections$EmptyEnumeration"), (4, u "EMPTY_SET"), (0, u "Ljava/util/Set;"), (6, u "EMPTY_LIST"), (0, u "Ljava/util/List;"), (2, u "EMPTY_MAP"), (0, u "Ljava/util/Map;"), (4, .class_ 381), (0, u "java/util/Collections$SingletonSet"), (2, .class_ 385), (0, u "java/util/Collections$1"), (1, .class_ 388), (0, u "java/util/Collections$2"), (1, .class_ 391), (0, u "java/util/Collections$SingletonList"), (1, .class_ 394), (0, u "java/util/Collections$SingletonMap"), (22, .class_ 418), (0, u "java/util/Collections$CopiesList"), (4, .class_ 425), (1, u "java/util/Collections$ReverseComparator"), (8, .class_ 435), (0, u "java/util/Collections$ReverseComparator2"), (6, .class_ 443), (0, u "java/util/Collections$3"), (25, .class_ 470), (0, u "java/util/Collections$SetFromMap"), (2, .class_ 474), (0, u "java/util/Collections$SequencedSetFromMap"), (3, .class_ 479), (0, u "java/util/Collections$AsLIFOQueue"), (11, .class_ 492), (0, u "java/util/Collections$EmptySet"), (1, .class_ 495), (0, u "java/util/Collections$EmptyList"), (1, .class_ 498), (0, u "java/util/Collections$EmptyMap"), (1, u "BINARYSEARCH_THRESHOLD"), (0, u "I"), (2, u "REVERSE_THRESHOLD"), (1, u "SHUFFLE_THRESHOLD"), (1, u "FILL_THRESHOLD"), (1, u "ROTATE_THRESHOLD"), (1, u "COPY_THRESHOLD"), (1, u "REPLACEALL_THRESHOLD"), (1, u "INDEXOFSUBLIST_THRESHOLD"), (333, .class_ 851), (0, u "java/util/Collections$CheckedMap$CheckedEntrySet"), (0, .class_ 853), (0, u "java/util/Collections$CheckedMap$CheckedEntrySet$CheckedEntry"), (0, .class_ 855), (0, u "java/util/Collections$CheckedMap$CheckedEntrySet$1"), (0, .class_ 857), (0, u "java/util/Collections$CheckedList$1"), (0, .class_ 859), (0, u "java/util/Collections$CheckedCollection$1"), (0, .class_ 861), (0, u "java/util/Collections$UnmodifiableNavigableMap$EmptyNavigableMap"), (0, .class_ 863), (0, u "java/util/Collections$UnmodifiableMap$UnmodifiableEntrySet"), (0, .class_ 865), (0, u "java/util/Collections$UnmodifiableMap$UnmodifiableEntrySet$UnmodifiableEntry"), (0, .class_ 867), (0, u "java/util/Collections$UnmodifiableMap$UnmodifiableEntrySet$UnmodifiableEntrySetSpliterator"), (0, .class_ 869), (0, u "java/util/Collections$UnmodifiableMap$UnmodifiableEntrySet$1"), (0, .class_ 871), (0, u "java/util/Collections$UnmodifiableList$1"), (0, .class_ 873), (0, u "java/util/Collections$UnmodifiableNavigableSet$EmptyNavigableSet"), (0, .class_ 875), (0, u "java/util/Collections$UnmodifiableCollection$1")] 57

def k26m0 : Method := { name := "<init>", desc := "()V", sig := { parameters := [], returnType := none }, accessFlags := 2, code := none }
/-- java/util/Collections -/
def k26 : Class := { plain "java/util/Collections" (some 0) with
  accessFlags := 33
  interfaces := #[]
  cf := some (fileOf pool26 19 #[.nestMembers #[478, 473, 469, 434, 423, 417, 393, 390, 380, 497, 494, 491, 355, 350, 344, 338, 333, 328, 850, 852, 854, 320, 325, 856, 315, 310, 305, 300, 287, 858, 284, 281, 278, 268, 271, 265, 262, 256, 250, 245, 860, 237, 231, 223, 862, 864, 866, 868, 215, 212, 870, 206, 872, 198, 190, 182, 174, 166, 874, 442, 387, 384]] #[{ accessFlags := 2, nameIndex := 5, descriptorIndex := 6, attributes := #[] }] 33 2 #[] #[{ accessFlags := 26, nameIndex := 500, descriptorIndex := 501, attributes := #[] }, { accessFlags := 26, nameIndex := 504, descriptorIndex := 501, attributes := #[] }, { accessFlags := 26, nameIndex := 506, descriptorIndex := 501, attributes := #[] }, { accessFlags := 26, nameIndex := 508, descriptorIndex := 501, attributes := #[] }, { accessFlags := 26, nameIndex := 510, descriptorIndex := 501, attributes := #[] }, { accessFlags := 26, nameIndex := 512, descriptorIndex := 501, attributes := #[] }, { accessFlags := 26, nameIndex := 514, descriptorIndex := 501, attributes := #[] }, { accessFlags := 26, nameIndex := 516, descriptorIndex := 501, attributes := #[] }, { accessFlags := 10, nameIndex := 84, descriptorIndex := 85, attributes := #[] }, { accessFlags := 25, nameIndex := 362, descriptorIndex := 363, attributes := #[] }, { accessFlags := 25, nameIndex := 370, descriptorIndex := 371, attributes := #[] }, { accessFlags := 25, nameIndex := 374, descriptorIndex := 375, attributes := #[] }])
  fields := #[{ name := "BINARYSEARCH_THRESHOLD", type := .int, accessFlags := 26, slot := 0, constantValue := 0 }, { name := "REVERSE_THRESHOLD", type := .int, accessFlags := 26, slot := 1, constantValue := 0 }, { name := "SHUFFLE_THRESHOLD", type := .int, accessFlags := 26, slot := 2, constantValue := 0 }, { name := "FILL_THRESHOLD", type := .int, accessFlags := 26, slot := 3, constantValue := 0 }, { name := "ROTATE_THRESHOLD", type := .int, accessFlags := 26, slot := 4, constantValue := 0 }, { name := "COPY_THRESHOLD", type := .int, accessFlags := 26, slot := 5, constantValue := 0 }, { name := "REPLACEALL_THRESHOLD", type := .int, accessFlags := 26, slot := 6, constantValue := 0 }, { name := "INDEXOFSUBLIST_THRESHOLD", type := .int, accessFlags := 26, slot := 7, constantValue := 0 }, { name := "r", type := (.object "java/util/Random"), accessFlags := 10, slot := 8, constantValue := 0 }, { name := "EMPTY_SET", type := (.object "java/util/Set"), accessFlags := 25, slot := 9, constantValue := 0 }, { name := "EMPTY_LIST", type := (.object "java/util/List"), accessFlags := 25, slot := 10, constantValue := 0 }, { name := "EMPTY_MAP", type := (.object "java/util/Map"), accessFlags := 25, slot := 11, constantValue := 0 }]
  methods := #[k26m0]
  instanceTypes := #[]
  staticTypes := #[.int, .int, .int, .int, .int, .int, .int, .int, (.object "java/util/Random"), (.object "java/util/Set"), (.object "java/util/List"), (.object "java/util/Map")]
  resolved := Array.replicate 933 none
  statics := some 5 }

def pool27 : Array CpInfo := pool [(8, .class_ 10), (1, u "java/lang/Iterable"), (24, .class_ 36), (0, u "java/lang/Object")] 25

/-- java/lang/Iterable -/
def k27 : Class := { plain "java/lang/Iterable" (some 0) with
  accessFlags := 1537
  interfaces := #[]
  cf := some (fileOf pool27 8 #[] #[] 1537 35 #[] #[])
  fields := #[]
  methods := #[]
  instanceTypes := #[]
  staticTypes := #[]
  resolved := Array.replicate 62 none
  statics := none }

def pool28 : Array CpInfo := pool [(10, .class_ 12), (1, u "java/util/Collection"), (47, .class_ 61), (0, u "java/lang/Object"), (0, .class_ 63), (0, u "java/lang/Iterable")] 51

/-- java/util/Collection -/
def k28 : Class := { plain "java/util/Collection" (some 0) with
  accessFlags := 1537
  interfaces := #[27]
  cf := some (fileOf pool28 10 #[] #[] 1537 60 #[62] #[])
  fields := #[]
  methods := #[]
  instanceTypes := #[]
  staticTypes := #[]
  resolved := Array.replicate 115 none
  statics := none }

def pool29 : Array CpInfo := pool [(2, .class_ 4), (1, u "java/lang/Object"), (0, u "<init>"), (0, u "()V"), (1, .class_ 10), (1, u "java/util/AbstractCollection"), (66, .class_ 78), (0, u "java/util/Collection")] 81

def k29m0 : Method := { name := "<init>", desc := "()V", sig := { parameters := [], returnType := none }, accessFlags := 4, code := none }
/-- java/util/AbstractCollection -/
def k29 : Class := { plain "java/util/AbstractCollection" (some 0) with
  accessFlags := 1057
  interfaces := #[28]
  cf := some (fileOf pool29 8 #[] #[{ accessFlags := 4, nameIndex := 5, descriptorIndex := 6, attributes := #[] }] 1057 2 #[77] #[])
  fields := #[]
  methods := #[k29m0]
  instanceTypes := #[]
  staticTypes := #[]
  resolved := Array.replicate 160 none
  statics := none }

def pool30 : Array CpInfo := pool [(8, .class_ 10), (1, u "java/util/SequencedCollection"), (15, .class_ 27), (0, u "java/lang/Object"), (0, .class_ 29), (0, u "java/util/Collection")] 27

/-- java/util/SequencedCollection -/
def k30 : Class := { plain "java/util/SequencedCollection" (some 0) with
  accessFlags := 1537
  interfaces := #[28]
  cf := some (fileOf pool30 8 #[] #[] 1537 26 #[28] #[])
  fields := #[]
  methods := #[]
  instanceTypes := #[]
  staticTypes := #[]
  resolved := Array.replicate 57 none
  statics := none }

def pool31 : Array CpInfo := pool [(8, .class_ 10), (1, u "java/util/List"), (92, .class_ 104), (0, u "java/lang/Object"), (15, .class_ 121), (0, u "java/util/SequencedCollection")] 129

/-- java/util/List -/
def k31 : Class := { plain "java/util/List" (some 0) with
  accessFlags := 1537
  interfaces := #[30]
  cf := some (fileOf pool31 8 #[] #[] 1537 103 #[120] #[])
  fields := #[]
  methods := #[]
  instanceTypes := #[]
  staticTypes := #[]
  resolved := Array.replicate 251 none
  statics := none }

def pool32 : Array CpInfo := pool [(2, .class_ 4), (1, u "java/util/AbstractCollection"), (0, u "<init>"), (0, u "()V"), (1, .class_ 10), (1, u "java/util/AbstractList"), (0, u "modCount"), (0, u "I"), (64, .class_ 78), (0, u "java/util/AbstractList$Itr"), (3, .class_ 83), (0, u "java/util/AbstractList$ListItr"), (9, .class_ 94), (0, u "java/util/AbstractList$RandomAccessSubList"), (3, .class_ 99), (0, u "java/util/AbstractList$SubList"), (33, .class_ 134), (0, u "java/util/List"), (73, .class_ 209), (0, u "java/util/AbstractList$SubList$1"), (0, .class_ 211), (0, u "java/util/AbstractList$RandomAccessSpliterator")] 6

def k32m0 : Method := { name := "<init>", desc := "()V", sig := { parameters := [], returnType := none }, accessFlags := 4, code := none }
/-- java/util/AbstractList -/
def k32 : Class := { plain "java/util/AbstractList" (some 29) with
  accessFlags := 1057
  interfaces := #[31]
  cf := some (fileOf pool32 8 #[.nestMembers #[93, 98, 208, 210, 82, 77]] #[{ accessFlags := 4, nameIndex := 5, descriptorIndex := 6, attributes := #[] }] 1057 2 #[133] #[{ accessFlags := 132, nameIndex := 11, descriptorIndex := 12, attributes := #[] }])
  fields := #[{ name := "modCount", type := .int, accessFlags := 132, slot := 0, constantValue := 0 }]
  methods := #[k32m0]
  instanceTypes := #[.int]
  staticTypes := #[]
  resolved := Array.replicate 218 none
  statics := none }

def pool33 : Array CpInfo := pool [(1, .class_ 2), (0, u "java/util/RandomAccess"), (0, .class_ 4), (0, u "java/lang/Object")] 2

/-- java/util/RandomAccess -/
def k33 : Class := { plain "java/util/RandomAccess" (some 0) with
  accessFlags := 1537
  interfaces := #[]
  cf := some (fileOf pool33 1 #[] #[] 1537 3 #[] #[])
  fields := #[]
  methods := #[]
  instanceTypes := #[]
  staticTypes := #[]
  resolved := Array.replicate 7 none
  statics := none }

def pool34 : Array CpInfo := pool [(2, .class_ 4), (1, u "java/util/AbstractList"), (0, u "<init>"), (0, u "()V"), (1, .class_ 10), (1, u "java/util/Collections"), (54, .class_ 66), (0, u "java/util/Collections$EmptyList"), (0, .class_ 68), (0, u "java/util/RandomAccess"), (0, .class_ 70), (0, u "java/io/Serializable"), (0, u "serialVersionUID"), (0, u "J")] 77

def k34m0 : Method := { name := "<init>", desc := "()V", sig := { parameters := [], returnType := none }, accessFlags := 2, code := none }
/-- java/util/Collections$EmptyList -/
def k34 : Class := { plain "java/util/Collections$EmptyList" (some 32) with
  accessFlags := 32
  interfaces := #[33, 4]
  cf := some (fileOf pool34 65 #[.nestHost 8] #[{ accessFlags := 2, nameIndex := 5, descriptorIndex := 6, attributes := #[] }] 32 2 #[67, 69] #[{ accessFlags := 26, nameIndex := 71, descriptorIndex := 72, attributes := #[] }])
  fields := #[{ name := "serialVersionUID", type := .long, accessFlags := 26, slot := 0, constantValue := 0 }]
  methods := #[k34m0]
  instanceTypes := #[.int]
  staticTypes := #[.long]
  resolved := Array.replicate 150 none
  statics := none }

def pool35 : Array CpInfo := pool [(2, .class_ 4), (1, u "java/lang/StackTraceElement"), (0, u "<init>"), (2, .class_ 10), (1, u "java/lang/Object"), (0, u "()V"), (2, u "format"), (0, u "B"), (2, u "classLoaderName"), (0, u "Ljava/lang/String;"), (2, u "moduleName"), (2, u "moduleVersion"), (12, u "declaringClass"), (4, u "methodName"), (2, u "fileName"), (2, u "lineNumber"), (0, u "I"), (65, u "declaringClassObject"), (0, u "Ljava/lang/Class;"), (33, .class_ 153), (1, u "java/lang/StackTraceElement$HashedModules"), (17, .class_ 172), (0, u "java/io/Serializable"), (0, u "NATIVE_METHOD"), (1, u "UNKNOWN_SOURCE"), (2, u "BUILTIN_CLASS_LOADER"), (1, u "JDK_NON_UPGRADEABLE_MODULE"), (1, u "serialVersionUID"), (0, u "J")] 51

def k35m0 : Method := { name := "<init>", desc := "()V", sig := { parameters := [], returnType := none }, accessFlags := 2, code := none }
/-- java/lang/StackTraceElement -/
def k35 : Class := { plain "java/lang/StackTraceElement" (some 0) with
  accessFlags := 49
  interfaces := #[4]
  cf := some (fileOf pool35 2 #[.nestMembers #[151]] #[{ accessFlags := 2, nameIndex := 5, descriptorIndex := 11, attributes := #[] }] 49 8 #[171] #[{ accessFlags := 26, nameIndex := 173, descriptorIndex := 19, attributes := #[] }, { accessFlags := 26, nameIndex := 175, descriptorIndex := 19, attributes := #[] }, { accessFlags := 130, nameIndex := 116, descriptorIndex := 117, attributes := #[] }, { accessFlags := 2, nameIndex := 18, descriptorIndex := 19, attributes := #[] }, { accessFlags := 2, nameIndex := 22, descriptorIndex := 19, attributes := #[] }, { accessFlags := 2, nameIndex := 25, descriptorIndex := 19, attributes := #[] }, { accessFlags := 2, nameIndex := 38, descriptorIndex := 19, attributes := #[] }, { accessFlags := 2, nameIndex := 43, descriptorIndex := 19, attributes := #[] }, { accessFlags := 2, nameIndex := 46, descriptorIndex := 19, attributes := #[] }, { accessFlags := 2, nameIndex := 49, descriptorIndex := 50, attributes := #[] }, { accessFlags := 2, nameIndex := 14, descriptorIndex := 15, attributes := #[] }, { accessFlags := 26, nameIndex := 178, descriptorIndex := 15, attributes := #[] }, { accessFlags := 26, nameIndex := 180, descriptorIndex := 15, attributes := #[] }, { accessFlags := 26, nameIndex := 182, descriptorIndex := 183, attributes := #[] }])
  fields := #[{ name := "NATIVE_METHOD", type := (.object "java/lang/String"), accessFlags := 26, slot := 0, constantValue := 0 }, { name := "UNKNOWN_SOURCE", type := (.object "java/lang/String"), accessFlags := 26, slot := 1, constantValue := 0 }, { name := "declaringClassObject", type := (.object "java/lang/Class"), accessFlags := 130, slot := 0, constantValue := 0 }, { name := "classLoaderName", type := (.object "java/lang/String"), accessFlags := 2, slot := 1, constantValue := 0 }, { name := "moduleName", type := (.object "java/lang/String"), accessFlags := 2, slot := 2, constantValue := 0 }, { name := "moduleVersion", type := (.object "java/lang/String"), accessFlags := 2, slot := 3, constantValue := 0 }, { name := "declaringClass", type := (.object "java/lang/String"), accessFlags := 2, slot := 4, constantValue := 0 }, { name := "methodName", type := (.object "java/lang/String"), accessFlags := 2, slot := 5, constantValue := 0 }, { name := "fileName", type := (.object "java/lang/String"), accessFlags := 2, slot := 6, constantValue := 0 }, { name := "lineNumber", type := .int, accessFlags := 2, slot := 7, constantValue := 0 }, { name := "format", type := .byte, accessFlags := 2, slot := 8, constantValue := 0 }, { name := "BUILTIN_CLASS_LOADER", type := .byte, accessFlags := 26, slot := 2, constantValue := 0 }, { name := "JDK_NON_UPGRADEABLE_MODULE", type := .byte, accessFlags := 26, slot := 3, constantValue := 0 }, { name := "serialVersionUID", type := .long, accessFlags := 26, slot := 4, constantValue := 0 }]
  methods := #[k35m0]
  instanceTypes := #[(.object "java/lang/Class"), (.object "java/lang/String"), (.object "java/lang/String"), (.object "java/lang/String"), (.object "java/lang/String"), (.object "java/lang/String"), (.object "java/lang/String"), .int, .byte]
  staticTypes := #[(.object "java/lang/String"), (.object "java/lang/String"), .byte, .byte, .long]
  resolved := Array.replicate 235 none
  statics := none }

/-- the primitive byte -/
def k36 : Class := { plain "byte" none with kind := .primitive 'B', accessFlags := 0x411 }
/-- [B -/
def k37 : Class := { plain "[B" (some 0) with kind := .array 36 .byte, interfaces := #[24, 4], accessFlags := 1041 }

/-- the primitive int -/
def k38 : Class := { plain "int" none with kind := .primitive 'I', accessFlags := 0x411 }
/-- [I -/
def k39 : Class := { plain "[I" (some 0) with kind := .array 38 .int, interfaces := #[24, 4], accessFlags := 1041 }

/-- [Ljava/lang/StackTraceElement; -/
def k40 : Class := { plain "[Ljava/lang/StackTraceElement;" (some 0) with kind := .array 35 (.object "java/lang/StackTraceElement"), interfaces := #[24, 4], accessFlags := 1041 }

/-- [Ljava/lang/Throwable; -/
def k41 : Class := { plain "[Ljava/lang/Throwable;" (some 0) with kind := .array 11 (.object "java/lang/Throwable"), interfaces := #[24, 4], accessFlags := 1041 }

def heap : Heap := #[{ cls := 6, slots := #[.ref 8, .ref 9, .ref 10, .null], vm := .statics 6 },
  { cls := 9, slots := #[.long 0, .int 1, .null, .int 0, .null, .int 0, .int 0], vm := .statics 9 },
  { cls := 11, slots := #[.long 0, .ref 11, .ref 12, .null, .null, .null, .null, .ref 13, .int 1], vm := .statics 11 },
  { cls := 20, slots := #[.int 0, .int 0, .null, .null, .ref 7, .ref 6, .int 0, .int 0, .long 0], vm := .statics 20 },
  { cls := 25, slots := #[.null, .null, .null], vm := .statics 25 },
  { cls := 26, slots := #[.int 0, .int 0, .int 0, .int 0, .int 0, .int 0, .int 0, .int 0, .null, .null, .ref 12, .null], vm := .statics 26 },
  { cls := 37, slots := #[.int 48, .int 49, .int 50, .int 51, .int 52, .int 53, .int 54, .int 55, .int 56, .int 57, .int 48, .int 49, .int 50, .int 51, .int 52, .int 53, .int 54, .int 55, .int 56, .int 57, .int 48, .int 49, .int 50, .int 51, .int 52, .int 53, .int 54, .int 55, .int 56, .int 57, .int 48, .int 49, .int 50, .int 51, .int 52, .int 53, .int 54, .int 55, .int 56, .int 57, .int 48, .int 49, .int 50, .int 51, .int 52, .int 53, .int 54, .int 55, .int 56, .int 57, .int 48, .int 49, .int 50, .int 51, .int 52, .int 53, .int 54, .int 55, .int 56, .int 57, .int 48, .int 49, .int 50, .int 51, .int 52, .int 53, .int 54, .int 55, .int 56, .int 57, .int 48, .int 49, .int 50, .int 51, .int 52, .int 53, .int 54, .int 55, .int 56, .int 57, .int 48, .int 49, .int 50, .int 51, .int 52, .int 53, .int 54, .int 55, .int 56, .int 57, .int 48, .int 49, .int 50, .int 51, .int 52, .int 53, .int 54, .int 55, .int 56, .int 57], vm := .none },
  { cls := 37, slots := #[.int 48, .int 48, .int 48, .int 48, .int 48, .int 48, .int 48, .int 48, .int 48, .int 48, .int 49, .int 49, .int 49, .int 49, .int 49, .int 49, .int 49, .int 49, .int 49, .int 49, .int 50, .int 50, .int 50, .int 50, .int 50, .int 50, .int 50, .int 50, .int 50, .int 50, .int 51, .int 51, .int 51, .int 51, .int 51, .int 51, .int 51, .int 51, .int 51, .int 51, .int 52, .int 52, .int 52, .int 52, .int 52, .int 52, .int 52, .int 52, .int 52, .int 52, .int 53, .int 53, .int 53, .int 53, .int 53, .int 53, .int 53, .int 53, .int 53, .int 53, .int 54, .int 54, .int 54, .int 54, .int 54, .int 54, .int 54, .int 54, .int 54, .int 54, .int 55, .int 55, .int 55, .int 55, .int 55, .int 55, .int 55, .int 55, .int 55, .int 55, .int 56, .int 56, .int 56, .int 56, .int 56, .int 56, .int 56, .int 56, .int 56, .int 56, .int 57, .int 57, .int 57, .int 57, .int 57, .int 57, .int 57, .int 57, .int 57, .int 57], vm := .none },
  { cls := 6, slots := #[.null, .int 0, .int 0], vm := .none },
  { cls := 6, slots := #[.null, .int 1, .int 0], vm := .none },
  { cls := 6, slots := #[.null, .int 2, .int 0], vm := .none },
  { cls := 40, slots := #[], vm := .none },
  { cls := 34, slots := #[.int 0], vm := .none },
  { cls := 41, slots := #[], vm := .none }]
def classes : Array Class := #[k0, k1, k2, k3, k4, k5, k6, k7, k8, k9, k10, k11, k12, k13, k14, k15, k16, k17, k18, k19, k20, k21, k22, k23, k24, k25, k26, k27, k28, k29, k30, k31, k32, k33, k34, k35, k36, k37, k38, k39, k40, k41]
def interned : List (Array UInt16 × Addr) := []
def slotsUsed : Nat := 254
def theMethod : MethodId := ⟨1, 2⟩
def args0 : Array Value := #[.int 0, .int 5, .int 6, .int 0, .int 65]
def aboutOver (below : List Frame) : State where
  vm := { classes := classes, interned := interned.toArray }
  heap := heap
  slotsUsed := slotsUsed
  threads := #[{ frames := .invoking theMethod args0 :: below }]
def below0 : List Frame := [.native { method := ⟨0, 0⟩, args := #[] }]
def about1 : State := aboutOver below0
def p0 : Program := .bare "" "" ""
def e0 : Env := launch0.env 0 0 0
theorem w_frames : about1.frames = Frame.invoking theMethod args0 :: below0 := rfl
set_option maxRecDepth 65536 in
theorem w_args : argsFit about1.vm theMethod args0 = true := by decide +kernel
set_option maxRecDepth 65536 in
theorem w_heap : heapFits about1 = true := by decide +kernel
set_option maxRecDepth 65536 in
theorem w_runnable : about1.curStatus? = some .runnable := by decide +kernel
set_option maxRecDepth 65536 in
theorem w_alone : about1.alone = true := by decide +kernel
set_option maxRecDepth 65536 in
theorem w_named : about1.methodNamed? x = some theMethod := by decide +kernel
set_option maxRecDepth 65536 in
theorem w_hears : about1.hears theMethod below0 = true := by decide +kernel
set_option maxRecDepth 65536 in
theorem w_ripe : about1.ripe theMethod args0 below0 = true := by decide +kernel
theorem w_running : about1.status = .running := rfl
set_option maxRecDepth 65536 in
theorem w_room : about1.hasRoom e0.platform room_1 = true :=
  launch0.hasRoom_least _ room_1 (by decide +kernel) (by decide +kernel) (by decide +kernel) (by decide +kernel) (by decide +kernel) (by decide +kernel)
theorem allAtoms_all (ts : List Jvm.Cond) (a : Array Jvm.Value) (st : Jvm.State) : (allAtoms ts).before a st = ts.all (fun c => c.before a st) := by
  induction ts with
  | nil => rfl
  | cons c t ih =>
    show (Jvm.Cond.and c (allAtoms t)).before a st = _
    rw [Jvm.Cond.before_and, ih, List.all_cons]
def words1 : List Jvm.Cond := Jvm.Cond.code x code maxLocals ret :: tables_1
/-- a 'code' word, met by the world's own term for the bytes: nothing is compared byte by byte -/
theorem code_word {y : MethodName} {bytes : ByteArray} {mx : Nat} {rt : Option FieldType} {a : Array Value} {s : State} {m : MethodId} {meth : Method} {c : Code} (h1 : s.methodNamed? y = some m) (h2 : s.vm.method? m = some meth) (h3 : meth.code = some c) (h4 : c.code = bytes)
    (h5 : (c.maxLocals == mx && c.exceptionTable.isEmpty && decide (c.maxStack ≤ mostOperands) && decide (meth.sig.returnType = rt) && !meth.locks && decide (parseMethodDescriptor y.desc = some meth.sig)) = true) : (Jvm.Cond.code y bytes mx rt).before a s = true := by
  simp only [Bool.and_eq_true, beq_iff_eq, Bool.not_eq_true', decide_eq_true_eq] at h5
  obtain ⟨⟨⟨⟨⟨g1, g2⟩, g3⟩, g4⟩, g5⟩, g6⟩ := h5
  simp [Cond.before, Cond.holds, Cond.value, h1, h2, h3, h4, g1, g2, g3, g4, g5, g6]
def isCode : Jvm.Cond → Bool
  | .code _ _ _ _ => true
  | _ => false
theorem all_split {L : List Jvm.Cond} {P : Jvm.Cond → Bool} (h1 : L.all (fun c => isCode c || P c) = true) (h2 : ∀ c ∈ L.filter isCode, P c = true) : L.all P = true := by
  refine List.all_eq_true.mpr fun c hc => ?_
  have h := List.all_eq_true.mp h1 c hc
  rcases Bool.eq_false_or_eq_true (isCode c) with hi | hi
  · exact h2 c (List.mem_filter.mpr ⟨hc, hi⟩)
  · simpa [hi] using h
set_option maxRecDepth 65536 in
theorem w_c0 : (Jvm.Cond.code x code maxLocals ret).before args0 about1 = true := code_word (m := ⟨1, 2⟩) (meth := k1m2) (c := k1c2) (by decide +kernel) rfl rfl rfl (by decide +kernel)
set_option maxRecDepth 65536 in
theorem w_c1 : (Jvm.Cond.code ({ cls := "com/example/formulary/formulary/host/FormulaExceptionHasPlacePinLaw", name := "kindOf", desc := "(I)Lcom/example/formulary/formulary/host/FormulaException$Kind;" } : Jvm.MethodName) method_2_code (2 : Nat) (Option.some (Jvm.ClassFile.FieldType.object "com/example/formulary/formulary/host/FormulaException$Kind"))).before args0 about1 = true := code_word (m := ⟨1, 1⟩) (meth := k1m1) (c := k1c1) (by decide +kernel) rfl rfl rfl (by decide +kernel)
set_option maxRecDepth 65536 in
theorem w_c2 : (Jvm.Cond.code ({ cls := "java/lang/String", name := "valueOf", desc := "(C)Ljava/lang/String;" } : Jvm.MethodName) jdk_42_method_139_code (1 : Nat) (Option.some (Jvm.ClassFile.FieldType.object "java/lang/String"))).before args0 about1 = true := code_word (m := ⟨9, 3⟩) (meth := k9m3) (c := k9c3) (by decide +kernel) rfl rfl rfl (by decide +kernel)
set_option maxRecDepth 65536 in
theorem w_c3 : (Jvm.Cond.code ({ cls := "java/lang/StringLatin1", name := "canEncode", desc := "(C)Z" } : Jvm.MethodName) jdk_43_method_3_code (1 : Nat) (Option.some Jvm.ClassFile.FieldType.boolean)).before args0 about1 = true := code_word (m := ⟨10, 1⟩) (meth := k10m1) (c := k10c1) (by decide +kernel) rfl rfl rfl (by decide +kernel)
set_option maxRecDepth 65536 in
theorem w_c4 : (Jvm.Cond.code ({ cls := "java/lang/StringLatin1", name := "toBytes", desc := "(C)[B" } : Jvm.MethodName) jdk_43_method_46_code (1 : Nat) (Option.some (Jvm.ClassFile.FieldType.array Jvm.ClassFile.FieldType.byte))).before args0 about1 = true := code_word (m := ⟨10, 2⟩) (meth := k10m2) (c := k10c2) (by decide +kernel) rfl rfl rfl (by decide +kernel)
set_option maxRecDepth 65536 in
theorem w_c5 : (Jvm.Cond.code ({ cls := "java/lang/String", name := "<init>", desc := "([BB)V" } : Jvm.MethodName) jdk_42_method_151_code (3 : Nat) (Option.none : Option Jvm.ClassFile.FieldType)).before args0 about1 = true := code_word (m := ⟨9, 6⟩) (meth := k9m6) (c := k9c6) (by decide +kernel) rfl rfl rfl (by decide +kernel)
set_option maxRecDepth 65536 in
theorem w_c6 : (Jvm.Cond.code ({ cls := "java/lang/Object", name := "<init>", desc := "()V" } : Jvm.MethodName) object_method_1_code (1 : Nat) (Option.none : Option Jvm.ClassFile.FieldType)).before args0 about1 = true := code_word (m := ⟨0, 0⟩) (meth := k0m0) (c := k0c0) (by decide +kernel) rfl rfl rfl (by decide +kernel)
set_option maxRecDepth 65536 in
theorem w_c7 : (Jvm.Cond.code ({ cls := "com/example/formulary/formulary/host/FormulaException", name := "<init>", desc := "(Lcom/example/formulary/formulary/host/FormulaException$Kind;Ljava/lang/String;)V" } : Jvm.MethodName) prog_36_method_2_code (3 : Nat) (Option.none : Option Jvm.ClassFile.FieldType)).before args0 about1 = true := code_word (m := ⟨14, 1⟩) (meth := k14m1) (c := k14c1) (by decide +kernel) rfl rfl rfl (by decide +kernel)
set_option maxRecDepth 65536 in
theorem w_c8 : (Jvm.Cond.code ({ cls := "com/example/formulary/formulary/host/FormulaException", name := "<init>", desc := "(Lcom/example/formulary/formulary/host/FormulaException$Kind;Ljava/lang/String;IILjava/lang/String;)V" } : Jvm.MethodName) prog_36_method_3_code (6 : Nat) (Option.none : Option Jvm.ClassFile.FieldType)).before args0 about1 = true := code_word (m := ⟨14, 2⟩) (meth := k14m2) (c := k14c2) (by decide +kernel) rfl rfl rfl (by decide +kernel)
set_option maxRecDepth 65536 in
theorem w_c9 : (Jvm.Cond.code ({ cls := "java/lang/RuntimeException", name := "<init>", desc := "(Ljava/lang/String;Ljava/lang/Throwable;ZZ)V" } : Jvm.MethodName) jdk_58_method_5_code (5 : Nat) (Option.none : Option Jvm.ClassFile.FieldType)).before args0 about1 = true := code_word (m := ⟨13, 1⟩) (meth := k13m1) (c := k13c1) (by decide +kernel) rfl rfl rfl (by decide +kernel)
set_option maxRecDepth 65536 in
theorem w_c10 : (Jvm.Cond.code ({ cls := "java/lang/Exception", name := "<init>", desc := "(Ljava/lang/String;Ljava/lang/Throwable;ZZ)V" } : Jvm.MethodName) jdk_59_method_5_code (5 : Nat) (Option.none : Option Jvm.ClassFile.FieldType)).before args0 about1 = true := code_word (m := ⟨12, 1⟩) (meth := k12m1) (c := k12c1) (by decide +kernel) rfl rfl rfl (by decide +kernel)
set_option maxRecDepth 65536 in
theorem w_c11 : (Jvm.Cond.code ({ cls := "java/lang/Throwable", name := "<init>", desc := "(Ljava/lang/String;Ljava/lang/Throwable;ZZ)V" } : Jvm.MethodName) jdk_78_method_5_code (5 : Nat) (Option.none : Option Jvm.ClassFile.FieldType)).before args0 about1 = true := code_word (m := ⟨11, 1⟩) (meth := k11m1) (c := k11c1) (by decide +kernel) rfl rfl rfl (by decide +kernel)
set_option maxRecDepth 65536 in
theorem w_c12 : (Jvm.Cond.code ({ cls := "com/example/formulary/formulary/host/FormulaException", name := "hasPlace", desc := "()Z" } : Jvm.MethodName) prog_36_method_6_code (1 : Nat) (Option.some Jvm.ClassFile.FieldType.boolean)).before args0 about1 = true := code_word (m := ⟨14, 3⟩) (meth := k14m3) (c := k14c3) (by decide +kernel) rfl rfl rfl (by decide +kernel)
set_option maxRecDepth 65536 in
theorem w_c13 : (Jvm.Cond.code ({ cls := "com/example/formulary/formulary/host/FormulaException", name := "line", desc := "()I" } : Jvm.MethodName) prog_36_method_7_code (1 : Nat) (Option.some Jvm.ClassFile.FieldType.int)).before args0 about1 = true := code_word (m := ⟨14, 4⟩) (meth := k14m4) (c := k14c4) (by decide +kernel) rfl rfl rfl (by decide +kernel)
set_option maxRecDepth 65536 in
theorem w_c14 : (Jvm.Cond.code ({ cls := "com/example/formulary/formulary/host/FormulaException", name := "column", desc := "()I" } : Jvm.MethodName) prog_36_method_8_code (1 : Nat) (Option.some Jvm.ClassFile.FieldType.int)).before args0 about1 = true := code_word (m := ⟨14, 5⟩) (meth := k14m5) (c := k14c5) (by decide +kernel) rfl rfl rfl (by decide +kernel)
set_option maxRecDepth 65536 in
theorem w_c15 : (Jvm.Cond.code ({ cls := "com/example/formulary/formulary/host/FormulaException", name := "<init>", desc := "(Lcom/example/formulary/formulary/host/FormulaException$Kind;Ljava/lang/String;II)V" } : Jvm.MethodName) prog_36_method_1_code (5 : Nat) (Option.none : Option Jvm.ClassFile.FieldType)).before args0 about1 = true := code_word (m := ⟨14, 0⟩) (meth := k14m0) (c := k14c0) (by decide +kernel) rfl rfl rfl (by decide +kernel)
set_option maxRecDepth 65536 in
theorem w_c16 : (Jvm.Cond.code ({ cls := "java/lang/StringBuilder", name := "<init>", desc := "()V" } : Jvm.MethodName) jdk_67_method_1_code (1 : Nat) (Option.none : Option Jvm.ClassFile.FieldType)).before args0 about1 = true := code_word (m := ⟨17, 0⟩) (meth := k17m0) (c := k17c0) (by decide +kernel) rfl rfl rfl (by decide +kernel)
set_option maxRecDepth 65536 in
theorem w_c17 : (Jvm.Cond.code ({ cls := "java/lang/AbstractStringBuilder", name := "<init>", desc := "(I)V" } : Jvm.MethodName) jdk_68_method_2_code (2 : Nat) (Option.none : Option Jvm.ClassFile.FieldType)).before args0 about1 = true := code_word (m := ⟨16, 1⟩) (meth := k16m1) (c := k16c1) (by decide +kernel) rfl rfl rfl (by decide +kernel)
set_option maxRecDepth 65536 in
theorem w_c18 : (Jvm.Cond.code ({ cls := "java/lang/StringBuilder", name := "append", desc := "(Ljava/lang/String;)Ljava/lang/StringBuilder;" } : Jvm.MethodName) jdk_67_method_7_code (2 : Nat) (Option.some (Jvm.ClassFile.FieldType.object "java/lang/StringBuilder"))).before args0 about1 = true := code_word (m := ⟨17, 1⟩) (meth := k17m1) (c := k17c1) (by decide +kernel) rfl rfl rfl (by decide +kernel)
set_option maxRecDepth 65536 in
theorem w_c19 : (Jvm.Cond.code ({ cls := "java/lang/AbstractStringBuilder", name := "append", desc := "(Ljava/lang/String;)Ljava/lang/AbstractStringBuilder;" } : Jvm.MethodName) jdk_68_method_22_code (3 : Nat) (Option.some (Jvm.ClassFile.FieldType.object "java/lang/AbstractStringBuilder"))).before args0 about1 = true := code_word (m := ⟨16, 5⟩) (meth := k16m5) (c := k16c5) (by decide +kernel) rfl rfl rfl (by decide +kernel)
set_option maxRecDepth 65536 in
theorem w_c20 : (Jvm.Cond.code ({ cls := "java/lang/String", name := "length", desc := "()I" } : Jvm.MethodName) jdk_42_method_54_code (1 : Nat) (Option.some Jvm.ClassFile.FieldType.int)).before args0 about1 = true := code_word (m := ⟨9, 2⟩) (meth := k9m2) (c := k9c2) (by decide +kernel) rfl rfl rfl (by decide +kernel)
set_option maxRecDepth 65536 in
theorem w_c21 : (Jvm.Cond.code ({ cls := "java/lang/String", name := "coder", desc := "()B" } : Jvm.MethodName) jdk_42_method_152_code (1 : Nat) (Option.some Jvm.ClassFile.FieldType.byte)).before args0 about1 = true := code_word (m := ⟨9, 7⟩) (meth := k9m7) (c := k9c7) (by decide +kernel) rfl rfl rfl (by decide +kernel)
set_option maxRecDepth 65536 in
theorem w_c22 : (Jvm.Cond.code ({ cls := "java/lang/AbstractStringBuilder", name := "ensureCapacityInternal", desc := "(I)V" } : Jvm.MethodName) jdk_68_method_9_code (3 : Nat) (Option.none : Option Jvm.ClassFile.FieldType)).before args0 about1 = true := code_word (m := ⟨16, 3⟩) (meth := k16m3) (c := k16c3) (by decide +kernel) rfl rfl rfl (by decide +kernel)
set_option maxRecDepth 65536 in
theorem w_c23 : (Jvm.Cond.code ({ cls := "java/lang/AbstractStringBuilder", name := "putStringAt", desc := "(ILjava/lang/String;)V" } : Jvm.MethodName) jdk_68_method_73_code (3 : Nat) (Option.none : Option Jvm.ClassFile.FieldType)).before args0 about1 = true := code_word (m := ⟨16, 10⟩) (meth := k16m10) (c := k16c10) (by decide +kernel) rfl rfl rfl (by decide +kernel)
set_option maxRecDepth 65536 in
theorem w_c24 : (Jvm.Cond.code ({ cls := "java/lang/AbstractStringBuilder", name := "inflateIfNeededFor", desc := "(Ljava/lang/String;)V" } : Jvm.MethodName) jdk_68_method_71_code (2 : Nat) (Option.none : Option Jvm.ClassFile.FieldType)).before args0 about1 = true := code_word (m := ⟨16, 9⟩) (meth := k16m9) (c := k16c9) (by decide +kernel) rfl rfl rfl (by decide +kernel)
set_option maxRecDepth 65536 in
theorem w_c25 : (Jvm.Cond.code ({ cls := "java/lang/String", name := "getBytes", desc := "([BIB)V" } : Jvm.MethodName) jdk_42_method_147_code (4 : Nat) (Option.none : Option Jvm.ClassFile.FieldType)).before args0 about1 = true := code_word (m := ⟨9, 4⟩) (meth := k9m4) (c := k9c4) (by decide +kernel) rfl rfl rfl (by decide +kernel)
set_option maxRecDepth 65536 in
theorem w_c26 : (Jvm.Cond.code ({ cls := "java/lang/StringBuilder", name := "append", desc := "(I)Ljava/lang/StringBuilder;" } : Jvm.MethodName) jdk_67_method_15_code (2 : Nat) (Option.some (Jvm.ClassFile.FieldType.object "java/lang/StringBuilder"))).before args0 about1 = true := code_word (m := ⟨17, 2⟩) (meth := k17m2) (c := k17c2) (by decide +kernel) rfl rfl rfl (by decide +kernel)
set_option maxRecDepth 65536 in
theorem w_c27 : (Jvm.Cond.code ({ cls := "java/lang/AbstractStringBuilder", name := "append", desc := "(I)Ljava/lang/AbstractStringBuilder;" } : Jvm.MethodName) jdk_68_method_32_code (4 : Nat) (Option.some (Jvm.ClassFile.FieldType.object "java/lang/AbstractStringBuilder"))).before args0 about1 = true := code_word (m := ⟨16, 6⟩) (meth := k16m6) (c := k16c6) (by decide +kernel) rfl rfl rfl (by decide +kernel)
set_option maxRecDepth 65536 in
theorem w_c28 : (Jvm.Cond.code ({ cls := "java/lang/Integer", name := "stringSize", desc := "(I)I" } : Jvm.MethodName) jdk_33_method_13_code (4 : Nat) (Option.some Jvm.ClassFile.FieldType.int)).before args0 about1 = true := code_word (m := ⟨20, 1⟩) (meth := k20m1) (c := k20c1) (by decide +kernel) rfl rfl rfl (by decide +kernel)
set_option maxRecDepth 65536 in
theorem w_c29 : (Jvm.Cond.code ({ cls := "java/lang/AbstractStringBuilder", name := "isLatin1", desc := "()Z" } : Jvm.MethodName) jdk_68_method_68_code (1 : Nat) (Option.some Jvm.ClassFile.FieldType.boolean)).before args0 about1 = true := code_word (m := ⟨16, 8⟩) (meth := k16m8) (c := k16c8) (by decide +kernel) rfl rfl rfl (by decide +kernel)
set_option maxRecDepth 65536 in
theorem w_c30 : (Jvm.Cond.code ({ cls := "java/lang/Integer", name := "getChars", desc := "(II[B)I" } : Jvm.MethodName) jdk_33_method_12_code (7 : Nat) (Option.some Jvm.ClassFile.FieldType.int)).before args0 about1 = true := code_word (m := ⟨20, 0⟩) (meth := k20m0) (c := k20c0) (by decide +kernel) rfl rfl rfl (by decide +kernel)
set_option maxRecDepth 65536 in
theorem w_c31 : (Jvm.Cond.code ({ cls := "java/lang/AbstractStringBuilder", name := "newCapacity", desc := "(I)I" } : Jvm.MethodName) jdk_68_method_10_code (6 : Nat) (Option.some Jvm.ClassFile.FieldType.int)).before args0 about1 = true := code_word (m := ⟨16, 4⟩) (meth := k16m4) (c := k16c4) (by decide +kernel) rfl rfl rfl (by decide +kernel)
set_option maxRecDepth 65536 in
theorem w_c32 : (Jvm.Cond.code ({ cls := "jdk/internal/util/ArraysSupport", name := "newLength", desc := "(III)I" } : Jvm.MethodName) jdk_48_method_27_code (4 : Nat) (Option.some Jvm.ClassFile.FieldType.int)).before args0 about1 = true := code_word (m := ⟨21, 1⟩) (meth := k21m1) (c := k21c1) (by decide +kernel) rfl rfl rfl (by decide +kernel)
set_option maxRecDepth 65536 in
theorem w_c33 : (Jvm.Cond.code ({ cls := "java/lang/Math", name := "max", desc := "(II)I" } : Jvm.MethodName) jdk_29_method_65_code (2 : Nat) (Option.some Jvm.ClassFile.FieldType.int)).before args0 about1 = true := code_word (m := ⟨22, 1⟩) (meth := k22m1) (c := k22c1) (by decide +kernel) rfl rfl rfl (by decide +kernel)
set_option maxRecDepth 65536 in
theorem w_c34 : (Jvm.Cond.code ({ cls := "java/util/Arrays", name := "copyOf", desc := "([BI)[B" } : Jvm.MethodName) jdk_65_method_121_code (3 : Nat) (Option.some (Jvm.ClassFile.FieldType.array Jvm.ClassFile.FieldType.byte))).before args0 about1 = true := code_word (m := ⟨23, 1⟩) (meth := k23m1) (c := k23c1) (by decide +kernel) rfl rfl rfl (by decide +kernel)
set_option maxRecDepth 65536 in
theorem w_c35 : (Jvm.Cond.code ({ cls := "java/lang/Math", name := "min", desc := "(II)I" } : Jvm.MethodName) jdk_29_method_69_code (2 : Nat) (Option.some Jvm.ClassFile.FieldType.int)).before args0 about1 = true := code_word (m := ⟨22, 2⟩) (meth := k22m2) (c := k22c2) (by decide +kernel) rfl rfl rfl (by decide +kernel)
set_option maxRecDepth 65536 in
theorem w_c36 : (Jvm.Cond.code ({ cls := "java/lang/StringBuilder", name := "toString", desc := "()Ljava/lang/String;" } : Jvm.MethodName) jdk_67_method_42_code (1 : Nat) (Option.some (Jvm.ClassFile.FieldType.object "java/lang/String"))).before args0 about1 = true := code_word (m := ⟨17, 3⟩) (meth := k17m3) (c := k17c3) (by decide +kernel) rfl rfl rfl (by decide +kernel)
set_option maxRecDepth 65536 in
theorem w_c37 : (Jvm.Cond.code ({ cls := "java/lang/String", name := "<init>", desc := "(Ljava/lang/StringBuilder;)V" } : Jvm.MethodName) jdk_42_method_53_code (2 : Nat) (Option.none : Option Jvm.ClassFile.FieldType)).before args0 about1 = true := code_word (m := ⟨9, 1⟩) (meth := k9m1) (c := k9c1) (by decide +kernel) rfl rfl rfl (by decide +kernel)
set_option maxRecDepth 65536 in
theorem w_c38 : (Jvm.Cond.code ({ cls := "java/lang/String", name := "<init>", desc := "(Ljava/lang/AbstractStringBuilder;Ljava/lang/Void;)V" } : Jvm.MethodName) jdk_42_method_150_code (5 : Nat) (Option.none : Option Jvm.ClassFile.FieldType)).before args0 about1 = true := code_word (m := ⟨9, 5⟩) (meth := k9m5) (c := k9c5) (by decide +kernel) rfl rfl rfl (by decide +kernel)
set_option maxRecDepth 65536 in
theorem w_c39 : (Jvm.Cond.code ({ cls := "java/lang/AbstractStringBuilder", name := "getValue", desc := "()[B" } : Jvm.MethodName) jdk_68_method_64_code (1 : Nat) (Option.some (Jvm.ClassFile.FieldType.array Jvm.ClassFile.FieldType.byte))).before args0 about1 = true := code_word (m := ⟨16, 7⟩) (meth := k16m7) (c := k16c7) (by decide +kernel) rfl rfl rfl (by decide +kernel)
set_option maxRecDepth 65536 in
theorem w_c40 : (Jvm.Cond.code ({ cls := "java/lang/StringBuilder", name := "length", desc := "()I" } : Jvm.MethodName) jdk_67_method_93_code (1 : Nat) (Option.some Jvm.ClassFile.FieldType.int)).before args0 about1 = true := code_word (m := ⟨17, 4⟩) (meth := k17m4) (c := k17c4) (by decide +kernel) rfl rfl rfl (by decide +kernel)
set_option maxRecDepth 65536 in
theorem w_c41 : (Jvm.Cond.code ({ cls := "java/lang/AbstractStringBuilder", name := "length", desc := "()I" } : Jvm.MethodName) jdk_68_method_6_code (1 : Nat) (Option.some Jvm.ClassFile.FieldType.int)).before args0 about1 = true := code_word (m := ⟨16, 2⟩) (meth := k16m2) (c := k16c2) (by decide +kernel) rfl rfl rfl (by decide +kernel)
set_option maxRecDepth 65536 in
theorem w_c42 : (Jvm.Cond.code ({ cls := "java/util/Arrays", name := "copyOfRange", desc := "([BII)[B" } : Jvm.MethodName) jdk_65_method_132_code (3 : Nat) (Option.some (Jvm.ClassFile.FieldType.array Jvm.ClassFile.FieldType.byte))).before args0 about1 = true := code_word (m := ⟨23, 3⟩) (meth := k23m3) (c := k23c3) (by decide +kernel) rfl rfl rfl (by decide +kernel)
set_option maxRecDepth 65536 in
theorem w_c43 : (Jvm.Cond.code ({ cls := "java/util/Arrays", name := "copyOfRangeByte", desc := "([BII)[B" } : Jvm.MethodName) jdk_65_method_133_code (5 : Nat) (Option.some (Jvm.ClassFile.FieldType.array Jvm.ClassFile.FieldType.byte))).before args0 about1 = true := code_word (m := ⟨23, 4⟩) (meth := k23m4) (c := k23c4) (by decide +kernel) rfl rfl rfl (by decide +kernel)
set_option maxRecDepth 65536 in
theorem w_c44 : (Jvm.Cond.code ({ cls := "java/util/Arrays", name := "checkLength", desc := "(II)V" } : Jvm.MethodName) jdk_65_method_131_code (2 : Nat) (Option.none : Option Jvm.ClassFile.FieldType)).before args0 about1 = true := code_word (m := ⟨23, 2⟩) (meth := k23m2) (c := k23c2) (by decide +kernel) rfl rfl rfl (by decide +kernel)
def codes1 : List Jvm.Cond := [Jvm.Cond.code x code maxLocals ret, Jvm.Cond.code ({ cls := "com/example/formulary/formulary/host/FormulaExceptionHasPlacePinLaw", name := "kindOf", desc := "(I)Lcom/example/formulary/formulary/host/FormulaException$Kind;" } : Jvm.MethodName) method_2_code (2 : Nat) (Option.some (Jvm.ClassFile.FieldType.object "com/example/formulary/formulary/host/FormulaException$Kind")), Jvm.Cond.code ({ cls := "java/lang/String", name := "valueOf", desc := "(C)Ljava/lang/String;" } : Jvm.MethodName) jdk_42_method_139_code (1 : Nat) (Option.some (Jvm.ClassFile.FieldType.object "java/lang/String")), Jvm.Cond.code ({ cls := "java/lang/StringLatin1", name := "canEncode", desc := "(C)Z" } : Jvm.MethodName) jdk_43_method_3_code (1 : Nat) (Option.some Jvm.ClassFile.FieldType.boolean), Jvm.Cond.code ({ cls := "java/lang/StringLatin1", name := "toBytes", desc := "(C)[B" } : Jvm.MethodName) jdk_43_method_46_code (1 : Nat) (Option.some (Jvm.ClassFile.FieldType.array Jvm.ClassFile.FieldType.byte)), Jvm.Cond.code ({ cls := "java/lang/String", name := "<init>", desc := "([BB)V" } : Jvm.MethodName) jdk_42_method_151_code (3 : Nat) (Option.none : Option Jvm.ClassFile.FieldType), Jvm.Cond.code ({ cls := "java/lang/Object", name := "<init>", desc := "()V" } : Jvm.MethodName) object_method_1_code (1 : Nat) (Option.none : Option Jvm.ClassFile.FieldType), Jvm.Cond.code ({ cls := "com/example/formulary/formulary/host/FormulaException", name := "<init>", desc := "(Lcom/example/formulary/formulary/host/FormulaException$Kind;Ljava/lang/String;)V" } : Jvm.MethodName) prog_36_method_2_code (3 : Nat) (Option.none : Option Jvm.ClassFile.FieldType), Jvm.Cond.code ({ cls := "com/example/formulary/formulary/host/FormulaException", name := "<init>", desc := "(Lcom/example/formulary/formulary/host/FormulaException$Kind;Ljava/lang/String;IILjava/lang/String;)V" } : Jvm.MethodName) prog_36_method_3_code (6 : Nat) (Option.none : Option Jvm.ClassFile.FieldType), Jvm.Cond.code ({ cls := "java/lang/RuntimeException", name := "<init>", desc := "(Ljava/lang/String;Ljava/lang/Throwable;ZZ)V" } : Jvm.MethodName) jdk_58_method_5_code (5 : Nat) (Option.none : Option Jvm.ClassFile.FieldType), Jvm.Cond.code ({ cls := "java/lang/Exception", name := "<init>", desc := "(Ljava/lang/String;Ljava/lang/Throwable;ZZ)V" } : Jvm.MethodName) jdk_59_method_5_code (5 : Nat) (Option.none : Option Jvm.ClassFile.FieldType), Jvm.Cond.code ({ cls := "java/lang/Throwable", name := "<init>", desc := "(Ljava/lang/String;Ljava/lang/Throwable;ZZ)V" } : Jvm.MethodName) jdk_78_method_5_code (5 : Nat) (Option.none : Option Jvm.ClassFile.FieldType), Jvm.Cond.code ({ cls := "com/example/formulary/formulary/host/FormulaException", name := "hasPlace", desc := "()Z" } : Jvm.MethodName) prog_36_method_6_code (1 : Nat) (Option.some Jvm.ClassFile.FieldType.boolean), Jvm.Cond.code ({ cls := "com/example/formulary/formulary/host/FormulaException", name := "line", desc := "()I" } : Jvm.MethodName) prog_36_method_7_code (1 : Nat) (Option.some Jvm.ClassFile.FieldType.int), Jvm.Cond.code ({ cls := "com/example/formulary/formulary/host/FormulaException", name := "column", desc := "()I" } : Jvm.MethodName) prog_36_method_8_code (1 : Nat) (Option.some Jvm.ClassFile.FieldType.int), Jvm.Cond.code ({ cls := "com/example/formulary/formulary/host/FormulaException", name := "<init>", desc := "(Lcom/example/formulary/formulary/host/FormulaException$Kind;Ljava/lang/String;II)V" } : Jvm.MethodName) prog_36_method_1_code (5 : Nat) (Option.none : Option Jvm.ClassFile.FieldType), Jvm.Cond.code ({ cls := "java/lang/StringBuilder", name := "<init>", desc := "()V" } : Jvm.MethodName) jdk_67_method_1_code (1 : Nat) (Option.none : Option Jvm.ClassFile.FieldType), Jvm.Cond.code ({ cls := "java/lang/AbstractStringBuilder", name := "<init>", desc := "(I)V" } : Jvm.MethodName) jdk_68_method_2_code (2 : Nat) (Option.none : Option Jvm.ClassFile.FieldType), Jvm.Cond.code ({ cls := "java/lang/StringBuilder", name := "append", desc := "(Ljava/lang/String;)Ljava/lang/StringBuilder;" } : Jvm.MethodName) jdk_67_method_7_code (2 : Nat) (Option.some (Jvm.ClassFile.FieldType.object "java/lang/StringBuilder")), Jvm.Cond.code ({ cls := "java/lang/AbstractStringBuilder", name := "append", desc := "(Ljava/lang/String;)Ljava/lang/AbstractStringBuilder;" } : Jvm.MethodName) jdk_68_method_22_code (3 : Nat) (Option.some (Jvm.ClassFile.FieldType.object "java/lang/AbstractStringBuilder")), Jvm.Cond.code ({ cls := "java/lang/String", name := "length", desc := "()I" } : Jvm.MethodName) jdk_42_method_54_code (1 : Nat) (Option.some Jvm.ClassFile.FieldType.int), Jvm.Cond.code ({ cls := "java/lang/String", name := "coder", desc := "()B" } : Jvm.MethodName) jdk_42_method_152_code (1 : Nat) (Option.some Jvm.ClassFile.FieldType.byte), Jvm.Cond.code ({ cls := "java/lang/AbstractStringBuilder", name := "ensureCapacityInternal", desc := "(I)V" } : Jvm.MethodName) jdk_68_method_9_code (3 : Nat) (Option.none : Option Jvm.ClassFile.FieldType), Jvm.Cond.code ({ cls := "java/lang/AbstractStringBuilder", name := "putStringAt", desc := "(ILjava/lang/String;)V" } : Jvm.MethodName) jdk_68_method_73_code (3 : Nat) (Option.none : Option Jvm.ClassFile.FieldType), Jvm.Cond.code ({ cls := "java/lang/AbstractStringBuilder", name := "inflateIfNeededFor", desc := "(Ljava/lang/String;)V" } : Jvm.MethodName) jdk_68_method_71_code (2 : Nat) (Option.none : Option Jvm.ClassFile.FieldType), Jvm.Cond.code ({ cls := "java/lang/String", name := "getBytes", desc := "([BIB)V" } : Jvm.MethodName) jdk_42_method_147_code (4 : Nat) (Option.none : Option Jvm.ClassFile.FieldType), Jvm.Cond.code ({ cls := "java/lang/StringBuilder", name := "append", desc := "(I)Ljava/lang/StringBuilder;" } : Jvm.MethodName) jdk_67_method_15_code (2 : Nat) (Option.some (Jvm.ClassFile.FieldType.object "java/lang/StringBuilder")), Jvm.Cond.code ({ cls := "java/lang/AbstractStringBuilder", name := "append", desc := "(I)Ljava/lang/AbstractStringBuilder;" } : Jvm.MethodName) jdk_68_method_32_code (4 : Nat) (Option.some (Jvm.ClassFile.FieldType.object "java/lang/AbstractStringBuilder")), Jvm.Cond.code ({ cls := "java/lang/Integer", name := "stringSize", desc := "(I)I" } : Jvm.MethodName) jdk_33_method_13_code (4 : Nat) (Option.some Jvm.ClassFile.FieldType.int), Jvm.Cond.code ({ cls := "java/lang/AbstractStringBuilder", name := "isLatin1", desc := "()Z" } : Jvm.MethodName) jdk_68_method_68_code (1 : Nat) (Option.some Jvm.ClassFile.FieldType.boolean), Jvm.Cond.code ({ cls := "java/lang/Integer", name := "getChars", desc := "(II[B)I" } : Jvm.MethodName) jdk_33_method_12_code (7 : Nat) (Option.some Jvm.ClassFile.FieldType.int), Jvm.Cond.code ({ cls := "java/lang/AbstractStringBuilder", name := "newCapacity", desc := "(I)I" } : Jvm.MethodName) jdk_68_method_10_code (6 : Nat) (Option.some Jvm.ClassFile.FieldType.int), Jvm.Cond.code ({ cls := "jdk/internal/util/ArraysSupport", name := "newLength", desc := "(III)I" } : Jvm.MethodName) jdk_48_method_27_code (4 : Nat) (Option.some Jvm.ClassFile.FieldType.int), Jvm.Cond.code ({ cls := "java/lang/Math", name := "max", desc := "(II)I" } : Jvm.MethodName) jdk_29_method_65_code (2 : Nat) (Option.some Jvm.ClassFile.FieldType.int), Jvm.Cond.code ({ cls := "java/util/Arrays", name := "copyOf", desc := "([BI)[B" } : Jvm.MethodName) jdk_65_method_121_code (3 : Nat) (Option.some (Jvm.ClassFile.FieldType.array Jvm.ClassFile.FieldType.byte)), Jvm.Cond.code ({ cls := "java/lang/Math", name := "min", desc := "(II)I" } : Jvm.MethodName) jdk_29_method_69_code (2 : Nat) (Option.some Jvm.ClassFile.FieldType.int), Jvm.Cond.code ({ cls := "java/lang/StringBuilder", name := "toString", desc := "()Ljava/lang/String;" } : Jvm.MethodName) jdk_67_method_42_code (1 : Nat) (Option.some (Jvm.ClassFile.FieldType.object "java/lang/String")), Jvm.Cond.code ({ cls := "java/lang/String", name := "<init>", desc := "(Ljava/lang/StringBuilder;)V" } : Jvm.MethodName) jdk_42_method_53_code (2 : Nat) (Option.none : Option Jvm.ClassFile.FieldType), Jvm.Cond.code ({ cls := "java/lang/String", name := "<init>", desc := "(Ljava/lang/AbstractStringBuilder;Ljava/lang/Void;)V" } : Jvm.MethodName) jdk_42_method_150_code (5 : Nat) (Option.none : Option Jvm.ClassFile.FieldType), Jvm.Cond.code ({ cls := "java/lang/AbstractStringBuilder", name := "getValue", desc := "()[B" } : Jvm.MethodName) jdk_68_method_64_code (1 : Nat) (Option.some (Jvm.ClassFile.FieldType.array Jvm.ClassFile.FieldType.byte)), Jvm.Cond.code ({ cls := "java/lang/StringBuilder", name := "length", desc := "()I" } : Jvm.MethodName) jdk_67_method_93_code (1 : Nat) (Option.some Jvm.ClassFile.FieldType.int), Jvm.Cond.code ({ cls := "java/lang/AbstractStringBuilder", name := "length", desc := "()I" } : Jvm.MethodName) jdk_68_method_6_code (1 : Nat) (Option.some Jvm.ClassFile.FieldType.int), Jvm.Cond.code ({ cls := "java/util/Arrays", name := "copyOfRange", desc := "([BII)[B" } : Jvm.MethodName) jdk_65_method_132_code (3 : Nat) (Option.some (Jvm.ClassFile.FieldType.array Jvm.ClassFile.FieldType.byte)), Jvm.Cond.code ({ cls := "java/util/Arrays", name := "copyOfRangeByte", desc := "([BII)[B" } : Jvm.MethodName) jdk_65_method_133_code (5 : Nat) (Option.some (Jvm.ClassFile.FieldType.array Jvm.ClassFile.FieldType.byte)), Jvm.Cond.code ({ cls := "java/util/Arrays", name := "checkLength", desc := "(II)V" } : Jvm.MethodName) jdk_65_method_131_code (2 : Nat) (Option.none : Option Jvm.ClassFile.FieldType)]
set_option maxRecDepth 65536 in
theorem codes_eq : words1.filter isCode = codes1 := rfl
theorem w_codes : ∀ c ∈ words1.filter isCode, c.before args0 about1 = true := by
  rw [codes_eq]
  intro c hc
  simp only [codes1, List.mem_cons, List.not_mem_nil, or_false] at hc
  rcases hc with rfl | rfl | rfl | rfl | rfl | rfl | rfl | rfl | rfl | rfl | rfl | rfl | rfl | rfl | rfl | rfl | rfl | rfl | rfl | rfl | rfl | rfl | rfl | rfl | rfl | rfl | rfl | rfl | rfl | rfl | rfl | rfl | rfl | rfl | rfl | rfl | rfl | rfl | rfl | rfl | rfl | rfl | rfl | rfl | rfl
  · exact w_c0
  · exact w_c1
  · exact w_c2
  · exact w_c3
  · exact w_c4
  · exact w_c5
  · exact w_c6
  · exact w_c7
  · exact w_c8
  · exact w_c9
  · exact w_c10
  · exact w_c11
  · exact w_c12
  · exact w_c13
  · exact w_c14
  · exact w_c15
  · exact w_c16
  · exact w_c17
  · exact w_c18
  · exact w_c19
  · exact w_c20
  · exact w_c21
  · exact w_c22
  · exact w_c23
  · exact w_c24
  · exact w_c25
  · exact w_c26
  · exact w_c27
  · exact w_c28
  · exact w_c29
  · exact w_c30
  · exact w_c31
  · exact w_c32
  · exact w_c33
  · exact w_c34
  · exact w_c35
  · exact w_c36
  · exact w_c37
  · exact w_c38
  · exact w_c39
  · exact w_c40
  · exact w_c41
  · exact w_c42
  · exact w_c43
  · exact w_c44
set_option maxRecDepth 65536 in
theorem w_t1 : (words1.take 24).all (fun c => isCode c || c.before args0 about1) = true := by decide +kernel
set_option maxRecDepth 65536 in
theorem w_t2 : ((words1.drop 24).take 24).all (fun c => isCode c || c.before args0 about1) = true := by decide +kernel
set_option maxRecDepth 65536 in
theorem w_t3 : (((words1.drop 24).drop 24).take 24).all (fun c => isCode c || c.before args0 about1) = true := by decide +kernel
set_option maxRecDepth 65536 in
theorem w_t4 : ((((words1.drop 24).drop 24).drop 24).take 24).all (fun c => isCode c || c.before args0 about1) = true := by decide +kernel
set_option maxRecDepth 65536 in
theorem w_t5 : (((((words1.drop 24).drop 24).drop 24).drop 24).take 24).all (fun c => isCode c || c.before args0 about1) = true := by decide +kernel
set_option maxRecDepth 65536 in
theorem w_t6 : ((((((words1.drop 24).drop 24).drop 24).drop 24).drop 24).take 24).all (fun c => isCode c || c.before args0 about1) = true := by decide +kernel
set_option maxRecDepth 65536 in
theorem w_t7 : (((((((words1.drop 24).drop 24).drop 24).drop 24).drop 24).drop 24).take 24).all (fun c => isCode c || c.before args0 about1) = true := by decide +kernel
set_option maxRecDepth 65536 in
theorem w_t8 : ((((((((words1.drop 24).drop 24).drop 24).drop 24).drop 24).drop 24).drop 24).take 24).all (fun c => isCode c || c.before args0 about1) = true := by decide +kernel
set_option maxRecDepth 65536 in
theorem w_t9 : (((((((((words1.drop 24).drop 24).drop 24).drop 24).drop 24).drop 24).drop 24).drop 24).take 24).all (fun c => isCode c || c.before args0 about1) = true := by decide +kernel
set_option maxRecDepth 65536 in
theorem w_t10 : ((((((((((words1.drop 24).drop 24).drop 24).drop 24).drop 24).drop 24).drop 24).drop 24).drop 24).take 24).all (fun c => isCode c || c.before args0 about1) = true := by decide +kernel
set_option maxRecDepth 65536 in
theorem w_t11 : ((((((((((words1.drop 24).drop 24).drop 24).drop 24).drop 24).drop 24).drop 24).drop 24).drop 24).drop 24).all (fun c => isCode c || c.before args0 about1) = true := by decide +kernel
theorem w_tables : (allAtoms (Jvm.Cond.code x code maxLocals ret :: tables_1)).before args0 about1 = true := by
  rw [allAtoms_all]
  show words1.all (fun c => c.before args0 about1) = true
  refine all_split ?_ w_codes
  rw [← List.take_append_drop 24 words1, List.all_append, w_t1, ← List.take_append_drop 24 (words1.drop 24), List.all_append, w_t2, ← List.take_append_drop 24 ((words1.drop 24).drop 24), List.all_append, w_t3, ← List.take_append_drop 24 (((words1.drop 24).drop 24).drop 24), List.all_append, w_t4, ← List.take_append_drop 24 ((((words1.drop 24).drop 24).drop 24).drop 24), List.all_append, w_t5, ← List.take_append_drop 24 (((((words1.drop 24).drop 24).drop 24).drop 24).drop 24), List.all_append, w_t6, ← List.take_append_drop 24 ((((((words1.drop 24).drop 24).drop 24).drop 24).drop 24).drop 24), List.all_append, w_t7, ← List.take_append_drop 24 (((((((words1.drop 24).drop 24).drop 24).drop 24).drop 24).drop 24).drop 24), List.all_append, w_t8, ← List.take_append_drop 24 ((((((((words1.drop 24).drop 24).drop 24).drop 24).drop 24).drop 24).drop 24).drop 24), List.all_append, w_t9, ← List.take_append_drop 24 (((((((((words1.drop 24).drop 24).drop 24).drop 24).drop 24).drop 24).drop 24).drop 24).drop 24), List.all_append, w_t10, w_t11]
  rfl
set_option maxRecDepth 65536 in
theorem w_rest : rest_1_c.before args0 about1 = true := by decide +kernel
set_option maxRecDepth 65536 in
theorem w_case : (Jvm.Cond.and given_1 narrow_1).before args0 about1 = true := by decide +kernel
set_option maxRecDepth 65536 in
theorem w_consts : constsHeld consts_1 about1 := Jvm.Lit.constsHeldB_iff.mp (by decide +kernel)
theorem w_applies : (headSpec (Jvm.Cond.code x code maxLocals ret :: tables_1) room_1).applies x e0.platform about1 = true :=
  (Spec.applies_iff w_frames).mpr ⟨w_running, w_runnable, w_alone, w_named, w_hears, w_ripe, w_room, w_tables⟩
theorem atStart : AtStart classFile x code maxLocals ret World_1 tables_1 room_1 Calls_1 rest_1 Pre_1 launch0 p0 e0 about1 theMethod args0 below0 :=
  ⟨lists_1, trivial, launch0.admits_env _ _ _, launch0.least_env, fairChoices_fair.cas, fairChoices_fair.clock, w_frames, w_args, w_heap, w_applies, ⟨w_consts, trivial⟩, w_rest, w_case⟩
end start1
theorem witness_1 : WitnessClaimed_1 := ⟨start1.p0, start1.e0, start1.about1, start1.theMethod, start1.args0, start1.below0, start1.atStart⟩
end Jvm.Pilot.@@N@@
