import JvmDerived
import JvmDerived.Pilot.@@N@@Statement
import JvmDerived.Pilot.@@N@@Code
set_option linter.unusedVariables false
set_option linter.unusedSimpArgs false
namespace Jvm.RoadKit
open Sem ClassFile Op Lib Jvm.Stand Jvm.Free Jvm.LawKit
section New
variable {p : Program} {l : Launch} {e : Env} {R : Room} {s : State} {m : MethodId} {args : Array Value} {below : List Frame} {meth : Method} {c : Code} {T : State} {locs : List Loc} {cells slots : Nat}
theorem retI (X : Stand p l e R s m args below meth c T locs cells slots) (hx : p.tables.exec = Jvm.exec) {pc : Nat} {Ls : Array Slot} {z : Int32} {rest : List Value} (hret : meth.sig.returnType = some .int) (hd : decode c.code pc = .ok (.ireturn, 1)) {fs : List Frame}
    (hl : ∀ (f : JFrame) (acts : List Action), f.method = m → f.locked = none → f.entered = [] → (doReturn e (T.setTop f) acts (some (.int z))).1 = T.setFrames fs) : Steps p.tables e below (T.setTop (mkF m pc Ls (.int z :: rest))) (T.setFrames fs) :=
  retOut X hx hret rfl (Or.inl ⟨rfl, Or.inl rfl, _, rfl⟩) hd hl
end New
end Jvm.RoadKit
namespace Jvm.RoadKit
open Sem ClassFile Op Lib Jvm.Stand Jvm.Free Jvm.LawKit
theorem own_selOwn {Z : State} {a0 : Array Value} {y : MethodName} {K : String} (hy : y.cls ≠ "java/lang/invoke/MethodHandle" ∧ y.cls ≠ "java/lang/invoke/VarHandle") (hi : (Cond.instanceMethod y).before a0 Z = true) (hp : Z.PrivateAt y) (hs : (Cond.selects K y y).before a0 Z = true) : (Cond.selects y.cls y y).before a0 Z = true := by
  obtain ⟨mk, meth, hn, hm, -, -⟩ := Cond.instanceMethod_spec hi
  obtain ⟨c2, r2, m2, -, q2, q3, -, kP, hkP, hkPi⟩ := Cond.selects_spec hs
  cases hn.symm.trans q3
  have hf := State.methodFound?_of_named hn hy
  have hc := findClass_of_methodNamed hn
  have hsel : selectMethod {} Z.vm mk.cls mk = .method mk := selectMethod_private hm (hp mk meth hn hm)
  simp [Cond.before, Cond.holds, Cond.value, hc, hf, hn, hsel, hkP, hkPi]
theorem own_sameOwn {Z : State} {a0 : Array Value} {y z : MethodName} (hy : y.cls ≠ "java/lang/invoke/MethodHandle" ∧ y.cls ≠ "java/lang/invoke/VarHandle") (hi : (Cond.instanceMethod y).before a0 Z = true) (hz : (Cond.instanceMethod z).before a0 Z = true) (nf : NotFace Z z) (e : z.cls = y.cls) : (Cond.sameMethod y.cls y.cls y.name y.desc).before a0 Z = true := by
  obtain ⟨mk, meth, hn, hm, -, -⟩ := Cond.instanceMethod_spec hi
  obtain ⟨mz, methz, hnz, -, -, -⟩ := Cond.instanceMethod_spec hz
  obtain ⟨kr, hkr, hni⟩ := nf _ hnz
  have hf := State.methodFound?_of_named hn hy
  have hc := findClass_of_methodNamed hn
  have hcz := findClass_of_methodNamed hnz
  rw [e] at hcz
  have ec : mz.cls = mk.cls := Option.some.inj (hcz.symm.trans hc)
  rw [ec] at hkr
  have hn' : Z.methodNamed? ⟨y.cls, y.name, y.desc⟩ = some mk := hn
  simp [Cond.before, Cond.holds, Cond.value, hc, hf, hn', hkr, hni]
section Own
variable {p : Program} {l : Launch} {e : Env} {R : Room} {s : State} {m : MethodId} {args : Array Value} {below : List Frame} {meth : Method} {c : Code} {T : State} {locs : List Loc} {cells slots : Nat} {Z : State} {h : Heap} {a b : Addr} {k : ClassId} {z : Int32}
theorem own_shr0 (x : Int32) : x >>> ((0 : Int32) &&& 31) = x := by
  have q := c_ishr x 0 0 (by decide)
  apply Int32.toInt_inj.mp
  omega
theorem own_shl0 (x : Int32) : x <<< ((0 : Int32) &&& 31) = x := by
  have q := c_ishl x 0 0 (by decide)
  have r := rng32 x
  have r2 := rng32 (x <<< ((0 : Int32) &&& 31))
  simp only [Nat.pow_zero] at q
  apply Int32.toInt_inj.mp
  omega
theorem own_getD_app (xs ys : List Value) (d : Value) (i : Nat) : (xs ++ ys).getD i d = if i < xs.length then xs.getD i d else ys.getD (i - xs.length) d := by
  simp only [List.getD_eq_getElem?_getD]
  split
  · rw [List.getElem?_append_left ‹_›]
  · rw [List.getElem?_append_right (by omega)]
theorem own_cpl (cs bs : List Value) (d : Value) (n : Nat) (hb : bs.length ≤ n) (i : Nat) :
    (cs ++ bs).getD i d = ((cs ++ List.replicate n d).take cs.length ++ (List.range n).map (fun i => bs.getD (0 + i) d) ++ (cs ++ List.replicate n d).drop (cs.length + n)).getD i d := by
  have e1 : (cs ++ List.replicate n d).take cs.length = cs := by simp
  have e2 : (cs ++ List.replicate n d).drop (cs.length + n) = [] := by simp
  rw [e1, e2, List.append_nil, own_getD_app, own_getD_app]
  split
  · rfl
  · generalize i - cs.length = j
    simp only [List.getD_eq_getElem?_getD, List.getElem?_map, Nat.zero_add]
    by_cases hj : j < n
    · rw [List.getElem?_range hj]; simp
    · rw [List.getElem?_eq_none (by omega : bs.length ≤ j), List.getElem?_eq_none (by simp; omega)]; simp
theorem cpB (X : Stand p l e R s m args below meth c T locs cells slots) (hx : p.tables.exec = Jvm.exec) (hZ : Z.Warmed39 s.vm) {a0 : Array Value} {own : String} {index : Nat} (hown : s.vm.findClass own = some m.cls)
    (w1 : (Cond.methodLink own index Jvm.Stand.acN).before a0 Z = true) (w2 : (Cond.native Jvm.Stand.acN).before a0 Z = true) (w3 : (Cond.static Jvm.Stand.acN).before a0 Z = true) (w4 : (Cond.initialized "java/lang/System").before a0 Z = true) (eT : T.heap = h)
    {k' : ClassId} {z' dp nn : Int32} {bs cs : List Value} {d : Value} (A : Arv Z h a k .byte z bs d) (B : Arv Z h b k' .byte z' cs d)
    (h2 : ¬ dp < 0) (h3 : ¬ nn < 0) (hdp : dp.toNatClampNeg = cs.length) (hnn : bs.length ≤ nn.toNatClampNeg) (h4 : nn.toNatClampNeg ≤ z.toNatClampNeg) (h5 : cs.length + nn.toNatClampNeg ≤ z'.toNatClampNeg) {n0 : Nat} (N : Fr n0 locs) (ge : n0 ≤ b)
    {g : JFrame} (hg : g.method = m) (hsize : g.locals.size = c.maxLocals) {rest : List Value} (hs : g.stack = .int nn :: .int dp :: .ref b :: .int (0 : Int32) :: .ref a :: rest) (hd : decode c.code g.pc = .ok (.invokestatic index, 3))
    (hf : 1 ≤ R.frames) {W : Nat} (hW : 2 * g.monitorRoom + (rest.map fun v => v.category).sum ≤ W) (hlo : W + (nativeFrameWords "java/lang/System" "arraycopy" 5 + 11) ≤ R.locals) :
    ∃ T' h' L, Stand p l e R s m args below meth c T' L cells slots ∧ T'.heap = h' ∧ Fr n0 L ∧ Keep h h' [b] ∧ Arv Z h' b k' .byte z' (cs ++ bs) d ∧
      ∀ target, Steps p.tables e below (T'.setTop { g with pc := g.pc + 3, stack := rest }) target → Steps p.tables e below (T.setTop g) target := by
  obtain ⟨T', h', L, X', e', N', K', V', st⟩ := cpA X hx hZ hown w1 w2 w3 w4 eT A (B.pad (vs' := cs ++ List.replicate nn.toNatClampNeg d) (pad_rep cs d _)) (Or.inl ⟨rfl, rfl⟩) (sp := 0) (by decide) h2 h3 (by rw [show (0 : Int32).toNatClampNeg = 0 from rfl]; omega) (by rw [hdp]; exact h5) rfl (by rw [hdp]; simp) N ge hg hsize hs hd hf hW hlo
  refine ⟨T', h', L, X', e', N', K', V'.pad (fun i => ?_), st⟩
  rw [hdp]
  exact own_cpl cs bs d _ hnn i
theorem own_nilr (F : Arv Z h a k .byte z (cs ++ []) d) : Arv Z h a k .byte z cs d := by rw [List.append_nil] at F; exact F
theorem own_nf {s : State} {a0 : Array Value} {y z : MethodName} (hz : (Cond.instanceMethod z).before a0 s = true) (nf : NotFace s z) (e : z.cls = y.cls) : NotFace s y := fun r0 h0 => by
  obtain ⟨mz, methz, hnz, -, -, -⟩ := Cond.instanceMethod_spec hz
  obtain ⟨kr, hkr, hni⟩ := nf _ hnz
  have hc := findClass_of_methodNamed h0
  have hcz := findClass_of_methodNamed hnz
  rw [e] at hcz
  have ec : mz.cls = r0.cls := Option.some.inj (hcz.symm.trans hc)
  exact ⟨kr, ec ▸ hkr, hni⟩
theorem own_snoc (cs : List Value) (d v : Value) : (cs ++ [d]).set cs.length v = cs ++ [v] := by simp
theorem own_sub0 (x : Int32) : x - (0 : Int32) = x := by simp
end Own
end Jvm.RoadKit
/- laws to paste: Road.backV, Road.eqW, Road.codOf (cut by pick.py; bodies as the Statement names them) -/
namespace Jvm.Pilot.@@N@@
namespace StrChars
open Jvm Sem ClassFile Op Lib Jvm.Stand Jvm.Free.XT Jvm.Free.ALB Jvm.Free.JM Jvm.Free
open Jvm.Lib.Cold (StaticIs)
/-- a char array whose places are chars -/
def Ch (a : Addr) (A : Cell) (U : State) : Prop := Arr .char a A U ∧ Typed .char A
theorem Ch.mv {a : Addr} {A : Cell} {U U' : State} (h : Ch a A U) (hal : U.vm.Alike U'.vm) (hh : U'.heap = U.heap) : Ch a A U' := ⟨h.1.mv hal hh, h.2⟩
theorem Ch.keep {a : Addr} {A : Cell} {U U' : State} (h : Ch a A U) (hal : U.vm.Alike U'.vm) (hk : U'.heap[a]? = some A) : Ch a A U' := ⟨h.1.keep hal hk, h.2⟩
/-- what place i of a char[]'s cell holds -/
def cv (A : Cell) (i : Nat) : Int32 := match A.slots[i]? with | some (.int x) => x | _ => 0
theorem Ch.get {a : Addr} {A : Cell} {U : State} (h : Ch a A U) {i : Nat} (hi : i < A.slots.size) : A.slots[i]? = some (.int (cv A i)) := by
  have e := Array.getElem?_eq_getElem hi
  have f := h.2 i _ e
  unfold cv; rw [e]
  generalize A.slots[i] = v at f
  cases v <;> simp [fits] at f ⊢
/-- the byte that i2b leaves of a char -/
def lo8 (x : Int32) : Int32 := x.toInt8.toInt32
theorem fits_lo8 (y : Int32) : fits .byte (.int (lo8 y)) = true := by
  have h1 := y.toInt8.le_toInt
  have h2 := y.toInt8.toInt_lt
  simp only [lo8, fits, Bool.and_eq_true, decide_eq_true_eq, Int32.le_iff_toInt_le, Int8.toInt_toInt32, show (-128 : Int32).toInt = -128 from by decide, show (127 : Int32).toInt = 127 from by decide]
  omega
/-- A' is A but that each place j of lo .. hi - 1 holds f j -/
def Laid (A A' : Cell) (lo hi : Nat) (f : Nat → Value) : Prop := A'.cls = A.cls ∧ A'.vm = A.vm ∧ A'.slots.size = A.slots.size ∧ ∀ i, A'.slots[i]? = if lo ≤ i ∧ i < hi then some (f i) else A.slots[i]?
theorem Laid.zero (A : Cell) (lo : Nat) (f : Nat → Value) : Laid A A lo (lo + 0) f := ⟨rfl, rfl, rfl, fun i => by rw [if_neg (by omega)]⟩
theorem Laid.step {A Ak : Cell} {lo k : Nat} {f : Nat → Value} {v : Value} (h : Laid A Ak lo k f) (hlo : lo ≤ k) (hk : k < Ak.slots.size) (hv : v = f k) : Laid A (Ak.setSlot k v) lo (k + 1) f := by
  refine ⟨h.1, h.2.1, by simpa [Cell.setSlot] using h.2.2.1, fun i => ?_⟩
  by_cases e : k = i
  · subst e; rw [Cell.slots_setSlot_self v hk, if_pos (by omega), hv]
  · rw [Cell.slots_setSlot_ne v e, h.2.2.2 i]
    by_cases q : lo ≤ i ∧ i < k
    · rw [if_pos q, if_pos (by omega)]
    · rw [if_neg q, if_neg (by omega)]
def U16 : String := "java/lang/StringUTF16"
namespace Cmp5
def yN : MethodName := ⟨"java/lang/StringUTF16", "compress", "([CI[BII)I"⟩
abbrev yB : ByteArray := jdk_52_method_21_code
theorem d0 : decode yB 0 = .ok (.iconst 0, 1) := by decide +kernel
theorem d1 : decode yB 1 = .ok (.istore 5, 2) := by decide +kernel
theorem d3 : decode yB 3 = .ok (.iload 5, 2) := by decide +kernel
theorem d5 : decode yB 5 = .ok (.iload 4, 2) := by decide +kernel
theorem d7 : decode yB 7 = .ok (.if_icmp (.ge) 37, 3) := by decide +kernel
theorem d10 : decode yB 10 = .ok (.aload_n 0, 1) := by decide +kernel
theorem d11 : decode yB 11 = .ok (.iload_n 1, 1) := by decide +kernel
theorem d12 : decode yB 12 = .ok (.caload, 1) := by decide +kernel
theorem d13 : decode yB 13 = .ok (.istore 6, 2) := by decide +kernel
theorem d15 : decode yB 15 = .ok (.iload 6, 2) := by decide +kernel
theorem d17 : decode yB 17 = .ok (.sipush 255, 3) := by decide +kernel
theorem d20 : decode yB 20 = .ok (.if_icmp (.le) 6, 3) := by decide +kernel
theorem d26 : decode yB 26 = .ok (.aload_n 2, 1) := by decide +kernel
theorem d27 : decode yB 27 = .ok (.iload_n 3, 1) := by decide +kernel
theorem d28 : decode yB 28 = .ok (.iload 6, 2) := by decide +kernel
theorem d30 : decode yB 30 = .ok (.i2b, 1) := by decide +kernel
theorem d31 : decode yB 31 = .ok (.bastore, 1) := by decide +kernel
theorem d32 : decode yB 32 = .ok (.iinc 1 1, 3) := by decide +kernel
theorem d35 : decode yB 35 = .ok (.iinc 3 1, 3) := by decide +kernel
theorem d38 : decode yB 38 = .ok (.iinc 5 1, 3) := by decide +kernel
theorem d41 : decode yB 41 = .ok (.goto (-38), 3) := by decide +kernel
theorem d44 : decode yB 44 = .ok (.iload 4, 2) := by decide +kernel
theorem d46 : decode yB 46 = .ok (.ireturn, 1) := by decide +kernel
def site : List Cond := []
def tab : Cond := tabOf yN yB 7 (some .int) site
def P (b : Addr) (A : Cell) (d : Addr) (B : Cell) (o q len : Nat) (args : Array Value) (s : State) : Prop := args = #[.ref b, .int (Int32.ofNat o), .ref d, .int (Int32.ofNat q), .int (Int32.ofNat len)] ∧ Ch b A s ∧ Arr .byte d B s ∧ b ≠ d ∧ o + len ≤ A.slots.size ∧ q + len ≤ B.slots.size ∧ ∀ i, i < len → ¬ 255 < cv A (o + i)
def E (b : Addr) (A : Cell) (d : Addr) (B : Cell) (o q len : Nat) (r : Option Value) (s u : State) : Prop := r = some (.int (Int32.ofNat len)) ∧ ∃ B', Put d B' s u ∧ Laid B B' q (q + len) (fun j => Value.int (lo8 (cv A (o + (j - q)))))
/-- no char of the range above 255: len; the places written hold each char's low byte -/
theorem law (l : Launch) (b : Addr) (A : Cell) (d : Addr) (B : Cell) (o q len : Nat) : Law l yN 5 5 0 0 yB 7 (some .int) site (P b A d B o q len) (E b A d B o q len) (copyLocs d q len) 0 0 := by
  refine Law.of_walk (plainFor_of_name (by decide +kernel)) (by decide +kernel) (by decide +kernel) (by decide) (fun _ _ h => by rw [h.1]; rfl) (fun _ U U' hal hh h => ⟨h.1, h.2.1.mv hal hh, h.2.2.1.mv hal hh, h.2.2.2⟩) (fun r U U' V V' h1 hal h2 h => ⟨h.1, h.2.elim fun B' q => ⟨B', q.1.mv h1 h2, q.2⟩⟩) ?_
  intro p e s m args below meth c s₁ X0 hexec hbytes hml hret hlk hnm hown hh0 W hP
  obtain ⟨rfl, hA, hB, hne, l1, l2, hp⟩ := hP
  have c1 : Steps p.tables e below (s₁.setTop (entryFrame m #[.ref b, .int (Int32.ofNat o), .ref d, .int (Int32.ofNat q), .int (Int32.ofNat len)] 7)) (s₁.setTop (mkF m 0 #[.val (.ref b), .val (.int (Int32.ofNat o)), .val (.ref d), .val (.int (Int32.ofNat q)), .val (.int (Int32.ofNat len)), .unset, .unset] [])) := entry rfl
  have hA0 := hA.1.mv X0.warmed.alike hh0
  have hB0 := hB.mv X0.warmed.alike hh0
  have a31 := hA.1.2.2.2
  have c2 : Steps p.tables e below (s₁.setTop (entryFrame m #[.ref b, .int (Int32.ofNat o), .ref d, .int (Int32.ofNat q), .int (Int32.ofNat len)] 7)) (s₁.setTop (mkF m 3 #[.val (.ref b), .val (.int (Int32.ofNat o)), .val (.ref d), .val (.int (Int32.ofNat q)), .val (.int (Int32.ofNat len)), .val (.int 0), .unset] [])) := c1.trans (by
    refine iconstV X0.here hexec rfl 0 (hb hbytes d0) (by decide) ?_
    refine XS.istore X0.here hexec rfl (hb hbytes d1) rfl rfl ?_
    exact Steps.refl _)
  have loop : ∀ (r i : Nat), i + r = len → ∀ (z : Slot), (z = .unset ∨ ∃ w, z = .val w ∧ w.category = 1) → ∀ (Tl : State) (Bk : Cell), Stand p l e { frames := 0, locals := 0, cells := 0, slots := 0 } s m #[.ref b, .int (Int32.ofNat o), .ref d, .int (Int32.ofNat q), .int (Int32.ofNat len)] below meth c Tl ([] ++ copyLocs d q i) 0 0 → Put d Bk s₁ Tl → Laid B Bk q (q + i) (fun j => Value.int (lo8 (cv A (o + (j - q))))) →
      Steps p.tables e below (s₁.setTop (entryFrame m #[.ref b, .int (Int32.ofNat o), .ref d, .int (Int32.ofNat q), .int (Int32.ofNat len)] 7)) (Tl.setTop (mkF m 3 #[.val (.ref b), .val (.int (Int32.ofNat (o + i))), .val (.ref d), .val (.int (Int32.ofNat (q + i))), .val (.int (Int32.ofNat len)), .val (.int (Int32.ofNat i)), z] [])) → ∃ (T' : State) (B' : Cell) (z' : Slot), Stand p l e { frames := 0, locals := 0, cells := 0, slots := 0 } s m #[.ref b, .int (Int32.ofNat o), .ref d, .int (Int32.ofNat q), .int (Int32.ofNat len)] below meth c T' ([] ++ copyLocs d q len) 0 0 ∧ Put d B' s₁ T' ∧ Laid B B' q (q + len) (fun j => Value.int (lo8 (cv A (o + (j - q))))) ∧
      Steps p.tables e below (s₁.setTop (entryFrame m #[.ref b, .int (Int32.ofNat o), .ref d, .int (Int32.ofNat q), .int (Int32.ofNat len)] 7)) (T'.setTop (mkF m 3 #[.val (.ref b), .val (.int (Int32.ofNat (o + len))), .val (.ref d), .val (.int (Int32.ofNat (q + len))), .val (.int (Int32.ofNat len)), .val (.int (Int32.ofNat len)), z'] [])) := by
    intro r
    induction r with
    | zero =>
      intro i hi z hz Tl Bk Xl pl fl cl
      have hil : i = len := by omega
      rw [hil] at Xl fl cl
      exact ⟨Tl, Bk, z, Xl, pl, fl, cl⟩
    | succ r ih =>
      intro i hi z hz Tl Bk Xl pl fl cl
      have all := X0.warmed.alike.symm.trans Xl.warmed.alike
      have hAl := hA0.keep all (pl.other hne hA0.1)
      have hBk := hB0.like all pl.1 fl.1 fl.2.1 fl.2.2.1
      have hlt : q + i < Bk.slots.size := by rw [fl.2.2.1]; omega
      have c3 : Steps p.tables e below (s₁.setTop (entryFrame m #[.ref b, .int (Int32.ofNat o), .ref d, .int (Int32.ofNat q), .int (Int32.ofNat len)] 7)) (Tl.setTop (mkF m 12 #[.val (.ref b), .val (.int (Int32.ofNat (o + i))), .val (.ref d), .val (.int (Int32.ofNat (q + i))), .val (.int (Int32.ofNat len)), .val (.int (Int32.ofNat i)), z] [.int (Int32.ofNat (o + i)), .ref b])) := cl.trans (by
        refine XS.iload Xl.here hexec rfl (hb hbytes d3) rfl ?_
        refine XS.iload Xl.here hexec rfl (hb hbytes d5) rfl ?_
        refine XS.icmpNo Xl.here hexec rfl (hb hbytes d7) rfl (ii_ge_f (lt32 (by omega) (by omega))) ?_
        refine XS.aloadN Xl.here hexec rfl (hb hbytes d10) rfl rfl ?_
        refine XS.iloadN Xl.here hexec rfl (hb hbytes d11) rfl ?_
        exact Steps.refl _)
      have c4 : Steps p.tables e below (s₁.setTop (entryFrame m #[.ref b, .int (Int32.ofNat o), .ref d, .int (Int32.ofNat q), .int (Int32.ofNat len)] 7)) (Tl.setTop (mkF m 13 #[.val (.ref b), .val (.int (Int32.ofNat (o + i))), .val (.ref d), .val (.int (Int32.ofNat (q + i))), .val (.int (Int32.ofNat len)), .val (.int (Int32.ofNat i)), z] [.int (cv A (o + i))])) := c3.trans (by
        refine Xl.aget hexec hAl rfl (hA.get (i := o + i) (by omega)) rfl rfl (hb hbytes d12) ?_
        exact Steps.refl _)
      have c5 : Steps p.tables e below (s₁.setTop (entryFrame m #[.ref b, .int (Int32.ofNat o), .ref d, .int (Int32.ofNat q), .int (Int32.ofNat len)] 7)) (Tl.setTop (mkF m 15 #[.val (.ref b), .val (.int (Int32.ofNat (o + i))), .val (.ref d), .val (.int (Int32.ofNat (q + i))), .val (.int (Int32.ofNat len)), .val (.int (Int32.ofNat i)), .val (.int (cv A (o + i)))] [])) := c4.trans (by
        refine XS.istoreS Xl.here hexec rfl (hb hbytes d13) rfl rfl hz ?_
        exact Steps.refl _)
      have c6 : Steps p.tables e below (s₁.setTop (entryFrame m #[.ref b, .int (Int32.ofNat o), .ref d, .int (Int32.ofNat q), .int (Int32.ofNat len)] 7)) (Tl.setTop (mkF m 31 #[.val (.ref b), .val (.int (Int32.ofNat (o + i))), .val (.ref d), .val (.int (Int32.ofNat (q + i))), .val (.int (Int32.ofNat len)), .val (.int (Int32.ofNat i)), .val (.int (cv A (o + i)))] [.int (lo8 (cv A (o + i))), .int (Int32.ofNat (q + i)), .ref d])) := c5.trans (by
        refine XS.iload Xl.here hexec rfl (hb hbytes d15) rfl ?_
        refine sipushV Xl.here hexec rfl 255 (hb hbytes d17) (by decide) ?_
        refine XS.icmpYes Xl.here hexec rfl (pc0 := 20) rfl (hb hbytes d20) rfl (ii_le_t (hp i (by omega))) (by decide) rfl ?_
        refine XS.aloadN Xl.here hexec rfl (hb hbytes d26) rfl rfl ?_
        refine XS.iloadN Xl.here hexec rfl (hb hbytes d27) rfl ?_
        refine XS.iload Xl.here hexec rfl (hb hbytes d28) rfl ?_
        refine i2b Xl.here hexec rfl (hb hbytes d30) rfl ?_
        exact Steps.refl _)
      obtain ⟨T7, X7, p7, st7⟩ := Xl.aput hexec hBk rfl hlt rfl (fits_lo8 (cv A (o + i))) (g := (mkF m 31 #[.val (.ref b), .val (.int (Int32.ofNat (o + i))), .val (.ref d), .val (.int (Int32.ofNat (q + i))), .val (.int (Int32.ofNat len)), .val (.int (Int32.ofNat i)), .val (.int (cv A (o + i)))] [.int (lo8 (cv A (o + i))), .int (Int32.ofNat (q + i)), .ref d])) rfl (rest := []) rfl (hb hbytes d31)
      have c8 : Steps p.tables e below (s₁.setTop (entryFrame m #[.ref b, .int (Int32.ofNat o), .ref d, .int (Int32.ofNat q), .int (Int32.ofNat len)] 7)) (T7.setTop (mkF m 32 #[.val (.ref b), .val (.int (Int32.ofNat (o + i))), .val (.ref d), .val (.int (Int32.ofNat (q + i))), .val (.int (Int32.ofNat len)), .val (.int (Int32.ofNat i)), .val (.int (cv A (o + i)))] [])) := c6.trans (st7 _ (Steps.refl _))
      have c9 : Steps p.tables e below (s₁.setTop (entryFrame m #[.ref b, .int (Int32.ofNat o), .ref d, .int (Int32.ofNat q), .int (Int32.ofNat len)] 7)) (T7.setTop (mkF m 3 #[.val (.ref b), .val (.int (Int32.ofNat (o + i) + 1)), .val (.ref d), .val (.int (Int32.ofNat (q + i) + 1)), .val (.int (Int32.ofNat len)), .val (.int (Int32.ofNat i + 1)), .val (.int (cv A (o + i)))] [])) := c8.trans (by
        refine iincV X7.here hexec rfl 1 (hb hbytes d32) (by decide) rfl rfl ?_
        refine iincV X7.here hexec rfl 1 (hb hbytes d35) (by decide) rfl rfl ?_
        refine iincV X7.here hexec rfl 1 (hb hbytes d38) (by decide) rfl rfl ?_
        refine XS.goto X7.here hexec rfl (pc0 := 41) rfl (hb hbytes d41) (by decide) rfl ?_
        exact Steps.refl _)
      have c10 : Steps p.tables e below (s₁.setTop (entryFrame m #[.ref b, .int (Int32.ofNat o), .ref d, .int (Int32.ofNat q), .int (Int32.ofNat len)] 7)) (T7.setTop (mkF m 3 #[.val (.ref b), .val (.int (Int32.ofNat (o + (i + 1)))), .val (.ref d), .val (.int (Int32.ofNat (q + (i + 1)))), .val (.int (Int32.ofNat len)), .val (.int (Int32.ofNat (i + 1))), .val (.int (cv A (o + i)))] [])) := by
        have := c9
        rw [succ32, succ32, succ32] at this
        exact this
      exact ih (i + 1) (by omega) _ (Or.inr ⟨_, rfl, rfl⟩) T7 _ (by rw [copyLocs_step, ← List.append_assoc]; exact X7) (pl.trans p7) (fl.step (by omega) hlt (by simp)) c10
  obtain ⟨T9, B9, z9, X9, p9, f9, g9⟩ := loop len 0 (by omega) .unset (Or.inl rfl) s₁ B (by simpa [copyLocs] using X0) ⟨hB0.1, fun _ _ => rfl, rfl⟩ (Laid.zero _ _ _) c2
  have c11 : Steps p.tables e below (s₁.setTop (entryFrame m #[.ref b, .int (Int32.ofNat o), .ref d, .int (Int32.ofNat q), .int (Int32.ofNat len)] 7)) (T9.setTop (mkF m 46 #[.val (.ref b), .val (.int (Int32.ofNat (o + len))), .val (.ref d), .val (.int (Int32.ofNat (q + len))), .val (.int (Int32.ofNat len)), .val (.int (Int32.ofNat len)), z9] [.int (Int32.ofNat len)])) := g9.trans (by
    refine XS.iload X9.here hexec rfl (hb hbytes d3) rfl ?_
    refine XS.iload X9.here hexec rfl (hb hbytes d5) rfl ?_
    refine XS.icmpYes X9.here hexec rfl (pc0 := 7) rfl (hb hbytes d7) rfl (ii_ge_t (nlt32 (by omega) (Nat.le_refl _))) (by decide) rfl ?_
    refine XS.iload X9.here hexec rfl (hb hbytes d44) rfl ?_
    exact Steps.refl _)
  exact ⟨T9, some (.int (Int32.ofNat len)), _, _, _, X9, by simp, rfl, rfl, (fun h => by cases h), ⟨rfl, B9, p9.from hh0, f9⟩, fun fs hl => c11.trans (X9.ireturnOut hexec hret rfl (Or.inl rfl) (hb hbytes d46) hl)⟩
end Cmp5
namespace Cmp3
def yN : MethodName := ⟨"java/lang/StringUTF16", "compress", "([CII)[B"⟩
abbrev yB : ByteArray := jdk_52_method_16_code
theorem d0 : decode yB 0 = .ok (.iload_n 2, 1) := by decide +kernel
theorem d1 : decode yB 1 = .ok (.newarray .byte, 2) := by decide +kernel
theorem d3 : decode yB 3 = .ok (.astore_n 3, 1) := by decide +kernel
theorem d4 : decode yB 4 = .ok (.aload_n 0, 1) := by decide +kernel
theorem d5 : decode yB 5 = .ok (.iload_n 1, 1) := by decide +kernel
theorem d6 : decode yB 6 = .ok (.aload_n 3, 1) := by decide +kernel
theorem d7 : decode yB 7 = .ok (.iconst 0, 1) := by decide +kernel
theorem d8 : decode yB 8 = .ok (.iload_n 2, 1) := by decide +kernel
theorem d9 : decode yB 9 = .ok (.invokestatic 115, 3) := by decide +kernel
theorem d12 : decode yB 12 = .ok (.istore 4, 2) := by decide +kernel
theorem d14 : decode yB 14 = .ok (.iload 4, 2) := by decide +kernel
theorem d16 : decode yB 16 = .ok (.iload_n 2, 1) := by decide +kernel
theorem d17 : decode yB 17 = .ok (.if_icmp (.eq) 40, 3) := by decide +kernel
theorem d57 : decode yB 57 = .ok (.aload_n 3, 1) := by decide +kernel
theorem d58 : decode yB 58 = .ok (.areturn, 1) := by decide +kernel
def site : List Cond := [.arrayClass .byte, Cmp5.tab] ++ staticW U16 115 Cmp5.yN
def tab : Cond := tabOf yN yB 6 (some (.array .byte)) site
def P (b : Addr) (A : Cell) (o len : Nat) (args : Array Value) (s : State) : Prop := args = #[.ref b, .int (Int32.ofNat o), .int (Int32.ofNat len)] ∧ Ch b A s ∧ o + len ≤ A.slots.size ∧ len ≤ 536870912 ∧ ∀ i, i < len → ¬ 255 < cv A (o + i)
def E (b : Addr) (A : Cell) (o len : Nat) (r : Option Value) (s u : State) : Prop := NewArr .byte "[B" len (fun j => .int (lo8 (cv A (o + j)))) r s u ∧ u.heap.size = s.heap.size + 1
/-- no char of the range above 255: a new byte[] of their low bytes -/
theorem law (l : Launch) (b : Addr) (A : Cell) (o len : Nat) : Law l yN 3 3 1 18 yB 6 (some (.array .byte)) site (P b A o len) (E b A o len) [] 1 len := by
  refine Law.of_walk (plainFor_of_name (by decide +kernel)) (by decide +kernel) (by decide +kernel) (by decide) (fun _ _ h => by rw [h.1]; rfl) (fun _ U U' hal hh h => ⟨h.1, h.2.1.mv hal hh, h.2.2⟩) (fun r U U' V V' h1 hal h2 h => ⟨NewArr.mv r U U' V V' h1 hal h2 h.1, by rw [h1, h2]; exact h.2⟩) ?_
  intro p e s m args below meth c s₁ X0 hexec hbytes hml hret hlk hnm hown hh0 W hP
  obtain ⟨rfl, hA, l1, l2, hp⟩ := hP
  have a31 := hA.1.2.2.2
  have c1 : Steps p.tables e below (s₁.setTop (entryFrame m #[.ref b, .int (Int32.ofNat o), .int (Int32.ofNat len)] 6)) (s₁.setTop (mkF m 0 #[.val (.ref b), .val (.int (Int32.ofNat o)), .val (.int (Int32.ofNat len)), .unset, .unset, .unset] [])) := entry rfl
  have c2 : Steps p.tables e below (s₁.setTop (entryFrame m #[.ref b, .int (Int32.ofNat o), .int (Int32.ofNat len)] 6)) (s₁.setTop (mkF m 1 #[.val (.ref b), .val (.int (Int32.ofNat o)), .val (.int (Int32.ofNat len)), .unset, .unset, .unset] [.int (Int32.ofNat len)])) := c1.trans (by
    refine XS.iloadN X0.here hexec rfl (hb hbytes d0) rfl ?_
    exact Steps.refl _)
  obtain ⟨T3, B3, X3, ba3, bs3, bv3, bh3, bf3, st3⟩ := X0.anew hexec (atype := .byte) (wk W (.arrayClass .byte)) rfl (by show len * 1 ≤ _; omega) (by omega) (g := (mkF m 1 #[.val (.ref b), .val (.int (Int32.ofNat o)), .val (.int (Int32.ofNat len)), .unset, .unset, .unset] [.int (Int32.ofNat len)])) rfl (hb hbytes d1) (rest := []) rfl (Nat.le_refl _) (by show 0 + len ≤ len; omega)
  rw [hh0] at ba3 st3
  have kp3 : XT.Kept s T3 := (XT.Kept.of_eq hh0).push bh3
  have hA3 := hA.keep X3.warmed.alike (kp3 _ _ hA.1.1)
  have hne : b ≠ s.heap.size := hA.1.ne
  have c4 : Steps p.tables e below (s₁.setTop (entryFrame m #[.ref b, .int (Int32.ofNat o), .int (Int32.ofNat len)] 6)) (T3.setTop (mkF m 3 #[.val (.ref b), .val (.int (Int32.ofNat o)), .val (.int (Int32.ofNat len)), .unset, .unset, .unset] [.ref s.heap.size])) := c2.trans (st3 _ (Steps.refl _))
  have c5 : Steps p.tables e below (s₁.setTop (entryFrame m #[.ref b, .int (Int32.ofNat o), .int (Int32.ofNat len)] 6)) (T3.setTop (mkF m 9 #[.val (.ref b), .val (.int (Int32.ofNat o)), .val (.int (Int32.ofNat len)), .val (.ref s.heap.size), .unset, .unset] [.int (Int32.ofNat len), .int 0, .ref s.heap.size, .int (Int32.ofNat o), .ref b])) := c4.trans (by
    refine XS.astoreN X3.here hexec rfl (hb hbytes d3) rfl rfl rfl ?_
    refine XS.aloadN X3.here hexec rfl (hb hbytes d4) rfl rfl ?_
    refine XS.iloadN X3.here hexec rfl (hb hbytes d5) rfl ?_
    refine XS.aloadN X3.here hexec rfl (hb hbytes d6) rfl rfl ?_
    refine iconstV X3.here hexec rfl 0 (hb hbytes d7) (by decide) ?_
    refine XS.iloadN X3.here hexec rfl (hb hbytes d8) rfl ?_
    exact Steps.refl _)
  obtain ⟨v6, T6, X6, E6, g6⟩ := X3.callS hexec (Cmp5.law l b A s.heap.size B3 o 0 len) hown (wks W (staticW U16 115 Cmp5.yN)) (wk W Cmp5.tab) (W := 0) (Nat.le_of_ble_eq_true rfl) (Nat.le_of_ble_eq_true rfl) (Nat.le_refl _) (by show 0 + len + 0 ≤ len; omega) (g := (mkF m 9 #[.val (.ref b), .val (.int (Int32.ofNat o)), .val (.int (Int32.ofNat len)), .val (.ref s.heap.size), .unset, .unset] [.int (Int32.ofNat len), .int (Int32.ofNat 0), .ref s.heap.size, .int (Int32.ofNat o), .ref b])) rfl (by rw [hml]; rfl) c5 (argsL := [.ref b, .int (Int32.ofNat o), .ref s.heap.size, .int (Int32.ofNat 0), .int (Int32.ofNat len)]) (rest := []) rfl rfl (by show 2 * 0 + 0 ≤ _; decide) (hb hbytes d9) (⟨rfl, hA3, ba3, hne, l1, by rw [bs3]; simp, hp⟩)
  obtain ⟨rfl, B6, p6, f6⟩ := E6
  have c7 : Steps p.tables e below (s₁.setTop (entryFrame m #[.ref b, .int (Int32.ofNat o), .int (Int32.ofNat len)] 6)) (T6.setTop (mkF m 12 #[.val (.ref b), .val (.int (Int32.ofNat o)), .val (.int (Int32.ofNat len)), .val (.ref s.heap.size), .unset, .unset] [.int (Int32.ofNat len)])) := g6
  have c8 : Steps p.tables e below (s₁.setTop (entryFrame m #[.ref b, .int (Int32.ofNat o), .int (Int32.ofNat len)] 6)) (T6.setTop (mkF m 58 #[.val (.ref b), .val (.int (Int32.ofNat o)), .val (.int (Int32.ofNat len)), .val (.ref s.heap.size), .val (.int (Int32.ofNat len)), .unset] [.ref s.heap.size])) := c7.trans (by
    refine XS.istore X6.here hexec rfl (hb hbytes d12) rfl rfl ?_
    refine XS.iload X6.here hexec rfl (hb hbytes d14) rfl ?_
    refine XS.iloadN X6.here hexec rfl (hb hbytes d16) rfl ?_
    refine XS.icmpYes X6.here hexec rfl (pc0 := 17) rfl (hb hbytes d17) rfl (ii_eq_t rfl) (by decide) rfl ?_
    refine XS.aloadN X6.here hexec rfl (hb hbytes d57) rfl rfl ?_
    exact Steps.refl _)
  have X8 := X6.wide (L' := []) (cells' := 1) (slots' := len) (fun x hx hlt => by
    simp only [List.nil_append, copyLocs, List.mem_map, List.mem_range] at hx
    obtain ⟨i, -, rfl⟩ := hx
    exact absurd hlt (Nat.lt_irrefl _)) (Nat.le_refl _) (by omega)
  exact ⟨T6, some (.ref s.heap.size), _, _, _, X8, rfl, rfl, rfl, (fun h => by cases h), ⟨⟨rfl, B6, ba3.like (X3.warmed.alike.symm.trans X6.warmed.alike) p6.1 f6.1 f6.2.1 f6.2.2.1, f6.2.1.trans bv3, by rw [X6.warmed.alike.findClass, f6.1]; exact bf3, by rw [f6.2.2.1, bs3]; simp, fun j hj => by rw [f6.2.2.2 j, if_pos (by omega)]; rfl, kp3.put p6 (Nat.le_refl _)⟩, by rw [p6.2.2, bh3, hh0]; simp⟩, fun fs hl => c8.trans (X8.areturnOut hexec rfl hret rfl (hb hbytes d58) hl)⟩
end Cmp3
namespace CodL
def yN : MethodName := ⟨"java/lang/StringUTF16", "coderFromArrayLen", "([BI)B"⟩
abbrev yB : ByteArray := jdk_52_method_15_code
theorem d0 : decode yB 0 = .ok (.iload_n 1, 1) := by decide +kernel
theorem d1 : decode yB 1 = .ok (.aload_n 0, 1) := by decide +kernel
theorem d2 : decode yB 2 = .ok (.arraylength, 1) := by decide +kernel
theorem d3 : decode yB 3 = .ok (.isub, 1) := by decide +kernel
theorem d4 : decode yB 4 = .ok (.bipush 31, 2) := by decide +kernel
theorem d6 : decode yB 6 = .ok (.iushr, 1) := by decide +kernel
theorem d7 : decode yB 7 = .ok (.i2b, 1) := by decide +kernel
theorem d8 : decode yB 8 = .ok (.ireturn, 1) := by decide +kernel
def site : List Cond := []
def tab : Cond := tabOf yN yB 2 (some .byte) site
def P (d : Addr) (B : Cell) (args : Array Value) (s : State) : Prop := args = #[.ref d, .int (Int32.ofNat B.slots.size)] ∧ Arr .byte d B s
def E (r : Option Value) (s u : State) : Prop := XT.PureE (some (.int 0)) r s u
/-- an array as long as the number of chars: LATIN1 -/
theorem law (l : Launch) (d : Addr) (B : Cell) : Law l yN 2 2 0 0 yB 2 (some .byte) site (P d B) E [] 0 0 := by
  refine Law.of_walk (plainFor_of_name (by decide +kernel)) (by decide +kernel) (by decide +kernel) (by decide) (fun _ _ h => by rw [h.1]; rfl) (fun _ U U' hal hh h => ⟨h.1, h.2.mv hal hh⟩) (fun r U U' V V' h1 hal h2 h => XT.PureE.mv r U U' V V' h1 hal h2 h) ?_
  intro p e s m args below meth c s₁ X0 hexec hbytes hml hret hlk hnm hown hh0 W hP
  obtain ⟨rfl, hB⟩ := hP
  have hB0 := hB.mv X0.warmed.alike hh0
  have c1 : Steps p.tables e below (s₁.setTop (entryFrame m #[.ref d, .int (Int32.ofNat B.slots.size)] 2)) (s₁.setTop (mkF m 0 #[.val (.ref d), .val (.int (Int32.ofNat B.slots.size))] [])) := entry rfl
  have c2 : Steps p.tables e below (s₁.setTop (entryFrame m #[.ref d, .int (Int32.ofNat B.slots.size)] 2)) (s₁.setTop (mkF m 2 #[.val (.ref d), .val (.int (Int32.ofNat B.slots.size))] [.ref d, .int (Int32.ofNat B.slots.size)])) := c1.trans (by
    refine XS.iloadN X0.here hexec rfl (hb hbytes d0) rfl ?_
    refine XS.aloadN X0.here hexec rfl (hb hbytes d1) rfl rfl ?_
    exact Steps.refl _)
  have c3 : Steps p.tables e below (s₁.setTop (entryFrame m #[.ref d, .int (Int32.ofNat B.slots.size)] 2)) (s₁.setTop (mkF m 8 #[.val (.ref d), .val (.int (Int32.ofNat B.slots.size))] [.int (lo8 (ushr (Int32.ofNat B.slots.size - Int32.ofNat B.slots.size) 31))])) := c2.trans (by
    refine X0.alen hexec hB0 rfl rfl (hb hbytes d2) ?_
    refine XS.isub X0.here hexec rfl (hb hbytes d3) rfl ?_
    refine bipushV X0.here hexec rfl 31 (hb hbytes d4) (by decide) ?_
    refine iushr X0.here hexec rfl (hb hbytes d6) rfl ?_
    refine i2b X0.here hexec rfl (hb hbytes d7) rfl ?_
    exact Steps.refl _)
  have e0 : lo8 (ushr (Int32.ofNat B.slots.size - Int32.ofNat B.slots.size) 31) = 0 := by rw [Int32.sub_self]; decide
  rw [e0] at c3
  exact ⟨s₁, some (.int 0), _, _, _, X0, rfl, rfl, rfl, (fun h => by cases h), ⟨rfl, hh0⟩, fun fs hl => c3.trans (X0.ireturnOut hexec hret rfl (Or.inr (Or.inr (Or.inl rfl))) (hb hbytes d8) hl)⟩
end CodL
/-- the String at a is Latin-1 over a new byte[] (the heap's one new cell): the low bytes of the len chars of A from o on; every cell but a is kept -/
def Got (a : Addr) (D : Cell) (fV fC : Field) (A : Cell) (o len : Nat) (r : Option Value) (s u : State) : Prop := r = none ∧ ∃ D' V : Cell, Blank "java/lang/String" a D' u ∧ Same D D' [fV.slot, fC.slot] ∧ D'.slots[fV.slot]? = some (.ref s.heap.size) ∧ D'.slots[fC.slot]? = some (.int 0) ∧ Arr .byte s.heap.size V u ∧ V.vm = .none ∧ u.vm.findClass "[B" = some V.cls ∧ V.slots.size = len ∧ (∀ j, j < len → V.slots[j]? = some (.int (lo8 (cv A (o + j))))) ∧ (∀ (y : Addr) (c : Cell), y ≠ a → s.heap[y]? = some c → u.heap[y]? = some c) ∧ u.heap.size = s.heap.size + 1
theorem Got.mv {a : Addr} {D A : Cell} {fV fC : Field} {o len : Nat} : ∀ r (U U' V V' : State), U'.heap = U.heap → V.vm.Alike V'.vm → V'.heap = V.heap → Got a D fV fC A o len r U V → Got a D fV fC A o len r U' V' :=
  fun r U U' V V' h1 hal h2 ⟨e0, D', X, a1, a2, a3, a4, a5, a6, a7, a8, a9, a10, a11⟩ => ⟨e0, D', X, a1.mv hal h2, a2, by rw [h1]; exact a3, a4, by rw [h1]; exact a5.mv hal h2, a6, by rw [hal.findClass]; exact a7, a8, a9, by rw [h1, h2]; exact a10, by rw [h1, h2]; exact a11⟩
namespace New4
def yN : MethodName := ⟨"java/lang/String", "<init>", "([CIILjava/lang/Void;)V"⟩
abbrev yB : ByteArray := jdk_42_method_149_code
theorem d0 : decode yB 0 = .ok (.aload_n 0, 1) := by decide +kernel
theorem d1 : decode yB 1 = .ok (.invokespecial 1, 3) := by decide +kernel
theorem d4 : decode yB 4 = .ok (.iload_n 3, 1) := by decide +kernel
theorem d5 : decode yB 5 = .ok (.ifCond (.ne) 22, 3) := by decide +kernel
theorem d27 : decode yB 27 = .ok (.getstatic 38, 3) := by decide +kernel
theorem d30 : decode yB 30 = .ok (.ifCond (.eq) 28, 3) := by decide +kernel
theorem d33 : decode yB 33 = .ok (.aload_n 1, 1) := by decide +kernel
theorem d34 : decode yB 34 = .ok (.iload_n 2, 1) := by decide +kernel
theorem d35 : decode yB 35 = .ok (.iload_n 3, 1) := by decide +kernel
theorem d36 : decode yB 36 = .ok (.invokestatic 177, 3) := by decide +kernel
theorem d39 : decode yB 39 = .ok (.astore 5, 2) := by decide +kernel
theorem d41 : decode yB 41 = .ok (.aload_n 0, 1) := by decide +kernel
theorem d42 : decode yB 42 = .ok (.aload 5, 2) := by decide +kernel
theorem d44 : decode yB 44 = .ok (.iload_n 3, 1) := by decide +kernel
theorem d45 : decode yB 45 = .ok (.invokestatic 47, 3) := by decide +kernel
theorem d48 : decode yB 48 = .ok (.putfield 15, 3) := by decide +kernel
theorem d51 : decode yB 51 = .ok (.aload_n 0, 1) := by decide +kernel
theorem d52 : decode yB 52 = .ok (.aload 5, 2) := by decide +kernel
theorem d54 : decode yB 54 = .ok (.putfield 9, 3) := by decide +kernel
theorem d57 : decode yB 57 = .ok (.return_, 1) := by decide +kernel
def site : List Cond := [.fieldLink "java/lang/String" 38 "java/lang/String" "COMPACT_STRINGS" "Z", Cmp3.tab, CodL.tab, .laysFinal "java/lang/String" "java/lang/String" "value" "[B", .fieldLink "java/lang/String" 9 "java/lang/String" "value" "[B", .laysFinal "java/lang/String" "java/lang/String" "coder" "B", .fieldLink "java/lang/String" 15 "java/lang/String" "coder" "B"] ++ objW "java/lang/String" 1 ++ staticW "java/lang/String" 177 Cmp3.yN ++ staticW "java/lang/String" 47 CodL.yN
def tab : Cond := tabOf yN yB 6 none site
def P (a : Addr) (D : Cell) (fV fC : Field) (b : Addr) (A : Cell) (z : Int32) (o len : Nat) (args : Array Value) (s : State) : Prop := args = #[.ref a, .ref b, .int (Int32.ofNat o), .int (Int32.ofNat len), .null] ∧ Blank "java/lang/String" a D s ∧ Found "java/lang/String" "value" "[B" fV s ∧ Found "java/lang/String" "coder" "B" fC s ∧ Ch b A s ∧ StaticIs s "java/lang/String" "COMPACT_STRINGS" "Z" (.int z) ∧ ¬ z = 0 ∧ 0 < len ∧ o + len ≤ A.slots.size ∧ len ≤ 536870912 ∧ ∀ i, i < len → ¬ 255 < cv A (o + i)
def E (a : Addr) (D : Cell) (fV fC : Field) (A : Cell) (o len : Nat) (r : Option Value) (s u : State) : Prop := Got a D fV fC A o len r s u
/-- len > 0, no char of the range above 255: a Latin-1 String of their low bytes -/
theorem law (l : Launch) (a : Addr) (D : Cell) (fV fC : Field) (b : Addr) (A : Cell) (z : Int32) (o len : Nat) : Law l yN 5 4 2 35 yB 6 none site (P a D fV fC b A z o len) (E a D fV fC A o len) [⟨a, fC.slot⟩, ⟨a, fV.slot⟩] 1 len := by
  refine Law.of_walk (plainFor_of_name (by decide +kernel)) (by decide +kernel) (by decide +kernel) (by decide) (fun _ _ h => by rw [h.1]; rfl) (fun _ U U' hal hh h => ⟨h.1, h.2.1.mv hal hh, h.2.2.1.al hal, h.2.2.2.1.al hal, h.2.2.2.2.1.mv hal hh, h.2.2.2.2.2.1.there hal hh, h.2.2.2.2.2.2⟩) (fun r U U' V V' h1 hal h2 h => Got.mv r U U' V V' h1 hal h2 h) ?_
  intro p e s m args below meth c s₁ X0 hexec hbytes hml hret hlk hnm hown hh0 W hP
  obtain ⟨rfl, hB, f1, f2, hA, s1, hz, l0, l1, l2, hp⟩ := hP
  have a31 := hA.1.2.2.2
  have c1 : Steps p.tables e below (s₁.setTop (entryFrame m #[.ref a, .ref b, .int (Int32.ofNat o), .int (Int32.ofNat len), .null] 6)) (s₁.setTop (mkF m 0 #[.val (.ref a), .val (.ref b), .val (.int (Int32.ofNat o)), .val (.int (Int32.ofNat len)), .val .null, .unset] [])) := entry rfl
  have c2 : Steps p.tables e below (s₁.setTop (entryFrame m #[.ref a, .ref b, .int (Int32.ofNat o), .int (Int32.ofNat len), .null] 6)) (s₁.setTop (mkF m 1 #[.val (.ref a), .val (.ref b), .val (.int (Int32.ofNat o)), .val (.int (Int32.ofNat len)), .val .null, .unset] [.ref a])) := c1.trans (by
    refine XS.aloadN X0.here hexec rfl (hb hbytes d0) rfl rfl ?_
    exact Steps.refl _)
  obtain ⟨T3, X3, q3, st3⟩ := X0.oinit hexec hown (wks W (objW "java/lang/String" 1)) (g := (mkF m 1 #[.val (.ref a), .val (.ref b), .val (.int (Int32.ofNat o)), .val (.int (Int32.ofNat len)), .val .null, .unset] [.ref a])) rfl (by rw [hml]; rfl) (rest := []) rfl (hb hbytes d1) (W := 0) (by show 2 * 0 + 0 ≤ _; decide) (Nat.le_of_ble_eq_true rfl) (Nat.le_of_ble_eq_true rfl)
  have hh3 := q3.trans hh0
  have c4 : Steps p.tables e below (s₁.setTop (entryFrame m #[.ref a, .ref b, .int (Int32.ofNat o), .int (Int32.ofNat len), .null] 6)) (T3.setTop (mkF m 27 #[.val (.ref a), .val (.ref b), .val (.int (Int32.ofNat o)), .val (.int (Int32.ofNat len)), .val .null, .unset] [])) := (c2.trans (st3 _ (Steps.refl _))).trans (by
    refine XS.iloadN X3.here hexec rfl (hb hbytes d4) rfl ?_
    refine XS.ifYes X3.here hexec rfl (pc0 := 5) rfl (hb hbytes d5) rfl (i0_ne_t (nz32 (by omega) l0)) (by decide) rfl ?_
    exact Steps.refl _)
  obtain ⟨T5, X5, q5, st5⟩ := X3.sget hexec hown (wk W (.fieldLink "java/lang/String" 38 "java/lang/String" "COMPACT_STRINGS" "Z")) s1 (fun _ _ h => by rw [hh3]; exact h) (g := (mkF m 27 #[.val (.ref a), .val (.ref b), .val (.int (Int32.ofNat o)), .val (.int (Int32.ofNat len)), .val .null, .unset] [])) rfl (hb hbytes d27)
  have hh5 := q5.trans hh3
  have c6 : Steps p.tables e below (s₁.setTop (entryFrame m #[.ref a, .ref b, .int (Int32.ofNat o), .int (Int32.ofNat len), .null] 6)) (T5.setTop (mkF m 30 #[.val (.ref a), .val (.ref b), .val (.int (Int32.ofNat o)), .val (.int (Int32.ofNat len)), .val .null, .unset] [.int z])) := c4.trans (st5 _ (Steps.refl _))
  have c7 : Steps p.tables e below (s₁.setTop (entryFrame m #[.ref a, .ref b, .int (Int32.ofNat o), .int (Int32.ofNat len), .null] 6)) (T5.setTop (mkF m 36 #[.val (.ref a), .val (.ref b), .val (.int (Int32.ofNat o)), .val (.int (Int32.ofNat len)), .val .null, .unset] [.int (Int32.ofNat len), .int (Int32.ofNat o), .ref b])) := c6.trans (by
    refine XS.ifNo X5.here hexec rfl (hb hbytes d30) rfl (i0_eq_f hz) ?_
    refine XS.aloadN X5.here hexec rfl (hb hbytes d33) rfl rfl ?_
    refine XS.iloadN X5.here hexec rfl (hb hbytes d34) rfl ?_
    refine XS.iloadN X5.here hexec rfl (hb hbytes d35) rfl ?_
    exact Steps.refl _)
  obtain ⟨v8, T8, X8, E8, g8⟩ := X5.callS hexec (Cmp3.law l b A o len) hown (wks W (staticW "java/lang/String" 177 Cmp3.yN)) (wk W Cmp3.tab) (W := 0) (Nat.le_of_ble_eq_true rfl) (Nat.le_of_ble_eq_true rfl) (Nat.le_refl _) (by show 0 + len ≤ len; omega) (g := (mkF m 36 #[.val (.ref a), .val (.ref b), .val (.int (Int32.ofNat o)), .val (.int (Int32.ofNat len)), .val .null, .unset] [.int (Int32.ofNat len), .int (Int32.ofNat o), .ref b])) rfl (by rw [hml]; rfl) c7 (argsL := [.ref b, .int (Int32.ofNat o), .int (Int32.ofNat len)]) (rest := []) rfl rfl (by show 2 * 0 + 0 ≤ _; decide) (hb hbytes d36) (⟨rfl, hA.mv X5.warmed.alike hh5, l1, l2, hp⟩)
  obtain ⟨e8, z8⟩ := E8
  obtain ⟨rfl, N, n1, n2, n3, n4, n5, n6⟩ := NewArr.mv _ T5 s _ _ hh5.symm (Vm.Alike.refl _) rfl e8
  rw [hh5] at z8
  have hB1 := hB.keep X8.warmed.alike (n6 _ _ hB.1)
  have hne : s.heap.size ≠ a := (Nat.ne_of_lt (Array.getElem?_eq_some_iff.mp hB.1).1).symm
  have c9 : Steps p.tables e below (s₁.setTop (entryFrame m #[.ref a, .ref b, .int (Int32.ofNat o), .int (Int32.ofNat len), .null] 6)) (T8.setTop (mkF m 39 #[.val (.ref a), .val (.ref b), .val (.int (Int32.ofNat o)), .val (.int (Int32.ofNat len)), .val .null, .unset] [.ref s.heap.size])) := g8
  have c10 : Steps p.tables e below (s₁.setTop (entryFrame m #[.ref a, .ref b, .int (Int32.ofNat o), .int (Int32.ofNat len), .null] 6)) (T8.setTop (mkF m 45 #[.val (.ref a), .val (.ref b), .val (.int (Int32.ofNat o)), .val (.int (Int32.ofNat len)), .val .null, .val (.ref s.heap.size)] [.int (Int32.ofNat N.slots.size), .ref s.heap.size, .ref a])) := by
    have hc : Steps p.tables e below (s₁.setTop (entryFrame m #[.ref a, .ref b, .int (Int32.ofNat o), .int (Int32.ofNat len), .null] 6)) (T8.setTop (mkF m 45 #[.val (.ref a), .val (.ref b), .val (.int (Int32.ofNat o)), .val (.int (Int32.ofNat len)), .val .null, .val (.ref s.heap.size)] [.int (Int32.ofNat len), .ref s.heap.size, .ref a])) := c9.trans (by
      refine XS.astore X8.here hexec rfl (hb hbytes d39) rfl rfl rfl ?_
      refine XS.aloadN X8.here hexec rfl (hb hbytes d41) rfl rfl ?_
      refine XS.aload X8.here hexec rfl (hb hbytes d42) rfl rfl ?_
      refine XS.iloadN X8.here hexec rfl (hb hbytes d44) rfl ?_
      exact Steps.refl _)
    rw [n4]; exact hc
  obtain ⟨v11, T11, X11, E11, g11⟩ := X8.callS hexec (CodL.law l s.heap.size N) hown (wks W (staticW "java/lang/String" 47 CodL.yN)) (wk W CodL.tab) (W := 1) (Nat.le_of_ble_eq_true rfl) (Nat.le_of_ble_eq_true rfl) (Nat.le_refl _) (by show 0 + len + 0 ≤ len; omega) (g := (mkF m 45 #[.val (.ref a), .val (.ref b), .val (.int (Int32.ofNat o)), .val (.int (Int32.ofNat len)), .val .null, .val (.ref s.heap.size)] [.int (Int32.ofNat N.slots.size), .ref s.heap.size, .ref a])) rfl (by rw [hml]; rfl) c10 (argsL := [.ref s.heap.size, .int (Int32.ofNat N.slots.size)]) (rest := [.ref a]) rfl rfl (by show 2 * 0 + (1 + 0) ≤ _; decide) (hb hbytes d45) (⟨rfl, n1⟩)
  obtain ⟨rfl, q11⟩ := E11
  have hB11 := hB1.mv (X8.warmed.alike.symm.trans X11.warmed.alike) q11
  have c12 : Steps p.tables e below (s₁.setTop (entryFrame m #[.ref a, .ref b, .int (Int32.ofNat o), .int (Int32.ofNat len), .null] 6)) (T11.setTop (mkF m 48 #[.val (.ref a), .val (.ref b), .val (.int (Int32.ofNat o)), .val (.int (Int32.ofNat len)), .val .null, .val (.ref s.heap.size)] [.int 0, .ref a])) := g11
  obtain ⟨T13, X13, p13, bl13, sl13, st13⟩ := X11.finit hexec hown (wk W (.fieldLink "java/lang/String" 15 "java/lang/String" "coder" "B")) (Or.inr ⟨_, (wk W (.laysFinal "java/lang/String" "java/lang/String" "coder" "B"))⟩) (Or.inl ⟨rfl, hnm⟩) f2 (Or.inl rfl) hB11 (t := .byte) (by decide +kernel) rfl (g := (mkF m 48 #[.val (.ref a), .val (.ref b), .val (.int (Int32.ofNat o)), .val (.int (Int32.ofNat len)), .val .null, .val (.ref s.heap.size)] [.int 0, .ref a])) rfl (rest := []) rfl (hb hbytes d48)
  have c14 : Steps p.tables e below (s₁.setTop (entryFrame m #[.ref a, .ref b, .int (Int32.ofNat o), .int (Int32.ofNat len), .null] 6)) (T13.setTop (mkF m 54 #[.val (.ref a), .val (.ref b), .val (.int (Int32.ofNat o)), .val (.int (Int32.ofNat len)), .val .null, .val (.ref s.heap.size)] [.ref s.heap.size, .ref a])) := (c12.trans (st13 _ (Steps.refl _))).trans (by
    refine XS.aloadN X13.here hexec rfl (hb hbytes d51) rfl rfl ?_
    refine XS.aload X13.here hexec rfl (hb hbytes d52) rfl rfl ?_
    exact Steps.refl _)
  obtain ⟨T15, X15, p15, bl15, sl15, st15⟩ := X13.finit hexec hown (wk W (.fieldLink "java/lang/String" 9 "java/lang/String" "value" "[B")) (Or.inr ⟨_, (wk W (.laysFinal "java/lang/String" "java/lang/String" "value" "[B"))⟩) (Or.inl ⟨rfl, hnm⟩) f1 (Or.inl rfl) bl13 (t := (.array .byte)) (by decide +kernel) rfl (g := (mkF m 54 #[.val (.ref a), .val (.ref b), .val (.int (Int32.ofNat o)), .val (.int (Int32.ofNat len)), .val .null, .val (.ref s.heap.size)] [.ref s.heap.size, .ref a])) rfl (rest := []) rfl (hb hbytes d54)
  have c16 : Steps p.tables e below (s₁.setTop (entryFrame m #[.ref a, .ref b, .int (Int32.ofNat o), .int (Int32.ofNat len), .null] 6)) (T15.setTop (mkF m 57 #[.val (.ref a), .val (.ref b), .val (.int (Int32.ofNat o)), .val (.int (Int32.ofNat len)), .val .null, .val (.ref s.heap.size)] [])) := c14.trans (st15 _ (Steps.refl _))
  have ap := apart (Or.inr ⟨_, (wk W (.laysFinal "java/lang/String" "java/lang/String" "value" "[B"))⟩) (Or.inr ⟨_, (wk W (.laysFinal "java/lang/String" "java/lang/String" "coder" "B"))⟩) f1 f2 (t₁ := .array .byte) (t₂ := .byte) (by decide +kernel) (by decide +kernel) (by decide)
  have al := X8.warmed.alike.symm.trans X15.warmed.alike
  have n7 : T11.heap[s.heap.size]? = some N := by rw [q11]; exact n1.1
  exact ⟨T15, none, _, _, _, X15, by simp, rfl, by omega, (fun _ => rfl), ⟨rfl, _, N, bl15, ((Same.refl D _).set _ (by simp)).set _ (by simp), sl15, (Cell.slots_setSlot_ne _ ap).trans sl13, n1.keep al (p15.other hne (p13.other hne n7)), n2, by rw [al.findClass]; exact n3, n4, n5, fun y c h1 h2 => p15.other h1 (p13.other h1 (by rw [q11]; exact n6 y c h2)), by rw [p15.2.2, p13.2.2, q11]; exact z8⟩, fun fs hl => c16.trans (X15.returnOut hexec hret (hb hbytes d57) hl)⟩
end New4
namespace New1
def yN : MethodName := ⟨"java/lang/String", "<init>", "([C)V"⟩
abbrev yB : ByteArray := jdk_42_method_3_code
theorem d0 : decode yB 0 = .ok (.aload_n 0, 1) := by decide +kernel
theorem d1 : decode yB 1 = .ok (.aload_n 1, 1) := by decide +kernel
theorem d2 : decode yB 2 = .ok (.iconst 0, 1) := by decide +kernel
theorem d3 : decode yB 3 = .ok (.aload_n 1, 1) := by decide +kernel
theorem d4 : decode yB 4 = .ok (.arraylength, 1) := by decide +kernel
theorem d5 : decode yB 5 = .ok (.aconst_null, 1) := by decide +kernel
theorem d6 : decode yB 6 = .ok (.invokespecial 27, 3) := by decide +kernel
theorem d9 : decode yB 9 = .ok (.return_, 1) := by decide +kernel
def site : List Cond := [New4.tab] ++ initW "java/lang/String" 27 New4.yN
def tab : Cond := tabOf yN yB 2 none site
def P (a : Addr) (D : Cell) (fV fC : Field) (b : Addr) (A : Cell) (z : Int32) (args : Array Value) (s : State) : Prop := args = #[.ref a, .ref b] ∧ Blank "java/lang/String" a D s ∧ Found "java/lang/String" "value" "[B" fV s ∧ Found "java/lang/String" "coder" "B" fC s ∧ Ch b A s ∧ StaticIs s "java/lang/String" "COMPACT_STRINGS" "Z" (.int z) ∧ ¬ z = 0 ∧ 0 < A.slots.size ∧ A.slots.size ≤ 536870912 ∧ ∀ i, i < A.slots.size → ¬ 255 < cv A i
def E (a : Addr) (D : Cell) (fV fC : Field) (A : Cell) (r : Option Value) (s u : State) : Prop := Got a D fV fC A 0 A.slots.size r s u
/-- new String(chars), not empty, no char above 255: a Latin-1 String of their low bytes -/
theorem law (l : Launch) (a : Addr) (D : Cell) (fV fC : Field) (b : Addr) (A : Cell) (z : Int32) : Law l yN 2 1 3 52 yB 2 none site (P a D fV fC b A z) (E a D fV fC A) [⟨a, fC.slot⟩, ⟨a, fV.slot⟩] 1 A.slots.size := by
  refine Law.of_walk (plainFor_of_name (by decide +kernel)) (by decide +kernel) (by decide +kernel) (by decide) (fun _ _ h => by rw [h.1]; rfl) (fun _ U U' hal hh h => ⟨h.1, h.2.1.mv hal hh, h.2.2.1.al hal, h.2.2.2.1.al hal, h.2.2.2.2.1.mv hal hh, h.2.2.2.2.2.1.there hal hh, h.2.2.2.2.2.2⟩) (fun r U U' V V' h1 hal h2 h => Got.mv r U U' V V' h1 hal h2 h) ?_
  intro p e s m args below meth c s₁ X0 hexec hbytes hml hret hlk hnm hown hh0 W hP
  obtain ⟨rfl, hB, f1, f2, hA, s1, hz, l0, l2, hp⟩ := hP
  have c1 : Steps p.tables e below (s₁.setTop (entryFrame m #[.ref a, .ref b] 2)) (s₁.setTop (mkF m 0 #[.val (.ref a), .val (.ref b)] [])) := entry rfl
  have c2 : Steps p.tables e below (s₁.setTop (entryFrame m #[.ref a, .ref b] 2)) (s₁.setTop (mkF m 6 #[.val (.ref a), .val (.ref b)] [.null, .int (Int32.ofNat A.slots.size), .int 0, .ref b, .ref a])) := c1.trans (by
    refine XS.aloadN X0.here hexec rfl (hb hbytes d0) rfl rfl ?_
    refine XS.aloadN X0.here hexec rfl (hb hbytes d1) rfl rfl ?_
    refine iconstV X0.here hexec rfl 0 (hb hbytes d2) (by decide) ?_
    refine XS.aloadN X0.here hexec rfl (hb hbytes d3) rfl rfl ?_
    refine X0.alen hexec (hA.1.mv X0.warmed.alike hh0) rfl rfl (hb hbytes d4) ?_
    refine XS.aconstNull X0.here hexec rfl (hb hbytes d5) ?_
    exact Steps.refl _)
  obtain ⟨v3, T3, X3, E3, g3⟩ := X0.callN hexec (New4.law l a D fV fC b A z 0 A.slots.size) rfl hown (wks W (initW "java/lang/String" 27 New4.yN)) (W New4.tab (by simp only [site, List.mem_cons, List.mem_append, true_or, or_true])) (W := 0) (Nat.le_of_ble_eq_true rfl) (Nat.le_of_ble_eq_true rfl) (Nat.le_refl _) (by show 0 + A.slots.size ≤ A.slots.size; omega) (g := (mkF m 6 #[.val (.ref a), .val (.ref b)] [.null, .int (Int32.ofNat A.slots.size), .int (Int32.ofNat 0), .ref b, .ref a])) rfl (by rw [hml]; rfl) c2 (argsL := [.ref b, .int (Int32.ofNat 0), .int (Int32.ofNat A.slots.size), .null]) (rest := []) rfl rfl (by show 2 * 0 + 0 ≤ _; decide) (hb hbytes d6) (⟨rfl, hB.mv X0.warmed.alike hh0, f1.al X0.warmed.alike, f2.al X0.warmed.alike, hA.mv X0.warmed.alike hh0, s1.there X0.warmed.alike hh0, hz, l0, by omega, l2, fun i hi => by rw [Nat.zero_add]; exact hp i hi⟩)
  have e0 := Got.mv _ s₁ s _ _ hh0.symm (Vm.Alike.refl _) rfl E3
  obtain rfl := e0.1
  have c4 : Steps p.tables e below (s₁.setTop (entryFrame m #[.ref a, .ref b] 2)) (T3.setTop (mkF m 9 #[.val (.ref a), .val (.ref b)] [])) := g3
  exact ⟨T3, none, _, _, _, X3, by simp, rfl, by omega, (fun _ => rfl), e0, fun fs hl => c4.trans (X3.returnOut hexec hret (hb hbytes d9) hl)⟩
theorem pays {l : Launch} {R : Room} {p : Program} {e : Env} {below : List Frame} {s : State} {sargs : Array Value} {len W : Nat} (a : Addr) (D : Cell) (fV fC : Field) (b : Addr) (A : Cell) (z : Int32) (htab : tab.before sargs s = true) (hfr : 4 ≤ R.frames) (hlo : W + 65 ≤ R.locals) :
    Back l R p e below s sargs yN len W (fun A₁ a₁ => A₁.cells + 1 ≤ R.cells ∧ A₁.slots + A.slots.size ≤ R.slots ∧ P a D fV fC b A z a₁ A₁.U) (fun A₁ _ v₁ B₁ => E a D fV fC A v₁ A₁.U B₁.U ∧ B₁.locs = A₁.locs ++ [⟨a, fC.slot⟩, ⟨a, fV.slot⟩] ∧ B₁.cells = A₁.cells + 1 ∧ B₁.slots = A₁.slots + A.slots.size) :=
  (law l a D fV fC b A z).pays htab hfr (by omega)
end New1
/-- the byte, read back as charAt reads it, is the char -/
theorem lo8_mask {x : Int32} (h0 : ¬ x < 0) (h1 : ¬ 255 < x) : lo8 x &&& 255 = x := by
  have t : ∀ k : Fin 256, lo8 (Int32.ofNat k.val) &&& 255 = Int32.ofNat k.val := by decide +kernel
  rw [Int32.lt_iff_toInt_lt] at h0 h1
  have e0 : (0 : Int32).toInt = 0 := rfl
  have e1 : (255 : Int32).toInt = 255 := rfl
  obtain ⟨k, hk⟩ : ∃ k : Nat, x.toInt = k := ⟨x.toInt.toNat, by omega⟩
  have hx : x = Int32.ofNat k := Int32.toInt_inj.mp (by rw [hk, Int32.toInt_ofNat_small (by omega)])
  rw [hx]
  exact t ⟨k, by omega⟩
end StrChars
namespace StrChars.Road
open Jvm Sem ClassFile Op Lib Jvm.Stand Jvm.Free Jvm.Free.XT
open Jvm.Lib.Cold (StaticIs)
abbrev ST : String := "java/lang/String"
/-- every table word that New1's law asks, flat -/
abbrev words : List Jvm.Cond := [.code New1.yN New1.yB 2 none, .initialized ST, .methodLink ST 27 New4.yN, .instanceMethod New4.yN,
  .code New4.yN New4.yB 6 none, .fieldLink ST 38 ST "COMPACT_STRINGS" "Z", .laysFinal ST ST "value" "[B", .fieldLink ST 9 ST "value" "[B", .laysFinal ST ST "coder" "B", .fieldLink ST 15 ST "coder" "B",
  .methodLink ST 1 Lib.objectInit, .instanceMethod Lib.objectInit, .code Lib.objectInit ⟨#[0xb1]⟩ 1 none, .methodLink ST 177 Cmp3.yN, .static Cmp3.yN, .methodLink ST 47 CodL.yN, .static CodL.yN,
  .code Cmp3.yN Cmp3.yB 6 (some (.array .byte)), .initialized U16, .arrayClass .byte, .methodLink U16 115 Cmp5.yN, .static Cmp5.yN, .code Cmp5.yN Cmp5.yB 7 (some .int), .code CodL.yN CodL.yB 2 (some .byte)]
theorem tab_of {a : Array Value} {s : State} (h : ∀ w ∈ words, w.before a s = true) : New1.tab.before a s = true := by
  have h5 : Cmp5.tab.before a s = true := unparts (wk h (.code Cmp5.yN Cmp5.yB 7 (some .int))) (wks h (.initialized Cmp5.yN.cls :: Cmp5.site))
  have hc : CodL.tab.before a s = true := unparts (wk h (.code CodL.yN CodL.yB 2 (some .byte))) (wks h (.initialized CodL.yN.cls :: CodL.site))
  have q5 : ∀ w ∈ Cmp5.tab :: words, w.before a s = true := fun w hw => (List.mem_cons.mp hw).elim (fun e => e ▸ h5) (h w)
  have h3 : Cmp3.tab.before a s = true := unparts (wk q5 (.code Cmp3.yN Cmp3.yB 6 (some (.array .byte)))) (wks q5 (.initialized Cmp3.yN.cls :: Cmp3.site))
  have q3 : ∀ w ∈ Cmp3.tab :: CodL.tab :: words, w.before a s = true := fun w hw => (List.mem_cons.mp hw).elim (fun e => e ▸ h3) fun hw => (List.mem_cons.mp hw).elim (fun e => e ▸ hc) (h w)
  have h4 : New4.tab.before a s = true := unparts (wk q3 (.code New4.yN New4.yB 6 none)) (wks q3 (.initialized New4.yN.cls :: New4.site))
  have q4 : ∀ w ∈ New4.tab :: words, w.before a s = true := fun w hw => (List.mem_cons.mp hw).elim (fun e => e ▸ h4) (h w)
  exact unparts (wk q4 (.code New1.yN New1.yB 2 none)) (wks q4 (.initialized New1.yN.cls :: New1.site))
/-- the words ride from the start Z to the walk's own state -/
theorem moved {Z s : State} {a0 args : Array Value} (hZ : Z.Warmed39 s.vm) (hw : ∀ d ∈ words, d.before a0 Z = true) : ∀ d ∈ words, d.before args s = true := fun d hd => by
  have q := hw d hd
  have t : ∀ d ∈ words, d = .arrayClass .byte ∨ (d.onTables && d.keepsFace) = true := by decide +kernel
  rcases t d hd with rfl | t
  · exact RoadKit.mvA hZ q
  · exact RoadKit.mv hZ q t
/-- WHAT COMES BACK, over the tables of the start Z: h the heap at the call, h' behind it -/
def Q (Z : State) (x : Addr) (A : Cell) (h : Heap) (v : Option Value) (h' : Heap) (L : List Loc) : Prop := v = none ∧ (∀ y ∈ L, y.base = x) ∧ RoadKit.Keep h h' [x] ∧ h'.size = h.size + 1 ∧ RoadKit.Exa Z h' x ST ∧ RoadKit.Fld Z h' x ST "value" "[B" (.ref h.size) ∧ RoadKit.Fld Z h' x ST "coder" "B" (.int 0) ∧
  (∃ V : Cell, RoadKit.Arr Z h' h.size V .byte ∧ V.vm = .none ∧ Z.vm.findClass "[B" = some V.cls ∧ V.slots.size = A.slots.size ∧ ∀ j, j < A.slots.size → V.slots[j]? = some (.int (lo8 (cv A j)))) ∧
  ∀ (O n d : String) (w : Value), RoadKit.Fld Z h x O n d w → RoadKit.slotOf Z O n d ≠ RoadKit.slotOf Z ST "value" "[B" → RoadKit.slotOf Z O n d ≠ RoadKit.slotOf Z ST "coder" "B" → RoadKit.Fld Z h' x O n d w
/-- **new String(chars) AT A CALL, IN THE ROAD'S FORM**: for specialBack behind newO: x the fresh String, b the char[] with the cell A -/
theorem back {p : Program} {l : Launch} {e : Env} {R : Room} {s : State} {args : Array Value} {below : List Frame} {len W : Nat} {Z : State} {a0 : Array Value} {h : Heap} (hZ : Z.Warmed39 s.vm) (hw : ∀ d ∈ words, d.before a0 Z = true) {kI : Nat} (wi : (Jvm.Cond.instantiable ST kI).before a0 Z = true)
    {x b : Addr} {A : Cell} {z : Int32} {v0 c0 : Value} (E : RoadKit.Exa Z h x ST) (V : RoadKit.Fld Z h x ST "value" "[B" v0) (C : RoadKit.Fld Z h x ST "coder" "B" c0) (K : RoadKit.Arr Z h b A .char) (hty : Typed .char A) (S : RoadKit.Sta Z h ST "COMPACT_STRINGS" "Z" (.int z)) (hz : ¬ z = 0)
    (l0 : 0 < A.slots.size) (l2 : A.slots.size ≤ 536870912) (hp : ∀ i, i < A.slots.size → ¬ 255 < cv A i) (hfr : 4 ≤ R.frames) (hlo : W + 65 ≤ R.locals) :
    Back l R p e below s args New1.yN len W (fun P a => a = #[.ref x, .ref b] ∧ P.U.heap = h ∧ P.cells + 1 ≤ R.cells ∧ P.slots + A.slots.size ≤ R.slots)
      (fun P _ v B => ∃ L, Q Z x A h v B.U.heap L ∧ B.locs = P.locs ++ L ∧ B.cells = P.cells + 1 ∧ B.slots = P.slots + A.slots.size) := by
  intro m meth c P g ig mk a X hg hsize hdg hW hn hp'
  obtain ⟨rfl, rfl, r1, r2⟩ := hp'
  have al : Z.vm.Alike P.U.vm := hZ.alike.trans X.warmed.alike
  obtain ⟨D, cfV, kV, iV, fV, hD, gV, stV, knV, obV, asV, slV⟩ := id V
  obtain ⟨D', cfC, kC, iC, fC, hD', gC, stC, -, -, asC, slC⟩ := id C
  cases hD.symm.trans hD'
  obtain ⟨D2, kD, e1, e2, e3, e4, e5⟩ := id E
  cases hD.symm.trans e1
  obtain ⟨c2, k2, i1, i2, i3, -⟩ := Cond.instantiable_spec wi
  cases e2.symm.trans i1
  cases e3.symm.trans i2
  obtain ⟨kU, u1, u2⟩ := al.2.2 _ _ e3
  have hB : Blank ST x D P.U := ⟨hD, ⟨knV, fun q hq => by rw [hq] at obV; cases obV⟩, by rw [al.findClass]; exact e2, kU, u1, by rw [u2]; exact i3, by rw [u2]; exact e5 i3⟩
  have F1 : Found ST "value" "[B" fV P.U := ⟨SBG.found_only al ⟨cfV, kV, iV, gV⟩, stV⟩
  have F2 : Found ST "coder" "B" fC P.U := ⟨SBG.found_only al ⟨cfC, kC, iC, gC⟩, stC⟩
  have hA : Ch b A P.U := ⟨⟨K.1, State.isArrayOf_alike al K.2.1, K.2.2, by omega⟩, hty⟩
  have hS : StaticIs P.U ST "COMPACT_STRINGS" "Z" (.int z) := by
    obtain ⟨cfS, iS, kS, fS, st, cS, t1, t2, t3, t4, t5, t6, t7⟩ := S
    exact StaticIs.there (s := { Z with heap := P.U.heap }) ⟨cfS, iS, kS, fS, st, cS, t1, t2, t3, t4, t5, (fun q => by rw [q] at t6; cases t6), t7⟩ al rfl
  obtain ⟨v, B, X', ⟨⟨hv, E', V', q1, q2, q3, q4, q5, q6, q7, q8, q9, q10, q11⟩, hl, hc, hs⟩, st⟩ := New1.pays x D fV fC b A z (tab_of (moved hZ hw)) hfr hlo m meth c P g ig mk _ X hg hsize hdg hW hn ⟨r1, r2, rfl, hB, F1, F2, hA, hS, hz, l0, l2, hp⟩
  have al' : Z.vm.Alike B.U.vm := hZ.alike.trans X'.warmed.alike
  have hsz : E'.slots.size = D.slots.size := by
    obtain ⟨-, -, -, kB, w1, w2, w3⟩ := q1
    obtain ⟨kB', y1, y2⟩ := al'.2.2 _ _ e3
    rw [q2.2.1] at w1
    cases w1.symm.trans y1
    rw [w3, e5 i3, y2]
  refine ⟨v, B, X', ⟨_, ⟨hv, ?_, ⟨by omega, fun y cy hy hn' => q10 y cy (by simpa using hn') hy, fun y cy hy => ?_⟩, q11, ⟨E', _, q1.1, by rw [q2.2.1]; exact e2, by rw [q2.2.1]; exact e3, by rw [q2.1]; exact obV, fun _ => by rw [hsz]; exact e5 i3⟩,
    ⟨E', cfV, kV, iV, fV, q1.1, gV, stV, by rw [q2.1]; exact knV, by rw [q2.1]; exact obV, by rw [q2.2.1]; exact asV, q3⟩, ⟨E', cfC, kC, iC, fC, q1.1, gC, stC, by rw [q2.1]; exact knV, by rw [q2.1]; exact obV, by rw [q2.2.1]; exact asC, q4⟩,
    ⟨V', ⟨q5.1, State.isArrayOf_alike al'.symm q5.2.1, q5.2.2.1⟩, q6, by rw [← al'.findClass]; exact q7, q8, fun j hj => by have := q9 j hj; rwa [Nat.zero_add] at this⟩, fun O n d w F n1 n2 => ?_⟩, hl, hc, hs⟩, st⟩
  · intro y hy
    simp only [List.mem_cons, List.not_mem_nil, or_false] at hy
    rcases hy with rfl | rfl <;> rfl
  · by_cases q : y = x
    · subst q
      cases hD.symm.trans hy
      exact ⟨E', q1.1, q2.2.1, q2.1, hsz⟩
    · exact ⟨cy, q10 y cy q hy, rfl, rfl, rfl⟩
  · obtain ⟨D3, cf, k, i, f, g1, g2, g3, g4, g5, g6, g7⟩ := F
    cases hD.symm.trans g1
    simp only [RoadKit.slotOf, g2, gV, gC, Option.map_some, Option.getD_some] at n1 n2
    exact ⟨E', cf, k, i, f, q1.1, g2, g3, by rw [q2.1]; exact g4, by rw [q2.1]; exact g5, by rw [q2.2.1]; exact g6, by rw [q2.2.2 f.slot (by simp [n1, n2])]; exact g7⟩
end StrChars.Road
namespace StrChars.Road
open Jvm Sem ClassFile Op Lib Jvm.Stand Jvm.Free Jvm.Free.XT
/-- WHAT COMES BACK, the byte[] as a list of values -/
def QA (Z : State) (x : Addr) (zn : Int32) (cs : List Int32) (h : Heap) (v : Option Value) (h' : Heap) (L : List Loc) : Prop := v = none ∧ (∀ y ∈ L, y.base = x) ∧ RoadKit.Keep h h' [x] ∧ h'.size = h.size + 1 ∧ RoadKit.Exa Z h' x ST ∧ RoadKit.Fld Z h' x ST "value" "[B" (.ref h.size) ∧ RoadKit.Fld Z h' x ST "coder" "B" (.int 0) ∧
  (∃ kb, Z.vm.findClass "[B" = some kb ∧ RoadKit.Arv Z h' h.size kb .byte zn (cs.map fun c => .int (lo8 c)) (.int 0)) ∧
  ∀ (O n d : String) (w : Value), RoadKit.Fld Z h x O n d w → RoadKit.slotOf Z O n d ≠ RoadKit.slotOf Z ST "value" "[B" → RoadKit.slotOf Z O n d ≠ RoadKit.slotOf Z ST "coder" "B" → RoadKit.Fld Z h' x O n d w
/-- **new String(chars) AT A CALL, THE ARRAYS AS LISTS**: the char[] at b holds cs, not empty, no char above 255 -/
theorem backArv {p : Program} {l : Launch} {e : Env} {R : Room} {s : State} {args : Array Value} {below : List Frame} {len W : Nat} {Z : State} {a0 : Array Value} {h : Heap} (hZ : Z.Warmed39 s.vm) (hw : ∀ d ∈ words, d.before a0 Z = true) {kI : Nat} (wi : (Jvm.Cond.instantiable ST kI).before a0 Z = true)
    {x b : Addr} {k : ClassId} {zn z : Int32} {cs : List Int32} {dv v0 c0 : Value} (E : RoadKit.Exa Z h x ST) (V : RoadKit.Fld Z h x ST "value" "[B" v0) (C : RoadKit.Fld Z h x ST "coder" "B" c0) (K : RoadKit.Arv Z h b k .char zn (cs.map Value.int) dv) (S : RoadKit.Sta Z h ST "COMPACT_STRINGS" "Z" (.int z)) (hz : ¬ z = 0)
    (hlen : zn.toNatClampNeg = cs.length) (h0 : 0 < cs.length) (hbig : cs.length ≤ 536870912) (hall : ∀ c ∈ cs, ¬ 255 < c) (hfr : 4 ≤ R.frames) (hlo : W + 65 ≤ R.locals) :
    Back l R p e below s args New1.yN len W (fun P a => a = #[.ref x, .ref b] ∧ P.U.heap = h ∧ P.cells + 1 ≤ R.cells ∧ P.slots + cs.length ≤ R.slots)
      (fun P _ v B => ∃ L, QA Z x zn cs h v B.U.heap L ∧ B.locs = P.locs ++ L ∧ B.cells = P.cells + 1 ∧ B.slots = P.slots + cs.length) := by
  obtain ⟨A, K1, K2, K3, K4, K5, K6⟩ := K
  have e : A.slots.size = cs.length := K3.trans hlen
  have hat : ∀ (i : Nat) (hi : i < cs.length), A.slots[i]? = some (.int cs[i]) := fun i hi => by rw [K5 i (by omega)]; simp [List.getD_eq_getElem?_getD, hi]
  have hcv : ∀ (i : Nat) (hi : i < cs.length), cv A i = cs[i] := fun i hi => by unfold cv; rw [hat i hi]
  have hty : Typed .char A := fun i v hv => by
    have hi : i < A.slots.size := (Array.getElem?_eq_some_iff.mp hv).1
    have q := K5 i hi
    rw [hv] at q
    rw [Option.some.inj q]
    exact K6 i hi
  refine Back.mono (back hZ hw wi E V C K1 hty S hz (by omega) (by omega) (fun i hi => by rw [hcv i (by omega)]; exact hall _ (List.getElem_mem _)) hfr hlo) (fun P a hp => ⟨hp.1, hp.2.1, hp.2.2.1, by rw [e]; exact hp.2.2.2⟩) (fun P a v B hp hq => ?_)
  obtain ⟨L, ⟨q1, q2, q3, q4, q5, q6, q7, ⟨V', v1, v2, v3, v4, v5⟩, q9⟩, hl, hc, hs⟩ := hq
  refine ⟨L, ⟨q1, q2, q3, q4, q5, q6, q7, ⟨V'.cls, v3, V', v1, rfl, by rw [v4, e, hlen], K4, fun i hi => ?_, fun i hi => ?_⟩, q9⟩, hl, hc, by rw [hs, e]⟩
  · have hi' : i < cs.length := by omega
    rw [v5 i (by omega), hcv i hi']; simp [List.getD_eq_getElem?_getD, hi']
  · have hi' : i < cs.length := by omega
    simp only [List.getD_eq_getElem?_getD, List.getElem?_map, List.getElem?_eq_getElem hi', Option.map_some, Option.getD_some]
    exact fits_lo8 _
end StrChars.Road
namespace StrChars.Road
open Jvm Sem ClassFile Op Lib Jvm.Stand Jvm.Free Jvm.Free.XT
/-- WHAT COMES BACK, in the writer's own shape -/
def QV (Z : State) (x : Addr) (N : Int32) (bs : List Int32) (h : Heap) (n0 : Nat) (v : Option Value) (h' : Heap) (L : List Loc) : Prop := v = none ∧ RoadKit.Fr n0 L ∧ RoadKit.Keep h h' [x] ∧ RoadKit.Exa Z h' x ST ∧ RoadKit.Fld Z h' x ST "coder" "B" (.int 0) ∧
  ∃ (t : Addr) (kb : ClassId), n0 ≤ t ∧ h.size ≤ t ∧ ¬ t = x ∧ RoadKit.Fld Z h' x ST "value" "[B" (.ref t) ∧ RoadKit.Arv Z h' t kb .byte N (bs.map Value.int) (.int 0)
/-- **new String(chars) AT A CALL, FOR THE WRITER**: a char[] of n known ints, each 0 to 255 -/
theorem backV {p : Program} {l : Launch} {e : Env} {R : Room} {s : State} {args : Array Value} {below : List Frame} {len W : Nat} {Z : State} {a0 : Array Value} {h : Heap} (hZ : Z.Warmed39 s.vm) (hw : ∀ d ∈ words, d.before a0 Z = true) {kI : Nat} (wi : (Jvm.Cond.instantiable ST kI).before a0 Z = true)
    {x b : Addr} {kC : ClassId} {cs bs : List Int32} {d v0 c0 : Value} {z N : Int32} {n n0 : Nat} (hx0 : n0 ≤ x) (hh0 : n0 ≤ h.size) (E : RoadKit.Exa Z h x ST) (V : RoadKit.Fld Z h x ST "value" "[B" v0) (C : RoadKit.Fld Z h x ST "coder" "B" c0) (K : RoadKit.Arv Z h b kC .char N (cs.map Value.int) d) (S : RoadKit.Sta Z h ST "COMPACT_STRINGS" "Z" (.int z)) (hz : ¬ z = 0)
    (hn : cs.length = n) (hN : N = Int32.ofNat n) (l0 : 0 < n) (l2 : n ≤ 4000) (hp : ∀ c ∈ cs, ¬ c < 0 ∧ ¬ (255 : Int32) < c) (hb : bs = cs.map (fun c => c.toInt8.toInt32)) (hfr : 4 ≤ R.frames) (hlo : W + 65 ≤ R.locals) :
    Back l R p e below s args (⟨"java/lang/String", "<init>", "([C)V"⟩ : MethodName) len W (fun P a => a = #[.ref x, .ref b] ∧ P.U.heap = h ∧ P.cells + 1 ≤ R.cells ∧ P.slots + n ≤ R.slots)
      (fun P _ v B => ∃ L, QV Z x N bs h n0 v B.U.heap L ∧ B.locs = P.locs ++ L ∧ B.cells = P.cells + 1 ∧ B.slots = P.slots + n) := by
  subst hn hN hb
  refine Back.mono (backArv hZ hw wi E V C K S hz (n32 (by omega)) l0 (by omega) (fun c hc => (hp c hc).2) hfr hlo) (fun P a hp => hp) (fun P a v B hp hq => ?_)
  obtain ⟨L, ⟨q1, q2, q3, q4, q5, q6, q7, ⟨kb, v1, v2⟩, q9⟩, hl, hc, hs⟩ := hq
  exact ⟨L, ⟨q1, fun y hy => by rw [q2 y hy]; exact hx0, q3, q5, q7, h.size, kb, hh0, Nat.le_refl _, Nat.ne_of_gt E.lt, q6, by rw [List.map_map]; exact v2⟩, hl, hc, hs⟩
end StrChars.Road
namespace StrChars
open Jvm Sem ClassFile Op Lib Jvm.Stand Jvm.Free.XT Jvm.Free.ALB Jvm.Free.JM Jvm.Free
open Jvm.Lib.Cold (StaticIs)
def hi8 (x : Int32) : Int32 := lo8 (x >>> ((8 : Int32) &&& 31))
/-- what StringUTF16.getChar makes of two bytes -/
def pairCh (u v : Int32) : Int32 := (((u &&& 255) <<< ((0 : Int32) &&& 31)) ||| ((v &&& 255) <<< ((8 : Int32) &&& 31))).toUInt32.toUInt16.toUInt32.toInt32
theorem lo8_and (x : Int32) : (lo8 x &&& 255).toBitVec.toNat = x.toBitVec.toNat % 256 := by
  have h : (lo8 x).toBitVec = (x.toBitVec.signExtend 8).signExtend 32 := by rw [lo8, Int8.toBitVec_toInt32, Int32.toBitVec_toInt8]
  rw [Int32.toBitVec_and, BitVec.toNat_and, h]
  have e : ((x.toBitVec.signExtend 8).signExtend 32).toNat % 256 = x.toBitVec.toNat % 256 := by
    rw [BitVec.toNat_signExtend]
    have hlt := x.toBitVec.isLt
    simp only [BitVec.toNat_setWidth, BitVec.toNat_signExtend]
    split <;> split <;> omega
  rw [← e]
  exact Nat.and_two_pow_sub_one_eq_mod _ 8
theorem pair_says {c : Int32} (h0 : ¬ c < 0) (h1 : ¬ 65535 < c) : pairCh (lo8 c) (hi8 c) = c := by
  rw [Int32.lt_iff_toInt_lt] at h0 h1
  have e0 : (0 : Int32).toInt = 0 := rfl
  have e1 : (65535 : Int32).toInt = 65535 := rfl
  have hc : c.toInt = c.toBitVec.toNat := by
    have := c.toBitVec.isLt
    have e : c.toInt = c.toBitVec.toInt := rfl
    rw [e] at h0 h1
    rw [e]
    rw [BitVec.toInt_eq_toNat_cond] at h0 h1 ⊢
    split at h0 <;> split <;> omega
  have hn : c.toBitVec.toNat < 65536 := by omega
  have a1 := lo8_and c
  have a2 : (hi8 c &&& 255).toBitVec.toNat = c.toBitVec.toNat / 256 := by
    rw [hi8, lo8_and]
    have e : ((8 : Int32) &&& 31) = 8 := by decide
    rw [e, Int32.toBitVec_shiftRight]
    have e2 : ((8 : Int32).toBitVec.smod 32) = 8#32 := by decide
    rw [e2, BitVec.sshiftRight_eq', BitVec.toNat_sshiftRight_of_msb_false (by rw [BitVec.msb_eq_false_iff_two_mul_lt]; omega)]
    show c.toBitVec.toNat >>> 8 % 256 = _
    rw [Nat.shiftRight_eq_div_pow]
    omega
  unfold pairCh
  apply Int32.toBitVec_inj.mp
  apply BitVec.eq_of_toNat_eq
  have f0 : ((0 : Int32) &&& 31) = 0 := by decide
  have f8 : ((8 : Int32) &&& 31) = 8 := by decide
  rw [f0, f8]
  have g : (((lo8 c &&& 255) <<< (0 : Int32)) ||| ((hi8 c &&& 255) <<< (8 : Int32))).toBitVec.toNat = c.toBitVec.toNat := by
    rw [Int32.toBitVec_or, Int32.toBitVec_shiftLeft, Int32.toBitVec_shiftLeft]
    have s0 : ((0 : Int32).toBitVec.smod 32) = 0#32 := by decide
    have s8 : ((8 : Int32).toBitVec.smod 32) = 8#32 := by decide
    rw [s0, s8, BitVec.toNat_or]
    simp only [BitVec.shiftLeft_eq', BitVec.toNat_shiftLeft, a1, a2]
    show (c.toBitVec.toNat % 256) <<< 0 % 2 ^ 32 ||| (c.toBitVec.toNat / 256) <<< 8 % 2 ^ 32 = _
    rw [Nat.shiftLeft_zero, Nat.mod_eq_of_lt (show c.toBitVec.toNat % 256 < 2 ^ 32 by omega), Nat.mod_eq_of_lt (show (c.toBitVec.toNat / 256) <<< 8 < 2 ^ 32 by rw [Nat.shiftLeft_eq]; omega), Nat.or_comm, ← Nat.shiftLeft_add_eq_or_of_lt (by omega), Nat.shiftLeft_eq]
    omega
  show BitVec.toNat (((((lo8 c &&& 255) <<< (0 : Int32)) ||| ((hi8 c &&& 255) <<< (8 : Int32))).toBitVec.setWidth 16).setWidth 32) = _
  rw [BitVec.toNat_setWidth, BitVec.toNat_setWidth, g]
  omega
end StrChars
namespace StrChars
open Jvm Sem ClassFile Op Lib Jvm.Stand Jvm.Free.XT Jvm.Free.ALB Jvm.Free.JM Jvm.Free
open Jvm.Lib.Cold (StaticIs)
/-- the array's cell V codes the n chars f 0 .. f (n - 1) by the coder cd, as the JDK does: coder 1 just where some char is above 255 -/
def Cod (cd : Int32) (n : Nat) (f : Nat → Int32) (V : Cell) : Prop := (cd = 0 ∧ V.slots.size = n ∧ ∀ j, j < n → V.slots[j]? = some (.int (lo8 (f j))) ∧ ¬ 255 < f j) ∨ (cd = 1 ∧ V.slots.size = 2 * n ∧ (∀ j, j < n → V.slots[2 * j]? = some (.int (lo8 (f j))) ∧ V.slots[2 * j + 1]? = some (.int (hi8 (f j)))) ∧ ∃ j, j < n ∧ 255 < f j)
/-- **x is a String of the n chars f 0 .. f (n - 1)**, Latin-1 or UTF-16; its array at t has the cell V -/
def Txt (x t : Addr) (V : Cell) (cd : Int32) (n : Nat) (f : Nat → Int32) (U : State) : Prop := Exact "java/lang/String" x U ∧ Has x "java/lang/String" "value" "[B" (.ref t) U ∧ Has x "java/lang/String" "coder" "B" (.int cd) U ∧ XT.Arr .byte t V U ∧ Cod cd n f V ∧ ∀ j, j < n → ¬ f j < 0 ∧ ¬ 65535 < f j
theorem Txt.mv {x t : Addr} {V : Cell} {cd : Int32} {n : Nat} {f : Nat → Int32} {U U' : State} (h : Txt x t V cd n f U) (hal : U.vm.Alike U'.vm) (hh : U'.heap = U.heap) : Txt x t V cd n f U' := ⟨h.1.mv hal hh, h.2.1.mv hal hh, h.2.2.1.mv hal hh, h.2.2.2.1.mv hal hh, h.2.2.2.2⟩
end StrChars
namespace StrChars.Road
open Jvm Sem ClassFile Op Lib Jvm.Stand Jvm.Free Jvm.Free.XT
open Jvm.Lib.Cold (StaticIs)
theorem consq {a : Array Value} {s : State} {c : Jvm.Cond} {L : List Jvm.Cond} (h0 : c.before a s = true) (h : ∀ w ∈ L, w.before a s = true) : ∀ w ∈ c :: L, w.before a s = true := fun w hw => (List.mem_cons.mp hw).elim (fun e => e ▸ h0) (h w)
/-- the bytes of the chars cs, low before high -/
def wideBytes : List Int32 → List Value
  | [] => []
  | c :: cs => .int (lo8 c) :: .int (hi8 c) :: wideBytes cs
theorem wide_lo (d : Value) : ∀ (cs : List Int32) (j : Nat), j < cs.length → (wideBytes cs).getD (2 * j) d = .int (lo8 (cs.getD j 0))
  | [], j, h => absurd h (Nat.not_lt_zero j)
  | c :: cs, 0, _ => rfl
  | c :: cs, j + 1, h => by
    have q := wide_lo d cs j (by simpa using h)
    rw [show 2 * (j + 1) = 2 * j + 1 + 1 from by omega]
    simpa [wideBytes] using q
theorem wide_hi (d : Value) : ∀ (cs : List Int32) (j : Nat), j < cs.length → (wideBytes cs).getD (2 * j + 1) d = .int (hi8 (cs.getD j 0))
  | [], j, h => absurd h (Nat.not_lt_zero j)
  | c :: cs, 0, _ => rfl
  | c :: cs, j + 1, h => by
    have q := wide_hi d cs j (by simpa using h)
    rw [show 2 * (j + 1) + 1 = 2 * j + 1 + 1 + 1 from by omega]
    simpa [wideBytes] using q
theorem low_at (d : Value) (cs : List Int32) (j : Nat) (h : j < cs.length) : (cs.map fun c => Value.int (lo8 c)).getD j d = .int (lo8 (cs.getD j 0)) := by
  simp [List.getD_eq_getElem?_getD, h]
/-- an array of N2 bytes vs codes the chars cs by the coder cd -/
def CodA (cs : List Int32) (cd N2 : Int32) (vs : List Value) : Prop := (cd = 0 ∧ N2 = Int32.ofNat cs.length ∧ vs = (cs.map fun c => Value.int (lo8 c)) ∧ ∀ c ∈ cs, ¬ 255 < c) ∨ (cd = 1 ∧ N2 = Int32.ofNat (2 * cs.length) ∧ vs = wideBytes cs ∧ ∃ c ∈ cs, 255 < c)
theorem CodA.cod {cs : List Int32} {cd N2 : Int32} {vs : List Value} {V : Cell} (h : CodA cs cd N2 vs) (hn : 2 * cs.length < 2 ^ 31) (hs : V.slots.size = N2.toNatClampNeg) (hv : RoadKit.Has V vs (.int 0)) : Cod cd cs.length (fun j => cs.getD j 0) V := by
  rcases h with ⟨rfl, rfl, rfl, h⟩ | ⟨rfl, rfl, rfl, c, hc, hw⟩
  · rw [n32 (by omega)] at hs
    exact Or.inl ⟨rfl, hs, fun j hj => ⟨by rw [hv j (by omega), low_at _ _ _ hj], by
      have e : cs.getD j 0 = cs[j] := by simp [List.getD_eq_getElem?_getD, hj]
      show ¬ 255 < cs.getD j 0
      rw [e]; exact h _ (List.getElem_mem _)⟩⟩
  · rw [n32 (by omega)] at hs
    obtain ⟨j, hj, rfl⟩ := List.getElem_of_mem hc
    exact Or.inr ⟨rfl, hs, fun j hj => ⟨by rw [hv _ (by omega), wide_lo _ _ _ hj], by rw [hv _ (by omega), wide_hi _ _ _ hj]⟩, j, hj, by
      have e : cs.getD j 0 = cs[j] := by simp [List.getD_eq_getElem?_getD, hj]
      show 255 < cs.getD j 0
      rw [e]; exact hw⟩
/-- an object of exactly java/lang/String, its two fields found: as the laws ask it -/
theorem strObj {Z U : State} {a0 : Array Value} {kI : Nat} (wi : (Jvm.Cond.instantiable ST kI).before a0 Z = true) (al : Z.vm.Alike U.vm) {x : Addr} {v0 c0 : Value} (E : RoadKit.Exa Z U.heap x ST) (V : RoadKit.Fld Z U.heap x ST "value" "[B" v0) (C : RoadKit.Fld Z U.heap x ST "coder" "B" c0) :
    ∃ (D : Cell) (fV fC : Field), Blank ST x D U ∧ Found ST "value" "[B" fV U ∧ Found ST "coder" "B" fC U ∧ D.slots[fV.slot]? = some v0 ∧ D.slots[fC.slot]? = some c0 ∧ RoadKit.slotOf Z ST "value" "[B" = fV.slot ∧ RoadKit.slotOf Z ST "coder" "B" = fC.slot := by
  obtain ⟨D, cfV, kV, iV, fV, hD, gV, stV, knV, obV, asV, slV⟩ := V
  obtain ⟨D', cfC, kC, iC, fC, hD', gC, stC, -, -, asC, slC⟩ := C
  cases hD.symm.trans hD'
  obtain ⟨D2, kD, e1, e2, e3, e4, e5⟩ := E
  cases hD.symm.trans e1
  obtain ⟨c2, k2, i1, i2, i3, -⟩ := Cond.instantiable_spec wi
  cases e2.symm.trans i1
  cases e3.symm.trans i2
  obtain ⟨kU, u1, u2⟩ := al.2.2 _ _ e3
  exact ⟨D, fV, fC, ⟨hD, ⟨knV, fun q hq => by rw [hq] at obV; cases obV⟩, by rw [al.findClass]; exact e2, kU, u1, by rw [u2]; exact i3, by rw [u2]; exact e5 i3⟩, ⟨SBG.found_only al ⟨cfV, kV, iV, gV⟩, stV⟩, ⟨SBG.found_only al ⟨cfC, kC, iC, gC⟩, stC⟩, slV, slC, by simp [RoadKit.slotOf, gV], by simp [RoadKit.slotOf, gC]⟩
theorem sta_is {Z U : State} (al : Z.vm.Alike U.vm) {C n d : String} {v : Value} (S : RoadKit.Sta Z U.heap C n d v) : StaticIs U C n d v := by
  obtain ⟨cfS, iS, kS, fS, st, cS, t1, t2, t3, t4, t5, t6, t7⟩ := S
  exact StaticIs.there (s := { Z with heap := U.heap }) ⟨cfS, iS, kS, fS, st, cS, t1, t2, t3, t4, t5, (fun q => by rw [q] at t6; cases t6), t7⟩ al rfl
end StrChars.Road
namespace StrChars
open Jvm Sem ClassFile Op Lib Jvm.Stand Jvm.Free.XT Jvm.Free.ALB Jvm.Free.JM Jvm.Free
open Jvm.Lib.Cold (StaticIs)
/-- what place i of a byte[]'s cell holds -/
def yv (A : Cell) (i : Nat) : Int32 := match A.slots[i]? with | some (.int x) => x | _ => 0
theorem yv_get {a : Addr} {A : Cell} {U : State} (h : XT.Arr .byte a A U) (ht : Typed .byte A) {i : Nat} (hi : i < A.slots.size) : A.slots[i]? = some (.int (yv A i)) := by
  have e := Array.getElem?_eq_getElem hi
  have f := ht i _ e
  unfold yv; rw [e]
  generalize A.slots[i] = v at f
  cases v <;> simp [fits] at f ⊢
/-- the two arrays are equal, place for place -/
def EqC (A B : Cell) : Prop := A.slots.size = B.slots.size ∧ ∀ i, i < A.slots.size → yv A i = yv B i
/-- a boolean that says whether p -/
def Says01 (q : Prop) (r : Option Value) (s u : State) : Prop := ∃ v : Int32, r = some (.int v) ∧ u.heap = s.heap ∧ ((v = 1 ∧ q) ∨ (v = 0 ∧ ¬ q))
theorem Says01.mv {q : Prop} : ∀ r (U U' V V' : State), U'.heap = U.heap → V.vm.Alike V'.vm → V'.heap = V.heap → Says01 q r U V → Says01 q r U' V' :=
  fun r U U' V V' h1 _ h2 ⟨v, a, b, c⟩ => ⟨v, a, by rw [h1, h2]; exact b, c⟩
namespace LEq
def yN : MethodName := ⟨"java/lang/StringLatin1", "equals", "([B[B)Z"⟩
abbrev yB : ByteArray := jdk_43_method_13_code
theorem d0 : decode yB 0 = .ok (.aload_n 0, 1) := by decide +kernel
theorem d1 : decode yB 1 = .ok (.arraylength, 1) := by decide +kernel
theorem d2 : decode yB 2 = .ok (.aload_n 1, 1) := by decide +kernel
theorem d3 : decode yB 3 = .ok (.arraylength, 1) := by decide +kernel
theorem d4 : decode yB 4 = .ok (.if_icmp (.ne) 30, 3) := by decide +kernel
theorem d7 : decode yB 7 = .ok (.iconst 0, 1) := by decide +kernel
theorem d8 : decode yB 8 = .ok (.istore_n 2, 1) := by decide +kernel
theorem d9 : decode yB 9 = .ok (.iload_n 2, 1) := by decide +kernel
theorem d10 : decode yB 10 = .ok (.aload_n 0, 1) := by decide +kernel
theorem d11 : decode yB 11 = .ok (.arraylength, 1) := by decide +kernel
theorem d12 : decode yB 12 = .ok (.if_icmp (.ge) 20, 3) := by decide +kernel
theorem d15 : decode yB 15 = .ok (.aload_n 0, 1) := by decide +kernel
theorem d16 : decode yB 16 = .ok (.iload_n 2, 1) := by decide +kernel
theorem d17 : decode yB 17 = .ok (.baload, 1) := by decide +kernel
theorem d18 : decode yB 18 = .ok (.aload_n 1, 1) := by decide +kernel
theorem d19 : decode yB 19 = .ok (.iload_n 2, 1) := by decide +kernel
theorem d20 : decode yB 20 = .ok (.baload, 1) := by decide +kernel
theorem d21 : decode yB 21 = .ok (.if_icmp (.eq) 5, 3) := by decide +kernel
theorem d24 : decode yB 24 = .ok (.iconst 0, 1) := by decide +kernel
theorem d25 : decode yB 25 = .ok (.ireturn, 1) := by decide +kernel
theorem d26 : decode yB 26 = .ok (.iinc 2 1, 3) := by decide +kernel
theorem d29 : decode yB 29 = .ok (.goto (-20), 3) := by decide +kernel
theorem d32 : decode yB 32 = .ok (.iconst 1, 1) := by decide +kernel
theorem d33 : decode yB 33 = .ok (.ireturn, 1) := by decide +kernel
theorem d34 : decode yB 34 = .ok (.iconst 0, 1) := by decide +kernel
theorem d35 : decode yB 35 = .ok (.ireturn, 1) := by decide +kernel
def site : List Cond := []
def tab : Cond := tabOf yN yB 3 (some .boolean) site
def P (a : Addr) (A : Cell) (b : Addr) (B : Cell) (args : Array Value) (s : State) : Prop := args = #[.ref a, .ref b] ∧ XT.Arr .byte a A s ∧ Typed .byte A ∧ XT.Arr .byte b B s ∧ Typed .byte B
/-- whether two byte[] are equal, place for place -/
theorem law (l : Launch) (a : Addr) (A : Cell) (b : Addr) (B : Cell) : Law l yN 2 2 0 0 yB 3 (some .boolean) site (P a A b B) (Says01 (EqC A B)) [] 0 0 := by
  refine Law.of_walk (plainFor_of_name (by decide +kernel)) (by decide +kernel) (by decide +kernel) (by decide) (fun _ _ h => by rw [h.1]; rfl) (fun _ U U' hal hh h => ⟨h.1, h.2.1.mv hal hh, h.2.2.1, h.2.2.2.1.mv hal hh, h.2.2.2.2⟩) (fun r U U' V V' h1 hal h2 h => Says01.mv r U U' V V' h1 hal h2 h) ?_
  intro p e s m args below meth c s₁ X0 hexec hbytes hml hret hlk hnm hown hh0 W hP
  obtain ⟨rfl, hA, tA, hB, tB⟩ := hP
  have a31 := hA.2.2.2
  have b31 := hB.2.2.2
  have hA0 := hA.mv X0.warmed.alike hh0
  have hB0 := hB.mv X0.warmed.alike hh0
  have c1 : Steps p.tables e below (s₁.setTop (entryFrame m #[.ref a, .ref b] 3)) (s₁.setTop (mkF m 0 #[.val (.ref a), .val (.ref b), .unset] [])) := entry rfl
  have c2 : Steps p.tables e below (s₁.setTop (entryFrame m #[.ref a, .ref b] 3)) (s₁.setTop (mkF m 4 #[.val (.ref a), .val (.ref b), .unset] [.int (Int32.ofNat B.slots.size), .int (Int32.ofNat A.slots.size)])) := c1.trans (by
    refine XS.aloadN X0.here hexec rfl (hb hbytes d0) rfl rfl ?_
    refine X0.alen hexec hA0 rfl rfl (hb hbytes d1) ?_
    refine XS.aloadN X0.here hexec rfl (hb hbytes d2) rfl rfl ?_
    refine X0.alen hexec hB0 rfl rfl (hb hbytes d3) ?_
    exact Steps.refl _)
  by_cases hs : A.slots.size = B.slots.size
  · have c3 : Steps p.tables e below (s₁.setTop (entryFrame m #[.ref a, .ref b] 3)) (s₁.setTop (mkF m 9 #[.val (.ref a), .val (.ref b), .val (.int 0)] [])) := c2.trans (by
      refine XS.icmpNo X0.here hexec rfl (hb hbytes d4) rfl (ii_ne_f (by rw [hs])) ?_
      refine iconstV X0.here hexec rfl 0 (hb hbytes d7) (by decide) ?_
      refine XS.istoreN X0.here hexec rfl (hb hbytes d8) rfl rfl ?_
      exact Steps.refl _)
    have loop : ∀ (r i : Nat), i + r = A.slots.size → (∀ j, j < i → yv A j = yv B j) → Steps p.tables e below (s₁.setTop (entryFrame m #[.ref a, .ref b] 3)) (s₁.setTop (mkF m 9 #[.val (.ref a), .val (.ref b), .val (.int (Int32.ofNat i))] [])) → ∃ (pc : Nat) (Ls : Array Slot) (v : Int32), (pc = 25 ∨ pc = 33) ∧ ((v = 1 ∧ EqC A B) ∨ (v = 0 ∧ ¬ EqC A B)) ∧ Steps p.tables e below (s₁.setTop (entryFrame m #[.ref a, .ref b] 3)) (s₁.setTop (mkF m pc Ls [.int v])) := by
      intro r
      induction r with
      | zero =>
        intro i hi he cl
        exact ⟨33, _, 1, Or.inr rfl, Or.inl ⟨rfl, hs, fun j hj => he j (by omega)⟩, cl.trans (by
          refine XS.iloadN X0.here hexec rfl (hb hbytes d9) rfl ?_
          refine XS.aloadN X0.here hexec rfl (hb hbytes d10) rfl rfl ?_
          refine X0.alen hexec hA0 rfl rfl (hb hbytes d11) ?_
          refine XS.icmpYes X0.here hexec rfl (pc0 := 12) rfl (hb hbytes d12) rfl (ii_ge_t (nlt32 (by omega) (by omega))) (by decide) rfl ?_
          refine iconstV X0.here hexec rfl 1 (hb hbytes d32) (by decide) ?_
          exact Steps.refl _)⟩
      | succ r ih =>
        intro i hi he cl
        have c4 : Steps p.tables e below (s₁.setTop (entryFrame m #[.ref a, .ref b] 3)) (s₁.setTop (mkF m 21 #[.val (.ref a), .val (.ref b), .val (.int (Int32.ofNat i))] [.int (yv B i), .int (yv A i)])) := cl.trans (by
          refine XS.iloadN X0.here hexec rfl (hb hbytes d9) rfl ?_
          refine XS.aloadN X0.here hexec rfl (hb hbytes d10) rfl rfl ?_
          refine X0.alen hexec hA0 rfl rfl (hb hbytes d11) ?_
          refine XS.icmpNo X0.here hexec rfl (hb hbytes d12) rfl (ii_ge_f (lt32 (by omega) (by omega))) ?_
          refine XS.aloadN X0.here hexec rfl (hb hbytes d15) rfl rfl ?_
          refine XS.iloadN X0.here hexec rfl (hb hbytes d16) rfl ?_
          refine X0.aget hexec hA0 rfl (yv_get hA tA (i := i) (by omega)) rfl rfl (hb hbytes d17) ?_
          refine XS.aloadN X0.here hexec rfl (hb hbytes d18) rfl rfl ?_
          refine XS.iloadN X0.here hexec rfl (hb hbytes d19) rfl ?_
          refine X0.aget hexec hB0 rfl (yv_get hB tB (i := i) (by omega)) rfl rfl (hb hbytes d20) ?_
          exact Steps.refl _)
        by_cases hv : yv A i = yv B i
        · have c5 : Steps p.tables e below (s₁.setTop (entryFrame m #[.ref a, .ref b] 3)) (s₁.setTop (mkF m 9 #[.val (.ref a), .val (.ref b), .val (.int (Int32.ofNat i + 1))] [])) := c4.trans (by
            refine XS.icmpYes X0.here hexec rfl (pc0 := 21) rfl (hb hbytes d21) rfl (ii_eq_t hv) (by decide) rfl ?_
            refine iincV X0.here hexec rfl 1 (hb hbytes d26) (by decide) rfl rfl ?_
            refine XS.goto X0.here hexec rfl (pc0 := 29) rfl (hb hbytes d29) (by decide) rfl ?_
            exact Steps.refl _)
          rw [succ32] at c5
          exact ih (i + 1) (by omega) (fun j hj => by
            by_cases e : j = i
            · rw [e]; exact hv
            · exact he j (by omega)) c5
        · exact ⟨25, _, 0, Or.inl rfl, Or.inr ⟨rfl, fun q => hv (q.2 i (by omega))⟩, c4.trans (by
            refine XS.icmpNo X0.here hexec rfl (hb hbytes d21) rfl (ii_eq_f hv) ?_
            refine iconstV X0.here hexec rfl 0 (hb hbytes d24) (by decide) ?_
            exact Steps.refl _)⟩
    obtain ⟨pc, Ls, v, hpc, hv, cz⟩ := loop A.slots.size 0 (by omega) (fun j hj => absurd hj (Nat.not_lt_zero j)) c3
    have nv : narrow .boolean (.int v) = .int v := by rcases hv with ⟨rfl, -⟩ | ⟨rfl, -⟩ <;> rfl
    rcases hpc with rfl | rfl
    · exact ⟨s₁, some (.int v), _, _, _, X0, rfl, rfl, rfl, (fun h => by cases h), ⟨v, rfl, hh0, hv⟩, fun fs hl => cz.trans (X0.ireturnOut hexec hret nv (Or.inr (Or.inl rfl)) (hb hbytes d25) hl)⟩
    · exact ⟨s₁, some (.int v), _, _, _, X0, rfl, rfl, rfl, (fun h => by cases h), ⟨v, rfl, hh0, hv⟩, fun fs hl => cz.trans (X0.ireturnOut hexec hret nv (Or.inr (Or.inl rfl)) (hb hbytes d33) hl)⟩
  · have c3 : Steps p.tables e below (s₁.setTop (entryFrame m #[.ref a, .ref b] 3)) (s₁.setTop (mkF m 35 #[.val (.ref a), .val (.ref b), .unset] [.int 0])) := c2.trans (by
      refine XS.icmpYes X0.here hexec rfl (pc0 := 4) rfl (hb hbytes d4) rfl (ii_ne_t (ne32 a31 b31 hs)) (by decide) rfl ?_
      refine iconstV X0.here hexec rfl 0 (hb hbytes d34) (by decide) ?_
      exact Steps.refl _)
    exact ⟨s₁, some (.int 0), _, _, _, X0, rfl, rfl, rfl, (fun h => by cases h), ⟨0, rfl, hh0, Or.inr ⟨rfl, fun q => hs q.1⟩⟩, fun fs hl => c3.trans (X0.ireturnOut hexec hret rfl (Or.inr (Or.inl rfl)) (hb hbytes d35) hl)⟩
end LEq
theorem Cod.ty {cd : Int32} {n : Nat} {f : Nat → Int32} {V : Cell} (h : Cod cd n f V) : Typed .byte V := fun i v hv => by
  have hi : i < V.slots.size := (Array.getElem?_eq_some_iff.mp hv).1
  rcases h with ⟨-, k1, k2⟩ | ⟨-, k1, k2, -⟩
  · rw [(k2 i (by omega)).1] at hv; cases hv; exact fits_lo8 _
  · rcases Nat.mod_two_eq_zero_or_one i with e | e
    · obtain ⟨j, rfl⟩ : ∃ j, i = 2 * j := ⟨i / 2, by omega⟩
      rw [(k2 j (by omega)).1] at hv; cases hv; exact fits_lo8 _
    · obtain ⟨j, rfl⟩ : ∃ j, i = 2 * j + 1 := ⟨i / 2, by omega⟩
      rw [(k2 j (by omega)).2] at hv; cases hv; exact fits_lo8 _
/-- the same text -/
def SameT (n : Nat) (f : Nat → Int32) (k : Nat) (g : Nat → Int32) : Prop := n = k ∧ ∀ j, j < n → f j = g j
theorem lo8_inj {x y : Int32} (h0 : ¬ x < 0) (h1 : ¬ 255 < x) (k0 : ¬ y < 0) (k1 : ¬ 255 < y) (h : lo8 x = lo8 y) : x = y := by
  rw [← lo8_mask h0 h1, ← lo8_mask k0 k1, h]
/-- arrays coded by one coder are equal just where the texts are -/
theorem Cod.eqv {cd : Int32} {n k : Nat} {f g : Nat → Int32} {V V' : Cell} (h : Cod cd n f V) (h' : Cod cd k g V') (hf : ∀ j, j < n → ¬ f j < 0 ∧ ¬ 65535 < f j) (hg : ∀ j, j < k → ¬ g j < 0 ∧ ¬ 65535 < g j) : EqC V V' ↔ SameT n f k g := by
  have yvv : ∀ {W : Cell} {i : Nat} {x : Int32}, W.slots[i]? = some (.int x) → yv W i = x := fun q => by unfold yv; rw [q]
  rcases h with ⟨rfl, k1, k2⟩ | ⟨rfl, k1, k2, -⟩
  · rcases h' with ⟨-, m1, m2⟩ | ⟨e, -⟩
    · constructor
      · rintro ⟨e1, e2⟩
        refine ⟨by omega, fun j hj => ?_⟩
        have q := e2 j (by omega)
        rw [yvv (k2 j hj).1, yvv (m2 j (by omega)).1] at q
        exact lo8_inj (hf j hj).1 (k2 j hj).2 (hg j (by omega)).1 (m2 j (by omega)).2 q
      · rintro ⟨rfl, e2⟩
        refine ⟨by omega, fun j hj => ?_⟩
        rw [yvv (k2 j (by omega)).1, yvv (m2 j (by omega)).1, e2 j (by omega)]
    · exact absurd e (by decide)
  · rcases h' with ⟨e, -⟩ | ⟨-, m1, m2, -⟩
    · exact absurd e (by decide)
    · constructor
      · rintro ⟨e1, e2⟩
        refine ⟨by omega, fun j hj => ?_⟩
        have q1 := e2 (2 * j) (by omega)
        have q2 := e2 (2 * j + 1) (by omega)
        rw [yvv (k2 j hj).1, yvv (m2 j (by omega)).1] at q1
        rw [yvv (k2 j hj).2, yvv (m2 j (by omega)).2] at q2
        rw [← pair_says (hf j hj).1 (hf j hj).2, ← pair_says (hg j (by omega)).1 (hg j (by omega)).2, q1, q2]
      · rintro ⟨rfl, e2⟩
        refine ⟨by omega, fun i hi => ?_⟩
        rcases Nat.mod_two_eq_zero_or_one i with e | e
        · obtain ⟨j, rfl⟩ : ∃ j, i = 2 * j := ⟨i / 2, by omega⟩
          rw [yvv (k2 j (by omega)).1, yvv (m2 j (by omega)).1, e2 j (by omega)]
        · obtain ⟨j, rfl⟩ : ∃ j, i = 2 * j + 1 := ⟨i / 2, by omega⟩
          rw [yvv (k2 j (by omega)).2, yvv (m2 j (by omega)).2, e2 j (by omega)]
/-- two codings differ: so do the texts -/
theorem Cod.dif {cd cd' : Int32} {n k : Nat} {f g : Nat → Int32} {V V' : Cell} (h : Cod cd n f V) (h' : Cod cd' k g V') (hne : ¬ cd = cd') : ¬ SameT n f k g := by
  rintro ⟨rfl, e⟩
  rcases h with ⟨rfl, -, k2⟩ | ⟨rfl, -, -, j, hj, hw⟩
  · rcases h' with ⟨rfl, -⟩ | ⟨-, -, -, j, hj, hw⟩
    · exact hne rfl
    · exact (k2 j hj).2 (by rw [e j hj]; exact hw)
  · rcases h' with ⟨-, -, m2⟩ | ⟨rfl, -⟩
    · exact (m2 j hj).2 (by rw [← e j hj]; exact hw)
    · exact hne rfl
/-- an object of exactly C is an instance of C -/
theorem cinst {p : Program} {l : Launch} {e : Env} {R : Room} {s : State} {m : MethodId} {args : Array Value} {below : List Frame} {meth : Method} {c : Code} {T : State} {locs : List Loc} {cells slots : Nat} (X : Stand p l e R s m args below meth c T locs cells slots) (hexec : p.tables.exec = Jvm.exec) {own C : String} {index : Nat} (hown : s.vm.findClass own = some m.cls) (hlink : (Cond.classLink own index C).before args s = true) {a : Addr} (hE : Exact C a T)
    {g : JFrame} (hg : g.method = m) {rest : List Value} (hstack : g.stack = .ref a :: rest) (hdg : decode c.code g.pc = .ok (.instanceof index, 3)) :
    ∃ T', Stand p l e R s m args below meth c T' locs cells slots ∧ T'.heap = T.heap ∧ ∀ target, Steps p.tables e below (T'.setTop { g with pc := g.pc + 3, stack := .int 1 :: rest }) target → Steps p.tables e below (T.setTop g) target := by
  obtain ⟨cB, h1, D, h2, h3, h4⟩ := hE
  have h1' : s.vm.findClass C = some cB := by rw [← X.warmed.alike.findClass]; exact h1
  obtain ⟨vm', X', st⟩ := X.instanceofYes hexec hown hlink h2 h4 h1' (by rw [h3]; exact Jvm.Free.SB.assignable_self _ _) hg hstack hdg
  exact ⟨_, X', rfl, st⟩
theorem cself {p : Program} {l : Launch} {e : Env} {R : Room} {s : State} {m : MethodId} {args : Array Value} {below : List Frame} {meth : Method} {c : Code} {T : State} {locs : List Loc} {cells slots : Nat} (X : Stand p l e R s m args below meth c T locs cells slots) (hexec : p.tables.exec = Jvm.exec) {own C : String} {index : Nat} (hown : s.vm.findClass own = some m.cls) (hlink : (Cond.classLink own index C).before args s = true) {a : Addr} (hE : Exact C a T)
    {g : JFrame} (hg : g.method = m) {rest : List Value} (hstack : g.stack = .ref a :: rest) (hdg : decode c.code g.pc = .ok (.checkcast index, 3)) :
    ∃ T', Stand p l e R s m args below meth c T' locs cells slots ∧ T'.heap = T.heap ∧ ∀ target, Steps p.tables e below (T'.setTop { g with pc := g.pc + 3, stack := .ref a :: rest }) target → Steps p.tables e below (T.setTop g) target := by
  obtain ⟨cB, h1, D, h2, h3, h4⟩ := hE
  have h1' : s.vm.findClass C = some cB := by rw [← X.warmed.alike.findClass]; exact h1
  obtain ⟨vm', X', st⟩ := X.checkcastYes hexec hown hlink h2 h4 h1' (by rw [h3]; exact Jvm.Free.SB.assignable_self _ _) hg hstack hdg
  exact ⟨_, X', rfl, fun t h => st t (by rw [← hstack] at h; exact h)⟩
namespace SEq
def yN : MethodName := ⟨"java/lang/String", "equals", "(Ljava/lang/Object;)Z"⟩
abbrev yB : ByteArray := jdk_42_method_66_code
theorem d0 : decode yB 0 = .ok (.aload_n 0, 1) := by decide +kernel
theorem d1 : decode yB 1 = .ok (.aload_n 1, 1) := by decide +kernel
theorem d2 : decode yB 2 = .ok (.if_acmp (.ne) 5, 3) := by decide +kernel
theorem d5 : decode yB 5 = .ok (.iconst 1, 1) := by decide +kernel
theorem d6 : decode yB 6 = .ok (.ireturn, 1) := by decide +kernel
theorem d7 : decode yB 7 = .ok (.aload_n 1, 1) := by decide +kernel
theorem d8 : decode yB 8 = .ok (.instanceof 10, 3) := by decide +kernel
theorem d11 : decode yB 11 = .ok (.ifCond (.eq) 43, 3) := by decide +kernel
theorem d14 : decode yB 14 = .ok (.aload_n 1, 1) := by decide +kernel
theorem d15 : decode yB 15 = .ok (.checkcast 10, 3) := by decide +kernel
theorem d18 : decode yB 18 = .ok (.astore_n 2, 1) := by decide +kernel
theorem d19 : decode yB 19 = .ok (.getstatic 38, 3) := by decide +kernel
theorem d22 : decode yB 22 = .ok (.ifCond (.eq) 14, 3) := by decide +kernel
theorem d25 : decode yB 25 = .ok (.aload_n 0, 1) := by decide +kernel
theorem d26 : decode yB 26 = .ok (.getfield 15, 3) := by decide +kernel
theorem d29 : decode yB 29 = .ok (.aload_n 2, 1) := by decide +kernel
theorem d30 : decode yB 30 = .ok (.getfield 15, 3) := by decide +kernel
theorem d33 : decode yB 33 = .ok (.if_icmp (.ne) 21, 3) := by decide +kernel
theorem d36 : decode yB 36 = .ok (.aload_n 0, 1) := by decide +kernel
theorem d37 : decode yB 37 = .ok (.getfield 9, 3) := by decide +kernel
theorem d40 : decode yB 40 = .ok (.aload_n 2, 1) := by decide +kernel
theorem d41 : decode yB 41 = .ok (.getfield 9, 3) := by decide +kernel
theorem d44 : decode yB 44 = .ok (.invokestatic 541, 3) := by decide +kernel
theorem d47 : decode yB 47 = .ok (.ifCond (.eq) 7, 3) := by decide +kernel
theorem d50 : decode yB 50 = .ok (.iconst 1, 1) := by decide +kernel
theorem d51 : decode yB 51 = .ok (.goto 4, 3) := by decide +kernel
theorem d54 : decode yB 54 = .ok (.iconst 0, 1) := by decide +kernel
theorem d55 : decode yB 55 = .ok (.ireturn, 1) := by decide +kernel
def site : List Cond := [.classLink "java/lang/String" 10 "java/lang/String", .fieldLink "java/lang/String" 38 "java/lang/String" "COMPACT_STRINGS" "Z", .fieldLink "java/lang/String" 15 "java/lang/String" "coder" "B", .fieldLink "java/lang/String" 9 "java/lang/String" "value" "[B", LEq.tab] ++ staticW "java/lang/String" 541 LEq.yN
def tab : Cond := tabOf yN yB 3 (some .boolean) site
def P (x t : Addr) (V : Cell) (cd : Int32) (n : Nat) (f : Nat → Int32) (y t' : Addr) (V' : Cell) (cd' : Int32) (k : Nat) (g : Nat → Int32) (z : Int32) (args : Array Value) (s : State) : Prop := args = #[.ref x, .ref y] ∧ Txt x t V cd n f s ∧ Txt y t' V' cd' k g s ∧ StaticIs s "java/lang/String" "COMPACT_STRINGS" "Z" (.int z) ∧ ¬ z = 0
/-- equals(Object) of two Strings: whether the texts are the same -/
theorem law (l : Launch) (x t : Addr) (V : Cell) (cd : Int32) (n : Nat) (f : Nat → Int32) (y t' : Addr) (V' : Cell) (cd' : Int32) (k : Nat) (g : Nat → Int32) (z : Int32) : Law l yN 2 1 1 14 yB 3 (some .boolean) site (P x t V cd n f y t' V' cd' k g z) (Says01 (SameT n f k g)) [] 0 0 := by
  refine Law.of_walk (plainFor_of_name (by decide +kernel)) (by decide +kernel) (by decide +kernel) (by decide) (fun _ _ h => by rw [h.1]; rfl) (fun _ U U' hal hh h => ⟨h.1, h.2.1.mv hal hh, h.2.2.1.mv hal hh, h.2.2.2.1.there hal hh, h.2.2.2.2⟩) (fun r U U' V V' h1 hal h2 h => Says01.mv r U U' V V' h1 hal h2 h) ?_
  intro p e s m args below meth c s₁ X0 hexec hbytes hml hret hlk hnm hown hh0 W hP
  obtain ⟨rfl, hx, hy, s1, hz⟩ := hP
  have c1 : Steps p.tables e below (s₁.setTop (entryFrame m #[.ref x, .ref y] 3)) (s₁.setTop (mkF m 2 #[.val (.ref x), .val (.ref y), .unset] [.ref y, .ref x])) := Steps.trans (entry rfl) (by
    show Steps p.tables e below (s₁.setTop (mkF m 0 #[.val (.ref x), .val (.ref y), .unset] [])) _
    refine XS.aloadN X0.here hexec rfl (hb hbytes d0) rfl rfl ?_
    refine XS.aloadN X0.here hexec rfl (hb hbytes d1) rfl rfl ?_
    exact Steps.refl _)
  by_cases hxy : x = y
  · have c2 : Steps p.tables e below (s₁.setTop (entryFrame m #[.ref x, .ref y] 3)) (s₁.setTop (mkF m 6 #[.val (.ref x), .val (.ref y), .unset] [.int 1])) := c1.trans (by
      refine acmpNo X0.here hexec rfl (hb hbytes d2) rfl rfl rfl (by simp [acmp, hxy]) ?_
      refine iconstV X0.here hexec rfl 1 (hb hbytes d5) (by decide) ?_
      exact Steps.refl _)
    subst hxy
    have ec : cd = cd' := by
      obtain ⟨D, fd, a1, a2, a3⟩ := hx.2.2.1
      obtain ⟨D', fd', b1, b2, b3⟩ := hy.2.2.1
      cases a1.symm.trans b1
      obtain ⟨q1, q2, q3, q4⟩ := a2.1
      obtain ⟨r1, r2, r3, r4⟩ := b2.1
      cases q4.symm.trans r4
      cases a3.symm.trans b3; rfl
    have et : t = t' := by
      obtain ⟨D, fd, a1, a2, a3⟩ := hx.2.1
      obtain ⟨D', fd', b1, b2, b3⟩ := hy.2.1
      cases a1.symm.trans b1
      obtain ⟨q1, q2, q3, q4⟩ := a2.1
      obtain ⟨r1, r2, r3, r4⟩ := b2.1
      cases q4.symm.trans r4
      cases a3.symm.trans b3; rfl
    subst ec et
    have ev : V = V' := by cases hx.2.2.2.1.1.symm.trans hy.2.2.2.1.1; rfl
    subst ev
    have hs : SameT n f k g := (Cod.eqv hx.2.2.2.2.1 hy.2.2.2.2.1 hx.2.2.2.2.2 hy.2.2.2.2.2).mp ⟨rfl, fun _ _ => rfl⟩
    exact ⟨s₁, some (.int 1), _, _, _, X0, rfl, rfl, rfl, (fun h => by cases h), ⟨1, rfl, hh0, Or.inl ⟨rfl, hs⟩⟩, fun fs hl => c2.trans (X0.ireturnOut hexec hret rfl (Or.inr (Or.inl rfl)) (hb hbytes d6) hl)⟩
  · have c2 : Steps p.tables e below (s₁.setTop (entryFrame m #[.ref x, .ref y] 3)) (s₁.setTop (mkF m 8 #[.val (.ref x), .val (.ref y), .unset] [.ref y])) := c1.trans (by
      refine acmpYes X0.here hexec rfl (pc0 := 2) rfl (hb hbytes d2) rfl rfl rfl (by simp [acmp, hxy]) (by decide) rfl ?_
      refine XS.aloadN X0.here hexec rfl (hb hbytes d7) rfl rfl ?_
      exact Steps.refl _)
    obtain ⟨T3, X3, q3, st3⟩ := cinst X0 hexec hown (wk W (.classLink "java/lang/String" 10 "java/lang/String")) (hy.mv X0.warmed.alike hh0).1 (g := (mkF m 8 #[.val (.ref x), .val (.ref y), .unset] [.ref y])) rfl (rest := []) rfl (hb hbytes d8)
    have hh3 := q3.trans hh0
    have c4 : Steps p.tables e below (s₁.setTop (entryFrame m #[.ref x, .ref y] 3)) (T3.setTop (mkF m 15 #[.val (.ref x), .val (.ref y), .unset] [.ref y])) := (c2.trans (st3 _ (Steps.refl _))).trans (by
      refine XS.ifNo X3.here hexec rfl (hb hbytes d11) rfl (i0_eq_f (by decide)) ?_
      refine XS.aloadN X3.here hexec rfl (hb hbytes d14) rfl rfl ?_
      exact Steps.refl _)
    obtain ⟨T5, X5, q5, st5⟩ := cself X3 hexec hown (wk W (.classLink "java/lang/String" 10 "java/lang/String")) (hy.mv X3.warmed.alike hh3).1 (g := (mkF m 15 #[.val (.ref x), .val (.ref y), .unset] [.ref y])) rfl (rest := []) rfl (hb hbytes d15)
    have hh5 := q5.trans hh3
    have c6 : Steps p.tables e below (s₁.setTop (entryFrame m #[.ref x, .ref y] 3)) (T5.setTop (mkF m 19 #[.val (.ref x), .val (.ref y), .val (.ref y)] [])) := (c4.trans (st5 _ (Steps.refl _))).trans (by
      refine XS.astoreN X5.here hexec rfl (hb hbytes d18) rfl rfl rfl ?_
      exact Steps.refl _)
    obtain ⟨T7, X7, q7, st7⟩ := X5.sget hexec hown (wk W (.fieldLink "java/lang/String" 38 "java/lang/String" "COMPACT_STRINGS" "Z")) s1 (fun _ _ h => by rw [hh5]; exact h) (g := (mkF m 19 #[.val (.ref x), .val (.ref y), .val (.ref y)] [])) rfl (hb hbytes d19)
    have hh7 := q7.trans hh5
    have c8 : Steps p.tables e below (s₁.setTop (entryFrame m #[.ref x, .ref y] 3)) (T7.setTop (mkF m 26 #[.val (.ref x), .val (.ref y), .val (.ref y)] [.ref x])) := (c6.trans (st7 _ (Steps.refl _))).trans (by
      refine XS.ifNo X7.here hexec rfl (hb hbytes d22) rfl (i0_eq_f hz) ?_
      refine XS.aloadN X7.here hexec rfl (hb hbytes d25) rfl rfl ?_
      exact Steps.refl _)
    obtain ⟨T9, X9, q9, st9⟩ := X7.hget hexec hown (wk W (.fieldLink "java/lang/String" 15 "java/lang/String" "coder" "B")) (hx.mv X7.warmed.alike hh7).2.2.1 (g := (mkF m 26 #[.val (.ref x), .val (.ref y), .val (.ref y)] [.ref x])) rfl (rest := []) rfl (hb hbytes d26)
    have hh9 := q9.trans hh7
    have c10 : Steps p.tables e below (s₁.setTop (entryFrame m #[.ref x, .ref y] 3)) (T9.setTop (mkF m 30 #[.val (.ref x), .val (.ref y), .val (.ref y)] [.ref y, .int cd])) := (c8.trans (st9 _ (Steps.refl _))).trans (by
      refine XS.aloadN X9.here hexec rfl (hb hbytes d29) rfl rfl ?_
      exact Steps.refl _)
    obtain ⟨T11, X11, q11, st11⟩ := X9.hget hexec hown (wk W (.fieldLink "java/lang/String" 15 "java/lang/String" "coder" "B")) (hy.mv X9.warmed.alike hh9).2.2.1 (g := (mkF m 30 #[.val (.ref x), .val (.ref y), .val (.ref y)] [.ref y, .int cd])) rfl (rest := [.int cd]) rfl (hb hbytes d30)
    have hh11 := q11.trans hh9
    have c12 : Steps p.tables e below (s₁.setTop (entryFrame m #[.ref x, .ref y] 3)) (T11.setTop (mkF m 33 #[.val (.ref x), .val (.ref y), .val (.ref y)] [.int cd', .int cd])) := c10.trans (st11 _ (Steps.refl _))
    by_cases hcd : cd = cd'
    · subst hcd
      have c13 : Steps p.tables e below (s₁.setTop (entryFrame m #[.ref x, .ref y] 3)) (T11.setTop (mkF m 37 #[.val (.ref x), .val (.ref y), .val (.ref y)] [.ref x])) := c12.trans (by
        refine XS.icmpNo X11.here hexec rfl (hb hbytes d33) rfl (ii_ne_f rfl) ?_
        refine XS.aloadN X11.here hexec rfl (hb hbytes d36) rfl rfl ?_
        exact Steps.refl _)
      obtain ⟨T14, X14, q14, st14⟩ := X11.hget hexec hown (wk W (.fieldLink "java/lang/String" 9 "java/lang/String" "value" "[B")) (hx.mv X11.warmed.alike hh11).2.1 (g := (mkF m 37 #[.val (.ref x), .val (.ref y), .val (.ref y)] [.ref x])) rfl (rest := []) rfl (hb hbytes d37)
      have hh14 := q14.trans hh11
      have c15 : Steps p.tables e below (s₁.setTop (entryFrame m #[.ref x, .ref y] 3)) (T14.setTop (mkF m 41 #[.val (.ref x), .val (.ref y), .val (.ref y)] [.ref y, .ref t])) := (c13.trans (st14 _ (Steps.refl _))).trans (by
        refine XS.aloadN X14.here hexec rfl (hb hbytes d40) rfl rfl ?_
        exact Steps.refl _)
      obtain ⟨T16, X16, q16, st16⟩ := X14.hget hexec hown (wk W (.fieldLink "java/lang/String" 9 "java/lang/String" "value" "[B")) (hy.mv X14.warmed.alike hh14).2.1 (g := (mkF m 41 #[.val (.ref x), .val (.ref y), .val (.ref y)] [.ref y, .ref t])) rfl (rest := [.ref t]) rfl (hb hbytes d41)
      have hh16 := q16.trans hh14
      have c17 : Steps p.tables e below (s₁.setTop (entryFrame m #[.ref x, .ref y] 3)) (T16.setTop (mkF m 44 #[.val (.ref x), .val (.ref y), .val (.ref y)] [.ref t', .ref t])) := c15.trans (st16 _ (Steps.refl _))
      obtain ⟨v18, T18, X18, E18, g18⟩ := X16.callS hexec (LEq.law l t V t' V') hown (wks W (staticW "java/lang/String" 541 LEq.yN)) (wk W LEq.tab) (W := 0) (Nat.le_of_ble_eq_true rfl) (Nat.le_of_ble_eq_true rfl) (Nat.le_refl _) (Nat.le_refl _) (g := (mkF m 44 #[.val (.ref x), .val (.ref y), .val (.ref y)] [.ref t', .ref t])) rfl (by rw [hml]; rfl) c17 (argsL := [.ref t, .ref t']) (rest := []) rfl rfl (by show 2 * 0 + 0 ≤ _; decide) (hb hbytes d44) (⟨rfl, hx.2.2.2.1.mv X16.warmed.alike hh16, hx.2.2.2.2.1.ty, hy.2.2.2.1.mv X16.warmed.alike hh16, hy.2.2.2.2.1.ty⟩)
      obtain ⟨v, rfl, q18, hv⟩ := E18
      have iff := Cod.eqv hx.2.2.2.2.1 hy.2.2.2.2.1 hx.2.2.2.2.2 hy.2.2.2.2.2
      rcases hv with ⟨rfl, he⟩ | ⟨rfl, he⟩
      · have c19 : Steps p.tables e below (s₁.setTop (entryFrame m #[.ref x, .ref y] 3)) (T18.setTop (mkF m 55 #[.val (.ref x), .val (.ref y), .val (.ref y)] [.int 1])) := Steps.trans g18 (by
          refine XS.ifNo X18.here hexec rfl (hb hbytes d47) rfl (i0_eq_f (by decide)) ?_
          refine iconstV X18.here hexec rfl 1 (hb hbytes d50) (by decide) ?_
          refine XS.goto X18.here hexec rfl (pc0 := 51) rfl (hb hbytes d51) (by decide) rfl ?_
          exact Steps.refl _)
        exact ⟨T18, some (.int 1), _, _, _, X18, rfl, rfl, rfl, (fun h => by cases h), ⟨1, rfl, q18.trans hh16, Or.inl ⟨rfl, iff.mp he⟩⟩, fun fs hl => c19.trans (X18.ireturnOut hexec hret rfl (Or.inr (Or.inl rfl)) (hb hbytes d55) hl)⟩
      · have c19 : Steps p.tables e below (s₁.setTop (entryFrame m #[.ref x, .ref y] 3)) (T18.setTop (mkF m 55 #[.val (.ref x), .val (.ref y), .val (.ref y)] [.int 0])) := Steps.trans g18 (by
          refine XS.ifYes X18.here hexec rfl (pc0 := 47) rfl (hb hbytes d47) rfl (i0_eq_t rfl) (by decide) rfl ?_
          refine iconstV X18.here hexec rfl 0 (hb hbytes d54) (by decide) ?_
          exact Steps.refl _)
        exact ⟨T18, some (.int 0), _, _, _, X18, rfl, rfl, rfl, (fun h => by cases h), ⟨0, rfl, q18.trans hh16, Or.inr ⟨rfl, fun q => he (iff.mpr q)⟩⟩, fun fs hl => c19.trans (X18.ireturnOut hexec hret rfl (Or.inr (Or.inl rfl)) (hb hbytes d55) hl)⟩
    · have c13 : Steps p.tables e below (s₁.setTop (entryFrame m #[.ref x, .ref y] 3)) (T11.setTop (mkF m 55 #[.val (.ref x), .val (.ref y), .val (.ref y)] [.int 0])) := c12.trans (by
        refine XS.icmpYes X11.here hexec rfl (pc0 := 33) rfl (hb hbytes d33) rfl (ii_ne_t hcd) (by decide) rfl ?_
        refine iconstV X11.here hexec rfl 0 (hb hbytes d54) (by decide) ?_
        exact Steps.refl _)
      exact ⟨T11, some (.int 0), _, _, _, X11, rfl, rfl, rfl, (fun h => by cases h), ⟨0, rfl, hh11, Or.inr ⟨rfl, Cod.dif hx.2.2.2.2.1 hy.2.2.2.2.1 hcd⟩⟩, fun fs hl => c13.trans (X11.ireturnOut hexec hret rfl (Or.inr (Or.inl rfl)) (hb hbytes d55) hl)⟩
theorem pays {l : Launch} {R : Room} {p : Program} {e : Env} {below : List Frame} {s : State} {sargs : Array Value} {len W : Nat} (x t : Addr) (V : Cell) (cd : Int32) (n : Nat) (f : Nat → Int32) (y t' : Addr) (V' : Cell) (cd' : Int32) (k : Nat) (g : Nat → Int32) (z : Int32) (htab : tab.before sargs s = true) (hfr : 2 ≤ R.frames) (hlo : W + 28 ≤ R.locals) :
    Back l R p e below s sargs yN len W (fun A₁ a₁ => A₁.cells + 0 ≤ R.cells ∧ A₁.slots + 0 ≤ R.slots ∧ P x t V cd n f y t' V' cd' k g z a₁ A₁.U) (fun A₁ _ v₁ B₁ => Says01 (SameT n f k g) v₁ A₁.U B₁.U ∧ B₁.locs = A₁.locs ++ [] ∧ B₁.cells = A₁.cells + 0 ∧ B₁.slots = A₁.slots + 0) :=
  (law l x t V cd n f y t' V' cd' k g z).pays htab hfr (by omega)
end SEq
end StrChars
namespace StrChars.Road
open Jvm Sem ClassFile Op Lib Jvm.Stand Jvm.Free Jvm.Free.XT
open Jvm.Lib.Cold (StaticIs)
/-- the words of String.equals(Object) -/
abbrev wordsEq : List Jvm.Cond := [.code SEq.yN SEq.yB 3 (some .boolean), .initialized ST, .classLink ST 10 ST, .fieldLink ST 38 ST "COMPACT_STRINGS" "Z", .fieldLink ST 15 ST "coder" "B", .fieldLink ST 9 ST "value" "[B", .methodLink ST 541 LEq.yN, .static LEq.yN, .code LEq.yN LEq.yB 3 (some .boolean), .initialized "java/lang/StringLatin1"]
theorem tabEq_of {a : Array Value} {s : State} (h : ∀ w ∈ wordsEq, w.before a s = true) : SEq.tab.before a s = true := by
  have hl : LEq.tab.before a s = true := unparts (wk h (.code LEq.yN LEq.yB 3 (some .boolean))) (wks h (.initialized LEq.yN.cls :: LEq.site))
  have q := consq hl h
  exact unparts (wk q (.code SEq.yN SEq.yB 3 (some .boolean))) (wks q (.initialized SEq.yN.cls :: SEq.site))
theorem movedEq {Z s : State} {a0 args : Array Value} (hZ : Z.Warmed39 s.vm) (hw : ∀ d ∈ wordsEq, d.before a0 Z = true) : ∀ d ∈ wordsEq, d.before args s = true := fun d hd => by
  have t : ∀ d ∈ wordsEq, (d.onTables && d.keepsFace) = true := by decide +kernel
  exact RoadKit.mv hZ (hw d hd) (t d hd)
/-- the road's facts of a String, as the laws ask it -/
theorem txt_of {Z U : State} {a0 : Array Value} {kI : Nat} (wi : (Jvm.Cond.instantiable ST kI).before a0 Z = true) (al : Z.vm.Alike U.vm) {x t : Addr} {kb : ClassId} {cs : List Int32} {cd N2 : Int32} {vs : List Value} (E : RoadKit.Exa Z U.heap x ST) (V : RoadKit.Fld Z U.heap x ST "value" "[B" (.ref t)) (C : RoadKit.Fld Z U.heap x ST "coder" "B" (.int cd)) (K : RoadKit.Arv Z U.heap t kb .byte N2 vs (.int 0)) (hc : CodA cs cd N2 vs) (hb : ∀ c ∈ cs, ¬ c < 0 ∧ ¬ (65535 : Int32) < c) (l2 : cs.length ≤ 4000) :
    ∃ A, Txt x t A cd cs.length (fun j => cs.getD j 0) U := by
  obtain ⟨A, K1, K2, K3, K4, K5, K6⟩ := K
  have hcod := hc.cod (by omega) K3 K5
  obtain ⟨D, fV, fC, hB, F1, F2, g1, g2, -, -⟩ := strObj wi al E V C
  exact ⟨A, ⟨_, hB.2.2.1, D, hB.1, rfl, by cases q : D.vm <;> first | rfl | exact absurd q (hB.2.1.2 _)⟩, Has.of hB F1 g1, Has.of hB F2 g2, ⟨K1.1, State.isArrayOf_alike al K1.2.1, K1.2.2, by rcases hcod with ⟨-, q, -⟩ | ⟨-, q, -⟩ <;> omega⟩, hcod, fun j hj => by
    have e : cs.getD j 0 = cs[j] := by simp [List.getD_eq_getElem?_getD, hj]
    show ¬ cs.getD j 0 < 0 ∧ ¬ 65535 < cs.getD j 0
    rw [e]; exact hb _ (List.getElem_mem _)⟩
theorem same_list (cs ds : List Int32) : SameT cs.length (fun j => cs.getD j 0) ds.length (fun j => ds.getD j 0) ↔ cs = ds := by
  constructor
  · rintro ⟨e, q⟩
    refine List.ext_getElem e fun j h1 h2 => ?_
    have := q j h1
    simpa [List.getD_eq_getElem?_getD, h1, h2] using this
  · rintro rfl
    exact ⟨rfl, fun _ _ => rfl⟩
/-- **equals(Object) OF TWO SUCH STRINGS**: 1 just where the chars are the same -/
theorem eqW {p : Program} {l : Launch} {e : Env} {R : Room} {s : State} {args : Array Value} {below : List Frame} {len W : Nat} {Z : State} {a0 : Array Value} {h : Heap} (hZ : Z.Warmed39 s.vm) (hw : ∀ d ∈ wordsEq, d.before a0 Z = true) {kI : Nat} (wi : (Jvm.Cond.instantiable ST kI).before a0 Z = true)
    {x t : Addr} {kb : ClassId} {cs : List Int32} {cd N2 : Int32} {vs : List Value} (E : RoadKit.Exa Z h x ST) (V : RoadKit.Fld Z h x ST "value" "[B" (.ref t)) (C : RoadKit.Fld Z h x ST "coder" "B" (.int cd)) (K : RoadKit.Arv Z h t kb .byte N2 vs (.int 0)) (hc : CodA cs cd N2 vs) (hb : ∀ c ∈ cs, ¬ c < 0 ∧ ¬ (65535 : Int32) < c) (l2 : cs.length ≤ 4000)
    {y t' : Addr} {kb' : ClassId} {ds : List Int32} {cd' N2' : Int32} {vs' : List Value} (E' : RoadKit.Exa Z h y ST) (V' : RoadKit.Fld Z h y ST "value" "[B" (.ref t')) (C' : RoadKit.Fld Z h y ST "coder" "B" (.int cd')) (K' : RoadKit.Arv Z h t' kb' .byte N2' vs' (.int 0)) (hc' : CodA ds cd' N2' vs') (hb' : ∀ c ∈ ds, ¬ c < 0 ∧ ¬ (65535 : Int32) < c) (l2' : ds.length ≤ 4000)
    {z : Int32} (S : RoadKit.Sta Z h ST "COMPACT_STRINGS" "Z" (.int z)) (hz : ¬ z = 0) (hfr : 2 ≤ R.frames) (hlo : W + 28 ≤ R.locals) :
    Back l R p e below s args (⟨"java/lang/String", "equals", "(Ljava/lang/Object;)Z"⟩ : MethodName) len W (fun P a => a = #[.ref x, .ref y] ∧ P.U.heap = h ∧ P.cells + 0 ≤ R.cells ∧ P.slots + 0 ≤ R.slots)
      (fun P _ v B => ∃ L, (((v = some (.int 1) ∧ cs = ds) ∨ (v = some (.int 0) ∧ ¬ cs = ds)) ∧ L = [] ∧ B.U.heap = h) ∧ B.locs = P.locs ++ L ∧ B.cells = P.cells + 0 ∧ B.slots = P.slots + 0) := by
  intro m meth c P g ig mk a X hg hsize hdg hW hn hp'
  obtain ⟨rfl, rfl, r1, r2⟩ := hp'
  have al : Z.vm.Alike P.U.vm := hZ.alike.trans X.warmed.alike
  obtain ⟨A, hx⟩ := txt_of wi al E V C K hc hb l2
  obtain ⟨A', hy⟩ := txt_of wi al E' V' C' K' hc' hb' l2'
  obtain ⟨v, B, X', ⟨⟨w, hv, hh, hq⟩, hl, hk, hs⟩, st⟩ := SEq.pays x t A cd cs.length (fun j => cs.getD j 0) y t' A' cd' ds.length (fun j => ds.getD j 0) z (tabEq_of (movedEq hZ hw)) hfr hlo m meth c P g ig mk _ X hg hsize hdg hW hn ⟨r1, r2, rfl, hx, hy, sta_is al S, hz⟩
  refine ⟨v, B, X', ⟨[], ⟨?_, rfl, hh⟩, hl, hk, hs⟩, st⟩
  rcases hq with ⟨rfl, q⟩ | ⟨rfl, q⟩
  · exact Or.inl ⟨hv, (same_list cs ds).mp q⟩
  · exact Or.inr ⟨hv, fun e => q ((same_list cs ds).mpr e)⟩
end StrChars.Road
namespace StrChars.Road
open Jvm Sem ClassFile Op Lib Jvm.Stand Jvm.Free Jvm.Free.XT
open Jvm.Lib.Cold (StaticIs)
/-- what backV says of its String, as the contracts of this text ask it: cs's low bytes, coder 0 -/
theorem codOf {cs : List Int32} {n : Nat} (hn : cs.length = n) (hb : ∀ c ∈ cs, ¬ 255 < c) : CodA cs 0 (Int32.ofNat n) ((cs.map lo8).map Value.int) := Or.inl ⟨rfl, by rw [hn], by simp [List.map_map, Function.comp_def], hb⟩
end StrChars.Road
end Jvm.Pilot.@@N@@
namespace Jvm.Pilot.@@N@@
open Jvm Jvm.ClassFile Sem Op Lib Jvm.Free Jvm.Stand Jvm.LawKit Jvm.RoadKit Bundle Jvm.Pilot.@@N@@.Jvm.D
set_option maxRecDepth 65536
set_option maxHeartbeats 40000000
abbrev HW (Z : State) (a0 : Array Value) : Prop := ∀ d ∈ tables_1, d.before a0 Z = true
abbrev oR (f c s l : Nat) : Room := { frames := f, cells := c, slots := s, locals := l }
abbrev MF (l : Launch) (Z : State) (y : MethodName) (code : ByteArray) (maxL : Nat) (ret : Option FieldType) (ws : List Jvm.Cond) (rm : Room) (as' : Array Value) (h0 : Heap) (Q : Option Value → Heap → List Loc → Prop) : Prop :=
  MetFree l y (head1 (Jvm.Cond.code y code maxL ret :: ws) rm) (fun a U => a = as' ∧ Z.Warmed39 U.vm ∧ U.heap = h0) (fun _ _ _ _ _ => True) (fun _ U o U' => ∃ v L, o = .returned v ∧ Q v U'.heap L ∧ FrameEnd U o U' L rm.cells rm.slots)
theorem own_body {l : Launch} {Z : State} {y : MethodName} {code : ByteArray} {maxL : Nat} {ret : Option FieldType} {ws : List Jvm.Cond} {rm : Room} {as' : Array Value} {h0 : Heap} {Q : Option Value → Heap → List Loc → Prop} {cls : String} (hp : plainFor y = true) (hc : y.cls = cls)
    (body : ∀ (p : Program) (e : Env) (s : State) (m : MethodId) (below : List Frame) (meth : Method) (c : Code) (s₁ : State), p.tables.exec = Jvm.exec → c.code = code → c.maxLocals = maxL → s.vm.findClass cls = some m.cls → meth.name = y.name → meth.sig.returnType = ret → Z.Warmed39 s.vm → Stand p l e rm s m as' below meth c s₁ [] 0 0 → s₁.heap = h0 →
      ∃ (T : State) (L : List Loc) (k n : Nat) (v : Option Value), Stand p l e rm s m as' below meth c T L k n ∧ k ≤ rm.cells ∧ n ≤ rm.slots ∧ (ret = none → v = none) ∧ Q v T.heap L ∧ ∀ fs, (∀ (f : JFrame) (acts : List Action), f.method = m → f.locked = none → f.entered = [] → (doReturn e (T.setTop f) acts v).1 = T.setFrames fs) → Steps p.tables e below (s₁.setTop (entryFrame m as' maxL)) (T.setFrames fs)) : MF l Z y code maxL ret ws rm as' h0 Q := by
  refine MetFree.of_bodySF hp hisR ?_
  intro p e s m args below meth c s₁ Bd hml0 hP hK
  obtain ⟨rfl, hZ, hh⟩ := hP
  obtain ⟨T, L, k, n, v, X, hk, hn, hv, hQ, hs⟩ := body p e s m below meth c s₁ Bd.exec Bd.bytes hml0 (hc ▸ findClass_of_methodNamed Bd.named) (name_of_methodNamed Bd.named Bd.method).1 Bd.returns hZ (Stand.of_body Bd) (by rw [← hh, Bd.state]; rfl)
  obtain ⟨fs, hr, hrun, hended, hW, hsame⟩ := X.leave (v := v) (fun h => hv (by rw [← Bd.returns]; exact h))
  exact ⟨_, _, hs fs hr, hrun, hended, v, L, rfl, hQ, ⟨_, rfl⟩, hW, hsame.mono hk hn⟩
theorem own_l {a b : Nat} (h : a < b) : a < b := h
theorem own_ne {a b : Nat} (h : a < b ∨ b < a) : a ≠ b := by omega
abbrev vI (x : Int32) : Slot := .val (.int x)
abbrev vA (a : Addr) : Slot := .val (.ref a)
theorem own_cat {v : Value} (h : v.isRef = true) : v.category = 1 := by rcases ref_cases h with rfl | ⟨_, rfl⟩ <;> rfl
theorem own_narrow_ref {t : FieldType} {v : Value} (h : v.isRef = true) : narrow t v = v := by rcases ref_cases h with rfl | ⟨_, rfl⟩ <;> (cases t <;> rfl)
theorem own_fits_ref {t : FieldType} {v : Value} (h : v.isRef = true) (ht : t.isReference = true) : fits t v = true := by rcases ref_cases h with rfl | ⟨_, rfl⟩ <;> (cases t <;> first | rfl | (cases ht; done))
theorem w_5 {Z : State} {a0 : Array Value} (hw : HW Z a0) : (Jvm.Cond.initialized "java/lang/String").before a0 Z = true := hw _ (List.mem_of_getElem? (i := 5) rfl)
theorem w_13 {Z : State} {a0 : Array Value} (hw : HW Z a0) : (Jvm.Cond.instantiable "java/lang/String" (4 : Nat)).before a0 Z = true := hw _ (List.mem_of_getElem? (i := 13) rfl)
theorem w_17 {Z : State} {a0 : Array Value} (hw : HW Z a0) : (Jvm.Cond.arrayClass FieldType.byte).before a0 Z = true := hw _ (List.mem_of_getElem? (i := 17) rfl)
theorem w_26 {Z : State} {a0 : Array Value} (hw : HW Z a0) : (Jvm.Cond.laysFinal "java/lang/String" "java/lang/String" "value" "[B").before a0 Z = true := hw _ (List.mem_of_getElem? (i := 26) rfl)
theorem w_28 {Z : State} {a0 : Array Value} (hw : HW Z a0) : (Jvm.Cond.laysFinal "java/lang/String" "java/lang/String" "coder" "B").before a0 Z = true := hw _ (List.mem_of_getElem? (i := 28) rfl)
theorem w_34 {Z : State} {a0 : Array Value} (hw : HW Z a0) : (Jvm.Cond.soleField "java/lang/String" "value").before a0 Z = true := hw _ (List.mem_of_getElem? (i := 34) rfl)
theorem w_35 {Z : State} {a0 : Array Value} (hw : HW Z a0) : (Jvm.Cond.soleField "java/lang/String" "coder").before a0 Z = true := hw _ (List.mem_of_getElem? (i := 35) rfl)
theorem w_33 {Z : State} {a0 : Array Value} (hw : HW Z a0) : (Jvm.Cond.stringLink "com/example/upright_harness/uprightharness/Account" (7 : Nat) "user").before a0 Z = true := hw _ (List.mem_of_getElem? (i := 33) rfl)
theorem w_43 {Z : State} {a0 : Array Value} (hw : HW Z a0) : (Jvm.Cond.stringLink "com/example/upright_harness/uprightharness/Account" (22 : Nat) "password").before a0 Z = true := hw _ (List.mem_of_getElem? (i := 43) rfl)
theorem w_48 {Z : State} {a0 : Array Value} (hw : HW Z a0) : (Jvm.Cond.stringLink "com/example/upright_harness/uprightharness/Account" (29 : Nat) "target").before a0 Z = true := hw _ (List.mem_of_getElem? (i := 48) rfl)
theorem w_59 {Z : State} {a0 : Array Value} (hw : HW Z a0) : (Jvm.Cond.stringLink "com/example/upright_harness/uprightharness/Account" (35 : Nat) "Account[user=").before a0 Z = true := hw _ (List.mem_of_getElem? (i := 59) rfl)
theorem w_128 {Z : State} {a0 : Array Value} (hw : HW Z a0) : (Jvm.Cond.stringLink "com/example/upright_harness/uprightharness/Account" (46 : Nat) ", target=").before a0 Z = true := hw _ (List.mem_of_getElem? (i := 128) rfl)
theorem w_211 {Z : State} {a0 : Array Value} (hw : HW Z a0) : (Jvm.Cond.stringLink "com/example/upright_harness/uprightharness/Account" (44 : Nat) ", domain=").before a0 Z = true := hw _ (List.mem_of_getElem? (i := 211) rfl)
theorem w_229 {Z : State} {a0 : Array Value} (hw : HW Z a0) : (Jvm.Cond.stringLink "com/example/upright_harness/uprightharness/AccountToStringPinLaw" (7 : Nat) "").before a0 Z = true := hw _ (List.mem_of_getElem? (i := 229) rfl)
theorem own_wS {Z : State} {a0 : Array Value} (hw : HW Z a0) : ∀ a ∈ Bundle.stringAtoms, a.before a0 Z = true := fun d hd => by
  simp only [Bundle.stringAtoms, Bundle.sN, List.mem_cons, List.not_mem_nil, or_false] at hd
  rcases hd with rfl | rfl | rfl | rfl | rfl | rfl | rfl
  · exact (w_5 hw)
  · exact (w_13 hw)
  · exact (w_17 hw)
  · exact (w_26 hw)
  · exact (w_28 hw)
  · exact (w_34 hw)
  · exact (w_35 hw)
def own_EL : List (String × Nat) := [("com/example/upright_harness/uprightharness/Account", 35), ("com/example/upright_harness/uprightharness/Account", 44), ("com/example/upright_harness/uprightharness/Account", 46), ("com/example/upright_harness/uprightharness/AccountToStringPinLaw", 7)]
theorem own_EW {Z : State} {a0 : Array Value} (hw : HW Z a0) : EW Z a0 own_EL := (EW.cons (w_59 hw) (by decide) (EW.cons (w_211 hw) (by decide) (EW.cons (w_128 hw) (by decide) (EW.cons (w_229 hw) (by decide) EW.nil))))
abbrev sta0 (Z : State) (v : Value) : Prop := Sta Z Z.heap "java/lang/String" "COMPACT_STRINGS" "Z" v
abbrev fld0 (Z : State) (h : Heap) (a : Addr) (v : Value) : Prop := Fld Z h a "java/lang/String" "value" "[B" v
abbrev fld1 (Z : State) (h : Heap) (a : Addr) (v : Value) : Prop := Fld Z h a "java/lang/String" "coder" "B" v
abbrev fld2 (Z : State) (h : Heap) (a : Addr) (v : Value) : Prop := Fld Z h a "java/lang/AbstractStringBuilder" "value" "[B" v
abbrev fld3 (Z : State) (h : Heap) (a : Addr) (v : Value) : Prop := Fld Z h a "java/lang/AbstractStringBuilder" "coder" "B" v
abbrev fld4 (Z : State) (h : Heap) (a : Addr) (v : Value) : Prop := Fld Z h a "java/lang/AbstractStringBuilder" "count" "I" v
theorem own_nb (y : Int32) : nar .byte (y.toInt8.toInt32) = y.toInt8.toInt32 := by
  have e : nar .byte (y.toInt8.toInt32) = y.toInt8.toInt32.toInt8.toInt32 := rfl
  rw [e]
  have q1 := c_i2b y
  have q2 := c_i2b y.toInt8.toInt32
  apply Int32.toInt_inj.mp
  omega
abbrev oB (y : Int32) : Int32 := y.toInt8.toInt32
theorem d0 : decode jdk_43_method_3_code 0 = .ok (.iload_n 0, 1) := by decide +kernel
theorem d1 : decode jdk_43_method_3_code 1 = .ok (.sipush 255, 3) := by decide +kernel
theorem d2 : decode jdk_43_method_3_code 4 = .ok (.if_icmp .gt 7, 3) := by decide +kernel
theorem d3 : decode jdk_43_method_3_code 7 = .ok (.iconst 1, 1) := by decide +kernel
theorem d4 : decode jdk_43_method_3_code 8 = .ok (.goto 4, 3) := by decide +kernel
theorem d5 : decode jdk_43_method_3_code 12 = .ok (.ireturn, 1) := by decide +kernel
theorem pn_0 : plainName "java/lang/StringLatin1" = true := by first | (simp [plainName, overriddenIn]; done) | decide +kernel
theorem ef_0 (m : MethodId) (x0 : Int32) : entryFrame m #[(.int x0)] 1 = mkF m 0 #[vI x0] [] := by first | (simp [entryFrame, mkF, argsToLocals, Value.category, maxLocals]; done) | rfl
abbrev m_0 : MethodName := (⟨"java/lang/StringLatin1", "canEncode", "(C)Z"⟩ : MethodName)
def Q_canEnc (Z : State) (q : Int32) (h0 : Heap) (n0 : Nat) (v : Option Value) (h : Heap) (L : List Loc) : Prop := (v = some (.int 1)) ∧ (Fr n0 L) ∧ (h = h0)
theorem rm_canEnc (l : Launch) (Z : State) (a0 : Array Value) (hw : HW Z a0) (ws : List Jvm.Cond) (q : Int32) (h0 : Heap) (n0 : Nat) (Z0 : n0 ≤ h0.size) (hlo : ¬ ((255 : Int32) < q)) :
    MF l Z m_0 jdk_43_method_3_code 1 (some .boolean) ws (oR 0 0 0 0) #[(.int q)] h0 (Q_canEnc Z q h0 n0) := by
  refine own_body (cls := "java/lang/StringLatin1") (plainFor_of_name pn_0) rfl (fun p e s m below meth c s₁ hx hby hml hown hnm hret hZ X0 e0 => ?_)
  have N0 := Fr.nil n0
  refine ⟨_, _, _, _, some (.int 1), X0, by decide, by decide, nofun, ?_, fun fs hr => castTop (ef_0 m q) ?_⟩
  · show Q_canEnc Z q h0 n0 _ s₁.heap _
    rw [(e0 : s₁.heap = h0)]
    exact ⟨rfl, N0, rfl⟩
  · show Steps _ _ _ (s₁.setTop (mkF m 0 #[vI q] [])) _
    refine XS.iloadN X0.here hx rfl (hb hby d0) rfl ?_
    refine XS.sipush X0.here hx rfl (hb hby d1) ?_
    refine XS.icmpNo X0.here hx rfl (hb hby d2) rfl (flt (hlo : ¬ ((255 : Int32) < q))).2.2.1 ?_
    refine XS.iconst X0.here hx rfl (hb hby d3) ?_
    refine XS.goto X0.here hx rfl (pc0 := 8) (pc' := 12) rfl (hb hby d4) (by decide) (by decide) ?_
    exact retN X0 hx (t := .boolean) hret (by simp) (hb hby d5) hr
theorem d6 : decode jdk_43_method_46_code 0 = .ok (.iconst 1, 1) := by decide +kernel
theorem d7 : decode jdk_43_method_46_code 1 = .ok (.newarray .byte, 2) := by decide +kernel
theorem d8 : decode jdk_43_method_46_code 3 = .ok (.dup, 1) := by decide +kernel
theorem d9 : decode jdk_43_method_46_code 4 = .ok (.iconst 0, 1) := by decide +kernel
theorem d10 : decode jdk_43_method_46_code 5 = .ok (.iload_n 0, 1) := by decide +kernel
theorem d11 : decode jdk_43_method_46_code 6 = .ok (.i2b, 1) := by decide +kernel
theorem d12 : decode jdk_43_method_46_code 7 = .ok (.bastore, 1) := by decide +kernel
theorem d13 : decode jdk_43_method_46_code 8 = .ok (.areturn, 1) := by decide +kernel
abbrev m_1 : MethodName := (⟨"java/lang/StringLatin1", "toBytes", "(C)[B"⟩ : MethodName)
def Q_toB (Z : State) (q : Int32) (h0 : Heap) (n0 : Nat) (v : Option Value) (h : Heap) (L : List Loc) : Prop := ∃ (b : Addr) (k : ClassId), (v = some (.ref b)) ∧ (Fr n0 L) ∧ (Keep h0 h []) ∧ (h0.size ≤ b) ∧ (Arv Z h b k .byte (1 : Int32) [(.int (oB q))] (.int 0))
theorem rm_toB (l : Launch) (Z : State) (a0 : Array Value) (hw : HW Z a0) (ws : List Jvm.Cond) (q : Int32) (h0 : Heap) (n0 : Nat) (Z0 : n0 ≤ h0.size) :
    MF l Z m_1 jdk_43_method_46_code 1 (some (.array .byte)) ws (oR 0 1 1 0) #[(.int q)] h0 (Q_toB Z q h0 n0) := by
  refine own_body (cls := "java/lang/StringLatin1") (plainFor_of_name pn_0) rfl (fun p e s m below meth c s₁ hx hby hml hown hnm hret hZ X0 e0 => ?_)
  have N0 := Fr.nil n0
  have K0 := Keep.refl h0 []
  obtain ⟨T1, h1, k1, X1, e1, E1, A1, st1⟩ := newP X0 hx hZ (aty := .byte) (w_17 hw) e0 (g := (mkF m 1 #[vI q] [(.int 1)])) rfl (hb hby d7) rfl (by decide) (cap := 1) (by decide) (by decide) (by decide) (by decide)
  obtain ⟨b1, g1⟩ : ∃ z, z = h0.size := ⟨_, rfl⟩
  rw [← g1] at A1 st1
  have z1 := E1.1
  have K1 := K0.ext E1
  have V1 : Arv Z h1 b1 k1 .byte (1 : Int32) [(.int 0)] (.int 0) := (Arv.new A1 (by decide)).pad (pad_rep [] (.int 0) 1)
  have lt2 := own_l V1.lt
  obtain ⟨cl3, Ar3, q3, S3, M3, H3, G3⟩ := id V1
  have hin3 : ¬ ((0 : Int32) < 0 ∨ cl3.slots.size ≤ ((0 : Int32)).toNatClampNeg) := inb_of S3 ⟨by decide, by decide⟩
  obtain ⟨T3, h3, X3, e3, W3, st3⟩ := stB X1 hx hZ e1 Ar3 (j := (0 : Int32)) hin3 (g := (mkF m 7 #[vI q] [(.int (q.toInt8.toInt32)), (.int 0), (.ref b1), (.ref b1)])) rfl rfl (hb hby d12)
  have V3 : Arv Z h3 b1 k1 .byte (1 : Int32) [(.int (nar .byte (q.toInt8.toInt32)))] (.int 0) := Arv.set Ar3 q3 S3 M3 H3 G3 (fits_nar_byte (q.toInt8.toInt32)) W3 0 rfl (Nat.le_of_ble_eq_true rfl)
  have z3 := W3.size
  have K3 := K1.wr W3 (Or.inr (by omega))
  have N3 := Fr.snoc X3 N0 (by omega)
  have Vq : Arv Z h3 b1 k1 .byte (1 : Int32) [(.int (oB q))] (.int 0) := by have vq := V3; rw [own_nb] at vq; exact vq
  refine ⟨_, _, _, _, some (.ref b1), X3, by decide, by decide, nofun, ?_, fun fs hr => castTop (ef_0 m q) ?_⟩
  · show Q_toB Z q h0 n0 _ T3.heap _
    rw [(e3 : T3.heap = h3)]
    exact ⟨b1, k1, rfl, N3, K3, (by omega), Vq⟩
  · show Steps _ _ _ (s₁.setTop (mkF m 0 #[vI q] [])) _
    refine XS.iconst X0.here hx rfl (hb hby d6) ?_
    refine st1 _ ?_
    show Steps _ _ _ (T1.setTop (mkF m 3 #[vI q] [(.ref b1)])) _
    refine XS.dup X1.here hx rfl (hb hby d8) rfl rfl ?_
    refine XS.iconst X1.here hx rfl (hb hby d9) ?_
    refine XS.iloadN X1.here hx rfl (hb hby d10) rfl ?_
    refine XS.i2b X1.here hx rfl (hb hby d11) rfl ?_
    refine st3 _ ?_
    show Steps _ _ _ (T3.setTop (mkF m 8 #[vI q] [(.ref b1)])) _
    exact retOut X3 hx hret (own_narrow_ref rfl) (Or.inr (Or.inr (Or.inr (Or.inr ⟨rfl, rfl, rfl⟩)))) (hb hby d13) hr
theorem d14 : decode jdk_42_method_151_code 0 = .ok (.aload_n 0, 1) := by decide +kernel
abbrev m_2 : MethodName := (⟨"java/lang/Object", "<init>", "()V"⟩ : MethodName)
theorem w_22 {Z : State} {a0 : Array Value} (hw : HW Z a0) : (Jvm.Cond.methodLink "java/lang/String" (1 : Nat) m_2).before a0 Z = true := hw _ (List.mem_of_getElem? (i := 22) rfl)
theorem w_23 {Z : State} {a0 : Array Value} (hw : HW Z a0) : (Jvm.Cond.instanceMethod m_2).before a0 Z = true := hw _ (List.mem_of_getElem? (i := 23) rfl)
theorem w_24 {Z : State} {a0 : Array Value} (hw : HW Z a0) : (Jvm.Cond.code m_2 object_method_1_code (1 : Nat) (Option.none : Option Jvm.ClassFile.FieldType)).before a0 Z = true := hw _ (List.mem_of_getElem? (i := 24) rfl)
theorem d15 : decode jdk_42_method_151_code 1 = .ok (.invokespecial 1, 3) := by decide +kernel
theorem d16 : decode jdk_42_method_151_code 4 = .ok (.aload_n 0, 1) := by decide +kernel
theorem d17 : decode jdk_42_method_151_code 5 = .ok (.aload_n 1, 1) := by decide +kernel
theorem w_25 {Z : State} {a0 : Array Value} (hw : HW Z a0) : (Jvm.Cond.fieldLink "java/lang/String" (9 : Nat) "java/lang/String" "value" "[B").before a0 Z = true := hw _ (List.mem_of_getElem? (i := 25) rfl)
theorem d18 : decode jdk_42_method_151_code 6 = .ok (.putfield 9, 3) := by decide +kernel
theorem d19 : decode jdk_42_method_151_code 9 = .ok (.aload_n 0, 1) := by decide +kernel
theorem d20 : decode jdk_42_method_151_code 10 = .ok (.iload_n 2, 1) := by decide +kernel
theorem w_27 {Z : State} {a0 : Array Value} (hw : HW Z a0) : (Jvm.Cond.fieldLink "java/lang/String" (15 : Nat) "java/lang/String" "coder" "B").before a0 Z = true := hw _ (List.mem_of_getElem? (i := 27) rfl)
theorem d21 : decode jdk_42_method_151_code 11 = .ok (.putfield 15, 3) := by decide +kernel
theorem d22 : decode jdk_42_method_151_code 14 = .ok (.return_, 1) := by decide +kernel
theorem pn_1 : plainName "java/lang/String" = true := by first | (simp [plainName, overriddenIn]; done) | decide +kernel
theorem ef_1 (m : MethodId) (x0 : Addr) (x1 : Addr) (x2 : Int32) : entryFrame m #[(.ref x0), (.ref x1), (.int x2)] 3 = mkF m 0 #[vA x0, vA x1, vI x2] [] := by first | (simp [entryFrame, mkF, argsToLocals, Value.category, maxLocals]; done) | rfl
abbrev m_3 : MethodName := (⟨"java/lang/String", "<init>", "([BB)V"⟩ : MethodName)
def Q_sbinit (Z : State) (a_ : Addr) (b : Addr) (u : Value) (cd : Int32) (h0 : Heap) (n0 : Nat) (v : Option Value) (h : Heap) (L : List Loc) : Prop := (v = none) ∧ (Fr n0 L) ∧ (Keep h0 h [a_]) ∧ (Exa Z h a_ "java/lang/String") ∧ (fld0 Z h a_ (.ref b)) ∧ (fld1 Z h a_ (.int 0))
theorem rm_sbinit (l : Launch) (Z : State) (a0 : Array Value) (hw : HW Z a0) (ws : List Jvm.Cond) (a_ : Addr) (b : Addr) (u : Value) (cd : Int32) (h0 : Heap) (n0 : Nat) (Z0 : n0 ≤ h0.size) (P0 : Exa Z h0 a_ "java/lang/String") (P1 : fld0 Z h0 a_ u) (P2 : fld1 Z h0 a_ (.int cd)) (P3 : n0 ≤ a_) :
    MF l Z m_3 jdk_42_method_151_code 3 none ws (oR 1 0 0 12) #[(.ref a_), (.ref b), (.int 0)] h0 (Q_sbinit Z a_ b u cd h0 n0) := by
  refine own_body (cls := "java/lang/String") (plainFor_of_name pn_1) rfl (fun p e s m below meth c s₁ hx hby hml hown hnm hret hZ X0 e0 => ?_)
  have N0 := Fr.nil n0
  have K0 := Keep.refl h0 [a_]
  have lt1 := own_l P0.lt
  have lt2 := own_l P1.lt
  have lt3 := own_l P2.lt
  obtain ⟨T4, X4, e4, st4⟩ := initO X0 hx hZ hown (w_22 hw) (w_23 hw) (w_24 hw) e0 (g := (mkF m 1 #[vA a_, vA b, vI 0] [(.ref a_)])) rfl (by rw [hml]; rfl) rfl (hb hby d15) (by decide) (W := 0) (Nat.le_of_eq rfl) (by decide)
  obtain ⟨T5, h5, X5, e5, W5, st5⟩ := putF X4 hx hZ hown (host := "") (Or.inl (w_25 hw)) Via.refl e4 P1 P0 (Or.inr ⟨(w_26 hw), rfl, hnm⟩) (w_13 hw) (ty := (.array .byte)) (by decide) rfl rfl (g := (mkF m 6 #[vA a_, vA b, vI 0] [(.ref b), (.ref a_)])) rfl rfl (hb hby d18)
  have F5 := P1.same W5
  have z5 := W5.size
  have K5 := K0.wr W5 (Or.inl (List.mem_of_getElem? (i := 0) rfl))
  have N5 := Fr.snoc X5 N0 (by omega)
  have f7 := P2.other W5 (Or.inr (slot_ne (a0 := a0) (t := .byte) (t' := (.array .byte)) (Or.inr (w_28 hw)) (Or.inr (w_26 hw)) (by decide) (by decide) (by decide)))
  have f8 := P0.wr W5
  obtain ⟨T6, h6, X6, e6, W6, st6⟩ := putFN X5 hx hZ hown (w_27 hw) Via.refl e5 f7 f8 (Or.inr ⟨(w_28 hw), rfl, hnm⟩) (w_13 hw) (ty := .byte) (v' := (.int 0)) (by decide) rfl rfl (g := (mkF m 11 #[vA a_, vA b, vI 0] [(.int 0), (.ref a_)])) rfl rfl (hb hby d21)
  have F6 := f7.same W6
  have z6 := W6.size
  have K6 := K5.wr W6 (Or.inl (List.mem_of_getElem? (i := 0) rfl))
  have N6 := Fr.snoc X6 N5 (by omega)
  have f9 := f8.wr W6
  have f10 := F5.other W6 (Or.inr (slot_ne (a0 := a0) (t := (.array .byte)) (t' := .byte) (Or.inr (w_26 hw)) (Or.inr (w_28 hw)) (by decide) (by decide) (by decide)))
  refine ⟨_, _, _, _, none, X6, by decide, by decide, fun _ => rfl, ?_, fun fs hr => castTop (ef_1 m a_ b (0 : Int32)) ?_⟩
  · show Q_sbinit Z a_ b u cd h0 n0 _ T6.heap _
    rw [(e6 : T6.heap = h6)]
    exact ⟨rfl, N6, K6, f9, f10, F6⟩
  · show Steps _ _ _ (s₁.setTop (mkF m 0 #[vA a_, vA b, vI 0] [])) _
    refine XS.aloadN X0.here hx rfl (hb hby d14) rfl rfl ?_
    refine st4 _ ?_
    show Steps _ _ _ (T4.setTop (mkF m 4 #[vA a_, vA b, vI 0] [])) _
    refine XS.aloadN X4.here hx rfl (hb hby d16) rfl rfl ?_
    refine XS.aloadN X4.here hx rfl (hb hby d17) rfl rfl ?_
    refine st5 _ ?_
    show Steps _ _ _ (T5.setTop (mkF m 9 #[vA a_, vA b, vI 0] [])) _
    refine XS.aloadN X5.here hx rfl (hb hby d19) rfl rfl ?_
    refine XS.iloadN X5.here hx rfl (hb hby d20) rfl ?_
    refine st6 _ ?_
    show Steps _ _ _ (T6.setTop (mkF m 14 #[vA a_, vA b, vI 0] [])) _
    exact X6.returnOut hx hret (hb hby d22) hr
theorem w_7 {Z : State} {a0 : Array Value} (hw : HW Z a0) : (Jvm.Cond.fieldLink "java/lang/String" (38 : Nat) "java/lang/String" "COMPACT_STRINGS" "Z").before a0 Z = true := hw _ (List.mem_of_getElem? (i := 7) rfl)
theorem d23 : decode jdk_42_method_139_code 0 = .ok (.getstatic 38, 3) := by decide +kernel
theorem d24 : decode jdk_42_method_139_code 3 = .ok (.ifCond .eq 23, 3) := by decide +kernel
theorem d25 : decode jdk_42_method_139_code 6 = .ok (.iload_n 0, 1) := by decide +kernel
theorem w_8 {Z : State} {a0 : Array Value} (hw : HW Z a0) : (Jvm.Cond.methodLink "java/lang/String" (1015 : Nat) m_0).before a0 Z = true := hw _ (List.mem_of_getElem? (i := 8) rfl)
theorem w_11 {Z : State} {a0 : Array Value} (hw : HW Z a0) : (Jvm.Cond.code m_0 jdk_43_method_3_code (1 : Nat) (Option.some FieldType.boolean)).before a0 Z = true := hw _ (List.mem_of_getElem? (i := 11) rfl)
theorem w_10 {Z : State} {a0 : Array Value} (hw : HW Z a0) : (Jvm.Cond.initialized "java/lang/StringLatin1").before a0 Z = true := hw _ (List.mem_of_getElem? (i := 10) rfl)
theorem pd_0 : parseMethodDescriptor "(C)Z" = some ⟨[.char], some .boolean⟩ := by decide +kernel
theorem d26 : decode jdk_42_method_139_code 7 = .ok (.invokestatic 1015, 3) := by decide +kernel
theorem w_9 {Z : State} {a0 : Array Value} (hw : HW Z a0) : (Jvm.Cond.static m_0).before a0 Z = true := hw _ (List.mem_of_getElem? (i := 9) rfl)
theorem d27 : decode jdk_42_method_139_code 10 = .ok (.ifCond .eq 16, 3) := by decide +kernel
theorem w_12 {Z : State} {a0 : Array Value} (hw : HW Z a0) : (Jvm.Cond.classLink "java/lang/String" (10 : Nat) "java/lang/String").before a0 Z = true := hw _ (List.mem_of_getElem? (i := 12) rfl)
theorem d28 : decode jdk_42_method_139_code 13 = .ok (.new 10, 3) := by decide +kernel
theorem d29 : decode jdk_42_method_139_code 16 = .ok (.dup, 1) := by decide +kernel
theorem d30 : decode jdk_42_method_139_code 17 = .ok (.iload_n 0, 1) := by decide +kernel
theorem w_14 {Z : State} {a0 : Array Value} (hw : HW Z a0) : (Jvm.Cond.methodLink "java/lang/String" (1018 : Nat) m_1).before a0 Z = true := hw _ (List.mem_of_getElem? (i := 14) rfl)
theorem w_16 {Z : State} {a0 : Array Value} (hw : HW Z a0) : (Jvm.Cond.code m_1 jdk_43_method_46_code (1 : Nat) (Option.some (FieldType.array FieldType.byte))).before a0 Z = true := hw _ (List.mem_of_getElem? (i := 16) rfl)
theorem pd_1 : parseMethodDescriptor "(C)[B" = some ⟨[.char], some (.array .byte)⟩ := by decide +kernel
theorem d31 : decode jdk_42_method_139_code 18 = .ok (.invokestatic 1018, 3) := by decide +kernel
theorem w_15 {Z : State} {a0 : Array Value} (hw : HW Z a0) : (Jvm.Cond.static m_1).before a0 Z = true := hw _ (List.mem_of_getElem? (i := 15) rfl)
theorem d32 : decode jdk_42_method_139_code 21 = .ok (.iconst 0, 1) := by decide +kernel
theorem w_18 {Z : State} {a0 : Array Value} (hw : HW Z a0) : (Jvm.Cond.methodLink "java/lang/String" (209 : Nat) m_3).before a0 Z = true := hw _ (List.mem_of_getElem? (i := 18) rfl)
theorem w_21 {Z : State} {a0 : Array Value} (hw : HW Z a0) : (Jvm.Cond.code m_3 jdk_42_method_151_code (3 : Nat) (Option.none : Option Jvm.ClassFile.FieldType)).before a0 Z = true := hw _ (List.mem_of_getElem? (i := 21) rfl)
theorem pd_2 : parseMethodDescriptor "([BB)V" = some ⟨[(.array .byte), .byte], none⟩ := by decide +kernel
theorem d33 : decode jdk_42_method_139_code 22 = .ok (.invokespecial 209, 3) := by decide +kernel
theorem w_19 {Z : State} {a0 : Array Value} (hw : HW Z a0) : (Jvm.Cond.instanceMethod m_3).before a0 Z = true := hw _ (List.mem_of_getElem? (i := 19) rfl)
theorem d34 : decode jdk_42_method_139_code 25 = .ok (.areturn, 1) := by decide +kernel
abbrev m_4 : MethodName := (⟨"java/lang/String", "valueOf", "(C)Ljava/lang/String;"⟩ : MethodName)
def Q_valueC (Z : State) (q : Int32) (cp : Int32) (h0 : Heap) (n0 : Nat) (v : Option Value) (h : Heap) (L : List Loc) : Prop := ∃ (a_ : Addr) (b : Addr) (k : ClassId), (v = some (.ref a_)) ∧ (Fr n0 L) ∧ (Keep h0 h []) ∧ (h0.size ≤ a_) ∧ (h0.size ≤ b) ∧ (Exa Z h a_ "java/lang/String") ∧ (fld0 Z h a_ (.ref b)) ∧ (fld1 Z h a_ (.int 0)) ∧ (Arv Z h b k .byte (1 : Int32) [(.int (oB q))] (.int 0)) ∧ (Old Z n0 h)
theorem rm_valueC (l : Launch) (Z : State) (a0 : Array Value) (hw : HW Z a0) (ws : List Jvm.Cond) (q : Int32) (cp : Int32) (h0 : Heap) (n0 : Nat) (Z0 : n0 ≤ h0.size) (P0 : Old Z n0 h0) (P1 : sta0 Z (.int cp)) (hcs : ¬ (cp = (0 : Int32))) (hlo : ¬ ((255 : Int32) < q)) :
    MF l Z m_4 jdk_42_method_139_code 1 (some (.object "java/lang/String")) ws (oR 2 2 5 27) #[(.int q)] h0 (Q_valueC Z q cp h0 n0) := by
  refine own_body (cls := "java/lang/String") (plainFor_of_name pn_1) rfl (fun p e s m below meth c s₁ hx hby hml hown hnm hret hZ X0 e0 => ?_)
  have N0 := Fr.nil n0
  have K0 := Keep.refl h0 []
  obtain ⟨T1, X1, e1, st1⟩ := getS2 X0 hx hZ hown (host := "") (Or.inl (w_7 hw)) Via.refl e0 (P1.ext P0.2) (g := (mkF m 0 #[vI q] [])) rfl (hb hby d23)
  obtain ⟨_, _, ⟨T2, L2, k2, n2⟩, -, X2, ⟨Lc2, hQ2, l2, y2, z2⟩, st2⟩ := Jvm.LawKit.callS X1 hx (y := m_0) hown (mvT hZ (w_8 hw)) (mvT hZ (w_9 hw)) (mvT hZ (w_10 hw)) (mvT hZ (w_11 hw)) (by decide) (backOf (W := 0) (rm_canEnc l Z a0 hw [] q h0 n0 (by omega) hlo) hZ (w_11 hw) (w_10 hw) (by decide) (by decide)) (g := (mkF m 7 #[vI q] [(.int q)])) rfl (by rw [hml]; rfl) (argsL := [(.int q)]) (rest := []) (lenOf pd_0 rfl) rfl (Nat.le_of_eq rfl) (hb hby d26) (fun _ _ => ⟨rfl, e1, (by decide : 0 + 0 ≤ _), (by decide : 0 + 0 ≤ _)⟩)
  dsimp only [Pt.U, Pt.locs, Pt.cells, Pt.slots] at X2 l2 y2 z2 st2 hQ2
  rw [l2, y2, z2] at X2
  obtain ⟨rfl, Nq2, Kq2⟩ := hQ2
  have N2 := Fr.app N0 Nq2
  obtain ⟨T3, h3, X3, e3, E3, A3, D3, -, st3⟩ := newO X2 hx hZ hown (w_12 hw) (w_13 hw) (w_5 hw) Kq2 (g := (mkF m 13 #[vI q] [])) rfl (hb hby d28) (by decide) (by decide)
  obtain ⟨b3, g3⟩ : ∃ z, z = h0.size := ⟨_, rfl⟩
  rw [← g3] at A3 D3 st3
  have z3 := E3.1
  have K3 := K0.ext E3
  have lt4 := own_l A3.lt
  have F3_26 : Fld Z h3 b3 "java/lang/String" "value" "[B" .null := D3 (Or.inr (w_26 hw)) (ty := (.array .byte)) (by decide)
  have F3_28 : Fld Z h3 b3 "java/lang/String" "coder" "B" (.int 0) := D3 (Or.inr (w_28 hw)) (ty := .byte) (by decide)
  obtain ⟨_, _, ⟨T5, L5, k5, n5⟩, -, X5, ⟨Lc5, hQ5, l5, y5, z5⟩, st5⟩ := Jvm.LawKit.callS X3 hx (y := m_1) hown (mvT hZ (w_14 hw)) (mvT hZ (w_15 hw)) (mvT hZ (w_10 hw)) (mvT hZ (w_16 hw)) (by decide) (backOf (W := 2) (rm_toB l Z a0 hw [] q h3 n0 (by omega) ) hZ (w_16 hw) (w_10 hw) (by decide) (by decide)) (g := (mkF m 18 #[vI q] [(.int q), (.ref b3), (.ref b3)])) rfl (by rw [hml]; rfl) (argsL := [(.int q)]) (rest := [(.ref b3), (.ref b3)]) (lenOf pd_1 rfl) rfl (Nat.le_of_eq rfl) (hb hby d31) (fun _ _ => ⟨rfl, e3, (by decide : 1 + 1 ≤ _), (by decide : 4 + 1 ≤ _)⟩)
  dsimp only [Pt.U, Pt.locs, Pt.cells, Pt.slots] at X5 l5 y5 z5 st5 hQ5
  rw [l5, y5, z5] at X5
  obtain ⟨x5_b, x5_k, rfl, Nq5, Kq5, r5_0, r5_1⟩ := hQ5
  have N5 := Fr.app N2 Nq5
  have z5' := Kq5.1
  have K5 := K3.trans Kq5 all0
  have lt6 := own_l r5_1.lt
  have f8 := A3.keep Kq5
  have f9 := F3_26.keep Kq5 nin0
  have f10 := F3_28.keep Kq5 nin0
  obtain ⟨_, _, ⟨T7, L7, k7, n7⟩, -, X7, ⟨Lc7, hQ7, l7, y7, z7⟩, st7⟩ := X5.specialBack hx (y := m_3) rfl hown (mvT hZ (w_18 hw)) (mvT hZ (w_19 hw)) (mvT hZ (w_21 hw)) (by decide) (backOf (W := 1) (rm_sbinit l Z a0 hw [] b3 x5_b (.null) ((0 : Int32)) T5.heap n0 (by omega) f8 f9 f10 (by omega)) hZ (w_21 hw) (w_5 hw) (by decide) (by decide)) (g := (mkF m 22 #[vI q] [(.int 0), (.ref x5_b), (.ref b3), (.ref b3)])) rfl (by rw [hml]; rfl) (Steps.refl _) (a := b3) (argsL := [(.ref x5_b), (.int 0)]) (rest := [(.ref b3)]) (lenOf pd_2 rfl) rfl (Nat.le_of_eq rfl) (hb hby d33) (fun _ _ => ⟨rfl, rfl, (by decide : 2 + 0 ≤ _), (by decide : 5 + 0 ≤ _)⟩)
  dsimp only [Pt.U, Pt.locs, Pt.cells, Pt.slots] at X7 l7 y7 z7 st7 hQ7
  rw [l7, y7, z7] at X7
  obtain ⟨rfl, Nq7, Kq7, r7_0, r7_1, r7_2⟩ := hQ7
  have N7 := Fr.app N5 Nq7
  have z7' := Kq7.1
  have K7 := K5.trans Kq7 (allS (Or.inr (by omega)) all0)
  have lt11 := own_l r7_0.lt
  have lt12 := own_l r7_1.lt
  have lt13 := own_l r7_2.lt
  have f14 := r5_1.keep Kq7 (ninS (own_ne (by omega)) nin0)
  have f15 := P0.ext E3
  have f16 := f15.keep Kq5 all0
  have f17 := f16.keep Kq7 (allS (by omega) all0)
  refine ⟨_, _, _, _, some (.ref b3), X7, by decide, by decide, nofun, ?_, fun fs hr => castTop (ef_0 m q) ?_⟩
  · show Q_valueC Z q cp h0 n0 _ T7.heap _
    exact ⟨b3, x5_b, x5_k, rfl, N7, K7, (by omega), (by omega), r7_0, r7_1, r7_2, f14, f17⟩
  · show Steps _ _ _ (s₁.setTop (mkF m 0 #[vI q] [])) _
    refine st1 _ ?_
    show Steps _ _ _ (T1.setTop (mkF m 3 #[vI q] [(.int cp)])) _
    refine XS.ifNo X1.here hx rfl (hb hby d24) rfl ((if0 _ _).trans (feq (hcs : ¬ (cp = (0 : Int32)))).1) ?_
    refine XS.iloadN X1.here hx rfl (hb hby d25) rfl ?_
    refine st2 _ ?_
    show Steps _ _ _ (T2.setTop (mkF m 10 #[vI q] [(.int 1)])) _
    refine XS.ifNo X2.here hx rfl (hb hby d27) rfl ((if0 _ _).trans (feq ((by decide) : ¬ ((1 : Int32) = (0 : Int32)))).1) ?_
    refine st3 _ ?_
    show Steps _ _ _ (T3.setTop (mkF m 16 #[vI q] [(.ref b3)])) _
    refine XS.dup X3.here hx rfl (hb hby d29) rfl rfl ?_
    refine XS.iloadN X3.here hx rfl (hb hby d30) rfl ?_
    refine st5 _ ?_
    show Steps _ _ _ (T5.setTop (mkF m 21 #[vI q] [(.ref x5_b), (.ref b3), (.ref b3)])) _
    refine XS.iconst X5.here hx rfl (hb hby d32) ?_
    refine st7.trans ?_
    show Steps _ _ _ (T7.setTop (mkF m 25 #[vI q] [(.ref b3)])) _
    exact retOut X7 hx hret (own_narrow_ref rfl) (Or.inr (Or.inr (Or.inr (Or.inr ⟨rfl, rfl, rfl⟩)))) (hb hby d34) hr
theorem d35 : decode jdk_42_method_152_code 0 = .ok (.getstatic 38, 3) := by decide +kernel
theorem d36 : decode jdk_42_method_152_code 3 = .ok (.ifCond .eq 10, 3) := by decide +kernel
theorem d37 : decode jdk_42_method_152_code 6 = .ok (.aload_n 0, 1) := by decide +kernel
theorem d38 : decode jdk_42_method_152_code 7 = .ok (.getfield 15, 3) := by decide +kernel
theorem d39 : decode jdk_42_method_152_code 10 = .ok (.goto 4, 3) := by decide +kernel
theorem d40 : decode jdk_42_method_152_code 14 = .ok (.ireturn, 1) := by decide +kernel
theorem ef_2 (m : MethodId) (x0 : Addr) : entryFrame m #[(.ref x0)] 1 = mkF m 0 #[vA x0] [] := by first | (simp [entryFrame, mkF, argsToLocals, Value.category, maxLocals]; done) | rfl
abbrev m_5 : MethodName := (⟨"java/lang/String", "coder", "()B"⟩ : MethodName)
def Q_cod (Z : State) (t : Addr) (cp : Int32) (h0 : Heap) (n0 : Nat) (v : Option Value) (h : Heap) (L : List Loc) : Prop := (v = some (.int 0)) ∧ (Fr n0 L) ∧ (h = h0)
theorem rm_cod (l : Launch) (Z : State) (a0 : Array Value) (hw : HW Z a0) (ws : List Jvm.Cond) (t : Addr) (cp : Int32) (h0 : Heap) (n0 : Nat) (Z0 : n0 ≤ h0.size) (P0 : Old Z n0 h0) (P1 : sta0 Z (.int cp)) (P2 : fld1 Z h0 t (.int 0)) (hcs : ¬ (cp = (0 : Int32))) :
    MF l Z m_5 jdk_42_method_152_code 1 (some .byte) ws (oR 0 0 0 0) #[(.ref t)] h0 (Q_cod Z t cp h0 n0) := by
  refine own_body (cls := "java/lang/String") (plainFor_of_name pn_1) rfl (fun p e s m below meth c s₁ hx hby hml hown hnm hret hZ X0 e0 => ?_)
  have N0 := Fr.nil n0
  have lt1 := own_l P2.lt
  obtain ⟨T2, X2, e2, st2⟩ := getS2 X0 hx hZ hown (host := "") (Or.inl (w_7 hw)) Via.refl e0 (P1.ext P0.2) (g := (mkF m 0 #[vA t] [])) rfl (hb hby d35)
  obtain ⟨T3, X3, e3, st3⟩ := getF X2 hx hZ hown (host := "") (Or.inl (w_27 hw)) Via.refl e2 P2 (g := (mkF m 7 #[vA t] [(.ref t)])) rfl rfl (hb hby d38)
  refine ⟨_, _, _, _, some (.int 0), X3, by decide, by decide, nofun, ?_, fun fs hr => castTop (ef_2 m t) ?_⟩
  · show Q_cod Z t cp h0 n0 _ T3.heap _
    rw [(e3 : T3.heap = h0)]
    exact ⟨rfl, N0, rfl⟩
  · show Steps _ _ _ (s₁.setTop (mkF m 0 #[vA t] [])) _
    refine st2 _ ?_
    show Steps _ _ _ (T2.setTop (mkF m 3 #[vA t] [(.int cp)])) _
    refine XS.ifNo X2.here hx rfl (hb hby d36) rfl ((if0 _ _).trans (feq (hcs : ¬ (cp = (0 : Int32)))).1) ?_
    refine XS.aloadN X2.here hx rfl (hb hby d37) rfl rfl ?_
    refine st3 _ ?_
    show Steps _ _ _ (T3.setTop (mkF m 10 #[vA t] [(.int 0)])) _
    refine XS.goto X3.here hx rfl (pc0 := 10) (pc' := 14) rfl (hb hby d39) (by decide) (by decide) ?_
    exact retN X3 hx (t := .byte) hret (by simp) (hb hby d40) hr
theorem d41 : decode jdk_42_method_54_code 0 = .ok (.aload_n 0, 1) := by decide +kernel
theorem d42 : decode jdk_42_method_54_code 1 = .ok (.getfield 9, 3) := by decide +kernel
theorem d43 : decode jdk_42_method_54_code 4 = .ok (.arraylength, 1) := by decide +kernel
theorem d44 : decode jdk_42_method_54_code 5 = .ok (.aload_n 0, 1) := by decide +kernel
theorem w_75 {Z : State} {a0 : Array Value} (hw : HW Z a0) : (Jvm.Cond.methodLink "java/lang/String" (335 : Nat) m_5).before a0 Z = true := hw _ (List.mem_of_getElem? (i := 75) rfl)
theorem w_79 {Z : State} {a0 : Array Value} (hw : HW Z a0) : (Jvm.Cond.code m_5 jdk_42_method_152_code (1 : Nat) (Option.some FieldType.byte)).before a0 Z = true := hw _ (List.mem_of_getElem? (i := 79) rfl)
theorem pd_3 : parseMethodDescriptor "()B" = some ⟨[], some .byte⟩ := by decide +kernel
theorem d45 : decode jdk_42_method_54_code 6 = .ok (.invokevirtual 335, 3) := by decide +kernel
theorem w_78 {Z : State} {a0 : Array Value} (hw : HW Z a0) : (Jvm.Cond.selects "java/lang/String" m_5 m_5).before a0 Z = true := hw _ (List.mem_of_getElem? (i := 78) rfl)
theorem w_76 {Z : State} {a0 : Array Value} (hw : HW Z a0) : (Jvm.Cond.declares m_5).before a0 Z = true := hw _ (List.mem_of_getElem? (i := 76) rfl)
theorem w_77 {Z : State} {a0 : Array Value} (hw : HW Z a0) : (Jvm.Cond.instanceMethod m_5).before a0 Z = true := hw _ (List.mem_of_getElem? (i := 77) rfl)
theorem d46 : decode jdk_42_method_54_code 9 = .ok (.ishr, 1) := by decide +kernel
theorem d47 : decode jdk_42_method_54_code 10 = .ok (.ireturn, 1) := by decide +kernel
abbrev m_6 : MethodName := (⟨"java/lang/String", "length", "()I"⟩ : MethodName)
def Q_slen (Z : State) (t : Addr) (tb : Addr) (kt : ClassId) (len : Int32) (bs : List Value) (cp : Int32) (h0 : Heap) (n0 : Nat) (v : Option Value) (h : Heap) (L : List Loc) : Prop := (v = some (.int len)) ∧ (Fr n0 L) ∧ (h = h0)
theorem rm_slen (l : Launch) (Z : State) (a0 : Array Value) (hw : HW Z a0) (ws : List Jvm.Cond) (t : Addr) (tb : Addr) (kt : ClassId) (len : Int32) (bs : List Value) (cp : Int32) (h0 : Heap) (n0 : Nat) (Z0 : n0 ≤ h0.size) (P0 : Old Z n0 h0) (P1 : sta0 Z (.int cp)) (P2 : Exa Z h0 t "java/lang/String") (P3 : fld1 Z h0 t (.int 0)) (P4 : fld0 Z h0 t (.ref tb)) (P5 : Arv Z h0 tb kt .byte len bs (.int 0)) (hcs : ¬ (cp = (0 : Int32))) :
    MF l Z m_6 jdk_42_method_54_code 1 (some .int) ws (oR 1 0 0 13) #[(.ref t)] h0 (Q_slen Z t tb kt len bs cp h0 n0) := by
  refine own_body (cls := "java/lang/String") (plainFor_of_name pn_1) rfl (fun p e s m below meth c s₁ hx hby hml hown hnm hret hZ X0 e0 => ?_)
  have N0 := Fr.nil n0
  have lt1 := own_l P2.lt
  have lt2 := own_l P3.lt
  have lt3 := own_l P4.lt
  have lt4 := own_l P5.lt
  obtain ⟨T5, X5, e5, st5⟩ := getF X0 hx hZ hown (host := "") (Or.inl (w_25 hw)) Via.refl e0 P4 (g := (mkF m 1 #[vA t] [(.ref t)])) rfl rfl (hb hby d42)
  obtain ⟨cl6, Ar6, q6, S6, M6, H6, G6⟩ := id P5
  obtain ⟨cq7, kq7, qa7, qb7, qc7⟩ := isOf hZ e5 P2
  obtain ⟨_, _, ⟨T7, L7, k7, n7⟩, -, X7, ⟨Lc7, hQ7, l7, y7, z7⟩, st7⟩ := X5.virtualBack hx (y := m_5) (z := m_5) hown (mvT hZ (w_75 hw)) (mvT hZ (w_76 hw)) (notFace_of_selects (args := #[]) (mvT hZ (w_78 hw))) (mvT hZ (w_78 hw)) (mvT hZ (w_77 hw)) (by decide) (backOf (W := 1) (rm_cod l Z a0 hw [] t cp h0 n0 (by omega) P0 P1 P3 hcs) hZ (w_79 hw) (w_5 hw) (by decide) (by decide)) qa7 qc7 (g := (mkF m 6 #[vA t] [(.ref t), (.int len)])) rfl (by rw [hml]; rfl) (Steps.refl _) (argsL := []) (rest := [(.int len)]) (lenOf pd_3 rfl) rfl (Nat.le_of_eq rfl) (hb hby d45) (fun _ _ => ⟨rfl, e5, (by decide : 0 + 0 ≤ _), (by decide : 0 + 0 ≤ _)⟩)
  dsimp only [Pt.U, Pt.locs, Pt.cells, Pt.slots] at X7 l7 y7 z7 st7 hQ7
  rw [l7, y7, z7] at X7
  obtain ⟨rfl, Nq7, Kq7⟩ := hQ7
  have N7 := Fr.app N0 Nq7
  refine ⟨_, _, _, _, some (.int len), X7, by decide, by decide, nofun, ?_, fun fs hr => castTop (ef_2 m t) ?_⟩
  · show Q_slen Z t tb kt len bs cp h0 n0 _ T7.heap _
    rw [(Kq7 : T7.heap = h0)]
    exact ⟨rfl, N7, rfl⟩
  · show Steps _ _ _ (s₁.setTop (mkF m 0 #[vA t] [])) _
    refine XS.aloadN X0.here hx rfl (hb hby d41) rfl rfl ?_
    refine st5 _ ?_
    show Steps _ _ _ (T5.setTop (mkF m 4 #[vA t] [(.ref tb)])) _
    refine X5.arraylength hx (by rw [e5]; exact Ar6.1) (State.isArrayOf_alike hZ.alike Ar6.2.1) (g := (mkF m 4 #[vA t] [(.ref tb)])) rfl rfl (hb hby d43) _ ?_
    rw [len_of S6 M6]
    show Steps _ _ _ (T5.setTop (mkF m 5 #[vA t] [(.int len)])) _
    refine XS.aloadN X5.here hx rfl (hb hby d44) rfl rfl ?_
    refine st7.trans ?_
    show Steps _ _ _ (T7.setTop (mkF m 9 #[vA t] [(.int 0), (.int len)])) _
    refine XS.ishr X7.here hx rfl (hb hby d46) rfl ?_
    show Steps _ _ _ (T7.setTop (mkF m 10 #[vA t] [(.int (len >>> ((0 : Int32) &&& 31)))])) _
    rw [own_shr0]
    show Steps _ _ _ (T7.setTop (mkF m 10 #[vA t] [(.int len)])) _
    exact retI X7 hx hret (hb hby d47) hr
theorem d48 : decode jdk_29_method_65_code 0 = .ok (.iload_n 0, 1) := by decide +kernel
theorem d49 : decode jdk_29_method_65_code 1 = .ok (.iload_n 1, 1) := by decide +kernel
theorem d50 : decode jdk_29_method_65_code 2 = .ok (.if_icmp .lt 7, 3) := by decide +kernel
theorem d51 : decode jdk_29_method_65_code 9 = .ok (.iload_n 1, 1) := by decide +kernel
theorem d52 : decode jdk_29_method_65_code 10 = .ok (.ireturn, 1) := by decide +kernel
theorem pn_2 : plainFor (⟨"java/lang/Math", "max", "(II)I"⟩ : MethodName) = true := by first | (simp [plainFor, overriddenIn]; done) | decide +kernel
theorem ef_3 (m : MethodId) (x0 : Int32) (x1 : Int32) : entryFrame m #[(.int x0), (.int x1)] 2 = mkF m 0 #[vI x0, vI x1] [] := by first | (simp [entryFrame, mkF, argsToLocals, Value.category, maxLocals]; done) | rfl
abbrev m_7 : MethodName := (⟨"java/lang/Math", "max", "(II)I"⟩ : MethodName)
def Q_max3 (Z : State) (h0 : Heap) (n0 : Nat) (v : Option Value) (h : Heap) (L : List Loc) : Prop := (v = some (.int 31)) ∧ (Fr n0 L) ∧ (h = h0)
theorem rm_max3 (l : Launch) (Z : State) (a0 : Array Value) (hw : HW Z a0) (ws : List Jvm.Cond) (h0 : Heap) (n0 : Nat) (Z0 : n0 ≤ h0.size) :
    MF l Z m_7 jdk_29_method_65_code 2 (some .int) ws (oR 0 0 0 0) #[(.int 3), (.int 31)] h0 (Q_max3 Z  h0 n0) := by
  refine own_body (cls := "java/lang/Math") pn_2 rfl (fun p e s m below meth c s₁ hx hby hml hown hnm hret hZ X0 e0 => ?_)
  have N0 := Fr.nil n0
  refine ⟨_, _, _, _, some (.int 31), X0, by decide, by decide, nofun, ?_, fun fs hr => castTop (ef_3 m (3 : Int32) (31 : Int32)) ?_⟩
  · show Q_max3 Z  h0 n0 _ s₁.heap _
    rw [(e0 : s₁.heap = h0)]
    exact ⟨rfl, N0, rfl⟩
  · show Steps _ _ _ (s₁.setTop (mkF m 0 #[vI 3, vI 31] [])) _
    refine XS.iloadN X0.here hx rfl (hb hby d48) rfl ?_
    refine XS.iloadN X0.here hx rfl (hb hby d49) rfl ?_
    refine XS.icmpYes X0.here hx rfl (pc0 := 2) (pc' := 9) rfl (hb hby d50) rfl (tlt ((by decide) : (3 : Int32) < (31 : Int32))).1 (by decide) (by decide) ?_
    refine XS.iloadN X0.here hx rfl (hb hby d51) rfl ?_
    exact retI X0 hx hret (hb hby d52) hr
theorem d53 : decode jdk_48_method_27_code 0 = .ok (.iload_n 0, 1) := by decide +kernel
theorem d54 : decode jdk_48_method_27_code 1 = .ok (.iload_n 1, 1) := by decide +kernel
theorem d55 : decode jdk_48_method_27_code 2 = .ok (.iload_n 2, 1) := by decide +kernel
theorem w_221 {Z : State} {a0 : Array Value} (hw : HW Z a0) : (Jvm.Cond.methodLink "jdk/internal/util/ArraysSupport" (194 : Nat) m_7).before a0 Z = true := hw _ (List.mem_of_getElem? (i := 221) rfl)
theorem w_223 {Z : State} {a0 : Array Value} (hw : HW Z a0) : (Jvm.Cond.code m_7 jdk_29_method_65_code (2 : Nat) (Option.some FieldType.int)).before a0 Z = true := hw _ (List.mem_of_getElem? (i := 223) rfl)
theorem w_182 {Z : State} {a0 : Array Value} (hw : HW Z a0) : (Jvm.Cond.initialized "java/lang/Math").before a0 Z = true := hw _ (List.mem_of_getElem? (i := 182) rfl)
theorem pd_4 : parseMethodDescriptor "(II)I" = some ⟨[.int, .int], some .int⟩ := by decide +kernel
theorem d56 : decode jdk_48_method_27_code 3 = .ok (.invokestatic 194, 3) := by decide +kernel
theorem w_222 {Z : State} {a0 : Array Value} (hw : HW Z a0) : (Jvm.Cond.static m_7).before a0 Z = true := hw _ (List.mem_of_getElem? (i := 222) rfl)
theorem d57 : decode jdk_48_method_27_code 6 = .ok (.iadd, 1) := by decide +kernel
theorem d58 : decode jdk_48_method_27_code 7 = .ok (.istore_n 3, 1) := by decide +kernel
theorem d59 : decode jdk_48_method_27_code 8 = .ok (.iconst 0, 1) := by decide +kernel
theorem d60 : decode jdk_48_method_27_code 9 = .ok (.iload_n 3, 1) := by decide +kernel
theorem d61 : decode jdk_48_method_27_code 10 = .ok (.if_icmp .ge 11, 3) := by decide +kernel
theorem d62 : decode jdk_48_method_27_code 13 = .ok (.iload_n 3, 1) := by decide +kernel
theorem w_224 {Z : State} {a0 : Array Value} (hw : HW Z a0) : (Jvm.Cond.constant "jdk/internal/util/ArraysSupport" (200 : Nat) (2147483639 : Int32)).before a0 Z = true := hw _ (List.mem_of_getElem? (i := 224) rfl)
theorem d63 : decode jdk_48_method_27_code 14 = .ok (.ldc 200, 2) := by decide +kernel
theorem d64 : decode jdk_48_method_27_code 16 = .ok (.if_icmp .gt 5, 3) := by decide +kernel
theorem d65 : decode jdk_48_method_27_code 19 = .ok (.iload_n 3, 1) := by decide +kernel
theorem d66 : decode jdk_48_method_27_code 20 = .ok (.ireturn, 1) := by decide +kernel
theorem pn_3 : plainName "jdk/internal/util/ArraysSupport" = true := by first | (simp [plainName, overriddenIn]; done) | decide +kernel
theorem ef_4 (m : MethodId) (x0 : Int32) (x1 : Int32) (x2 : Int32) : entryFrame m #[(.int x0), (.int x1), (.int x2)] 4 = mkF m 0 #[vI x0, vI x1, vI x2, .unset] [] := by first | (simp [entryFrame, mkF, argsToLocals, Value.category, maxLocals]; done) | rfl
abbrev m_8 : MethodName := (⟨"jdk/internal/util/ArraysSupport", "newLength", "(III)I"⟩ : MethodName)
def Q_newLen3 (Z : State) (h0 : Heap) (n0 : Nat) (v : Option Value) (h : Heap) (L : List Loc) : Prop := (v = some (.int 60)) ∧ (Fr n0 L) ∧ (h = h0)
theorem rm_newLen3 (l : Launch) (Z : State) (a0 : Array Value) (hw : HW Z a0) (ws : List Jvm.Cond) (h0 : Heap) (n0 : Nat) (Z0 : n0 ≤ h0.size) :
    MF l Z m_8 jdk_48_method_27_code 4 (some .int) ws (oR 1 0 0 14) #[(.int 29), (.int 3), (.int 31)] h0 (Q_newLen3 Z  h0 n0) := by
  refine own_body (cls := "jdk/internal/util/ArraysSupport") (plainFor_of_name pn_3) rfl (fun p e s m below meth c s₁ hx hby hml hown hnm hret hZ X0 e0 => ?_)
  have N0 := Fr.nil n0
  obtain ⟨_, _, ⟨T1, L1, k1, n1⟩, -, X1, ⟨Lc1, hQ1, l1, y1, z1⟩, st1⟩ := Jvm.LawKit.callS X0 hx (y := m_7) hown (mvT hZ (w_221 hw)) (mvT hZ (w_222 hw)) (mvT hZ (w_182 hw)) (mvT hZ (w_223 hw)) (by decide) (backOf (W := 1) (rm_max3 l Z a0 hw []  h0 n0 (by omega) ) hZ (w_223 hw) (w_182 hw) (by decide) (by decide)) (g := (mkF m 3 #[vI 29, vI 3, vI 31, .unset] [(.int 31), (.int 3), (.int 29)])) rfl (by rw [hml]; rfl) (argsL := [(.int 3), (.int 31)]) (rest := [(.int 29)]) (lenOf pd_4 rfl) rfl (Nat.le_of_eq rfl) (hb hby d56) (fun _ _ => ⟨rfl, e0, (by decide : 0 + 0 ≤ _), (by decide : 0 + 0 ≤ _)⟩)
  dsimp only [Pt.U, Pt.locs, Pt.cells, Pt.slots] at X1 l1 y1 z1 st1 hQ1
  rw [l1, y1, z1] at X1
  obtain ⟨rfl, Nq1, Kq1⟩ := hQ1
  have N1 := Fr.app N0 Nq1
  refine ⟨_, _, _, _, some (.int 60), X1, by decide, by decide, nofun, ?_, fun fs hr => castTop (ef_4 m (29 : Int32) (3 : Int32) (31 : Int32)) ?_⟩
  · show Q_newLen3 Z  h0 n0 _ T1.heap _
    rw [(Kq1 : T1.heap = h0)]
    exact ⟨rfl, N1, rfl⟩
  · show Steps _ _ _ (s₁.setTop (mkF m 0 #[vI 29, vI 3, vI 31, .unset] [])) _
    refine XS.iloadN X0.here hx rfl (hb hby d53) rfl ?_
    refine XS.iloadN X0.here hx rfl (hb hby d54) rfl ?_
    refine XS.iloadN X0.here hx rfl (hb hby d55) rfl ?_
    refine st1 _ ?_
    show Steps _ _ _ (T1.setTop (mkF m 6 #[vI 29, vI 3, vI 31, .unset] [(.int 31), (.int 29)])) _
    refine XS.iadd X1.here hx rfl (hb hby d57) rfl ?_
    refine XS.istoreN X1.here hx rfl (hb hby d58) rfl (l' := #[vI 29, vI 3, vI 31, vI 60]) rfl ?_
    refine XS.iconst X1.here hx rfl (hb hby d59) ?_
    refine XS.iloadN X1.here hx rfl (hb hby d60) rfl ?_
    refine XS.icmpNo X1.here hx rfl (hb hby d61) rfl (tlt ((by decide) : (0 : Int32) < (60 : Int32))).2.1 ?_
    refine XS.iloadN X1.here hx rfl (hb hby d62) rfl ?_
    refine X1.ldcInt hx hown (mvT hZ (w_224 hw)) (g := (mkF m 14 #[vI 29, vI 3, vI 31, vI 60] [(.int 60)])) rfl (hb hby d63) _ ?_
    show Steps _ _ _ (T1.setTop (mkF m 16 #[vI 29, vI 3, vI 31, vI 60] [(.int 2147483639), (.int 60)])) _
    refine XS.icmpNo X1.here hx rfl (hb hby d64) rfl (flt ((by decide) : ¬ ((2147483639 : Int32) < (60 : Int32)))).2.2.1 ?_
    refine XS.iloadN X1.here hx rfl (hb hby d65) rfl ?_
    exact retI X1 hx hret (hb hby d66) hr
def Q_max4 (Z : State) (h0 : Heap) (n0 : Nat) (v : Option Value) (h : Heap) (L : List Loc) : Prop := (v = some (.int 31)) ∧ (Fr n0 L) ∧ (h = h0)
theorem rm_max4 (l : Launch) (Z : State) (a0 : Array Value) (hw : HW Z a0) (ws : List Jvm.Cond) (h0 : Heap) (n0 : Nat) (Z0 : n0 ≤ h0.size) :
    MF l Z m_7 jdk_29_method_65_code 2 (some .int) ws (oR 0 0 0 0) #[(.int 4), (.int 31)] h0 (Q_max4 Z  h0 n0) := by
  refine own_body (cls := "java/lang/Math") pn_2 rfl (fun p e s m below meth c s₁ hx hby hml hown hnm hret hZ X0 e0 => ?_)
  have N0 := Fr.nil n0
  refine ⟨_, _, _, _, some (.int 31), X0, by decide, by decide, nofun, ?_, fun fs hr => castTop (ef_3 m (4 : Int32) (31 : Int32)) ?_⟩
  · show Q_max4 Z  h0 n0 _ s₁.heap _
    rw [(e0 : s₁.heap = h0)]
    exact ⟨rfl, N0, rfl⟩
  · show Steps _ _ _ (s₁.setTop (mkF m 0 #[vI 4, vI 31] [])) _
    refine XS.iloadN X0.here hx rfl (hb hby d48) rfl ?_
    refine XS.iloadN X0.here hx rfl (hb hby d49) rfl ?_
    refine XS.icmpYes X0.here hx rfl (pc0 := 2) (pc' := 9) rfl (hb hby d50) rfl (tlt ((by decide) : (4 : Int32) < (31 : Int32))).1 (by decide) (by decide) ?_
    refine XS.iloadN X0.here hx rfl (hb hby d51) rfl ?_
    exact retI X0 hx hret (hb hby d52) hr
def Q_newLen4 (Z : State) (h0 : Heap) (n0 : Nat) (v : Option Value) (h : Heap) (L : List Loc) : Prop := (v = some (.int 60)) ∧ (Fr n0 L) ∧ (h = h0)
theorem rm_newLen4 (l : Launch) (Z : State) (a0 : Array Value) (hw : HW Z a0) (ws : List Jvm.Cond) (h0 : Heap) (n0 : Nat) (Z0 : n0 ≤ h0.size) :
    MF l Z m_8 jdk_48_method_27_code 4 (some .int) ws (oR 1 0 0 14) #[(.int 29), (.int 4), (.int 31)] h0 (Q_newLen4 Z  h0 n0) := by
  refine own_body (cls := "jdk/internal/util/ArraysSupport") (plainFor_of_name pn_3) rfl (fun p e s m below meth c s₁ hx hby hml hown hnm hret hZ X0 e0 => ?_)
  have N0 := Fr.nil n0
  obtain ⟨_, _, ⟨T1, L1, k1, n1⟩, -, X1, ⟨Lc1, hQ1, l1, y1, z1⟩, st1⟩ := Jvm.LawKit.callS X0 hx (y := m_7) hown (mvT hZ (w_221 hw)) (mvT hZ (w_222 hw)) (mvT hZ (w_182 hw)) (mvT hZ (w_223 hw)) (by decide) (backOf (W := 1) (rm_max4 l Z a0 hw []  h0 n0 (by omega) ) hZ (w_223 hw) (w_182 hw) (by decide) (by decide)) (g := (mkF m 3 #[vI 29, vI 4, vI 31, .unset] [(.int 31), (.int 4), (.int 29)])) rfl (by rw [hml]; rfl) (argsL := [(.int 4), (.int 31)]) (rest := [(.int 29)]) (lenOf pd_4 rfl) rfl (Nat.le_of_eq rfl) (hb hby d56) (fun _ _ => ⟨rfl, e0, (by decide : 0 + 0 ≤ _), (by decide : 0 + 0 ≤ _)⟩)
  dsimp only [Pt.U, Pt.locs, Pt.cells, Pt.slots] at X1 l1 y1 z1 st1 hQ1
  rw [l1, y1, z1] at X1
  obtain ⟨rfl, Nq1, Kq1⟩ := hQ1
  have N1 := Fr.app N0 Nq1
  refine ⟨_, _, _, _, some (.int 60), X1, by decide, by decide, nofun, ?_, fun fs hr => castTop (ef_4 m (29 : Int32) (4 : Int32) (31 : Int32)) ?_⟩
  · show Q_newLen4 Z  h0 n0 _ T1.heap _
    rw [(Kq1 : T1.heap = h0)]
    exact ⟨rfl, N1, rfl⟩
  · show Steps _ _ _ (s₁.setTop (mkF m 0 #[vI 29, vI 4, vI 31, .unset] [])) _
    refine XS.iloadN X0.here hx rfl (hb hby d53) rfl ?_
    refine XS.iloadN X0.here hx rfl (hb hby d54) rfl ?_
    refine XS.iloadN X0.here hx rfl (hb hby d55) rfl ?_
    refine st1 _ ?_
    show Steps _ _ _ (T1.setTop (mkF m 6 #[vI 29, vI 4, vI 31, .unset] [(.int 31), (.int 29)])) _
    refine XS.iadd X1.here hx rfl (hb hby d57) rfl ?_
    refine XS.istoreN X1.here hx rfl (hb hby d58) rfl (l' := #[vI 29, vI 4, vI 31, vI 60]) rfl ?_
    refine XS.iconst X1.here hx rfl (hb hby d59) ?_
    refine XS.iloadN X1.here hx rfl (hb hby d60) rfl ?_
    refine XS.icmpNo X1.here hx rfl (hb hby d61) rfl (tlt ((by decide) : (0 : Int32) < (60 : Int32))).2.1 ?_
    refine XS.iloadN X1.here hx rfl (hb hby d62) rfl ?_
    refine X1.ldcInt hx hown (mvT hZ (w_224 hw)) (g := (mkF m 14 #[vI 29, vI 4, vI 31, vI 60] [(.int 60)])) rfl (hb hby d63) _ ?_
    show Steps _ _ _ (T1.setTop (mkF m 16 #[vI 29, vI 4, vI 31, vI 60] [(.int 2147483639), (.int 60)])) _
    refine XS.icmpNo X1.here hx rfl (hb hby d64) rfl (flt ((by decide) : ¬ ((2147483639 : Int32) < (60 : Int32)))).2.2.1 ?_
    refine XS.iloadN X1.here hx rfl (hb hby d65) rfl ?_
    exact retI X1 hx hret (hb hby d66) hr
theorem d67 : decode jdk_29_method_69_code 0 = .ok (.iload_n 0, 1) := by decide +kernel
theorem d68 : decode jdk_29_method_69_code 1 = .ok (.iload_n 1, 1) := by decide +kernel
theorem d69 : decode jdk_29_method_69_code 2 = .ok (.if_icmp .gt 7, 3) := by decide +kernel
theorem d70 : decode jdk_29_method_69_code 5 = .ok (.iload_n 0, 1) := by decide +kernel
theorem d71 : decode jdk_29_method_69_code 6 = .ok (.goto 4, 3) := by decide +kernel
theorem d72 : decode jdk_29_method_69_code 10 = .ok (.ireturn, 1) := by decide +kernel
theorem pn_4 : plainFor (⟨"java/lang/Math", "min", "(II)I"⟩ : MethodName) = true := by first | (simp [plainFor, overriddenIn]; done) | decide +kernel
abbrev m_9 : MethodName := (⟨"java/lang/Math", "min", "(II)I"⟩ : MethodName)
def Q_min29 (Z : State) (h0 : Heap) (n0 : Nat) (v : Option Value) (h : Heap) (L : List Loc) : Prop := (v = some (.int 29)) ∧ (Fr n0 L) ∧ (h = h0)
theorem rm_min29 (l : Launch) (Z : State) (a0 : Array Value) (hw : HW Z a0) (ws : List Jvm.Cond) (h0 : Heap) (n0 : Nat) (Z0 : n0 ≤ h0.size) :
    MF l Z m_9 jdk_29_method_69_code 2 (some .int) ws (oR 0 0 0 0) #[(.int 29), (.int 60)] h0 (Q_min29 Z  h0 n0) := by
  refine own_body (cls := "java/lang/Math") pn_4 rfl (fun p e s m below meth c s₁ hx hby hml hown hnm hret hZ X0 e0 => ?_)
  have N0 := Fr.nil n0
  refine ⟨_, _, _, _, some (.int 29), X0, by decide, by decide, nofun, ?_, fun fs hr => castTop (ef_3 m (29 : Int32) (60 : Int32)) ?_⟩
  · show Q_min29 Z  h0 n0 _ s₁.heap _
    rw [(e0 : s₁.heap = h0)]
    exact ⟨rfl, N0, rfl⟩
  · show Steps _ _ _ (s₁.setTop (mkF m 0 #[vI 29, vI 60] [])) _
    refine XS.iloadN X0.here hx rfl (hb hby d67) rfl ?_
    refine XS.iloadN X0.here hx rfl (hb hby d68) rfl ?_
    refine XS.icmpNo X0.here hx rfl (hb hby d69) rfl (flt ((by decide) : ¬ ((60 : Int32) < (29 : Int32)))).2.2.1 ?_
    refine XS.iloadN X0.here hx rfl (hb hby d70) rfl ?_
    refine XS.goto X0.here hx rfl (pc0 := 6) (pc' := 10) rfl (hb hby d71) (by decide) (by decide) ?_
    exact retI X0 hx hret (hb hby d72) hr
theorem d73 : decode jdk_29_method_69_code 9 = .ok (.iload_n 1, 1) := by decide +kernel
def Q_minS (Z : State) (u1 : Int32) (u2 : Int32) (h0 : Heap) (n0 : Nat) (v : Option Value) (h : Heap) (L : List Loc) : Prop := (v = some (.int u2)) ∧ (Fr n0 L) ∧ (h = h0)
theorem rm_minS (l : Launch) (Z : State) (a0 : Array Value) (hw : HW Z a0) (ws : List Jvm.Cond) (u1 : Int32) (u2 : Int32) (h0 : Heap) (n0 : Nat) (Z0 : n0 ≤ h0.size) (hlt : u2 < u1) :
    MF l Z m_9 jdk_29_method_69_code 2 (some .int) ws (oR 0 0 0 0) #[(.int u1), (.int u2)] h0 (Q_minS Z u1 u2 h0 n0) := by
  refine own_body (cls := "java/lang/Math") pn_4 rfl (fun p e s m below meth c s₁ hx hby hml hown hnm hret hZ X0 e0 => ?_)
  have N0 := Fr.nil n0
  refine ⟨_, _, _, _, some (.int u2), X0, by decide, by decide, nofun, ?_, fun fs hr => castTop (ef_3 m u1 u2) ?_⟩
  · show Q_minS Z u1 u2 h0 n0 _ s₁.heap _
    rw [(e0 : s₁.heap = h0)]
    exact ⟨rfl, N0, rfl⟩
  · show Steps _ _ _ (s₁.setTop (mkF m 0 #[vI u1, vI u2] [])) _
    refine XS.iloadN X0.here hx rfl (hb hby d67) rfl ?_
    refine XS.iloadN X0.here hx rfl (hb hby d68) rfl ?_
    refine XS.icmpYes X0.here hx rfl (pc0 := 2) (pc' := 9) rfl (hb hby d69) rfl (tlt (hlt : u2 < u1)).2.2.1 (by decide) (by decide) ?_
    refine XS.iloadN X0.here hx rfl (hb hby d73) rfl ?_
    exact retI X0 hx hret (hb hby d72) hr
theorem d74 : decode jdk_68_method_10_code 0 = .ok (.aload_n 0, 1) := by decide +kernel
theorem w_84 {Z : State} {a0 : Array Value} (hw : HW Z a0) : (Jvm.Cond.fieldLink "java/lang/AbstractStringBuilder" (15 : Nat) "java/lang/AbstractStringBuilder" "value" "[B").before a0 Z = true := hw _ (List.mem_of_getElem? (i := 84) rfl)
theorem d75 : decode jdk_68_method_10_code 1 = .ok (.getfield 15, 3) := by decide +kernel
theorem d76 : decode jdk_68_method_10_code 4 = .ok (.arraylength, 1) := by decide +kernel
theorem d77 : decode jdk_68_method_10_code 5 = .ok (.istore_n 2, 1) := by decide +kernel
theorem d78 : decode jdk_68_method_10_code 6 = .ok (.iload_n 1, 1) := by decide +kernel
theorem d79 : decode jdk_68_method_10_code 7 = .ok (.aload_n 0, 1) := by decide +kernel
theorem w_82 {Z : State} {a0 : Array Value} (hw : HW Z a0) : (Jvm.Cond.fieldLink "java/lang/AbstractStringBuilder" (22 : Nat) "java/lang/AbstractStringBuilder" "coder" "B").before a0 Z = true := hw _ (List.mem_of_getElem? (i := 82) rfl)
theorem d80 : decode jdk_68_method_10_code 8 = .ok (.getfield 22, 3) := by decide +kernel
theorem d81 : decode jdk_68_method_10_code 11 = .ok (.ishl, 1) := by decide +kernel
theorem d82 : decode jdk_68_method_10_code 12 = .ok (.istore_n 3, 1) := by decide +kernel
theorem d83 : decode jdk_68_method_10_code 13 = .ok (.iload_n 3, 1) := by decide +kernel
theorem d84 : decode jdk_68_method_10_code 14 = .ok (.iload_n 2, 1) := by decide +kernel
theorem d85 : decode jdk_68_method_10_code 15 = .ok (.isub, 1) := by decide +kernel
theorem d86 : decode jdk_68_method_10_code 16 = .ok (.istore 4, 2) := by decide +kernel
theorem d87 : decode jdk_68_method_10_code 18 = .ok (.iload_n 2, 1) := by decide +kernel
theorem d88 : decode jdk_68_method_10_code 19 = .ok (.iload 4, 2) := by decide +kernel
theorem d89 : decode jdk_68_method_10_code 21 = .ok (.iload_n 2, 1) := by decide +kernel
theorem d90 : decode jdk_68_method_10_code 22 = .ok (.iconst 2, 1) := by decide +kernel
theorem d91 : decode jdk_68_method_10_code 23 = .ok (.aload_n 0, 1) := by decide +kernel
theorem d92 : decode jdk_68_method_10_code 24 = .ok (.getfield 22, 3) := by decide +kernel
theorem d93 : decode jdk_68_method_10_code 27 = .ok (.ishl, 1) := by decide +kernel
theorem d94 : decode jdk_68_method_10_code 28 = .ok (.iadd, 1) := by decide +kernel
theorem w_217 {Z : State} {a0 : Array Value} (hw : HW Z a0) : (Jvm.Cond.methodLink "java/lang/AbstractStringBuilder" (114 : Nat) m_8).before a0 Z = true := hw _ (List.mem_of_getElem? (i := 217) rfl)
theorem w_220 {Z : State} {a0 : Array Value} (hw : HW Z a0) : (Jvm.Cond.code m_8 jdk_48_method_27_code (4 : Nat) (Option.some FieldType.int)).before a0 Z = true := hw _ (List.mem_of_getElem? (i := 220) rfl)
theorem w_219 {Z : State} {a0 : Array Value} (hw : HW Z a0) : (Jvm.Cond.initialized "jdk/internal/util/ArraysSupport").before a0 Z = true := hw _ (List.mem_of_getElem? (i := 219) rfl)
theorem pd_5 : parseMethodDescriptor "(III)I" = some ⟨[.int, .int, .int], some .int⟩ := by decide +kernel
theorem d95 : decode jdk_68_method_10_code 29 = .ok (.invokestatic 114, 3) := by decide +kernel
theorem w_218 {Z : State} {a0 : Array Value} (hw : HW Z a0) : (Jvm.Cond.static m_8).before a0 Z = true := hw _ (List.mem_of_getElem? (i := 218) rfl)
theorem d96 : decode jdk_68_method_10_code 32 = .ok (.istore 5, 2) := by decide +kernel
theorem d97 : decode jdk_68_method_10_code 34 = .ok (.iload 5, 2) := by decide +kernel
theorem w_225 {Z : State} {a0 : Array Value} (hw : HW Z a0) : (Jvm.Cond.constant "java/lang/AbstractStringBuilder" (39 : Nat) (2147483647 : Int32)).before a0 Z = true := hw _ (List.mem_of_getElem? (i := 225) rfl)
theorem d98 : decode jdk_68_method_10_code 36 = .ok (.ldc 39, 2) := by decide +kernel
theorem d99 : decode jdk_68_method_10_code 38 = .ok (.if_icmp .ne 13, 3) := by decide +kernel
theorem d100 : decode jdk_68_method_10_code 51 = .ok (.iload 5, 2) := by decide +kernel
theorem d101 : decode jdk_68_method_10_code 53 = .ok (.aload_n 0, 1) := by decide +kernel
theorem d102 : decode jdk_68_method_10_code 54 = .ok (.getfield 22, 3) := by decide +kernel
theorem d103 : decode jdk_68_method_10_code 57 = .ok (.ishr, 1) := by decide +kernel
theorem d104 : decode jdk_68_method_10_code 58 = .ok (.ireturn, 1) := by decide +kernel
theorem pn_5 : plainName "java/lang/AbstractStringBuilder" = true := by first | (simp [plainName, overriddenIn]; done) | decide +kernel
theorem ef_5 (m : MethodId) (x0 : Addr) (x1 : Int32) : entryFrame m #[(.ref x0), (.int x1)] 6 = mkF m 0 #[vA x0, vI x1, .unset, .unset, .unset, .unset] [] := by first | (simp [entryFrame, mkF, argsToLocals, Value.category, maxLocals]; done) | rfl
abbrev m_10 : MethodName := (⟨"java/lang/AbstractStringBuilder", "newCapacity", "(I)I"⟩ : MethodName)
def Q_newCap32 (Z : State) (a_ : Addr) (v_ : Addr) (kv : ClassId) (xs : List Value) (h0 : Heap) (n0 : Nat) (v : Option Value) (h : Heap) (L : List Loc) : Prop := (v = some (.int 60)) ∧ (Fr n0 L) ∧ (h = h0)
theorem rm_newCap32 (l : Launch) (Z : State) (a0 : Array Value) (hw : HW Z a0) (ws : List Jvm.Cond) (a_ : Addr) (v_ : Addr) (kv : ClassId) (xs : List Value) (h0 : Heap) (n0 : Nat) (Z0 : n0 ≤ h0.size) (P0 : fld2 Z h0 a_ (.ref v_)) (P1 : fld3 Z h0 a_ (.int 0)) (P2 : Arv Z h0 v_ kv .byte (29 : Int32) xs (.int 0)) :
    MF l Z m_10 jdk_68_method_10_code 6 (some .int) ws (oR 2 0 0 29) #[(.ref a_), (.int 32)] h0 (Q_newCap32 Z a_ v_ kv xs h0 n0) := by
  refine own_body (cls := "java/lang/AbstractStringBuilder") (plainFor_of_name pn_5) rfl (fun p e s m below meth c s₁ hx hby hml hown hnm hret hZ X0 e0 => ?_)
  have N0 := Fr.nil n0
  have lt1 := own_l P0.lt
  have lt2 := own_l P1.lt
  have lt3 := own_l P2.lt
  obtain ⟨T4, X4, e4, st4⟩ := getF X0 hx hZ hown (host := "") (Or.inl (w_84 hw)) Via.refl e0 P0 (g := (mkF m 1 #[vA a_, vI 32, .unset, .unset, .unset, .unset] [(.ref a_)])) rfl rfl (hb hby d75)
  obtain ⟨cl5, Ar5, q5, S5, M5, H5, G5⟩ := id P2
  obtain ⟨T6, X6, e6, st6⟩ := getF X4 hx hZ hown (host := "") (Or.inl (w_82 hw)) Via.refl e4 P1 (g := (mkF m 8 #[vA a_, vI 32, vI 29, .unset, .unset, .unset] [(.ref a_), (.int 32)])) rfl rfl (hb hby d80)
  obtain ⟨T7, X7, e7, st7⟩ := getF X6 hx hZ hown (host := "") (Or.inl (w_82 hw)) Via.refl e6 P1 (g := (mkF m 24 #[vA a_, vI 32, vI 29, vI 32, vI 3, .unset] [(.ref a_), (.int 2), (.int 29), (.int 3), (.int 29)])) rfl rfl (hb hby d92)
  obtain ⟨_, _, ⟨T8, L8, k8, n8⟩, -, X8, ⟨Lc8, hQ8, l8, y8, z8⟩, st8⟩ := Jvm.LawKit.callS X7 hx (y := m_8) hown (mvT hZ (w_217 hw)) (mvT hZ (w_218 hw)) (mvT hZ (w_219 hw)) (mvT hZ (w_220 hw)) (by decide) (backOf (W := 0) (rm_newLen3 l Z a0 hw []  h0 n0 (by omega) ) hZ (w_220 hw) (w_219 hw) (by decide) (by decide)) (g := (mkF m 29 #[vA a_, vI 32, vI 29, vI 32, vI 3, .unset] [(.int 31), (.int 3), (.int 29)])) rfl (by rw [hml]; rfl) (argsL := [(.int 29), (.int 3), (.int 31)]) (rest := []) (lenOf pd_5 rfl) rfl (Nat.le_of_eq rfl) (hb hby d95) (fun _ _ => ⟨rfl, e7, (by decide : 0 + 0 ≤ _), (by decide : 0 + 0 ≤ _)⟩)
  dsimp only [Pt.U, Pt.locs, Pt.cells, Pt.slots] at X8 l8 y8 z8 st8 hQ8
  rw [l8, y8, z8] at X8
  obtain ⟨rfl, Nq8, Kq8⟩ := hQ8
  have N8 := Fr.app N0 Nq8
  obtain ⟨T10, X10, e10, st10⟩ := getF X8 hx hZ hown (host := "") (Or.inl (w_82 hw)) Via.refl Kq8 P1 (g := (mkF m 54 #[vA a_, vI 32, vI 29, vI 32, vI 3, vI 60] [(.ref a_), (.int 60)])) rfl rfl (hb hby d102)
  refine ⟨_, _, _, _, some (.int 60), X10, by decide, by decide, nofun, ?_, fun fs hr => castTop (ef_5 m a_ (32 : Int32)) ?_⟩
  · show Q_newCap32 Z a_ v_ kv xs h0 n0 _ T10.heap _
    rw [(e10 : T10.heap = h0)]
    exact ⟨rfl, N8, rfl⟩
  · show Steps _ _ _ (s₁.setTop (mkF m 0 #[vA a_, vI 32, .unset, .unset, .unset, .unset] [])) _
    refine XS.aloadN X0.here hx rfl (hb hby d74) rfl rfl ?_
    refine st4 _ ?_
    show Steps _ _ _ (T4.setTop (mkF m 4 #[vA a_, vI 32, .unset, .unset, .unset, .unset] [(.ref v_)])) _
    refine X4.arraylength hx (by rw [e4]; exact Ar5.1) (State.isArrayOf_alike hZ.alike Ar5.2.1) (g := (mkF m 4 #[vA a_, vI 32, .unset, .unset, .unset, .unset] [(.ref v_)])) rfl rfl (hb hby d76) _ ?_
    rw [len_of S5 M5]
    show Steps _ _ _ (T4.setTop (mkF m 5 #[vA a_, vI 32, .unset, .unset, .unset, .unset] [(.int 29)])) _
    refine XS.istoreN X4.here hx rfl (hb hby d77) rfl (l' := #[vA a_, vI 32, vI 29, .unset, .unset, .unset]) rfl ?_
    refine XS.iloadN X4.here hx rfl (hb hby d78) rfl ?_
    refine XS.aloadN X4.here hx rfl (hb hby d79) rfl rfl ?_
    refine st6 _ ?_
    show Steps _ _ _ (T6.setTop (mkF m 11 #[vA a_, vI 32, vI 29, .unset, .unset, .unset] [(.int 0), (.int 32)])) _
    refine XS.ishl X6.here hx rfl (hb hby d81) rfl ?_
    refine XS.istoreN X6.here hx rfl (hb hby d82) rfl (l' := #[vA a_, vI 32, vI 29, vI 32, .unset, .unset]) rfl ?_
    refine XS.iloadN X6.here hx rfl (hb hby d83) rfl ?_
    refine XS.iloadN X6.here hx rfl (hb hby d84) rfl ?_
    refine XS.isub X6.here hx rfl (hb hby d85) rfl ?_
    refine XS.istore X6.here hx rfl (hb hby d86) rfl (l' := #[vA a_, vI 32, vI 29, vI 32, vI 3, .unset]) rfl ?_
    refine XS.iloadN X6.here hx rfl (hb hby d87) rfl ?_
    refine XS.iload X6.here hx rfl (hb hby d88) rfl ?_
    refine XS.iloadN X6.here hx rfl (hb hby d89) rfl ?_
    refine XS.iconst X6.here hx rfl (hb hby d90) ?_
    refine XS.aloadN X6.here hx rfl (hb hby d91) rfl rfl ?_
    refine st7 _ ?_
    show Steps _ _ _ (T7.setTop (mkF m 27 #[vA a_, vI 32, vI 29, vI 32, vI 3, .unset] [(.int 0), (.int 2), (.int 29), (.int 3), (.int 29)])) _
    refine XS.ishl X7.here hx rfl (hb hby d93) rfl ?_
    refine XS.iadd X7.here hx rfl (hb hby d94) rfl ?_
    refine st8 _ ?_
    show Steps _ _ _ (T8.setTop (mkF m 32 #[vA a_, vI 32, vI 29, vI 32, vI 3, .unset] [(.int 60)])) _
    refine XS.istore X8.here hx rfl (hb hby d96) rfl (l' := #[vA a_, vI 32, vI 29, vI 32, vI 3, vI 60]) rfl ?_
    refine XS.iload X8.here hx rfl (hb hby d97) rfl ?_
    refine X8.ldcInt hx hown (mvT hZ (w_225 hw)) (g := (mkF m 36 #[vA a_, vI 32, vI 29, vI 32, vI 3, vI 60] [(.int 60)])) rfl (hb hby d98) _ ?_
    show Steps _ _ _ (T8.setTop (mkF m 38 #[vA a_, vI 32, vI 29, vI 32, vI 3, vI 60] [(.int 2147483647), (.int 60)])) _
    refine XS.icmpYes X8.here hx rfl (pc0 := 38) (pc' := 51) rfl (hb hby d99) rfl (feq ((by decide) : ¬ ((60 : Int32) = (2147483647 : Int32)))).2 (by decide) (by decide) ?_
    refine XS.iload X8.here hx rfl (hb hby d100) rfl ?_
    refine XS.aloadN X8.here hx rfl (hb hby d101) rfl rfl ?_
    refine st10 _ ?_
    show Steps _ _ _ (T10.setTop (mkF m 57 #[vA a_, vI 32, vI 29, vI 32, vI 3, vI 60] [(.int 0), (.int 60)])) _
    refine XS.ishr X10.here hx rfl (hb hby d103) rfl ?_
    exact retI X10 hx hret (hb hby d104) hr
def Q_newCap33 (Z : State) (a_ : Addr) (v_ : Addr) (kv : ClassId) (xs : List Value) (h0 : Heap) (n0 : Nat) (v : Option Value) (h : Heap) (L : List Loc) : Prop := (v = some (.int 60)) ∧ (Fr n0 L) ∧ (h = h0)
theorem rm_newCap33 (l : Launch) (Z : State) (a0 : Array Value) (hw : HW Z a0) (ws : List Jvm.Cond) (a_ : Addr) (v_ : Addr) (kv : ClassId) (xs : List Value) (h0 : Heap) (n0 : Nat) (Z0 : n0 ≤ h0.size) (P0 : fld2 Z h0 a_ (.ref v_)) (P1 : fld3 Z h0 a_ (.int 0)) (P2 : Arv Z h0 v_ kv .byte (29 : Int32) xs (.int 0)) :
    MF l Z m_10 jdk_68_method_10_code 6 (some .int) ws (oR 2 0 0 29) #[(.ref a_), (.int 33)] h0 (Q_newCap33 Z a_ v_ kv xs h0 n0) := by
  refine own_body (cls := "java/lang/AbstractStringBuilder") (plainFor_of_name pn_5) rfl (fun p e s m below meth c s₁ hx hby hml hown hnm hret hZ X0 e0 => ?_)
  have N0 := Fr.nil n0
  have lt1 := own_l P0.lt
  have lt2 := own_l P1.lt
  have lt3 := own_l P2.lt
  obtain ⟨T4, X4, e4, st4⟩ := getF X0 hx hZ hown (host := "") (Or.inl (w_84 hw)) Via.refl e0 P0 (g := (mkF m 1 #[vA a_, vI 33, .unset, .unset, .unset, .unset] [(.ref a_)])) rfl rfl (hb hby d75)
  obtain ⟨cl5, Ar5, q5, S5, M5, H5, G5⟩ := id P2
  obtain ⟨T6, X6, e6, st6⟩ := getF X4 hx hZ hown (host := "") (Or.inl (w_82 hw)) Via.refl e4 P1 (g := (mkF m 8 #[vA a_, vI 33, vI 29, .unset, .unset, .unset] [(.ref a_), (.int 33)])) rfl rfl (hb hby d80)
  obtain ⟨T7, X7, e7, st7⟩ := getF X6 hx hZ hown (host := "") (Or.inl (w_82 hw)) Via.refl e6 P1 (g := (mkF m 24 #[vA a_, vI 33, vI 29, vI 33, vI 4, .unset] [(.ref a_), (.int 2), (.int 29), (.int 4), (.int 29)])) rfl rfl (hb hby d92)
  obtain ⟨_, _, ⟨T8, L8, k8, n8⟩, -, X8, ⟨Lc8, hQ8, l8, y8, z8⟩, st8⟩ := Jvm.LawKit.callS X7 hx (y := m_8) hown (mvT hZ (w_217 hw)) (mvT hZ (w_218 hw)) (mvT hZ (w_219 hw)) (mvT hZ (w_220 hw)) (by decide) (backOf (W := 0) (rm_newLen4 l Z a0 hw []  h0 n0 (by omega) ) hZ (w_220 hw) (w_219 hw) (by decide) (by decide)) (g := (mkF m 29 #[vA a_, vI 33, vI 29, vI 33, vI 4, .unset] [(.int 31), (.int 4), (.int 29)])) rfl (by rw [hml]; rfl) (argsL := [(.int 29), (.int 4), (.int 31)]) (rest := []) (lenOf pd_5 rfl) rfl (Nat.le_of_eq rfl) (hb hby d95) (fun _ _ => ⟨rfl, e7, (by decide : 0 + 0 ≤ _), (by decide : 0 + 0 ≤ _)⟩)
  dsimp only [Pt.U, Pt.locs, Pt.cells, Pt.slots] at X8 l8 y8 z8 st8 hQ8
  rw [l8, y8, z8] at X8
  obtain ⟨rfl, Nq8, Kq8⟩ := hQ8
  have N8 := Fr.app N0 Nq8
  obtain ⟨T10, X10, e10, st10⟩ := getF X8 hx hZ hown (host := "") (Or.inl (w_82 hw)) Via.refl Kq8 P1 (g := (mkF m 54 #[vA a_, vI 33, vI 29, vI 33, vI 4, vI 60] [(.ref a_), (.int 60)])) rfl rfl (hb hby d102)
  refine ⟨_, _, _, _, some (.int 60), X10, by decide, by decide, nofun, ?_, fun fs hr => castTop (ef_5 m a_ (33 : Int32)) ?_⟩
  · show Q_newCap33 Z a_ v_ kv xs h0 n0 _ T10.heap _
    rw [(e10 : T10.heap = h0)]
    exact ⟨rfl, N8, rfl⟩
  · show Steps _ _ _ (s₁.setTop (mkF m 0 #[vA a_, vI 33, .unset, .unset, .unset, .unset] [])) _
    refine XS.aloadN X0.here hx rfl (hb hby d74) rfl rfl ?_
    refine st4 _ ?_
    show Steps _ _ _ (T4.setTop (mkF m 4 #[vA a_, vI 33, .unset, .unset, .unset, .unset] [(.ref v_)])) _
    refine X4.arraylength hx (by rw [e4]; exact Ar5.1) (State.isArrayOf_alike hZ.alike Ar5.2.1) (g := (mkF m 4 #[vA a_, vI 33, .unset, .unset, .unset, .unset] [(.ref v_)])) rfl rfl (hb hby d76) _ ?_
    rw [len_of S5 M5]
    show Steps _ _ _ (T4.setTop (mkF m 5 #[vA a_, vI 33, .unset, .unset, .unset, .unset] [(.int 29)])) _
    refine XS.istoreN X4.here hx rfl (hb hby d77) rfl (l' := #[vA a_, vI 33, vI 29, .unset, .unset, .unset]) rfl ?_
    refine XS.iloadN X4.here hx rfl (hb hby d78) rfl ?_
    refine XS.aloadN X4.here hx rfl (hb hby d79) rfl rfl ?_
    refine st6 _ ?_
    show Steps _ _ _ (T6.setTop (mkF m 11 #[vA a_, vI 33, vI 29, .unset, .unset, .unset] [(.int 0), (.int 33)])) _
    refine XS.ishl X6.here hx rfl (hb hby d81) rfl ?_
    refine XS.istoreN X6.here hx rfl (hb hby d82) rfl (l' := #[vA a_, vI 33, vI 29, vI 33, .unset, .unset]) rfl ?_
    refine XS.iloadN X6.here hx rfl (hb hby d83) rfl ?_
    refine XS.iloadN X6.here hx rfl (hb hby d84) rfl ?_
    refine XS.isub X6.here hx rfl (hb hby d85) rfl ?_
    refine XS.istore X6.here hx rfl (hb hby d86) rfl (l' := #[vA a_, vI 33, vI 29, vI 33, vI 4, .unset]) rfl ?_
    refine XS.iloadN X6.here hx rfl (hb hby d87) rfl ?_
    refine XS.iload X6.here hx rfl (hb hby d88) rfl ?_
    refine XS.iloadN X6.here hx rfl (hb hby d89) rfl ?_
    refine XS.iconst X6.here hx rfl (hb hby d90) ?_
    refine XS.aloadN X6.here hx rfl (hb hby d91) rfl rfl ?_
    refine st7 _ ?_
    show Steps _ _ _ (T7.setTop (mkF m 27 #[vA a_, vI 33, vI 29, vI 33, vI 4, .unset] [(.int 0), (.int 2), (.int 29), (.int 4), (.int 29)])) _
    refine XS.ishl X7.here hx rfl (hb hby d93) rfl ?_
    refine XS.iadd X7.here hx rfl (hb hby d94) rfl ?_
    refine st8 _ ?_
    show Steps _ _ _ (T8.setTop (mkF m 32 #[vA a_, vI 33, vI 29, vI 33, vI 4, .unset] [(.int 60)])) _
    refine XS.istore X8.here hx rfl (hb hby d96) rfl (l' := #[vA a_, vI 33, vI 29, vI 33, vI 4, vI 60]) rfl ?_
    refine XS.iload X8.here hx rfl (hb hby d97) rfl ?_
    refine X8.ldcInt hx hown (mvT hZ (w_225 hw)) (g := (mkF m 36 #[vA a_, vI 33, vI 29, vI 33, vI 4, vI 60] [(.int 60)])) rfl (hb hby d98) _ ?_
    show Steps _ _ _ (T8.setTop (mkF m 38 #[vA a_, vI 33, vI 29, vI 33, vI 4, vI 60] [(.int 2147483647), (.int 60)])) _
    refine XS.icmpYes X8.here hx rfl (pc0 := 38) (pc' := 51) rfl (hb hby d99) rfl (feq ((by decide) : ¬ ((60 : Int32) = (2147483647 : Int32)))).2 (by decide) (by decide) ?_
    refine XS.iload X8.here hx rfl (hb hby d100) rfl ?_
    refine XS.aloadN X8.here hx rfl (hb hby d101) rfl rfl ?_
    refine st10 _ ?_
    show Steps _ _ _ (T10.setTop (mkF m 57 #[vA a_, vI 33, vI 29, vI 33, vI 4, vI 60] [(.int 0), (.int 60)])) _
    refine XS.ishr X10.here hx rfl (hb hby d103) rfl ?_
    exact retI X10 hx hret (hb hby d104) hr
theorem d105 : decode jdk_65_method_121_code 0 = .ok (.iload_n 1, 1) := by decide +kernel
theorem d106 : decode jdk_65_method_121_code 1 = .ok (.aload_n 0, 1) := by decide +kernel
theorem d107 : decode jdk_65_method_121_code 2 = .ok (.arraylength, 1) := by decide +kernel
theorem d108 : decode jdk_65_method_121_code 3 = .ok (.if_icmp .ne 11, 3) := by decide +kernel
theorem d109 : decode jdk_65_method_121_code 14 = .ok (.iload_n 1, 1) := by decide +kernel
theorem d110 : decode jdk_65_method_121_code 15 = .ok (.newarray .byte, 2) := by decide +kernel
theorem d111 : decode jdk_65_method_121_code 17 = .ok (.astore_n 2, 1) := by decide +kernel
theorem d112 : decode jdk_65_method_121_code 18 = .ok (.aload_n 0, 1) := by decide +kernel
theorem d113 : decode jdk_65_method_121_code 19 = .ok (.iconst 0, 1) := by decide +kernel
theorem d114 : decode jdk_65_method_121_code 20 = .ok (.aload_n 2, 1) := by decide +kernel
theorem d115 : decode jdk_65_method_121_code 21 = .ok (.iconst 0, 1) := by decide +kernel
theorem d116 : decode jdk_65_method_121_code 22 = .ok (.aload_n 0, 1) := by decide +kernel
theorem d117 : decode jdk_65_method_121_code 23 = .ok (.arraylength, 1) := by decide +kernel
theorem d118 : decode jdk_65_method_121_code 24 = .ok (.iload_n 1, 1) := by decide +kernel
theorem w_180 {Z : State} {a0 : Array Value} (hw : HW Z a0) : (Jvm.Cond.methodLink "java/util/Arrays" (304 : Nat) m_9).before a0 Z = true := hw _ (List.mem_of_getElem? (i := 180) rfl)
theorem w_183 {Z : State} {a0 : Array Value} (hw : HW Z a0) : (Jvm.Cond.code m_9 jdk_29_method_69_code (2 : Nat) (Option.some FieldType.int)).before a0 Z = true := hw _ (List.mem_of_getElem? (i := 183) rfl)
theorem d119 : decode jdk_65_method_121_code 25 = .ok (.invokestatic 304, 3) := by decide +kernel
theorem w_181 {Z : State} {a0 : Array Value} (hw : HW Z a0) : (Jvm.Cond.static m_9).before a0 Z = true := hw _ (List.mem_of_getElem? (i := 181) rfl)
abbrev m_11 : MethodName := (⟨"java/lang/System", "arraycopy", "(Ljava/lang/Object;ILjava/lang/Object;II)V"⟩ : MethodName)
theorem w_184 {Z : State} {a0 : Array Value} (hw : HW Z a0) : (Jvm.Cond.methodLink "java/util/Arrays" (150 : Nat) m_11).before a0 Z = true := hw _ (List.mem_of_getElem? (i := 184) rfl)
theorem w_126 {Z : State} {a0 : Array Value} (hw : HW Z a0) : (Jvm.Cond.native m_11).before a0 Z = true := hw _ (List.mem_of_getElem? (i := 126) rfl)
theorem w_124 {Z : State} {a0 : Array Value} (hw : HW Z a0) : (Jvm.Cond.static m_11).before a0 Z = true := hw _ (List.mem_of_getElem? (i := 124) rfl)
theorem w_125 {Z : State} {a0 : Array Value} (hw : HW Z a0) : (Jvm.Cond.initialized "java/lang/System").before a0 Z = true := hw _ (List.mem_of_getElem? (i := 125) rfl)
theorem d120 : decode jdk_65_method_121_code 28 = .ok (.invokestatic 150, 3) := by decide +kernel
theorem d121 : decode jdk_65_method_121_code 31 = .ok (.aload_n 2, 1) := by decide +kernel
theorem d122 : decode jdk_65_method_121_code 32 = .ok (.areturn, 1) := by decide +kernel
theorem pn_6 : plainName "java/util/Arrays" = true := by first | (simp [plainName, overriddenIn]; done) | decide +kernel
theorem ef_6 (m : MethodId) (x0 : Addr) (x1 : Int32) : entryFrame m #[(.ref x0), (.int x1)] 3 = mkF m 0 #[vA x0, vI x1, .unset] [] := by first | (simp [entryFrame, mkF, argsToLocals, Value.category, maxLocals]; done) | rfl
abbrev m_12 : MethodName := (⟨"java/util/Arrays", "copyOf", "([BI)[B"⟩ : MethodName)
def Q_copyOf (Z : State) (v_ : Addr) (kv : ClassId) (xs : List Value) (h0 : Heap) (n0 : Nat) (v : Option Value) (h : Heap) (L : List Loc) : Prop := ∃ (b : Addr) (k : ClassId), (v = some (.ref b)) ∧ (Fr n0 L) ∧ (Keep h0 h []) ∧ (h0.size ≤ b) ∧ (Arv Z h b k .byte (60 : Int32) xs (.int 0))
theorem rm_copyOf (l : Launch) (Z : State) (a0 : Array Value) (hw : HW Z a0) (ws : List Jvm.Cond) (v_ : Addr) (kv : ClassId) (xs : List Value) (h0 : Heap) (n0 : Nat) (Z0 : n0 ≤ h0.size) (P0 : Arv Z h0 v_ kv .byte (29 : Int32) xs (.int 0)) (hl29 : xs.length ≤ 29) :
    MF l Z m_12 jdk_65_method_121_code 3 (some (.array .byte)) ws (oR 1 1 60 18) #[(.ref v_), (.int 60)] h0 (Q_copyOf Z v_ kv xs h0 n0) := by
  refine own_body (cls := "java/util/Arrays") (plainFor_of_name pn_6) rfl (fun p e s m below meth c s₁ hx hby hml hown hnm hret hZ X0 e0 => ?_)
  have N0 := Fr.nil n0
  have K0 := Keep.refl h0 []
  have lt1 := own_l P0.lt
  obtain ⟨cl2, Ar2, q2, S2, M2, H2, G2⟩ := id P0
  obtain ⟨T3, h3, k3, X3, e3, E3, A3, st3⟩ := newP X0 hx hZ (aty := .byte) (w_17 hw) e0 (g := (mkF m 15 #[vA v_, vI 60, .unset] [(.int 60)])) rfl (hb hby d110) rfl (by decide) (cap := 60) (by decide) (by decide) (by decide) (by decide)
  obtain ⟨b3, g3⟩ : ∃ z, z = h0.size := ⟨_, rfl⟩
  rw [← g3] at A3 st3
  have z3 := E3.1
  have K3 := K0.ext E3
  have V3 : Arv Z h3 b3 k3 .byte (60 : Int32) [] (.int 0) := Arv.new A3 (by decide)
  have lt4 := own_l V3.lt
  have f6 := P0.ext E3
  obtain ⟨cl5, Ar5, q5, S5, M5, H5, G5⟩ := id f6
  obtain ⟨_, _, ⟨T7, L7, k7, n7⟩, -, X7, ⟨Lc7, hQ7, l7, y7, z7⟩, st7⟩ := Jvm.LawKit.callS X3 hx (y := m_9) hown (mvT hZ (w_180 hw)) (mvT hZ (w_181 hw)) (mvT hZ (w_182 hw)) (mvT hZ (w_183 hw)) (by decide) (backOf (W := 4) (rm_min29 l Z a0 hw []  h3 n0 (by omega) ) hZ (w_183 hw) (w_182 hw) (by decide) (by decide)) (g := (mkF m 25 #[vA v_, vI 60, vA b3] [(.int 60), (.int 29), (.int 0), (.ref b3), (.int 0), (.ref v_)])) rfl (by rw [hml]; rfl) (argsL := [(.int 29), (.int 60)]) (rest := [(.int 0), (.ref b3), (.int 0), (.ref v_)]) (lenOf pd_4 rfl) rfl (Nat.le_of_eq rfl) (hb hby d119) (fun _ _ => ⟨rfl, e3, (by decide : 1 + 0 ≤ _), (by decide : 60 + 0 ≤ _)⟩)
  dsimp only [Pt.U, Pt.locs, Pt.cells, Pt.slots] at X7 l7 y7 z7 st7 hQ7
  rw [l7, y7, z7] at X7
  obtain ⟨rfl, Nq7, Kq7⟩ := hQ7
  have N7 := Fr.app N0 Nq7
  obtain ⟨T8, h8, L8, X8, e8, N8, Kq8, V8, st8⟩ := cpB X7 hx hZ hown (w_184 hw) (w_126 hw) (w_124 hw) (w_125 hw) Kq7 f6 V3 (by decide) (by decide) rfl (show xs.length ≤ (29 : Int32).toNatClampNeg from hl29) (by decide) (by decide) N7 (by omega) (g := (mkF m 28 #[vA v_, vI 60, vA b3] [(.int 29), (.int 0), (.ref b3), (.int 0), (.ref v_)])) rfl (by rw [hml]; rfl) rfl (hb hby d120) (by decide) (W := 0) (Nat.le_of_eq rfl) (by decide)
  replace V8 : Arv Z h8 b3 k3 .byte (60 : Int32) xs (.int 0) := V8
  have z8' := Kq8.1
  have K8 := K3.trans Kq8 (allS (Or.inr (by omega)) all0)
  refine ⟨_, _, _, _, some (.ref b3), X8, by decide, by decide, nofun, ?_, fun fs hr => castTop (ef_6 m v_ (60 : Int32)) ?_⟩
  · show Q_copyOf Z v_ kv xs h0 n0 _ T8.heap _
    rw [(e8 : T8.heap = h8)]
    exact ⟨b3, k3, rfl, N8, K8, (by omega), V8⟩
  · show Steps _ _ _ (s₁.setTop (mkF m 0 #[vA v_, vI 60, .unset] [])) _
    refine XS.iloadN X0.here hx rfl (hb hby d105) rfl ?_
    refine XS.aloadN X0.here hx rfl (hb hby d106) rfl rfl ?_
    refine X0.arraylength hx (by rw [e0]; exact Ar2.1) (State.isArrayOf_alike hZ.alike Ar2.2.1) (g := (mkF m 2 #[vA v_, vI 60, .unset] [(.ref v_), (.int 60)])) rfl rfl (hb hby d107) _ ?_
    rw [len_of S2 M2]
    show Steps _ _ _ (s₁.setTop (mkF m 3 #[vA v_, vI 60, .unset] [(.int 29), (.int 60)])) _
    refine XS.icmpYes X0.here hx rfl (pc0 := 3) (pc' := 14) rfl (hb hby d108) rfl (feq ((by decide) : ¬ ((60 : Int32) = (29 : Int32)))).2 (by decide) (by decide) ?_
    refine XS.iloadN X0.here hx rfl (hb hby d109) rfl ?_
    refine st3 _ ?_
    show Steps _ _ _ (T3.setTop (mkF m 17 #[vA v_, vI 60, .unset] [(.ref b3)])) _
    refine XS.astoreN X3.here hx rfl (hb hby d111) rfl rfl (l' := #[vA v_, vI 60, vA b3]) rfl ?_
    refine XS.aloadN X3.here hx rfl (hb hby d112) rfl rfl ?_
    refine XS.iconst X3.here hx rfl (hb hby d113) ?_
    refine XS.aloadN X3.here hx rfl (hb hby d114) rfl rfl ?_
    refine XS.iconst X3.here hx rfl (hb hby d115) ?_
    refine XS.aloadN X3.here hx rfl (hb hby d116) rfl rfl ?_
    refine X3.arraylength hx (by rw [e3]; exact Ar5.1) (State.isArrayOf_alike hZ.alike Ar5.2.1) (g := (mkF m 23 #[vA v_, vI 60, vA b3] [(.ref v_), (.int 0), (.ref b3), (.int 0), (.ref v_)])) rfl rfl (hb hby d117) _ ?_
    rw [len_of S5 M5]
    show Steps _ _ _ (T3.setTop (mkF m 24 #[vA v_, vI 60, vA b3] [(.int 29), (.int 0), (.ref b3), (.int 0), (.ref v_)])) _
    refine XS.iloadN X3.here hx rfl (hb hby d118) rfl ?_
    refine st7 _ ?_
    show Steps _ _ _ (T7.setTop (mkF m 28 #[vA v_, vI 60, vA b3] [(.int 29), (.int 0), (.ref b3), (.int 0), (.ref v_)])) _
    refine st8 _ ?_
    show Steps _ _ _ (T8.setTop (mkF m 31 #[vA v_, vI 60, vA b3] [])) _
    refine XS.aloadN X8.here hx rfl (hb hby d121) rfl rfl ?_
    exact retOut X8 hx hret (own_narrow_ref rfl) (Or.inr (Or.inr (Or.inr (Or.inr ⟨rfl, rfl, rfl⟩)))) (hb hby d122) hr
theorem d123 : decode jdk_68_method_9_code 0 = .ok (.aload_n 0, 1) := by decide +kernel
theorem d124 : decode jdk_68_method_9_code 1 = .ok (.getfield 15, 3) := by decide +kernel
theorem d125 : decode jdk_68_method_9_code 4 = .ok (.arraylength, 1) := by decide +kernel
theorem d126 : decode jdk_68_method_9_code 5 = .ok (.aload_n 0, 1) := by decide +kernel
theorem d127 : decode jdk_68_method_9_code 6 = .ok (.getfield 22, 3) := by decide +kernel
theorem d128 : decode jdk_68_method_9_code 9 = .ok (.ishr, 1) := by decide +kernel
theorem d129 : decode jdk_68_method_9_code 10 = .ok (.istore_n 2, 1) := by decide +kernel
theorem d130 : decode jdk_68_method_9_code 11 = .ok (.iload_n 1, 1) := by decide +kernel
theorem d131 : decode jdk_68_method_9_code 12 = .ok (.iload_n 2, 1) := by decide +kernel
theorem d132 : decode jdk_68_method_9_code 13 = .ok (.isub, 1) := by decide +kernel
theorem d133 : decode jdk_68_method_9_code 14 = .ok (.ifCond .le 24, 3) := by decide +kernel
theorem d134 : decode jdk_68_method_9_code 38 = .ok (.return_, 1) := by decide +kernel
abbrev m_13 : MethodName := (⟨"java/lang/AbstractStringBuilder", "ensureCapacityInternal", "(I)V"⟩ : MethodName)
def Q_ensN (Z : State) (a_ : Addr) (v_ : Addr) (kv : ClassId) (N : Int32) (xs : List Value) (mc : Int32) (h0 : Heap) (n0 : Nat) (v : Option Value) (h : Heap) (L : List Loc) : Prop := (v = none) ∧ (Fr n0 L) ∧ (h = h0)
theorem rm_ensN (l : Launch) (Z : State) (a0 : Array Value) (hw : HW Z a0) (ws : List Jvm.Cond) (a_ : Addr) (v_ : Addr) (kv : ClassId) (N : Int32) (xs : List Value) (mc : Int32) (h0 : Heap) (n0 : Nat) (Z0 : n0 ≤ h0.size) (P0 : fld2 Z h0 a_ (.ref v_)) (P1 : fld3 Z h0 a_ (.int 0)) (P2 : Arv Z h0 v_ kv .byte N xs (.int 0)) (hng : ¬ ((0 : Int32) < (mc - N))) :
    MF l Z m_13 jdk_68_method_9_code 3 none ws (oR 0 0 0 0) #[(.ref a_), (.int mc)] h0 (Q_ensN Z a_ v_ kv N xs mc h0 n0) := by
  refine own_body (cls := "java/lang/AbstractStringBuilder") (plainFor_of_name pn_5) rfl (fun p e s m below meth c s₁ hx hby hml hown hnm hret hZ X0 e0 => ?_)
  have N0 := Fr.nil n0
  have lt1 := own_l P0.lt
  have lt2 := own_l P1.lt
  have lt3 := own_l P2.lt
  obtain ⟨T4, X4, e4, st4⟩ := getF X0 hx hZ hown (host := "") (Or.inl (w_84 hw)) Via.refl e0 P0 (g := (mkF m 1 #[vA a_, vI mc, .unset] [(.ref a_)])) rfl rfl (hb hby d124)
  obtain ⟨cl5, Ar5, q5, S5, M5, H5, G5⟩ := id P2
  obtain ⟨T6, X6, e6, st6⟩ := getF X4 hx hZ hown (host := "") (Or.inl (w_82 hw)) Via.refl e4 P1 (g := (mkF m 6 #[vA a_, vI mc, .unset] [(.ref a_), (.int N)])) rfl rfl (hb hby d127)
  refine ⟨_, _, _, _, none, X6, by decide, by decide, fun _ => rfl, ?_, fun fs hr => castTop (ef_6 m a_ mc) ?_⟩
  · show Q_ensN Z a_ v_ kv N xs mc h0 n0 _ T6.heap _
    rw [(e6 : T6.heap = h0)]
    exact ⟨rfl, N0, rfl⟩
  · show Steps _ _ _ (s₁.setTop (mkF m 0 #[vA a_, vI mc, .unset] [])) _
    refine XS.aloadN X0.here hx rfl (hb hby d123) rfl rfl ?_
    refine st4 _ ?_
    show Steps _ _ _ (T4.setTop (mkF m 4 #[vA a_, vI mc, .unset] [(.ref v_)])) _
    refine X4.arraylength hx (by rw [e4]; exact Ar5.1) (State.isArrayOf_alike hZ.alike Ar5.2.1) (g := (mkF m 4 #[vA a_, vI mc, .unset] [(.ref v_)])) rfl rfl (hb hby d125) _ ?_
    rw [len_of S5 M5]
    show Steps _ _ _ (T4.setTop (mkF m 5 #[vA a_, vI mc, .unset] [(.int N)])) _
    refine XS.aloadN X4.here hx rfl (hb hby d126) rfl rfl ?_
    refine st6 _ ?_
    show Steps _ _ _ (T6.setTop (mkF m 9 #[vA a_, vI mc, .unset] [(.int 0), (.int N)])) _
    refine XS.ishr X6.here hx rfl (hb hby d128) rfl ?_
    show Steps _ _ _ (T6.setTop (mkF m 10 #[vA a_, vI mc, .unset] [(.int (N >>> ((0 : Int32) &&& 31)))])) _
    rw [own_shr0]
    show Steps _ _ _ (T6.setTop (mkF m 10 #[vA a_, vI mc, .unset] [(.int N)])) _
    refine XS.istoreN X6.here hx rfl (hb hby d129) rfl (l' := #[vA a_, vI mc, vI N]) rfl ?_
    refine XS.iloadN X6.here hx rfl (hb hby d130) rfl ?_
    refine XS.iloadN X6.here hx rfl (hb hby d131) rfl ?_
    refine XS.isub X6.here hx rfl (hb hby d132) rfl ?_
    refine XS.ifYes X6.here hx rfl (pc0 := 14) (pc' := 38) rfl (hb hby d133) rfl ((if0 _ _).trans (flt (hng : ¬ ((0 : Int32) < (mc - N)))).2.2.2) (by decide) (by decide) ?_
    exact X6.returnOut hx hret (hb hby d134) hr
theorem d135 : decode jdk_68_method_9_code 17 = .ok (.aload_n 0, 1) := by decide +kernel
theorem d136 : decode jdk_68_method_9_code 18 = .ok (.aload_n 0, 1) := by decide +kernel
theorem d137 : decode jdk_68_method_9_code 19 = .ok (.getfield 15, 3) := by decide +kernel
theorem d138 : decode jdk_68_method_9_code 22 = .ok (.aload_n 0, 1) := by decide +kernel
theorem d139 : decode jdk_68_method_9_code 23 = .ok (.iload_n 1, 1) := by decide +kernel
theorem w_212 {Z : State} {a0 : Array Value} (hw : HW Z a0) : (Jvm.Cond.methodLink "java/lang/AbstractStringBuilder" (104 : Nat) m_10).before a0 Z = true := hw _ (List.mem_of_getElem? (i := 212) rfl)
theorem w_216 {Z : State} {a0 : Array Value} (hw : HW Z a0) : (Jvm.Cond.code m_10 jdk_68_method_10_code (6 : Nat) (Option.some FieldType.int)).before a0 Z = true := hw _ (List.mem_of_getElem? (i := 216) rfl)
theorem w_67 {Z : State} {a0 : Array Value} (hw : HW Z a0) : (Jvm.Cond.initialized "java/lang/AbstractStringBuilder").before a0 Z = true := hw _ (List.mem_of_getElem? (i := 67) rfl)
theorem pd_6 : parseMethodDescriptor "(I)I" = some ⟨[.int], some .int⟩ := by decide +kernel
theorem d140 : decode jdk_68_method_9_code 24 = .ok (.invokevirtual 104, 3) := by decide +kernel
theorem w_213 {Z : State} {a0 : Array Value} (hw : HW Z a0) : (Jvm.Cond.instanceMethod m_10).before a0 Z = true := hw _ (List.mem_of_getElem? (i := 213) rfl)
theorem w_214 {Z : State} {a0 : Array Value} (hw : HW Z a0) : (Jvm.Cond.privateMethod m_10).before a0 Z = true := hw _ (List.mem_of_getElem? (i := 214) rfl)
theorem w_215 {Z : State} {a0 : Array Value} (hw : HW Z a0) : (Jvm.Cond.selects "java/lang/StringBuilder" m_10 m_10).before a0 Z = true := hw _ (List.mem_of_getElem? (i := 215) rfl)
theorem d141 : decode jdk_68_method_9_code 27 = .ok (.aload_n 0, 1) := by decide +kernel
theorem d142 : decode jdk_68_method_9_code 28 = .ok (.getfield 22, 3) := by decide +kernel
theorem d143 : decode jdk_68_method_9_code 31 = .ok (.ishl, 1) := by decide +kernel
theorem w_226 {Z : State} {a0 : Array Value} (hw : HW Z a0) : (Jvm.Cond.methodLink "java/lang/AbstractStringBuilder" (108 : Nat) m_12).before a0 Z = true := hw _ (List.mem_of_getElem? (i := 226) rfl)
theorem w_228 {Z : State} {a0 : Array Value} (hw : HW Z a0) : (Jvm.Cond.code m_12 jdk_65_method_121_code (3 : Nat) (Option.some (FieldType.array FieldType.byte))).before a0 Z = true := hw _ (List.mem_of_getElem? (i := 228) rfl)
theorem w_172 {Z : State} {a0 : Array Value} (hw : HW Z a0) : (Jvm.Cond.initialized "java/util/Arrays").before a0 Z = true := hw _ (List.mem_of_getElem? (i := 172) rfl)
theorem pd_7 : parseMethodDescriptor "([BI)[B" = some ⟨[(.array .byte), .int], some (.array .byte)⟩ := by decide +kernel
theorem d144 : decode jdk_68_method_9_code 32 = .ok (.invokestatic 108, 3) := by decide +kernel
theorem w_227 {Z : State} {a0 : Array Value} (hw : HW Z a0) : (Jvm.Cond.static m_12).before a0 Z = true := hw _ (List.mem_of_getElem? (i := 227) rfl)
theorem w_85 {Z : State} {a0 : Array Value} (hw : HW Z a0) : (Jvm.Cond.lays "java/lang/StringBuilder" "java/lang/AbstractStringBuilder" "value" "[B").before a0 Z = true := hw _ (List.mem_of_getElem? (i := 85) rfl)
theorem w_57 {Z : State} {a0 : Array Value} (hw : HW Z a0) : (Jvm.Cond.instantiable "java/lang/StringBuilder" (4 : Nat)).before a0 Z = true := hw _ (List.mem_of_getElem? (i := 57) rfl)
theorem d145 : decode jdk_68_method_9_code 35 = .ok (.putfield 15, 3) := by decide +kernel
theorem w_83 {Z : State} {a0 : Array Value} (hw : HW Z a0) : (Jvm.Cond.lays "java/lang/StringBuilder" "java/lang/AbstractStringBuilder" "coder" "B").before a0 Z = true := hw _ (List.mem_of_getElem? (i := 83) rfl)
theorem w_101 {Z : State} {a0 : Array Value} (hw : HW Z a0) : (Jvm.Cond.lays "java/lang/StringBuilder" "java/lang/AbstractStringBuilder" "count" "I").before a0 Z = true := hw _ (List.mem_of_getElem? (i := 101) rfl)
def Q_ensG32 (Z : State) (a_ : Addr) (v_ : Addr) (kv : ClassId) (xs : List Value) (cnt : Int32) (h0 : Heap) (n0 : Nat) (v : Option Value) (h : Heap) (L : List Loc) : Prop := ∃ (b : Addr) (k : ClassId), (v = none) ∧ (Fr n0 L) ∧ (Keep h0 h [a_]) ∧ (h0.size ≤ b) ∧ (Exa Z h a_ "java/lang/StringBuilder") ∧ (fld3 Z h a_ (.int 0)) ∧ (fld4 Z h a_ (.int cnt)) ∧ (fld2 Z h a_ (.ref b)) ∧ (Arv Z h b k .byte (60 : Int32) xs (.int 0))
theorem rm_ensG32 (l : Launch) (Z : State) (a0 : Array Value) (hw : HW Z a0) (ws : List Jvm.Cond) (a_ : Addr) (v_ : Addr) (kv : ClassId) (xs : List Value) (cnt : Int32) (h0 : Heap) (n0 : Nat) (Z0 : n0 ≤ h0.size) (P0 : Exa Z h0 a_ "java/lang/StringBuilder") (P1 : fld2 Z h0 a_ (.ref v_)) (P2 : fld3 Z h0 a_ (.int 0)) (P3 : fld4 Z h0 a_ (.int cnt)) (P4 : Arv Z h0 v_ kv .byte (29 : Int32) xs (.int 0)) (P5 : n0 ≤ a_) (hl29 : xs.length ≤ 29) :
    MF l Z m_13 jdk_68_method_9_code 3 none ws (oR 3 1 60 48) #[(.ref a_), (.int 32)] h0 (Q_ensG32 Z a_ v_ kv xs cnt h0 n0) := by
  refine own_body (cls := "java/lang/AbstractStringBuilder") (plainFor_of_name pn_5) rfl (fun p e s m below meth c s₁ hx hby hml hown hnm hret hZ X0 e0 => ?_)
  have N0 := Fr.nil n0
  have K0 := Keep.refl h0 [a_]
  have lt1 := own_l P0.lt
  have lt2 := own_l P1.lt
  have lt3 := own_l P2.lt
  have lt4 := own_l P3.lt
  have lt5 := own_l P4.lt
  obtain ⟨T6, X6, e6, st6⟩ := getF X0 hx hZ hown (host := "") (Or.inl (w_84 hw)) Via.refl e0 P1 (g := (mkF m 1 #[vA a_, vI 32, .unset] [(.ref a_)])) rfl rfl (hb hby d124)
  obtain ⟨cl7, Ar7, q7, S7, M7, H7, G7⟩ := id P4
  obtain ⟨T8, X8, e8, st8⟩ := getF X6 hx hZ hown (host := "") (Or.inl (w_82 hw)) Via.refl e6 P2 (g := (mkF m 6 #[vA a_, vI 32, .unset] [(.ref a_), (.int 29)])) rfl rfl (hb hby d127)
  obtain ⟨T9, X9, e9, st9⟩ := getF X8 hx hZ hown (host := "") (Or.inl (w_84 hw)) Via.refl e8 P1 (g := (mkF m 19 #[vA a_, vI 32, vI 29] [(.ref a_), (.ref a_)])) rfl rfl (hb hby d137)
  obtain ⟨cq10, kq10, qa10, qb10, qc10⟩ := isOf hZ e9 P0
  obtain ⟨cc10, ca10, cb10⟩ := P0.cell
  obtain ⟨_, _, ⟨T10, L10, k10, n10⟩, -, X10, ⟨Lc10, hQ10, l10, y10, z10⟩, st10⟩ := X9.privateBack hx (y := m_10) hown (mvT hZ (w_212 hw)) (mvT hZ (w_213 hw)) (mvT hZ (own_selOwn (by decide) (w_213 hw) (Cond.privateMethod_at (w_214 hw)) (w_215 hw))) (Cond.privateMethod_at (mvP hZ (w_214 hw) (args := #[]))) (mvT hZ (w_216 hw)) (by decide) (backOf (W := 2) (rm_newCap32 l Z a0 hw [] a_ v_ kv xs h0 n0 (by omega) P1 P2 P4) hZ (w_216 hw) (w_67 hw) (by decide) (by decide)) (g := (mkF m 24 #[vA a_, vI 32, vI 29] [(.int 32), (.ref a_), (.ref v_), (.ref a_)])) rfl (by rw [hml]; rfl) (Steps.refl _) (a := a_) (cell := cc10) (by rw [e9]; exact ca10) cb10 (argsL := [(.int 32)]) (rest := [(.ref v_), (.ref a_)]) (lenOf pd_6 rfl) rfl (Nat.le_of_eq rfl) (hb hby d140) (fun _ _ => ⟨rfl, e9, (by decide : 0 + 0 ≤ _), (by decide : 0 + 0 ≤ _)⟩)
  dsimp only [Pt.U, Pt.locs, Pt.cells, Pt.slots] at X10 l10 y10 z10 st10 hQ10
  rw [l10, y10, z10] at X10
  obtain ⟨rfl, Nq10, Kq10⟩ := hQ10
  have N10 := Fr.app N0 Nq10
  obtain ⟨T11, X11, e11, st11⟩ := getF X10 hx hZ hown (host := "") (Or.inl (w_82 hw)) Via.refl Kq10 P2 (g := (mkF m 28 #[vA a_, vI 32, vI 29] [(.ref a_), (.int 60), (.ref v_), (.ref a_)])) rfl rfl (hb hby d142)
  obtain ⟨_, _, ⟨T12, L12, k12, n12⟩, -, X12, ⟨Lc12, hQ12, l12, y12, z12⟩, st12⟩ := Jvm.LawKit.callS X11 hx (y := m_12) hown (mvT hZ (w_226 hw)) (mvT hZ (w_227 hw)) (mvT hZ (w_172 hw)) (mvT hZ (w_228 hw)) (by decide) (backOf (W := 1) (rm_copyOf l Z a0 hw [] v_ kv xs h0 n0 (by omega) P4 hl29) hZ (w_228 hw) (w_172 hw) (by decide) (by decide)) (g := (mkF m 32 #[vA a_, vI 32, vI 29] [(.int 60), (.ref v_), (.ref a_)])) rfl (by rw [hml]; rfl) (argsL := [(.ref v_), (.int 60)]) (rest := [(.ref a_)]) (lenOf pd_7 rfl) rfl (Nat.le_of_eq rfl) (hb hby d144) (fun _ _ => ⟨rfl, e11, (by decide : 0 + 1 ≤ _), (by decide : 0 + 60 ≤ _)⟩)
  dsimp only [Pt.U, Pt.locs, Pt.cells, Pt.slots] at X12 l12 y12 z12 st12 hQ12
  rw [l12, y12, z12] at X12
  obtain ⟨x12_b, x12_k, rfl, Nq12, Kq12, r12_0, r12_1⟩ := hQ12
  have N12 := Fr.app N10 Nq12
  have z12' := Kq12.1
  have K12 := K0.trans Kq12 all0
  have lt13 := own_l r12_1.lt
  have f15 := P1.keep Kq12 nin0
  have f16 := P0.keep Kq12
  obtain ⟨T14, h14, X14, e14, W14, st14⟩ := putF X12 hx hZ hown (host := "") (Or.inl (w_84 hw)) Via.refl rfl f15 f16 (Or.inl (w_85 hw)) (w_57 hw) (ty := (.array .byte)) (by decide) rfl rfl (g := (mkF m 35 #[vA a_, vI 32, vI 29] [(.ref x12_b), (.ref a_)])) rfl rfl (hb hby d145)
  have F14 := f15.same W14
  have z14 := W14.size
  have K14 := K12.wr W14 (Or.inl (List.mem_of_getElem? (i := 0) rfl))
  have N14 := Fr.snoc X14 N12 (by omega)
  have f17 := f16.wr W14
  have f18 := P2.keep Kq12 nin0
  have f19 := f18.other W14 (Or.inr (slot_ne (a0 := a0) (t := .byte) (t' := (.array .byte)) (Or.inl (w_83 hw)) (Or.inl (w_85 hw)) (by decide) (by decide) (by decide)))
  have f20 := P3.keep Kq12 nin0
  have f21 := f20.other W14 (Or.inr (slot_ne (a0 := a0) (t := .int) (t' := (.array .byte)) (Or.inl (w_101 hw)) (Or.inl (w_85 hw)) (by decide) (by decide) (by decide)))
  have f22 := r12_1.other W14 (own_ne (by omega))
  refine ⟨_, _, _, _, none, X14, by decide, by decide, fun _ => rfl, ?_, fun fs hr => castTop (ef_6 m a_ (32 : Int32)) ?_⟩
  · show Q_ensG32 Z a_ v_ kv xs cnt h0 n0 _ T14.heap _
    rw [(e14 : T14.heap = h14)]
    exact ⟨x12_b, x12_k, rfl, N14, K14, (by omega), f17, f19, f21, F14, f22⟩
  · show Steps _ _ _ (s₁.setTop (mkF m 0 #[vA a_, vI 32, .unset] [])) _
    refine XS.aloadN X0.here hx rfl (hb hby d123) rfl rfl ?_
    refine st6 _ ?_
    show Steps _ _ _ (T6.setTop (mkF m 4 #[vA a_, vI 32, .unset] [(.ref v_)])) _
    refine X6.arraylength hx (by rw [e6]; exact Ar7.1) (State.isArrayOf_alike hZ.alike Ar7.2.1) (g := (mkF m 4 #[vA a_, vI 32, .unset] [(.ref v_)])) rfl rfl (hb hby d125) _ ?_
    rw [len_of S7 M7]
    show Steps _ _ _ (T6.setTop (mkF m 5 #[vA a_, vI 32, .unset] [(.int 29)])) _
    refine XS.aloadN X6.here hx rfl (hb hby d126) rfl rfl ?_
    refine st8 _ ?_
    show Steps _ _ _ (T8.setTop (mkF m 9 #[vA a_, vI 32, .unset] [(.int 0), (.int 29)])) _
    refine XS.ishr X8.here hx rfl (hb hby d128) rfl ?_
    refine XS.istoreN X8.here hx rfl (hb hby d129) rfl (l' := #[vA a_, vI 32, vI 29]) rfl ?_
    refine XS.iloadN X8.here hx rfl (hb hby d130) rfl ?_
    refine XS.iloadN X8.here hx rfl (hb hby d131) rfl ?_
    refine XS.isub X8.here hx rfl (hb hby d132) rfl ?_
    refine XS.ifNo X8.here hx rfl (hb hby d133) rfl ((if0 _ _).trans (tlt ((by decide) : (0 : Int32) < (3 : Int32))).2.2.2) ?_
    refine XS.aloadN X8.here hx rfl (hb hby d135) rfl rfl ?_
    refine XS.aloadN X8.here hx rfl (hb hby d136) rfl rfl ?_
    refine st9 _ ?_
    show Steps _ _ _ (T9.setTop (mkF m 22 #[vA a_, vI 32, vI 29] [(.ref v_), (.ref a_)])) _
    refine XS.aloadN X9.here hx rfl (hb hby d138) rfl rfl ?_
    refine XS.iloadN X9.here hx rfl (hb hby d139) rfl ?_
    refine st10.trans ?_
    show Steps _ _ _ (T10.setTop (mkF m 27 #[vA a_, vI 32, vI 29] [(.int 60), (.ref v_), (.ref a_)])) _
    refine XS.aloadN X10.here hx rfl (hb hby d141) rfl rfl ?_
    refine st11 _ ?_
    show Steps _ _ _ (T11.setTop (mkF m 31 #[vA a_, vI 32, vI 29] [(.int 0), (.int 60), (.ref v_), (.ref a_)])) _
    refine XS.ishl X11.here hx rfl (hb hby d143) rfl ?_
    refine st12 _ ?_
    show Steps _ _ _ (T12.setTop (mkF m 35 #[vA a_, vI 32, vI 29] [(.ref x12_b), (.ref a_)])) _
    refine st14 _ ?_
    show Steps _ _ _ (T14.setTop (mkF m 38 #[vA a_, vI 32, vI 29] [])) _
    exact X14.returnOut hx hret (hb hby d134) hr
def Q_ensG33 (Z : State) (a_ : Addr) (v_ : Addr) (kv : ClassId) (xs : List Value) (cnt : Int32) (h0 : Heap) (n0 : Nat) (v : Option Value) (h : Heap) (L : List Loc) : Prop := ∃ (b : Addr) (k : ClassId), (v = none) ∧ (Fr n0 L) ∧ (Keep h0 h [a_]) ∧ (h0.size ≤ b) ∧ (Exa Z h a_ "java/lang/StringBuilder") ∧ (fld3 Z h a_ (.int 0)) ∧ (fld4 Z h a_ (.int cnt)) ∧ (fld2 Z h a_ (.ref b)) ∧ (Arv Z h b k .byte (60 : Int32) xs (.int 0))
theorem rm_ensG33 (l : Launch) (Z : State) (a0 : Array Value) (hw : HW Z a0) (ws : List Jvm.Cond) (a_ : Addr) (v_ : Addr) (kv : ClassId) (xs : List Value) (cnt : Int32) (h0 : Heap) (n0 : Nat) (Z0 : n0 ≤ h0.size) (P0 : Exa Z h0 a_ "java/lang/StringBuilder") (P1 : fld2 Z h0 a_ (.ref v_)) (P2 : fld3 Z h0 a_ (.int 0)) (P3 : fld4 Z h0 a_ (.int cnt)) (P4 : Arv Z h0 v_ kv .byte (29 : Int32) xs (.int 0)) (P5 : n0 ≤ a_) (hl29 : xs.length ≤ 29) :
    MF l Z m_13 jdk_68_method_9_code 3 none ws (oR 3 1 60 48) #[(.ref a_), (.int 33)] h0 (Q_ensG33 Z a_ v_ kv xs cnt h0 n0) := by
  refine own_body (cls := "java/lang/AbstractStringBuilder") (plainFor_of_name pn_5) rfl (fun p e s m below meth c s₁ hx hby hml hown hnm hret hZ X0 e0 => ?_)
  have N0 := Fr.nil n0
  have K0 := Keep.refl h0 [a_]
  have lt1 := own_l P0.lt
  have lt2 := own_l P1.lt
  have lt3 := own_l P2.lt
  have lt4 := own_l P3.lt
  have lt5 := own_l P4.lt
  obtain ⟨T6, X6, e6, st6⟩ := getF X0 hx hZ hown (host := "") (Or.inl (w_84 hw)) Via.refl e0 P1 (g := (mkF m 1 #[vA a_, vI 33, .unset] [(.ref a_)])) rfl rfl (hb hby d124)
  obtain ⟨cl7, Ar7, q7, S7, M7, H7, G7⟩ := id P4
  obtain ⟨T8, X8, e8, st8⟩ := getF X6 hx hZ hown (host := "") (Or.inl (w_82 hw)) Via.refl e6 P2 (g := (mkF m 6 #[vA a_, vI 33, .unset] [(.ref a_), (.int 29)])) rfl rfl (hb hby d127)
  obtain ⟨T9, X9, e9, st9⟩ := getF X8 hx hZ hown (host := "") (Or.inl (w_84 hw)) Via.refl e8 P1 (g := (mkF m 19 #[vA a_, vI 33, vI 29] [(.ref a_), (.ref a_)])) rfl rfl (hb hby d137)
  obtain ⟨cq10, kq10, qa10, qb10, qc10⟩ := isOf hZ e9 P0
  obtain ⟨cc10, ca10, cb10⟩ := P0.cell
  obtain ⟨_, _, ⟨T10, L10, k10, n10⟩, -, X10, ⟨Lc10, hQ10, l10, y10, z10⟩, st10⟩ := X9.privateBack hx (y := m_10) hown (mvT hZ (w_212 hw)) (mvT hZ (w_213 hw)) (mvT hZ (own_selOwn (by decide) (w_213 hw) (Cond.privateMethod_at (w_214 hw)) (w_215 hw))) (Cond.privateMethod_at (mvP hZ (w_214 hw) (args := #[]))) (mvT hZ (w_216 hw)) (by decide) (backOf (W := 2) (rm_newCap33 l Z a0 hw [] a_ v_ kv xs h0 n0 (by omega) P1 P2 P4) hZ (w_216 hw) (w_67 hw) (by decide) (by decide)) (g := (mkF m 24 #[vA a_, vI 33, vI 29] [(.int 33), (.ref a_), (.ref v_), (.ref a_)])) rfl (by rw [hml]; rfl) (Steps.refl _) (a := a_) (cell := cc10) (by rw [e9]; exact ca10) cb10 (argsL := [(.int 33)]) (rest := [(.ref v_), (.ref a_)]) (lenOf pd_6 rfl) rfl (Nat.le_of_eq rfl) (hb hby d140) (fun _ _ => ⟨rfl, e9, (by decide : 0 + 0 ≤ _), (by decide : 0 + 0 ≤ _)⟩)
  dsimp only [Pt.U, Pt.locs, Pt.cells, Pt.slots] at X10 l10 y10 z10 st10 hQ10
  rw [l10, y10, z10] at X10
  obtain ⟨rfl, Nq10, Kq10⟩ := hQ10
  have N10 := Fr.app N0 Nq10
  obtain ⟨T11, X11, e11, st11⟩ := getF X10 hx hZ hown (host := "") (Or.inl (w_82 hw)) Via.refl Kq10 P2 (g := (mkF m 28 #[vA a_, vI 33, vI 29] [(.ref a_), (.int 60), (.ref v_), (.ref a_)])) rfl rfl (hb hby d142)
  obtain ⟨_, _, ⟨T12, L12, k12, n12⟩, -, X12, ⟨Lc12, hQ12, l12, y12, z12⟩, st12⟩ := Jvm.LawKit.callS X11 hx (y := m_12) hown (mvT hZ (w_226 hw)) (mvT hZ (w_227 hw)) (mvT hZ (w_172 hw)) (mvT hZ (w_228 hw)) (by decide) (backOf (W := 1) (rm_copyOf l Z a0 hw [] v_ kv xs h0 n0 (by omega) P4 hl29) hZ (w_228 hw) (w_172 hw) (by decide) (by decide)) (g := (mkF m 32 #[vA a_, vI 33, vI 29] [(.int 60), (.ref v_), (.ref a_)])) rfl (by rw [hml]; rfl) (argsL := [(.ref v_), (.int 60)]) (rest := [(.ref a_)]) (lenOf pd_7 rfl) rfl (Nat.le_of_eq rfl) (hb hby d144) (fun _ _ => ⟨rfl, e11, (by decide : 0 + 1 ≤ _), (by decide : 0 + 60 ≤ _)⟩)
  dsimp only [Pt.U, Pt.locs, Pt.cells, Pt.slots] at X12 l12 y12 z12 st12 hQ12
  rw [l12, y12, z12] at X12
  obtain ⟨x12_b, x12_k, rfl, Nq12, Kq12, r12_0, r12_1⟩ := hQ12
  have N12 := Fr.app N10 Nq12
  have z12' := Kq12.1
  have K12 := K0.trans Kq12 all0
  have lt13 := own_l r12_1.lt
  have f15 := P1.keep Kq12 nin0
  have f16 := P0.keep Kq12
  obtain ⟨T14, h14, X14, e14, W14, st14⟩ := putF X12 hx hZ hown (host := "") (Or.inl (w_84 hw)) Via.refl rfl f15 f16 (Or.inl (w_85 hw)) (w_57 hw) (ty := (.array .byte)) (by decide) rfl rfl (g := (mkF m 35 #[vA a_, vI 33, vI 29] [(.ref x12_b), (.ref a_)])) rfl rfl (hb hby d145)
  have F14 := f15.same W14
  have z14 := W14.size
  have K14 := K12.wr W14 (Or.inl (List.mem_of_getElem? (i := 0) rfl))
  have N14 := Fr.snoc X14 N12 (by omega)
  have f17 := f16.wr W14
  have f18 := P2.keep Kq12 nin0
  have f19 := f18.other W14 (Or.inr (slot_ne (a0 := a0) (t := .byte) (t' := (.array .byte)) (Or.inl (w_83 hw)) (Or.inl (w_85 hw)) (by decide) (by decide) (by decide)))
  have f20 := P3.keep Kq12 nin0
  have f21 := f20.other W14 (Or.inr (slot_ne (a0 := a0) (t := .int) (t' := (.array .byte)) (Or.inl (w_101 hw)) (Or.inl (w_85 hw)) (by decide) (by decide) (by decide)))
  have f22 := r12_1.other W14 (own_ne (by omega))
  refine ⟨_, _, _, _, none, X14, by decide, by decide, fun _ => rfl, ?_, fun fs hr => castTop (ef_6 m a_ (33 : Int32)) ?_⟩
  · show Q_ensG33 Z a_ v_ kv xs cnt h0 n0 _ T14.heap _
    rw [(e14 : T14.heap = h14)]
    exact ⟨x12_b, x12_k, rfl, N14, K14, (by omega), f17, f19, f21, F14, f22⟩
  · show Steps _ _ _ (s₁.setTop (mkF m 0 #[vA a_, vI 33, .unset] [])) _
    refine XS.aloadN X0.here hx rfl (hb hby d123) rfl rfl ?_
    refine st6 _ ?_
    show Steps _ _ _ (T6.setTop (mkF m 4 #[vA a_, vI 33, .unset] [(.ref v_)])) _
    refine X6.arraylength hx (by rw [e6]; exact Ar7.1) (State.isArrayOf_alike hZ.alike Ar7.2.1) (g := (mkF m 4 #[vA a_, vI 33, .unset] [(.ref v_)])) rfl rfl (hb hby d125) _ ?_
    rw [len_of S7 M7]
    show Steps _ _ _ (T6.setTop (mkF m 5 #[vA a_, vI 33, .unset] [(.int 29)])) _
    refine XS.aloadN X6.here hx rfl (hb hby d126) rfl rfl ?_
    refine st8 _ ?_
    show Steps _ _ _ (T8.setTop (mkF m 9 #[vA a_, vI 33, .unset] [(.int 0), (.int 29)])) _
    refine XS.ishr X8.here hx rfl (hb hby d128) rfl ?_
    refine XS.istoreN X8.here hx rfl (hb hby d129) rfl (l' := #[vA a_, vI 33, vI 29]) rfl ?_
    refine XS.iloadN X8.here hx rfl (hb hby d130) rfl ?_
    refine XS.iloadN X8.here hx rfl (hb hby d131) rfl ?_
    refine XS.isub X8.here hx rfl (hb hby d132) rfl ?_
    refine XS.ifNo X8.here hx rfl (hb hby d133) rfl ((if0 _ _).trans (tlt ((by decide) : (0 : Int32) < (4 : Int32))).2.2.2) ?_
    refine XS.aloadN X8.here hx rfl (hb hby d135) rfl rfl ?_
    refine XS.aloadN X8.here hx rfl (hb hby d136) rfl rfl ?_
    refine st9 _ ?_
    show Steps _ _ _ (T9.setTop (mkF m 22 #[vA a_, vI 33, vI 29] [(.ref v_), (.ref a_)])) _
    refine XS.aloadN X9.here hx rfl (hb hby d138) rfl rfl ?_
    refine XS.iloadN X9.here hx rfl (hb hby d139) rfl ?_
    refine st10.trans ?_
    show Steps _ _ _ (T10.setTop (mkF m 27 #[vA a_, vI 33, vI 29] [(.int 60), (.ref v_), (.ref a_)])) _
    refine XS.aloadN X10.here hx rfl (hb hby d141) rfl rfl ?_
    refine st11 _ ?_
    show Steps _ _ _ (T11.setTop (mkF m 31 #[vA a_, vI 33, vI 29] [(.int 0), (.int 60), (.ref v_), (.ref a_)])) _
    refine XS.ishl X11.here hx rfl (hb hby d143) rfl ?_
    refine st12 _ ?_
    show Steps _ _ _ (T12.setTop (mkF m 35 #[vA a_, vI 33, vI 29] [(.ref x12_b), (.ref a_)])) _
    refine st14 _ ?_
    show Steps _ _ _ (T14.setTop (mkF m 38 #[vA a_, vI 33, vI 29] [])) _
    exact X14.returnOut hx hret (hb hby d134) hr
theorem w_117 {Z : State} {a0 : Array Value} (hw : HW Z a0) : (Jvm.Cond.fieldLink "java/lang/AbstractStringBuilder" (18 : Nat) "java/lang/String" "COMPACT_STRINGS" "Z").before a0 Z = true := hw _ (List.mem_of_getElem? (i := 117) rfl)
theorem d146 : decode jdk_68_method_71_code 0 = .ok (.getstatic 18, 3) := by decide +kernel
theorem d147 : decode jdk_68_method_71_code 3 = .ok (.ifCond .eq 18, 3) := by decide +kernel
theorem d148 : decode jdk_68_method_71_code 6 = .ok (.aload_n 0, 1) := by decide +kernel
theorem d149 : decode jdk_68_method_71_code 7 = .ok (.getfield 22, 3) := by decide +kernel
theorem d150 : decode jdk_68_method_71_code 10 = .ok (.aload_n 1, 1) := by decide +kernel
theorem w_81 {Z : State} {a0 : Array Value} (hw : HW Z a0) : (Jvm.Cond.methodLink "java/lang/AbstractStringBuilder" (40 : Nat) m_5).before a0 Z = true := hw _ (List.mem_of_getElem? (i := 81) rfl)
theorem d151 : decode jdk_68_method_71_code 11 = .ok (.invokevirtual 40, 3) := by decide +kernel
theorem d152 : decode jdk_68_method_71_code 14 = .ok (.if_icmp .eq 7, 3) := by decide +kernel
theorem d153 : decode jdk_68_method_71_code 21 = .ok (.return_, 1) := by decide +kernel
theorem ef_7 (m : MethodId) (x0 : Addr) (x1 : Addr) : entryFrame m #[(.ref x0), (.ref x1)] 2 = mkF m 0 #[vA x0, vA x1] [] := by first | (simp [entryFrame, mkF, argsToLocals, Value.category, maxLocals]; done) | rfl
abbrev m_14 : MethodName := (⟨"java/lang/AbstractStringBuilder", "inflateIfNeededFor", "(Ljava/lang/String;)V"⟩ : MethodName)
def Q_infl (Z : State) (a_ : Addr) (t : Addr) (cp : Int32) (h0 : Heap) (n0 : Nat) (v : Option Value) (h : Heap) (L : List Loc) : Prop := (v = none) ∧ (Fr n0 L) ∧ (h = h0)
theorem rm_infl (l : Launch) (Z : State) (a0 : Array Value) (hw : HW Z a0) (ws : List Jvm.Cond) (a_ : Addr) (t : Addr) (cp : Int32) (h0 : Heap) (n0 : Nat) (Z0 : n0 ≤ h0.size) (P0 : Old Z n0 h0) (P1 : sta0 Z (.int cp)) (P2 : fld3 Z h0 a_ (.int 0)) (P3 : Exa Z h0 t "java/lang/String") (P4 : fld1 Z h0 t (.int 0)) (hcs : ¬ (cp = (0 : Int32))) :
    MF l Z m_14 jdk_68_method_71_code 2 none ws (oR 1 0 0 13) #[(.ref a_), (.ref t)] h0 (Q_infl Z a_ t cp h0 n0) := by
  refine own_body (cls := "java/lang/AbstractStringBuilder") (plainFor_of_name pn_5) rfl (fun p e s m below meth c s₁ hx hby hml hown hnm hret hZ X0 e0 => ?_)
  have N0 := Fr.nil n0
  have lt1 := own_l P2.lt
  have lt2 := own_l P3.lt
  have lt3 := own_l P4.lt
  obtain ⟨T4, X4, e4, st4⟩ := getS2 X0 hx hZ hown (host := "") (Or.inl (w_117 hw)) Via.refl e0 (P1.ext P0.2) (g := (mkF m 0 #[vA a_, vA t] [])) rfl (hb hby d146)
  obtain ⟨T5, X5, e5, st5⟩ := getF X4 hx hZ hown (host := "") (Or.inl (w_82 hw)) Via.refl e4 P2 (g := (mkF m 7 #[vA a_, vA t] [(.ref a_)])) rfl rfl (hb hby d149)
  obtain ⟨cq6, kq6, qa6, qb6, qc6⟩ := isOf hZ e5 P3
  obtain ⟨_, _, ⟨T6, L6, k6, n6⟩, -, X6, ⟨Lc6, hQ6, l6, y6, z6⟩, st6⟩ := X5.virtualBack hx (y := m_5) (z := m_5) hown (mvT hZ (w_81 hw)) (mvT hZ (w_76 hw)) (notFace_of_selects (args := #[]) (mvT hZ (w_78 hw))) (mvT hZ (w_78 hw)) (mvT hZ (w_77 hw)) (by decide) (backOf (W := 1) (rm_cod l Z a0 hw [] t cp h0 n0 (by omega) P0 P1 P4 hcs) hZ (w_79 hw) (w_5 hw) (by decide) (by decide)) qa6 qc6 (g := (mkF m 11 #[vA a_, vA t] [(.ref t), (.int 0)])) rfl (by rw [hml]; rfl) (Steps.refl _) (argsL := []) (rest := [(.int 0)]) (lenOf pd_3 rfl) rfl (Nat.le_of_eq rfl) (hb hby d151) (fun _ _ => ⟨rfl, e5, (by decide : 0 + 0 ≤ _), (by decide : 0 + 0 ≤ _)⟩)
  dsimp only [Pt.U, Pt.locs, Pt.cells, Pt.slots] at X6 l6 y6 z6 st6 hQ6
  rw [l6, y6, z6] at X6
  obtain ⟨rfl, Nq6, Kq6⟩ := hQ6
  have N6 := Fr.app N0 Nq6
  refine ⟨_, _, _, _, none, X6, by decide, by decide, fun _ => rfl, ?_, fun fs hr => castTop (ef_7 m a_ t) ?_⟩
  · show Q_infl Z a_ t cp h0 n0 _ T6.heap _
    rw [(Kq6 : T6.heap = h0)]
    exact ⟨rfl, N6, rfl⟩
  · show Steps _ _ _ (s₁.setTop (mkF m 0 #[vA a_, vA t] [])) _
    refine st4 _ ?_
    show Steps _ _ _ (T4.setTop (mkF m 3 #[vA a_, vA t] [(.int cp)])) _
    refine XS.ifNo X4.here hx rfl (hb hby d147) rfl ((if0 _ _).trans (feq (hcs : ¬ (cp = (0 : Int32)))).1) ?_
    refine XS.aloadN X4.here hx rfl (hb hby d148) rfl rfl ?_
    refine st5 _ ?_
    show Steps _ _ _ (T5.setTop (mkF m 10 #[vA a_, vA t] [(.int 0)])) _
    refine XS.aloadN X5.here hx rfl (hb hby d150) rfl rfl ?_
    refine st6.trans ?_
    show Steps _ _ _ (T6.setTop (mkF m 14 #[vA a_, vA t] [(.int 0), (.int 0)])) _
    refine XS.icmpYes X6.here hx rfl (pc0 := 14) (pc' := 21) rfl (hb hby d152) rfl (teq ((by decide) : (0 : Int32) = (0 : Int32))).1 (by decide) (by decide) ?_
    exact X6.returnOut hx hret (hb hby d153) hr
theorem d154 : decode jdk_42_method_147_code 0 = .ok (.aload_n 0, 1) := by decide +kernel
theorem d155 : decode jdk_42_method_147_code 1 = .ok (.invokevirtual 335, 3) := by decide +kernel
theorem d156 : decode jdk_42_method_147_code 4 = .ok (.iload_n 3, 1) := by decide +kernel
theorem d157 : decode jdk_42_method_147_code 5 = .ok (.if_icmp .ne 23, 3) := by decide +kernel
theorem d158 : decode jdk_42_method_147_code 8 = .ok (.aload_n 0, 1) := by decide +kernel
theorem d159 : decode jdk_42_method_147_code 9 = .ok (.getfield 9, 3) := by decide +kernel
theorem d160 : decode jdk_42_method_147_code 12 = .ok (.iconst 0, 1) := by decide +kernel
theorem d161 : decode jdk_42_method_147_code 13 = .ok (.aload_n 1, 1) := by decide +kernel
theorem d162 : decode jdk_42_method_147_code 14 = .ok (.iload_n 2, 1) := by decide +kernel
theorem d163 : decode jdk_42_method_147_code 15 = .ok (.iload_n 3, 1) := by decide +kernel
theorem d164 : decode jdk_42_method_147_code 16 = .ok (.ishl, 1) := by decide +kernel
theorem d165 : decode jdk_42_method_147_code 17 = .ok (.aload_n 0, 1) := by decide +kernel
theorem d166 : decode jdk_42_method_147_code 18 = .ok (.getfield 9, 3) := by decide +kernel
theorem d167 : decode jdk_42_method_147_code 21 = .ok (.arraylength, 1) := by decide +kernel
theorem w_123 {Z : State} {a0 : Array Value} (hw : HW Z a0) : (Jvm.Cond.methodLink "java/lang/String" (212 : Nat) m_11).before a0 Z = true := hw _ (List.mem_of_getElem? (i := 123) rfl)
theorem d168 : decode jdk_42_method_147_code 22 = .ok (.invokestatic 212, 3) := by decide +kernel
theorem d169 : decode jdk_42_method_147_code 25 = .ok (.goto 18, 3) := by decide +kernel
theorem d170 : decode jdk_42_method_147_code 43 = .ok (.return_, 1) := by decide +kernel
theorem ef_8 (m : MethodId) (x0 : Addr) (x1 : Addr) (x2 : Int32) (x3 : Int32) : entryFrame m #[(.ref x0), (.ref x1), (.int x2), (.int x3)] 4 = mkF m 0 #[vA x0, vA x1, vI x2, vI x3] [] := by first | (simp [entryFrame, mkF, argsToLocals, Value.category, maxLocals]; done) | rfl
abbrev m_15 : MethodName := (⟨"java/lang/String", "getBytes", "([BIB)V"⟩ : MethodName)
def Q_getB (Z : State) (t : Addr) (tb : Addr) (kt : ClassId) (len : Int32) (bs : List Value) (cp : Int32) (v_ : Addr) (kv : ClassId) (N : Int32) (cnt : Int32) (xs : List Value) (h0 : Heap) (n0 : Nat) (v : Option Value) (h : Heap) (L : List Loc) : Prop := (v = none) ∧ (Fr n0 L) ∧ (Keep h0 h [v_]) ∧ (Arv Z h v_ kv .byte N (xs ++ bs) (.int 0)) ∧ (Old Z n0 h)
theorem rm_getB (l : Launch) (Z : State) (a0 : Array Value) (hw : HW Z a0) (ws : List Jvm.Cond) (t : Addr) (tb : Addr) (kt : ClassId) (len : Int32) (bs : List Value) (cp : Int32) (v_ : Addr) (kv : ClassId) (N : Int32) (cnt : Int32) (xs : List Value) (h0 : Heap) (n0 : Nat) (Z0 : n0 ≤ h0.size) (P0 : Old Z n0 h0) (P1 : sta0 Z (.int cp)) (P2 : Exa Z h0 t "java/lang/String") (P3 : fld1 Z h0 t (.int 0)) (P4 : fld0 Z h0 t (.ref tb)) (P5 : Arv Z h0 tb kt .byte len bs (.int 0)) (P6 : Arv Z h0 v_ kv .byte N xs (.int 0)) (P7 : n0 ≤ v_) (P8 : tb ≠ v_) (hcs : ¬ (cp = (0 : Int32))) (h2 : ¬ cnt < 0) (h3 : ¬ len < 0) (hdp : cnt.toNatClampNeg = xs.length) (hnn : bs.length ≤ len.toNatClampNeg) (h5 : xs.length + len.toNatClampNeg ≤ N.toNatClampNeg) :
    MF l Z m_15 jdk_42_method_147_code 4 none ws (oR 1 0 0 18) #[(.ref t), (.ref v_), (.int cnt), (.int 0)] h0 (Q_getB Z t tb kt len bs cp v_ kv N cnt xs h0 n0) := by
  refine own_body (cls := "java/lang/String") (plainFor_of_name pn_1) rfl (fun p e s m below meth c s₁ hx hby hml hown hnm hret hZ X0 e0 => ?_)
  have N0 := Fr.nil n0
  have K0 := Keep.refl h0 [v_]
  have lt1 := own_l P2.lt
  have lt2 := own_l P3.lt
  have lt3 := own_l P4.lt
  have lt4 := own_l P5.lt
  have lt5 := own_l P6.lt
  obtain ⟨cq6, kq6, qa6, qb6, qc6⟩ := isOf hZ e0 P2
  obtain ⟨_, _, ⟨T6, L6, k6, n6⟩, -, X6, ⟨Lc6, hQ6, l6, y6, z6⟩, st6⟩ := X0.virtualBack hx (y := m_5) (z := m_5) hown (mvT hZ (w_75 hw)) (mvT hZ (w_76 hw)) (notFace_of_selects (args := #[]) (mvT hZ (w_78 hw))) (mvT hZ (w_78 hw)) (mvT hZ (w_77 hw)) (by decide) (backOf (W := 0) (rm_cod l Z a0 hw [] t cp h0 n0 (by omega) P0 P1 P3 hcs) hZ (w_79 hw) (w_5 hw) (by decide) (by decide)) qa6 qc6 (g := (mkF m 1 #[vA t, vA v_, vI cnt, vI 0] [(.ref t)])) rfl (by rw [hml]; rfl) (Steps.refl _) (argsL := []) (rest := []) (lenOf pd_3 rfl) rfl (Nat.le_of_eq rfl) (hb hby d155) (fun _ _ => ⟨rfl, e0, (by decide : 0 + 0 ≤ _), (by decide : 0 + 0 ≤ _)⟩)
  dsimp only [Pt.U, Pt.locs, Pt.cells, Pt.slots] at X6 l6 y6 z6 st6 hQ6
  rw [l6, y6, z6] at X6
  obtain ⟨rfl, Nq6, Kq6⟩ := hQ6
  have N6 := Fr.app N0 Nq6
  obtain ⟨T7, X7, e7, st7⟩ := getF X6 hx hZ hown (host := "") (Or.inl (w_25 hw)) Via.refl Kq6 P4 (g := (mkF m 9 #[vA t, vA v_, vI cnt, vI 0] [(.ref t)])) rfl rfl (hb hby d159)
  obtain ⟨T8, X8, e8, st8⟩ := getF X7 hx hZ hown (host := "") (Or.inl (w_25 hw)) Via.refl e7 P4 (g := (mkF m 18 #[vA t, vA v_, vI cnt, vI 0] [(.ref t), (.int cnt), (.ref v_), (.int 0), (.ref tb)])) rfl rfl (hb hby d166)
  obtain ⟨cl9, Ar9, q9, S9, M9, H9, G9⟩ := id P5
  obtain ⟨T10, h10, L10, X10, e10, N10, Kq10, V10, st10⟩ := cpB X8 hx hZ hown (w_123 hw) (w_126 hw) (w_124 hw) (w_125 hw) e8 P5 P6 h2 h3 hdp hnn (Nat.le_refl _) h5 N6 (by omega) (g := (mkF m 22 #[vA t, vA v_, vI cnt, vI 0] [(.int len), (.int cnt), (.ref v_), (.int 0), (.ref tb)])) rfl (by rw [hml]; rfl) rfl (hb hby d168) (by decide) (W := 0) (Nat.le_of_eq rfl) (by decide)
  replace V10 : Arv Z h10 v_ kv .byte N (xs ++ bs) (.int 0) := V10
  have z10' := Kq10.1
  have K10 := K0.trans Kq10 (allS (Or.inl (List.mem_of_getElem? (i := 0) rfl)) all0)
  have f11 := P0.keep Kq10 (allS (by omega) all0)
  refine ⟨_, _, _, _, none, X10, by decide, by decide, fun _ => rfl, ?_, fun fs hr => castTop (ef_8 m t v_ cnt (0 : Int32)) ?_⟩
  · show Q_getB Z t tb kt len bs cp v_ kv N cnt xs h0 n0 _ T10.heap _
    rw [(e10 : T10.heap = h10)]
    exact ⟨rfl, N10, K10, V10, f11⟩
  · show Steps _ _ _ (s₁.setTop (mkF m 0 #[vA t, vA v_, vI cnt, vI 0] [])) _
    refine XS.aloadN X0.here hx rfl (hb hby d154) rfl rfl ?_
    refine st6.trans ?_
    show Steps _ _ _ (T6.setTop (mkF m 4 #[vA t, vA v_, vI cnt, vI 0] [(.int 0)])) _
    refine XS.iloadN X6.here hx rfl (hb hby d156) rfl ?_
    refine XS.icmpNo X6.here hx rfl (hb hby d157) rfl (teq ((by decide) : (0 : Int32) = (0 : Int32))).2 ?_
    refine XS.aloadN X6.here hx rfl (hb hby d158) rfl rfl ?_
    refine st7 _ ?_
    show Steps _ _ _ (T7.setTop (mkF m 12 #[vA t, vA v_, vI cnt, vI 0] [(.ref tb)])) _
    refine XS.iconst X7.here hx rfl (hb hby d160) ?_
    refine XS.aloadN X7.here hx rfl (hb hby d161) rfl rfl ?_
    refine XS.iloadN X7.here hx rfl (hb hby d162) rfl ?_
    refine XS.iloadN X7.here hx rfl (hb hby d163) rfl ?_
    refine XS.ishl X7.here hx rfl (hb hby d164) rfl ?_
    show Steps _ _ _ (T7.setTop (mkF m 17 #[vA t, vA v_, vI cnt, vI 0] [(.int (cnt <<< ((0 : Int32) &&& 31))), (.ref v_), (.int 0), (.ref tb)])) _
    rw [own_shl0]
    show Steps _ _ _ (T7.setTop (mkF m 17 #[vA t, vA v_, vI cnt, vI 0] [(.int cnt), (.ref v_), (.int 0), (.ref tb)])) _
    refine XS.aloadN X7.here hx rfl (hb hby d165) rfl rfl ?_
    refine st8 _ ?_
    show Steps _ _ _ (T8.setTop (mkF m 21 #[vA t, vA v_, vI cnt, vI 0] [(.ref tb), (.int cnt), (.ref v_), (.int 0), (.ref tb)])) _
    refine X8.arraylength hx (by rw [e8]; exact Ar9.1) (State.isArrayOf_alike hZ.alike Ar9.2.1) (g := (mkF m 21 #[vA t, vA v_, vI cnt, vI 0] [(.ref tb), (.int cnt), (.ref v_), (.int 0), (.ref tb)])) rfl rfl (hb hby d167) _ ?_
    rw [len_of S9 M9]
    show Steps _ _ _ (T8.setTop (mkF m 22 #[vA t, vA v_, vI cnt, vI 0] [(.int len), (.int cnt), (.ref v_), (.int 0), (.ref tb)])) _
    refine st10 _ ?_
    show Steps _ _ _ (T10.setTop (mkF m 25 #[vA t, vA v_, vI cnt, vI 0] [])) _
    refine XS.goto X10.here hx rfl (pc0 := 25) (pc' := 43) rfl (hb hby d169) (by decide) (by decide) ?_
    exact X10.returnOut hx hret (hb hby d170) hr
theorem d171 : decode jdk_68_method_73_code 0 = .ok (.aload_n 0, 1) := by decide +kernel
theorem d172 : decode jdk_68_method_73_code 1 = .ok (.aload_n 2, 1) := by decide +kernel
theorem w_112 {Z : State} {a0 : Array Value} (hw : HW Z a0) : (Jvm.Cond.methodLink "java/lang/AbstractStringBuilder" (397 : Nat) m_14).before a0 Z = true := hw _ (List.mem_of_getElem? (i := 112) rfl)
theorem w_116 {Z : State} {a0 : Array Value} (hw : HW Z a0) : (Jvm.Cond.code m_14 jdk_68_method_71_code (2 : Nat) (Option.none : Option Jvm.ClassFile.FieldType)).before a0 Z = true := hw _ (List.mem_of_getElem? (i := 116) rfl)
theorem pd_8 : parseMethodDescriptor "(Ljava/lang/String;)V" = some ⟨[(.object "java/lang/String")], none⟩ := by decide +kernel
theorem d173 : decode jdk_68_method_73_code 2 = .ok (.invokevirtual 397, 3) := by decide +kernel
theorem w_113 {Z : State} {a0 : Array Value} (hw : HW Z a0) : (Jvm.Cond.instanceMethod m_14).before a0 Z = true := hw _ (List.mem_of_getElem? (i := 113) rfl)
theorem w_114 {Z : State} {a0 : Array Value} (hw : HW Z a0) : (Jvm.Cond.privateMethod m_14).before a0 Z = true := hw _ (List.mem_of_getElem? (i := 114) rfl)
theorem w_115 {Z : State} {a0 : Array Value} (hw : HW Z a0) : (Jvm.Cond.selects "java/lang/StringBuilder" m_14 m_14).before a0 Z = true := hw _ (List.mem_of_getElem? (i := 115) rfl)
theorem d174 : decode jdk_68_method_73_code 5 = .ok (.aload_n 2, 1) := by decide +kernel
theorem d175 : decode jdk_68_method_73_code 6 = .ok (.aload_n 0, 1) := by decide +kernel
theorem d176 : decode jdk_68_method_73_code 7 = .ok (.getfield 15, 3) := by decide +kernel
theorem d177 : decode jdk_68_method_73_code 10 = .ok (.iload_n 1, 1) := by decide +kernel
theorem d178 : decode jdk_68_method_73_code 11 = .ok (.aload_n 0, 1) := by decide +kernel
theorem d179 : decode jdk_68_method_73_code 12 = .ok (.getfield 22, 3) := by decide +kernel
theorem w_118 {Z : State} {a0 : Array Value} (hw : HW Z a0) : (Jvm.Cond.methodLink "java/lang/AbstractStringBuilder" (399 : Nat) m_15).before a0 Z = true := hw _ (List.mem_of_getElem? (i := 118) rfl)
theorem w_122 {Z : State} {a0 : Array Value} (hw : HW Z a0) : (Jvm.Cond.code m_15 jdk_42_method_147_code (4 : Nat) (Option.none : Option Jvm.ClassFile.FieldType)).before a0 Z = true := hw _ (List.mem_of_getElem? (i := 122) rfl)
theorem pd_9 : parseMethodDescriptor "([BIB)V" = some ⟨[(.array .byte), .int, .byte], none⟩ := by decide +kernel
theorem d180 : decode jdk_68_method_73_code 15 = .ok (.invokevirtual 399, 3) := by decide +kernel
theorem w_121 {Z : State} {a0 : Array Value} (hw : HW Z a0) : (Jvm.Cond.selects "java/lang/String" m_15 m_15).before a0 Z = true := hw _ (List.mem_of_getElem? (i := 121) rfl)
theorem w_119 {Z : State} {a0 : Array Value} (hw : HW Z a0) : (Jvm.Cond.declares m_15).before a0 Z = true := hw _ (List.mem_of_getElem? (i := 119) rfl)
theorem w_120 {Z : State} {a0 : Array Value} (hw : HW Z a0) : (Jvm.Cond.instanceMethod m_15).before a0 Z = true := hw _ (List.mem_of_getElem? (i := 120) rfl)
theorem d181 : decode jdk_68_method_73_code 18 = .ok (.return_, 1) := by decide +kernel
theorem ef_9 (m : MethodId) (x0 : Addr) (x1 : Int32) (x2 : Addr) : entryFrame m #[(.ref x0), (.int x1), (.ref x2)] 3 = mkF m 0 #[vA x0, vI x1, vA x2] [] := by first | (simp [entryFrame, mkF, argsToLocals, Value.category, maxLocals]; done) | rfl
abbrev m_16 : MethodName := (⟨"java/lang/AbstractStringBuilder", "putStringAt", "(ILjava/lang/String;)V"⟩ : MethodName)
def Q_putS (Z : State) (t : Addr) (tb : Addr) (kt : ClassId) (len : Int32) (bs : List Value) (cp : Int32) (a_ : Addr) (v_ : Addr) (kv : ClassId) (N : Int32) (cnt : Int32) (xs : List Value) (h0 : Heap) (n0 : Nat) (v : Option Value) (h : Heap) (L : List Loc) : Prop := (v = none) ∧ (Fr n0 L) ∧ (Keep h0 h [v_]) ∧ (Arv Z h v_ kv .byte N (xs ++ bs) (.int 0)) ∧ (Old Z n0 h)
theorem rm_putS (l : Launch) (Z : State) (a0 : Array Value) (hw : HW Z a0) (ws : List Jvm.Cond) (t : Addr) (tb : Addr) (kt : ClassId) (len : Int32) (bs : List Value) (cp : Int32) (a_ : Addr) (v_ : Addr) (kv : ClassId) (N : Int32) (cnt : Int32) (xs : List Value) (h0 : Heap) (n0 : Nat) (Z0 : n0 ≤ h0.size) (P0 : Old Z n0 h0) (P1 : sta0 Z (.int cp)) (P2 : Exa Z h0 t "java/lang/String") (P3 : fld1 Z h0 t (.int 0)) (P4 : fld0 Z h0 t (.ref tb)) (P5 : Arv Z h0 tb kt .byte len bs (.int 0)) (P6 : Exa Z h0 a_ "java/lang/StringBuilder") (P7 : fld2 Z h0 a_ (.ref v_)) (P8 : fld3 Z h0 a_ (.int 0)) (P9 : Arv Z h0 v_ kv .byte N xs (.int 0)) (P10 : n0 ≤ v_) (P11 : tb ≠ v_) (hcs : ¬ (cp = (0 : Int32))) (h2 : ¬ cnt < 0) (h3 : ¬ len < 0) (hdp : cnt.toNatClampNeg = xs.length) (hnn : bs.length ≤ len.toNatClampNeg) (h5 : xs.length + len.toNatClampNeg ≤ N.toNatClampNeg) :
    MF l Z m_16 jdk_68_method_73_code 3 none ws (oR 2 0 0 33) #[(.ref a_), (.int cnt), (.ref t)] h0 (Q_putS Z t tb kt len bs cp a_ v_ kv N cnt xs h0 n0) := by
  refine own_body (cls := "java/lang/AbstractStringBuilder") (plainFor_of_name pn_5) rfl (fun p e s m below meth c s₁ hx hby hml hown hnm hret hZ X0 e0 => ?_)
  have N0 := Fr.nil n0
  have K0 := Keep.refl h0 [v_]
  have lt1 := own_l P2.lt
  have lt2 := own_l P3.lt
  have lt3 := own_l P4.lt
  have lt4 := own_l P5.lt
  have lt5 := own_l P6.lt
  have lt6 := own_l P7.lt
  have lt7 := own_l P8.lt
  have lt8 := own_l P9.lt
  obtain ⟨cq9, kq9, qa9, qb9, qc9⟩ := isOf hZ e0 P6
  obtain ⟨cc9, ca9, cb9⟩ := P6.cell
  obtain ⟨_, _, ⟨T9, L9, k9, n9⟩, -, X9, ⟨Lc9, hQ9, l9, y9, z9⟩, st9⟩ := X0.privateBack hx (y := m_14) hown (mvT hZ (w_112 hw)) (mvT hZ (w_113 hw)) (mvT hZ (own_selOwn (by decide) (w_113 hw) (Cond.privateMethod_at (w_114 hw)) (w_115 hw))) (Cond.privateMethod_at (mvP hZ (w_114 hw) (args := #[]))) (mvT hZ (w_116 hw)) (by decide) (backOf (W := 0) (rm_infl l Z a0 hw [] a_ t cp h0 n0 (by omega) P0 P1 P8 P2 P3 hcs) hZ (w_116 hw) (w_67 hw) (by decide) (by decide)) (g := (mkF m 2 #[vA a_, vI cnt, vA t] [(.ref t), (.ref a_)])) rfl (by rw [hml]; rfl) (Steps.refl _) (a := a_) (cell := cc9) (by rw [e0]; exact ca9) cb9 (argsL := [(.ref t)]) (rest := []) (lenOf pd_8 rfl) rfl (Nat.le_of_eq rfl) (hb hby d173) (fun _ _ => ⟨rfl, e0, (by decide : 0 + 0 ≤ _), (by decide : 0 + 0 ≤ _)⟩)
  dsimp only [Pt.U, Pt.locs, Pt.cells, Pt.slots] at X9 l9 y9 z9 st9 hQ9
  rw [l9, y9, z9] at X9
  obtain ⟨rfl, Nq9, Kq9⟩ := hQ9
  have N9 := Fr.app N0 Nq9
  obtain ⟨T10, X10, e10, st10⟩ := getF X9 hx hZ hown (host := "") (Or.inl (w_84 hw)) Via.refl Kq9 P7 (g := (mkF m 7 #[vA a_, vI cnt, vA t] [(.ref a_), (.ref t)])) rfl rfl (hb hby d176)
  obtain ⟨T11, X11, e11, st11⟩ := getF X10 hx hZ hown (host := "") (Or.inl (w_82 hw)) Via.refl e10 P8 (g := (mkF m 12 #[vA a_, vI cnt, vA t] [(.ref a_), (.int cnt), (.ref v_), (.ref t)])) rfl rfl (hb hby d179)
  obtain ⟨cq12, kq12, qa12, qb12, qc12⟩ := isOf hZ e11 P2
  obtain ⟨_, _, ⟨T12, L12, k12, n12⟩, -, X12, ⟨Lc12, hQ12, l12, y12, z12⟩, st12⟩ := X11.virtualBack hx (y := m_15) (z := m_15) hown (mvT hZ (w_118 hw)) (mvT hZ (w_119 hw)) (notFace_of_selects (args := #[]) (mvT hZ (w_121 hw))) (mvT hZ (w_121 hw)) (mvT hZ (w_120 hw)) (by decide) (backOf (W := 0) (rm_getB l Z a0 hw [] t tb kt len bs cp v_ kv N cnt xs h0 n0 (by omega) P0 P1 P2 P3 P4 P5 P9 (by omega) (fun q => P11 q) hcs h2 h3 hdp hnn h5) hZ (w_122 hw) (w_5 hw) (by decide) (by decide)) qa12 qc12 (g := (mkF m 15 #[vA a_, vI cnt, vA t] [(.int 0), (.int cnt), (.ref v_), (.ref t)])) rfl (by rw [hml]; rfl) (Steps.refl _) (argsL := [(.ref v_), (.int cnt), (.int 0)]) (rest := []) (lenOf pd_9 rfl) rfl (Nat.le_of_eq rfl) (hb hby d180) (fun _ _ => ⟨rfl, e11, (by decide : 0 + 0 ≤ _), (by decide : 0 + 0 ≤ _)⟩)
  dsimp only [Pt.U, Pt.locs, Pt.cells, Pt.slots] at X12 l12 y12 z12 st12 hQ12
  rw [l12, y12, z12] at X12
  obtain ⟨rfl, Nq12, Kq12, r12_0, r12_1⟩ := hQ12
  have N12 := Fr.app N9 Nq12
  have z12' := Kq12.1
  have K12 := K0.trans Kq12 (allS (Or.inl (List.mem_of_getElem? (i := 0) rfl)) all0)
  have lt13 := own_l r12_0.lt
  refine ⟨_, _, _, _, none, X12, by decide, by decide, fun _ => rfl, ?_, fun fs hr => castTop (ef_9 m a_ cnt t) ?_⟩
  · show Q_putS Z t tb kt len bs cp a_ v_ kv N cnt xs h0 n0 _ T12.heap _
    exact ⟨rfl, N12, K12, r12_0, r12_1⟩
  · show Steps _ _ _ (s₁.setTop (mkF m 0 #[vA a_, vI cnt, vA t] [])) _
    refine XS.aloadN X0.here hx rfl (hb hby d171) rfl rfl ?_
    refine XS.aloadN X0.here hx rfl (hb hby d172) rfl rfl ?_
    refine st9.trans ?_
    show Steps _ _ _ (T9.setTop (mkF m 5 #[vA a_, vI cnt, vA t] [])) _
    refine XS.aloadN X9.here hx rfl (hb hby d174) rfl rfl ?_
    refine XS.aloadN X9.here hx rfl (hb hby d175) rfl rfl ?_
    refine st10 _ ?_
    show Steps _ _ _ (T10.setTop (mkF m 10 #[vA a_, vI cnt, vA t] [(.ref v_), (.ref t)])) _
    refine XS.iloadN X10.here hx rfl (hb hby d177) rfl ?_
    refine XS.aloadN X10.here hx rfl (hb hby d178) rfl rfl ?_
    refine st11 _ ?_
    show Steps _ _ _ (T11.setTop (mkF m 15 #[vA a_, vI cnt, vA t] [(.int 0), (.int cnt), (.ref v_), (.ref t)])) _
    refine st12.trans ?_
    show Steps _ _ _ (T12.setTop (mkF m 18 #[vA a_, vI cnt, vA t] [])) _
    exact X12.returnOut hx hret (hb hby d181) hr
theorem d182 : decode jdk_68_method_22_code 0 = .ok (.aload_n 1, 1) := by decide +kernel
theorem d183 : decode jdk_68_method_22_code 1 = .ok (.ifnonnull 8, 3) := by decide +kernel
theorem d184 : decode jdk_68_method_22_code 9 = .ok (.aload_n 1, 1) := by decide +kernel
theorem w_70 {Z : State} {a0 : Array Value} (hw : HW Z a0) : (Jvm.Cond.methodLink "java/lang/AbstractStringBuilder" (32 : Nat) m_6).before a0 Z = true := hw _ (List.mem_of_getElem? (i := 70) rfl)
theorem w_74 {Z : State} {a0 : Array Value} (hw : HW Z a0) : (Jvm.Cond.code m_6 jdk_42_method_54_code (1 : Nat) (Option.some FieldType.int)).before a0 Z = true := hw _ (List.mem_of_getElem? (i := 74) rfl)
theorem pd_10 : parseMethodDescriptor "()I" = some ⟨[], some .int⟩ := by decide +kernel
theorem d185 : decode jdk_68_method_22_code 10 = .ok (.invokevirtual 32, 3) := by decide +kernel
theorem w_73 {Z : State} {a0 : Array Value} (hw : HW Z a0) : (Jvm.Cond.selects "java/lang/String" m_6 m_6).before a0 Z = true := hw _ (List.mem_of_getElem? (i := 73) rfl)
theorem w_71 {Z : State} {a0 : Array Value} (hw : HW Z a0) : (Jvm.Cond.declares m_6).before a0 Z = true := hw _ (List.mem_of_getElem? (i := 71) rfl)
theorem w_72 {Z : State} {a0 : Array Value} (hw : HW Z a0) : (Jvm.Cond.instanceMethod m_6).before a0 Z = true := hw _ (List.mem_of_getElem? (i := 72) rfl)
theorem d186 : decode jdk_68_method_22_code 13 = .ok (.istore_n 2, 1) := by decide +kernel
theorem d187 : decode jdk_68_method_22_code 14 = .ok (.aload_n 0, 1) := by decide +kernel
theorem d188 : decode jdk_68_method_22_code 15 = .ok (.aload_n 0, 1) := by decide +kernel
theorem w_100 {Z : State} {a0 : Array Value} (hw : HW Z a0) : (Jvm.Cond.fieldLink "java/lang/AbstractStringBuilder" (79 : Nat) "java/lang/AbstractStringBuilder" "count" "I").before a0 Z = true := hw _ (List.mem_of_getElem? (i := 100) rfl)
theorem d189 : decode jdk_68_method_22_code 16 = .ok (.getfield 79, 3) := by decide +kernel
theorem d190 : decode jdk_68_method_22_code 19 = .ok (.iload_n 2, 1) := by decide +kernel
theorem d191 : decode jdk_68_method_22_code 20 = .ok (.iadd, 1) := by decide +kernel
theorem w_102 {Z : State} {a0 : Array Value} (hw : HW Z a0) : (Jvm.Cond.methodLink "java/lang/AbstractStringBuilder" (100 : Nat) m_13).before a0 Z = true := hw _ (List.mem_of_getElem? (i := 102) rfl)
theorem w_106 {Z : State} {a0 : Array Value} (hw : HW Z a0) : (Jvm.Cond.code m_13 jdk_68_method_9_code (3 : Nat) (Option.none : Option Jvm.ClassFile.FieldType)).before a0 Z = true := hw _ (List.mem_of_getElem? (i := 106) rfl)
theorem pd_11 : parseMethodDescriptor "(I)V" = some ⟨[.int], none⟩ := by decide +kernel
theorem d192 : decode jdk_68_method_22_code 21 = .ok (.invokevirtual 100, 3) := by decide +kernel
theorem w_103 {Z : State} {a0 : Array Value} (hw : HW Z a0) : (Jvm.Cond.instanceMethod m_13).before a0 Z = true := hw _ (List.mem_of_getElem? (i := 103) rfl)
theorem w_104 {Z : State} {a0 : Array Value} (hw : HW Z a0) : (Jvm.Cond.privateMethod m_13).before a0 Z = true := hw _ (List.mem_of_getElem? (i := 104) rfl)
theorem w_105 {Z : State} {a0 : Array Value} (hw : HW Z a0) : (Jvm.Cond.selects "java/lang/StringBuilder" m_13 m_13).before a0 Z = true := hw _ (List.mem_of_getElem? (i := 105) rfl)
theorem d193 : decode jdk_68_method_22_code 24 = .ok (.aload_n 0, 1) := by decide +kernel
theorem d194 : decode jdk_68_method_22_code 25 = .ok (.aload_n 0, 1) := by decide +kernel
theorem d195 : decode jdk_68_method_22_code 26 = .ok (.getfield 79, 3) := by decide +kernel
theorem d196 : decode jdk_68_method_22_code 29 = .ok (.aload_n 1, 1) := by decide +kernel
theorem w_107 {Z : State} {a0 : Array Value} (hw : HW Z a0) : (Jvm.Cond.methodLink "java/lang/AbstractStringBuilder" (208 : Nat) m_16).before a0 Z = true := hw _ (List.mem_of_getElem? (i := 107) rfl)
theorem w_111 {Z : State} {a0 : Array Value} (hw : HW Z a0) : (Jvm.Cond.code m_16 jdk_68_method_73_code (3 : Nat) (Option.none : Option Jvm.ClassFile.FieldType)).before a0 Z = true := hw _ (List.mem_of_getElem? (i := 111) rfl)
theorem pd_12 : parseMethodDescriptor "(ILjava/lang/String;)V" = some ⟨[.int, (.object "java/lang/String")], none⟩ := by decide +kernel
theorem d197 : decode jdk_68_method_22_code 30 = .ok (.invokevirtual 208, 3) := by decide +kernel
theorem w_108 {Z : State} {a0 : Array Value} (hw : HW Z a0) : (Jvm.Cond.instanceMethod m_16).before a0 Z = true := hw _ (List.mem_of_getElem? (i := 108) rfl)
theorem w_109 {Z : State} {a0 : Array Value} (hw : HW Z a0) : (Jvm.Cond.privateMethod m_16).before a0 Z = true := hw _ (List.mem_of_getElem? (i := 109) rfl)
theorem w_110 {Z : State} {a0 : Array Value} (hw : HW Z a0) : (Jvm.Cond.selects "java/lang/StringBuilder" m_16 m_16).before a0 Z = true := hw _ (List.mem_of_getElem? (i := 110) rfl)
theorem d198 : decode jdk_68_method_22_code 33 = .ok (.aload_n 0, 1) := by decide +kernel
theorem d199 : decode jdk_68_method_22_code 34 = .ok (.dup, 1) := by decide +kernel
theorem d200 : decode jdk_68_method_22_code 35 = .ok (.getfield 79, 3) := by decide +kernel
theorem d201 : decode jdk_68_method_22_code 38 = .ok (.iload_n 2, 1) := by decide +kernel
theorem d202 : decode jdk_68_method_22_code 39 = .ok (.iadd, 1) := by decide +kernel
theorem d203 : decode jdk_68_method_22_code 40 = .ok (.putfield 79, 3) := by decide +kernel
theorem d204 : decode jdk_68_method_22_code 43 = .ok (.aload_n 0, 1) := by decide +kernel
theorem d205 : decode jdk_68_method_22_code 44 = .ok (.areturn, 1) := by decide +kernel
theorem ef_10 (m : MethodId) (x0 : Addr) (x1 : Addr) : entryFrame m #[(.ref x0), (.ref x1)] 3 = mkF m 0 #[vA x0, vA x1, .unset] [] := by first | (simp [entryFrame, mkF, argsToLocals, Value.category, maxLocals]; done) | rfl
abbrev m_17 : MethodName := (⟨"java/lang/AbstractStringBuilder", "append", "(Ljava/lang/String;)Ljava/lang/AbstractStringBuilder;"⟩ : MethodName)
def Q_appN (Z : State) (t : Addr) (tb : Addr) (kt : ClassId) (len : Int32) (bs : List Value) (cp : Int32) (a_ : Addr) (v_ : Addr) (kv : ClassId) (N : Int32) (cnt : Int32) (xs : List Value) (cn : Int32) (h0 : Heap) (n0 : Nat) (v : Option Value) (h : Heap) (L : List Loc) : Prop := (v = some (.ref a_)) ∧ (Fr n0 L) ∧ (Keep h0 h [a_, v_]) ∧ (Exa Z h a_ "java/lang/StringBuilder") ∧ (fld2 Z h a_ (.ref v_)) ∧ (fld3 Z h a_ (.int 0)) ∧ (fld4 Z h a_ (.int cn)) ∧ (Arv Z h v_ kv .byte N (xs ++ bs) (.int 0)) ∧ (Old Z n0 h)
theorem rm_appN (l : Launch) (Z : State) (a0 : Array Value) (hw : HW Z a0) (ws : List Jvm.Cond) (t : Addr) (tb : Addr) (kt : ClassId) (len : Int32) (bs : List Value) (cp : Int32) (a_ : Addr) (v_ : Addr) (kv : ClassId) (N : Int32) (cnt : Int32) (xs : List Value) (cn : Int32) (h0 : Heap) (n0 : Nat) (Z0 : n0 ≤ h0.size) (P0 : Old Z n0 h0) (P1 : sta0 Z (.int cp)) (P2 : Exa Z h0 t "java/lang/String") (P3 : fld1 Z h0 t (.int 0)) (P4 : fld0 Z h0 t (.ref tb)) (P5 : Arv Z h0 tb kt .byte len bs (.int 0)) (P6 : Exa Z h0 a_ "java/lang/StringBuilder") (P7 : fld2 Z h0 a_ (.ref v_)) (P8 : fld3 Z h0 a_ (.int 0)) (P9 : fld4 Z h0 a_ (.int cnt)) (P10 : Arv Z h0 v_ kv .byte N xs (.int 0)) (P11 : n0 ≤ a_) (P12 : n0 ≤ v_) (P13 : tb ≠ v_) (P14 : a_ ≠ v_) (hcs : ¬ (cp = (0 : Int32))) (h2 : ¬ cnt < 0) (h3 : ¬ len < 0) (hdp : cnt.toNatClampNeg = xs.length) (hnn : bs.length ≤ len.toNatClampNeg) (h5 : xs.length + len.toNatClampNeg ≤ N.toNatClampNeg) (hng : ¬ ((0 : Int32) < (cn - N))) (hcn : cnt + len = cn) :
    MF l Z m_17 jdk_68_method_22_code 3 (some (.object "java/lang/AbstractStringBuilder")) ws (oR 3 0 0 47) #[(.ref a_), (.ref t)] h0 (Q_appN Z t tb kt len bs cp a_ v_ kv N cnt xs cn h0 n0) := by
  refine own_body (cls := "java/lang/AbstractStringBuilder") (plainFor_of_name pn_5) rfl (fun p e s m below meth c s₁ hx hby hml hown hnm hret hZ X0 e0 => ?_)
  have N0 := Fr.nil n0
  have K0 := Keep.refl h0 [a_, v_]
  have lt1 := own_l P2.lt
  have lt2 := own_l P3.lt
  have lt3 := own_l P4.lt
  have lt4 := own_l P5.lt
  have lt5 := own_l P6.lt
  have lt6 := own_l P7.lt
  have lt7 := own_l P8.lt
  have lt8 := own_l P9.lt
  have lt9 := own_l P10.lt
  obtain ⟨cq10, kq10, qa10, qb10, qc10⟩ := isOf hZ e0 P2
  obtain ⟨_, _, ⟨T10, L10, k10, n10⟩, -, X10, ⟨Lc10, hQ10, l10, y10, z10⟩, st10⟩ := X0.virtualBack hx (y := m_6) (z := m_6) hown (mvT hZ (w_70 hw)) (mvT hZ (w_71 hw)) (notFace_of_selects (args := #[]) (mvT hZ (w_73 hw))) (mvT hZ (w_73 hw)) (mvT hZ (w_72 hw)) (by decide) (backOf (W := 0) (rm_slen l Z a0 hw [] t tb kt len bs cp h0 n0 (by omega) P0 P1 P2 P3 P4 P5 hcs) hZ (w_74 hw) (w_5 hw) (by decide) (by decide)) qa10 qc10 (g := (mkF m 10 #[vA a_, vA t, .unset] [(.ref t)])) rfl (by rw [hml]; rfl) (Steps.refl _) (argsL := []) (rest := []) (lenOf pd_10 rfl) rfl (Nat.le_of_eq rfl) (hb hby d185) (fun _ _ => ⟨rfl, e0, (by decide : 0 + 0 ≤ _), (by decide : 0 + 0 ≤ _)⟩)
  dsimp only [Pt.U, Pt.locs, Pt.cells, Pt.slots] at X10 l10 y10 z10 st10 hQ10
  rw [l10, y10, z10] at X10
  obtain ⟨rfl, Nq10, Kq10⟩ := hQ10
  have N10 := Fr.app N0 Nq10
  obtain ⟨T11, X11, e11, st11⟩ := getF X10 hx hZ hown (host := "") (Or.inl (w_100 hw)) Via.refl Kq10 P9 (g := (mkF m 16 #[vA a_, vA t, vI len] [(.ref a_), (.ref a_)])) rfl rfl (hb hby d189)
  obtain ⟨cq12, kq12, qa12, qb12, qc12⟩ := isOf hZ e11 P6
  obtain ⟨cc12, ca12, cb12⟩ := P6.cell
  obtain ⟨_, _, ⟨T12, L12, k12, n12⟩, -, X12, ⟨Lc12, hQ12, l12, y12, z12⟩, st12⟩ := X11.privateBack hx (y := m_13) hown (mvT hZ (w_102 hw)) (mvT hZ (w_103 hw)) (mvT hZ (own_selOwn (by decide) (w_103 hw) (Cond.privateMethod_at (w_104 hw)) (w_105 hw))) (Cond.privateMethod_at (mvP hZ (w_104 hw) (args := #[]))) (mvT hZ (w_106 hw)) (by decide) (backOf (W := 0) (rm_ensN l Z a0 hw [] a_ v_ kv N xs cn h0 n0 (by omega) P7 P8 P10 hng) hZ (w_106 hw) (w_67 hw) (by decide) (by decide)) (g := (mkF m 21 #[vA a_, vA t, vI len] [(.int cn), (.ref a_)])) rfl (by rw [hml]; rfl) (Steps.refl _) (a := a_) (cell := cc12) (by rw [e11]; exact ca12) cb12 (argsL := [(.int cn)]) (rest := []) (lenOf pd_11 rfl) rfl (Nat.le_of_eq rfl) (hb hby d192) (fun _ _ => ⟨rfl, e11, (by decide : 0 + 0 ≤ _), (by decide : 0 + 0 ≤ _)⟩)
  dsimp only [Pt.U, Pt.locs, Pt.cells, Pt.slots] at X12 l12 y12 z12 st12 hQ12
  rw [l12, y12, z12] at X12
  obtain ⟨rfl, Nq12, Kq12⟩ := hQ12
  have N12 := Fr.app N10 Nq12
  obtain ⟨T13, X13, e13, st13⟩ := getF X12 hx hZ hown (host := "") (Or.inl (w_100 hw)) Via.refl Kq12 P9 (g := (mkF m 26 #[vA a_, vA t, vI len] [(.ref a_), (.ref a_)])) rfl rfl (hb hby d195)
  obtain ⟨cq14, kq14, qa14, qb14, qc14⟩ := isOf hZ e13 P6
  obtain ⟨cc14, ca14, cb14⟩ := P6.cell
  obtain ⟨_, _, ⟨T14, L14, k14, n14⟩, -, X14, ⟨Lc14, hQ14, l14, y14, z14⟩, st14⟩ := X13.privateBack hx (y := m_16) hown (mvT hZ (w_107 hw)) (mvT hZ (w_108 hw)) (mvT hZ (own_selOwn (by decide) (w_108 hw) (Cond.privateMethod_at (w_109 hw)) (w_110 hw))) (Cond.privateMethod_at (mvP hZ (w_109 hw) (args := #[]))) (mvT hZ (w_111 hw)) (by decide) (backOf (W := 0) (rm_putS l Z a0 hw [] t tb kt len bs cp a_ v_ kv N cnt xs h0 n0 (by omega) P0 P1 P2 P3 P4 P5 P6 P7 P8 P10 (by omega) (fun q => P13 q) hcs h2 h3 hdp hnn h5) hZ (w_111 hw) (w_67 hw) (by decide) (by decide)) (g := (mkF m 30 #[vA a_, vA t, vI len] [(.ref t), (.int cnt), (.ref a_)])) rfl (by rw [hml]; rfl) (Steps.refl _) (a := a_) (cell := cc14) (by rw [e13]; exact ca14) cb14 (argsL := [(.int cnt), (.ref t)]) (rest := []) (lenOf pd_12 rfl) rfl (Nat.le_of_eq rfl) (hb hby d197) (fun _ _ => ⟨rfl, e13, (by decide : 0 + 0 ≤ _), (by decide : 0 + 0 ≤ _)⟩)
  dsimp only [Pt.U, Pt.locs, Pt.cells, Pt.slots] at X14 l14 y14 z14 st14 hQ14
  rw [l14, y14, z14] at X14
  obtain ⟨rfl, Nq14, Kq14, r14_0, r14_1⟩ := hQ14
  have N14 := Fr.app N12 Nq14
  have z14' := Kq14.1
  have K14 := K0.trans Kq14 (allS (Or.inl (List.mem_of_getElem? (i := 1) rfl)) all0)
  have lt15 := own_l r14_0.lt
  have f17 := P9.keep Kq14 (ninS (fun q => P14 q) nin0)
  obtain ⟨T16, X16, e16, st16⟩ := getF X14 hx hZ hown (host := "") (Or.inl (w_100 hw)) Via.refl rfl f17 (g := (mkF m 35 #[vA a_, vA t, vI len] [(.ref a_), (.ref a_)])) rfl rfl (hb hby d200)
  have f19 := P6.keep Kq14
  obtain ⟨T18, h18, X18, e18, W18, st18⟩ := putF X16 hx hZ hown (host := "") (Or.inl (w_100 hw)) Via.refl e16 f17 f19 (Or.inl (w_101 hw)) (w_57 hw) (ty := .int) (by decide) rfl rfl (g := (mkF m 40 #[vA a_, vA t, vI len] [(.int cn), (.ref a_)])) rfl rfl (hb hby d203)
  have F18 := f17.same W18
  have z18 := W18.size
  have K18 := K14.wr W18 (Or.inl (List.mem_of_getElem? (i := 0) rfl))
  have N18 := Fr.snoc X18 N14 (by omega)
  have f20 := f19.wr W18
  have f21 := P7.keep Kq14 (ninS (fun q => P14 q) nin0)
  have f22 := f21.other W18 (Or.inr (slot_ne (a0 := a0) (t := (.array .byte)) (t' := .int) (Or.inl (w_85 hw)) (Or.inl (w_101 hw)) (by decide) (by decide) (by decide)))
  have f23 := P8.keep Kq14 (ninS (fun q => P14 q) nin0)
  have f24 := f23.other W18 (Or.inr (slot_ne (a0 := a0) (t := .byte) (t' := .int) (Or.inl (w_83 hw)) (Or.inl (w_101 hw)) (by decide) (by decide) (by decide)))
  have f25 := r14_0.other W18 (fun q => P14 q.symm)
  have f26 := r14_1.wr W18 (by omega)
  refine ⟨_, _, _, _, some (.ref a_), X18, by decide, by decide, nofun, ?_, fun fs hr => castTop (ef_10 m a_ t) ?_⟩
  · show Q_appN Z t tb kt len bs cp a_ v_ kv N cnt xs cn h0 n0 _ T18.heap _
    rw [(e18 : T18.heap = h18)]
    exact ⟨rfl, N18, K18, f20, f22, f24, F18, f25, f26⟩
  · show Steps _ _ _ (s₁.setTop (mkF m 0 #[vA a_, vA t, .unset] [])) _
    refine XS.aloadN X0.here hx rfl (hb hby d182) rfl rfl ?_
    refine XS.ifnonnullYes X0.here hx rfl (pc0 := 1) (pc' := 9) rfl (hb hby d183) rfl (by decide) (by decide) ?_
    refine XS.aloadN X0.here hx rfl (hb hby d184) rfl rfl ?_
    refine st10.trans ?_
    show Steps _ _ _ (T10.setTop (mkF m 13 #[vA a_, vA t, .unset] [(.int len)])) _
    refine XS.istoreN X10.here hx rfl (hb hby d186) rfl (l' := #[vA a_, vA t, vI len]) rfl ?_
    refine XS.aloadN X10.here hx rfl (hb hby d187) rfl rfl ?_
    refine XS.aloadN X10.here hx rfl (hb hby d188) rfl rfl ?_
    refine st11 _ ?_
    show Steps _ _ _ (T11.setTop (mkF m 19 #[vA a_, vA t, vI len] [(.int cnt), (.ref a_)])) _
    refine XS.iloadN X11.here hx rfl (hb hby d190) rfl ?_
    refine XS.iadd X11.here hx rfl (hb hby d191) rfl ?_
    show Steps _ _ _ (T11.setTop (mkF m 21 #[vA a_, vA t, vI len] [(.int (cnt + len)), (.ref a_)])) _
    rw [hcn]
    show Steps _ _ _ (T11.setTop (mkF m 21 #[vA a_, vA t, vI len] [(.int cn), (.ref a_)])) _
    refine st12.trans ?_
    show Steps _ _ _ (T12.setTop (mkF m 24 #[vA a_, vA t, vI len] [])) _
    refine XS.aloadN X12.here hx rfl (hb hby d193) rfl rfl ?_
    refine XS.aloadN X12.here hx rfl (hb hby d194) rfl rfl ?_
    refine st13 _ ?_
    show Steps _ _ _ (T13.setTop (mkF m 29 #[vA a_, vA t, vI len] [(.int cnt), (.ref a_)])) _
    refine XS.aloadN X13.here hx rfl (hb hby d196) rfl rfl ?_
    refine st14.trans ?_
    show Steps _ _ _ (T14.setTop (mkF m 33 #[vA a_, vA t, vI len] [])) _
    refine XS.aloadN X14.here hx rfl (hb hby d198) rfl rfl ?_
    refine XS.dup X14.here hx rfl (hb hby d199) rfl rfl ?_
    refine st16 _ ?_
    show Steps _ _ _ (T16.setTop (mkF m 38 #[vA a_, vA t, vI len] [(.int cnt), (.ref a_)])) _
    refine XS.iloadN X16.here hx rfl (hb hby d201) rfl ?_
    refine XS.iadd X16.here hx rfl (hb hby d202) rfl ?_
    show Steps _ _ _ (T16.setTop (mkF m 40 #[vA a_, vA t, vI len] [(.int (cnt + len)), (.ref a_)])) _
    rw [hcn]
    show Steps _ _ _ (T16.setTop (mkF m 40 #[vA a_, vA t, vI len] [(.int cn), (.ref a_)])) _
    refine st18 _ ?_
    show Steps _ _ _ (T18.setTop (mkF m 43 #[vA a_, vA t, vI len] [])) _
    refine XS.aloadN X18.here hx rfl (hb hby d204) rfl rfl ?_
    exact retOut X18 hx hret (own_narrow_ref rfl) (Or.inr (Or.inr (Or.inr (Or.inr ⟨rfl, rfl, rfl⟩)))) (hb hby d205) hr
theorem d206 : decode jdk_67_method_7_code 0 = .ok (.aload_n 0, 1) := by decide +kernel
theorem d207 : decode jdk_67_method_7_code 1 = .ok (.aload_n 1, 1) := by decide +kernel
theorem w_97 {Z : State} {a0 : Array Value} (hw : HW Z a0) : (Jvm.Cond.methodLink "java/lang/StringBuilder" (29 : Nat) m_17).before a0 Z = true := hw _ (List.mem_of_getElem? (i := 97) rfl)
theorem w_99 {Z : State} {a0 : Array Value} (hw : HW Z a0) : (Jvm.Cond.code m_17 jdk_68_method_22_code (3 : Nat) (Option.some (FieldType.object "java/lang/AbstractStringBuilder"))).before a0 Z = true := hw _ (List.mem_of_getElem? (i := 99) rfl)
theorem pd_13 : parseMethodDescriptor "(Ljava/lang/String;)Ljava/lang/AbstractStringBuilder;" = some ⟨[(.object "java/lang/String")], some (.object "java/lang/AbstractStringBuilder")⟩ := by decide +kernel
theorem d208 : decode jdk_67_method_7_code 2 = .ok (.invokespecial 29, 3) := by decide +kernel
theorem w_88 {Z : State} {a0 : Array Value} (hw : HW Z a0) : (Jvm.Cond.instanceMethod m_17).before a0 Z = true := hw _ (List.mem_of_getElem? (i := 88) rfl)
theorem w_98 {Z : State} {a0 : Array Value} (hw : HW Z a0) : (Jvm.Cond.superclass "java/lang/StringBuilder" "java/lang/AbstractStringBuilder").before a0 Z = true := hw _ (List.mem_of_getElem? (i := 98) rfl)
theorem d209 : decode jdk_67_method_7_code 5 = .ok (.pop, 1) := by decide +kernel
theorem d210 : decode jdk_67_method_7_code 6 = .ok (.aload_n 0, 1) := by decide +kernel
theorem d211 : decode jdk_67_method_7_code 7 = .ok (.areturn, 1) := by decide +kernel
theorem pn_7 : plainName "java/lang/StringBuilder" = true := by first | (simp [plainName, overriddenIn]; done) | decide +kernel
abbrev m_18 : MethodName := (⟨"java/lang/StringBuilder", "append", "(Ljava/lang/String;)Ljava/lang/StringBuilder;"⟩ : MethodName)
def Q_apsN (Z : State) (t : Addr) (tb : Addr) (kt : ClassId) (len : Int32) (bs : List Value) (cp : Int32) (a_ : Addr) (v_ : Addr) (kv : ClassId) (N : Int32) (cnt : Int32) (xs : List Value) (cn : Int32) (h0 : Heap) (n0 : Nat) (v : Option Value) (h : Heap) (L : List Loc) : Prop := (v = some (.ref a_)) ∧ (Fr n0 L) ∧ (Keep h0 h [a_, v_]) ∧ (Exa Z h a_ "java/lang/StringBuilder") ∧ (fld2 Z h a_ (.ref v_)) ∧ (fld3 Z h a_ (.int 0)) ∧ (fld4 Z h a_ (.int cn)) ∧ (Arv Z h v_ kv .byte N (xs ++ bs) (.int 0)) ∧ (Old Z n0 h)
theorem rm_apsN (l : Launch) (Z : State) (a0 : Array Value) (hw : HW Z a0) (ws : List Jvm.Cond) (t : Addr) (tb : Addr) (kt : ClassId) (len : Int32) (bs : List Value) (cp : Int32) (a_ : Addr) (v_ : Addr) (kv : ClassId) (N : Int32) (cnt : Int32) (xs : List Value) (cn : Int32) (h0 : Heap) (n0 : Nat) (Z0 : n0 ≤ h0.size) (P0 : Old Z n0 h0) (P1 : sta0 Z (.int cp)) (P2 : Exa Z h0 t "java/lang/String") (P3 : fld1 Z h0 t (.int 0)) (P4 : fld0 Z h0 t (.ref tb)) (P5 : Arv Z h0 tb kt .byte len bs (.int 0)) (P6 : Exa Z h0 a_ "java/lang/StringBuilder") (P7 : fld2 Z h0 a_ (.ref v_)) (P8 : fld3 Z h0 a_ (.int 0)) (P9 : fld4 Z h0 a_ (.int cnt)) (P10 : Arv Z h0 v_ kv .byte N xs (.int 0)) (P11 : n0 ≤ a_) (P12 : n0 ≤ v_) (P13 : tb ≠ v_) (P14 : a_ ≠ v_) (hcs : ¬ (cp = (0 : Int32))) (h2 : ¬ cnt < 0) (h3 : ¬ len < 0) (hdp : cnt.toNatClampNeg = xs.length) (hnn : bs.length ≤ len.toNatClampNeg) (h5 : xs.length + len.toNatClampNeg ≤ N.toNatClampNeg) (hng : ¬ ((0 : Int32) < (cn - N))) (hcn : cnt + len = cn) :
    MF l Z m_18 jdk_67_method_7_code 2 (some (.object "java/lang/StringBuilder")) ws (oR 4 0 0 61) #[(.ref a_), (.ref t)] h0 (Q_apsN Z t tb kt len bs cp a_ v_ kv N cnt xs cn h0 n0) := by
  refine own_body (cls := "java/lang/StringBuilder") (plainFor_of_name pn_7) rfl (fun p e s m below meth c s₁ hx hby hml hown hnm hret hZ X0 e0 => ?_)
  have N0 := Fr.nil n0
  have K0 := Keep.refl h0 [a_, v_]
  have lt1 := own_l P2.lt
  have lt2 := own_l P3.lt
  have lt3 := own_l P4.lt
  have lt4 := own_l P5.lt
  have lt5 := own_l P6.lt
  have lt6 := own_l P7.lt
  have lt7 := own_l P8.lt
  have lt8 := own_l P9.lt
  have lt9 := own_l P10.lt
  obtain ⟨_, _, ⟨T10, L10, k10, n10⟩, -, X10, ⟨Lc10, hQ10, l10, y10, z10⟩, st10⟩ := superBack X0 hx hZ (y := m_17) hown (w_97 hw) (own_sameOwn (by decide) (w_88 hw) (w_103 hw) (notFace_of_selects (args := a0) (w_105 hw)) rfl) (w_88 hw) (w_98 hw) (by decide) (backOf (W := 0) (rm_appN l Z a0 hw [] t tb kt len bs cp a_ v_ kv N cnt xs cn h0 n0 (by omega) P0 P1 P2 P3 P4 P5 P6 P7 P8 P9 P10 (by omega) (by omega) (fun q => P13 q) (fun q => P14 q) hcs h2 h3 hdp hnn h5 hng hcn) hZ (w_99 hw) (w_67 hw) (by decide) (by decide)) e0 (Ins.self P6) (g := (mkF m 2 #[vA a_, vA t] [(.ref t), (.ref a_)])) rfl (by rw [hml]; rfl) (w_99 hw) (argsL := [(.ref t)]) (rest := []) (lenOf pd_13 rfl) rfl (Nat.le_of_eq rfl) (hb hby d208) (fun _ _ => ⟨rfl, e0, (by decide : 0 + 0 ≤ _), (by decide : 0 + 0 ≤ _)⟩)
  dsimp only [Pt.U, Pt.locs, Pt.cells, Pt.slots] at X10 l10 y10 z10 st10 hQ10
  rw [l10, y10, z10] at X10
  obtain ⟨rfl, Nq10, Kq10, r10_0, r10_1, r10_2, r10_3, r10_4, r10_5⟩ := hQ10
  have N10 := Fr.app N0 Nq10
  have z10' := Kq10.1
  have K10 := K0.trans Kq10 (allS (Or.inl (List.mem_of_getElem? (i := 0) rfl)) (allS (Or.inl (List.mem_of_getElem? (i := 1) rfl)) all0))
  have lt11 := own_l r10_0.lt
  have lt12 := own_l r10_1.lt
  have lt13 := own_l r10_2.lt
  have lt14 := own_l r10_3.lt
  have lt15 := own_l r10_4.lt
  refine ⟨_, _, _, _, some (.ref a_), X10, by decide, by decide, nofun, ?_, fun fs hr => castTop (ef_7 m a_ t) ?_⟩
  · show Q_apsN Z t tb kt len bs cp a_ v_ kv N cnt xs cn h0 n0 _ T10.heap _
    exact ⟨rfl, N10, K10, r10_0, r10_1, r10_2, r10_3, r10_4, r10_5⟩
  · show Steps _ _ _ (s₁.setTop (mkF m 0 #[vA a_, vA t] [])) _
    refine XS.aloadN X0.here hx rfl (hb hby d206) rfl rfl ?_
    refine XS.aloadN X0.here hx rfl (hb hby d207) rfl rfl ?_
    refine st10.trans ?_
    show Steps _ _ _ (T10.setTop (mkF m 5 #[vA a_, vA t] [(.ref a_)])) _
    refine XS.pop X10.here hx rfl (hb hby d209) rfl rfl ?_
    refine XS.aloadN X10.here hx rfl (hb hby d210) rfl rfl ?_
    exact retOut X10 hx hret (own_narrow_ref rfl) (Or.inr (Or.inr (Or.inr (Or.inr ⟨rfl, rfl, rfl⟩)))) (hb hby d211) hr
theorem d212 : decode jdk_67_method_80_code 0 = .ok (.aload_n 0, 1) := by decide +kernel
theorem d213 : decode jdk_67_method_80_code 1 = .ok (.aload_n 1, 1) := by decide +kernel
theorem w_92 {Z : State} {a0 : Array Value} (hw : HW Z a0) : (Jvm.Cond.methodLink "java/lang/StringBuilder" (23 : Nat) m_18).before a0 Z = true := hw _ (List.mem_of_getElem? (i := 92) rfl)
theorem w_96 {Z : State} {a0 : Array Value} (hw : HW Z a0) : (Jvm.Cond.code m_18 jdk_67_method_7_code (2 : Nat) (Option.some (FieldType.object "java/lang/StringBuilder"))).before a0 Z = true := hw _ (List.mem_of_getElem? (i := 96) rfl)
theorem w_58 {Z : State} {a0 : Array Value} (hw : HW Z a0) : (Jvm.Cond.initialized "java/lang/StringBuilder").before a0 Z = true := hw _ (List.mem_of_getElem? (i := 58) rfl)
theorem pd_14 : parseMethodDescriptor "(Ljava/lang/String;)Ljava/lang/StringBuilder;" = some ⟨[(.object "java/lang/String")], some (.object "java/lang/StringBuilder")⟩ := by decide +kernel
theorem d214 : decode jdk_67_method_80_code 2 = .ok (.invokevirtual 23, 3) := by decide +kernel
theorem w_95 {Z : State} {a0 : Array Value} (hw : HW Z a0) : (Jvm.Cond.selects "java/lang/StringBuilder" m_18 m_18).before a0 Z = true := hw _ (List.mem_of_getElem? (i := 95) rfl)
theorem w_93 {Z : State} {a0 : Array Value} (hw : HW Z a0) : (Jvm.Cond.declares m_18).before a0 Z = true := hw _ (List.mem_of_getElem? (i := 93) rfl)
theorem w_94 {Z : State} {a0 : Array Value} (hw : HW Z a0) : (Jvm.Cond.instanceMethod m_18).before a0 Z = true := hw _ (List.mem_of_getElem? (i := 94) rfl)
theorem d215 : decode jdk_67_method_80_code 5 = .ok (.areturn, 1) := by decide +kernel
abbrev m_19 : MethodName := (⟨"java/lang/StringBuilder", "append", "(Ljava/lang/String;)Ljava/lang/AbstractStringBuilder;"⟩ : MethodName)
def Q_apbN (Z : State) (t : Addr) (tb : Addr) (kt : ClassId) (len : Int32) (bs : List Value) (cp : Int32) (a_ : Addr) (v_ : Addr) (kv : ClassId) (N : Int32) (cnt : Int32) (xs : List Value) (cn : Int32) (h0 : Heap) (n0 : Nat) (v : Option Value) (h : Heap) (L : List Loc) : Prop := (v = some (.ref a_)) ∧ (Fr n0 L) ∧ (Keep h0 h [a_, v_]) ∧ (Exa Z h a_ "java/lang/StringBuilder") ∧ (fld2 Z h a_ (.ref v_)) ∧ (fld3 Z h a_ (.int 0)) ∧ (fld4 Z h a_ (.int cn)) ∧ (Arv Z h v_ kv .byte N (xs ++ bs) (.int 0)) ∧ (Old Z n0 h)
theorem rm_apbN (l : Launch) (Z : State) (a0 : Array Value) (hw : HW Z a0) (ws : List Jvm.Cond) (t : Addr) (tb : Addr) (kt : ClassId) (len : Int32) (bs : List Value) (cp : Int32) (a_ : Addr) (v_ : Addr) (kv : ClassId) (N : Int32) (cnt : Int32) (xs : List Value) (cn : Int32) (h0 : Heap) (n0 : Nat) (Z0 : n0 ≤ h0.size) (P0 : Old Z n0 h0) (P1 : sta0 Z (.int cp)) (P2 : Exa Z h0 t "java/lang/String") (P3 : fld1 Z h0 t (.int 0)) (P4 : fld0 Z h0 t (.ref tb)) (P5 : Arv Z h0 tb kt .byte len bs (.int 0)) (P6 : Exa Z h0 a_ "java/lang/StringBuilder") (P7 : fld2 Z h0 a_ (.ref v_)) (P8 : fld3 Z h0 a_ (.int 0)) (P9 : fld4 Z h0 a_ (.int cnt)) (P10 : Arv Z h0 v_ kv .byte N xs (.int 0)) (P11 : n0 ≤ a_) (P12 : n0 ≤ v_) (P13 : tb ≠ v_) (P14 : a_ ≠ v_) (hcs : ¬ (cp = (0 : Int32))) (h2 : ¬ cnt < 0) (h3 : ¬ len < 0) (hdp : cnt.toNatClampNeg = xs.length) (hnn : bs.length ≤ len.toNatClampNeg) (h5 : xs.length + len.toNatClampNeg ≤ N.toNatClampNeg) (hng : ¬ ((0 : Int32) < (cn - N))) (hcn : cnt + len = cn) :
    MF l Z m_19 jdk_67_method_80_code 2 (some (.object "java/lang/AbstractStringBuilder")) ws (oR 5 0 0 74) #[(.ref a_), (.ref t)] h0 (Q_apbN Z t tb kt len bs cp a_ v_ kv N cnt xs cn h0 n0) := by
  refine own_body (cls := "java/lang/StringBuilder") (plainFor_of_name pn_7) rfl (fun p e s m below meth c s₁ hx hby hml hown hnm hret hZ X0 e0 => ?_)
  have N0 := Fr.nil n0
  have K0 := Keep.refl h0 [a_, v_]
  have lt1 := own_l P2.lt
  have lt2 := own_l P3.lt
  have lt3 := own_l P4.lt
  have lt4 := own_l P5.lt
  have lt5 := own_l P6.lt
  have lt6 := own_l P7.lt
  have lt7 := own_l P8.lt
  have lt8 := own_l P9.lt
  have lt9 := own_l P10.lt
  obtain ⟨cq10, kq10, qa10, qb10, qc10⟩ := isOf hZ e0 P6
  obtain ⟨_, _, ⟨T10, L10, k10, n10⟩, -, X10, ⟨Lc10, hQ10, l10, y10, z10⟩, st10⟩ := X0.virtualBack hx (y := m_18) (z := m_18) hown (mvT hZ (w_92 hw)) (mvT hZ (w_93 hw)) (notFace_of_selects (args := #[]) (mvT hZ (w_95 hw))) (mvT hZ (w_95 hw)) (mvT hZ (w_94 hw)) (by decide) (backOf (W := 0) (rm_apsN l Z a0 hw [] t tb kt len bs cp a_ v_ kv N cnt xs cn h0 n0 (by omega) P0 P1 P2 P3 P4 P5 P6 P7 P8 P9 P10 (by omega) (by omega) (fun q => P13 q) (fun q => P14 q) hcs h2 h3 hdp hnn h5 hng hcn) hZ (w_96 hw) (w_58 hw) (by decide) (by decide)) qa10 qc10 (g := (mkF m 2 #[vA a_, vA t] [(.ref t), (.ref a_)])) rfl (by rw [hml]; rfl) (Steps.refl _) (argsL := [(.ref t)]) (rest := []) (lenOf pd_14 rfl) rfl (Nat.le_of_eq rfl) (hb hby d214) (fun _ _ => ⟨rfl, e0, (by decide : 0 + 0 ≤ _), (by decide : 0 + 0 ≤ _)⟩)
  dsimp only [Pt.U, Pt.locs, Pt.cells, Pt.slots] at X10 l10 y10 z10 st10 hQ10
  rw [l10, y10, z10] at X10
  obtain ⟨rfl, Nq10, Kq10, r10_0, r10_1, r10_2, r10_3, r10_4, r10_5⟩ := hQ10
  have N10 := Fr.app N0 Nq10
  have z10' := Kq10.1
  have K10 := K0.trans Kq10 (allS (Or.inl (List.mem_of_getElem? (i := 0) rfl)) (allS (Or.inl (List.mem_of_getElem? (i := 1) rfl)) all0))
  have lt11 := own_l r10_0.lt
  have lt12 := own_l r10_1.lt
  have lt13 := own_l r10_2.lt
  have lt14 := own_l r10_3.lt
  have lt15 := own_l r10_4.lt
  refine ⟨_, _, _, _, some (.ref a_), X10, by decide, by decide, nofun, ?_, fun fs hr => castTop (ef_7 m a_ t) ?_⟩
  · show Q_apbN Z t tb kt len bs cp a_ v_ kv N cnt xs cn h0 n0 _ T10.heap _
    exact ⟨rfl, N10, K10, r10_0, r10_1, r10_2, r10_3, r10_4, r10_5⟩
  · show Steps _ _ _ (s₁.setTop (mkF m 0 #[vA a_, vA t] [])) _
    refine XS.aloadN X0.here hx rfl (hb hby d212) rfl rfl ?_
    refine XS.aloadN X0.here hx rfl (hb hby d213) rfl rfl ?_
    refine st10.trans ?_
    show Steps _ _ _ (T10.setTop (mkF m 5 #[vA a_, vA t] [(.ref a_)])) _
    exact retOut X10 hx hret (own_narrow_ref rfl) (Or.inr (Or.inr (Or.inr (Or.inr ⟨rfl, rfl, rfl⟩)))) (hb hby d215) hr
def Q_appG32 (Z : State) (t : Addr) (tb : Addr) (kt : ClassId) (len : Int32) (bs : List Value) (cp : Int32) (a_ : Addr) (v_ : Addr) (kv : ClassId) (cnt : Int32) (xs : List Value) (h0 : Heap) (n0 : Nat) (v : Option Value) (h : Heap) (L : List Loc) : Prop := ∃ (b : Addr) (k : ClassId), (v = some (.ref a_)) ∧ (Fr n0 L) ∧ (Keep h0 h [a_]) ∧ (h0.size ≤ b) ∧ (Exa Z h a_ "java/lang/StringBuilder") ∧ (fld2 Z h a_ (.ref b)) ∧ (fld3 Z h a_ (.int 0)) ∧ (fld4 Z h a_ (.int 32)) ∧ (Arv Z h b k .byte (60 : Int32) (xs ++ bs) (.int 0)) ∧ (Old Z n0 h)
theorem rm_appG32 (l : Launch) (Z : State) (a0 : Array Value) (hw : HW Z a0) (ws : List Jvm.Cond) (t : Addr) (tb : Addr) (kt : ClassId) (len : Int32) (bs : List Value) (cp : Int32) (a_ : Addr) (v_ : Addr) (kv : ClassId) (cnt : Int32) (xs : List Value) (h0 : Heap) (n0 : Nat) (Z0 : n0 ≤ h0.size) (P0 : Old Z n0 h0) (P1 : sta0 Z (.int cp)) (P2 : Exa Z h0 t "java/lang/String") (P3 : fld1 Z h0 t (.int 0)) (P4 : fld0 Z h0 t (.ref tb)) (P5 : Arv Z h0 tb kt .byte len bs (.int 0)) (P6 : Exa Z h0 a_ "java/lang/StringBuilder") (P7 : fld2 Z h0 a_ (.ref v_)) (P8 : fld3 Z h0 a_ (.int 0)) (P9 : fld4 Z h0 a_ (.int cnt)) (P10 : Arv Z h0 v_ kv .byte (29 : Int32) xs (.int 0)) (P11 : n0 ≤ a_) (P12 : n0 ≤ v_) (P13 : tb ≠ v_) (P14 : a_ ≠ v_) (P15 : tb ≠ a_) (P16 : t ≠ a_) (hcs : ¬ (cp = (0 : Int32))) (h3 : ¬ len < 0) (hnn : bs.length ≤ len.toNatClampNeg) (h5 : xs.length + len.toNatClampNeg ≤ (60 : Int32).toNatClampNeg) (h2 : ¬ cnt < 0) (hdp : cnt.toNatClampNeg = xs.length) (hl29 : xs.length ≤ 29) (hcn : cnt + len = (32 : Int32)) :
    MF l Z m_17 jdk_68_method_22_code 3 (some (.object "java/lang/AbstractStringBuilder")) ws (oR 4 1 60 62) #[(.ref a_), (.ref t)] h0 (Q_appG32 Z t tb kt len bs cp a_ v_ kv cnt xs h0 n0) := by
  refine own_body (cls := "java/lang/AbstractStringBuilder") (plainFor_of_name pn_5) rfl (fun p e s m below meth c s₁ hx hby hml hown hnm hret hZ X0 e0 => ?_)
  have N0 := Fr.nil n0
  have K0 := Keep.refl h0 [a_]
  have lt1 := own_l P2.lt
  have lt2 := own_l P3.lt
  have lt3 := own_l P4.lt
  have lt4 := own_l P5.lt
  have lt5 := own_l P6.lt
  have lt6 := own_l P7.lt
  have lt7 := own_l P8.lt
  have lt8 := own_l P9.lt
  have lt9 := own_l P10.lt
  obtain ⟨cq10, kq10, qa10, qb10, qc10⟩ := isOf hZ e0 P2
  obtain ⟨_, _, ⟨T10, L10, k10, n10⟩, -, X10, ⟨Lc10, hQ10, l10, y10, z10⟩, st10⟩ := X0.virtualBack hx (y := m_6) (z := m_6) hown (mvT hZ (w_70 hw)) (mvT hZ (w_71 hw)) (notFace_of_selects (args := #[]) (mvT hZ (w_73 hw))) (mvT hZ (w_73 hw)) (mvT hZ (w_72 hw)) (by decide) (backOf (W := 0) (rm_slen l Z a0 hw [] t tb kt len bs cp h0 n0 (by omega) P0 P1 P2 P3 P4 P5 hcs) hZ (w_74 hw) (w_5 hw) (by decide) (by decide)) qa10 qc10 (g := (mkF m 10 #[vA a_, vA t, .unset] [(.ref t)])) rfl (by rw [hml]; rfl) (Steps.refl _) (argsL := []) (rest := []) (lenOf pd_10 rfl) rfl (Nat.le_of_eq rfl) (hb hby d185) (fun _ _ => ⟨rfl, e0, (by decide : 0 + 0 ≤ _), (by decide : 0 + 0 ≤ _)⟩)
  dsimp only [Pt.U, Pt.locs, Pt.cells, Pt.slots] at X10 l10 y10 z10 st10 hQ10
  rw [l10, y10, z10] at X10
  obtain ⟨rfl, Nq10, Kq10⟩ := hQ10
  have N10 := Fr.app N0 Nq10
  obtain ⟨T11, X11, e11, st11⟩ := getF X10 hx hZ hown (host := "") (Or.inl (w_100 hw)) Via.refl Kq10 P9 (g := (mkF m 16 #[vA a_, vA t, vI len] [(.ref a_), (.ref a_)])) rfl rfl (hb hby d189)
  obtain ⟨cq12, kq12, qa12, qb12, qc12⟩ := isOf hZ e11 P6
  obtain ⟨cc12, ca12, cb12⟩ := P6.cell
  obtain ⟨_, _, ⟨T12, L12, k12, n12⟩, -, X12, ⟨Lc12, hQ12, l12, y12, z12⟩, st12⟩ := X11.privateBack hx (y := m_13) hown (mvT hZ (w_102 hw)) (mvT hZ (w_103 hw)) (mvT hZ (own_selOwn (by decide) (w_103 hw) (Cond.privateMethod_at (w_104 hw)) (w_105 hw))) (Cond.privateMethod_at (mvP hZ (w_104 hw) (args := #[]))) (mvT hZ (w_106 hw)) (by decide) (backOf (W := 0) (rm_ensG32 l Z a0 hw [] a_ v_ kv xs cnt h0 n0 (by omega) P6 P7 P8 P9 P10 (by omega) hl29) hZ (w_106 hw) (w_67 hw) (by decide) (by decide)) (g := (mkF m 21 #[vA a_, vA t, vI len] [(.int 32), (.ref a_)])) rfl (by rw [hml]; rfl) (Steps.refl _) (a := a_) (cell := cc12) (by rw [e11]; exact ca12) cb12 (argsL := [(.int 32)]) (rest := []) (lenOf pd_11 rfl) rfl (Nat.le_of_eq rfl) (hb hby d192) (fun _ _ => ⟨rfl, e11, (by decide : 0 + 1 ≤ _), (by decide : 0 + 60 ≤ _)⟩)
  dsimp only [Pt.U, Pt.locs, Pt.cells, Pt.slots] at X12 l12 y12 z12 st12 hQ12
  rw [l12, y12, z12] at X12
  obtain ⟨x12_b, x12_k, rfl, Nq12, Kq12, r12_0, r12_1, r12_2, r12_3, r12_4, r12_5⟩ := hQ12
  have N12 := Fr.app N10 Nq12
  have z12' := Kq12.1
  have K12 := K0.trans Kq12 (allS (Or.inl (List.mem_of_getElem? (i := 0) rfl)) all0)
  have lt13 := own_l r12_1.lt
  have lt14 := own_l r12_2.lt
  have lt15 := own_l r12_3.lt
  have lt16 := own_l r12_4.lt
  have lt17 := own_l r12_5.lt
  obtain ⟨T18, X18, e18, st18⟩ := getF X12 hx hZ hown (host := "") (Or.inl (w_100 hw)) Via.refl rfl r12_3 (g := (mkF m 26 #[vA a_, vA t, vI len] [(.ref a_), (.ref a_)])) rfl rfl (hb hby d195)
  have f20 := P0.keep Kq12 (allS (by omega) all0)
  have f21 := P2.keep Kq12
  have f22 := P3.keep Kq12 (ninS (fun q => P16 q) nin0)
  have f23 := P4.keep Kq12 (ninS (fun q => P16 q) nin0)
  have f24 := P5.keep Kq12 (ninS (fun q => P15 q) nin0)
  obtain ⟨cq19, kq19, qa19, qb19, qc19⟩ := isOf hZ e18 r12_1
  obtain ⟨cc19, ca19, cb19⟩ := r12_1.cell
  obtain ⟨_, _, ⟨T19, L19, k19, n19⟩, -, X19, ⟨Lc19, hQ19, l19, y19, z19⟩, st19⟩ := X18.privateBack hx (y := m_16) hown (mvT hZ (w_107 hw)) (mvT hZ (w_108 hw)) (mvT hZ (own_selOwn (by decide) (w_108 hw) (Cond.privateMethod_at (w_109 hw)) (w_110 hw))) (Cond.privateMethod_at (mvP hZ (w_109 hw) (args := #[]))) (mvT hZ (w_111 hw)) (by decide) (backOf (W := 0) (rm_putS l Z a0 hw [] t tb kt len bs cp a_ x12_b x12_k ((60 : Int32)) cnt xs T12.heap n0 (by omega) f20 P1 f21 f22 f23 f24 r12_1 r12_4 r12_2 r12_5 (by omega) (own_ne (by omega)) hcs h2 h3 hdp hnn h5) hZ (w_111 hw) (w_67 hw) (by decide) (by decide)) (g := (mkF m 30 #[vA a_, vA t, vI len] [(.ref t), (.int cnt), (.ref a_)])) rfl (by rw [hml]; rfl) (Steps.refl _) (a := a_) (cell := cc19) (by rw [e18]; exact ca19) cb19 (argsL := [(.int cnt), (.ref t)]) (rest := []) (lenOf pd_12 rfl) rfl (Nat.le_of_eq rfl) (hb hby d197) (fun _ _ => ⟨rfl, e18, (by decide : 1 + 0 ≤ _), (by decide : 60 + 0 ≤ _)⟩)
  dsimp only [Pt.U, Pt.locs, Pt.cells, Pt.slots] at X19 l19 y19 z19 st19 hQ19
  rw [l19, y19, z19] at X19
  obtain ⟨rfl, Nq19, Kq19, r19_0, r19_1⟩ := hQ19
  have N19 := Fr.app N12 Nq19
  have z19' := Kq19.1
  have K19 := K12.trans Kq19 (allS (Or.inr (by omega)) all0)
  have lt25 := own_l r19_0.lt
  have f27 := r12_3.keep Kq19 (ninS (own_ne (by omega)) nin0)
  obtain ⟨T26, X26, e26, st26⟩ := getF X19 hx hZ hown (host := "") (Or.inl (w_100 hw)) Via.refl rfl f27 (g := (mkF m 35 #[vA a_, vA t, vI len] [(.ref a_), (.ref a_)])) rfl rfl (hb hby d200)
  have f29 := r12_1.keep Kq19
  obtain ⟨T28, h28, X28, e28, W28, st28⟩ := putF X26 hx hZ hown (host := "") (Or.inl (w_100 hw)) Via.refl e26 f27 f29 (Or.inl (w_101 hw)) (w_57 hw) (ty := .int) (by decide) rfl rfl (g := (mkF m 40 #[vA a_, vA t, vI len] [(.int 32), (.ref a_)])) rfl rfl (hb hby d203)
  have F28 := f27.same W28
  have z28 := W28.size
  have K28 := K19.wr W28 (Or.inl (List.mem_of_getElem? (i := 0) rfl))
  have N28 := Fr.snoc X28 N19 (by omega)
  have f30 := f29.wr W28
  have f31 := r12_4.keep Kq19 (ninS (own_ne (by omega)) nin0)
  have f32 := f31.other W28 (Or.inr (slot_ne (a0 := a0) (t := (.array .byte)) (t' := .int) (Or.inl (w_85 hw)) (Or.inl (w_101 hw)) (by decide) (by decide) (by decide)))
  have f33 := r12_2.keep Kq19 (ninS (own_ne (by omega)) nin0)
  have f34 := f33.other W28 (Or.inr (slot_ne (a0 := a0) (t := .byte) (t' := .int) (Or.inl (w_83 hw)) (Or.inl (w_101 hw)) (by decide) (by decide) (by decide)))
  have f35 := r19_0.other W28 (own_ne (by omega))
  have f36 := r19_1.wr W28 (by omega)
  refine ⟨_, _, _, _, some (.ref a_), X28, by decide, by decide, nofun, ?_, fun fs hr => castTop (ef_10 m a_ t) ?_⟩
  · show Q_appG32 Z t tb kt len bs cp a_ v_ kv cnt xs h0 n0 _ T28.heap _
    rw [(e28 : T28.heap = h28)]
    exact ⟨x12_b, x12_k, rfl, N28, K28, (by omega), f30, f32, f34, F28, f35, f36⟩
  · show Steps _ _ _ (s₁.setTop (mkF m 0 #[vA a_, vA t, .unset] [])) _
    refine XS.aloadN X0.here hx rfl (hb hby d182) rfl rfl ?_
    refine XS.ifnonnullYes X0.here hx rfl (pc0 := 1) (pc' := 9) rfl (hb hby d183) rfl (by decide) (by decide) ?_
    refine XS.aloadN X0.here hx rfl (hb hby d184) rfl rfl ?_
    refine st10.trans ?_
    show Steps _ _ _ (T10.setTop (mkF m 13 #[vA a_, vA t, .unset] [(.int len)])) _
    refine XS.istoreN X10.here hx rfl (hb hby d186) rfl (l' := #[vA a_, vA t, vI len]) rfl ?_
    refine XS.aloadN X10.here hx rfl (hb hby d187) rfl rfl ?_
    refine XS.aloadN X10.here hx rfl (hb hby d188) rfl rfl ?_
    refine st11 _ ?_
    show Steps _ _ _ (T11.setTop (mkF m 19 #[vA a_, vA t, vI len] [(.int cnt), (.ref a_)])) _
    refine XS.iloadN X11.here hx rfl (hb hby d190) rfl ?_
    refine XS.iadd X11.here hx rfl (hb hby d191) rfl ?_
    show Steps _ _ _ (T11.setTop (mkF m 21 #[vA a_, vA t, vI len] [(.int (cnt + len)), (.ref a_)])) _
    rw [hcn]
    show Steps _ _ _ (T11.setTop (mkF m 21 #[vA a_, vA t, vI len] [(.int 32), (.ref a_)])) _
    refine st12.trans ?_
    show Steps _ _ _ (T12.setTop (mkF m 24 #[vA a_, vA t, vI len] [])) _
    refine XS.aloadN X12.here hx rfl (hb hby d193) rfl rfl ?_
    refine XS.aloadN X12.here hx rfl (hb hby d194) rfl rfl ?_
    refine st18 _ ?_
    show Steps _ _ _ (T18.setTop (mkF m 29 #[vA a_, vA t, vI len] [(.int cnt), (.ref a_)])) _
    refine XS.aloadN X18.here hx rfl (hb hby d196) rfl rfl ?_
    refine st19.trans ?_
    show Steps _ _ _ (T19.setTop (mkF m 33 #[vA a_, vA t, vI len] [])) _
    refine XS.aloadN X19.here hx rfl (hb hby d198) rfl rfl ?_
    refine XS.dup X19.here hx rfl (hb hby d199) rfl rfl ?_
    refine st26 _ ?_
    show Steps _ _ _ (T26.setTop (mkF m 38 #[vA a_, vA t, vI len] [(.int cnt), (.ref a_)])) _
    refine XS.iloadN X26.here hx rfl (hb hby d201) rfl ?_
    refine XS.iadd X26.here hx rfl (hb hby d202) rfl ?_
    show Steps _ _ _ (T26.setTop (mkF m 40 #[vA a_, vA t, vI len] [(.int (cnt + len)), (.ref a_)])) _
    rw [hcn]
    show Steps _ _ _ (T26.setTop (mkF m 40 #[vA a_, vA t, vI len] [(.int 32), (.ref a_)])) _
    refine st28 _ ?_
    show Steps _ _ _ (T28.setTop (mkF m 43 #[vA a_, vA t, vI len] [])) _
    refine XS.aloadN X28.here hx rfl (hb hby d204) rfl rfl ?_
    exact retOut X28 hx hret (own_narrow_ref rfl) (Or.inr (Or.inr (Or.inr (Or.inr ⟨rfl, rfl, rfl⟩)))) (hb hby d205) hr
def Q_apsG32 (Z : State) (t : Addr) (tb : Addr) (kt : ClassId) (len : Int32) (bs : List Value) (cp : Int32) (a_ : Addr) (v_ : Addr) (kv : ClassId) (cnt : Int32) (xs : List Value) (h0 : Heap) (n0 : Nat) (v : Option Value) (h : Heap) (L : List Loc) : Prop := ∃ (b : Addr) (k : ClassId), (v = some (.ref a_)) ∧ (Fr n0 L) ∧ (Keep h0 h [a_]) ∧ (h0.size ≤ b) ∧ (Exa Z h a_ "java/lang/StringBuilder") ∧ (fld2 Z h a_ (.ref b)) ∧ (fld3 Z h a_ (.int 0)) ∧ (fld4 Z h a_ (.int 32)) ∧ (Arv Z h b k .byte (60 : Int32) (xs ++ bs) (.int 0)) ∧ (Old Z n0 h)
theorem rm_apsG32 (l : Launch) (Z : State) (a0 : Array Value) (hw : HW Z a0) (ws : List Jvm.Cond) (t : Addr) (tb : Addr) (kt : ClassId) (len : Int32) (bs : List Value) (cp : Int32) (a_ : Addr) (v_ : Addr) (kv : ClassId) (cnt : Int32) (xs : List Value) (h0 : Heap) (n0 : Nat) (Z0 : n0 ≤ h0.size) (P0 : Old Z n0 h0) (P1 : sta0 Z (.int cp)) (P2 : Exa Z h0 t "java/lang/String") (P3 : fld1 Z h0 t (.int 0)) (P4 : fld0 Z h0 t (.ref tb)) (P5 : Arv Z h0 tb kt .byte len bs (.int 0)) (P6 : Exa Z h0 a_ "java/lang/StringBuilder") (P7 : fld2 Z h0 a_ (.ref v_)) (P8 : fld3 Z h0 a_ (.int 0)) (P9 : fld4 Z h0 a_ (.int cnt)) (P10 : Arv Z h0 v_ kv .byte (29 : Int32) xs (.int 0)) (P11 : n0 ≤ a_) (P12 : n0 ≤ v_) (P13 : tb ≠ v_) (P14 : a_ ≠ v_) (P15 : tb ≠ a_) (P16 : t ≠ a_) (hcs : ¬ (cp = (0 : Int32))) (h3 : ¬ len < 0) (hnn : bs.length ≤ len.toNatClampNeg) (h5 : xs.length + len.toNatClampNeg ≤ (60 : Int32).toNatClampNeg) (h2 : ¬ cnt < 0) (hdp : cnt.toNatClampNeg = xs.length) (hl29 : xs.length ≤ 29) (hcn : cnt + len = (32 : Int32)) :
    MF l Z m_18 jdk_67_method_7_code 2 (some (.object "java/lang/StringBuilder")) ws (oR 5 1 60 76) #[(.ref a_), (.ref t)] h0 (Q_apsG32 Z t tb kt len bs cp a_ v_ kv cnt xs h0 n0) := by
  refine own_body (cls := "java/lang/StringBuilder") (plainFor_of_name pn_7) rfl (fun p e s m below meth c s₁ hx hby hml hown hnm hret hZ X0 e0 => ?_)
  have N0 := Fr.nil n0
  have K0 := Keep.refl h0 [a_]
  have lt1 := own_l P2.lt
  have lt2 := own_l P3.lt
  have lt3 := own_l P4.lt
  have lt4 := own_l P5.lt
  have lt5 := own_l P6.lt
  have lt6 := own_l P7.lt
  have lt7 := own_l P8.lt
  have lt8 := own_l P9.lt
  have lt9 := own_l P10.lt
  obtain ⟨_, _, ⟨T10, L10, k10, n10⟩, -, X10, ⟨Lc10, hQ10, l10, y10, z10⟩, st10⟩ := superBack X0 hx hZ (y := m_17) hown (w_97 hw) (own_sameOwn (by decide) (w_88 hw) (w_103 hw) (notFace_of_selects (args := a0) (w_105 hw)) rfl) (w_88 hw) (w_98 hw) (by decide) (backOf (W := 0) (rm_appG32 l Z a0 hw [] t tb kt len bs cp a_ v_ kv cnt xs h0 n0 (by omega) P0 P1 P2 P3 P4 P5 P6 P7 P8 P9 P10 (by omega) (by omega) (fun q => P13 q) (fun q => P14 q) (fun q => P15 q) (fun q => P16 q) hcs h3 hnn h5 h2 hdp hl29 hcn) hZ (w_99 hw) (w_67 hw) (by decide) (by decide)) e0 (Ins.self P6) (g := (mkF m 2 #[vA a_, vA t] [(.ref t), (.ref a_)])) rfl (by rw [hml]; rfl) (w_99 hw) (argsL := [(.ref t)]) (rest := []) (lenOf pd_13 rfl) rfl (Nat.le_of_eq rfl) (hb hby d208) (fun _ _ => ⟨rfl, e0, (by decide : 0 + 1 ≤ _), (by decide : 0 + 60 ≤ _)⟩)
  dsimp only [Pt.U, Pt.locs, Pt.cells, Pt.slots] at X10 l10 y10 z10 st10 hQ10
  rw [l10, y10, z10] at X10
  obtain ⟨x10_b, x10_k, rfl, Nq10, Kq10, r10_0, r10_1, r10_2, r10_3, r10_4, r10_5, r10_6⟩ := hQ10
  have N10 := Fr.app N0 Nq10
  have z10' := Kq10.1
  have K10 := K0.trans Kq10 (allS (Or.inl (List.mem_of_getElem? (i := 0) rfl)) all0)
  have lt11 := own_l r10_1.lt
  have lt12 := own_l r10_2.lt
  have lt13 := own_l r10_3.lt
  have lt14 := own_l r10_4.lt
  have lt15 := own_l r10_5.lt
  refine ⟨_, _, _, _, some (.ref a_), X10, by decide, by decide, nofun, ?_, fun fs hr => castTop (ef_7 m a_ t) ?_⟩
  · show Q_apsG32 Z t tb kt len bs cp a_ v_ kv cnt xs h0 n0 _ T10.heap _
    exact ⟨x10_b, x10_k, rfl, N10, K10, (by omega), r10_1, r10_2, r10_3, r10_4, r10_5, r10_6⟩
  · show Steps _ _ _ (s₁.setTop (mkF m 0 #[vA a_, vA t] [])) _
    refine XS.aloadN X0.here hx rfl (hb hby d206) rfl rfl ?_
    refine XS.aloadN X0.here hx rfl (hb hby d207) rfl rfl ?_
    refine st10.trans ?_
    show Steps _ _ _ (T10.setTop (mkF m 5 #[vA a_, vA t] [(.ref a_)])) _
    refine XS.pop X10.here hx rfl (hb hby d209) rfl rfl ?_
    refine XS.aloadN X10.here hx rfl (hb hby d210) rfl rfl ?_
    exact retOut X10 hx hret (own_narrow_ref rfl) (Or.inr (Or.inr (Or.inr (Or.inr ⟨rfl, rfl, rfl⟩)))) (hb hby d211) hr
def Q_appG33 (Z : State) (t : Addr) (tb : Addr) (kt : ClassId) (len : Int32) (bs : List Value) (cp : Int32) (a_ : Addr) (v_ : Addr) (kv : ClassId) (cnt : Int32) (xs : List Value) (h0 : Heap) (n0 : Nat) (v : Option Value) (h : Heap) (L : List Loc) : Prop := ∃ (b : Addr) (k : ClassId), (v = some (.ref a_)) ∧ (Fr n0 L) ∧ (Keep h0 h [a_]) ∧ (h0.size ≤ b) ∧ (Exa Z h a_ "java/lang/StringBuilder") ∧ (fld2 Z h a_ (.ref b)) ∧ (fld3 Z h a_ (.int 0)) ∧ (fld4 Z h a_ (.int 33)) ∧ (Arv Z h b k .byte (60 : Int32) (xs ++ bs) (.int 0)) ∧ (Old Z n0 h)
theorem rm_appG33 (l : Launch) (Z : State) (a0 : Array Value) (hw : HW Z a0) (ws : List Jvm.Cond) (t : Addr) (tb : Addr) (kt : ClassId) (len : Int32) (bs : List Value) (cp : Int32) (a_ : Addr) (v_ : Addr) (kv : ClassId) (cnt : Int32) (xs : List Value) (h0 : Heap) (n0 : Nat) (Z0 : n0 ≤ h0.size) (P0 : Old Z n0 h0) (P1 : sta0 Z (.int cp)) (P2 : Exa Z h0 t "java/lang/String") (P3 : fld1 Z h0 t (.int 0)) (P4 : fld0 Z h0 t (.ref tb)) (P5 : Arv Z h0 tb kt .byte len bs (.int 0)) (P6 : Exa Z h0 a_ "java/lang/StringBuilder") (P7 : fld2 Z h0 a_ (.ref v_)) (P8 : fld3 Z h0 a_ (.int 0)) (P9 : fld4 Z h0 a_ (.int cnt)) (P10 : Arv Z h0 v_ kv .byte (29 : Int32) xs (.int 0)) (P11 : n0 ≤ a_) (P12 : n0 ≤ v_) (P13 : tb ≠ v_) (P14 : a_ ≠ v_) (P15 : tb ≠ a_) (P16 : t ≠ a_) (hcs : ¬ (cp = (0 : Int32))) (h3 : ¬ len < 0) (hnn : bs.length ≤ len.toNatClampNeg) (h5 : xs.length + len.toNatClampNeg ≤ (60 : Int32).toNatClampNeg) (h2 : ¬ cnt < 0) (hdp : cnt.toNatClampNeg = xs.length) (hl29 : xs.length ≤ 29) (hcn : cnt + len = (33 : Int32)) :
    MF l Z m_17 jdk_68_method_22_code 3 (some (.object "java/lang/AbstractStringBuilder")) ws (oR 4 1 60 62) #[(.ref a_), (.ref t)] h0 (Q_appG33 Z t tb kt len bs cp a_ v_ kv cnt xs h0 n0) := by
  refine own_body (cls := "java/lang/AbstractStringBuilder") (plainFor_of_name pn_5) rfl (fun p e s m below meth c s₁ hx hby hml hown hnm hret hZ X0 e0 => ?_)
  have N0 := Fr.nil n0
  have K0 := Keep.refl h0 [a_]
  have lt1 := own_l P2.lt
  have lt2 := own_l P3.lt
  have lt3 := own_l P4.lt
  have lt4 := own_l P5.lt
  have lt5 := own_l P6.lt
  have lt6 := own_l P7.lt
  have lt7 := own_l P8.lt
  have lt8 := own_l P9.lt
  have lt9 := own_l P10.lt
  obtain ⟨cq10, kq10, qa10, qb10, qc10⟩ := isOf hZ e0 P2
  obtain ⟨_, _, ⟨T10, L10, k10, n10⟩, -, X10, ⟨Lc10, hQ10, l10, y10, z10⟩, st10⟩ := X0.virtualBack hx (y := m_6) (z := m_6) hown (mvT hZ (w_70 hw)) (mvT hZ (w_71 hw)) (notFace_of_selects (args := #[]) (mvT hZ (w_73 hw))) (mvT hZ (w_73 hw)) (mvT hZ (w_72 hw)) (by decide) (backOf (W := 0) (rm_slen l Z a0 hw [] t tb kt len bs cp h0 n0 (by omega) P0 P1 P2 P3 P4 P5 hcs) hZ (w_74 hw) (w_5 hw) (by decide) (by decide)) qa10 qc10 (g := (mkF m 10 #[vA a_, vA t, .unset] [(.ref t)])) rfl (by rw [hml]; rfl) (Steps.refl _) (argsL := []) (rest := []) (lenOf pd_10 rfl) rfl (Nat.le_of_eq rfl) (hb hby d185) (fun _ _ => ⟨rfl, e0, (by decide : 0 + 0 ≤ _), (by decide : 0 + 0 ≤ _)⟩)
  dsimp only [Pt.U, Pt.locs, Pt.cells, Pt.slots] at X10 l10 y10 z10 st10 hQ10
  rw [l10, y10, z10] at X10
  obtain ⟨rfl, Nq10, Kq10⟩ := hQ10
  have N10 := Fr.app N0 Nq10
  obtain ⟨T11, X11, e11, st11⟩ := getF X10 hx hZ hown (host := "") (Or.inl (w_100 hw)) Via.refl Kq10 P9 (g := (mkF m 16 #[vA a_, vA t, vI len] [(.ref a_), (.ref a_)])) rfl rfl (hb hby d189)
  obtain ⟨cq12, kq12, qa12, qb12, qc12⟩ := isOf hZ e11 P6
  obtain ⟨cc12, ca12, cb12⟩ := P6.cell
  obtain ⟨_, _, ⟨T12, L12, k12, n12⟩, -, X12, ⟨Lc12, hQ12, l12, y12, z12⟩, st12⟩ := X11.privateBack hx (y := m_13) hown (mvT hZ (w_102 hw)) (mvT hZ (w_103 hw)) (mvT hZ (own_selOwn (by decide) (w_103 hw) (Cond.privateMethod_at (w_104 hw)) (w_105 hw))) (Cond.privateMethod_at (mvP hZ (w_104 hw) (args := #[]))) (mvT hZ (w_106 hw)) (by decide) (backOf (W := 0) (rm_ensG33 l Z a0 hw [] a_ v_ kv xs cnt h0 n0 (by omega) P6 P7 P8 P9 P10 (by omega) hl29) hZ (w_106 hw) (w_67 hw) (by decide) (by decide)) (g := (mkF m 21 #[vA a_, vA t, vI len] [(.int 33), (.ref a_)])) rfl (by rw [hml]; rfl) (Steps.refl _) (a := a_) (cell := cc12) (by rw [e11]; exact ca12) cb12 (argsL := [(.int 33)]) (rest := []) (lenOf pd_11 rfl) rfl (Nat.le_of_eq rfl) (hb hby d192) (fun _ _ => ⟨rfl, e11, (by decide : 0 + 1 ≤ _), (by decide : 0 + 60 ≤ _)⟩)
  dsimp only [Pt.U, Pt.locs, Pt.cells, Pt.slots] at X12 l12 y12 z12 st12 hQ12
  rw [l12, y12, z12] at X12
  obtain ⟨x12_b, x12_k, rfl, Nq12, Kq12, r12_0, r12_1, r12_2, r12_3, r12_4, r12_5⟩ := hQ12
  have N12 := Fr.app N10 Nq12
  have z12' := Kq12.1
  have K12 := K0.trans Kq12 (allS (Or.inl (List.mem_of_getElem? (i := 0) rfl)) all0)
  have lt13 := own_l r12_1.lt
  have lt14 := own_l r12_2.lt
  have lt15 := own_l r12_3.lt
  have lt16 := own_l r12_4.lt
  have lt17 := own_l r12_5.lt
  obtain ⟨T18, X18, e18, st18⟩ := getF X12 hx hZ hown (host := "") (Or.inl (w_100 hw)) Via.refl rfl r12_3 (g := (mkF m 26 #[vA a_, vA t, vI len] [(.ref a_), (.ref a_)])) rfl rfl (hb hby d195)
  have f20 := P0.keep Kq12 (allS (by omega) all0)
  have f21 := P2.keep Kq12
  have f22 := P3.keep Kq12 (ninS (fun q => P16 q) nin0)
  have f23 := P4.keep Kq12 (ninS (fun q => P16 q) nin0)
  have f24 := P5.keep Kq12 (ninS (fun q => P15 q) nin0)
  obtain ⟨cq19, kq19, qa19, qb19, qc19⟩ := isOf hZ e18 r12_1
  obtain ⟨cc19, ca19, cb19⟩ := r12_1.cell
  obtain ⟨_, _, ⟨T19, L19, k19, n19⟩, -, X19, ⟨Lc19, hQ19, l19, y19, z19⟩, st19⟩ := X18.privateBack hx (y := m_16) hown (mvT hZ (w_107 hw)) (mvT hZ (w_108 hw)) (mvT hZ (own_selOwn (by decide) (w_108 hw) (Cond.privateMethod_at (w_109 hw)) (w_110 hw))) (Cond.privateMethod_at (mvP hZ (w_109 hw) (args := #[]))) (mvT hZ (w_111 hw)) (by decide) (backOf (W := 0) (rm_putS l Z a0 hw [] t tb kt len bs cp a_ x12_b x12_k ((60 : Int32)) cnt xs T12.heap n0 (by omega) f20 P1 f21 f22 f23 f24 r12_1 r12_4 r12_2 r12_5 (by omega) (own_ne (by omega)) hcs h2 h3 hdp hnn h5) hZ (w_111 hw) (w_67 hw) (by decide) (by decide)) (g := (mkF m 30 #[vA a_, vA t, vI len] [(.ref t), (.int cnt), (.ref a_)])) rfl (by rw [hml]; rfl) (Steps.refl _) (a := a_) (cell := cc19) (by rw [e18]; exact ca19) cb19 (argsL := [(.int cnt), (.ref t)]) (rest := []) (lenOf pd_12 rfl) rfl (Nat.le_of_eq rfl) (hb hby d197) (fun _ _ => ⟨rfl, e18, (by decide : 1 + 0 ≤ _), (by decide : 60 + 0 ≤ _)⟩)
  dsimp only [Pt.U, Pt.locs, Pt.cells, Pt.slots] at X19 l19 y19 z19 st19 hQ19
  rw [l19, y19, z19] at X19
  obtain ⟨rfl, Nq19, Kq19, r19_0, r19_1⟩ := hQ19
  have N19 := Fr.app N12 Nq19
  have z19' := Kq19.1
  have K19 := K12.trans Kq19 (allS (Or.inr (by omega)) all0)
  have lt25 := own_l r19_0.lt
  have f27 := r12_3.keep Kq19 (ninS (own_ne (by omega)) nin0)
  obtain ⟨T26, X26, e26, st26⟩ := getF X19 hx hZ hown (host := "") (Or.inl (w_100 hw)) Via.refl rfl f27 (g := (mkF m 35 #[vA a_, vA t, vI len] [(.ref a_), (.ref a_)])) rfl rfl (hb hby d200)
  have f29 := r12_1.keep Kq19
  obtain ⟨T28, h28, X28, e28, W28, st28⟩ := putF X26 hx hZ hown (host := "") (Or.inl (w_100 hw)) Via.refl e26 f27 f29 (Or.inl (w_101 hw)) (w_57 hw) (ty := .int) (by decide) rfl rfl (g := (mkF m 40 #[vA a_, vA t, vI len] [(.int 33), (.ref a_)])) rfl rfl (hb hby d203)
  have F28 := f27.same W28
  have z28 := W28.size
  have K28 := K19.wr W28 (Or.inl (List.mem_of_getElem? (i := 0) rfl))
  have N28 := Fr.snoc X28 N19 (by omega)
  have f30 := f29.wr W28
  have f31 := r12_4.keep Kq19 (ninS (own_ne (by omega)) nin0)
  have f32 := f31.other W28 (Or.inr (slot_ne (a0 := a0) (t := (.array .byte)) (t' := .int) (Or.inl (w_85 hw)) (Or.inl (w_101 hw)) (by decide) (by decide) (by decide)))
  have f33 := r12_2.keep Kq19 (ninS (own_ne (by omega)) nin0)
  have f34 := f33.other W28 (Or.inr (slot_ne (a0 := a0) (t := .byte) (t' := .int) (Or.inl (w_83 hw)) (Or.inl (w_101 hw)) (by decide) (by decide) (by decide)))
  have f35 := r19_0.other W28 (own_ne (by omega))
  have f36 := r19_1.wr W28 (by omega)
  refine ⟨_, _, _, _, some (.ref a_), X28, by decide, by decide, nofun, ?_, fun fs hr => castTop (ef_10 m a_ t) ?_⟩
  · show Q_appG33 Z t tb kt len bs cp a_ v_ kv cnt xs h0 n0 _ T28.heap _
    rw [(e28 : T28.heap = h28)]
    exact ⟨x12_b, x12_k, rfl, N28, K28, (by omega), f30, f32, f34, F28, f35, f36⟩
  · show Steps _ _ _ (s₁.setTop (mkF m 0 #[vA a_, vA t, .unset] [])) _
    refine XS.aloadN X0.here hx rfl (hb hby d182) rfl rfl ?_
    refine XS.ifnonnullYes X0.here hx rfl (pc0 := 1) (pc' := 9) rfl (hb hby d183) rfl (by decide) (by decide) ?_
    refine XS.aloadN X0.here hx rfl (hb hby d184) rfl rfl ?_
    refine st10.trans ?_
    show Steps _ _ _ (T10.setTop (mkF m 13 #[vA a_, vA t, .unset] [(.int len)])) _
    refine XS.istoreN X10.here hx rfl (hb hby d186) rfl (l' := #[vA a_, vA t, vI len]) rfl ?_
    refine XS.aloadN X10.here hx rfl (hb hby d187) rfl rfl ?_
    refine XS.aloadN X10.here hx rfl (hb hby d188) rfl rfl ?_
    refine st11 _ ?_
    show Steps _ _ _ (T11.setTop (mkF m 19 #[vA a_, vA t, vI len] [(.int cnt), (.ref a_)])) _
    refine XS.iloadN X11.here hx rfl (hb hby d190) rfl ?_
    refine XS.iadd X11.here hx rfl (hb hby d191) rfl ?_
    show Steps _ _ _ (T11.setTop (mkF m 21 #[vA a_, vA t, vI len] [(.int (cnt + len)), (.ref a_)])) _
    rw [hcn]
    show Steps _ _ _ (T11.setTop (mkF m 21 #[vA a_, vA t, vI len] [(.int 33), (.ref a_)])) _
    refine st12.trans ?_
    show Steps _ _ _ (T12.setTop (mkF m 24 #[vA a_, vA t, vI len] [])) _
    refine XS.aloadN X12.here hx rfl (hb hby d193) rfl rfl ?_
    refine XS.aloadN X12.here hx rfl (hb hby d194) rfl rfl ?_
    refine st18 _ ?_
    show Steps _ _ _ (T18.setTop (mkF m 29 #[vA a_, vA t, vI len] [(.int cnt), (.ref a_)])) _
    refine XS.aloadN X18.here hx rfl (hb hby d196) rfl rfl ?_
    refine st19.trans ?_
    show Steps _ _ _ (T19.setTop (mkF m 33 #[vA a_, vA t, vI len] [])) _
    refine XS.aloadN X19.here hx rfl (hb hby d198) rfl rfl ?_
    refine XS.dup X19.here hx rfl (hb hby d199) rfl rfl ?_
    refine st26 _ ?_
    show Steps _ _ _ (T26.setTop (mkF m 38 #[vA a_, vA t, vI len] [(.int cnt), (.ref a_)])) _
    refine XS.iloadN X26.here hx rfl (hb hby d201) rfl ?_
    refine XS.iadd X26.here hx rfl (hb hby d202) rfl ?_
    show Steps _ _ _ (T26.setTop (mkF m 40 #[vA a_, vA t, vI len] [(.int (cnt + len)), (.ref a_)])) _
    rw [hcn]
    show Steps _ _ _ (T26.setTop (mkF m 40 #[vA a_, vA t, vI len] [(.int 33), (.ref a_)])) _
    refine st28 _ ?_
    show Steps _ _ _ (T28.setTop (mkF m 43 #[vA a_, vA t, vI len] [])) _
    refine XS.aloadN X28.here hx rfl (hb hby d204) rfl rfl ?_
    exact retOut X28 hx hret (own_narrow_ref rfl) (Or.inr (Or.inr (Or.inr (Or.inr ⟨rfl, rfl, rfl⟩)))) (hb hby d205) hr
def Q_apsG33 (Z : State) (t : Addr) (tb : Addr) (kt : ClassId) (len : Int32) (bs : List Value) (cp : Int32) (a_ : Addr) (v_ : Addr) (kv : ClassId) (cnt : Int32) (xs : List Value) (h0 : Heap) (n0 : Nat) (v : Option Value) (h : Heap) (L : List Loc) : Prop := ∃ (b : Addr) (k : ClassId), (v = some (.ref a_)) ∧ (Fr n0 L) ∧ (Keep h0 h [a_]) ∧ (h0.size ≤ b) ∧ (Exa Z h a_ "java/lang/StringBuilder") ∧ (fld2 Z h a_ (.ref b)) ∧ (fld3 Z h a_ (.int 0)) ∧ (fld4 Z h a_ (.int 33)) ∧ (Arv Z h b k .byte (60 : Int32) (xs ++ bs) (.int 0)) ∧ (Old Z n0 h)
theorem rm_apsG33 (l : Launch) (Z : State) (a0 : Array Value) (hw : HW Z a0) (ws : List Jvm.Cond) (t : Addr) (tb : Addr) (kt : ClassId) (len : Int32) (bs : List Value) (cp : Int32) (a_ : Addr) (v_ : Addr) (kv : ClassId) (cnt : Int32) (xs : List Value) (h0 : Heap) (n0 : Nat) (Z0 : n0 ≤ h0.size) (P0 : Old Z n0 h0) (P1 : sta0 Z (.int cp)) (P2 : Exa Z h0 t "java/lang/String") (P3 : fld1 Z h0 t (.int 0)) (P4 : fld0 Z h0 t (.ref tb)) (P5 : Arv Z h0 tb kt .byte len bs (.int 0)) (P6 : Exa Z h0 a_ "java/lang/StringBuilder") (P7 : fld2 Z h0 a_ (.ref v_)) (P8 : fld3 Z h0 a_ (.int 0)) (P9 : fld4 Z h0 a_ (.int cnt)) (P10 : Arv Z h0 v_ kv .byte (29 : Int32) xs (.int 0)) (P11 : n0 ≤ a_) (P12 : n0 ≤ v_) (P13 : tb ≠ v_) (P14 : a_ ≠ v_) (P15 : tb ≠ a_) (P16 : t ≠ a_) (hcs : ¬ (cp = (0 : Int32))) (h3 : ¬ len < 0) (hnn : bs.length ≤ len.toNatClampNeg) (h5 : xs.length + len.toNatClampNeg ≤ (60 : Int32).toNatClampNeg) (h2 : ¬ cnt < 0) (hdp : cnt.toNatClampNeg = xs.length) (hl29 : xs.length ≤ 29) (hcn : cnt + len = (33 : Int32)) :
    MF l Z m_18 jdk_67_method_7_code 2 (some (.object "java/lang/StringBuilder")) ws (oR 5 1 60 76) #[(.ref a_), (.ref t)] h0 (Q_apsG33 Z t tb kt len bs cp a_ v_ kv cnt xs h0 n0) := by
  refine own_body (cls := "java/lang/StringBuilder") (plainFor_of_name pn_7) rfl (fun p e s m below meth c s₁ hx hby hml hown hnm hret hZ X0 e0 => ?_)
  have N0 := Fr.nil n0
  have K0 := Keep.refl h0 [a_]
  have lt1 := own_l P2.lt
  have lt2 := own_l P3.lt
  have lt3 := own_l P4.lt
  have lt4 := own_l P5.lt
  have lt5 := own_l P6.lt
  have lt6 := own_l P7.lt
  have lt7 := own_l P8.lt
  have lt8 := own_l P9.lt
  have lt9 := own_l P10.lt
  obtain ⟨_, _, ⟨T10, L10, k10, n10⟩, -, X10, ⟨Lc10, hQ10, l10, y10, z10⟩, st10⟩ := superBack X0 hx hZ (y := m_17) hown (w_97 hw) (own_sameOwn (by decide) (w_88 hw) (w_103 hw) (notFace_of_selects (args := a0) (w_105 hw)) rfl) (w_88 hw) (w_98 hw) (by decide) (backOf (W := 0) (rm_appG33 l Z a0 hw [] t tb kt len bs cp a_ v_ kv cnt xs h0 n0 (by omega) P0 P1 P2 P3 P4 P5 P6 P7 P8 P9 P10 (by omega) (by omega) (fun q => P13 q) (fun q => P14 q) (fun q => P15 q) (fun q => P16 q) hcs h3 hnn h5 h2 hdp hl29 hcn) hZ (w_99 hw) (w_67 hw) (by decide) (by decide)) e0 (Ins.self P6) (g := (mkF m 2 #[vA a_, vA t] [(.ref t), (.ref a_)])) rfl (by rw [hml]; rfl) (w_99 hw) (argsL := [(.ref t)]) (rest := []) (lenOf pd_13 rfl) rfl (Nat.le_of_eq rfl) (hb hby d208) (fun _ _ => ⟨rfl, e0, (by decide : 0 + 1 ≤ _), (by decide : 0 + 60 ≤ _)⟩)
  dsimp only [Pt.U, Pt.locs, Pt.cells, Pt.slots] at X10 l10 y10 z10 st10 hQ10
  rw [l10, y10, z10] at X10
  obtain ⟨x10_b, x10_k, rfl, Nq10, Kq10, r10_0, r10_1, r10_2, r10_3, r10_4, r10_5, r10_6⟩ := hQ10
  have N10 := Fr.app N0 Nq10
  have z10' := Kq10.1
  have K10 := K0.trans Kq10 (allS (Or.inl (List.mem_of_getElem? (i := 0) rfl)) all0)
  have lt11 := own_l r10_1.lt
  have lt12 := own_l r10_2.lt
  have lt13 := own_l r10_3.lt
  have lt14 := own_l r10_4.lt
  have lt15 := own_l r10_5.lt
  refine ⟨_, _, _, _, some (.ref a_), X10, by decide, by decide, nofun, ?_, fun fs hr => castTop (ef_7 m a_ t) ?_⟩
  · show Q_apsG33 Z t tb kt len bs cp a_ v_ kv cnt xs h0 n0 _ T10.heap _
    exact ⟨x10_b, x10_k, rfl, N10, K10, (by omega), r10_1, r10_2, r10_3, r10_4, r10_5, r10_6⟩
  · show Steps _ _ _ (s₁.setTop (mkF m 0 #[vA a_, vA t] [])) _
    refine XS.aloadN X0.here hx rfl (hb hby d206) rfl rfl ?_
    refine XS.aloadN X0.here hx rfl (hb hby d207) rfl rfl ?_
    refine st10.trans ?_
    show Steps _ _ _ (T10.setTop (mkF m 5 #[vA a_, vA t] [(.ref a_)])) _
    refine XS.pop X10.here hx rfl (hb hby d209) rfl rfl ?_
    refine XS.aloadN X10.here hx rfl (hb hby d210) rfl rfl ?_
    exact retOut X10 hx hret (own_narrow_ref rfl) (Or.inr (Or.inr (Or.inr (Or.inr ⟨rfl, rfl, rfl⟩)))) (hb hby d211) hr
theorem d216 : decode jdk_68_method_68_code 0 = .ok (.getstatic 18, 3) := by decide +kernel
theorem d217 : decode jdk_68_method_68_code 3 = .ok (.ifCond .eq 14, 3) := by decide +kernel
theorem d218 : decode jdk_68_method_68_code 6 = .ok (.aload_n 0, 1) := by decide +kernel
theorem d219 : decode jdk_68_method_68_code 7 = .ok (.getfield 22, 3) := by decide +kernel
theorem d220 : decode jdk_68_method_68_code 10 = .ok (.ifCond .ne 7, 3) := by decide +kernel
theorem d221 : decode jdk_68_method_68_code 13 = .ok (.iconst 1, 1) := by decide +kernel
theorem d222 : decode jdk_68_method_68_code 14 = .ok (.goto 4, 3) := by decide +kernel
theorem d223 : decode jdk_68_method_68_code 18 = .ok (.ireturn, 1) := by decide +kernel
abbrev m_20 : MethodName := (⟨"java/lang/AbstractStringBuilder", "isLatin1", "()Z"⟩ : MethodName)
def Q_isL (Z : State) (a_ : Addr) (cp : Int32) (h0 : Heap) (n0 : Nat) (v : Option Value) (h : Heap) (L : List Loc) : Prop := (v = some (.int 1)) ∧ (Fr n0 L) ∧ (h = h0)
theorem rm_isL (l : Launch) (Z : State) (a0 : Array Value) (hw : HW Z a0) (ws : List Jvm.Cond) (a_ : Addr) (cp : Int32) (h0 : Heap) (n0 : Nat) (Z0 : n0 ≤ h0.size) (P0 : Old Z n0 h0) (P1 : sta0 Z (.int cp)) (P2 : fld3 Z h0 a_ (.int 0)) (hcs : ¬ (cp = (0 : Int32))) :
    MF l Z m_20 jdk_68_method_68_code 1 (some .boolean) ws (oR 0 0 0 0) #[(.ref a_)] h0 (Q_isL Z a_ cp h0 n0) := by
  refine own_body (cls := "java/lang/AbstractStringBuilder") (plainFor_of_name pn_5) rfl (fun p e s m below meth c s₁ hx hby hml hown hnm hret hZ X0 e0 => ?_)
  have N0 := Fr.nil n0
  have lt1 := own_l P2.lt
  obtain ⟨T2, X2, e2, st2⟩ := getS2 X0 hx hZ hown (host := "") (Or.inl (w_117 hw)) Via.refl e0 (P1.ext P0.2) (g := (mkF m 0 #[vA a_] [])) rfl (hb hby d216)
  obtain ⟨T3, X3, e3, st3⟩ := getF X2 hx hZ hown (host := "") (Or.inl (w_82 hw)) Via.refl e2 P2 (g := (mkF m 7 #[vA a_] [(.ref a_)])) rfl rfl (hb hby d219)
  refine ⟨_, _, _, _, some (.int 1), X3, by decide, by decide, nofun, ?_, fun fs hr => castTop (ef_2 m a_) ?_⟩
  · show Q_isL Z a_ cp h0 n0 _ T3.heap _
    rw [(e3 : T3.heap = h0)]
    exact ⟨rfl, N0, rfl⟩
  · show Steps _ _ _ (s₁.setTop (mkF m 0 #[vA a_] [])) _
    refine st2 _ ?_
    show Steps _ _ _ (T2.setTop (mkF m 3 #[vA a_] [(.int cp)])) _
    refine XS.ifNo X2.here hx rfl (hb hby d217) rfl ((if0 _ _).trans (feq (hcs : ¬ (cp = (0 : Int32)))).1) ?_
    refine XS.aloadN X2.here hx rfl (hb hby d218) rfl rfl ?_
    refine st3 _ ?_
    show Steps _ _ _ (T3.setTop (mkF m 10 #[vA a_] [(.int 0)])) _
    refine XS.ifNo X3.here hx rfl (hb hby d220) rfl ((if0 _ _).trans (teq ((by decide) : (0 : Int32) = (0 : Int32))).2) ?_
    refine XS.iconst X3.here hx rfl (hb hby d221) ?_
    refine XS.goto X3.here hx rfl (pc0 := 14) (pc' := 18) rfl (hb hby d222) (by decide) (by decide) ?_
    exact retN X3 hx (t := .boolean) hret (by simp) (hb hby d223) hr
theorem d224 : decode jdk_68_method_31_code 0 = .ok (.aload_n 0, 1) := by decide +kernel
theorem d225 : decode jdk_68_method_31_code 1 = .ok (.aload_n 0, 1) := by decide +kernel
theorem d226 : decode jdk_68_method_31_code 2 = .ok (.getfield 79, 3) := by decide +kernel
theorem d227 : decode jdk_68_method_31_code 5 = .ok (.iconst 1, 1) := by decide +kernel
theorem d228 : decode jdk_68_method_31_code 6 = .ok (.iadd, 1) := by decide +kernel
theorem d229 : decode jdk_68_method_31_code 7 = .ok (.invokevirtual 100, 3) := by decide +kernel
theorem d230 : decode jdk_68_method_31_code 10 = .ok (.aload_n 0, 1) := by decide +kernel
theorem w_138 {Z : State} {a0 : Array Value} (hw : HW Z a0) : (Jvm.Cond.methodLink "java/lang/AbstractStringBuilder" (83 : Nat) m_20).before a0 Z = true := hw _ (List.mem_of_getElem? (i := 138) rfl)
theorem w_142 {Z : State} {a0 : Array Value} (hw : HW Z a0) : (Jvm.Cond.code m_20 jdk_68_method_68_code (1 : Nat) (Option.some FieldType.boolean)).before a0 Z = true := hw _ (List.mem_of_getElem? (i := 142) rfl)
theorem pd_15 : parseMethodDescriptor "()Z" = some ⟨[], some .boolean⟩ := by decide +kernel
theorem d231 : decode jdk_68_method_31_code 11 = .ok (.invokevirtual 83, 3) := by decide +kernel
theorem w_141 {Z : State} {a0 : Array Value} (hw : HW Z a0) : (Jvm.Cond.selects "java/lang/StringBuilder" m_20 m_20).before a0 Z = true := hw _ (List.mem_of_getElem? (i := 141) rfl)
theorem w_139 {Z : State} {a0 : Array Value} (hw : HW Z a0) : (Jvm.Cond.declares m_20).before a0 Z = true := hw _ (List.mem_of_getElem? (i := 139) rfl)
theorem w_140 {Z : State} {a0 : Array Value} (hw : HW Z a0) : (Jvm.Cond.instanceMethod m_20).before a0 Z = true := hw _ (List.mem_of_getElem? (i := 140) rfl)
theorem d232 : decode jdk_68_method_31_code 14 = .ok (.ifCond .eq 31, 3) := by decide +kernel
theorem d233 : decode jdk_68_method_31_code 17 = .ok (.iload_n 1, 1) := by decide +kernel
theorem w_143 {Z : State} {a0 : Array Value} (hw : HW Z a0) : (Jvm.Cond.methodLink "java/lang/AbstractStringBuilder" (191 : Nat) m_0).before a0 Z = true := hw _ (List.mem_of_getElem? (i := 143) rfl)
theorem d234 : decode jdk_68_method_31_code 18 = .ok (.invokestatic 191, 3) := by decide +kernel
theorem d235 : decode jdk_68_method_31_code 21 = .ok (.ifCond .eq 24, 3) := by decide +kernel
theorem d236 : decode jdk_68_method_31_code 24 = .ok (.aload_n 0, 1) := by decide +kernel
theorem d237 : decode jdk_68_method_31_code 25 = .ok (.getfield 15, 3) := by decide +kernel
theorem d238 : decode jdk_68_method_31_code 28 = .ok (.aload_n 0, 1) := by decide +kernel
theorem d239 : decode jdk_68_method_31_code 29 = .ok (.dup, 1) := by decide +kernel
theorem d240 : decode jdk_68_method_31_code 30 = .ok (.getfield 79, 3) := by decide +kernel
theorem d241 : decode jdk_68_method_31_code 33 = .ok (.dup_x1, 1) := by decide +kernel
theorem d242 : decode jdk_68_method_31_code 34 = .ok (.iconst 1, 1) := by decide +kernel
theorem d243 : decode jdk_68_method_31_code 35 = .ok (.iadd, 1) := by decide +kernel
theorem d244 : decode jdk_68_method_31_code 36 = .ok (.putfield 79, 3) := by decide +kernel
theorem d245 : decode jdk_68_method_31_code 39 = .ok (.iload_n 1, 1) := by decide +kernel
theorem d246 : decode jdk_68_method_31_code 40 = .ok (.i2b, 1) := by decide +kernel
theorem d247 : decode jdk_68_method_31_code 41 = .ok (.bastore, 1) := by decide +kernel
theorem d248 : decode jdk_68_method_31_code 42 = .ok (.goto 33, 3) := by decide +kernel
theorem d249 : decode jdk_68_method_31_code 75 = .ok (.aload_n 0, 1) := by decide +kernel
theorem d250 : decode jdk_68_method_31_code 76 = .ok (.areturn, 1) := by decide +kernel
theorem ef_11 (m : MethodId) (x0 : Addr) (x1 : Int32) : entryFrame m #[(.ref x0), (.int x1)] 2 = mkF m 0 #[vA x0, vI x1] [] := by first | (simp [entryFrame, mkF, argsToLocals, Value.category, maxLocals]; done) | rfl
abbrev m_21 : MethodName := (⟨"java/lang/AbstractStringBuilder", "append", "(C)Ljava/lang/AbstractStringBuilder;"⟩ : MethodName)
def Q_apcN (Z : State) (q : Int32) (cp : Int32) (a_ : Addr) (v_ : Addr) (kv : ClassId) (N : Int32) (cnt : Int32) (xs : List Value) (cn : Int32) (h0 : Heap) (n0 : Nat) (v : Option Value) (h : Heap) (L : List Loc) : Prop := (v = some (.ref a_)) ∧ (Fr n0 L) ∧ (Keep h0 h [a_, v_]) ∧ (Exa Z h a_ "java/lang/StringBuilder") ∧ (fld2 Z h a_ (.ref v_)) ∧ (fld3 Z h a_ (.int 0)) ∧ (fld4 Z h a_ (.int cn)) ∧ (Arv Z h v_ kv .byte N (xs ++ [(.int (oB q))]) (.int 0)) ∧ (Old Z n0 h)
theorem rm_apcN (l : Launch) (Z : State) (a0 : Array Value) (hw : HW Z a0) (ws : List Jvm.Cond) (q : Int32) (cp : Int32) (a_ : Addr) (v_ : Addr) (kv : ClassId) (N : Int32) (cnt : Int32) (xs : List Value) (cn : Int32) (h0 : Heap) (n0 : Nat) (Z0 : n0 ≤ h0.size) (P0 : Old Z n0 h0) (P1 : sta0 Z (.int cp)) (P2 : Exa Z h0 a_ "java/lang/StringBuilder") (P3 : fld2 Z h0 a_ (.ref v_)) (P4 : fld3 Z h0 a_ (.int 0)) (P5 : fld4 Z h0 a_ (.int cnt)) (P6 : Arv Z h0 v_ kv .byte N xs (.int 0)) (P7 : n0 ≤ a_) (P8 : n0 ≤ v_) (P9 : a_ ≠ v_) (hcs : ¬ (cp = (0 : Int32))) (hlo : ¬ ((255 : Int32) < q)) (h2 : ¬ cnt < 0) (hdp : cnt.toNatClampNeg = xs.length) (hng : ¬ ((0 : Int32) < (cn - N))) (hcn : cnt + (1 : Int32) = cn) (hin : cnt < N) :
    MF l Z m_21 jdk_68_method_31_code 2 (some (.object "java/lang/AbstractStringBuilder")) ws (oR 1 0 0 14) #[(.ref a_), (.int q)] h0 (Q_apcN Z q cp a_ v_ kv N cnt xs cn h0 n0) := by
  refine own_body (cls := "java/lang/AbstractStringBuilder") (plainFor_of_name pn_5) rfl (fun p e s m below meth c s₁ hx hby hml hown hnm hret hZ X0 e0 => ?_)
  have N0 := Fr.nil n0
  have K0 := Keep.refl h0 [a_, v_]
  have lt1 := own_l P2.lt
  have lt2 := own_l P3.lt
  have lt3 := own_l P4.lt
  have lt4 := own_l P5.lt
  have lt5 := own_l P6.lt
  obtain ⟨T6, X6, e6, st6⟩ := getF X0 hx hZ hown (host := "") (Or.inl (w_100 hw)) Via.refl e0 P5 (g := (mkF m 2 #[vA a_, vI q] [(.ref a_), (.ref a_)])) rfl rfl (hb hby d226)
  obtain ⟨cq7, kq7, qa7, qb7, qc7⟩ := isOf hZ e6 P2
  obtain ⟨cc7, ca7, cb7⟩ := P2.cell
  obtain ⟨_, _, ⟨T7, L7, k7, n7⟩, -, X7, ⟨Lc7, hQ7, l7, y7, z7⟩, st7⟩ := X6.privateBack hx (y := m_13) hown (mvT hZ (w_102 hw)) (mvT hZ (w_103 hw)) (mvT hZ (own_selOwn (by decide) (w_103 hw) (Cond.privateMethod_at (w_104 hw)) (w_105 hw))) (Cond.privateMethod_at (mvP hZ (w_104 hw) (args := #[]))) (mvT hZ (w_106 hw)) (by decide) (backOf (W := 0) (rm_ensN l Z a0 hw [] a_ v_ kv N xs cn h0 n0 (by omega) P3 P4 P6 hng) hZ (w_106 hw) (w_67 hw) (by decide) (by decide)) (g := (mkF m 7 #[vA a_, vI q] [(.int cn), (.ref a_)])) rfl (by rw [hml]; rfl) (Steps.refl _) (a := a_) (cell := cc7) (by rw [e6]; exact ca7) cb7 (argsL := [(.int cn)]) (rest := []) (lenOf pd_11 rfl) rfl (Nat.le_of_eq rfl) (hb hby d229) (fun _ _ => ⟨rfl, e6, (by decide : 0 + 0 ≤ _), (by decide : 0 + 0 ≤ _)⟩)
  dsimp only [Pt.U, Pt.locs, Pt.cells, Pt.slots] at X7 l7 y7 z7 st7 hQ7
  rw [l7, y7, z7] at X7
  obtain ⟨rfl, Nq7, Kq7⟩ := hQ7
  have N7 := Fr.app N0 Nq7
  obtain ⟨cq8, kq8, qa8, qb8, qc8⟩ := isOf hZ Kq7 P2
  obtain ⟨_, _, ⟨T8, L8, k8, n8⟩, -, X8, ⟨Lc8, hQ8, l8, y8, z8⟩, st8⟩ := X7.virtualBack hx (y := m_20) (z := m_20) hown (mvT hZ (w_138 hw)) (mvT hZ (w_139 hw)) (notFace_of_selects (args := #[]) (mvT hZ (w_141 hw))) (mvT hZ (w_141 hw)) (mvT hZ (w_140 hw)) (by decide) (backOf (W := 0) (rm_isL l Z a0 hw [] a_ cp h0 n0 (by omega) P0 P1 P4 hcs) hZ (w_142 hw) (w_67 hw) (by decide) (by decide)) qa8 qc8 (g := (mkF m 11 #[vA a_, vI q] [(.ref a_)])) rfl (by rw [hml]; rfl) (Steps.refl _) (argsL := []) (rest := []) (lenOf pd_15 rfl) rfl (Nat.le_of_eq rfl) (hb hby d231) (fun _ _ => ⟨rfl, Kq7, (by decide : 0 + 0 ≤ _), (by decide : 0 + 0 ≤ _)⟩)
  dsimp only [Pt.U, Pt.locs, Pt.cells, Pt.slots] at X8 l8 y8 z8 st8 hQ8
  rw [l8, y8, z8] at X8
  obtain ⟨rfl, Nq8, Kq8⟩ := hQ8
  have N8 := Fr.app N7 Nq8
  obtain ⟨_, _, ⟨T9, L9, k9, n9⟩, -, X9, ⟨Lc9, hQ9, l9, y9, z9⟩, st9⟩ := Jvm.LawKit.callS X8 hx (y := m_0) hown (mvT hZ (w_143 hw)) (mvT hZ (w_9 hw)) (mvT hZ (w_10 hw)) (mvT hZ (w_11 hw)) (by decide) (backOf (W := 0) (rm_canEnc l Z a0 hw [] q h0 n0 (by omega) hlo) hZ (w_11 hw) (w_10 hw) (by decide) (by decide)) (g := (mkF m 18 #[vA a_, vI q] [(.int q)])) rfl (by rw [hml]; rfl) (argsL := [(.int q)]) (rest := []) (lenOf pd_0 rfl) rfl (Nat.le_of_eq rfl) (hb hby d234) (fun _ _ => ⟨rfl, Kq8, (by decide : 0 + 0 ≤ _), (by decide : 0 + 0 ≤ _)⟩)
  dsimp only [Pt.U, Pt.locs, Pt.cells, Pt.slots] at X9 l9 y9 z9 st9 hQ9
  rw [l9, y9, z9] at X9
  obtain ⟨rfl, Nq9, Kq9⟩ := hQ9
  have N9 := Fr.app N8 Nq9
  obtain ⟨T10, X10, e10, st10⟩ := getF X9 hx hZ hown (host := "") (Or.inl (w_84 hw)) Via.refl Kq9 P3 (g := (mkF m 25 #[vA a_, vI q] [(.ref a_)])) rfl rfl (hb hby d237)
  obtain ⟨T11, X11, e11, st11⟩ := getF X10 hx hZ hown (host := "") (Or.inl (w_100 hw)) Via.refl e10 P5 (g := (mkF m 30 #[vA a_, vI q] [(.ref a_), (.ref a_), (.ref v_)])) rfl rfl (hb hby d240)
  obtain ⟨T12, h12, X12, e12, W12, st12⟩ := putF X11 hx hZ hown (host := "") (Or.inl (w_100 hw)) Via.refl e11 P5 P2 (Or.inl (w_101 hw)) (w_57 hw) (ty := .int) (by decide) rfl rfl (g := (mkF m 36 #[vA a_, vI q] [(.int cn), (.ref a_), (.int cnt), (.ref v_)])) rfl rfl (hb hby d244)
  have F12 := P5.same W12
  have z12 := W12.size
  have K12 := K0.wr W12 (Or.inl (List.mem_of_getElem? (i := 0) rfl))
  have N12 := Fr.snoc X12 N9 (by omega)
  have f14 := P6.other W12 (fun q => P9 q.symm)
  obtain ⟨cl13, Ar13, q13, S13, M13, H13, G13⟩ := f14.pad (vs' := xs ++ [(.int 0)]) (pad_rep xs (.int 0) 1)
  have hin13 : ¬ (cnt < 0 ∨ cl13.slots.size ≤ (cnt).toNatClampNeg) := inb_of S13 ⟨h2, hin⟩
  obtain ⟨T13, h13, X13, e13, W13, st13⟩ := stB X12 hx hZ e12 Ar13 (j := cnt) hin13 (g := (mkF m 41 #[vA a_, vI q] [(.int (q.toInt8.toInt32)), (.int cnt), (.ref v_)])) rfl rfl (hb hby d247)
  have V13 : Arv Z h13 v_ kv .byte N (xs ++ [(.int (nar .byte (q.toInt8.toInt32)))]) (.int 0) := own_snoc xs (.int 0) _ ▸ Arv.set Ar13 q13 S13 M13 H13 G13 (fits_nar_byte (q.toInt8.toInt32)) W13 xs.length hdp (by simp)
  have z13 := W13.size
  have K13 := K12.wr W13 (Or.inl (List.mem_of_getElem? (i := 1) rfl))
  have N13 := Fr.snoc X13 N12 (by omega)
  have Vq : Arv Z h13 v_ kv .byte N (xs ++ [(.int (oB q))]) (.int 0) := by have vq := V13; rw [own_nb] at vq; exact vq
  have f15 := P2.wr W12
  have f16 := f15.wr W13
  have f17 := P3.other W12 (Or.inr (slot_ne (a0 := a0) (t := (.array .byte)) (t' := .int) (Or.inl (w_85 hw)) (Or.inl (w_101 hw)) (by decide) (by decide) (by decide)))
  have f18 := f17.other W13 (Or.inl (fun q => P9 q))
  have f19 := P4.other W12 (Or.inr (slot_ne (a0 := a0) (t := .byte) (t' := .int) (Or.inl (w_83 hw)) (Or.inl (w_101 hw)) (by decide) (by decide) (by decide)))
  have f20 := f19.other W13 (Or.inl (fun q => P9 q))
  have f21 := F12.other W13 (Or.inl (fun q => P9 q))
  have f22 := P0.wr W12 (by omega)
  have f23 := f22.wr W13 (by omega)
  refine ⟨_, _, _, _, some (.ref a_), X13, by decide, by decide, nofun, ?_, fun fs hr => castTop (ef_11 m a_ q) ?_⟩
  · show Q_apcN Z q cp a_ v_ kv N cnt xs cn h0 n0 _ T13.heap _
    rw [(e13 : T13.heap = h13)]
    exact ⟨rfl, N13, K13, f16, f18, f20, f21, Vq, f23⟩
  · show Steps _ _ _ (s₁.setTop (mkF m 0 #[vA a_, vI q] [])) _
    refine XS.aloadN X0.here hx rfl (hb hby d224) rfl rfl ?_
    refine XS.aloadN X0.here hx rfl (hb hby d225) rfl rfl ?_
    refine st6 _ ?_
    show Steps _ _ _ (T6.setTop (mkF m 5 #[vA a_, vI q] [(.int cnt), (.ref a_)])) _
    refine XS.iconst X6.here hx rfl (hb hby d227) ?_
    refine XS.iadd X6.here hx rfl (hb hby d228) rfl ?_
    show Steps _ _ _ (T6.setTop (mkF m 7 #[vA a_, vI q] [(.int (cnt + (1 : Int32))), (.ref a_)])) _
    rw [hcn]
    show Steps _ _ _ (T6.setTop (mkF m 7 #[vA a_, vI q] [(.int cn), (.ref a_)])) _
    refine st7.trans ?_
    show Steps _ _ _ (T7.setTop (mkF m 10 #[vA a_, vI q] [])) _
    refine XS.aloadN X7.here hx rfl (hb hby d230) rfl rfl ?_
    refine st8.trans ?_
    show Steps _ _ _ (T8.setTop (mkF m 14 #[vA a_, vI q] [(.int 1)])) _
    refine XS.ifNo X8.here hx rfl (hb hby d232) rfl ((if0 _ _).trans (feq ((by decide) : ¬ ((1 : Int32) = (0 : Int32)))).1) ?_
    refine XS.iloadN X8.here hx rfl (hb hby d233) rfl ?_
    refine st9 _ ?_
    show Steps _ _ _ (T9.setTop (mkF m 21 #[vA a_, vI q] [(.int 1)])) _
    refine XS.ifNo X9.here hx rfl (hb hby d235) rfl ((if0 _ _).trans (feq ((by decide) : ¬ ((1 : Int32) = (0 : Int32)))).1) ?_
    refine XS.aloadN X9.here hx rfl (hb hby d236) rfl rfl ?_
    refine st10 _ ?_
    show Steps _ _ _ (T10.setTop (mkF m 28 #[vA a_, vI q] [(.ref v_)])) _
    refine XS.aloadN X10.here hx rfl (hb hby d238) rfl rfl ?_
    refine XS.dup X10.here hx rfl (hb hby d239) rfl rfl ?_
    refine st11 _ ?_
    show Steps _ _ _ (T11.setTop (mkF m 33 #[vA a_, vI q] [(.int cnt), (.ref a_), (.ref v_)])) _
    refine XS.dupX1 X11.here hx rfl (hb hby d241) rfl rfl rfl ?_
    refine XS.iconst X11.here hx rfl (hb hby d242) ?_
    refine XS.iadd X11.here hx rfl (hb hby d243) rfl ?_
    show Steps _ _ _ (T11.setTop (mkF m 36 #[vA a_, vI q] [(.int (cnt + (1 : Int32))), (.ref a_), (.int cnt), (.ref v_)])) _
    rw [hcn]
    show Steps _ _ _ (T11.setTop (mkF m 36 #[vA a_, vI q] [(.int cn), (.ref a_), (.int cnt), (.ref v_)])) _
    refine st12 _ ?_
    show Steps _ _ _ (T12.setTop (mkF m 39 #[vA a_, vI q] [(.int cnt), (.ref v_)])) _
    refine XS.iloadN X12.here hx rfl (hb hby d245) rfl ?_
    refine XS.i2b X12.here hx rfl (hb hby d246) rfl ?_
    refine st13 _ ?_
    show Steps _ _ _ (T13.setTop (mkF m 42 #[vA a_, vI q] [])) _
    refine XS.goto X13.here hx rfl (pc0 := 42) (pc' := 75) rfl (hb hby d248) (by decide) (by decide) ?_
    refine XS.aloadN X13.here hx rfl (hb hby d249) rfl rfl ?_
    exact retOut X13 hx hret (own_narrow_ref rfl) (Or.inr (Or.inr (Or.inr (Or.inr ⟨rfl, rfl, rfl⟩)))) (hb hby d250) hr
theorem d251 : decode jdk_67_method_14_code 0 = .ok (.aload_n 0, 1) := by decide +kernel
theorem d252 : decode jdk_67_method_14_code 1 = .ok (.iload_n 1, 1) := by decide +kernel
theorem w_134 {Z : State} {a0 : Array Value} (hw : HW Z a0) : (Jvm.Cond.methodLink "java/lang/StringBuilder" (50 : Nat) m_21).before a0 Z = true := hw _ (List.mem_of_getElem? (i := 134) rfl)
theorem w_137 {Z : State} {a0 : Array Value} (hw : HW Z a0) : (Jvm.Cond.code m_21 jdk_68_method_31_code (2 : Nat) (Option.some (FieldType.object "java/lang/AbstractStringBuilder"))).before a0 Z = true := hw _ (List.mem_of_getElem? (i := 137) rfl)
theorem pd_16 : parseMethodDescriptor "(C)Ljava/lang/AbstractStringBuilder;" = some ⟨[.char], some (.object "java/lang/AbstractStringBuilder")⟩ := by decide +kernel
theorem d253 : decode jdk_67_method_14_code 2 = .ok (.invokespecial 50, 3) := by decide +kernel
theorem w_135 {Z : State} {a0 : Array Value} (hw : HW Z a0) : (Jvm.Cond.instanceMethod m_21).before a0 Z = true := hw _ (List.mem_of_getElem? (i := 135) rfl)
theorem d254 : decode jdk_67_method_14_code 5 = .ok (.pop, 1) := by decide +kernel
theorem d255 : decode jdk_67_method_14_code 6 = .ok (.aload_n 0, 1) := by decide +kernel
theorem d256 : decode jdk_67_method_14_code 7 = .ok (.areturn, 1) := by decide +kernel
abbrev m_22 : MethodName := (⟨"java/lang/StringBuilder", "append", "(C)Ljava/lang/StringBuilder;"⟩ : MethodName)
def Q_apcS (Z : State) (q : Int32) (cp : Int32) (a_ : Addr) (v_ : Addr) (kv : ClassId) (N : Int32) (cnt : Int32) (xs : List Value) (cn : Int32) (h0 : Heap) (n0 : Nat) (v : Option Value) (h : Heap) (L : List Loc) : Prop := (v = some (.ref a_)) ∧ (Fr n0 L) ∧ (Keep h0 h [a_, v_]) ∧ (Exa Z h a_ "java/lang/StringBuilder") ∧ (fld2 Z h a_ (.ref v_)) ∧ (fld3 Z h a_ (.int 0)) ∧ (fld4 Z h a_ (.int cn)) ∧ (Arv Z h v_ kv .byte N (xs ++ [(.int (oB q))]) (.int 0)) ∧ (Old Z n0 h)
theorem rm_apcS (l : Launch) (Z : State) (a0 : Array Value) (hw : HW Z a0) (ws : List Jvm.Cond) (q : Int32) (cp : Int32) (a_ : Addr) (v_ : Addr) (kv : ClassId) (N : Int32) (cnt : Int32) (xs : List Value) (cn : Int32) (h0 : Heap) (n0 : Nat) (Z0 : n0 ≤ h0.size) (P0 : Old Z n0 h0) (P1 : sta0 Z (.int cp)) (P2 : Exa Z h0 a_ "java/lang/StringBuilder") (P3 : fld2 Z h0 a_ (.ref v_)) (P4 : fld3 Z h0 a_ (.int 0)) (P5 : fld4 Z h0 a_ (.int cnt)) (P6 : Arv Z h0 v_ kv .byte N xs (.int 0)) (P7 : n0 ≤ a_) (P8 : n0 ≤ v_) (P9 : a_ ≠ v_) (hcs : ¬ (cp = (0 : Int32))) (hlo : ¬ ((255 : Int32) < q)) (h2 : ¬ cnt < 0) (hdp : cnt.toNatClampNeg = xs.length) (hng : ¬ ((0 : Int32) < (cn - N))) (hcn : cnt + (1 : Int32) = cn) (hin : cnt < N) :
    MF l Z m_22 jdk_67_method_14_code 2 (some (.object "java/lang/StringBuilder")) ws (oR 2 0 0 27) #[(.ref a_), (.int q)] h0 (Q_apcS Z q cp a_ v_ kv N cnt xs cn h0 n0) := by
  refine own_body (cls := "java/lang/StringBuilder") (plainFor_of_name pn_7) rfl (fun p e s m below meth c s₁ hx hby hml hown hnm hret hZ X0 e0 => ?_)
  have N0 := Fr.nil n0
  have K0 := Keep.refl h0 [a_, v_]
  have lt1 := own_l P2.lt
  have lt2 := own_l P3.lt
  have lt3 := own_l P4.lt
  have lt4 := own_l P5.lt
  have lt5 := own_l P6.lt
  obtain ⟨_, _, ⟨T6, L6, k6, n6⟩, -, X6, ⟨Lc6, hQ6, l6, y6, z6⟩, st6⟩ := superBack X0 hx hZ (y := m_21) hown (w_134 hw) (own_sameOwn (by decide) (w_135 hw) (w_103 hw) (notFace_of_selects (args := a0) (w_105 hw)) rfl) (w_135 hw) (w_98 hw) (by decide) (backOf (W := 0) (rm_apcN l Z a0 hw [] q cp a_ v_ kv N cnt xs cn h0 n0 (by omega) P0 P1 P2 P3 P4 P5 P6 (by omega) (by omega) (fun q => P9 q) hcs hlo h2 hdp hng hcn hin) hZ (w_137 hw) (w_67 hw) (by decide) (by decide)) e0 (Ins.self P2) (g := (mkF m 2 #[vA a_, vI q] [(.int q), (.ref a_)])) rfl (by rw [hml]; rfl) (w_137 hw) (argsL := [(.int q)]) (rest := []) (lenOf pd_16 rfl) rfl (Nat.le_of_eq rfl) (hb hby d253) (fun _ _ => ⟨rfl, e0, (by decide : 0 + 0 ≤ _), (by decide : 0 + 0 ≤ _)⟩)
  dsimp only [Pt.U, Pt.locs, Pt.cells, Pt.slots] at X6 l6 y6 z6 st6 hQ6
  rw [l6, y6, z6] at X6
  obtain ⟨rfl, Nq6, Kq6, r6_0, r6_1, r6_2, r6_3, r6_4, r6_5⟩ := hQ6
  have N6 := Fr.app N0 Nq6
  have z6' := Kq6.1
  have K6 := K0.trans Kq6 (allS (Or.inl (List.mem_of_getElem? (i := 0) rfl)) (allS (Or.inl (List.mem_of_getElem? (i := 1) rfl)) all0))
  have lt7 := own_l r6_0.lt
  have lt8 := own_l r6_1.lt
  have lt9 := own_l r6_2.lt
  have lt10 := own_l r6_3.lt
  have lt11 := own_l r6_4.lt
  refine ⟨_, _, _, _, some (.ref a_), X6, by decide, by decide, nofun, ?_, fun fs hr => castTop (ef_11 m a_ q) ?_⟩
  · show Q_apcS Z q cp a_ v_ kv N cnt xs cn h0 n0 _ T6.heap _
    exact ⟨rfl, N6, K6, r6_0, r6_1, r6_2, r6_3, r6_4, r6_5⟩
  · show Steps _ _ _ (s₁.setTop (mkF m 0 #[vA a_, vI q] [])) _
    refine XS.aloadN X0.here hx rfl (hb hby d251) rfl rfl ?_
    refine XS.iloadN X0.here hx rfl (hb hby d252) rfl ?_
    refine st6.trans ?_
    show Steps _ _ _ (T6.setTop (mkF m 5 #[vA a_, vI q] [(.ref a_)])) _
    refine XS.pop X6.here hx rfl (hb hby d254) rfl rfl ?_
    refine XS.aloadN X6.here hx rfl (hb hby d255) rfl rfl ?_
    exact retOut X6 hx hret (own_narrow_ref rfl) (Or.inr (Or.inr (Or.inr (Or.inr ⟨rfl, rfl, rfl⟩)))) (hb hby d256) hr
theorem d257 : decode jdk_68_method_3_code 0 = .ok (.aload_n 0, 1) := by decide +kernel
theorem w_69 {Z : State} {a0 : Array Value} (hw : HW Z a0) : (Jvm.Cond.methodLink "java/lang/AbstractStringBuilder" (3 : Nat) m_2).before a0 Z = true := hw _ (List.mem_of_getElem? (i := 69) rfl)
theorem d258 : decode jdk_68_method_3_code 1 = .ok (.invokespecial 3, 3) := by decide +kernel
theorem d259 : decode jdk_68_method_3_code 4 = .ok (.aload_n 1, 1) := by decide +kernel
theorem d260 : decode jdk_68_method_3_code 5 = .ok (.invokevirtual 32, 3) := by decide +kernel
theorem d261 : decode jdk_68_method_3_code 8 = .ok (.istore_n 2, 1) := by decide +kernel
theorem d262 : decode jdk_68_method_3_code 9 = .ok (.iload_n 2, 1) := by decide +kernel
theorem w_80 {Z : State} {a0 : Array Value} (hw : HW Z a0) : (Jvm.Cond.constant "java/lang/AbstractStringBuilder" (38 : Nat) (2147483631 : Int32)).before a0 Z = true := hw _ (List.mem_of_getElem? (i := 80) rfl)
theorem d263 : decode jdk_68_method_3_code 10 = .ok (.ldc 38, 2) := by decide +kernel
theorem d264 : decode jdk_68_method_3_code 12 = .ok (.if_icmp .ge 10, 3) := by decide +kernel
theorem d265 : decode jdk_68_method_3_code 15 = .ok (.iload_n 2, 1) := by decide +kernel
theorem d266 : decode jdk_68_method_3_code 16 = .ok (.bipush 16, 2) := by decide +kernel
theorem d267 : decode jdk_68_method_3_code 18 = .ok (.iadd, 1) := by decide +kernel
theorem d268 : decode jdk_68_method_3_code 19 = .ok (.goto 5, 3) := by decide +kernel
theorem d269 : decode jdk_68_method_3_code 24 = .ok (.istore_n 3, 1) := by decide +kernel
theorem d270 : decode jdk_68_method_3_code 25 = .ok (.aload_n 1, 1) := by decide +kernel
theorem d271 : decode jdk_68_method_3_code 26 = .ok (.invokevirtual 40, 3) := by decide +kernel
theorem d272 : decode jdk_68_method_3_code 29 = .ok (.istore 4, 2) := by decide +kernel
theorem d273 : decode jdk_68_method_3_code 31 = .ok (.aload_n 0, 1) := by decide +kernel
theorem d274 : decode jdk_68_method_3_code 32 = .ok (.iload 4, 2) := by decide +kernel
theorem d275 : decode jdk_68_method_3_code 34 = .ok (.putfield 22, 3) := by decide +kernel
theorem d276 : decode jdk_68_method_3_code 37 = .ok (.aload_n 0, 1) := by decide +kernel
theorem d277 : decode jdk_68_method_3_code 38 = .ok (.iload 4, 2) := by decide +kernel
theorem d278 : decode jdk_68_method_3_code 40 = .ok (.ifCond .ne 9, 3) := by decide +kernel
theorem d279 : decode jdk_68_method_3_code 43 = .ok (.iload_n 3, 1) := by decide +kernel
theorem d280 : decode jdk_68_method_3_code 44 = .ok (.newarray .byte, 2) := by decide +kernel
theorem d281 : decode jdk_68_method_3_code 46 = .ok (.goto 7, 3) := by decide +kernel
theorem d282 : decode jdk_68_method_3_code 53 = .ok (.putfield 15, 3) := by decide +kernel
theorem d283 : decode jdk_68_method_3_code 56 = .ok (.aload_n 0, 1) := by decide +kernel
theorem d284 : decode jdk_68_method_3_code 57 = .ok (.aload_n 1, 1) := by decide +kernel
theorem w_86 {Z : State} {a0 : Array Value} (hw : HW Z a0) : (Jvm.Cond.methodLink "java/lang/AbstractStringBuilder" (43 : Nat) m_17).before a0 Z = true := hw _ (List.mem_of_getElem? (i := 86) rfl)
theorem w_91 {Z : State} {a0 : Array Value} (hw : HW Z a0) : (Jvm.Cond.code m_19 jdk_67_method_80_code (2 : Nat) (Option.some (FieldType.object "java/lang/AbstractStringBuilder"))).before a0 Z = true := hw _ (List.mem_of_getElem? (i := 91) rfl)
theorem d285 : decode jdk_68_method_3_code 58 = .ok (.invokevirtual 43, 3) := by decide +kernel
theorem w_89 {Z : State} {a0 : Array Value} (hw : HW Z a0) : (Jvm.Cond.selects "java/lang/StringBuilder" m_17 m_19).before a0 Z = true := hw _ (List.mem_of_getElem? (i := 89) rfl)
theorem w_87 {Z : State} {a0 : Array Value} (hw : HW Z a0) : (Jvm.Cond.declares m_17).before a0 Z = true := hw _ (List.mem_of_getElem? (i := 87) rfl)
theorem w_90 {Z : State} {a0 : Array Value} (hw : HW Z a0) : (Jvm.Cond.instanceMethod m_19).before a0 Z = true := hw _ (List.mem_of_getElem? (i := 90) rfl)
theorem d286 : decode jdk_68_method_3_code 61 = .ok (.pop, 1) := by decide +kernel
theorem d287 : decode jdk_68_method_3_code 62 = .ok (.return_, 1) := by decide +kernel
theorem ef_12 (m : MethodId) (x0 : Addr) (x1 : Addr) : entryFrame m #[(.ref x0), (.ref x1)] 5 = mkF m 0 #[vA x0, vA x1, .unset, .unset, .unset] [] := by first | (simp [entryFrame, mkF, argsToLocals, Value.category, maxLocals]; done) | rfl
abbrev m_23 : MethodName := (⟨"java/lang/AbstractStringBuilder", "<init>", "(Ljava/lang/String;)V"⟩ : MethodName)
def Q_binit (Z : State) (a_ : Addr) (u : Value) (c0 : Int32) (t : Addr) (tb : Addr) (kt : ClassId) (bs : List Value) (cp : Int32) (h0 : Heap) (n0 : Nat) (v : Option Value) (h : Heap) (L : List Loc) : Prop := ∃ (b : Addr) (k : ClassId), (v = none) ∧ (Fr n0 L) ∧ (Keep h0 h [a_]) ∧ (h0.size ≤ b) ∧ (Exa Z h a_ "java/lang/StringBuilder") ∧ (fld2 Z h a_ (.ref b)) ∧ (fld3 Z h a_ (.int 0)) ∧ (fld4 Z h a_ (.int 13)) ∧ (Arv Z h b k .byte (29 : Int32) bs (.int 0)) ∧ (Old Z n0 h)
theorem rm_binit (l : Launch) (Z : State) (a0 : Array Value) (hw : HW Z a0) (ws : List Jvm.Cond) (a_ : Addr) (u : Value) (c0 : Int32) (t : Addr) (tb : Addr) (kt : ClassId) (bs : List Value) (cp : Int32) (h0 : Heap) (n0 : Nat) (Z0 : n0 ≤ h0.size) (P0 : Old Z n0 h0) (P1 : sta0 Z (.int cp)) (P2 : Exa Z h0 t "java/lang/String") (P3 : fld1 Z h0 t (.int 0)) (P4 : fld0 Z h0 t (.ref tb)) (P5 : Arv Z h0 tb kt .byte (13 : Int32) bs (.int 0)) (P6 : Exa Z h0 a_ "java/lang/StringBuilder") (P7 : fld2 Z h0 a_ u) (P8 : fld3 Z h0 a_ (.int c0)) (P9 : fld4 Z h0 a_ (.int 0)) (P10 : n0 ≤ a_) (P11 : tb ≠ a_) (P12 : t ≠ a_) (hcs : ¬ (cp = (0 : Int32))) (hb13 : bs.length ≤ (13 : Int32).toNatClampNeg) :
    MF l Z m_23 jdk_68_method_3_code 5 none ws (oR 6 1 29 87) #[(.ref a_), (.ref t)] h0 (Q_binit Z a_ u c0 t tb kt bs cp h0 n0) := by
  refine own_body (cls := "java/lang/AbstractStringBuilder") (plainFor_of_name pn_5) rfl (fun p e s m below meth c s₁ hx hby hml hown hnm hret hZ X0 e0 => ?_)
  have N0 := Fr.nil n0
  have K0 := Keep.refl h0 [a_]
  have lt1 := own_l P2.lt
  have lt2 := own_l P3.lt
  have lt3 := own_l P4.lt
  have lt4 := own_l P5.lt
  have lt5 := own_l P6.lt
  have lt6 := own_l P7.lt
  have lt7 := own_l P8.lt
  have lt8 := own_l P9.lt
  obtain ⟨T9, X9, e9, st9⟩ := initO X0 hx hZ hown (w_69 hw) (w_23 hw) (w_24 hw) e0 (g := (mkF m 1 #[vA a_, vA t, .unset, .unset, .unset] [(.ref a_)])) rfl (by rw [hml]; rfl) rfl (hb hby d258) (by decide) (W := 0) (Nat.le_of_eq rfl) (by decide)
  obtain ⟨cq10, kq10, qa10, qb10, qc10⟩ := isOf hZ e9 P2
  obtain ⟨_, _, ⟨T10, L10, k10, n10⟩, -, X10, ⟨Lc10, hQ10, l10, y10, z10⟩, st10⟩ := X9.virtualBack hx (y := m_6) (z := m_6) hown (mvT hZ (w_70 hw)) (mvT hZ (w_71 hw)) (notFace_of_selects (args := #[]) (mvT hZ (w_73 hw))) (mvT hZ (w_73 hw)) (mvT hZ (w_72 hw)) (by decide) (backOf (W := 0) (rm_slen l Z a0 hw [] t tb kt ((13 : Int32)) bs cp h0 n0 (by omega) P0 P1 P2 P3 P4 P5 hcs) hZ (w_74 hw) (w_5 hw) (by decide) (by decide)) qa10 qc10 (g := (mkF m 5 #[vA a_, vA t, .unset, .unset, .unset] [(.ref t)])) rfl (by rw [hml]; rfl) (Steps.refl _) (argsL := []) (rest := []) (lenOf pd_10 rfl) rfl (Nat.le_of_eq rfl) (hb hby d260) (fun _ _ => ⟨rfl, e9, (by decide : 0 + 0 ≤ _), (by decide : 0 + 0 ≤ _)⟩)
  dsimp only [Pt.U, Pt.locs, Pt.cells, Pt.slots] at X10 l10 y10 z10 st10 hQ10
  rw [l10, y10, z10] at X10
  obtain ⟨rfl, Nq10, Kq10⟩ := hQ10
  have N10 := Fr.app N0 Nq10
  obtain ⟨cq12, kq12, qa12, qb12, qc12⟩ := isOf hZ Kq10 P2
  obtain ⟨_, _, ⟨T12, L12, k12, n12⟩, -, X12, ⟨Lc12, hQ12, l12, y12, z12⟩, st12⟩ := X10.virtualBack hx (y := m_5) (z := m_5) hown (mvT hZ (w_81 hw)) (mvT hZ (w_76 hw)) (notFace_of_selects (args := #[]) (mvT hZ (w_78 hw))) (mvT hZ (w_78 hw)) (mvT hZ (w_77 hw)) (by decide) (backOf (W := 0) (rm_cod l Z a0 hw [] t cp h0 n0 (by omega) P0 P1 P3 hcs) hZ (w_79 hw) (w_5 hw) (by decide) (by decide)) qa12 qc12 (g := (mkF m 26 #[vA a_, vA t, vI 13, vI 29, .unset] [(.ref t)])) rfl (by rw [hml]; rfl) (Steps.refl _) (argsL := []) (rest := []) (lenOf pd_3 rfl) rfl (Nat.le_of_eq rfl) (hb hby d271) (fun _ _ => ⟨rfl, Kq10, (by decide : 0 + 0 ≤ _), (by decide : 0 + 0 ≤ _)⟩)
  dsimp only [Pt.U, Pt.locs, Pt.cells, Pt.slots] at X12 l12 y12 z12 st12 hQ12
  rw [l12, y12, z12] at X12
  obtain ⟨rfl, Nq12, Kq12⟩ := hQ12
  have N12 := Fr.app N10 Nq12
  obtain ⟨T13, h13, X13, e13, W13, st13⟩ := putFN X12 hx hZ hown (w_82 hw) Via.refl Kq12 P8 P6 (Or.inl (w_83 hw)) (w_57 hw) (ty := .byte) (v' := (.int 0)) (by decide) rfl rfl (g := (mkF m 34 #[vA a_, vA t, vI 13, vI 29, vI 0] [(.int 0), (.ref a_)])) rfl rfl (hb hby d275)
  have F13 := P8.same W13
  have z13 := W13.size
  have K13 := K0.wr W13 (Or.inl (List.mem_of_getElem? (i := 0) rfl))
  have N13 := Fr.snoc X13 N12 (by omega)
  obtain ⟨T14, h14, k14, X14, e14, E14, A14, st14⟩ := newP X13 hx hZ (aty := .byte) (w_17 hw) e13 (g := (mkF m 44 #[vA a_, vA t, vI 13, vI 29, vI 0] [(.int 29), (.ref a_)])) rfl (hb hby d280) rfl (by decide) (cap := 29) (by decide) (by decide) (by decide) (by decide)
  obtain ⟨b14, g14⟩ : ∃ z, z = h13.size := ⟨_, rfl⟩
  rw [← g14] at A14 st14
  have z14 := E14.1
  have K14 := K13.ext E14
  have V14 : Arv Z h14 b14 k14 .byte (29 : Int32) [] (.int 0) := Arv.new A14 (by decide)
  have lt15 := own_l V14.lt
  have f17 := P7.other W13 (Or.inr (slot_ne (a0 := a0) (t := (.array .byte)) (t' := .byte) (Or.inl (w_85 hw)) (Or.inl (w_83 hw)) (by decide) (by decide) (by decide)))
  have f18 := f17.ext E14
  have f19 := P6.wr W13
  have f20 := f19.ext E14
  obtain ⟨T16, h16, X16, e16, W16, st16⟩ := putF X14 hx hZ hown (host := "") (Or.inl (w_84 hw)) Via.refl e14 f18 f20 (Or.inl (w_85 hw)) (w_57 hw) (ty := (.array .byte)) (by decide) rfl rfl (g := (mkF m 53 #[vA a_, vA t, vI 13, vI 29, vI 0] [(.ref b14), (.ref a_)])) rfl rfl (hb hby d282)
  have F16 := f18.same W16
  have z16 := W16.size
  have K16 := K14.wr W16 (Or.inl (List.mem_of_getElem? (i := 0) rfl))
  have N16 := Fr.snoc X16 N13 (by omega)
  have f22 := P0.wr W13 (by omega)
  have f23 := f22.ext E14
  have f24 := f23.wr W16 (by omega)
  have f25 := P2.wr W13
  have f26 := f25.ext E14
  have f27 := f26.wr W16
  have f28 := P3.other W13 (Or.inl (fun q => P12 q))
  have f29 := f28.ext E14
  have f30 := f29.other W16 (Or.inl (fun q => P12 q))
  have f31 := P4.other W13 (Or.inl (fun q => P12 q))
  have f32 := f31.ext E14
  have f33 := f32.other W16 (Or.inl (fun q => P12 q))
  have f34 := P5.other W13 (fun q => P11 q)
  have f35 := f34.ext E14
  have f36 := f35.other W16 (fun q => P11 q)
  have f37 := f20.wr W16
  have f38 := F13.ext E14
  have f39 := f38.other W16 (Or.inr (slot_ne (a0 := a0) (t := .byte) (t' := (.array .byte)) (Or.inl (w_83 hw)) (Or.inl (w_85 hw)) (by decide) (by decide) (by decide)))
  have f40 := P9.other W13 (Or.inr (slot_ne (a0 := a0) (t := .int) (t' := .byte) (Or.inl (w_101 hw)) (Or.inl (w_83 hw)) (by decide) (by decide) (by decide)))
  have f41 := f40.ext E14
  have f42 := f41.other W16 (Or.inr (slot_ne (a0 := a0) (t := .int) (t' := (.array .byte)) (Or.inl (w_101 hw)) (Or.inl (w_85 hw)) (by decide) (by decide) (by decide)))
  have f43 := V14.other W16 (own_ne (by omega))
  obtain ⟨cq21, kq21, qa21, qb21, qc21⟩ := isOf hZ e16 f37
  obtain ⟨_, _, ⟨T21, L21, k21, n21⟩, -, X21, ⟨Lc21, hQ21, l21, y21, z21⟩, st21⟩ := X16.virtualBack hx (y := m_17) (z := m_19) hown (mvT hZ (w_86 hw)) (mvT hZ (w_87 hw)) (own_nf (a0 := #[]) (mvT hZ (w_103 hw)) (notFace_of_selects (args := #[]) (mvT hZ (w_105 hw))) rfl) (mvT hZ (w_89 hw)) (mvT hZ (w_90 hw)) (by decide) (backOf (W := 0) (rm_apbN l Z a0 hw [] t tb kt ((13 : Int32)) bs cp a_ b14 k14 ((29 : Int32)) ((0 : Int32)) ([]) ((13 : Int32)) h16 n0 (by omega) f24 P1 f27 f30 f33 f36 f37 F16 f39 f42 f43 (by omega) (by omega) (own_ne (by omega)) (own_ne (by omega)) hcs (by decide) (by decide) rfl hb13 (by decide) (by decide) (by decide)) hZ (w_91 hw) (w_58 hw) (by decide) (by decide)) qa21 qc21 (g := (mkF m 58 #[vA a_, vA t, vI 13, vI 29, vI 0] [(.ref t), (.ref a_)])) rfl (by rw [hml]; rfl) (Steps.refl _) (argsL := [(.ref t)]) (rest := []) (lenOf pd_13 rfl) rfl (Nat.le_of_eq rfl) (hb hby d285) (fun _ _ => ⟨rfl, e16, (by decide : 1 + 0 ≤ _), (by decide : 29 + 0 ≤ _)⟩)
  dsimp only [Pt.U, Pt.locs, Pt.cells, Pt.slots] at X21 l21 y21 z21 st21 hQ21
  rw [l21, y21, z21] at X21
  obtain ⟨rfl, Nq21, Kq21, r21_0, r21_1, r21_2, r21_3, r21_4, r21_5⟩ := hQ21
  have N21 := Fr.app N16 Nq21
  have z21' := Kq21.1
  have K21 := K16.trans Kq21 (allS (Or.inl (List.mem_of_getElem? (i := 0) rfl)) (allS (Or.inr (by omega)) all0))
  have lt44 := own_l r21_0.lt
  have lt45 := own_l r21_1.lt
  have lt46 := own_l r21_2.lt
  have lt47 := own_l r21_3.lt
  replace r21_4 : Arv Z T21.heap b14 k14 .byte (29 : Int32) bs (.int 0) := r21_4
  have lt48 := own_l r21_4.lt
  refine ⟨_, _, _, _, none, X21, by decide, by decide, fun _ => rfl, ?_, fun fs hr => castTop (ef_12 m a_ t) ?_⟩
  · show Q_binit Z a_ u c0 t tb kt bs cp h0 n0 _ T21.heap _
    exact ⟨b14, k14, rfl, N21, K21, (by omega), r21_0, r21_1, r21_2, r21_3, r21_4, r21_5⟩
  · show Steps _ _ _ (s₁.setTop (mkF m 0 #[vA a_, vA t, .unset, .unset, .unset] [])) _
    refine XS.aloadN X0.here hx rfl (hb hby d257) rfl rfl ?_
    refine st9 _ ?_
    show Steps _ _ _ (T9.setTop (mkF m 4 #[vA a_, vA t, .unset, .unset, .unset] [])) _
    refine XS.aloadN X9.here hx rfl (hb hby d259) rfl rfl ?_
    refine st10.trans ?_
    show Steps _ _ _ (T10.setTop (mkF m 8 #[vA a_, vA t, .unset, .unset, .unset] [(.int 13)])) _
    refine XS.istoreN X10.here hx rfl (hb hby d261) rfl (l' := #[vA a_, vA t, vI 13, .unset, .unset]) rfl ?_
    refine XS.iloadN X10.here hx rfl (hb hby d262) rfl ?_
    refine X10.ldcInt hx hown (mvT hZ (w_80 hw)) (g := (mkF m 10 #[vA a_, vA t, vI 13, .unset, .unset] [(.int 13)])) rfl (hb hby d263) _ ?_
    show Steps _ _ _ (T10.setTop (mkF m 12 #[vA a_, vA t, vI 13, .unset, .unset] [(.int 2147483631), (.int 13)])) _
    refine XS.icmpNo X10.here hx rfl (hb hby d264) rfl (tlt ((by decide) : (13 : Int32) < (2147483631 : Int32))).2.1 ?_
    refine XS.iloadN X10.here hx rfl (hb hby d265) rfl ?_
    refine XS.bipush X10.here hx rfl (hb hby d266) ?_
    refine XS.iadd X10.here hx rfl (hb hby d267) rfl ?_
    refine XS.goto X10.here hx rfl (pc0 := 19) (pc' := 24) rfl (hb hby d268) (by decide) (by decide) ?_
    refine XS.istoreN X10.here hx rfl (hb hby d269) rfl (l' := #[vA a_, vA t, vI 13, vI 29, .unset]) rfl ?_
    refine XS.aloadN X10.here hx rfl (hb hby d270) rfl rfl ?_
    refine st12.trans ?_
    show Steps _ _ _ (T12.setTop (mkF m 29 #[vA a_, vA t, vI 13, vI 29, .unset] [(.int 0)])) _
    refine XS.istore X12.here hx rfl (hb hby d272) rfl (l' := #[vA a_, vA t, vI 13, vI 29, vI 0]) rfl ?_
    refine XS.aloadN X12.here hx rfl (hb hby d273) rfl rfl ?_
    refine XS.iload X12.here hx rfl (hb hby d274) rfl ?_
    refine st13 _ ?_
    show Steps _ _ _ (T13.setTop (mkF m 37 #[vA a_, vA t, vI 13, vI 29, vI 0] [])) _
    refine XS.aloadN X13.here hx rfl (hb hby d276) rfl rfl ?_
    refine XS.iload X13.here hx rfl (hb hby d277) rfl ?_
    refine XS.ifNo X13.here hx rfl (hb hby d278) rfl ((if0 _ _).trans (teq ((by decide) : (0 : Int32) = (0 : Int32))).2) ?_
    refine XS.iloadN X13.here hx rfl (hb hby d279) rfl ?_
    refine st14 _ ?_
    show Steps _ _ _ (T14.setTop (mkF m 46 #[vA a_, vA t, vI 13, vI 29, vI 0] [(.ref b14), (.ref a_)])) _
    refine XS.goto X14.here hx rfl (pc0 := 46) (pc' := 53) rfl (hb hby d281) (by decide) (by decide) ?_
    refine st16 _ ?_
    show Steps _ _ _ (T16.setTop (mkF m 56 #[vA a_, vA t, vI 13, vI 29, vI 0] [])) _
    refine XS.aloadN X16.here hx rfl (hb hby d283) rfl rfl ?_
    refine XS.aloadN X16.here hx rfl (hb hby d284) rfl rfl ?_
    refine st21.trans ?_
    show Steps _ _ _ (T21.setTop (mkF m 61 #[vA a_, vA t, vI 13, vI 29, vI 0] [(.ref a_)])) _
    refine XS.pop X21.here hx rfl (hb hby d286) rfl rfl ?_
    exact X21.returnOut hx hret (hb hby d287) hr
theorem d288 : decode jdk_67_method_3_code 0 = .ok (.aload_n 0, 1) := by decide +kernel
theorem d289 : decode jdk_67_method_3_code 1 = .ok (.aload_n 1, 1) := by decide +kernel
theorem w_63 {Z : State} {a0 : Array Value} (hw : HW Z a0) : (Jvm.Cond.methodLink "java/lang/StringBuilder" (7 : Nat) m_23).before a0 Z = true := hw _ (List.mem_of_getElem? (i := 63) rfl)
theorem w_68 {Z : State} {a0 : Array Value} (hw : HW Z a0) : (Jvm.Cond.code m_23 jdk_68_method_3_code (5 : Nat) (Option.none : Option Jvm.ClassFile.FieldType)).before a0 Z = true := hw _ (List.mem_of_getElem? (i := 68) rfl)
theorem d290 : decode jdk_67_method_3_code 2 = .ok (.invokespecial 7, 3) := by decide +kernel
theorem w_64 {Z : State} {a0 : Array Value} (hw : HW Z a0) : (Jvm.Cond.instanceMethod m_23).before a0 Z = true := hw _ (List.mem_of_getElem? (i := 64) rfl)
theorem d291 : decode jdk_67_method_3_code 5 = .ok (.return_, 1) := by decide +kernel
abbrev m_24 : MethodName := (⟨"java/lang/StringBuilder", "<init>", "(Ljava/lang/String;)V"⟩ : MethodName)
def Q_sbi (Z : State) (a_ : Addr) (u : Value) (c0 : Int32) (t : Addr) (tb : Addr) (kt : ClassId) (bs : List Value) (cp : Int32) (h0 : Heap) (n0 : Nat) (v : Option Value) (h : Heap) (L : List Loc) : Prop := ∃ (b : Addr) (k : ClassId), (v = none) ∧ (Fr n0 L) ∧ (Keep h0 h [a_]) ∧ (h0.size ≤ b) ∧ (Exa Z h a_ "java/lang/StringBuilder") ∧ (fld2 Z h a_ (.ref b)) ∧ (fld3 Z h a_ (.int 0)) ∧ (fld4 Z h a_ (.int 13)) ∧ (Arv Z h b k .byte (29 : Int32) bs (.int 0)) ∧ (Old Z n0 h)
theorem rm_sbi (l : Launch) (Z : State) (a0 : Array Value) (hw : HW Z a0) (ws : List Jvm.Cond) (a_ : Addr) (u : Value) (c0 : Int32) (t : Addr) (tb : Addr) (kt : ClassId) (bs : List Value) (cp : Int32) (h0 : Heap) (n0 : Nat) (Z0 : n0 ≤ h0.size) (P0 : Old Z n0 h0) (P1 : sta0 Z (.int cp)) (P2 : Exa Z h0 t "java/lang/String") (P3 : fld1 Z h0 t (.int 0)) (P4 : fld0 Z h0 t (.ref tb)) (P5 : Arv Z h0 tb kt .byte (13 : Int32) bs (.int 0)) (P6 : Exa Z h0 a_ "java/lang/StringBuilder") (P7 : fld2 Z h0 a_ u) (P8 : fld3 Z h0 a_ (.int c0)) (P9 : fld4 Z h0 a_ (.int 0)) (P10 : n0 ≤ a_) (P11 : tb ≠ a_) (P12 : t ≠ a_) (hcs : ¬ (cp = (0 : Int32))) (hb13 : bs.length ≤ (13 : Int32).toNatClampNeg) :
    MF l Z m_24 jdk_67_method_3_code 2 none ws (oR 7 1 29 103) #[(.ref a_), (.ref t)] h0 (Q_sbi Z a_ u c0 t tb kt bs cp h0 n0) := by
  refine own_body (cls := "java/lang/StringBuilder") (plainFor_of_name pn_7) rfl (fun p e s m below meth c s₁ hx hby hml hown hnm hret hZ X0 e0 => ?_)
  have N0 := Fr.nil n0
  have K0 := Keep.refl h0 [a_]
  have lt1 := own_l P2.lt
  have lt2 := own_l P3.lt
  have lt3 := own_l P4.lt
  have lt4 := own_l P5.lt
  have lt5 := own_l P6.lt
  have lt6 := own_l P7.lt
  have lt7 := own_l P8.lt
  have lt8 := own_l P9.lt
  obtain ⟨_, _, ⟨T9, L9, k9, n9⟩, -, X9, ⟨Lc9, hQ9, l9, y9, z9⟩, st9⟩ := X0.specialBack hx (y := m_23) rfl hown (mvT hZ (w_63 hw)) (mvT hZ (w_64 hw)) (mvT hZ (w_68 hw)) (by decide) (backOf (W := 0) (rm_binit l Z a0 hw [] a_ u c0 t tb kt bs cp h0 n0 (by omega) P0 P1 P2 P3 P4 P5 P6 P7 P8 P9 (by omega) (fun q => P11 q) (fun q => P12 q) hcs hb13) hZ (w_68 hw) (w_67 hw) (by decide) (by decide)) (g := (mkF m 2 #[vA a_, vA t] [(.ref t), (.ref a_)])) rfl (by rw [hml]; rfl) (Steps.refl _) (a := a_) (argsL := [(.ref t)]) (rest := []) (lenOf pd_8 rfl) rfl (Nat.le_of_eq rfl) (hb hby d290) (fun _ _ => ⟨rfl, e0, (by decide : 0 + 1 ≤ _), (by decide : 0 + 29 ≤ _)⟩)
  dsimp only [Pt.U, Pt.locs, Pt.cells, Pt.slots] at X9 l9 y9 z9 st9 hQ9
  rw [l9, y9, z9] at X9
  obtain ⟨x9_b, x9_k, rfl, Nq9, Kq9, r9_0, r9_1, r9_2, r9_3, r9_4, r9_5, r9_6⟩ := hQ9
  have N9 := Fr.app N0 Nq9
  have z9' := Kq9.1
  have K9 := K0.trans Kq9 (allS (Or.inl (List.mem_of_getElem? (i := 0) rfl)) all0)
  have lt10 := own_l r9_1.lt
  have lt11 := own_l r9_2.lt
  have lt12 := own_l r9_3.lt
  have lt13 := own_l r9_4.lt
  have lt14 := own_l r9_5.lt
  refine ⟨_, _, _, _, none, X9, by decide, by decide, fun _ => rfl, ?_, fun fs hr => castTop (ef_7 m a_ t) ?_⟩
  · show Q_sbi Z a_ u c0 t tb kt bs cp h0 n0 _ T9.heap _
    exact ⟨x9_b, x9_k, rfl, N9, K9, (by omega), r9_1, r9_2, r9_3, r9_4, r9_5, r9_6⟩
  · show Steps _ _ _ (s₁.setTop (mkF m 0 #[vA a_, vA t] [])) _
    refine XS.aloadN X0.here hx rfl (hb hby d288) rfl rfl ?_
    refine XS.aloadN X0.here hx rfl (hb hby d289) rfl rfl ?_
    refine st9.trans ?_
    show Steps _ _ _ (T9.setTop (mkF m 5 #[vA a_, vA t] [])) _
    exact X9.returnOut hx hret (hb hby d291) hr
theorem d292 : decode jdk_68_method_64_code 0 = .ok (.aload_n 0, 1) := by decide +kernel
theorem d293 : decode jdk_68_method_64_code 1 = .ok (.getfield 15, 3) := by decide +kernel
theorem d294 : decode jdk_68_method_64_code 4 = .ok (.areturn, 1) := by decide +kernel
abbrev m_25 : MethodName := (⟨"java/lang/AbstractStringBuilder", "getValue", "()[B"⟩ : MethodName)
def Q_getV (Z : State) (a_ : Addr) (v_ : Addr) (h0 : Heap) (n0 : Nat) (v : Option Value) (h : Heap) (L : List Loc) : Prop := (v = some (.ref v_)) ∧ (Fr n0 L) ∧ (h = h0)
theorem rm_getV (l : Launch) (Z : State) (a0 : Array Value) (hw : HW Z a0) (ws : List Jvm.Cond) (a_ : Addr) (v_ : Addr) (h0 : Heap) (n0 : Nat) (Z0 : n0 ≤ h0.size) (P0 : fld2 Z h0 a_ (.ref v_)) :
    MF l Z m_25 jdk_68_method_64_code 1 (some (.array .byte)) ws (oR 0 0 0 0) #[(.ref a_)] h0 (Q_getV Z a_ v_ h0 n0) := by
  refine own_body (cls := "java/lang/AbstractStringBuilder") (plainFor_of_name pn_5) rfl (fun p e s m below meth c s₁ hx hby hml hown hnm hret hZ X0 e0 => ?_)
  have N0 := Fr.nil n0
  have lt1 := own_l P0.lt
  obtain ⟨T2, X2, e2, st2⟩ := getF X0 hx hZ hown (host := "") (Or.inl (w_84 hw)) Via.refl e0 P0 (g := (mkF m 1 #[vA a_] [(.ref a_)])) rfl rfl (hb hby d293)
  refine ⟨_, _, _, _, some (.ref v_), X2, by decide, by decide, nofun, ?_, fun fs hr => castTop (ef_2 m a_) ?_⟩
  · show Q_getV Z a_ v_ h0 n0 _ T2.heap _
    rw [(e2 : T2.heap = h0)]
    exact ⟨rfl, N0, rfl⟩
  · show Steps _ _ _ (s₁.setTop (mkF m 0 #[vA a_] [])) _
    refine XS.aloadN X0.here hx rfl (hb hby d292) rfl rfl ?_
    refine st2 _ ?_
    show Steps _ _ _ (T2.setTop (mkF m 4 #[vA a_] [(.ref v_)])) _
    exact retOut X2 hx hret (own_narrow_ref rfl) (Or.inr (Or.inr (Or.inr (Or.inr ⟨rfl, rfl, rfl⟩)))) (hb hby d294) hr
theorem d295 : decode jdk_68_method_6_code 0 = .ok (.aload_n 0, 1) := by decide +kernel
theorem d296 : decode jdk_68_method_6_code 1 = .ok (.getfield 79, 3) := by decide +kernel
theorem d297 : decode jdk_68_method_6_code 4 = .ok (.ireturn, 1) := by decide +kernel
abbrev m_26 : MethodName := (⟨"java/lang/AbstractStringBuilder", "length", "()I"⟩ : MethodName)
def Q_alen (Z : State) (a_ : Addr) (cnt : Int32) (h0 : Heap) (n0 : Nat) (v : Option Value) (h : Heap) (L : List Loc) : Prop := (v = some (.int cnt)) ∧ (Fr n0 L) ∧ (h = h0)
theorem rm_alen (l : Launch) (Z : State) (a0 : Array Value) (hw : HW Z a0) (ws : List Jvm.Cond) (a_ : Addr) (cnt : Int32) (h0 : Heap) (n0 : Nat) (Z0 : n0 ≤ h0.size) (P0 : fld4 Z h0 a_ (.int cnt)) :
    MF l Z m_26 jdk_68_method_6_code 1 (some .int) ws (oR 0 0 0 0) #[(.ref a_)] h0 (Q_alen Z a_ cnt h0 n0) := by
  refine own_body (cls := "java/lang/AbstractStringBuilder") (plainFor_of_name pn_5) rfl (fun p e s m below meth c s₁ hx hby hml hown hnm hret hZ X0 e0 => ?_)
  have N0 := Fr.nil n0
  have lt1 := own_l P0.lt
  obtain ⟨T2, X2, e2, st2⟩ := getF X0 hx hZ hown (host := "") (Or.inl (w_100 hw)) Via.refl e0 P0 (g := (mkF m 1 #[vA a_] [(.ref a_)])) rfl rfl (hb hby d296)
  refine ⟨_, _, _, _, some (.int cnt), X2, by decide, by decide, nofun, ?_, fun fs hr => castTop (ef_2 m a_) ?_⟩
  · show Q_alen Z a_ cnt h0 n0 _ T2.heap _
    rw [(e2 : T2.heap = h0)]
    exact ⟨rfl, N0, rfl⟩
  · show Steps _ _ _ (s₁.setTop (mkF m 0 #[vA a_] [])) _
    refine XS.aloadN X0.here hx rfl (hb hby d295) rfl rfl ?_
    refine st2 _ ?_
    show Steps _ _ _ (T2.setTop (mkF m 4 #[vA a_] [(.int cnt)])) _
    exact retI X2 hx hret (hb hby d297) hr
theorem d298 : decode jdk_67_method_93_code 0 = .ok (.aload_n 0, 1) := by decide +kernel
theorem w_167 {Z : State} {a0 : Array Value} (hw : HW Z a0) : (Jvm.Cond.methodLink "java/lang/StringBuilder" (343 : Nat) m_26).before a0 Z = true := hw _ (List.mem_of_getElem? (i := 167) rfl)
theorem w_168 {Z : State} {a0 : Array Value} (hw : HW Z a0) : (Jvm.Cond.code m_26 jdk_68_method_6_code (1 : Nat) (Option.some FieldType.int)).before a0 Z = true := hw _ (List.mem_of_getElem? (i := 168) rfl)
theorem d299 : decode jdk_67_method_93_code 1 = .ok (.invokespecial 343, 3) := by decide +kernel
theorem w_163 {Z : State} {a0 : Array Value} (hw : HW Z a0) : (Jvm.Cond.instanceMethod m_26).before a0 Z = true := hw _ (List.mem_of_getElem? (i := 163) rfl)
theorem d300 : decode jdk_67_method_93_code 4 = .ok (.ireturn, 1) := by decide +kernel
abbrev m_27 : MethodName := (⟨"java/lang/StringBuilder", "length", "()I"⟩ : MethodName)
def Q_blen (Z : State) (a_ : Addr) (cnt : Int32) (h0 : Heap) (n0 : Nat) (v : Option Value) (h : Heap) (L : List Loc) : Prop := (v = some (.int cnt)) ∧ (Fr n0 L) ∧ (h = h0)
theorem rm_blen (l : Launch) (Z : State) (a0 : Array Value) (hw : HW Z a0) (ws : List Jvm.Cond) (a_ : Addr) (cnt : Int32) (h0 : Heap) (n0 : Nat) (Z0 : n0 ≤ h0.size) (P0 : Exa Z h0 a_ "java/lang/StringBuilder") (P1 : fld4 Z h0 a_ (.int cnt)) :
    MF l Z m_27 jdk_67_method_93_code 1 (some .int) ws (oR 1 0 0 12) #[(.ref a_)] h0 (Q_blen Z a_ cnt h0 n0) := by
  refine own_body (cls := "java/lang/StringBuilder") (plainFor_of_name pn_7) rfl (fun p e s m below meth c s₁ hx hby hml hown hnm hret hZ X0 e0 => ?_)
  have N0 := Fr.nil n0
  have lt1 := own_l P0.lt
  have lt2 := own_l P1.lt
  obtain ⟨_, _, ⟨T3, L3, k3, n3⟩, -, X3, ⟨Lc3, hQ3, l3, y3, z3⟩, st3⟩ := superBack X0 hx hZ (y := m_26) hown (w_167 hw) (own_sameOwn (by decide) (w_163 hw) (w_103 hw) (notFace_of_selects (args := a0) (w_105 hw)) rfl) (w_163 hw) (w_98 hw) (by decide) (backOf (W := 0) (rm_alen l Z a0 hw [] a_ cnt h0 n0 (by omega) P1) hZ (w_168 hw) (w_67 hw) (by decide) (by decide)) e0 (Ins.self P0) (g := (mkF m 1 #[vA a_] [(.ref a_)])) rfl (by rw [hml]; rfl) (w_168 hw) (argsL := []) (rest := []) (lenOf pd_10 rfl) rfl (Nat.le_of_eq rfl) (hb hby d299) (fun _ _ => ⟨rfl, e0, (by decide : 0 + 0 ≤ _), (by decide : 0 + 0 ≤ _)⟩)
  dsimp only [Pt.U, Pt.locs, Pt.cells, Pt.slots] at X3 l3 y3 z3 st3 hQ3
  rw [l3, y3, z3] at X3
  obtain ⟨rfl, Nq3, Kq3⟩ := hQ3
  have N3 := Fr.app N0 Nq3
  refine ⟨_, _, _, _, some (.int cnt), X3, by decide, by decide, nofun, ?_, fun fs hr => castTop (ef_2 m a_) ?_⟩
  · show Q_blen Z a_ cnt h0 n0 _ T3.heap _
    rw [(Kq3 : T3.heap = h0)]
    exact ⟨rfl, N3, rfl⟩
  · show Steps _ _ _ (s₁.setTop (mkF m 0 #[vA a_] [])) _
    refine XS.aloadN X0.here hx rfl (hb hby d298) rfl rfl ?_
    refine st3.trans ?_
    show Steps _ _ _ (T3.setTop (mkF m 4 #[vA a_] [(.int cnt)])) _
    exact retI X3 hx hret (hb hby d300) hr
theorem d301 : decode jdk_65_method_131_code 0 = .ok (.iload_n 1, 1) := by decide +kernel
theorem d302 : decode jdk_65_method_131_code 1 = .ok (.iload_n 0, 1) := by decide +kernel
theorem d303 : decode jdk_65_method_131_code 2 = .ok (.if_icmp .ge 35, 3) := by decide +kernel
theorem d304 : decode jdk_65_method_131_code 37 = .ok (.return_, 1) := by decide +kernel
abbrev m_28 : MethodName := (⟨"java/util/Arrays", "checkLength", "(II)V"⟩ : MethodName)
def Q_chk (Z : State) (cnt : Int32) (h0 : Heap) (n0 : Nat) (v : Option Value) (h : Heap) (L : List Loc) : Prop := (v = none) ∧ (Fr n0 L) ∧ (h = h0)
theorem rm_chk (l : Launch) (Z : State) (a0 : Array Value) (hw : HW Z a0) (ws : List Jvm.Cond) (cnt : Int32) (h0 : Heap) (n0 : Nat) (Z0 : n0 ≤ h0.size) (h2 : ¬ cnt < 0) :
    MF l Z m_28 jdk_65_method_131_code 2 none ws (oR 0 0 0 0) #[(.int 0), (.int cnt)] h0 (Q_chk Z cnt h0 n0) := by
  refine own_body (cls := "java/util/Arrays") (plainFor_of_name pn_6) rfl (fun p e s m below meth c s₁ hx hby hml hown hnm hret hZ X0 e0 => ?_)
  have N0 := Fr.nil n0
  refine ⟨_, _, _, _, none, X0, by decide, by decide, fun _ => rfl, ?_, fun fs hr => castTop (ef_3 m (0 : Int32) cnt) ?_⟩
  · show Q_chk Z cnt h0 n0 _ s₁.heap _
    rw [(e0 : s₁.heap = h0)]
    exact ⟨rfl, N0, rfl⟩
  · show Steps _ _ _ (s₁.setTop (mkF m 0 #[vI 0, vI cnt] [])) _
    refine XS.iloadN X0.here hx rfl (hb hby d301) rfl ?_
    refine XS.iloadN X0.here hx rfl (hb hby d302) rfl ?_
    refine XS.icmpYes X0.here hx rfl (pc0 := 2) (pc' := 37) rfl (hb hby d303) rfl (flt (h2 : ¬ (cnt < (0 : Int32)))).2.1 (by decide) (by decide) ?_
    exact X0.returnOut hx hret (hb hby d304) hr
theorem d305 : decode jdk_65_method_133_code 0 = .ok (.iload_n 1, 1) := by decide +kernel
theorem d306 : decode jdk_65_method_133_code 1 = .ok (.iload_n 2, 1) := by decide +kernel
theorem w_177 {Z : State} {a0 : Array Value} (hw : HW Z a0) : (Jvm.Cond.methodLink "java/util/Arrays" (343 : Nat) m_28).before a0 Z = true := hw _ (List.mem_of_getElem? (i := 177) rfl)
theorem w_179 {Z : State} {a0 : Array Value} (hw : HW Z a0) : (Jvm.Cond.code m_28 jdk_65_method_131_code (2 : Nat) (Option.none : Option Jvm.ClassFile.FieldType)).before a0 Z = true := hw _ (List.mem_of_getElem? (i := 179) rfl)
theorem pd_17 : parseMethodDescriptor "(II)V" = some ⟨[.int, .int], none⟩ := by decide +kernel
theorem d307 : decode jdk_65_method_133_code 2 = .ok (.invokestatic 343, 3) := by decide +kernel
theorem w_178 {Z : State} {a0 : Array Value} (hw : HW Z a0) : (Jvm.Cond.static m_28).before a0 Z = true := hw _ (List.mem_of_getElem? (i := 178) rfl)
theorem d308 : decode jdk_65_method_133_code 5 = .ok (.iload_n 2, 1) := by decide +kernel
theorem d309 : decode jdk_65_method_133_code 6 = .ok (.iload_n 1, 1) := by decide +kernel
theorem d310 : decode jdk_65_method_133_code 7 = .ok (.isub, 1) := by decide +kernel
theorem d311 : decode jdk_65_method_133_code 8 = .ok (.istore_n 3, 1) := by decide +kernel
theorem d312 : decode jdk_65_method_133_code 9 = .ok (.iload_n 3, 1) := by decide +kernel
theorem d313 : decode jdk_65_method_133_code 10 = .ok (.newarray .byte, 2) := by decide +kernel
theorem d314 : decode jdk_65_method_133_code 12 = .ok (.astore 4, 2) := by decide +kernel
theorem d315 : decode jdk_65_method_133_code 14 = .ok (.aload_n 0, 1) := by decide +kernel
theorem d316 : decode jdk_65_method_133_code 15 = .ok (.iload_n 1, 1) := by decide +kernel
theorem d317 : decode jdk_65_method_133_code 16 = .ok (.aload 4, 2) := by decide +kernel
theorem d318 : decode jdk_65_method_133_code 18 = .ok (.iconst 0, 1) := by decide +kernel
theorem d319 : decode jdk_65_method_133_code 19 = .ok (.aload_n 0, 1) := by decide +kernel
theorem d320 : decode jdk_65_method_133_code 20 = .ok (.arraylength, 1) := by decide +kernel
theorem d321 : decode jdk_65_method_133_code 21 = .ok (.iload_n 1, 1) := by decide +kernel
theorem d322 : decode jdk_65_method_133_code 22 = .ok (.isub, 1) := by decide +kernel
theorem d323 : decode jdk_65_method_133_code 23 = .ok (.iload_n 3, 1) := by decide +kernel
theorem d324 : decode jdk_65_method_133_code 24 = .ok (.invokestatic 304, 3) := by decide +kernel
theorem d325 : decode jdk_65_method_133_code 27 = .ok (.invokestatic 150, 3) := by decide +kernel
theorem d326 : decode jdk_65_method_133_code 30 = .ok (.aload 4, 2) := by decide +kernel
theorem d327 : decode jdk_65_method_133_code 32 = .ok (.areturn, 1) := by decide +kernel
theorem ef_13 (m : MethodId) (x0 : Addr) (x1 : Int32) (x2 : Int32) : entryFrame m #[(.ref x0), (.int x1), (.int x2)] 5 = mkF m 0 #[vA x0, vI x1, vI x2, .unset, .unset] [] := by first | (simp [entryFrame, mkF, argsToLocals, Value.category, maxLocals]; done) | rfl
abbrev m_29 : MethodName := (⟨"java/util/Arrays", "copyOfRangeByte", "([BII)[B"⟩ : MethodName)
def Q_corb (Z : State) (v_ : Addr) (kv : ClassId) (N : Int32) (cnt : Int32) (xs : List Value) (h0 : Heap) (n0 : Nat) (v : Option Value) (h : Heap) (L : List Loc) : Prop := ∃ (b : Addr) (k : ClassId), (v = some (.ref b)) ∧ (Fr n0 L) ∧ (Keep h0 h []) ∧ (h0.size ≤ b) ∧ (Arv Z h b k .byte cnt xs (.int 0))
theorem rm_corb (l : Launch) (Z : State) (a0 : Array Value) (hw : HW Z a0) (ws : List Jvm.Cond) (v_ : Addr) (kv : ClassId) (N : Int32) (cnt : Int32) (xs : List Value) (h0 : Heap) (n0 : Nat) (Z0 : n0 ≤ h0.size) (P0 : Arv Z h0 v_ kv .byte N xs (.int 0)) (h2 : ¬ cnt < 0) (hdp : cnt.toNatClampNeg = xs.length) (hlt : cnt < N) (h4 : cnt.toNatClampNeg ≤ N.toNatClampNeg) (hcap : cnt.toNatClampNeg ≤ 60) :
    MF l Z m_29 jdk_65_method_133_code 5 (some (.array .byte)) ws (oR 1 1 60 18) #[(.ref v_), (.int 0), (.int cnt)] h0 (Q_corb Z v_ kv N cnt xs h0 n0) := by
  refine own_body (cls := "java/util/Arrays") (plainFor_of_name pn_6) rfl (fun p e s m below meth c s₁ hx hby hml hown hnm hret hZ X0 e0 => ?_)
  have N0 := Fr.nil n0
  have K0 := Keep.refl h0 []
  have lt1 := own_l P0.lt
  obtain ⟨_, _, ⟨T2, L2, k2, n2⟩, -, X2, ⟨Lc2, hQ2, l2, y2, z2⟩, st2⟩ := Jvm.LawKit.callS X0 hx (y := m_28) hown (mvT hZ (w_177 hw)) (mvT hZ (w_178 hw)) (mvT hZ (w_172 hw)) (mvT hZ (w_179 hw)) (by decide) (backOf (W := 0) (rm_chk l Z a0 hw [] cnt h0 n0 (by omega) h2) hZ (w_179 hw) (w_172 hw) (by decide) (by decide)) (g := (mkF m 2 #[vA v_, vI 0, vI cnt, .unset, .unset] [(.int cnt), (.int 0)])) rfl (by rw [hml]; rfl) (argsL := [(.int 0), (.int cnt)]) (rest := []) (lenOf pd_17 rfl) rfl (Nat.le_of_eq rfl) (hb hby d307) (fun _ _ => ⟨rfl, e0, (by decide : 0 + 0 ≤ _), (by decide : 0 + 0 ≤ _)⟩)
  dsimp only [Pt.U, Pt.locs, Pt.cells, Pt.slots] at X2 l2 y2 z2 st2 hQ2
  rw [l2, y2, z2] at X2
  obtain ⟨rfl, Nq2, Kq2⟩ := hQ2
  have N2 := Fr.app N0 Nq2
  obtain ⟨T3, h3, k3, X3, e3, E3, A3, st3⟩ := newP X2 hx hZ (aty := .byte) (w_17 hw) Kq2 (g := (mkF m 10 #[vA v_, vI 0, vI cnt, vI cnt, .unset] [(.int cnt)])) rfl (hb hby d313) rfl h2 (cap := 60) hcap (by decide) (by decide) (by decide)
  obtain ⟨b3, g3⟩ : ∃ z, z = h0.size := ⟨_, rfl⟩
  rw [← g3] at A3 st3
  have z3 := E3.1
  have K3 := K0.ext E3
  have V3 : Arv Z h3 b3 k3 .byte cnt [] (.int 0) := Arv.new A3 h2
  have lt4 := own_l V3.lt
  have f6 := P0.ext E3
  obtain ⟨cl5, Ar5, q5, S5, M5, H5, G5⟩ := id f6
  obtain ⟨_, _, ⟨T7, L7, k7, n7⟩, -, X7, ⟨Lc7, hQ7, l7, y7, z7⟩, st7⟩ := Jvm.LawKit.callS X3 hx (y := m_9) hown (mvT hZ (w_180 hw)) (mvT hZ (w_181 hw)) (mvT hZ (w_182 hw)) (mvT hZ (w_183 hw)) (by decide) (backOf (W := 4) (rm_minS l Z a0 hw [] N cnt h3 n0 (by omega) hlt) hZ (w_183 hw) (w_182 hw) (by decide) (by decide)) (g := (mkF m 24 #[vA v_, vI 0, vI cnt, vI cnt, vA b3] [(.int cnt), (.int N), (.int 0), (.ref b3), (.int 0), (.ref v_)])) rfl (by rw [hml]; rfl) (argsL := [(.int N), (.int cnt)]) (rest := [(.int 0), (.ref b3), (.int 0), (.ref v_)]) (lenOf pd_4 rfl) rfl (Nat.le_of_eq rfl) (hb hby d324) (fun _ _ => ⟨rfl, e3, (by decide : 1 + 0 ≤ _), (by decide : 60 + 0 ≤ _)⟩)
  dsimp only [Pt.U, Pt.locs, Pt.cells, Pt.slots] at X7 l7 y7 z7 st7 hQ7
  rw [l7, y7, z7] at X7
  obtain ⟨rfl, Nq7, Kq7⟩ := hQ7
  have N7 := Fr.app N2 Nq7
  obtain ⟨T8, h8, L8, X8, e8, N8, Kq8, V8, st8⟩ := cpB X7 hx hZ hown (w_184 hw) (w_126 hw) (w_124 hw) (w_125 hw) Kq7 f6 V3 (by decide) h2 rfl (Nat.le_of_eq hdp.symm) h4 (by simp) N7 (by omega) (g := (mkF m 27 #[vA v_, vI 0, vI cnt, vI cnt, vA b3] [(.int cnt), (.int 0), (.ref b3), (.int 0), (.ref v_)])) rfl (by rw [hml]; rfl) rfl (hb hby d325) (by decide) (W := 0) (Nat.le_of_eq rfl) (by decide)
  replace V8 : Arv Z h8 b3 k3 .byte cnt xs (.int 0) := V8
  have z8' := Kq8.1
  have K8 := K3.trans Kq8 (allS (Or.inr (by omega)) all0)
  refine ⟨_, _, _, _, some (.ref b3), X8, by decide, by decide, nofun, ?_, fun fs hr => castTop (ef_13 m v_ (0 : Int32) cnt) ?_⟩
  · show Q_corb Z v_ kv N cnt xs h0 n0 _ T8.heap _
    rw [(e8 : T8.heap = h8)]
    exact ⟨b3, k3, rfl, N8, K8, (by omega), V8⟩
  · show Steps _ _ _ (s₁.setTop (mkF m 0 #[vA v_, vI 0, vI cnt, .unset, .unset] [])) _
    refine XS.iloadN X0.here hx rfl (hb hby d305) rfl ?_
    refine XS.iloadN X0.here hx rfl (hb hby d306) rfl ?_
    refine st2 _ ?_
    show Steps _ _ _ (T2.setTop (mkF m 5 #[vA v_, vI 0, vI cnt, .unset, .unset] [])) _
    refine XS.iloadN X2.here hx rfl (hb hby d308) rfl ?_
    refine XS.iloadN X2.here hx rfl (hb hby d309) rfl ?_
    refine XS.isub X2.here hx rfl (hb hby d310) rfl ?_
    show Steps _ _ _ (T2.setTop (mkF m 8 #[vA v_, vI 0, vI cnt, .unset, .unset] [(.int (cnt - (0 : Int32)))])) _
    rw [own_sub0]
    show Steps _ _ _ (T2.setTop (mkF m 8 #[vA v_, vI 0, vI cnt, .unset, .unset] [(.int cnt)])) _
    refine XS.istoreN X2.here hx rfl (hb hby d311) rfl (l' := #[vA v_, vI 0, vI cnt, vI cnt, .unset]) rfl ?_
    refine XS.iloadN X2.here hx rfl (hb hby d312) rfl ?_
    refine st3 _ ?_
    show Steps _ _ _ (T3.setTop (mkF m 12 #[vA v_, vI 0, vI cnt, vI cnt, .unset] [(.ref b3)])) _
    refine XS.astore X3.here hx rfl (hb hby d314) rfl rfl (l' := #[vA v_, vI 0, vI cnt, vI cnt, vA b3]) rfl ?_
    refine XS.aloadN X3.here hx rfl (hb hby d315) rfl rfl ?_
    refine XS.iloadN X3.here hx rfl (hb hby d316) rfl ?_
    refine XS.aload X3.here hx rfl (hb hby d317) rfl rfl ?_
    refine XS.iconst X3.here hx rfl (hb hby d318) ?_
    refine XS.aloadN X3.here hx rfl (hb hby d319) rfl rfl ?_
    refine X3.arraylength hx (by rw [e3]; exact Ar5.1) (State.isArrayOf_alike hZ.alike Ar5.2.1) (g := (mkF m 20 #[vA v_, vI 0, vI cnt, vI cnt, vA b3] [(.ref v_), (.int 0), (.ref b3), (.int 0), (.ref v_)])) rfl rfl (hb hby d320) _ ?_
    rw [len_of S5 M5]
    show Steps _ _ _ (T3.setTop (mkF m 21 #[vA v_, vI 0, vI cnt, vI cnt, vA b3] [(.int N), (.int 0), (.ref b3), (.int 0), (.ref v_)])) _
    refine XS.iloadN X3.here hx rfl (hb hby d321) rfl ?_
    refine XS.isub X3.here hx rfl (hb hby d322) rfl ?_
    show Steps _ _ _ (T3.setTop (mkF m 23 #[vA v_, vI 0, vI cnt, vI cnt, vA b3] [(.int (N - (0 : Int32))), (.int 0), (.ref b3), (.int 0), (.ref v_)])) _
    rw [own_sub0]
    show Steps _ _ _ (T3.setTop (mkF m 23 #[vA v_, vI 0, vI cnt, vI cnt, vA b3] [(.int N), (.int 0), (.ref b3), (.int 0), (.ref v_)])) _
    refine XS.iloadN X3.here hx rfl (hb hby d323) rfl ?_
    refine st7 _ ?_
    show Steps _ _ _ (T7.setTop (mkF m 27 #[vA v_, vI 0, vI cnt, vI cnt, vA b3] [(.int cnt), (.int 0), (.ref b3), (.int 0), (.ref v_)])) _
    refine st8 _ ?_
    show Steps _ _ _ (T8.setTop (mkF m 30 #[vA v_, vI 0, vI cnt, vI cnt, vA b3] [])) _
    refine XS.aload X8.here hx rfl (hb hby d326) rfl rfl ?_
    exact retOut X8 hx hret (own_narrow_ref rfl) (Or.inr (Or.inr (Or.inr (Or.inr ⟨rfl, rfl, rfl⟩)))) (hb hby d327) hr
theorem d328 : decode jdk_65_method_132_code 0 = .ok (.iload_n 1, 1) := by decide +kernel
theorem d329 : decode jdk_65_method_132_code 1 = .ok (.ifCond .ne 9, 3) := by decide +kernel
theorem d330 : decode jdk_65_method_132_code 4 = .ok (.iload_n 2, 1) := by decide +kernel
theorem d331 : decode jdk_65_method_132_code 5 = .ok (.aload_n 0, 1) := by decide +kernel
theorem d332 : decode jdk_65_method_132_code 6 = .ok (.arraylength, 1) := by decide +kernel
theorem d333 : decode jdk_65_method_132_code 7 = .ok (.if_icmp .eq 10, 3) := by decide +kernel
theorem d334 : decode jdk_65_method_132_code 10 = .ok (.aload_n 0, 1) := by decide +kernel
theorem d335 : decode jdk_65_method_132_code 11 = .ok (.iload_n 1, 1) := by decide +kernel
theorem d336 : decode jdk_65_method_132_code 12 = .ok (.iload_n 2, 1) := by decide +kernel
theorem w_174 {Z : State} {a0 : Array Value} (hw : HW Z a0) : (Jvm.Cond.methodLink "java/util/Arrays" (339 : Nat) m_29).before a0 Z = true := hw _ (List.mem_of_getElem? (i := 174) rfl)
theorem w_176 {Z : State} {a0 : Array Value} (hw : HW Z a0) : (Jvm.Cond.code m_29 jdk_65_method_133_code (5 : Nat) (Option.some (FieldType.array FieldType.byte))).before a0 Z = true := hw _ (List.mem_of_getElem? (i := 176) rfl)
theorem pd_18 : parseMethodDescriptor "([BII)[B" = some ⟨[(.array .byte), .int, .int], some (.array .byte)⟩ := by decide +kernel
theorem d337 : decode jdk_65_method_132_code 13 = .ok (.invokestatic 339, 3) := by decide +kernel
theorem w_175 {Z : State} {a0 : Array Value} (hw : HW Z a0) : (Jvm.Cond.static m_29).before a0 Z = true := hw _ (List.mem_of_getElem? (i := 175) rfl)
theorem d338 : decode jdk_65_method_132_code 16 = .ok (.areturn, 1) := by decide +kernel
theorem ef_14 (m : MethodId) (x0 : Addr) (x1 : Int32) (x2 : Int32) : entryFrame m #[(.ref x0), (.int x1), (.int x2)] 3 = mkF m 0 #[vA x0, vI x1, vI x2] [] := by first | (simp [entryFrame, mkF, argsToLocals, Value.category, maxLocals]; done) | rfl
abbrev m_30 : MethodName := (⟨"java/util/Arrays", "copyOfRange", "([BII)[B"⟩ : MethodName)
def Q_cor (Z : State) (v_ : Addr) (kv : ClassId) (N : Int32) (cnt : Int32) (xs : List Value) (h0 : Heap) (n0 : Nat) (v : Option Value) (h : Heap) (L : List Loc) : Prop := ∃ (b : Addr) (k : ClassId), (v = some (.ref b)) ∧ (Fr n0 L) ∧ (Keep h0 h []) ∧ (h0.size ≤ b) ∧ (Arv Z h b k .byte cnt xs (.int 0))
theorem rm_cor (l : Launch) (Z : State) (a0 : Array Value) (hw : HW Z a0) (ws : List Jvm.Cond) (v_ : Addr) (kv : ClassId) (N : Int32) (cnt : Int32) (xs : List Value) (h0 : Heap) (n0 : Nat) (Z0 : n0 ≤ h0.size) (P0 : Arv Z h0 v_ kv .byte N xs (.int 0)) (h2 : ¬ cnt < 0) (hdp : cnt.toNatClampNeg = xs.length) (hlt : cnt < N) (h4 : cnt.toNatClampNeg ≤ N.toNatClampNeg) (hcap : cnt.toNatClampNeg ≤ 60) (hne : ¬ (cnt = N)) :
    MF l Z m_30 jdk_65_method_132_code 3 (some (.array .byte)) ws (oR 2 1 60 34) #[(.ref v_), (.int 0), (.int cnt)] h0 (Q_cor Z v_ kv N cnt xs h0 n0) := by
  refine own_body (cls := "java/util/Arrays") (plainFor_of_name pn_6) rfl (fun p e s m below meth c s₁ hx hby hml hown hnm hret hZ X0 e0 => ?_)
  have N0 := Fr.nil n0
  have K0 := Keep.refl h0 []
  have lt1 := own_l P0.lt
  obtain ⟨cl2, Ar2, q2, S2, M2, H2, G2⟩ := id P0
  obtain ⟨_, _, ⟨T3, L3, k3, n3⟩, -, X3, ⟨Lc3, hQ3, l3, y3, z3⟩, st3⟩ := Jvm.LawKit.callS X0 hx (y := m_29) hown (mvT hZ (w_174 hw)) (mvT hZ (w_175 hw)) (mvT hZ (w_172 hw)) (mvT hZ (w_176 hw)) (by decide) (backOf (W := 0) (rm_corb l Z a0 hw [] v_ kv N cnt xs h0 n0 (by omega) P0 h2 hdp hlt h4 hcap) hZ (w_176 hw) (w_172 hw) (by decide) (by decide)) (g := (mkF m 13 #[vA v_, vI 0, vI cnt] [(.int cnt), (.int 0), (.ref v_)])) rfl (by rw [hml]; rfl) (argsL := [(.ref v_), (.int 0), (.int cnt)]) (rest := []) (lenOf pd_18 rfl) rfl (Nat.le_of_eq rfl) (hb hby d337) (fun _ _ => ⟨rfl, e0, (by decide : 0 + 1 ≤ _), (by decide : 0 + 60 ≤ _)⟩)
  dsimp only [Pt.U, Pt.locs, Pt.cells, Pt.slots] at X3 l3 y3 z3 st3 hQ3
  rw [l3, y3, z3] at X3
  obtain ⟨x3_b, x3_k, rfl, Nq3, Kq3, r3_0, r3_1⟩ := hQ3
  have N3 := Fr.app N0 Nq3
  have z3' := Kq3.1
  have K3 := K0.trans Kq3 all0
  have lt4 := own_l r3_1.lt
  refine ⟨_, _, _, _, some (.ref x3_b), X3, by decide, by decide, nofun, ?_, fun fs hr => castTop (ef_14 m v_ (0 : Int32) cnt) ?_⟩
  · show Q_cor Z v_ kv N cnt xs h0 n0 _ T3.heap _
    exact ⟨x3_b, x3_k, rfl, N3, K3, (by omega), r3_1⟩
  · show Steps _ _ _ (s₁.setTop (mkF m 0 #[vA v_, vI 0, vI cnt] [])) _
    refine XS.iloadN X0.here hx rfl (hb hby d328) rfl ?_
    refine XS.ifNo X0.here hx rfl (hb hby d329) rfl ((if0 _ _).trans (teq ((by decide) : (0 : Int32) = (0 : Int32))).2) ?_
    refine XS.iloadN X0.here hx rfl (hb hby d330) rfl ?_
    refine XS.aloadN X0.here hx rfl (hb hby d331) rfl rfl ?_
    refine X0.arraylength hx (by rw [e0]; exact Ar2.1) (State.isArrayOf_alike hZ.alike Ar2.2.1) (g := (mkF m 6 #[vA v_, vI 0, vI cnt] [(.ref v_), (.int cnt)])) rfl rfl (hb hby d332) _ ?_
    rw [len_of S2 M2]
    show Steps _ _ _ (s₁.setTop (mkF m 7 #[vA v_, vI 0, vI cnt] [(.int N), (.int cnt)])) _
    refine XS.icmpNo X0.here hx rfl (hb hby d333) rfl (feq (hne : ¬ (cnt = N))).1 ?_
    refine XS.aloadN X0.here hx rfl (hb hby d334) rfl rfl ?_
    refine XS.iloadN X0.here hx rfl (hb hby d335) rfl ?_
    refine XS.iloadN X0.here hx rfl (hb hby d336) rfl ?_
    refine st3 _ ?_
    show Steps _ _ _ (T3.setTop (mkF m 16 #[vA v_, vI 0, vI cnt] [(.ref x3_b)])) _
    exact retOut X3 hx hret (own_narrow_ref rfl) (Or.inr (Or.inr (Or.inr (Or.inr ⟨rfl, rfl, rfl⟩)))) (hb hby d338) hr
theorem d339 : decode jdk_42_method_150_code 0 = .ok (.aload_n 0, 1) := by decide +kernel
theorem d340 : decode jdk_42_method_150_code 1 = .ok (.invokespecial 1, 3) := by decide +kernel
theorem d341 : decode jdk_42_method_150_code 4 = .ok (.aload_n 1, 1) := by decide +kernel
theorem w_156 {Z : State} {a0 : Array Value} (hw : HW Z a0) : (Jvm.Cond.methodLink "java/lang/String" (552 : Nat) m_25).before a0 Z = true := hw _ (List.mem_of_getElem? (i := 156) rfl)
theorem w_160 {Z : State} {a0 : Array Value} (hw : HW Z a0) : (Jvm.Cond.code m_25 jdk_68_method_64_code (1 : Nat) (Option.some (FieldType.array FieldType.byte))).before a0 Z = true := hw _ (List.mem_of_getElem? (i := 160) rfl)
theorem pd_19 : parseMethodDescriptor "()[B" = some ⟨[], some (.array .byte)⟩ := by decide +kernel
theorem d342 : decode jdk_42_method_150_code 5 = .ok (.invokevirtual 552, 3) := by decide +kernel
theorem w_159 {Z : State} {a0 : Array Value} (hw : HW Z a0) : (Jvm.Cond.selects "java/lang/StringBuilder" m_25 m_25).before a0 Z = true := hw _ (List.mem_of_getElem? (i := 159) rfl)
theorem w_157 {Z : State} {a0 : Array Value} (hw : HW Z a0) : (Jvm.Cond.declares m_25).before a0 Z = true := hw _ (List.mem_of_getElem? (i := 157) rfl)
theorem w_158 {Z : State} {a0 : Array Value} (hw : HW Z a0) : (Jvm.Cond.instanceMethod m_25).before a0 Z = true := hw _ (List.mem_of_getElem? (i := 158) rfl)
theorem d343 : decode jdk_42_method_150_code 8 = .ok (.astore_n 3, 1) := by decide +kernel
theorem d344 : decode jdk_42_method_150_code 9 = .ok (.aload_n 1, 1) := by decide +kernel
theorem w_161 {Z : State} {a0 : Array Value} (hw : HW Z a0) : (Jvm.Cond.methodLink "java/lang/String" (549 : Nat) m_26).before a0 Z = true := hw _ (List.mem_of_getElem? (i := 161) rfl)
theorem w_166 {Z : State} {a0 : Array Value} (hw : HW Z a0) : (Jvm.Cond.code m_27 jdk_67_method_93_code (1 : Nat) (Option.some FieldType.int)).before a0 Z = true := hw _ (List.mem_of_getElem? (i := 166) rfl)
theorem d345 : decode jdk_42_method_150_code 10 = .ok (.invokevirtual 549, 3) := by decide +kernel
theorem w_164 {Z : State} {a0 : Array Value} (hw : HW Z a0) : (Jvm.Cond.selects "java/lang/StringBuilder" m_26 m_27).before a0 Z = true := hw _ (List.mem_of_getElem? (i := 164) rfl)
theorem w_162 {Z : State} {a0 : Array Value} (hw : HW Z a0) : (Jvm.Cond.declares m_26).before a0 Z = true := hw _ (List.mem_of_getElem? (i := 162) rfl)
theorem w_165 {Z : State} {a0 : Array Value} (hw : HW Z a0) : (Jvm.Cond.instanceMethod m_27).before a0 Z = true := hw _ (List.mem_of_getElem? (i := 165) rfl)
theorem d346 : decode jdk_42_method_150_code 13 = .ok (.istore 4, 2) := by decide +kernel
theorem d347 : decode jdk_42_method_150_code 15 = .ok (.aload_n 1, 1) := by decide +kernel
theorem w_169 {Z : State} {a0 : Array Value} (hw : HW Z a0) : (Jvm.Cond.methodLink "java/lang/String" (1047 : Nat) m_20).before a0 Z = true := hw _ (List.mem_of_getElem? (i := 169) rfl)
theorem d348 : decode jdk_42_method_150_code 16 = .ok (.invokevirtual 1047, 3) := by decide +kernel
theorem d349 : decode jdk_42_method_150_code 19 = .ok (.ifCond .eq 22, 3) := by decide +kernel
theorem d350 : decode jdk_42_method_150_code 22 = .ok (.aload_n 0, 1) := by decide +kernel
theorem d351 : decode jdk_42_method_150_code 23 = .ok (.iconst 0, 1) := by decide +kernel
theorem d352 : decode jdk_42_method_150_code 24 = .ok (.putfield 15, 3) := by decide +kernel
theorem d353 : decode jdk_42_method_150_code 27 = .ok (.aload_n 0, 1) := by decide +kernel
theorem d354 : decode jdk_42_method_150_code 28 = .ok (.aload_n 3, 1) := by decide +kernel
theorem d355 : decode jdk_42_method_150_code 29 = .ok (.iconst 0, 1) := by decide +kernel
theorem d356 : decode jdk_42_method_150_code 30 = .ok (.iload 4, 2) := by decide +kernel
theorem w_170 {Z : State} {a0 : Array Value} (hw : HW Z a0) : (Jvm.Cond.methodLink "java/lang/String" (54 : Nat) m_30).before a0 Z = true := hw _ (List.mem_of_getElem? (i := 170) rfl)
theorem w_173 {Z : State} {a0 : Array Value} (hw : HW Z a0) : (Jvm.Cond.code m_30 jdk_65_method_132_code (3 : Nat) (Option.some (FieldType.array FieldType.byte))).before a0 Z = true := hw _ (List.mem_of_getElem? (i := 173) rfl)
theorem d357 : decode jdk_42_method_150_code 32 = .ok (.invokestatic 54, 3) := by decide +kernel
theorem w_171 {Z : State} {a0 : Array Value} (hw : HW Z a0) : (Jvm.Cond.static m_30).before a0 Z = true := hw _ (List.mem_of_getElem? (i := 171) rfl)
theorem d358 : decode jdk_42_method_150_code 35 = .ok (.putfield 9, 3) := by decide +kernel
theorem d359 : decode jdk_42_method_150_code 38 = .ok (.goto 59, 3) := by decide +kernel
theorem d360 : decode jdk_42_method_150_code 97 = .ok (.return_, 1) := by decide +kernel
theorem ef_15 (m : MethodId) (x0 : Addr) (x1 : Addr) : entryFrame m #[(.ref x0), (.ref x1), .null] 5 = mkF m 0 #[vA x0, vA x1, .val .null, .unset, .unset] [] := by first | (simp [entryFrame, mkF, argsToLocals, Value.category, maxLocals]; done) | rfl
abbrev m_31 : MethodName := (⟨"java/lang/String", "<init>", "(Ljava/lang/AbstractStringBuilder;Ljava/lang/Void;)V"⟩ : MethodName)
def Q_sab (Z : State) (r : Addr) (u : Value) (c0 : Int32) (cp : Int32) (a_ : Addr) (v_ : Addr) (kv : ClassId) (N : Int32) (cnt : Int32) (xs : List Value) (h0 : Heap) (n0 : Nat) (v : Option Value) (h : Heap) (L : List Loc) : Prop := ∃ (b : Addr) (k : ClassId), (v = none) ∧ (Fr n0 L) ∧ (Keep h0 h [r]) ∧ (h0.size ≤ b) ∧ (Exa Z h r "java/lang/String") ∧ (fld0 Z h r (.ref b)) ∧ (fld1 Z h r (.int 0)) ∧ (Arv Z h b k .byte cnt xs (.int 0)) ∧ (Old Z n0 h)
theorem rm_sab (l : Launch) (Z : State) (a0 : Array Value) (hw : HW Z a0) (ws : List Jvm.Cond) (r : Addr) (u : Value) (c0 : Int32) (cp : Int32) (a_ : Addr) (v_ : Addr) (kv : ClassId) (N : Int32) (cnt : Int32) (xs : List Value) (h0 : Heap) (n0 : Nat) (Z0 : n0 ≤ h0.size) (P0 : Old Z n0 h0) (P1 : sta0 Z (.int cp)) (P2 : Exa Z h0 r "java/lang/String") (P3 : fld0 Z h0 r u) (P4 : fld1 Z h0 r (.int c0)) (P5 : n0 ≤ r) (P6 : Exa Z h0 a_ "java/lang/StringBuilder") (P7 : fld2 Z h0 a_ (.ref v_)) (P8 : fld3 Z h0 a_ (.int 0)) (P9 : fld4 Z h0 a_ (.int cnt)) (P10 : Arv Z h0 v_ kv .byte N xs (.int 0)) (P11 : r ≠ v_) (P12 : r ≠ a_) (hcs : ¬ (cp = (0 : Int32))) (h2 : ¬ cnt < 0) (hdp : cnt.toNatClampNeg = xs.length) (hlt : cnt < N) (h4 : cnt.toNatClampNeg ≤ N.toNatClampNeg) (hcap : cnt.toNatClampNeg ≤ 60) (hne : ¬ (cnt = N)) :
    MF l Z m_31 jdk_42_method_150_code 5 none ws (oR 3 1 60 49) #[(.ref r), (.ref a_), .null] h0 (Q_sab Z r u c0 cp a_ v_ kv N cnt xs h0 n0) := by
  refine own_body (cls := "java/lang/String") (plainFor_of_name pn_1) rfl (fun p e s m below meth c s₁ hx hby hml hown hnm hret hZ X0 e0 => ?_)
  have N0 := Fr.nil n0
  have K0 := Keep.refl h0 [r]
  have lt1 := own_l P2.lt
  have lt2 := own_l P3.lt
  have lt3 := own_l P4.lt
  have lt4 := own_l P6.lt
  have lt5 := own_l P7.lt
  have lt6 := own_l P8.lt
  have lt7 := own_l P9.lt
  have lt8 := own_l P10.lt
  obtain ⟨T9, X9, e9, st9⟩ := initO X0 hx hZ hown (w_22 hw) (w_23 hw) (w_24 hw) e0 (g := (mkF m 1 #[vA r, vA a_, .val .null, .unset, .unset] [(.ref r)])) rfl (by rw [hml]; rfl) rfl (hb hby d340) (by decide) (W := 0) (Nat.le_of_eq rfl) (by decide)
  obtain ⟨cq10, kq10, qa10, qb10, qc10⟩ := isOf hZ e9 P6
  obtain ⟨_, _, ⟨T10, L10, k10, n10⟩, -, X10, ⟨Lc10, hQ10, l10, y10, z10⟩, st10⟩ := X9.virtualBack hx (y := m_25) (z := m_25) hown (mvT hZ (w_156 hw)) (mvT hZ (w_157 hw)) (notFace_of_selects (args := #[]) (mvT hZ (w_159 hw))) (mvT hZ (w_159 hw)) (mvT hZ (w_158 hw)) (by decide) (backOf (W := 0) (rm_getV l Z a0 hw [] a_ v_ h0 n0 (by omega) P7) hZ (w_160 hw) (w_67 hw) (by decide) (by decide)) qa10 qc10 (g := (mkF m 5 #[vA r, vA a_, .val .null, .unset, .unset] [(.ref a_)])) rfl (by rw [hml]; rfl) (Steps.refl _) (argsL := []) (rest := []) (lenOf pd_19 rfl) rfl (Nat.le_of_eq rfl) (hb hby d342) (fun _ _ => ⟨rfl, e9, (by decide : 0 + 0 ≤ _), (by decide : 0 + 0 ≤ _)⟩)
  dsimp only [Pt.U, Pt.locs, Pt.cells, Pt.slots] at X10 l10 y10 z10 st10 hQ10
  rw [l10, y10, z10] at X10
  obtain ⟨rfl, Nq10, Kq10⟩ := hQ10
  have N10 := Fr.app N0 Nq10
  obtain ⟨cq11, kq11, qa11, qb11, qc11⟩ := isOf hZ Kq10 P6
  obtain ⟨_, _, ⟨T11, L11, k11, n11⟩, -, X11, ⟨Lc11, hQ11, l11, y11, z11⟩, st11⟩ := X10.virtualBack hx (y := m_26) (z := m_27) hown (mvT hZ (w_161 hw)) (mvT hZ (w_162 hw)) (own_nf (a0 := #[]) (mvT hZ (w_103 hw)) (notFace_of_selects (args := #[]) (mvT hZ (w_105 hw))) rfl) (mvT hZ (w_164 hw)) (mvT hZ (w_165 hw)) (by decide) (backOf (W := 0) (rm_blen l Z a0 hw [] a_ cnt h0 n0 (by omega) P6 P9) hZ (w_166 hw) (w_58 hw) (by decide) (by decide)) qa11 qc11 (g := (mkF m 10 #[vA r, vA a_, .val .null, vA v_, .unset] [(.ref a_)])) rfl (by rw [hml]; rfl) (Steps.refl _) (argsL := []) (rest := []) (lenOf pd_10 rfl) rfl (Nat.le_of_eq rfl) (hb hby d345) (fun _ _ => ⟨rfl, Kq10, (by decide : 0 + 0 ≤ _), (by decide : 0 + 0 ≤ _)⟩)
  dsimp only [Pt.U, Pt.locs, Pt.cells, Pt.slots] at X11 l11 y11 z11 st11 hQ11
  rw [l11, y11, z11] at X11
  obtain ⟨rfl, Nq11, Kq11⟩ := hQ11
  have N11 := Fr.app N10 Nq11
  obtain ⟨cq12, kq12, qa12, qb12, qc12⟩ := isOf hZ Kq11 P6
  obtain ⟨_, _, ⟨T12, L12, k12, n12⟩, -, X12, ⟨Lc12, hQ12, l12, y12, z12⟩, st12⟩ := X11.virtualBack hx (y := m_20) (z := m_20) hown (mvT hZ (w_169 hw)) (mvT hZ (w_139 hw)) (notFace_of_selects (args := #[]) (mvT hZ (w_141 hw))) (mvT hZ (w_141 hw)) (mvT hZ (w_140 hw)) (by decide) (backOf (W := 0) (rm_isL l Z a0 hw [] a_ cp h0 n0 (by omega) P0 P1 P8 hcs) hZ (w_142 hw) (w_67 hw) (by decide) (by decide)) qa12 qc12 (g := (mkF m 16 #[vA r, vA a_, .val .null, vA v_, vI cnt] [(.ref a_)])) rfl (by rw [hml]; rfl) (Steps.refl _) (argsL := []) (rest := []) (lenOf pd_15 rfl) rfl (Nat.le_of_eq rfl) (hb hby d348) (fun _ _ => ⟨rfl, Kq11, (by decide : 0 + 0 ≤ _), (by decide : 0 + 0 ≤ _)⟩)
  dsimp only [Pt.U, Pt.locs, Pt.cells, Pt.slots] at X12 l12 y12 z12 st12 hQ12
  rw [l12, y12, z12] at X12
  obtain ⟨rfl, Nq12, Kq12⟩ := hQ12
  have N12 := Fr.app N11 Nq12
  obtain ⟨T13, h13, X13, e13, W13, st13⟩ := putFN X12 hx hZ hown (w_27 hw) Via.refl Kq12 P4 P2 (Or.inr ⟨(w_28 hw), rfl, hnm⟩) (w_13 hw) (ty := .byte) (v' := (.int 0)) (by decide) rfl rfl (g := (mkF m 24 #[vA r, vA a_, .val .null, vA v_, vI cnt] [(.int 0), (.ref r)])) rfl rfl (hb hby d352)
  have F13 := P4.same W13
  have z13 := W13.size
  have K13 := K0.wr W13 (Or.inl (List.mem_of_getElem? (i := 0) rfl))
  have N13 := Fr.snoc X13 N12 (by omega)
  have f15 := P10.other W13 (fun q => P11 q.symm)
  obtain ⟨_, _, ⟨T14, L14, k14, n14⟩, -, X14, ⟨Lc14, hQ14, l14, y14, z14⟩, st14⟩ := Jvm.LawKit.callS X13 hx (y := m_30) hown (mvT hZ (w_170 hw)) (mvT hZ (w_171 hw)) (mvT hZ (w_172 hw)) (mvT hZ (w_173 hw)) (by decide) (backOf (W := 1) (rm_cor l Z a0 hw [] v_ kv N cnt xs h13 n0 (by omega) f15 h2 hdp hlt h4 hcap hne) hZ (w_173 hw) (w_172 hw) (by decide) (by decide)) (g := (mkF m 32 #[vA r, vA a_, .val .null, vA v_, vI cnt] [(.int cnt), (.int 0), (.ref v_), (.ref r)])) rfl (by rw [hml]; rfl) (argsL := [(.ref v_), (.int 0), (.int cnt)]) (rest := [(.ref r)]) (lenOf pd_18 rfl) rfl (Nat.le_of_eq rfl) (hb hby d357) (fun _ _ => ⟨rfl, e13, (by decide : 0 + 1 ≤ _), (by decide : 0 + 60 ≤ _)⟩)
  dsimp only [Pt.U, Pt.locs, Pt.cells, Pt.slots] at X14 l14 y14 z14 st14 hQ14
  rw [l14, y14, z14] at X14
  obtain ⟨x14_b, x14_k, rfl, Nq14, Kq14, r14_0, r14_1⟩ := hQ14
  have N14 := Fr.app N13 Nq14
  have z14' := Kq14.1
  have K14 := K13.trans Kq14 all0
  have lt16 := own_l r14_1.lt
  have f18 := P3.other W13 (Or.inr (slot_ne (a0 := a0) (t := (.array .byte)) (t' := .byte) (Or.inr (w_26 hw)) (Or.inr (w_28 hw)) (by decide) (by decide) (by decide)))
  have f19 := f18.keep Kq14 nin0
  have f20 := P2.wr W13
  have f21 := f20.keep Kq14
  obtain ⟨T17, h17, X17, e17, W17, st17⟩ := putF X14 hx hZ hown (host := "") (Or.inl (w_25 hw)) Via.refl rfl f19 f21 (Or.inr ⟨(w_26 hw), rfl, hnm⟩) (w_13 hw) (ty := (.array .byte)) (by decide) rfl rfl (g := (mkF m 35 #[vA r, vA a_, .val .null, vA v_, vI cnt] [(.ref x14_b), (.ref r)])) rfl rfl (hb hby d358)
  have F17 := f19.same W17
  have z17 := W17.size
  have K17 := K14.wr W17 (Or.inl (List.mem_of_getElem? (i := 0) rfl))
  have N17 := Fr.snoc X17 N14 (by omega)
  have f22 := f21.wr W17
  have f23 := F13.keep Kq14 nin0
  have f24 := f23.other W17 (Or.inr (slot_ne (a0 := a0) (t := .byte) (t' := (.array .byte)) (Or.inr (w_28 hw)) (Or.inr (w_26 hw)) (by decide) (by decide) (by decide)))
  have f25 := r14_1.other W17 (own_ne (by omega))
  have f26 := P0.wr W13 (by omega)
  have f27 := f26.keep Kq14 all0
  have f28 := f27.wr W17 (by omega)
  refine ⟨_, _, _, _, none, X17, by decide, by decide, fun _ => rfl, ?_, fun fs hr => castTop (ef_15 m r a_) ?_⟩
  · show Q_sab Z r u c0 cp a_ v_ kv N cnt xs h0 n0 _ T17.heap _
    rw [(e17 : T17.heap = h17)]
    exact ⟨x14_b, x14_k, rfl, N17, K17, (by omega), f22, F17, f24, f25, f28⟩
  · show Steps _ _ _ (s₁.setTop (mkF m 0 #[vA r, vA a_, .val .null, .unset, .unset] [])) _
    refine XS.aloadN X0.here hx rfl (hb hby d339) rfl rfl ?_
    refine st9 _ ?_
    show Steps _ _ _ (T9.setTop (mkF m 4 #[vA r, vA a_, .val .null, .unset, .unset] [])) _
    refine XS.aloadN X9.here hx rfl (hb hby d341) rfl rfl ?_
    refine st10.trans ?_
    show Steps _ _ _ (T10.setTop (mkF m 8 #[vA r, vA a_, .val .null, .unset, .unset] [(.ref v_)])) _
    refine XS.astoreN X10.here hx rfl (hb hby d343) rfl rfl (l' := #[vA r, vA a_, .val .null, vA v_, .unset]) rfl ?_
    refine XS.aloadN X10.here hx rfl (hb hby d344) rfl rfl ?_
    refine st11.trans ?_
    show Steps _ _ _ (T11.setTop (mkF m 13 #[vA r, vA a_, .val .null, vA v_, .unset] [(.int cnt)])) _
    refine XS.istore X11.here hx rfl (hb hby d346) rfl (l' := #[vA r, vA a_, .val .null, vA v_, vI cnt]) rfl ?_
    refine XS.aloadN X11.here hx rfl (hb hby d347) rfl rfl ?_
    refine st12.trans ?_
    show Steps _ _ _ (T12.setTop (mkF m 19 #[vA r, vA a_, .val .null, vA v_, vI cnt] [(.int 1)])) _
    refine XS.ifNo X12.here hx rfl (hb hby d349) rfl ((if0 _ _).trans (feq ((by decide) : ¬ ((1 : Int32) = (0 : Int32)))).1) ?_
    refine XS.aloadN X12.here hx rfl (hb hby d350) rfl rfl ?_
    refine XS.iconst X12.here hx rfl (hb hby d351) ?_
    refine st13 _ ?_
    show Steps _ _ _ (T13.setTop (mkF m 27 #[vA r, vA a_, .val .null, vA v_, vI cnt] [])) _
    refine XS.aloadN X13.here hx rfl (hb hby d353) rfl rfl ?_
    refine XS.aloadN X13.here hx rfl (hb hby d354) rfl rfl ?_
    refine XS.iconst X13.here hx rfl (hb hby d355) ?_
    refine XS.iload X13.here hx rfl (hb hby d356) rfl ?_
    refine st14 _ ?_
    show Steps _ _ _ (T14.setTop (mkF m 35 #[vA r, vA a_, .val .null, vA v_, vI cnt] [(.ref x14_b), (.ref r)])) _
    refine st17 _ ?_
    show Steps _ _ _ (T17.setTop (mkF m 38 #[vA r, vA a_, .val .null, vA v_, vI cnt] [])) _
    refine XS.goto X17.here hx rfl (pc0 := 38) (pc' := 97) rfl (hb hby d359) (by decide) (by decide) ?_
    exact X17.returnOut hx hret (hb hby d360) hr
theorem d361 : decode jdk_42_method_53_code 0 = .ok (.aload_n 0, 1) := by decide +kernel
theorem d362 : decode jdk_42_method_53_code 1 = .ok (.aload_n 1, 1) := by decide +kernel
theorem d363 : decode jdk_42_method_53_code 2 = .ok (.aconst_null, 1) := by decide +kernel
theorem w_153 {Z : State} {a0 : Array Value} (hw : HW Z a0) : (Jvm.Cond.methodLink "java/lang/String" (489 : Nat) m_31).before a0 Z = true := hw _ (List.mem_of_getElem? (i := 153) rfl)
theorem w_155 {Z : State} {a0 : Array Value} (hw : HW Z a0) : (Jvm.Cond.code m_31 jdk_42_method_150_code (5 : Nat) (Option.none : Option Jvm.ClassFile.FieldType)).before a0 Z = true := hw _ (List.mem_of_getElem? (i := 155) rfl)
theorem pd_20 : parseMethodDescriptor "(Ljava/lang/AbstractStringBuilder;Ljava/lang/Void;)V" = some ⟨[(.object "java/lang/AbstractStringBuilder"), (.object "java/lang/Void")], none⟩ := by decide +kernel
theorem d364 : decode jdk_42_method_53_code 3 = .ok (.invokespecial 489, 3) := by decide +kernel
theorem w_154 {Z : State} {a0 : Array Value} (hw : HW Z a0) : (Jvm.Cond.instanceMethod m_31).before a0 Z = true := hw _ (List.mem_of_getElem? (i := 154) rfl)
theorem d365 : decode jdk_42_method_53_code 6 = .ok (.return_, 1) := by decide +kernel
abbrev m_32 : MethodName := (⟨"java/lang/String", "<init>", "(Ljava/lang/StringBuilder;)V"⟩ : MethodName)
def Q_ssb (Z : State) (r : Addr) (u : Value) (c0 : Int32) (cp : Int32) (a_ : Addr) (v_ : Addr) (kv : ClassId) (N : Int32) (cnt : Int32) (xs : List Value) (h0 : Heap) (n0 : Nat) (v : Option Value) (h : Heap) (L : List Loc) : Prop := ∃ (b : Addr) (k : ClassId), (v = none) ∧ (Fr n0 L) ∧ (Keep h0 h [r]) ∧ (h0.size ≤ b) ∧ (Exa Z h r "java/lang/String") ∧ (fld0 Z h r (.ref b)) ∧ (fld1 Z h r (.int 0)) ∧ (Arv Z h b k .byte cnt xs (.int 0)) ∧ (Old Z n0 h)
theorem rm_ssb (l : Launch) (Z : State) (a0 : Array Value) (hw : HW Z a0) (ws : List Jvm.Cond) (r : Addr) (u : Value) (c0 : Int32) (cp : Int32) (a_ : Addr) (v_ : Addr) (kv : ClassId) (N : Int32) (cnt : Int32) (xs : List Value) (h0 : Heap) (n0 : Nat) (Z0 : n0 ≤ h0.size) (P0 : Old Z n0 h0) (P1 : sta0 Z (.int cp)) (P2 : Exa Z h0 r "java/lang/String") (P3 : fld0 Z h0 r u) (P4 : fld1 Z h0 r (.int c0)) (P5 : n0 ≤ r) (P6 : Exa Z h0 a_ "java/lang/StringBuilder") (P7 : fld2 Z h0 a_ (.ref v_)) (P8 : fld3 Z h0 a_ (.int 0)) (P9 : fld4 Z h0 a_ (.int cnt)) (P10 : Arv Z h0 v_ kv .byte N xs (.int 0)) (P11 : r ≠ v_) (P12 : r ≠ a_) (hcs : ¬ (cp = (0 : Int32))) (h2 : ¬ cnt < 0) (hdp : cnt.toNatClampNeg = xs.length) (hlt : cnt < N) (h4 : cnt.toNatClampNeg ≤ N.toNatClampNeg) (hcap : cnt.toNatClampNeg ≤ 60) (hne : ¬ (cnt = N)) :
    MF l Z m_32 jdk_42_method_53_code 2 none ws (oR 4 1 60 65) #[(.ref r), (.ref a_)] h0 (Q_ssb Z r u c0 cp a_ v_ kv N cnt xs h0 n0) := by
  refine own_body (cls := "java/lang/String") (plainFor_of_name pn_1) rfl (fun p e s m below meth c s₁ hx hby hml hown hnm hret hZ X0 e0 => ?_)
  have N0 := Fr.nil n0
  have K0 := Keep.refl h0 [r]
  have lt1 := own_l P2.lt
  have lt2 := own_l P3.lt
  have lt3 := own_l P4.lt
  have lt4 := own_l P6.lt
  have lt5 := own_l P7.lt
  have lt6 := own_l P8.lt
  have lt7 := own_l P9.lt
  have lt8 := own_l P10.lt
  obtain ⟨_, _, ⟨T9, L9, k9, n9⟩, -, X9, ⟨Lc9, hQ9, l9, y9, z9⟩, st9⟩ := X0.specialBack hx (y := m_31) rfl hown (mvT hZ (w_153 hw)) (mvT hZ (w_154 hw)) (mvT hZ (w_155 hw)) (by decide) (backOf (W := 0) (rm_sab l Z a0 hw [] r u c0 cp a_ v_ kv N cnt xs h0 n0 (by omega) P0 P1 P2 P3 P4 (by omega) P6 P7 P8 P9 P10 (fun q => P11 q) (fun q => P12 q) hcs h2 hdp hlt h4 hcap hne) hZ (w_155 hw) (w_5 hw) (by decide) (by decide)) (g := (mkF m 3 #[vA r, vA a_] [.null, (.ref a_), (.ref r)])) rfl (by rw [hml]; rfl) (Steps.refl _) (a := r) (argsL := [(.ref a_), .null]) (rest := []) (lenOf pd_20 rfl) rfl (Nat.le_of_eq rfl) (hb hby d364) (fun _ _ => ⟨rfl, e0, (by decide : 0 + 1 ≤ _), (by decide : 0 + 60 ≤ _)⟩)
  dsimp only [Pt.U, Pt.locs, Pt.cells, Pt.slots] at X9 l9 y9 z9 st9 hQ9
  rw [l9, y9, z9] at X9
  obtain ⟨x9_b, x9_k, rfl, Nq9, Kq9, r9_0, r9_1, r9_2, r9_3, r9_4, r9_5⟩ := hQ9
  have N9 := Fr.app N0 Nq9
  have z9' := Kq9.1
  have K9 := K0.trans Kq9 (allS (Or.inl (List.mem_of_getElem? (i := 0) rfl)) all0)
  have lt10 := own_l r9_1.lt
  have lt11 := own_l r9_2.lt
  have lt12 := own_l r9_3.lt
  have lt13 := own_l r9_4.lt
  refine ⟨_, _, _, _, none, X9, by decide, by decide, fun _ => rfl, ?_, fun fs hr => castTop (ef_7 m r a_) ?_⟩
  · show Q_ssb Z r u c0 cp a_ v_ kv N cnt xs h0 n0 _ T9.heap _
    exact ⟨x9_b, x9_k, rfl, N9, K9, (by omega), r9_1, r9_2, r9_3, r9_4, r9_5⟩
  · show Steps _ _ _ (s₁.setTop (mkF m 0 #[vA r, vA a_] [])) _
    refine XS.aloadN X0.here hx rfl (hb hby d361) rfl rfl ?_
    refine XS.aloadN X0.here hx rfl (hb hby d362) rfl rfl ?_
    refine XS.aconstNull X0.here hx rfl (hb hby d363) ?_
    refine st9.trans ?_
    show Steps _ _ _ (T9.setTop (mkF m 6 #[vA r, vA a_] [])) _
    exact X9.returnOut hx hret (hb hby d365) hr
theorem w_149 {Z : State} {a0 : Array Value} (hw : HW Z a0) : (Jvm.Cond.classLink "java/lang/StringBuilder" (18 : Nat) "java/lang/String").before a0 Z = true := hw _ (List.mem_of_getElem? (i := 149) rfl)
theorem d366 : decode jdk_67_method_42_code 0 = .ok (.new 18, 3) := by decide +kernel
theorem d367 : decode jdk_67_method_42_code 3 = .ok (.dup, 1) := by decide +kernel
theorem d368 : decode jdk_67_method_42_code 4 = .ok (.aload_n 0, 1) := by decide +kernel
theorem w_150 {Z : State} {a0 : Array Value} (hw : HW Z a0) : (Jvm.Cond.methodLink "java/lang/StringBuilder" (137 : Nat) m_32).before a0 Z = true := hw _ (List.mem_of_getElem? (i := 150) rfl)
theorem w_152 {Z : State} {a0 : Array Value} (hw : HW Z a0) : (Jvm.Cond.code m_32 jdk_42_method_53_code (2 : Nat) (Option.none : Option Jvm.ClassFile.FieldType)).before a0 Z = true := hw _ (List.mem_of_getElem? (i := 152) rfl)
theorem pd_21 : parseMethodDescriptor "(Ljava/lang/StringBuilder;)V" = some ⟨[(.object "java/lang/StringBuilder")], none⟩ := by decide +kernel
theorem d369 : decode jdk_67_method_42_code 5 = .ok (.invokespecial 137, 3) := by decide +kernel
theorem w_151 {Z : State} {a0 : Array Value} (hw : HW Z a0) : (Jvm.Cond.instanceMethod m_32).before a0 Z = true := hw _ (List.mem_of_getElem? (i := 151) rfl)
theorem d370 : decode jdk_67_method_42_code 8 = .ok (.areturn, 1) := by decide +kernel
abbrev m_33 : MethodName := (⟨"java/lang/StringBuilder", "toString", "()Ljava/lang/String;"⟩ : MethodName)
def Q_tos (Z : State) (cp : Int32) (a_ : Addr) (v_ : Addr) (kv : ClassId) (N : Int32) (cnt : Int32) (xs : List Value) (h0 : Heap) (n0 : Nat) (v : Option Value) (h : Heap) (L : List Loc) : Prop := ∃ (r : Addr) (b : Addr) (k : ClassId), (v = some (.ref r)) ∧ (Fr n0 L) ∧ (Keep h0 h []) ∧ (h0.size ≤ r) ∧ (h0.size ≤ b) ∧ (Exa Z h r "java/lang/String") ∧ (fld0 Z h r (.ref b)) ∧ (fld1 Z h r (.int 0)) ∧ (Arv Z h b k .byte cnt xs (.int 0)) ∧ (Old Z n0 h)
theorem rm_tos (l : Launch) (Z : State) (a0 : Array Value) (hw : HW Z a0) (ws : List Jvm.Cond) (cp : Int32) (a_ : Addr) (v_ : Addr) (kv : ClassId) (N : Int32) (cnt : Int32) (xs : List Value) (h0 : Heap) (n0 : Nat) (Z0 : n0 ≤ h0.size) (P0 : Old Z n0 h0) (P1 : sta0 Z (.int cp)) (P2 : Exa Z h0 a_ "java/lang/StringBuilder") (P3 : fld2 Z h0 a_ (.ref v_)) (P4 : fld3 Z h0 a_ (.int 0)) (P5 : fld4 Z h0 a_ (.int cnt)) (P6 : Arv Z h0 v_ kv .byte N xs (.int 0)) (hcs : ¬ (cp = (0 : Int32))) (h2 : ¬ cnt < 0) (hdp : cnt.toNatClampNeg = xs.length) (hlt : cnt < N) (h4 : cnt.toNatClampNeg ≤ N.toNatClampNeg) (hcap : cnt.toNatClampNeg ≤ 60) (hne : ¬ (cnt = N)) :
    MF l Z m_33 jdk_67_method_42_code 1 (some (.object "java/lang/String")) ws (oR 5 2 64 79) #[(.ref a_)] h0 (Q_tos Z cp a_ v_ kv N cnt xs h0 n0) := by
  refine own_body (cls := "java/lang/StringBuilder") (plainFor_of_name pn_7) rfl (fun p e s m below meth c s₁ hx hby hml hown hnm hret hZ X0 e0 => ?_)
  have N0 := Fr.nil n0
  have K0 := Keep.refl h0 []
  have lt1 := own_l P2.lt
  have lt2 := own_l P3.lt
  have lt3 := own_l P4.lt
  have lt4 := own_l P5.lt
  have lt5 := own_l P6.lt
  obtain ⟨T6, h6, X6, e6, E6, A6, D6, -, st6⟩ := newO X0 hx hZ hown (w_149 hw) (w_13 hw) (w_5 hw) e0 (g := (mkF m 0 #[vA a_] [])) rfl (hb hby d366) (by decide) (by decide)
  obtain ⟨b6, g6⟩ : ∃ z, z = h0.size := ⟨_, rfl⟩
  rw [← g6] at A6 D6 st6
  have z6 := E6.1
  have K6 := K0.ext E6
  have lt7 := own_l A6.lt
  have F6_26 : Fld Z h6 b6 "java/lang/String" "value" "[B" .null := D6 (Or.inr (w_26 hw)) (ty := (.array .byte)) (by decide)
  have F6_28 : Fld Z h6 b6 "java/lang/String" "coder" "B" (.int 0) := D6 (Or.inr (w_28 hw)) (ty := .byte) (by decide)
  have f9 := P0.ext E6
  have f10 := P2.ext E6
  have f11 := P3.ext E6
  have f12 := P4.ext E6
  have f13 := P5.ext E6
  have f14 := P6.ext E6
  obtain ⟨_, _, ⟨T8, L8, k8, n8⟩, -, X8, ⟨Lc8, hQ8, l8, y8, z8⟩, st8⟩ := X6.specialBack hx (y := m_32) rfl hown (mvT hZ (w_150 hw)) (mvT hZ (w_151 hw)) (mvT hZ (w_152 hw)) (by decide) (backOf (W := 1) (rm_ssb l Z a0 hw [] b6 (.null) ((0 : Int32)) cp a_ v_ kv N cnt xs h6 n0 (by omega) f9 P1 A6 F6_26 F6_28 (by omega) f10 f11 f12 f13 f14 (own_ne (by omega)) (own_ne (by omega)) hcs h2 hdp hlt h4 hcap hne) hZ (w_152 hw) (w_5 hw) (by decide) (by decide)) (g := (mkF m 5 #[vA a_] [(.ref a_), (.ref b6), (.ref b6)])) rfl (by rw [hml]; rfl) (Steps.refl _) (a := b6) (argsL := [(.ref a_)]) (rest := [(.ref b6)]) (lenOf pd_21 rfl) rfl (Nat.le_of_eq rfl) (hb hby d369) (fun _ _ => ⟨rfl, e6, (by decide : 1 + 1 ≤ _), (by decide : 4 + 60 ≤ _)⟩)
  dsimp only [Pt.U, Pt.locs, Pt.cells, Pt.slots] at X8 l8 y8 z8 st8 hQ8
  rw [l8, y8, z8] at X8
  obtain ⟨x8_b, x8_k, rfl, Nq8, Kq8, r8_0, r8_1, r8_2, r8_3, r8_4, r8_5⟩ := hQ8
  have N8 := Fr.app N0 Nq8
  have z8' := Kq8.1
  have K8 := K6.trans Kq8 (allS (Or.inr (by omega)) all0)
  have lt15 := own_l r8_1.lt
  have lt16 := own_l r8_2.lt
  have lt17 := own_l r8_3.lt
  have lt18 := own_l r8_4.lt
  refine ⟨_, _, _, _, some (.ref b6), X8, by decide, by decide, nofun, ?_, fun fs hr => castTop (ef_2 m a_) ?_⟩
  · show Q_tos Z cp a_ v_ kv N cnt xs h0 n0 _ T8.heap _
    exact ⟨b6, x8_b, x8_k, rfl, N8, K8, (by omega), (by omega), r8_1, r8_2, r8_3, r8_4, r8_5⟩
  · show Steps _ _ _ (s₁.setTop (mkF m 0 #[vA a_] [])) _
    refine st6 _ ?_
    show Steps _ _ _ (T6.setTop (mkF m 3 #[vA a_] [(.ref b6)])) _
    refine XS.dup X6.here hx rfl (hb hby d367) rfl rfl ?_
    refine XS.aloadN X6.here hx rfl (hb hby d368) rfl rfl ?_
    refine st8.trans ?_
    show Steps _ _ _ (T8.setTop (mkF m 8 #[vA a_] [(.ref b6)])) _
    exact retOut X8 hx hret (own_narrow_ref rfl) (Or.inr (Or.inr (Or.inr (Or.inr ⟨rfl, rfl, rfl⟩)))) (hb hby d370) hr
theorem d371 : decode jdk_31_method_11_code 0 = .ok (.aload_n 0, 1) := by decide +kernel
theorem d372 : decode jdk_31_method_11_code 1 = .ok (.ifnonnull 12, 3) := by decide +kernel
theorem d373 : decode jdk_31_method_11_code 13 = .ok (.aload_n 0, 1) := by decide +kernel
theorem d374 : decode jdk_31_method_11_code 14 = .ok (.areturn, 1) := by decide +kernel
theorem pn_8 : plainName "java/util/Objects" = true := by first | (simp [plainName, overriddenIn]; done) | decide +kernel
abbrev m_34 : MethodName := (⟨"java/util/Objects", "requireNonNull", "(Ljava/lang/Object;Ljava/lang/String;)Ljava/lang/Object;"⟩ : MethodName)
def Q_rnn (Z : State) (a_ : Addr) (b : Addr) (h0 : Heap) (n0 : Nat) (v : Option Value) (h : Heap) (L : List Loc) : Prop := (v = some (.ref a_)) ∧ (Fr n0 L) ∧ (h = h0)
theorem rm_rnn (l : Launch) (Z : State) (a0 : Array Value) (hw : HW Z a0) (ws : List Jvm.Cond) (a_ : Addr) (b : Addr) (h0 : Heap) (n0 : Nat) (Z0 : n0 ≤ h0.size) :
    MF l Z m_34 jdk_31_method_11_code 2 (some (.object "java/lang/Object")) ws (oR 0 0 0 0) #[(.ref a_), (.ref b)] h0 (Q_rnn Z a_ b h0 n0) := by
  refine own_body (cls := "java/util/Objects") (plainFor_of_name pn_8) rfl (fun p e s m below meth c s₁ hx hby hml hown hnm hret hZ X0 e0 => ?_)
  have N0 := Fr.nil n0
  refine ⟨_, _, _, _, some (.ref a_), X0, by decide, by decide, nofun, ?_, fun fs hr => castTop (ef_7 m a_ b) ?_⟩
  · show Q_rnn Z a_ b h0 n0 _ s₁.heap _
    rw [(e0 : s₁.heap = h0)]
    exact ⟨rfl, N0, rfl⟩
  · show Steps _ _ _ (s₁.setTop (mkF m 0 #[vA a_, vA b] [])) _
    refine XS.aloadN X0.here hx rfl (hb hby d371) rfl rfl ?_
    refine XS.ifnonnullYes X0.here hx rfl (pc0 := 1) (pc' := 13) rfl (hb hby d372) rfl (by decide) (by decide) ?_
    refine XS.aloadN X0.here hx rfl (hb hby d373) rfl rfl ?_
    exact retOut X0 hx hret (own_narrow_ref rfl) (Or.inr (Or.inr (Or.inr (Or.inr ⟨rfl, rfl, rfl⟩)))) (hb hby d374) hr
theorem d375 : decode prog_1_method_1_code 0 = .ok (.aload_n 0, 1) := by decide +kernel
theorem w_32 {Z : State} {a0 : Array Value} (hw : HW Z a0) : (Jvm.Cond.methodLink "com/example/upright_harness/uprightharness/Account" (1 : Nat) m_2).before a0 Z = true := hw _ (List.mem_of_getElem? (i := 32) rfl)
theorem d376 : decode prog_1_method_1_code 1 = .ok (.invokespecial 1, 3) := by decide +kernel
theorem d377 : decode prog_1_method_1_code 4 = .ok (.aload_n 0, 1) := by decide +kernel
theorem d378 : decode prog_1_method_1_code 5 = .ok (.aload_n 1, 1) := by decide +kernel
theorem d379 : decode prog_1_method_1_code 6 = .ok (.ldc 7, 2) := by decide +kernel
theorem w_36 {Z : State} {a0 : Array Value} (hw : HW Z a0) : (Jvm.Cond.methodLink "com/example/upright_harness/uprightharness/Account" (9 : Nat) m_34).before a0 Z = true := hw _ (List.mem_of_getElem? (i := 36) rfl)
theorem w_39 {Z : State} {a0 : Array Value} (hw : HW Z a0) : (Jvm.Cond.code m_34 jdk_31_method_11_code (2 : Nat) (Option.some (FieldType.object "java/lang/Object"))).before a0 Z = true := hw _ (List.mem_of_getElem? (i := 39) rfl)
theorem w_38 {Z : State} {a0 : Array Value} (hw : HW Z a0) : (Jvm.Cond.initialized "java/util/Objects").before a0 Z = true := hw _ (List.mem_of_getElem? (i := 38) rfl)
theorem pd_22 : parseMethodDescriptor "(Ljava/lang/Object;Ljava/lang/String;)Ljava/lang/Object;" = some ⟨[(.object "java/lang/Object"), (.object "java/lang/String")], some (.object "java/lang/Object")⟩ := by decide +kernel
theorem d380 : decode prog_1_method_1_code 8 = .ok (.invokestatic 9, 3) := by decide +kernel
theorem w_37 {Z : State} {a0 : Array Value} (hw : HW Z a0) : (Jvm.Cond.static m_34).before a0 Z = true := hw _ (List.mem_of_getElem? (i := 37) rfl)
theorem w_40 {Z : State} {a0 : Array Value} (hw : HW Z a0) : (Jvm.Cond.classLink "com/example/upright_harness/uprightharness/Account" (15 : Nat) "java/lang/String").before a0 Z = true := hw _ (List.mem_of_getElem? (i := 40) rfl)
theorem d381 : decode prog_1_method_1_code 11 = .ok (.checkcast 15, 3) := by decide +kernel
theorem w_41 {Z : State} {a0 : Array Value} (hw : HW Z a0) : (Jvm.Cond.fieldLink "com/example/upright_harness/uprightharness/Account" (17 : Nat) "com/example/upright_harness/uprightharness/Account" "user" "Ljava/lang/String;").before a0 Z = true := hw _ (List.mem_of_getElem? (i := 41) rfl)
theorem w_42 {Z : State} {a0 : Array Value} (hw : HW Z a0) : (Jvm.Cond.laysFinal "com/example/upright_harness/uprightharness/Account" "com/example/upright_harness/uprightharness/Account" "user" "Ljava/lang/String;").before a0 Z = true := hw _ (List.mem_of_getElem? (i := 42) rfl)
theorem w_1 {Z : State} {a0 : Array Value} (hw : HW Z a0) : (Jvm.Cond.instantiable "com/example/upright_harness/uprightharness/Account" (4 : Nat)).before a0 Z = true := hw _ (List.mem_of_getElem? (i := 1) rfl)
theorem d382 : decode prog_1_method_1_code 14 = .ok (.putfield 17, 3) := by decide +kernel
theorem d383 : decode prog_1_method_1_code 17 = .ok (.aload_n 0, 1) := by decide +kernel
theorem d384 : decode prog_1_method_1_code 18 = .ok (.aload_n 2, 1) := by decide +kernel
theorem d385 : decode prog_1_method_1_code 19 = .ok (.ldc 22, 2) := by decide +kernel
theorem d386 : decode prog_1_method_1_code 21 = .ok (.invokestatic 9, 3) := by decide +kernel
theorem d387 : decode prog_1_method_1_code 24 = .ok (.checkcast 15, 3) := by decide +kernel
theorem w_44 {Z : State} {a0 : Array Value} (hw : HW Z a0) : (Jvm.Cond.fieldLink "com/example/upright_harness/uprightharness/Account" (24 : Nat) "com/example/upright_harness/uprightharness/Account" "password" "Ljava/lang/String;").before a0 Z = true := hw _ (List.mem_of_getElem? (i := 44) rfl)
theorem w_45 {Z : State} {a0 : Array Value} (hw : HW Z a0) : (Jvm.Cond.laysFinal "com/example/upright_harness/uprightharness/Account" "com/example/upright_harness/uprightharness/Account" "password" "Ljava/lang/String;").before a0 Z = true := hw _ (List.mem_of_getElem? (i := 45) rfl)
theorem d388 : decode prog_1_method_1_code 27 = .ok (.putfield 24, 3) := by decide +kernel
theorem d389 : decode prog_1_method_1_code 30 = .ok (.aload_n 0, 1) := by decide +kernel
theorem d390 : decode prog_1_method_1_code 31 = .ok (.aload_n 3, 1) := by decide +kernel
theorem w_46 {Z : State} {a0 : Array Value} (hw : HW Z a0) : (Jvm.Cond.fieldLink "com/example/upright_harness/uprightharness/Account" (26 : Nat) "com/example/upright_harness/uprightharness/Account" "domain" "Ljava/lang/String;").before a0 Z = true := hw _ (List.mem_of_getElem? (i := 46) rfl)
theorem w_47 {Z : State} {a0 : Array Value} (hw : HW Z a0) : (Jvm.Cond.laysFinal "com/example/upright_harness/uprightharness/Account" "com/example/upright_harness/uprightharness/Account" "domain" "Ljava/lang/String;").before a0 Z = true := hw _ (List.mem_of_getElem? (i := 47) rfl)
theorem d391 : decode prog_1_method_1_code 32 = .ok (.putfield 26, 3) := by decide +kernel
theorem d392 : decode prog_1_method_1_code 35 = .ok (.aload_n 0, 1) := by decide +kernel
theorem d393 : decode prog_1_method_1_code 36 = .ok (.aload 4, 2) := by decide +kernel
theorem d394 : decode prog_1_method_1_code 38 = .ok (.ldc 29, 2) := by decide +kernel
theorem d395 : decode prog_1_method_1_code 40 = .ok (.invokestatic 9, 3) := by decide +kernel
theorem d396 : decode prog_1_method_1_code 43 = .ok (.checkcast 15, 3) := by decide +kernel
theorem w_49 {Z : State} {a0 : Array Value} (hw : HW Z a0) : (Jvm.Cond.fieldLink "com/example/upright_harness/uprightharness/Account" (31 : Nat) "com/example/upright_harness/uprightharness/Account" "target" "Ljava/lang/String;").before a0 Z = true := hw _ (List.mem_of_getElem? (i := 49) rfl)
theorem w_50 {Z : State} {a0 : Array Value} (hw : HW Z a0) : (Jvm.Cond.laysFinal "com/example/upright_harness/uprightharness/Account" "com/example/upright_harness/uprightharness/Account" "target" "Ljava/lang/String;").before a0 Z = true := hw _ (List.mem_of_getElem? (i := 50) rfl)
theorem d397 : decode prog_1_method_1_code 46 = .ok (.putfield 31, 3) := by decide +kernel
theorem d398 : decode prog_1_method_1_code 49 = .ok (.return_, 1) := by decide +kernel
theorem pn_9 : plainName "com/example/upright_harness/uprightharness/Account" = true := by first | (simp [plainName, overriddenIn]; done) | decide +kernel
theorem ef_16 (m : MethodId) (x0 : Addr) (x1 : Addr) (x2 : Addr) (x3 : Value) (x4 : Addr) (hx3 : x3.isRef = true) : entryFrame m #[(.ref x0), (.ref x1), (.ref x2), x3, (.ref x4)] 5 = mkF m 0 #[vA x0, vA x1, vA x2, .val x3, vA x4] [] := by
  rcases ref_cases hx3 with rfl | ⟨_, rfl⟩ <;> (first | (simp [entryFrame, mkF, argsToLocals, Value.category, maxLocals]; done) | rfl)
abbrev m_35 : MethodName := (⟨"com/example/upright_harness/uprightharness/Account", "<init>", "(Ljava/lang/String;Ljava/lang/String;Ljava/lang/String;Ljava/lang/String;)V"⟩ : MethodName)
def Q_acci (Z : State) (ac : Addr) (us : Addr) (pw : Addr) (dm : Value) (tg : Addr) (h0 : Heap) (n0 : Nat) (v : Option Value) (h : Heap) (L : List Loc) : Prop := (v = none) ∧ (Fr n0 L) ∧ (Keep h0 h [ac]) ∧ (Exa Z h ac "com/example/upright_harness/uprightharness/Account") ∧ (Fld Z h ac "com/example/upright_harness/uprightharness/Account" "user" "Ljava/lang/String;" (.ref us)) ∧ (Fld Z h ac "com/example/upright_harness/uprightharness/Account" "domain" "Ljava/lang/String;" dm) ∧ (Fld Z h ac "com/example/upright_harness/uprightharness/Account" "target" "Ljava/lang/String;" (.ref tg))
theorem rm_acci (l : Launch) (Z : State) (a0 : Array Value) (hw : HW Z a0) (ws : List Jvm.Cond) (ac : Addr) (us : Addr) (pw : Addr) (dm : Value) (tg : Addr) (h0 : Heap) (n0 : Nat) (Z0 : n0 ≤ h0.size) (P0 : Exa Z h0 ac "com/example/upright_harness/uprightharness/Account") (P1 : Fld Z h0 ac "com/example/upright_harness/uprightharness/Account" "user" "Ljava/lang/String;" .null) (P2 : Fld Z h0 ac "com/example/upright_harness/uprightharness/Account" "password" "Ljava/lang/String;" .null) (P3 : Fld Z h0 ac "com/example/upright_harness/uprightharness/Account" "domain" "Ljava/lang/String;" .null) (P4 : Fld Z h0 ac "com/example/upright_harness/uprightharness/Account" "target" "Ljava/lang/String;" .null) (P5 : n0 ≤ ac) (P6 : Exa Z h0 us "java/lang/String") (P7 : Exa Z h0 pw "java/lang/String") (P8 : Exa Z h0 tg "java/lang/String") (hdm : dm.isRef = true) :
    MetFree l m_35 (head1 (Jvm.Cond.code m_35 prog_1_method_1_code 5 none :: ws) (oR 1 6 84 14)) (fun as' U => as' = #[(.ref ac), (.ref us), (.ref pw), dm, (.ref tg)] ∧ Z.Warmed39 U.vm ∧ U.heap = h0 ∧ CHv Z own_EL U.vm h0) (fun _ _ _ _ _ => True) (fun _ U o U' => ∃ v L, o = .returned v ∧ Q_acci Z ac us pw dm tg h0 n0 v U'.heap L ∧ CHr Z own_EL U.vm U.heap U'.vm U'.heap ∧ ReturnedEndW U o U' L (oR 1 6 84 14).cells (oR 1 6 84 14).slots) := by
  refine MetFree.of_bodySF (plainFor_of_name pn_9) hisR ?_
  intro p e s m args below meth c s₁ Bd hml0 hP hK
  obtain ⟨rfl, hZ, hh, hCH⟩ := hP
  have hx := Bd.exec
  have hby := Bd.bytes
  have hml : c.maxLocals = 5 := hml0
  have hown : (s.setVm s.vm).vm.findClass "com/example/upright_harness/uprightharness/Account" = some m.cls := findClass_of_methodNamed Bd.named
  have hnm := (name_of_methodNamed Bd.named Bd.method).1
  have X0 : Stand p l e (oR 1 6 84 14) (s.setVm s.vm) m #[(.ref ac), (.ref us), (.ref pw), dm, (.ref tg)] below meth c s₁ [] 0 0 := Stand.of_body Bd
  have e0 : s₁.heap = h0 := by rw [← hh, Bd.state]; rfl
  have N0 := Fr.nil n0
  have hZ : Z.Warmed39 (s.setVm s.vm).vm := hZ
  have hS0 : s.Since s.vm h0.size := (State.WarmedH.refl s).since _
  have hk0 : h0.size ≤ h0.size := Nat.le_refl _
  have C0 : CHr Z own_EL s.vm h0 s.vm h0 := CHr.refl hCH
  have K0 := Keep.refl h0 [ac]
  have lt1 := own_l P0.lt
  have lt2 := own_l P1.lt
  have lt3 := own_l P2.lt
  have lt4 := own_l P3.lt
  have lt5 := own_l P4.lt
  have lt6 := own_l P6.lt
  have lt7 := own_l P7.lt
  have lt8 := own_l P8.lt
  obtain ⟨T9, X9, e9, st9⟩ := initO X0 hx hZ hown (w_32 hw) (w_23 hw) (w_24 hw) e0 (g := (mkF m 1 #[vA ac, vA us, vA pw, .val dm, vA tg] [(.ref ac)])) rfl (by rw [hml]; rfl) rfl (hb hby d376) (by decide) (W := 0) (Nat.le_of_eq rfl) (by decide)
  obtain ⟨a10, T10, h10, k1_10, X10, e10, E10, hS10, hk10, hZ10, hown10, Cs10, Lt10, st10⟩ := ldcOH X9 hx hZ hown (w_33 hw) (own_wS hw) e9 hS0 (by omega) (own_EW hw) C0.1 (g := (mkF m 6 #[vA ac, vA us, vA pw, .val dm, vA tg] [(.ref us), (.ref ac)])) rfl (hb hby d379) (n := 16) (by decide) (by decide) (by decide) (by decide)
  have z10 := E10.1
  have C10 := C0.trans Cs10
  have K10 := K0.ext E10
  obtain ⟨_, _, ⟨T11, L11, k11, n11⟩, -, X11, ⟨Lc11, hQ11, l11, y11, z11⟩, st11⟩ := Jvm.LawKit.callS X10 hx (y := m_34) hown10 (mvT hZ10 (w_36 hw)) (mvT hZ10 (w_37 hw)) (mvT hZ10 (w_38 hw)) (mvT hZ10 (w_39 hw)) (by decide) (backOf (W := 1) (rm_rnn l Z a0 hw [] us a10 h10 n0 (by omega) ) hZ10 (w_39 hw) (w_38 hw) (by decide) (by decide)) (g := (mkF m 8 #[vA ac, vA us, vA pw, .val dm, vA tg] [(.ref a10), (.ref us), (.ref ac)])) rfl (by rw [hml]; rfl) (argsL := [(.ref us), (.ref a10)]) (rest := [(.ref ac)]) (lenOf pd_22 rfl) rfl (Nat.le_of_eq rfl) (hb hby d380) (fun _ _ => ⟨rfl, e10, (by decide : 2 + 0 ≤ _), (by decide : 20 + 0 ≤ _)⟩)
  dsimp only [Pt.U, Pt.locs, Pt.cells, Pt.slots] at X11 l11 y11 z11 st11 hQ11
  rw [l11, y11, z11] at X11
  obtain ⟨rfl, Nq11, Kq11⟩ := hQ11
  have N11 := Fr.app N0 Nq11
  have f13 := P6.ext E10
  obtain ⟨T12, X12, e12, st12⟩ := castY X11 hx hZ10 hown10 (w_40 hw) Kq11 (Ins.self f13) (g := (mkF m 11 #[vA ac, vA us, vA pw, .val dm, vA tg] [(.ref us), (.ref ac)])) rfl rfl (hb hby d381)
  have f15 := P0.ext E10
  have f16 := P1.ext E10
  obtain ⟨T14, h14, X14, e14, W14, st14⟩ := putF X12 hx hZ10 hown10 (host := "") (Or.inl (w_41 hw)) Via.refl e12 f16 f15 (Or.inr ⟨(w_42 hw), rfl, hnm⟩) (w_1 hw) (ty := (.object "java/lang/String")) (by decide) rfl rfl (g := (mkF m 14 #[vA ac, vA us, vA pw, .val dm, vA tg] [(.ref us), (.ref ac)])) rfl rfl (hb hby d382)
  have F14 := f16.same W14
  have z14 := W14.size
  have C14 := C10.trans (CHr.wr W14 (Safe.exa (Z := Z) (EL := own_EL) (vm := T10.vm) hZ10.alike f15 (by decide) (by decide)) C10.1)
  have K14 := K10.wr W14 (Or.inl (List.mem_of_getElem? (i := 0) rfl))
  have N14 := Fr.snoc X14 N11 (by omega)
  obtain ⟨a17, T17, h17, k1_17, X17, e17, E17, hS17, hk17, hZ17, hown17, Cs17, Lt17, st17⟩ := ldcOH X14 hx hZ10 hown10 (w_43 hw) (own_wS hw) e14 hS10 (by omega) (own_EW hw) C14.1 (g := (mkF m 19 #[vA ac, vA us, vA pw, .val dm, vA tg] [(.ref pw), (.ref ac)])) rfl (hb hby d385) (n := 32) (by decide) (by decide) (by decide) (by decide)
  have z17 := E17.1
  have C17 := C14.trans Cs17
  have K17 := K14.ext E17
  obtain ⟨_, _, ⟨T18, L18, k18, n18⟩, -, X18, ⟨Lc18, hQ18, l18, y18, z18⟩, st18⟩ := Jvm.LawKit.callS X17 hx (y := m_34) hown17 (mvT hZ17 (w_36 hw)) (mvT hZ17 (w_37 hw)) (mvT hZ17 (w_38 hw)) (mvT hZ17 (w_39 hw)) (by decide) (backOf (W := 1) (rm_rnn l Z a0 hw [] pw a17 h17 n0 (by omega) ) hZ17 (w_39 hw) (w_38 hw) (by decide) (by decide)) (g := (mkF m 21 #[vA ac, vA us, vA pw, .val dm, vA tg] [(.ref a17), (.ref pw), (.ref ac)])) rfl (by rw [hml]; rfl) (argsL := [(.ref pw), (.ref a17)]) (rest := [(.ref ac)]) (lenOf pd_22 rfl) rfl (Nat.le_of_eq rfl) (hb hby d386) (fun _ _ => ⟨rfl, e17, (by decide : 4 + 0 ≤ _), (by decide : 56 + 0 ≤ _)⟩)
  dsimp only [Pt.U, Pt.locs, Pt.cells, Pt.slots] at X18 l18 y18 z18 st18 hQ18
  rw [l18, y18, z18] at X18
  obtain ⟨rfl, Nq18, Kq18⟩ := hQ18
  have N18 := Fr.app N14 Nq18
  have f20 := P7.ext E10
  have f21 := f20.wr W14
  have f22 := f21.ext E17
  obtain ⟨T19, X19, e19, st19⟩ := castY X18 hx hZ17 hown17 (w_40 hw) Kq18 (Ins.self f22) (g := (mkF m 24 #[vA ac, vA us, vA pw, .val dm, vA tg] [(.ref pw), (.ref ac)])) rfl rfl (hb hby d387)
  have f24 := f15.wr W14
  have f25 := f24.ext E17
  have f26 := P2.ext E10
  have f27 := f26.other W14 (Or.inr (slot_ne (a0 := a0) (t := (.object "java/lang/String")) (t' := (.object "java/lang/String")) (Or.inr (w_45 hw)) (Or.inr (w_42 hw)) (by decide) (by decide) (by decide)))
  have f28 := f27.ext E17
  obtain ⟨T23, h23, X23, e23, W23, st23⟩ := putF X19 hx hZ17 hown17 (host := "") (Or.inl (w_44 hw)) Via.refl e19 f28 f25 (Or.inr ⟨(w_45 hw), rfl, hnm⟩) (w_1 hw) (ty := (.object "java/lang/String")) (by decide) rfl rfl (g := (mkF m 27 #[vA ac, vA us, vA pw, .val dm, vA tg] [(.ref pw), (.ref ac)])) rfl rfl (hb hby d388)
  have F23 := f28.same W23
  have z23 := W23.size
  have C23 := C17.trans (CHr.wr W23 (Safe.exa (Z := Z) (EL := own_EL) (vm := T17.vm) hZ17.alike f25 (by decide) (by decide)) C17.1)
  have K23 := K17.wr W23 (Or.inl (List.mem_of_getElem? (i := 0) rfl))
  have N23 := Fr.snoc X23 N18 (by omega)
  have f30 := f25.wr W23
  have f31 := P3.ext E10
  have f32 := f31.other W14 (Or.inr (slot_ne (a0 := a0) (t := (.object "java/lang/String")) (t' := (.object "java/lang/String")) (Or.inr (w_47 hw)) (Or.inr (w_42 hw)) (by decide) (by decide) (by decide)))
  have f33 := f32.ext E17
  have f34 := f33.other W23 (Or.inr (slot_ne (a0 := a0) (t := (.object "java/lang/String")) (t' := (.object "java/lang/String")) (Or.inr (w_47 hw)) (Or.inr (w_45 hw)) (by decide) (by decide) (by decide)))
  obtain ⟨T29, h29, X29, e29, W29, st29⟩ := putF X23 hx hZ17 hown17 (host := "") (Or.inl (w_46 hw)) Via.refl e23 f34 f30 (Or.inr ⟨(w_47 hw), rfl, hnm⟩) (w_1 hw) (ty := (.object "java/lang/String")) (by decide) (own_narrow_ref hdm) (own_fits_ref hdm rfl) (g := (mkF m 32 #[vA ac, vA us, vA pw, .val dm, vA tg] [dm, (.ref ac)])) rfl rfl (hb hby d391)
  have F29 := f34.same W29
  have z29 := W29.size
  have C29 := C23.trans (CHr.wr W29 (Safe.exa (Z := Z) (EL := own_EL) (vm := T17.vm) hZ17.alike f30 (by decide) (by decide)) C23.1)
  have K29 := K23.wr W29 (Or.inl (List.mem_of_getElem? (i := 0) rfl))
  have N29 := Fr.snoc X29 N23 (by omega)
  obtain ⟨a35, T35, h35, k1_35, X35, e35, E35, hS35, hk35, hZ35, hown35, Cs35, Lt35, st35⟩ := ldcOH X29 hx hZ17 hown17 (w_48 hw) (own_wS hw) e29 hS17 (by omega) (own_EW hw) C29.1 (g := (mkF m 38 #[vA ac, vA us, vA pw, .val dm, vA tg] [(.ref tg), (.ref ac)])) rfl (hb hby d394) (n := 24) (by decide) (by decide) (by decide) (by decide)
  have z35 := E35.1
  have C35 := C29.trans Cs35
  have K35 := K29.ext E35
  obtain ⟨_, _, ⟨T36, L36, k36, n36⟩, -, X36, ⟨Lc36, hQ36, l36, y36, z36⟩, st36⟩ := Jvm.LawKit.callS X35 hx (y := m_34) hown35 (mvT hZ35 (w_36 hw)) (mvT hZ35 (w_37 hw)) (mvT hZ35 (w_38 hw)) (mvT hZ35 (w_39 hw)) (by decide) (backOf (W := 1) (rm_rnn l Z a0 hw [] tg a35 h35 n0 (by omega) ) hZ35 (w_39 hw) (w_38 hw) (by decide) (by decide)) (g := (mkF m 40 #[vA ac, vA us, vA pw, .val dm, vA tg] [(.ref a35), (.ref tg), (.ref ac)])) rfl (by rw [hml]; rfl) (argsL := [(.ref tg), (.ref a35)]) (rest := [(.ref ac)]) (lenOf pd_22 rfl) rfl (Nat.le_of_eq rfl) (hb hby d395) (fun _ _ => ⟨rfl, e35, (by decide : 6 + 0 ≤ _), (by decide : 84 + 0 ≤ _)⟩)
  dsimp only [Pt.U, Pt.locs, Pt.cells, Pt.slots] at X36 l36 y36 z36 st36 hQ36
  rw [l36, y36, z36] at X36
  obtain ⟨rfl, Nq36, Kq36⟩ := hQ36
  have N36 := Fr.app N29 Nq36
  have f38 := P8.ext E10
  have f39 := f38.wr W14
  have f40 := f39.ext E17
  have f41 := f40.wr W23
  have f42 := f41.wr W29
  have f43 := f42.ext E35
  obtain ⟨T37, X37, e37, st37⟩ := castY X36 hx hZ35 hown35 (w_40 hw) Kq36 (Ins.self f43) (g := (mkF m 43 #[vA ac, vA us, vA pw, .val dm, vA tg] [(.ref tg), (.ref ac)])) rfl rfl (hb hby d396)
  have f45 := f30.wr W29
  have f46 := f45.ext E35
  have f47 := P4.ext E10
  have f48 := f47.other W14 (Or.inr (slot_ne (a0 := a0) (t := (.object "java/lang/String")) (t' := (.object "java/lang/String")) (Or.inr (w_50 hw)) (Or.inr (w_42 hw)) (by decide) (by decide) (by decide)))
  have f49 := f48.ext E17
  have f50 := f49.other W23 (Or.inr (slot_ne (a0 := a0) (t := (.object "java/lang/String")) (t' := (.object "java/lang/String")) (Or.inr (w_50 hw)) (Or.inr (w_45 hw)) (by decide) (by decide) (by decide)))
  have f51 := f50.other W29 (Or.inr (slot_ne (a0 := a0) (t := (.object "java/lang/String")) (t' := (.object "java/lang/String")) (Or.inr (w_50 hw)) (Or.inr (w_47 hw)) (by decide) (by decide) (by decide)))
  have f52 := f51.ext E35
  obtain ⟨T44, h44, X44, e44, W44, st44⟩ := putF X37 hx hZ35 hown35 (host := "") (Or.inl (w_49 hw)) Via.refl e37 f52 f46 (Or.inr ⟨(w_50 hw), rfl, hnm⟩) (w_1 hw) (ty := (.object "java/lang/String")) (by decide) rfl rfl (g := (mkF m 46 #[vA ac, vA us, vA pw, .val dm, vA tg] [(.ref tg), (.ref ac)])) rfl rfl (hb hby d397)
  have F44 := f52.same W44
  have z44 := W44.size
  have C44 := C35.trans (CHr.wr W44 (Safe.exa (Z := Z) (EL := own_EL) (vm := T35.vm) hZ35.alike f46 (by decide) (by decide)) C35.1)
  have K44 := K35.wr W44 (Or.inl (List.mem_of_getElem? (i := 0) rfl))
  have N44 := Fr.snoc X44 N36 (by omega)
  have f53 := f46.wr W44
  have f54 := F14.ext E17
  have f55 := f54.other W23 (Or.inr (slot_ne (a0 := a0) (t := (.object "java/lang/String")) (t' := (.object "java/lang/String")) (Or.inr (w_42 hw)) (Or.inr (w_45 hw)) (by decide) (by decide) (by decide)))
  have f56 := f55.other W29 (Or.inr (slot_ne (a0 := a0) (t := (.object "java/lang/String")) (t' := (.object "java/lang/String")) (Or.inr (w_42 hw)) (Or.inr (w_47 hw)) (by decide) (by decide) (by decide)))
  have f57 := f56.ext E35
  have f58 := f57.other W44 (Or.inr (slot_ne (a0 := a0) (t := (.object "java/lang/String")) (t' := (.object "java/lang/String")) (Or.inr (w_42 hw)) (Or.inr (w_50 hw)) (by decide) (by decide) (by decide)))
  have f59 := F29.ext E35
  have f60 := f59.other W44 (Or.inr (slot_ne (a0 := a0) (t := (.object "java/lang/String")) (t' := (.object "java/lang/String")) (Or.inr (w_47 hw)) (Or.inr (w_50 hw)) (by decide) (by decide) (by decide)))
  obtain ⟨fs, hr, hrun, hended, hEnd⟩ := X44.leaveW hS35 (by first | omega | (rw [(e44 : T44.heap = h44)]; omega)) (v := none) (fun _ => rfl)
  have Cz := C44.trans (CHv.at X44 hZ35 (own_EW hw) C44.1)
  refine ⟨_, _, castTop (ef_16 m ac us pw dm tg hdm) ?_, hrun, hended, _, _, rfl, ?_, (by rw [hh]; show CHr Z own_EL s.vm h0 T44.vm T44.heap; rw [(e44 : T44.heap = h44)]; exact Cz), hEnd.1, hEnd.2.1, hEnd.2.2.1, hEnd.2.2.2.mono (by decide) (by decide)⟩
  · show Steps _ _ _ (s₁.setTop (mkF m 0 #[vA ac, vA us, vA pw, .val dm, vA tg] [])) _
    refine XS.aloadN X0.here hx rfl (hb hby d375) rfl rfl ?_
    refine st9 _ ?_
    show Steps _ _ _ (T9.setTop (mkF m 4 #[vA ac, vA us, vA pw, .val dm, vA tg] [])) _
    refine XS.aloadN X9.here hx rfl (hb hby d377) rfl rfl ?_
    refine XS.aloadN X9.here hx rfl (hb hby d378) rfl rfl ?_
    refine st10 _ ?_
    show Steps _ _ _ (T10.setTop (mkF m 8 #[vA ac, vA us, vA pw, .val dm, vA tg] [(.ref a10), (.ref us), (.ref ac)])) _
    refine st11 _ ?_
    show Steps _ _ _ (T11.setTop (mkF m 11 #[vA ac, vA us, vA pw, .val dm, vA tg] [(.ref us), (.ref ac)])) _
    refine st12 _ ?_
    show Steps _ _ _ (T12.setTop (mkF m 14 #[vA ac, vA us, vA pw, .val dm, vA tg] [(.ref us), (.ref ac)])) _
    refine st14 _ ?_
    show Steps _ _ _ (T14.setTop (mkF m 17 #[vA ac, vA us, vA pw, .val dm, vA tg] [])) _
    refine XS.aloadN X14.here hx rfl (hb hby d383) rfl rfl ?_
    refine XS.aloadN X14.here hx rfl (hb hby d384) rfl rfl ?_
    refine st17 _ ?_
    show Steps _ _ _ (T17.setTop (mkF m 21 #[vA ac, vA us, vA pw, .val dm, vA tg] [(.ref a17), (.ref pw), (.ref ac)])) _
    refine st18 _ ?_
    show Steps _ _ _ (T18.setTop (mkF m 24 #[vA ac, vA us, vA pw, .val dm, vA tg] [(.ref pw), (.ref ac)])) _
    refine st19 _ ?_
    show Steps _ _ _ (T19.setTop (mkF m 27 #[vA ac, vA us, vA pw, .val dm, vA tg] [(.ref pw), (.ref ac)])) _
    refine st23 _ ?_
    show Steps _ _ _ (T23.setTop (mkF m 30 #[vA ac, vA us, vA pw, .val dm, vA tg] [])) _
    refine XS.aloadN X23.here hx rfl (hb hby d389) rfl rfl ?_
    refine XS.aloadN X23.here hx rfl (hb hby d390) rfl hdm ?_
    refine st29 _ ?_
    show Steps _ _ _ (T29.setTop (mkF m 35 #[vA ac, vA us, vA pw, .val dm, vA tg] [])) _
    refine XS.aloadN X29.here hx rfl (hb hby d392) rfl rfl ?_
    refine XS.aload X29.here hx rfl (hb hby d393) rfl rfl ?_
    refine st35 _ ?_
    show Steps _ _ _ (T35.setTop (mkF m 40 #[vA ac, vA us, vA pw, .val dm, vA tg] [(.ref a35), (.ref tg), (.ref ac)])) _
    refine st36 _ ?_
    show Steps _ _ _ (T36.setTop (mkF m 43 #[vA ac, vA us, vA pw, .val dm, vA tg] [(.ref tg), (.ref ac)])) _
    refine st37 _ ?_
    show Steps _ _ _ (T37.setTop (mkF m 46 #[vA ac, vA us, vA pw, .val dm, vA tg] [(.ref tg), (.ref ac)])) _
    refine st44 _ ?_
    show Steps _ _ _ (T44.setTop (mkF m 49 #[vA ac, vA us, vA pw, .val dm, vA tg] [])) _
    exact X44.returnOut hx Bd.returns (hb hby d398) hr
  · show Q_acci Z ac us pw dm tg h0 n0 _ T44.heap _
    rw [(e44 : T44.heap = h44)]
    exact ⟨rfl, N44, K44, f53, f58, f60, F44⟩
theorem w_56 {Z : State} {a0 : Array Value} (hw : HW Z a0) : (Jvm.Cond.classLink "com/example/upright_harness/uprightharness/Account" (33 : Nat) "java/lang/StringBuilder").before a0 Z = true := hw _ (List.mem_of_getElem? (i := 56) rfl)
theorem d399 : decode prog_1_method_6_code 0 = .ok (.new 33, 3) := by decide +kernel
theorem d400 : decode prog_1_method_6_code 3 = .ok (.dup, 1) := by decide +kernel
theorem d401 : decode prog_1_method_6_code 4 = .ok (.ldc 35, 2) := by decide +kernel
theorem w_60 {Z : State} {a0 : Array Value} (hw : HW Z a0) : (Jvm.Cond.methodLink "com/example/upright_harness/uprightharness/Account" (37 : Nat) m_24).before a0 Z = true := hw _ (List.mem_of_getElem? (i := 60) rfl)
theorem w_62 {Z : State} {a0 : Array Value} (hw : HW Z a0) : (Jvm.Cond.code m_24 jdk_67_method_3_code (2 : Nat) (Option.none : Option Jvm.ClassFile.FieldType)).before a0 Z = true := hw _ (List.mem_of_getElem? (i := 62) rfl)
theorem d402 : decode prog_1_method_6_code 6 = .ok (.invokespecial 37, 3) := by decide +kernel
theorem w_61 {Z : State} {a0 : Array Value} (hw : HW Z a0) : (Jvm.Cond.instanceMethod m_24).before a0 Z = true := hw _ (List.mem_of_getElem? (i := 61) rfl)
theorem d403 : decode prog_1_method_6_code 9 = .ok (.aload_n 0, 1) := by decide +kernel
theorem d404 : decode prog_1_method_6_code 10 = .ok (.getfield 17, 3) := by decide +kernel
theorem w_127 {Z : State} {a0 : Array Value} (hw : HW Z a0) : (Jvm.Cond.methodLink "com/example/upright_harness/uprightharness/Account" (40 : Nat) m_18).before a0 Z = true := hw _ (List.mem_of_getElem? (i := 127) rfl)
theorem d405 : decode prog_1_method_6_code 13 = .ok (.invokevirtual 40, 3) := by decide +kernel
theorem d406 : decode prog_1_method_6_code 16 = .ok (.astore_n 1, 1) := by decide +kernel
theorem d407 : decode prog_1_method_6_code 17 = .ok (.aload_n 0, 1) := by decide +kernel
theorem d408 : decode prog_1_method_6_code 18 = .ok (.getfield 26, 3) := by decide +kernel
theorem d409 : decode prog_1_method_6_code 21 = .ok (.ifnull 17, 3) := by decide +kernel
theorem d410 : decode prog_1_method_6_code 38 = .ok (.aload_n 1, 1) := by decide +kernel
theorem d411 : decode prog_1_method_6_code 39 = .ok (.ldc 46, 2) := by decide +kernel
theorem d412 : decode prog_1_method_6_code 41 = .ok (.invokevirtual 40, 3) := by decide +kernel
theorem d413 : decode prog_1_method_6_code 44 = .ok (.aload_n 0, 1) := by decide +kernel
theorem d414 : decode prog_1_method_6_code 45 = .ok (.getfield 31, 3) := by decide +kernel
theorem d415 : decode prog_1_method_6_code 48 = .ok (.invokevirtual 40, 3) := by decide +kernel
theorem d416 : decode prog_1_method_6_code 51 = .ok (.pop, 1) := by decide +kernel
theorem d417 : decode prog_1_method_6_code 52 = .ok (.aload_n 1, 1) := by decide +kernel
theorem d418 : decode prog_1_method_6_code 53 = .ok (.bipush 93, 2) := by decide +kernel
theorem w_129 {Z : State} {a0 : Array Value} (hw : HW Z a0) : (Jvm.Cond.methodLink "com/example/upright_harness/uprightharness/Account" (48 : Nat) m_22).before a0 Z = true := hw _ (List.mem_of_getElem? (i := 129) rfl)
theorem w_133 {Z : State} {a0 : Array Value} (hw : HW Z a0) : (Jvm.Cond.code m_22 jdk_67_method_14_code (2 : Nat) (Option.some (FieldType.object "java/lang/StringBuilder"))).before a0 Z = true := hw _ (List.mem_of_getElem? (i := 133) rfl)
theorem pd_23 : parseMethodDescriptor "(C)Ljava/lang/StringBuilder;" = some ⟨[.char], some (.object "java/lang/StringBuilder")⟩ := by decide +kernel
theorem d419 : decode prog_1_method_6_code 55 = .ok (.invokevirtual 48, 3) := by decide +kernel
theorem w_132 {Z : State} {a0 : Array Value} (hw : HW Z a0) : (Jvm.Cond.selects "java/lang/StringBuilder" m_22 m_22).before a0 Z = true := hw _ (List.mem_of_getElem? (i := 132) rfl)
theorem w_130 {Z : State} {a0 : Array Value} (hw : HW Z a0) : (Jvm.Cond.declares m_22).before a0 Z = true := hw _ (List.mem_of_getElem? (i := 130) rfl)
theorem w_131 {Z : State} {a0 : Array Value} (hw : HW Z a0) : (Jvm.Cond.instanceMethod m_22).before a0 Z = true := hw _ (List.mem_of_getElem? (i := 131) rfl)
theorem w_144 {Z : State} {a0 : Array Value} (hw : HW Z a0) : (Jvm.Cond.methodLink "com/example/upright_harness/uprightharness/Account" (51 : Nat) m_33).before a0 Z = true := hw _ (List.mem_of_getElem? (i := 144) rfl)
theorem w_148 {Z : State} {a0 : Array Value} (hw : HW Z a0) : (Jvm.Cond.code m_33 jdk_67_method_42_code (1 : Nat) (Option.some (FieldType.object "java/lang/String"))).before a0 Z = true := hw _ (List.mem_of_getElem? (i := 148) rfl)
theorem pd_24 : parseMethodDescriptor "()Ljava/lang/String;" = some ⟨[], some (.object "java/lang/String")⟩ := by decide +kernel
theorem d420 : decode prog_1_method_6_code 58 = .ok (.invokevirtual 51, 3) := by decide +kernel
theorem w_147 {Z : State} {a0 : Array Value} (hw : HW Z a0) : (Jvm.Cond.selects "java/lang/StringBuilder" m_33 m_33).before a0 Z = true := hw _ (List.mem_of_getElem? (i := 147) rfl)
theorem w_145 {Z : State} {a0 : Array Value} (hw : HW Z a0) : (Jvm.Cond.declares m_33).before a0 Z = true := hw _ (List.mem_of_getElem? (i := 145) rfl)
theorem w_146 {Z : State} {a0 : Array Value} (hw : HW Z a0) : (Jvm.Cond.instanceMethod m_33).before a0 Z = true := hw _ (List.mem_of_getElem? (i := 146) rfl)
theorem d421 : decode prog_1_method_6_code 61 = .ok (.areturn, 1) := by decide +kernel
theorem ef_17 (m : MethodId) (x0 : Addr) : entryFrame m #[(.ref x0)] 2 = mkF m 0 #[vA x0, .unset] [] := by first | (simp [entryFrame, mkF, argsToLocals, Value.category, maxLocals]; done) | rfl
abbrev m_36 : MethodName := (⟨"com/example/upright_harness/uprightharness/Account", "toString", "()Ljava/lang/String;"⟩ : MethodName)
def Q_tsN (Z : State) (ac : Addr) (cp : Int32) (us : Addr) (ub : Addr) (ku : ClassId) (tg : Addr) (gb : Addr) (kg : ClassId) (uq : Int32) (tq : Int32) (h0 : Heap) (n0 : Nat) (v : Option Value) (h : Heap) (L : List Loc) : Prop := ∃ (r : Addr) (b : Addr) (k : ClassId), (v = some (.ref r)) ∧ (Fr n0 L) ∧ (Keep h0 h []) ∧ (Exa Z h r "java/lang/String") ∧ (fld0 Z h r (.ref b)) ∧ (fld1 Z h r (.int 0)) ∧ (Arv Z h b k .byte (25 : Int32) [(.int 65), (.int 99), (.int 99), (.int 111), (.int 117), (.int 110), (.int 116), (.int 91), (.int 117), (.int 115), (.int 101), (.int 114), (.int 61), (.int uq), (.int 44), (.int 32), (.int 116), (.int 97), (.int 114), (.int 103), (.int 101), (.int 116), (.int 61), (.int tq), (.int 93)] (.int 0))
theorem rm_tsN (l : Launch) (Z : State) (a0 : Array Value) (hw : HW Z a0) (ws : List Jvm.Cond) (ac : Addr) (cp : Int32) (us : Addr) (ub : Addr) (ku : ClassId) (tg : Addr) (gb : Addr) (kg : ClassId) (uq : Int32) (tq : Int32) (h0 : Heap) (n0 : Nat) (Z0 : n0 ≤ h0.size) (P0 : Old Z n0 h0) (P1 : sta0 Z (.int cp)) (P2 : Exa Z h0 ac "com/example/upright_harness/uprightharness/Account") (P3 : Fld Z h0 ac "com/example/upright_harness/uprightharness/Account" "user" "Ljava/lang/String;" (.ref us)) (P4 : Fld Z h0 ac "com/example/upright_harness/uprightharness/Account" "domain" "Ljava/lang/String;" .null) (P5 : Fld Z h0 ac "com/example/upright_harness/uprightharness/Account" "target" "Ljava/lang/String;" (.ref tg)) (P6 : Exa Z h0 us "java/lang/String") (P7 : fld1 Z h0 us (.int 0)) (P8 : fld0 Z h0 us (.ref ub)) (P9 : Arv Z h0 ub ku .byte (1 : Int32) [(.int uq)] (.int 0)) (P10 : Exa Z h0 tg "java/lang/String") (P11 : fld1 Z h0 tg (.int 0)) (P12 : fld0 Z h0 tg (.ref gb)) (P13 : Arv Z h0 gb kg .byte (1 : Int32) [(.int tq)] (.int 0)) (hcs : ¬ (cp = (0 : Int32))) :
    MetFree l m_36 (head1 (Jvm.Cond.code m_36 prog_1_method_6_code 2 (some (.object "java/lang/String")) :: ws) (oR 8 8 193 117)) (fun as' U => as' = #[(.ref ac)] ∧ Z.Warmed39 U.vm ∧ U.heap = h0 ∧ CHv Z own_EL U.vm h0) (fun _ _ _ _ _ => True) (fun _ U o U' => ∃ v L, o = .returned v ∧ Q_tsN Z ac cp us ub ku tg gb kg uq tq h0 n0 v U'.heap L ∧ CHr Z own_EL U.vm U.heap U'.vm U'.heap ∧ ReturnedEndW U o U' L (oR 8 8 193 117).cells (oR 8 8 193 117).slots) := by
  refine MetFree.of_bodySF (plainFor_of_name pn_9) hisR ?_
  intro p e s m args below meth c s₁ Bd hml0 hP hK
  obtain ⟨rfl, hZ, hh, hCH⟩ := hP
  have hx := Bd.exec
  have hby := Bd.bytes
  have hml : c.maxLocals = 2 := hml0
  have hown : (s.setVm s.vm).vm.findClass "com/example/upright_harness/uprightharness/Account" = some m.cls := findClass_of_methodNamed Bd.named
  have hnm := (name_of_methodNamed Bd.named Bd.method).1
  have X0 : Stand p l e (oR 8 8 193 117) (s.setVm s.vm) m #[(.ref ac)] below meth c s₁ [] 0 0 := Stand.of_body Bd
  have e0 : s₁.heap = h0 := by rw [← hh, Bd.state]; rfl
  have N0 := Fr.nil n0
  have hZ : Z.Warmed39 (s.setVm s.vm).vm := hZ
  have hS0 : s.Since s.vm h0.size := (State.WarmedH.refl s).since _
  have hk0 : h0.size ≤ h0.size := Nat.le_refl _
  have C0 : CHr Z own_EL s.vm h0 s.vm h0 := CHr.refl hCH
  have K0 := Keep.refl h0 []
  have lt1 := own_l P2.lt
  have lt2 := own_l P3.lt
  have lt3 := own_l P4.lt
  have lt4 := own_l P5.lt
  have lt5 := own_l P6.lt
  have lt6 := own_l P7.lt
  have lt7 := own_l P8.lt
  have lt8 := own_l P9.lt
  have lt9 := own_l P10.lt
  have lt10 := own_l P11.lt
  have lt11 := own_l P12.lt
  have lt12 := own_l P13.lt
  obtain ⟨T13, h13, X13, e13, E13, A13, D13, -, st13⟩ := newO X0 hx hZ hown (w_56 hw) (w_57 hw) (w_58 hw) e0 (g := (mkF m 0 #[vA ac, .unset] [])) rfl (hb hby d399) (by decide) (by decide)
  obtain ⟨b13, g13⟩ : ∃ z, z = h0.size := ⟨_, rfl⟩
  rw [← g13] at A13 D13 st13
  have z13 := E13.1
  have C13 := C0.trans (CHr.ext E13 C0.1)
  have K13 := K0.ext E13
  have lt14 := own_l A13.lt
  have F13_83 : Fld Z h13 b13 "java/lang/AbstractStringBuilder" "coder" "B" (.int 0) := D13 (Or.inl (w_83 hw)) (ty := .byte) (by decide)
  have F13_85 : Fld Z h13 b13 "java/lang/AbstractStringBuilder" "value" "[B" .null := D13 (Or.inl (w_85 hw)) (ty := (.array .byte)) (by decide)
  have F13_101 : Fld Z h13 b13 "java/lang/AbstractStringBuilder" "count" "I" (.int 0) := D13 (Or.inl (w_101 hw)) (ty := .int) (by decide)
  have sfb15 : Safe Z own_EL s.vm h13 b13 := (Safe.exa (Z := Z) (EL := own_EL) (vm := s.vm) hZ.alike A13 (by decide) (by decide))
  obtain ⟨a16, T16, h16, k1_16, b16, k16, X16, e16, E16, hS16, hk16, hZ16, hown16, A16, FC16, FV16, V16, -, -, Cs16, Lt16, Sn16, st16⟩ := ldcCH X13 hx hZ hown (w_59 hw) (own_wS hw) e13 hS0 (by omega) (own_EW hw) (by decide) C13.1 (vs := [(.int 65), (.int 99), (.int 99), (.int 111), (.int 117), (.int 110), (.int 116), (.int 91), (.int 117), (.int 115), (.int 101), (.int 114), (.int 61)]) (z := (13 : Int32)) ⟨by decide, by decide⟩ (by decide) (by decide) (g := (mkF m 4 #[vA ac, .unset] [(.ref b13), (.ref b13)])) rfl (hb hby d401) (n := 52) (by decide) (by decide) (by decide) (by decide)
  have z16 := E16.1
  have C16 := C13.trans Cs16
  have K16 := K13.ext E16
  have lt17 := own_l A16.lt
  have lt18 := own_l V16.lt
  have f19 := (Cs16.safe (by show @LT.lt Nat _ _ _; omega) sfb15)
  have ns16_b13 := Sn16 _ f19
  have f21 := P0.ext E13
  have f22 := f21.ext E16
  have f23 := A13.ext E16
  have f24 := F13_85.ext E16
  have f25 := F13_83.ext E16
  have f26 := F13_101.ext E16
  obtain ⟨_, _, ⟨T20, L20, k20, n20⟩, -, X20, ⟨Lc20, hQ20, l20, y20, z20⟩, st20⟩ := X16.specialBack hx (y := m_24) rfl hown16 (mvT hZ16 (w_60 hw)) (mvT hZ16 (w_61 hw)) (mvT hZ16 (w_62 hw)) (by decide) (backOf (W := 1) (rm_sbi l Z a0 hw [] b13 (.null) ((0 : Int32)) a16 b16 k16 ([(.int 65), (.int 99), (.int 99), (.int 111), (.int 117), (.int 110), (.int 116), (.int 91), (.int 117), (.int 115), (.int 101), (.int 114), (.int 61)]) cp h16 n0 (by omega) f22 P1 A16 FC16 FV16 V16 f23 f24 f25 f26 (by omega) (fun q => ns16_b13.2 q.symm) (fun q => ns16_b13.1 q.symm) hcs (Nat.le_of_ble_eq_true rfl)) hZ16 (w_62 hw) (w_58 hw) (by decide) (by decide)) (g := (mkF m 6 #[vA ac, .unset] [(.ref a16), (.ref b13), (.ref b13)])) rfl (by rw [hml]; rfl) (Steps.refl _) (a := b13) (argsL := [(.ref a16)]) (rest := [(.ref b13)]) (lenOf pd_8 rfl) rfl (Nat.le_of_eq rfl) (hb hby d402) (fun _ _ => ⟨rfl, e16, (by decide : 3 + 1 ≤ _), (by decide : 60 + 29 ≤ _)⟩)
  dsimp only [Pt.U, Pt.locs, Pt.cells, Pt.slots] at X20 l20 y20 z20 st20 hQ20
  rw [l20, y20, z20] at X20
  obtain ⟨x20_b, x20_k, rfl, Nq20, Kq20, r20_0, r20_1, r20_2, r20_3, r20_4, r20_5, r20_6⟩ := hQ20
  have N20 := Fr.app N0 Nq20
  have C20 := C16.trans (CHr.keep Kq20 (sfS (Safe.exa (Z := Z) (EL := own_EL) (vm := T16.vm) hZ16.alike f23 (by decide) (by decide)) sf0) C16.1)
  have z20' := Kq20.1
  have K20 := K16.trans Kq20 (allS (Or.inr (by omega)) all0)
  have sf20_0 : Safe Z own_EL T16.vm T20.heap x20_b := Safe.keep Kq20 (sfS (Safe.exa (Z := Z) (EL := own_EL) (vm := T16.vm) hZ16.alike f23 (by decide) (by decide)) sf0) C16.1 (Safe.new (by omega))
  have lt27 := own_l r20_1.lt
  have lt28 := own_l r20_2.lt
  have lt29 := own_l r20_3.lt
  have lt30 := own_l r20_4.lt
  have lt31 := own_l r20_5.lt
  have f33 := P3.ext E13
  have f34 := f33.ext E16
  have f35 := f34.keep Kq20 (ninS (own_ne (by omega)) nin0)
  obtain ⟨T32, X32, e32, st32⟩ := getF X20 hx hZ16 hown16 (host := "") (Or.inl (w_41 hw)) Via.refl rfl f35 (g := (mkF m 10 #[vA ac, .unset] [(.ref ac), (.ref b13)])) rfl rfl (hb hby d404)
  have f37 := P6.ext E13
  have f38 := f37.ext E16
  have f39 := f38.keep Kq20
  have f40 := P7.ext E13
  have f41 := f40.ext E16
  have f42 := f41.keep Kq20 (ninS (own_ne (by omega)) nin0)
  have f43 := P8.ext E13
  have f44 := f43.ext E16
  have f45 := f44.keep Kq20 (ninS (own_ne (by omega)) nin0)
  have f46 := P9.ext E13
  have f47 := f46.ext E16
  have f48 := f47.keep Kq20 (ninS (own_ne (by omega)) nin0)
  obtain ⟨cq36, kq36, qa36, qb36, qc36⟩ := isOf hZ16 e32 r20_1
  obtain ⟨_, _, ⟨T36, L36, k36, n36⟩, -, X36, ⟨Lc36, hQ36, l36, y36, z36⟩, st36⟩ := X32.virtualBack hx (y := m_18) (z := m_18) hown16 (mvT hZ16 (w_127 hw)) (mvT hZ16 (w_93 hw)) (notFace_of_selects (args := #[]) (mvT hZ16 (w_95 hw))) (mvT hZ16 (w_95 hw)) (mvT hZ16 (w_94 hw)) (by decide) (backOf (W := 0) (rm_apsN l Z a0 hw [] us ub ku ((1 : Int32)) ([(.int uq)]) cp b13 x20_b x20_k ((29 : Int32)) ((13 : Int32)) ([(.int 65), (.int 99), (.int 99), (.int 111), (.int 117), (.int 110), (.int 116), (.int 91), (.int 117), (.int 115), (.int 101), (.int 114), (.int 61)]) ((14 : Int32)) T20.heap n0 (by omega) r20_6 P1 f39 f42 f45 f48 r20_1 r20_2 r20_3 r20_4 r20_5 (by omega) (by omega) (own_ne (by omega)) (own_ne (by omega)) hcs (by decide) (by decide) rfl (Nat.le_of_ble_eq_true rfl) (Nat.le_of_ble_eq_true rfl) (by decide) (by decide)) hZ16 (w_96 hw) (w_58 hw) (by decide) (by decide)) qa36 qc36 (g := (mkF m 13 #[vA ac, .unset] [(.ref us), (.ref b13)])) rfl (by rw [hml]; rfl) (Steps.refl _) (argsL := [(.ref us)]) (rest := []) (lenOf pd_14 rfl) rfl (Nat.le_of_eq rfl) (hb hby d405) (fun _ _ => ⟨rfl, e32, (by decide : 4 + 0 ≤ _), (by decide : 89 + 0 ≤ _)⟩)
  dsimp only [Pt.U, Pt.locs, Pt.cells, Pt.slots] at X36 l36 y36 z36 st36 hQ36
  rw [l36, y36, z36] at X36
  obtain ⟨rfl, Nq36, Kq36, r36_0, r36_1, r36_2, r36_3, r36_4, r36_5⟩ := hQ36
  have N36 := Fr.app N20 Nq36
  have C36 := C20.trans (CHr.keep Kq36 (sfS (Safe.exa (Z := Z) (EL := own_EL) (vm := T16.vm) hZ16.alike r20_1 (by decide) (by decide)) (sfS sf20_0 sf0)) C20.1)
  have z36' := Kq36.1
  have K36 := K20.trans Kq36 (allS (Or.inr (by omega)) (allS (Or.inr (by omega)) all0))
  have lt49 := own_l r36_0.lt
  have lt50 := own_l r36_1.lt
  have lt51 := own_l r36_2.lt
  have lt52 := own_l r36_3.lt
  replace r36_4 : Arv Z T36.heap x20_b x20_k .byte (29 : Int32) [(.int 65), (.int 99), (.int 99), (.int 111), (.int 117), (.int 110), (.int 116), (.int 91), (.int 117), (.int 115), (.int 101), (.int 114), (.int 61), (.int uq)] (.int 0) := r36_4
  have lt53 := own_l r36_4.lt
  have f55 := P4.ext E13
  have f56 := f55.ext E16
  have f57 := f56.keep Kq20 (ninS (own_ne (by omega)) nin0)
  have f58 := f57.keep Kq36 (ninS (own_ne (by omega)) (ninS (own_ne (by omega)) nin0))
  obtain ⟨T54, X54, e54, st54⟩ := getF X36 hx hZ16 hown16 (host := "") (Or.inl (w_46 hw)) Via.refl rfl f58 (g := (mkF m 18 #[vA ac, vA b13] [(.ref ac)])) rfl rfl (hb hby d408)
  obtain ⟨a59, T59, h59, k1_59, b59, k59, X59, e59, E59, hS59, hk59, hZ59, hown59, A59, FC59, FV59, V59, -, -, Cs59, Lt59, Sn59, st59⟩ := ldcCH X54 hx hZ16 hown16 (w_128 hw) (own_wS hw) e54 hS16 (by omega) (own_EW hw) (by decide) C36.1 (vs := [(.int 44), (.int 32), (.int 116), (.int 97), (.int 114), (.int 103), (.int 101), (.int 116), (.int 61)]) (z := (9 : Int32)) ⟨by decide, by decide⟩ (by decide) (by decide) (g := (mkF m 39 #[vA ac, vA b13] [(.ref b13)])) rfl (hb hby d411) (n := 36) (by decide) (by decide) (by decide) (by decide)
  have z59 := E59.1
  have C59 := C36.trans Cs59
  have K59 := K36.ext E59
  have lt60 := own_l A59.lt
  have lt61 := own_l V59.lt
  have f62 := (Safe.keep Kq20 (sfS (Safe.exa (Z := Z) (EL := own_EL) (vm := T16.vm) hZ16.alike f23 (by decide) (by decide)) sf0) C16.1 f19)
  have f63 := (Safe.keep Kq36 (sfS (Safe.exa (Z := Z) (EL := own_EL) (vm := T16.vm) hZ16.alike r20_1 (by decide) (by decide)) (sfS sf20_0 sf0)) C20.1 f62)
  have f64 := (Cs59.safe (by show @LT.lt Nat _ _ _; omega) f63)
  have ns59_b13 := Sn59 _ f64
  have f65 := (Safe.keep Kq36 (sfS (Safe.exa (Z := Z) (EL := own_EL) (vm := T16.vm) hZ16.alike r20_1 (by decide) (by decide)) (sfS sf20_0 sf0)) C20.1 sf20_0)
  have f66 := (Cs59.safe (by show @LT.lt Nat _ _ _; omega) f65)
  have ns59_x20_b := Sn59 _ f66
  have f68 := r36_5.ext E59
  have f69 := r36_0.ext E59
  have f70 := r36_1.ext E59
  have f71 := r36_2.ext E59
  have f72 := r36_3.ext E59
  have f73 := r36_4.ext E59
  obtain ⟨cq67, kq67, qa67, qb67, qc67⟩ := isOf hZ59 e59 f69
  obtain ⟨_, _, ⟨T67, L67, k67, n67⟩, -, X67, ⟨Lc67, hQ67, l67, y67, z67⟩, st67⟩ := X59.virtualBack hx (y := m_18) (z := m_18) hown59 (mvT hZ59 (w_127 hw)) (mvT hZ59 (w_93 hw)) (notFace_of_selects (args := #[]) (mvT hZ59 (w_95 hw))) (mvT hZ59 (w_95 hw)) (mvT hZ59 (w_94 hw)) (by decide) (backOf (W := 0) (rm_apsN l Z a0 hw [] a59 b59 k59 ((9 : Int32)) ([(.int 44), (.int 32), (.int 116), (.int 97), (.int 114), (.int 103), (.int 101), (.int 116), (.int 61)]) cp b13 x20_b x20_k ((29 : Int32)) ((14 : Int32)) ([(.int 65), (.int 99), (.int 99), (.int 111), (.int 117), (.int 110), (.int 116), (.int 91), (.int 117), (.int 115), (.int 101), (.int 114), (.int 61), (.int uq)]) ((23 : Int32)) h59 n0 (by omega) f68 P1 A59 FC59 FV59 V59 f69 f70 f71 f72 f73 (by omega) (by omega) (fun q => ns59_x20_b.2 q.symm) (own_ne (by omega)) hcs (by decide) (by decide) rfl (Nat.le_of_ble_eq_true rfl) (Nat.le_of_ble_eq_true rfl) (by decide) (by decide)) hZ59 (w_96 hw) (w_58 hw) (by decide) (by decide)) qa67 qc67 (g := (mkF m 41 #[vA ac, vA b13] [(.ref a59), (.ref b13)])) rfl (by rw [hml]; rfl) (Steps.refl _) (argsL := [(.ref a59)]) (rest := []) (lenOf pd_14 rfl) rfl (Nat.le_of_eq rfl) (hb hby d412) (fun _ _ => ⟨rfl, e59, (by decide : 6 + 0 ≤ _), (by decide : 129 + 0 ≤ _)⟩)
  dsimp only [Pt.U, Pt.locs, Pt.cells, Pt.slots] at X67 l67 y67 z67 st67 hQ67
  rw [l67, y67, z67] at X67
  obtain ⟨rfl, Nq67, Kq67, r67_0, r67_1, r67_2, r67_3, r67_4, r67_5⟩ := hQ67
  have N67 := Fr.app N36 Nq67
  have C67 := C59.trans (CHr.keep Kq67 (sfS (Safe.exa (Z := Z) (EL := own_EL) (vm := T59.vm) hZ59.alike f69 (by decide) (by decide)) (sfS f66 sf0)) C59.1)
  have z67' := Kq67.1
  have K67 := K59.trans Kq67 (allS (Or.inr (by omega)) (allS (Or.inr (by omega)) all0))
  have lt74 := own_l r67_0.lt
  have lt75 := own_l r67_1.lt
  have lt76 := own_l r67_2.lt
  have lt77 := own_l r67_3.lt
  replace r67_4 : Arv Z T67.heap x20_b x20_k .byte (29 : Int32) [(.int 65), (.int 99), (.int 99), (.int 111), (.int 117), (.int 110), (.int 116), (.int 91), (.int 117), (.int 115), (.int 101), (.int 114), (.int 61), (.int uq), (.int 44), (.int 32), (.int 116), (.int 97), (.int 114), (.int 103), (.int 101), (.int 116), (.int 61)] (.int 0) := r67_4
  have lt78 := own_l r67_4.lt
  have f80 := P5.ext E13
  have f81 := f80.ext E16
  have f82 := f81.keep Kq20 (ninS (own_ne (by omega)) nin0)
  have f83 := f82.keep Kq36 (ninS (own_ne (by omega)) (ninS (own_ne (by omega)) nin0))
  have f84 := f83.ext E59
  have f85 := f84.keep Kq67 (ninS (own_ne (by omega)) (ninS (own_ne (by omega)) nin0))
  obtain ⟨T79, X79, e79, st79⟩ := getF X67 hx hZ59 hown59 (host := "") (Or.inl (w_49 hw)) Via.refl rfl f85 (g := (mkF m 45 #[vA ac, vA b13] [(.ref ac), (.ref b13)])) rfl rfl (hb hby d414)
  have f87 := P10.ext E13
  have f88 := f87.ext E16
  have f89 := f88.keep Kq20
  have f90 := f89.keep Kq36
  have f91 := f90.ext E59
  have f92 := f91.keep Kq67
  have f93 := P11.ext E13
  have f94 := f93.ext E16
  have f95 := f94.keep Kq20 (ninS (own_ne (by omega)) nin0)
  have f96 := f95.keep Kq36 (ninS (own_ne (by omega)) (ninS (own_ne (by omega)) nin0))
  have f97 := f96.ext E59
  have f98 := f97.keep Kq67 (ninS (own_ne (by omega)) (ninS (own_ne (by omega)) nin0))
  have f99 := P12.ext E13
  have f100 := f99.ext E16
  have f101 := f100.keep Kq20 (ninS (own_ne (by omega)) nin0)
  have f102 := f101.keep Kq36 (ninS (own_ne (by omega)) (ninS (own_ne (by omega)) nin0))
  have f103 := f102.ext E59
  have f104 := f103.keep Kq67 (ninS (own_ne (by omega)) (ninS (own_ne (by omega)) nin0))
  have f105 := P13.ext E13
  have f106 := f105.ext E16
  have f107 := f106.keep Kq20 (ninS (own_ne (by omega)) nin0)
  have f108 := f107.keep Kq36 (ninS (own_ne (by omega)) (ninS (own_ne (by omega)) nin0))
  have f109 := f108.ext E59
  have f110 := f109.keep Kq67 (ninS (own_ne (by omega)) (ninS (own_ne (by omega)) nin0))
  obtain ⟨cq86, kq86, qa86, qb86, qc86⟩ := isOf hZ59 e79 r67_0
  obtain ⟨_, _, ⟨T86, L86, k86, n86⟩, -, X86, ⟨Lc86, hQ86, l86, y86, z86⟩, st86⟩ := X79.virtualBack hx (y := m_18) (z := m_18) hown59 (mvT hZ59 (w_127 hw)) (mvT hZ59 (w_93 hw)) (notFace_of_selects (args := #[]) (mvT hZ59 (w_95 hw))) (mvT hZ59 (w_95 hw)) (mvT hZ59 (w_94 hw)) (by decide) (backOf (W := 0) (rm_apsN l Z a0 hw [] tg gb kg ((1 : Int32)) ([(.int tq)]) cp b13 x20_b x20_k ((29 : Int32)) ((23 : Int32)) ([(.int 65), (.int 99), (.int 99), (.int 111), (.int 117), (.int 110), (.int 116), (.int 91), (.int 117), (.int 115), (.int 101), (.int 114), (.int 61), (.int uq), (.int 44), (.int 32), (.int 116), (.int 97), (.int 114), (.int 103), (.int 101), (.int 116), (.int 61)]) ((24 : Int32)) T67.heap n0 (by omega) r67_5 P1 f92 f98 f104 f110 r67_0 r67_1 r67_2 r67_3 r67_4 (by omega) (by omega) (own_ne (by omega)) (own_ne (by omega)) hcs (by decide) (by decide) rfl (Nat.le_of_ble_eq_true rfl) (Nat.le_of_ble_eq_true rfl) (by decide) (by decide)) hZ59 (w_96 hw) (w_58 hw) (by decide) (by decide)) qa86 qc86 (g := (mkF m 48 #[vA ac, vA b13] [(.ref tg), (.ref b13)])) rfl (by rw [hml]; rfl) (Steps.refl _) (argsL := [(.ref tg)]) (rest := []) (lenOf pd_14 rfl) rfl (Nat.le_of_eq rfl) (hb hby d415) (fun _ _ => ⟨rfl, e79, (by decide : 6 + 0 ≤ _), (by decide : 129 + 0 ≤ _)⟩)
  dsimp only [Pt.U, Pt.locs, Pt.cells, Pt.slots] at X86 l86 y86 z86 st86 hQ86
  rw [l86, y86, z86] at X86
  obtain ⟨rfl, Nq86, Kq86, r86_0, r86_1, r86_2, r86_3, r86_4, r86_5⟩ := hQ86
  have N86 := Fr.app N67 Nq86
  have f111 := (Safe.keep Kq67 (sfS (Safe.exa (Z := Z) (EL := own_EL) (vm := T59.vm) hZ59.alike f69 (by decide) (by decide)) (sfS f66 sf0)) C59.1 f66)
  have C86 := C67.trans (CHr.keep Kq86 (sfS (Safe.exa (Z := Z) (EL := own_EL) (vm := T59.vm) hZ59.alike r67_0 (by decide) (by decide)) (sfS f111 sf0)) C67.1)
  have z86' := Kq86.1
  have K86 := K67.trans Kq86 (allS (Or.inr (by omega)) (allS (Or.inr (by omega)) all0))
  have lt112 := own_l r86_0.lt
  have lt113 := own_l r86_1.lt
  have lt114 := own_l r86_2.lt
  have lt115 := own_l r86_3.lt
  replace r86_4 : Arv Z T86.heap x20_b x20_k .byte (29 : Int32) [(.int 65), (.int 99), (.int 99), (.int 111), (.int 117), (.int 110), (.int 116), (.int 91), (.int 117), (.int 115), (.int 101), (.int 114), (.int 61), (.int uq), (.int 44), (.int 32), (.int 116), (.int 97), (.int 114), (.int 103), (.int 101), (.int 116), (.int 61), (.int tq)] (.int 0) := r86_4
  have lt116 := own_l r86_4.lt
  obtain ⟨cq117, kq117, qa117, qb117, qc117⟩ := isOf hZ59 rfl r86_0
  obtain ⟨_, _, ⟨T117, L117, k117, n117⟩, -, X117, ⟨Lc117, hQ117, l117, y117, z117⟩, st117⟩ := X86.virtualBack hx (y := m_22) (z := m_22) hown59 (mvT hZ59 (w_129 hw)) (mvT hZ59 (w_130 hw)) (notFace_of_selects (args := #[]) (mvT hZ59 (w_132 hw))) (mvT hZ59 (w_132 hw)) (mvT hZ59 (w_131 hw)) (by decide) (backOf (W := 0) (rm_apcS l Z a0 hw [] ((93 : Int32)) cp b13 x20_b x20_k ((29 : Int32)) ((24 : Int32)) ([(.int 65), (.int 99), (.int 99), (.int 111), (.int 117), (.int 110), (.int 116), (.int 91), (.int 117), (.int 115), (.int 101), (.int 114), (.int 61), (.int uq), (.int 44), (.int 32), (.int 116), (.int 97), (.int 114), (.int 103), (.int 101), (.int 116), (.int 61), (.int tq)]) ((25 : Int32)) T86.heap n0 (by omega) r86_5 P1 r86_0 r86_1 r86_2 r86_3 r86_4 (by omega) (by omega) (own_ne (by omega)) hcs (by decide) (by decide) rfl (by decide) (by decide) (by decide)) hZ59 (w_133 hw) (w_58 hw) (by decide) (by decide)) qa117 qc117 (g := (mkF m 55 #[vA ac, vA b13] [(.int 93), (.ref b13)])) rfl (by rw [hml]; rfl) (Steps.refl _) (argsL := [(.int 93)]) (rest := []) (lenOf pd_23 rfl) rfl (Nat.le_of_eq rfl) (hb hby d419) (fun _ _ => ⟨rfl, rfl, (by decide : 6 + 0 ≤ _), (by decide : 129 + 0 ≤ _)⟩)
  dsimp only [Pt.U, Pt.locs, Pt.cells, Pt.slots] at X117 l117 y117 z117 st117 hQ117
  rw [l117, y117, z117] at X117
  obtain ⟨rfl, Nq117, Kq117, r117_0, r117_1, r117_2, r117_3, r117_4, r117_5⟩ := hQ117
  have N117 := Fr.app N86 Nq117
  have f118 := (Safe.keep Kq86 (sfS (Safe.exa (Z := Z) (EL := own_EL) (vm := T59.vm) hZ59.alike r67_0 (by decide) (by decide)) (sfS f111 sf0)) C67.1 f111)
  have C117 := C86.trans (CHr.keep Kq117 (sfS (Safe.exa (Z := Z) (EL := own_EL) (vm := T59.vm) hZ59.alike r86_0 (by decide) (by decide)) (sfS f118 sf0)) C86.1)
  have z117' := Kq117.1
  have K117 := K86.trans Kq117 (allS (Or.inr (by omega)) (allS (Or.inr (by omega)) all0))
  have lt119 := own_l r117_0.lt
  have lt120 := own_l r117_1.lt
  have lt121 := own_l r117_2.lt
  have lt122 := own_l r117_3.lt
  replace r117_4 : Arv Z T117.heap x20_b x20_k .byte (29 : Int32) [(.int 65), (.int 99), (.int 99), (.int 111), (.int 117), (.int 110), (.int 116), (.int 91), (.int 117), (.int 115), (.int 101), (.int 114), (.int 61), (.int uq), (.int 44), (.int 32), (.int 116), (.int 97), (.int 114), (.int 103), (.int 101), (.int 116), (.int 61), (.int tq), (.int (oB (93 : Int32)))] (.int 0) := r117_4
  have lt123 := own_l r117_4.lt
  obtain ⟨cq124, kq124, qa124, qb124, qc124⟩ := isOf hZ59 rfl r117_0
  obtain ⟨_, _, ⟨T124, L124, k124, n124⟩, -, X124, ⟨Lc124, hQ124, l124, y124, z124⟩, st124⟩ := X117.virtualBack hx (y := m_33) (z := m_33) hown59 (mvT hZ59 (w_144 hw)) (mvT hZ59 (w_145 hw)) (notFace_of_selects (args := #[]) (mvT hZ59 (w_147 hw))) (mvT hZ59 (w_147 hw)) (mvT hZ59 (w_146 hw)) (by decide) (backOf (W := 0) (rm_tos l Z a0 hw [] cp b13 x20_b x20_k ((29 : Int32)) ((25 : Int32)) ([(.int 65), (.int 99), (.int 99), (.int 111), (.int 117), (.int 110), (.int 116), (.int 91), (.int 117), (.int 115), (.int 101), (.int 114), (.int 61), (.int uq), (.int 44), (.int 32), (.int 116), (.int 97), (.int 114), (.int 103), (.int 101), (.int 116), (.int 61), (.int tq), (.int (oB (93 : Int32)))]) T117.heap n0 (by omega) r117_5 P1 r117_0 r117_1 r117_2 r117_3 r117_4 hcs (by decide) rfl (by decide) (by decide) (by decide) (by decide)) hZ59 (w_148 hw) (w_58 hw) (by decide) (by decide)) qa124 qc124 (g := (mkF m 58 #[vA ac, vA b13] [(.ref b13)])) rfl (by rw [hml]; rfl) (Steps.refl _) (argsL := []) (rest := []) (lenOf pd_24 rfl) rfl (Nat.le_of_eq rfl) (hb hby d420) (fun _ _ => ⟨rfl, rfl, (by decide : 6 + 2 ≤ _), (by decide : 129 + 64 ≤ _)⟩)
  dsimp only [Pt.U, Pt.locs, Pt.cells, Pt.slots] at X124 l124 y124 z124 st124 hQ124
  rw [l124, y124, z124] at X124
  obtain ⟨x124_r, x124_b, x124_k, rfl, Nq124, Kq124, r124_0, r124_1, r124_2, r124_3, r124_4, r124_5, r124_6⟩ := hQ124
  have N124 := Fr.app N117 Nq124
  have C124 := C117.trans (CHr.keep Kq124 sf0 C117.1)
  have z124' := Kq124.1
  have K124 := K117.trans Kq124 all0
  have sf124_0 : Safe Z own_EL T59.vm T124.heap x124_r := Safe.keep Kq124 sf0 C117.1 (Safe.new (by omega))
  have sf124_1 : Safe Z own_EL T59.vm T124.heap x124_b := Safe.keep Kq124 sf0 C117.1 (Safe.new (by omega))
  have lt125 := own_l r124_2.lt
  have lt126 := own_l r124_3.lt
  have lt127 := own_l r124_4.lt
  have lt128 := own_l r124_5.lt
  obtain ⟨fs, hr, hrun, hended, hEnd⟩ := X124.leaveW hS59 (by first | omega | (rw [(rfl : T124.heap = T124.heap)]; omega)) (v := some (.ref x124_r)) (fun h => by rw [Bd.returns] at h; cases h)
  have Cz := C124.trans (CHv.at X124 hZ59 (own_EW hw) C124.1)
  refine ⟨_, _, castTop (ef_17 m ac) ?_, hrun, hended, _, _, rfl, ?_, (by rw [hh]; show CHr Z own_EL s.vm h0 T124.vm T124.heap; rw [(rfl : T124.heap = T124.heap)]; exact Cz), hEnd.1, hEnd.2.1, hEnd.2.2.1, hEnd.2.2.2.mono (by decide) (by decide)⟩
  · show Steps _ _ _ (s₁.setTop (mkF m 0 #[vA ac, .unset] [])) _
    refine st13 _ ?_
    show Steps _ _ _ (T13.setTop (mkF m 3 #[vA ac, .unset] [(.ref b13)])) _
    refine XS.dup X13.here hx rfl (hb hby d400) rfl rfl ?_
    refine st16 _ ?_
    show Steps _ _ _ (T16.setTop (mkF m 6 #[vA ac, .unset] [(.ref a16), (.ref b13), (.ref b13)])) _
    refine st20.trans ?_
    show Steps _ _ _ (T20.setTop (mkF m 9 #[vA ac, .unset] [(.ref b13)])) _
    refine XS.aloadN X20.here hx rfl (hb hby d403) rfl rfl ?_
    refine st32 _ ?_
    show Steps _ _ _ (T32.setTop (mkF m 13 #[vA ac, .unset] [(.ref us), (.ref b13)])) _
    refine st36.trans ?_
    show Steps _ _ _ (T36.setTop (mkF m 16 #[vA ac, .unset] [(.ref b13)])) _
    refine XS.astoreN X36.here hx rfl (hb hby d406) rfl rfl (l' := #[vA ac, vA b13]) rfl ?_
    refine XS.aloadN X36.here hx rfl (hb hby d407) rfl rfl ?_
    refine st54 _ ?_
    show Steps _ _ _ (T54.setTop (mkF m 21 #[vA ac, vA b13] [.null])) _
    refine XS.ifnullYes X54.here hx rfl (pc0 := 21) (pc' := 38) rfl (hb hby d409) rfl (by decide) (by decide) ?_
    refine XS.aloadN X54.here hx rfl (hb hby d410) rfl rfl ?_
    refine st59 _ ?_
    show Steps _ _ _ (T59.setTop (mkF m 41 #[vA ac, vA b13] [(.ref a59), (.ref b13)])) _
    refine st67.trans ?_
    show Steps _ _ _ (T67.setTop (mkF m 44 #[vA ac, vA b13] [(.ref b13)])) _
    refine XS.aloadN X67.here hx rfl (hb hby d413) rfl rfl ?_
    refine st79 _ ?_
    show Steps _ _ _ (T79.setTop (mkF m 48 #[vA ac, vA b13] [(.ref tg), (.ref b13)])) _
    refine st86.trans ?_
    show Steps _ _ _ (T86.setTop (mkF m 51 #[vA ac, vA b13] [(.ref b13)])) _
    refine XS.pop X86.here hx rfl (hb hby d416) rfl rfl ?_
    refine XS.aloadN X86.here hx rfl (hb hby d417) rfl rfl ?_
    refine XS.bipush X86.here hx rfl (hb hby d418) ?_
    refine st117.trans ?_
    show Steps _ _ _ (T117.setTop (mkF m 58 #[vA ac, vA b13] [(.ref b13)])) _
    refine st124.trans ?_
    show Steps _ _ _ (T124.setTop (mkF m 61 #[vA ac, vA b13] [(.ref x124_r)])) _
    exact retOut X124 hx Bd.returns (own_narrow_ref rfl) (Or.inr (Or.inr (Or.inr (Or.inr ⟨rfl, rfl, rfl⟩)))) (hb hby d421) hr
  · show Q_tsN Z ac cp us ub ku tg gb kg uq tq h0 n0 _ T124.heap _
    exact ⟨x124_r, x124_b, x124_k, rfl, N124, K124, r124_2, r124_3, r124_4, r124_5⟩
theorem d422 : decode prog_1_method_6_code 24 = .ok (.aload_n 1, 1) := by decide +kernel
theorem d423 : decode prog_1_method_6_code 25 = .ok (.ldc 44, 2) := by decide +kernel
theorem d424 : decode prog_1_method_6_code 27 = .ok (.invokevirtual 40, 3) := by decide +kernel
theorem d425 : decode prog_1_method_6_code 30 = .ok (.aload_n 0, 1) := by decide +kernel
theorem d426 : decode prog_1_method_6_code 31 = .ok (.getfield 26, 3) := by decide +kernel
theorem d427 : decode prog_1_method_6_code 34 = .ok (.invokevirtual 40, 3) := by decide +kernel
theorem d428 : decode prog_1_method_6_code 37 = .ok (.pop, 1) := by decide +kernel
def Q_ts0 (Z : State) (ac : Addr) (cp : Int32) (us : Addr) (ub : Addr) (ku : ClassId) (tg : Addr) (gb : Addr) (kg : ClassId) (uq : Int32) (tq : Int32) (dm : Addr) (db : Addr) (kd : ClassId) (h0 : Heap) (n0 : Nat) (v : Option Value) (h : Heap) (L : List Loc) : Prop := ∃ (r : Addr) (b : Addr) (k : ClassId), (v = some (.ref r)) ∧ (Fr n0 L) ∧ (Keep h0 h []) ∧ (Exa Z h r "java/lang/String") ∧ (fld0 Z h r (.ref b)) ∧ (fld1 Z h r (.int 0)) ∧ (Arv Z h b k .byte (34 : Int32) [(.int 65), (.int 99), (.int 99), (.int 111), (.int 117), (.int 110), (.int 116), (.int 91), (.int 117), (.int 115), (.int 101), (.int 114), (.int 61), (.int uq), (.int 44), (.int 32), (.int 100), (.int 111), (.int 109), (.int 97), (.int 105), (.int 110), (.int 61), (.int 44), (.int 32), (.int 116), (.int 97), (.int 114), (.int 103), (.int 101), (.int 116), (.int 61), (.int tq), (.int 93)] (.int 0))
theorem rm_ts0 (l : Launch) (Z : State) (a0 : Array Value) (hw : HW Z a0) (ws : List Jvm.Cond) (ac : Addr) (cp : Int32) (us : Addr) (ub : Addr) (ku : ClassId) (tg : Addr) (gb : Addr) (kg : ClassId) (uq : Int32) (tq : Int32) (dm : Addr) (db : Addr) (kd : ClassId) (h0 : Heap) (n0 : Nat) (Z0 : n0 ≤ h0.size) (P0 : Old Z n0 h0) (P1 : sta0 Z (.int cp)) (P2 : Exa Z h0 ac "com/example/upright_harness/uprightharness/Account") (P3 : Fld Z h0 ac "com/example/upright_harness/uprightharness/Account" "user" "Ljava/lang/String;" (.ref us)) (P4 : Fld Z h0 ac "com/example/upright_harness/uprightharness/Account" "domain" "Ljava/lang/String;" (.ref dm)) (P5 : Fld Z h0 ac "com/example/upright_harness/uprightharness/Account" "target" "Ljava/lang/String;" (.ref tg)) (P6 : Exa Z h0 us "java/lang/String") (P7 : fld1 Z h0 us (.int 0)) (P8 : fld0 Z h0 us (.ref ub)) (P9 : Arv Z h0 ub ku .byte (1 : Int32) [(.int uq)] (.int 0)) (P10 : Exa Z h0 tg "java/lang/String") (P11 : fld1 Z h0 tg (.int 0)) (P12 : fld0 Z h0 tg (.ref gb)) (P13 : Arv Z h0 gb kg .byte (1 : Int32) [(.int tq)] (.int 0)) (P14 : Exa Z h0 dm "java/lang/String") (P15 : fld1 Z h0 dm (.int 0)) (P16 : fld0 Z h0 dm (.ref db)) (P17 : Arv Z h0 db kd .byte (0 : Int32) [] (.int 0)) (hcs : ¬ (cp = (0 : Int32))) :
    MetFree l m_36 (head1 (Jvm.Cond.code m_36 prog_1_method_6_code 2 (some (.object "java/lang/String")) :: ws) (oR 8 11 293 117)) (fun as' U => as' = #[(.ref ac)] ∧ Z.Warmed39 U.vm ∧ U.heap = h0 ∧ CHv Z own_EL U.vm h0) (fun _ _ _ _ _ => True) (fun _ U o U' => ∃ v L, o = .returned v ∧ Q_ts0 Z ac cp us ub ku tg gb kg uq tq dm db kd h0 n0 v U'.heap L ∧ CHr Z own_EL U.vm U.heap U'.vm U'.heap ∧ ReturnedEndW U o U' L (oR 8 11 293 117).cells (oR 8 11 293 117).slots) := by
  refine MetFree.of_bodySF (plainFor_of_name pn_9) hisR ?_
  intro p e s m args below meth c s₁ Bd hml0 hP hK
  obtain ⟨rfl, hZ, hh, hCH⟩ := hP
  have hx := Bd.exec
  have hby := Bd.bytes
  have hml : c.maxLocals = 2 := hml0
  have hown : (s.setVm s.vm).vm.findClass "com/example/upright_harness/uprightharness/Account" = some m.cls := findClass_of_methodNamed Bd.named
  have hnm := (name_of_methodNamed Bd.named Bd.method).1
  have X0 : Stand p l e (oR 8 11 293 117) (s.setVm s.vm) m #[(.ref ac)] below meth c s₁ [] 0 0 := Stand.of_body Bd
  have e0 : s₁.heap = h0 := by rw [← hh, Bd.state]; rfl
  have N0 := Fr.nil n0
  have hZ : Z.Warmed39 (s.setVm s.vm).vm := hZ
  have hS0 : s.Since s.vm h0.size := (State.WarmedH.refl s).since _
  have hk0 : h0.size ≤ h0.size := Nat.le_refl _
  have C0 : CHr Z own_EL s.vm h0 s.vm h0 := CHr.refl hCH
  have K0 := Keep.refl h0 []
  have lt1 := own_l P2.lt
  have lt2 := own_l P3.lt
  have lt3 := own_l P4.lt
  have lt4 := own_l P5.lt
  have lt5 := own_l P6.lt
  have lt6 := own_l P7.lt
  have lt7 := own_l P8.lt
  have lt8 := own_l P9.lt
  have lt9 := own_l P10.lt
  have lt10 := own_l P11.lt
  have lt11 := own_l P12.lt
  have lt12 := own_l P13.lt
  have lt13 := own_l P14.lt
  have lt14 := own_l P15.lt
  have lt15 := own_l P16.lt
  have lt16 := own_l P17.lt
  obtain ⟨T17, h17, X17, e17, E17, A17, D17, -, st17⟩ := newO X0 hx hZ hown (w_56 hw) (w_57 hw) (w_58 hw) e0 (g := (mkF m 0 #[vA ac, .unset] [])) rfl (hb hby d399) (by decide) (by decide)
  obtain ⟨b17, g17⟩ : ∃ z, z = h0.size := ⟨_, rfl⟩
  rw [← g17] at A17 D17 st17
  have z17 := E17.1
  have C17 := C0.trans (CHr.ext E17 C0.1)
  have K17 := K0.ext E17
  have lt18 := own_l A17.lt
  have F17_83 : Fld Z h17 b17 "java/lang/AbstractStringBuilder" "coder" "B" (.int 0) := D17 (Or.inl (w_83 hw)) (ty := .byte) (by decide)
  have F17_85 : Fld Z h17 b17 "java/lang/AbstractStringBuilder" "value" "[B" .null := D17 (Or.inl (w_85 hw)) (ty := (.array .byte)) (by decide)
  have F17_101 : Fld Z h17 b17 "java/lang/AbstractStringBuilder" "count" "I" (.int 0) := D17 (Or.inl (w_101 hw)) (ty := .int) (by decide)
  have sfb19 : Safe Z own_EL s.vm h17 b17 := (Safe.exa (Z := Z) (EL := own_EL) (vm := s.vm) hZ.alike A17 (by decide) (by decide))
  obtain ⟨a20, T20, h20, k1_20, b20, k20, X20, e20, E20, hS20, hk20, hZ20, hown20, A20, FC20, FV20, V20, -, -, Cs20, Lt20, Sn20, st20⟩ := ldcCH X17 hx hZ hown (w_59 hw) (own_wS hw) e17 hS0 (by omega) (own_EW hw) (by decide) C17.1 (vs := [(.int 65), (.int 99), (.int 99), (.int 111), (.int 117), (.int 110), (.int 116), (.int 91), (.int 117), (.int 115), (.int 101), (.int 114), (.int 61)]) (z := (13 : Int32)) ⟨by decide, by decide⟩ (by decide) (by decide) (g := (mkF m 4 #[vA ac, .unset] [(.ref b17), (.ref b17)])) rfl (hb hby d401) (n := 52) (by decide) (by decide) (by decide) (by decide)
  have z20 := E20.1
  have C20 := C17.trans Cs20
  have K20 := K17.ext E20
  have lt21 := own_l A20.lt
  have lt22 := own_l V20.lt
  have f23 := (Cs20.safe (by show @LT.lt Nat _ _ _; omega) sfb19)
  have ns20_b17 := Sn20 _ f23
  have f25 := P0.ext E17
  have f26 := f25.ext E20
  have f27 := A17.ext E20
  have f28 := F17_85.ext E20
  have f29 := F17_83.ext E20
  have f30 := F17_101.ext E20
  obtain ⟨_, _, ⟨T24, L24, k24, n24⟩, -, X24, ⟨Lc24, hQ24, l24, y24, z24⟩, st24⟩ := X20.specialBack hx (y := m_24) rfl hown20 (mvT hZ20 (w_60 hw)) (mvT hZ20 (w_61 hw)) (mvT hZ20 (w_62 hw)) (by decide) (backOf (W := 1) (rm_sbi l Z a0 hw [] b17 (.null) ((0 : Int32)) a20 b20 k20 ([(.int 65), (.int 99), (.int 99), (.int 111), (.int 117), (.int 110), (.int 116), (.int 91), (.int 117), (.int 115), (.int 101), (.int 114), (.int 61)]) cp h20 n0 (by omega) f26 P1 A20 FC20 FV20 V20 f27 f28 f29 f30 (by omega) (fun q => ns20_b17.2 q.symm) (fun q => ns20_b17.1 q.symm) hcs (Nat.le_of_ble_eq_true rfl)) hZ20 (w_62 hw) (w_58 hw) (by decide) (by decide)) (g := (mkF m 6 #[vA ac, .unset] [(.ref a20), (.ref b17), (.ref b17)])) rfl (by rw [hml]; rfl) (Steps.refl _) (a := b17) (argsL := [(.ref a20)]) (rest := [(.ref b17)]) (lenOf pd_8 rfl) rfl (Nat.le_of_eq rfl) (hb hby d402) (fun _ _ => ⟨rfl, e20, (by decide : 3 + 1 ≤ _), (by decide : 60 + 29 ≤ _)⟩)
  dsimp only [Pt.U, Pt.locs, Pt.cells, Pt.slots] at X24 l24 y24 z24 st24 hQ24
  rw [l24, y24, z24] at X24
  obtain ⟨x24_b, x24_k, rfl, Nq24, Kq24, r24_0, r24_1, r24_2, r24_3, r24_4, r24_5, r24_6⟩ := hQ24
  have N24 := Fr.app N0 Nq24
  have C24 := C20.trans (CHr.keep Kq24 (sfS (Safe.exa (Z := Z) (EL := own_EL) (vm := T20.vm) hZ20.alike f27 (by decide) (by decide)) sf0) C20.1)
  have z24' := Kq24.1
  have K24 := K20.trans Kq24 (allS (Or.inr (by omega)) all0)
  have sf24_0 : Safe Z own_EL T20.vm T24.heap x24_b := Safe.keep Kq24 (sfS (Safe.exa (Z := Z) (EL := own_EL) (vm := T20.vm) hZ20.alike f27 (by decide) (by decide)) sf0) C20.1 (Safe.new (by omega))
  have lt31 := own_l r24_1.lt
  have lt32 := own_l r24_2.lt
  have lt33 := own_l r24_3.lt
  have lt34 := own_l r24_4.lt
  have lt35 := own_l r24_5.lt
  have f37 := P3.ext E17
  have f38 := f37.ext E20
  have f39 := f38.keep Kq24 (ninS (own_ne (by omega)) nin0)
  obtain ⟨T36, X36, e36, st36⟩ := getF X24 hx hZ20 hown20 (host := "") (Or.inl (w_41 hw)) Via.refl rfl f39 (g := (mkF m 10 #[vA ac, .unset] [(.ref ac), (.ref b17)])) rfl rfl (hb hby d404)
  have f41 := P6.ext E17
  have f42 := f41.ext E20
  have f43 := f42.keep Kq24
  have f44 := P7.ext E17
  have f45 := f44.ext E20
  have f46 := f45.keep Kq24 (ninS (own_ne (by omega)) nin0)
  have f47 := P8.ext E17
  have f48 := f47.ext E20
  have f49 := f48.keep Kq24 (ninS (own_ne (by omega)) nin0)
  have f50 := P9.ext E17
  have f51 := f50.ext E20
  have f52 := f51.keep Kq24 (ninS (own_ne (by omega)) nin0)
  obtain ⟨cq40, kq40, qa40, qb40, qc40⟩ := isOf hZ20 e36 r24_1
  obtain ⟨_, _, ⟨T40, L40, k40, n40⟩, -, X40, ⟨Lc40, hQ40, l40, y40, z40⟩, st40⟩ := X36.virtualBack hx (y := m_18) (z := m_18) hown20 (mvT hZ20 (w_127 hw)) (mvT hZ20 (w_93 hw)) (notFace_of_selects (args := #[]) (mvT hZ20 (w_95 hw))) (mvT hZ20 (w_95 hw)) (mvT hZ20 (w_94 hw)) (by decide) (backOf (W := 0) (rm_apsN l Z a0 hw [] us ub ku ((1 : Int32)) ([(.int uq)]) cp b17 x24_b x24_k ((29 : Int32)) ((13 : Int32)) ([(.int 65), (.int 99), (.int 99), (.int 111), (.int 117), (.int 110), (.int 116), (.int 91), (.int 117), (.int 115), (.int 101), (.int 114), (.int 61)]) ((14 : Int32)) T24.heap n0 (by omega) r24_6 P1 f43 f46 f49 f52 r24_1 r24_2 r24_3 r24_4 r24_5 (by omega) (by omega) (own_ne (by omega)) (own_ne (by omega)) hcs (by decide) (by decide) rfl (Nat.le_of_ble_eq_true rfl) (Nat.le_of_ble_eq_true rfl) (by decide) (by decide)) hZ20 (w_96 hw) (w_58 hw) (by decide) (by decide)) qa40 qc40 (g := (mkF m 13 #[vA ac, .unset] [(.ref us), (.ref b17)])) rfl (by rw [hml]; rfl) (Steps.refl _) (argsL := [(.ref us)]) (rest := []) (lenOf pd_14 rfl) rfl (Nat.le_of_eq rfl) (hb hby d405) (fun _ _ => ⟨rfl, e36, (by decide : 4 + 0 ≤ _), (by decide : 89 + 0 ≤ _)⟩)
  dsimp only [Pt.U, Pt.locs, Pt.cells, Pt.slots] at X40 l40 y40 z40 st40 hQ40
  rw [l40, y40, z40] at X40
  obtain ⟨rfl, Nq40, Kq40, r40_0, r40_1, r40_2, r40_3, r40_4, r40_5⟩ := hQ40
  have N40 := Fr.app N24 Nq40
  have C40 := C24.trans (CHr.keep Kq40 (sfS (Safe.exa (Z := Z) (EL := own_EL) (vm := T20.vm) hZ20.alike r24_1 (by decide) (by decide)) (sfS sf24_0 sf0)) C24.1)
  have z40' := Kq40.1
  have K40 := K24.trans Kq40 (allS (Or.inr (by omega)) (allS (Or.inr (by omega)) all0))
  have lt53 := own_l r40_0.lt
  have lt54 := own_l r40_1.lt
  have lt55 := own_l r40_2.lt
  have lt56 := own_l r40_3.lt
  replace r40_4 : Arv Z T40.heap x24_b x24_k .byte (29 : Int32) [(.int 65), (.int 99), (.int 99), (.int 111), (.int 117), (.int 110), (.int 116), (.int 91), (.int 117), (.int 115), (.int 101), (.int 114), (.int 61), (.int uq)] (.int 0) := r40_4
  have lt57 := own_l r40_4.lt
  have f59 := P4.ext E17
  have f60 := f59.ext E20
  have f61 := f60.keep Kq24 (ninS (own_ne (by omega)) nin0)
  have f62 := f61.keep Kq40 (ninS (own_ne (by omega)) (ninS (own_ne (by omega)) nin0))
  obtain ⟨T58, X58, e58, st58⟩ := getF X40 hx hZ20 hown20 (host := "") (Or.inl (w_46 hw)) Via.refl rfl f62 (g := (mkF m 18 #[vA ac, vA b17] [(.ref ac)])) rfl rfl (hb hby d408)
  obtain ⟨a63, T63, h63, k1_63, b63, k63, X63, e63, E63, hS63, hk63, hZ63, hown63, A63, FC63, FV63, V63, -, -, Cs63, Lt63, Sn63, st63⟩ := ldcCH X58 hx hZ20 hown20 (w_211 hw) (own_wS hw) e58 hS20 (by omega) (own_EW hw) (by decide) C40.1 (vs := [(.int 44), (.int 32), (.int 100), (.int 111), (.int 109), (.int 97), (.int 105), (.int 110), (.int 61)]) (z := (9 : Int32)) ⟨by decide, by decide⟩ (by decide) (by decide) (g := (mkF m 25 #[vA ac, vA b17] [(.ref b17)])) rfl (hb hby d423) (n := 36) (by decide) (by decide) (by decide) (by decide)
  have z63 := E63.1
  have C63 := C40.trans Cs63
  have K63 := K40.ext E63
  have lt64 := own_l A63.lt
  have lt65 := own_l V63.lt
  have f66 := (Safe.keep Kq24 (sfS (Safe.exa (Z := Z) (EL := own_EL) (vm := T20.vm) hZ20.alike f27 (by decide) (by decide)) sf0) C20.1 f23)
  have f67 := (Safe.keep Kq40 (sfS (Safe.exa (Z := Z) (EL := own_EL) (vm := T20.vm) hZ20.alike r24_1 (by decide) (by decide)) (sfS sf24_0 sf0)) C24.1 f66)
  have f68 := (Cs63.safe (by show @LT.lt Nat _ _ _; omega) f67)
  have ns63_b17 := Sn63 _ f68
  have f69 := (Safe.keep Kq40 (sfS (Safe.exa (Z := Z) (EL := own_EL) (vm := T20.vm) hZ20.alike r24_1 (by decide) (by decide)) (sfS sf24_0 sf0)) C24.1 sf24_0)
  have f70 := (Cs63.safe (by show @LT.lt Nat _ _ _; omega) f69)
  have ns63_x24_b := Sn63 _ f70
  have f72 := r40_5.ext E63
  have f73 := r40_0.ext E63
  have f74 := r40_1.ext E63
  have f75 := r40_2.ext E63
  have f76 := r40_3.ext E63
  have f77 := r40_4.ext E63
  obtain ⟨cq71, kq71, qa71, qb71, qc71⟩ := isOf hZ63 e63 f73
  obtain ⟨_, _, ⟨T71, L71, k71, n71⟩, -, X71, ⟨Lc71, hQ71, l71, y71, z71⟩, st71⟩ := X63.virtualBack hx (y := m_18) (z := m_18) hown63 (mvT hZ63 (w_127 hw)) (mvT hZ63 (w_93 hw)) (notFace_of_selects (args := #[]) (mvT hZ63 (w_95 hw))) (mvT hZ63 (w_95 hw)) (mvT hZ63 (w_94 hw)) (by decide) (backOf (W := 0) (rm_apsN l Z a0 hw [] a63 b63 k63 ((9 : Int32)) ([(.int 44), (.int 32), (.int 100), (.int 111), (.int 109), (.int 97), (.int 105), (.int 110), (.int 61)]) cp b17 x24_b x24_k ((29 : Int32)) ((14 : Int32)) ([(.int 65), (.int 99), (.int 99), (.int 111), (.int 117), (.int 110), (.int 116), (.int 91), (.int 117), (.int 115), (.int 101), (.int 114), (.int 61), (.int uq)]) ((23 : Int32)) h63 n0 (by omega) f72 P1 A63 FC63 FV63 V63 f73 f74 f75 f76 f77 (by omega) (by omega) (fun q => ns63_x24_b.2 q.symm) (own_ne (by omega)) hcs (by decide) (by decide) rfl (Nat.le_of_ble_eq_true rfl) (Nat.le_of_ble_eq_true rfl) (by decide) (by decide)) hZ63 (w_96 hw) (w_58 hw) (by decide) (by decide)) qa71 qc71 (g := (mkF m 27 #[vA ac, vA b17] [(.ref a63), (.ref b17)])) rfl (by rw [hml]; rfl) (Steps.refl _) (argsL := [(.ref a63)]) (rest := []) (lenOf pd_14 rfl) rfl (Nat.le_of_eq rfl) (hb hby d424) (fun _ _ => ⟨rfl, e63, (by decide : 6 + 0 ≤ _), (by decide : 129 + 0 ≤ _)⟩)
  dsimp only [Pt.U, Pt.locs, Pt.cells, Pt.slots] at X71 l71 y71 z71 st71 hQ71
  rw [l71, y71, z71] at X71
  obtain ⟨rfl, Nq71, Kq71, r71_0, r71_1, r71_2, r71_3, r71_4, r71_5⟩ := hQ71
  have N71 := Fr.app N40 Nq71
  have C71 := C63.trans (CHr.keep Kq71 (sfS (Safe.exa (Z := Z) (EL := own_EL) (vm := T63.vm) hZ63.alike f73 (by decide) (by decide)) (sfS f70 sf0)) C63.1)
  have z71' := Kq71.1
  have K71 := K63.trans Kq71 (allS (Or.inr (by omega)) (allS (Or.inr (by omega)) all0))
  have lt78 := own_l r71_0.lt
  have lt79 := own_l r71_1.lt
  have lt80 := own_l r71_2.lt
  have lt81 := own_l r71_3.lt
  replace r71_4 : Arv Z T71.heap x24_b x24_k .byte (29 : Int32) [(.int 65), (.int 99), (.int 99), (.int 111), (.int 117), (.int 110), (.int 116), (.int 91), (.int 117), (.int 115), (.int 101), (.int 114), (.int 61), (.int uq), (.int 44), (.int 32), (.int 100), (.int 111), (.int 109), (.int 97), (.int 105), (.int 110), (.int 61)] (.int 0) := r71_4
  have lt82 := own_l r71_4.lt
  have f84 := f62.ext E63
  have f85 := f84.keep Kq71 (ninS (own_ne (by omega)) (ninS (own_ne (by omega)) nin0))
  obtain ⟨T83, X83, e83, st83⟩ := getF X71 hx hZ63 hown63 (host := "") (Or.inl (w_46 hw)) Via.refl rfl f85 (g := (mkF m 31 #[vA ac, vA b17] [(.ref ac), (.ref b17)])) rfl rfl (hb hby d426)
  have f87 := P14.ext E17
  have f88 := f87.ext E20
  have f89 := f88.keep Kq24
  have f90 := f89.keep Kq40
  have f91 := f90.ext E63
  have f92 := f91.keep Kq71
  have f93 := P15.ext E17
  have f94 := f93.ext E20
  have f95 := f94.keep Kq24 (ninS (own_ne (by omega)) nin0)
  have f96 := f95.keep Kq40 (ninS (own_ne (by omega)) (ninS (own_ne (by omega)) nin0))
  have f97 := f96.ext E63
  have f98 := f97.keep Kq71 (ninS (own_ne (by omega)) (ninS (own_ne (by omega)) nin0))
  have f99 := P16.ext E17
  have f100 := f99.ext E20
  have f101 := f100.keep Kq24 (ninS (own_ne (by omega)) nin0)
  have f102 := f101.keep Kq40 (ninS (own_ne (by omega)) (ninS (own_ne (by omega)) nin0))
  have f103 := f102.ext E63
  have f104 := f103.keep Kq71 (ninS (own_ne (by omega)) (ninS (own_ne (by omega)) nin0))
  have f105 := P17.ext E17
  have f106 := f105.ext E20
  have f107 := f106.keep Kq24 (ninS (own_ne (by omega)) nin0)
  have f108 := f107.keep Kq40 (ninS (own_ne (by omega)) (ninS (own_ne (by omega)) nin0))
  have f109 := f108.ext E63
  have f110 := f109.keep Kq71 (ninS (own_ne (by omega)) (ninS (own_ne (by omega)) nin0))
  obtain ⟨cq86, kq86, qa86, qb86, qc86⟩ := isOf hZ63 e83 r71_0
  obtain ⟨_, _, ⟨T86, L86, k86, n86⟩, -, X86, ⟨Lc86, hQ86, l86, y86, z86⟩, st86⟩ := X83.virtualBack hx (y := m_18) (z := m_18) hown63 (mvT hZ63 (w_127 hw)) (mvT hZ63 (w_93 hw)) (notFace_of_selects (args := #[]) (mvT hZ63 (w_95 hw))) (mvT hZ63 (w_95 hw)) (mvT hZ63 (w_94 hw)) (by decide) (backOf (W := 0) (rm_apsN l Z a0 hw [] dm db kd ((0 : Int32)) ([]) cp b17 x24_b x24_k ((29 : Int32)) ((23 : Int32)) ([(.int 65), (.int 99), (.int 99), (.int 111), (.int 117), (.int 110), (.int 116), (.int 91), (.int 117), (.int 115), (.int 101), (.int 114), (.int 61), (.int uq), (.int 44), (.int 32), (.int 100), (.int 111), (.int 109), (.int 97), (.int 105), (.int 110), (.int 61)]) ((23 : Int32)) T71.heap n0 (by omega) r71_5 P1 f92 f98 f104 f110 r71_0 r71_1 r71_2 r71_3 r71_4 (by omega) (by omega) (own_ne (by omega)) (own_ne (by omega)) hcs (by decide) (by decide) rfl (Nat.le_of_ble_eq_true rfl) (Nat.le_of_ble_eq_true rfl) (by decide) (by decide)) hZ63 (w_96 hw) (w_58 hw) (by decide) (by decide)) qa86 qc86 (g := (mkF m 34 #[vA ac, vA b17] [(.ref dm), (.ref b17)])) rfl (by rw [hml]; rfl) (Steps.refl _) (argsL := [(.ref dm)]) (rest := []) (lenOf pd_14 rfl) rfl (Nat.le_of_eq rfl) (hb hby d427) (fun _ _ => ⟨rfl, e83, (by decide : 6 + 0 ≤ _), (by decide : 129 + 0 ≤ _)⟩)
  dsimp only [Pt.U, Pt.locs, Pt.cells, Pt.slots] at X86 l86 y86 z86 st86 hQ86
  rw [l86, y86, z86] at X86
  obtain ⟨rfl, Nq86, Kq86, r86_0, r86_1, r86_2, r86_3, r86_4, r86_5⟩ := hQ86
  have N86 := Fr.app N71 Nq86
  have f111 := (Safe.keep Kq71 (sfS (Safe.exa (Z := Z) (EL := own_EL) (vm := T63.vm) hZ63.alike f73 (by decide) (by decide)) (sfS f70 sf0)) C63.1 f70)
  have C86 := C71.trans (CHr.keep Kq86 (sfS (Safe.exa (Z := Z) (EL := own_EL) (vm := T63.vm) hZ63.alike r71_0 (by decide) (by decide)) (sfS f111 sf0)) C71.1)
  have z86' := Kq86.1
  have K86 := K71.trans Kq86 (allS (Or.inr (by omega)) (allS (Or.inr (by omega)) all0))
  have lt112 := own_l r86_0.lt
  have lt113 := own_l r86_1.lt
  have lt114 := own_l r86_2.lt
  have lt115 := own_l r86_3.lt
  replace r86_4 : Arv Z T86.heap x24_b x24_k .byte (29 : Int32) [(.int 65), (.int 99), (.int 99), (.int 111), (.int 117), (.int 110), (.int 116), (.int 91), (.int 117), (.int 115), (.int 101), (.int 114), (.int 61), (.int uq), (.int 44), (.int 32), (.int 100), (.int 111), (.int 109), (.int 97), (.int 105), (.int 110), (.int 61)] (.int 0) := r86_4
  have lt116 := own_l r86_4.lt
  obtain ⟨a117, T117, h117, k1_117, b117, k117, X117, e117, E117, hS117, hk117, hZ117, hown117, A117, FC117, FV117, V117, -, -, Cs117, Lt117, Sn117, st117⟩ := ldcCH X86 hx hZ63 hown63 (w_128 hw) (own_wS hw) rfl hS63 (by omega) (own_EW hw) (by decide) C86.1 (vs := [(.int 44), (.int 32), (.int 116), (.int 97), (.int 114), (.int 103), (.int 101), (.int 116), (.int 61)]) (z := (9 : Int32)) ⟨by decide, by decide⟩ (by decide) (by decide) (g := (mkF m 39 #[vA ac, vA b17] [(.ref b17)])) rfl (hb hby d411) (n := 36) (by decide) (by decide) (by decide) (by decide)
  have z117 := E117.1
  have C117 := C86.trans Cs117
  have K117 := K86.ext E117
  have lt118 := own_l A117.lt
  have lt119 := own_l V117.lt
  have f120 := (Safe.keep Kq71 (sfS (Safe.exa (Z := Z) (EL := own_EL) (vm := T63.vm) hZ63.alike f73 (by decide) (by decide)) (sfS f70 sf0)) C63.1 f68)
  have f121 := (Safe.keep Kq86 (sfS (Safe.exa (Z := Z) (EL := own_EL) (vm := T63.vm) hZ63.alike r71_0 (by decide) (by decide)) (sfS f111 sf0)) C71.1 f120)
  have f122 := (Cs117.safe (by show @LT.lt Nat _ _ _; omega) f121)
  have ns117_b17 := Sn117 _ f122
  have f123 := (Safe.keep Kq86 (sfS (Safe.exa (Z := Z) (EL := own_EL) (vm := T63.vm) hZ63.alike r71_0 (by decide) (by decide)) (sfS f111 sf0)) C71.1 f111)
  have f124 := (Cs117.safe (by show @LT.lt Nat _ _ _; omega) f123)
  have ns117_x24_b := Sn117 _ f124
  have f126 := r86_5.ext E117
  have f127 := r86_0.ext E117
  have f128 := r86_1.ext E117
  have f129 := r86_2.ext E117
  have f130 := r86_3.ext E117
  have f131 := r86_4.ext E117
  obtain ⟨cq125, kq125, qa125, qb125, qc125⟩ := isOf hZ117 e117 f127
  obtain ⟨_, _, ⟨T125, L125, k125, n125⟩, -, X125, ⟨Lc125, hQ125, l125, y125, z125⟩, st125⟩ := X117.virtualBack hx (y := m_18) (z := m_18) hown117 (mvT hZ117 (w_127 hw)) (mvT hZ117 (w_93 hw)) (notFace_of_selects (args := #[]) (mvT hZ117 (w_95 hw))) (mvT hZ117 (w_95 hw)) (mvT hZ117 (w_94 hw)) (by decide) (backOf (W := 0) (rm_apsG32 l Z a0 hw [] a117 b117 k117 ((9 : Int32)) ([(.int 44), (.int 32), (.int 116), (.int 97), (.int 114), (.int 103), (.int 101), (.int 116), (.int 61)]) cp b17 x24_b x24_k ((23 : Int32)) ([(.int 65), (.int 99), (.int 99), (.int 111), (.int 117), (.int 110), (.int 116), (.int 91), (.int 117), (.int 115), (.int 101), (.int 114), (.int 61), (.int uq), (.int 44), (.int 32), (.int 100), (.int 111), (.int 109), (.int 97), (.int 105), (.int 110), (.int 61)]) h117 n0 (by omega) f126 P1 A117 FC117 FV117 V117 f127 f128 f129 f130 f131 (by omega) (by omega) (fun q => ns117_x24_b.2 q.symm) (own_ne (by omega)) (fun q => ns117_b17.2 q.symm) (fun q => ns117_b17.1 q.symm) hcs (by decide) (Nat.le_of_ble_eq_true rfl) (Nat.le_of_ble_eq_true rfl) (by decide) rfl (Nat.le_of_ble_eq_true rfl) (by decide)) hZ117 (w_96 hw) (w_58 hw) (by decide) (by decide)) qa125 qc125 (g := (mkF m 41 #[vA ac, vA b17] [(.ref a117), (.ref b17)])) rfl (by rw [hml]; rfl) (Steps.refl _) (argsL := [(.ref a117)]) (rest := []) (lenOf pd_14 rfl) rfl (Nat.le_of_eq rfl) (hb hby d412) (fun _ _ => ⟨rfl, e117, (by decide : 8 + 1 ≤ _), (by decide : 169 + 60 ≤ _)⟩)
  dsimp only [Pt.U, Pt.locs, Pt.cells, Pt.slots] at X125 l125 y125 z125 st125 hQ125
  rw [l125, y125, z125] at X125
  obtain ⟨x125_b, x125_k, rfl, Nq125, Kq125, r125_0, r125_1, r125_2, r125_3, r125_4, r125_5, r125_6⟩ := hQ125
  have N125 := Fr.app N86 Nq125
  have C125 := C117.trans (CHr.keep Kq125 (sfS (Safe.exa (Z := Z) (EL := own_EL) (vm := T117.vm) hZ117.alike f127 (by decide) (by decide)) sf0) C117.1)
  have z125' := Kq125.1
  have K125 := K117.trans Kq125 (allS (Or.inr (by omega)) all0)
  have sf125_0 : Safe Z own_EL T117.vm T125.heap x125_b := Safe.keep Kq125 (sfS (Safe.exa (Z := Z) (EL := own_EL) (vm := T117.vm) hZ117.alike f127 (by decide) (by decide)) sf0) C117.1 (Safe.new (by omega))
  have lt132 := own_l r125_1.lt
  have lt133 := own_l r125_2.lt
  have lt134 := own_l r125_3.lt
  have lt135 := own_l r125_4.lt
  replace r125_5 : Arv Z T125.heap x125_b x125_k .byte (60 : Int32) [(.int 65), (.int 99), (.int 99), (.int 111), (.int 117), (.int 110), (.int 116), (.int 91), (.int 117), (.int 115), (.int 101), (.int 114), (.int 61), (.int uq), (.int 44), (.int 32), (.int 100), (.int 111), (.int 109), (.int 97), (.int 105), (.int 110), (.int 61), (.int 44), (.int 32), (.int 116), (.int 97), (.int 114), (.int 103), (.int 101), (.int 116), (.int 61)] (.int 0) := r125_5
  have lt136 := own_l r125_5.lt
  have f138 := P5.ext E17
  have f139 := f138.ext E20
  have f140 := f139.keep Kq24 (ninS (own_ne (by omega)) nin0)
  have f141 := f140.keep Kq40 (ninS (own_ne (by omega)) (ninS (own_ne (by omega)) nin0))
  have f142 := f141.ext E63
  have f143 := f142.keep Kq71 (ninS (own_ne (by omega)) (ninS (own_ne (by omega)) nin0))
  have f144 := f143.keep Kq86 (ninS (own_ne (by omega)) (ninS (own_ne (by omega)) nin0))
  have f145 := f144.ext E117
  have f146 := f145.keep Kq125 (ninS (own_ne (by omega)) nin0)
  obtain ⟨T137, X137, e137, st137⟩ := getF X125 hx hZ117 hown117 (host := "") (Or.inl (w_49 hw)) Via.refl rfl f146 (g := (mkF m 45 #[vA ac, vA b17] [(.ref ac), (.ref b17)])) rfl rfl (hb hby d414)
  have f148 := P10.ext E17
  have f149 := f148.ext E20
  have f150 := f149.keep Kq24
  have f151 := f150.keep Kq40
  have f152 := f151.ext E63
  have f153 := f152.keep Kq71
  have f154 := f153.keep Kq86
  have f155 := f154.ext E117
  have f156 := f155.keep Kq125
  have f157 := P11.ext E17
  have f158 := f157.ext E20
  have f159 := f158.keep Kq24 (ninS (own_ne (by omega)) nin0)
  have f160 := f159.keep Kq40 (ninS (own_ne (by omega)) (ninS (own_ne (by omega)) nin0))
  have f161 := f160.ext E63
  have f162 := f161.keep Kq71 (ninS (own_ne (by omega)) (ninS (own_ne (by omega)) nin0))
  have f163 := f162.keep Kq86 (ninS (own_ne (by omega)) (ninS (own_ne (by omega)) nin0))
  have f164 := f163.ext E117
  have f165 := f164.keep Kq125 (ninS (own_ne (by omega)) nin0)
  have f166 := P12.ext E17
  have f167 := f166.ext E20
  have f168 := f167.keep Kq24 (ninS (own_ne (by omega)) nin0)
  have f169 := f168.keep Kq40 (ninS (own_ne (by omega)) (ninS (own_ne (by omega)) nin0))
  have f170 := f169.ext E63
  have f171 := f170.keep Kq71 (ninS (own_ne (by omega)) (ninS (own_ne (by omega)) nin0))
  have f172 := f171.keep Kq86 (ninS (own_ne (by omega)) (ninS (own_ne (by omega)) nin0))
  have f173 := f172.ext E117
  have f174 := f173.keep Kq125 (ninS (own_ne (by omega)) nin0)
  have f175 := P13.ext E17
  have f176 := f175.ext E20
  have f177 := f176.keep Kq24 (ninS (own_ne (by omega)) nin0)
  have f178 := f177.keep Kq40 (ninS (own_ne (by omega)) (ninS (own_ne (by omega)) nin0))
  have f179 := f178.ext E63
  have f180 := f179.keep Kq71 (ninS (own_ne (by omega)) (ninS (own_ne (by omega)) nin0))
  have f181 := f180.keep Kq86 (ninS (own_ne (by omega)) (ninS (own_ne (by omega)) nin0))
  have f182 := f181.ext E117
  have f183 := f182.keep Kq125 (ninS (own_ne (by omega)) nin0)
  obtain ⟨cq147, kq147, qa147, qb147, qc147⟩ := isOf hZ117 e137 r125_1
  obtain ⟨_, _, ⟨T147, L147, k147, n147⟩, -, X147, ⟨Lc147, hQ147, l147, y147, z147⟩, st147⟩ := X137.virtualBack hx (y := m_18) (z := m_18) hown117 (mvT hZ117 (w_127 hw)) (mvT hZ117 (w_93 hw)) (notFace_of_selects (args := #[]) (mvT hZ117 (w_95 hw))) (mvT hZ117 (w_95 hw)) (mvT hZ117 (w_94 hw)) (by decide) (backOf (W := 0) (rm_apsN l Z a0 hw [] tg gb kg ((1 : Int32)) ([(.int tq)]) cp b17 x125_b x125_k ((60 : Int32)) ((32 : Int32)) ([(.int 65), (.int 99), (.int 99), (.int 111), (.int 117), (.int 110), (.int 116), (.int 91), (.int 117), (.int 115), (.int 101), (.int 114), (.int 61), (.int uq), (.int 44), (.int 32), (.int 100), (.int 111), (.int 109), (.int 97), (.int 105), (.int 110), (.int 61), (.int 44), (.int 32), (.int 116), (.int 97), (.int 114), (.int 103), (.int 101), (.int 116), (.int 61)]) ((33 : Int32)) T125.heap n0 (by omega) r125_6 P1 f156 f165 f174 f183 r125_1 r125_2 r125_3 r125_4 r125_5 (by omega) (by omega) (own_ne (by omega)) (own_ne (by omega)) hcs (by decide) (by decide) rfl (Nat.le_of_ble_eq_true rfl) (Nat.le_of_ble_eq_true rfl) (by decide) (by decide)) hZ117 (w_96 hw) (w_58 hw) (by decide) (by decide)) qa147 qc147 (g := (mkF m 48 #[vA ac, vA b17] [(.ref tg), (.ref b17)])) rfl (by rw [hml]; rfl) (Steps.refl _) (argsL := [(.ref tg)]) (rest := []) (lenOf pd_14 rfl) rfl (Nat.le_of_eq rfl) (hb hby d415) (fun _ _ => ⟨rfl, e137, (by decide : 9 + 0 ≤ _), (by decide : 229 + 0 ≤ _)⟩)
  dsimp only [Pt.U, Pt.locs, Pt.cells, Pt.slots] at X147 l147 y147 z147 st147 hQ147
  rw [l147, y147, z147] at X147
  obtain ⟨rfl, Nq147, Kq147, r147_0, r147_1, r147_2, r147_3, r147_4, r147_5⟩ := hQ147
  have N147 := Fr.app N125 Nq147
  have C147 := C125.trans (CHr.keep Kq147 (sfS (Safe.exa (Z := Z) (EL := own_EL) (vm := T117.vm) hZ117.alike r125_1 (by decide) (by decide)) (sfS sf125_0 sf0)) C125.1)
  have z147' := Kq147.1
  have K147 := K125.trans Kq147 (allS (Or.inr (by omega)) (allS (Or.inr (by omega)) all0))
  have lt184 := own_l r147_0.lt
  have lt185 := own_l r147_1.lt
  have lt186 := own_l r147_2.lt
  have lt187 := own_l r147_3.lt
  replace r147_4 : Arv Z T147.heap x125_b x125_k .byte (60 : Int32) [(.int 65), (.int 99), (.int 99), (.int 111), (.int 117), (.int 110), (.int 116), (.int 91), (.int 117), (.int 115), (.int 101), (.int 114), (.int 61), (.int uq), (.int 44), (.int 32), (.int 100), (.int 111), (.int 109), (.int 97), (.int 105), (.int 110), (.int 61), (.int 44), (.int 32), (.int 116), (.int 97), (.int 114), (.int 103), (.int 101), (.int 116), (.int 61), (.int tq)] (.int 0) := r147_4
  have lt188 := own_l r147_4.lt
  obtain ⟨cq189, kq189, qa189, qb189, qc189⟩ := isOf hZ117 rfl r147_0
  obtain ⟨_, _, ⟨T189, L189, k189, n189⟩, -, X189, ⟨Lc189, hQ189, l189, y189, z189⟩, st189⟩ := X147.virtualBack hx (y := m_22) (z := m_22) hown117 (mvT hZ117 (w_129 hw)) (mvT hZ117 (w_130 hw)) (notFace_of_selects (args := #[]) (mvT hZ117 (w_132 hw))) (mvT hZ117 (w_132 hw)) (mvT hZ117 (w_131 hw)) (by decide) (backOf (W := 0) (rm_apcS l Z a0 hw [] ((93 : Int32)) cp b17 x125_b x125_k ((60 : Int32)) ((33 : Int32)) ([(.int 65), (.int 99), (.int 99), (.int 111), (.int 117), (.int 110), (.int 116), (.int 91), (.int 117), (.int 115), (.int 101), (.int 114), (.int 61), (.int uq), (.int 44), (.int 32), (.int 100), (.int 111), (.int 109), (.int 97), (.int 105), (.int 110), (.int 61), (.int 44), (.int 32), (.int 116), (.int 97), (.int 114), (.int 103), (.int 101), (.int 116), (.int 61), (.int tq)]) ((34 : Int32)) T147.heap n0 (by omega) r147_5 P1 r147_0 r147_1 r147_2 r147_3 r147_4 (by omega) (by omega) (own_ne (by omega)) hcs (by decide) (by decide) rfl (by decide) (by decide) (by decide)) hZ117 (w_133 hw) (w_58 hw) (by decide) (by decide)) qa189 qc189 (g := (mkF m 55 #[vA ac, vA b17] [(.int 93), (.ref b17)])) rfl (by rw [hml]; rfl) (Steps.refl _) (argsL := [(.int 93)]) (rest := []) (lenOf pd_23 rfl) rfl (Nat.le_of_eq rfl) (hb hby d419) (fun _ _ => ⟨rfl, rfl, (by decide : 9 + 0 ≤ _), (by decide : 229 + 0 ≤ _)⟩)
  dsimp only [Pt.U, Pt.locs, Pt.cells, Pt.slots] at X189 l189 y189 z189 st189 hQ189
  rw [l189, y189, z189] at X189
  obtain ⟨rfl, Nq189, Kq189, r189_0, r189_1, r189_2, r189_3, r189_4, r189_5⟩ := hQ189
  have N189 := Fr.app N147 Nq189
  have f190 := (Safe.keep Kq147 (sfS (Safe.exa (Z := Z) (EL := own_EL) (vm := T117.vm) hZ117.alike r125_1 (by decide) (by decide)) (sfS sf125_0 sf0)) C125.1 sf125_0)
  have C189 := C147.trans (CHr.keep Kq189 (sfS (Safe.exa (Z := Z) (EL := own_EL) (vm := T117.vm) hZ117.alike r147_0 (by decide) (by decide)) (sfS f190 sf0)) C147.1)
  have z189' := Kq189.1
  have K189 := K147.trans Kq189 (allS (Or.inr (by omega)) (allS (Or.inr (by omega)) all0))
  have lt191 := own_l r189_0.lt
  have lt192 := own_l r189_1.lt
  have lt193 := own_l r189_2.lt
  have lt194 := own_l r189_3.lt
  replace r189_4 : Arv Z T189.heap x125_b x125_k .byte (60 : Int32) [(.int 65), (.int 99), (.int 99), (.int 111), (.int 117), (.int 110), (.int 116), (.int 91), (.int 117), (.int 115), (.int 101), (.int 114), (.int 61), (.int uq), (.int 44), (.int 32), (.int 100), (.int 111), (.int 109), (.int 97), (.int 105), (.int 110), (.int 61), (.int 44), (.int 32), (.int 116), (.int 97), (.int 114), (.int 103), (.int 101), (.int 116), (.int 61), (.int tq), (.int (oB (93 : Int32)))] (.int 0) := r189_4
  have lt195 := own_l r189_4.lt
  obtain ⟨cq196, kq196, qa196, qb196, qc196⟩ := isOf hZ117 rfl r189_0
  obtain ⟨_, _, ⟨T196, L196, k196, n196⟩, -, X196, ⟨Lc196, hQ196, l196, y196, z196⟩, st196⟩ := X189.virtualBack hx (y := m_33) (z := m_33) hown117 (mvT hZ117 (w_144 hw)) (mvT hZ117 (w_145 hw)) (notFace_of_selects (args := #[]) (mvT hZ117 (w_147 hw))) (mvT hZ117 (w_147 hw)) (mvT hZ117 (w_146 hw)) (by decide) (backOf (W := 0) (rm_tos l Z a0 hw [] cp b17 x125_b x125_k ((60 : Int32)) ((34 : Int32)) ([(.int 65), (.int 99), (.int 99), (.int 111), (.int 117), (.int 110), (.int 116), (.int 91), (.int 117), (.int 115), (.int 101), (.int 114), (.int 61), (.int uq), (.int 44), (.int 32), (.int 100), (.int 111), (.int 109), (.int 97), (.int 105), (.int 110), (.int 61), (.int 44), (.int 32), (.int 116), (.int 97), (.int 114), (.int 103), (.int 101), (.int 116), (.int 61), (.int tq), (.int (oB (93 : Int32)))]) T189.heap n0 (by omega) r189_5 P1 r189_0 r189_1 r189_2 r189_3 r189_4 hcs (by decide) rfl (by decide) (by decide) (by decide) (by decide)) hZ117 (w_148 hw) (w_58 hw) (by decide) (by decide)) qa196 qc196 (g := (mkF m 58 #[vA ac, vA b17] [(.ref b17)])) rfl (by rw [hml]; rfl) (Steps.refl _) (argsL := []) (rest := []) (lenOf pd_24 rfl) rfl (Nat.le_of_eq rfl) (hb hby d420) (fun _ _ => ⟨rfl, rfl, (by decide : 9 + 2 ≤ _), (by decide : 229 + 64 ≤ _)⟩)
  dsimp only [Pt.U, Pt.locs, Pt.cells, Pt.slots] at X196 l196 y196 z196 st196 hQ196
  rw [l196, y196, z196] at X196
  obtain ⟨x196_r, x196_b, x196_k, rfl, Nq196, Kq196, r196_0, r196_1, r196_2, r196_3, r196_4, r196_5, r196_6⟩ := hQ196
  have N196 := Fr.app N189 Nq196
  have C196 := C189.trans (CHr.keep Kq196 sf0 C189.1)
  have z196' := Kq196.1
  have K196 := K189.trans Kq196 all0
  have sf196_0 : Safe Z own_EL T117.vm T196.heap x196_r := Safe.keep Kq196 sf0 C189.1 (Safe.new (by omega))
  have sf196_1 : Safe Z own_EL T117.vm T196.heap x196_b := Safe.keep Kq196 sf0 C189.1 (Safe.new (by omega))
  have lt197 := own_l r196_2.lt
  have lt198 := own_l r196_3.lt
  have lt199 := own_l r196_4.lt
  have lt200 := own_l r196_5.lt
  obtain ⟨fs, hr, hrun, hended, hEnd⟩ := X196.leaveW hS117 (by first | omega | (rw [(rfl : T196.heap = T196.heap)]; omega)) (v := some (.ref x196_r)) (fun h => by rw [Bd.returns] at h; cases h)
  have Cz := C196.trans (CHv.at X196 hZ117 (own_EW hw) C196.1)
  refine ⟨_, _, castTop (ef_17 m ac) ?_, hrun, hended, _, _, rfl, ?_, (by rw [hh]; show CHr Z own_EL s.vm h0 T196.vm T196.heap; rw [(rfl : T196.heap = T196.heap)]; exact Cz), hEnd.1, hEnd.2.1, hEnd.2.2.1, hEnd.2.2.2.mono (by decide) (by decide)⟩
  · show Steps _ _ _ (s₁.setTop (mkF m 0 #[vA ac, .unset] [])) _
    refine st17 _ ?_
    show Steps _ _ _ (T17.setTop (mkF m 3 #[vA ac, .unset] [(.ref b17)])) _
    refine XS.dup X17.here hx rfl (hb hby d400) rfl rfl ?_
    refine st20 _ ?_
    show Steps _ _ _ (T20.setTop (mkF m 6 #[vA ac, .unset] [(.ref a20), (.ref b17), (.ref b17)])) _
    refine st24.trans ?_
    show Steps _ _ _ (T24.setTop (mkF m 9 #[vA ac, .unset] [(.ref b17)])) _
    refine XS.aloadN X24.here hx rfl (hb hby d403) rfl rfl ?_
    refine st36 _ ?_
    show Steps _ _ _ (T36.setTop (mkF m 13 #[vA ac, .unset] [(.ref us), (.ref b17)])) _
    refine st40.trans ?_
    show Steps _ _ _ (T40.setTop (mkF m 16 #[vA ac, .unset] [(.ref b17)])) _
    refine XS.astoreN X40.here hx rfl (hb hby d406) rfl rfl (l' := #[vA ac, vA b17]) rfl ?_
    refine XS.aloadN X40.here hx rfl (hb hby d407) rfl rfl ?_
    refine st58 _ ?_
    show Steps _ _ _ (T58.setTop (mkF m 21 #[vA ac, vA b17] [(.ref dm)])) _
    refine XS.ifnullNo X58.here hx rfl (hb hby d409) rfl ?_
    refine XS.aloadN X58.here hx rfl (hb hby d422) rfl rfl ?_
    refine st63 _ ?_
    show Steps _ _ _ (T63.setTop (mkF m 27 #[vA ac, vA b17] [(.ref a63), (.ref b17)])) _
    refine st71.trans ?_
    show Steps _ _ _ (T71.setTop (mkF m 30 #[vA ac, vA b17] [(.ref b17)])) _
    refine XS.aloadN X71.here hx rfl (hb hby d425) rfl rfl ?_
    refine st83 _ ?_
    show Steps _ _ _ (T83.setTop (mkF m 34 #[vA ac, vA b17] [(.ref dm), (.ref b17)])) _
    refine st86.trans ?_
    show Steps _ _ _ (T86.setTop (mkF m 37 #[vA ac, vA b17] [(.ref b17)])) _
    refine XS.pop X86.here hx rfl (hb hby d428) rfl rfl ?_
    refine XS.aloadN X86.here hx rfl (hb hby d410) rfl rfl ?_
    refine st117 _ ?_
    show Steps _ _ _ (T117.setTop (mkF m 41 #[vA ac, vA b17] [(.ref a117), (.ref b17)])) _
    refine st125.trans ?_
    show Steps _ _ _ (T125.setTop (mkF m 44 #[vA ac, vA b17] [(.ref b17)])) _
    refine XS.aloadN X125.here hx rfl (hb hby d413) rfl rfl ?_
    refine st137 _ ?_
    show Steps _ _ _ (T137.setTop (mkF m 48 #[vA ac, vA b17] [(.ref tg), (.ref b17)])) _
    refine st147.trans ?_
    show Steps _ _ _ (T147.setTop (mkF m 51 #[vA ac, vA b17] [(.ref b17)])) _
    refine XS.pop X147.here hx rfl (hb hby d416) rfl rfl ?_
    refine XS.aloadN X147.here hx rfl (hb hby d417) rfl rfl ?_
    refine XS.bipush X147.here hx rfl (hb hby d418) ?_
    refine st189.trans ?_
    show Steps _ _ _ (T189.setTop (mkF m 58 #[vA ac, vA b17] [(.ref b17)])) _
    refine st196.trans ?_
    show Steps _ _ _ (T196.setTop (mkF m 61 #[vA ac, vA b17] [(.ref x196_r)])) _
    exact retOut X196 hx Bd.returns (own_narrow_ref rfl) (Or.inr (Or.inr (Or.inr (Or.inr ⟨rfl, rfl, rfl⟩)))) (hb hby d421) hr
  · show Q_ts0 Z ac cp us ub ku tg gb kg uq tq dm db kd h0 n0 _ T196.heap _
    exact ⟨x196_r, x196_b, x196_k, rfl, N196, K196, r196_2, r196_3, r196_4, r196_5⟩
def Q_ts1 (Z : State) (ac : Addr) (cp : Int32) (us : Addr) (ub : Addr) (ku : ClassId) (tg : Addr) (gb : Addr) (kg : ClassId) (uq : Int32) (tq : Int32) (dm : Addr) (db : Addr) (kd : ClassId) (dq : Int32) (h0 : Heap) (n0 : Nat) (v : Option Value) (h : Heap) (L : List Loc) : Prop := ∃ (r : Addr) (b : Addr) (k : ClassId), (v = some (.ref r)) ∧ (Fr n0 L) ∧ (Keep h0 h []) ∧ (Exa Z h r "java/lang/String") ∧ (fld0 Z h r (.ref b)) ∧ (fld1 Z h r (.int 0)) ∧ (Arv Z h b k .byte (35 : Int32) [(.int 65), (.int 99), (.int 99), (.int 111), (.int 117), (.int 110), (.int 116), (.int 91), (.int 117), (.int 115), (.int 101), (.int 114), (.int 61), (.int uq), (.int 44), (.int 32), (.int 100), (.int 111), (.int 109), (.int 97), (.int 105), (.int 110), (.int 61), (.int dq), (.int 44), (.int 32), (.int 116), (.int 97), (.int 114), (.int 103), (.int 101), (.int 116), (.int 61), (.int tq), (.int 93)] (.int 0))
theorem rm_ts1 (l : Launch) (Z : State) (a0 : Array Value) (hw : HW Z a0) (ws : List Jvm.Cond) (ac : Addr) (cp : Int32) (us : Addr) (ub : Addr) (ku : ClassId) (tg : Addr) (gb : Addr) (kg : ClassId) (uq : Int32) (tq : Int32) (dm : Addr) (db : Addr) (kd : ClassId) (dq : Int32) (h0 : Heap) (n0 : Nat) (Z0 : n0 ≤ h0.size) (P0 : Old Z n0 h0) (P1 : sta0 Z (.int cp)) (P2 : Exa Z h0 ac "com/example/upright_harness/uprightharness/Account") (P3 : Fld Z h0 ac "com/example/upright_harness/uprightharness/Account" "user" "Ljava/lang/String;" (.ref us)) (P4 : Fld Z h0 ac "com/example/upright_harness/uprightharness/Account" "domain" "Ljava/lang/String;" (.ref dm)) (P5 : Fld Z h0 ac "com/example/upright_harness/uprightharness/Account" "target" "Ljava/lang/String;" (.ref tg)) (P6 : Exa Z h0 us "java/lang/String") (P7 : fld1 Z h0 us (.int 0)) (P8 : fld0 Z h0 us (.ref ub)) (P9 : Arv Z h0 ub ku .byte (1 : Int32) [(.int uq)] (.int 0)) (P10 : Exa Z h0 tg "java/lang/String") (P11 : fld1 Z h0 tg (.int 0)) (P12 : fld0 Z h0 tg (.ref gb)) (P13 : Arv Z h0 gb kg .byte (1 : Int32) [(.int tq)] (.int 0)) (P14 : Exa Z h0 dm "java/lang/String") (P15 : fld1 Z h0 dm (.int 0)) (P16 : fld0 Z h0 dm (.ref db)) (P17 : Arv Z h0 db kd .byte (1 : Int32) [(.int dq)] (.int 0)) (hcs : ¬ (cp = (0 : Int32))) :
    MetFree l m_36 (head1 (Jvm.Cond.code m_36 prog_1_method_6_code 2 (some (.object "java/lang/String")) :: ws) (oR 8 11 293 117)) (fun as' U => as' = #[(.ref ac)] ∧ Z.Warmed39 U.vm ∧ U.heap = h0 ∧ CHv Z own_EL U.vm h0) (fun _ _ _ _ _ => True) (fun _ U o U' => ∃ v L, o = .returned v ∧ Q_ts1 Z ac cp us ub ku tg gb kg uq tq dm db kd dq h0 n0 v U'.heap L ∧ CHr Z own_EL U.vm U.heap U'.vm U'.heap ∧ ReturnedEndW U o U' L (oR 8 11 293 117).cells (oR 8 11 293 117).slots) := by
  refine MetFree.of_bodySF (plainFor_of_name pn_9) hisR ?_
  intro p e s m args below meth c s₁ Bd hml0 hP hK
  obtain ⟨rfl, hZ, hh, hCH⟩ := hP
  have hx := Bd.exec
  have hby := Bd.bytes
  have hml : c.maxLocals = 2 := hml0
  have hown : (s.setVm s.vm).vm.findClass "com/example/upright_harness/uprightharness/Account" = some m.cls := findClass_of_methodNamed Bd.named
  have hnm := (name_of_methodNamed Bd.named Bd.method).1
  have X0 : Stand p l e (oR 8 11 293 117) (s.setVm s.vm) m #[(.ref ac)] below meth c s₁ [] 0 0 := Stand.of_body Bd
  have e0 : s₁.heap = h0 := by rw [← hh, Bd.state]; rfl
  have N0 := Fr.nil n0
  have hZ : Z.Warmed39 (s.setVm s.vm).vm := hZ
  have hS0 : s.Since s.vm h0.size := (State.WarmedH.refl s).since _
  have hk0 : h0.size ≤ h0.size := Nat.le_refl _
  have C0 : CHr Z own_EL s.vm h0 s.vm h0 := CHr.refl hCH
  have K0 := Keep.refl h0 []
  have lt1 := own_l P2.lt
  have lt2 := own_l P3.lt
  have lt3 := own_l P4.lt
  have lt4 := own_l P5.lt
  have lt5 := own_l P6.lt
  have lt6 := own_l P7.lt
  have lt7 := own_l P8.lt
  have lt8 := own_l P9.lt
  have lt9 := own_l P10.lt
  have lt10 := own_l P11.lt
  have lt11 := own_l P12.lt
  have lt12 := own_l P13.lt
  have lt13 := own_l P14.lt
  have lt14 := own_l P15.lt
  have lt15 := own_l P16.lt
  have lt16 := own_l P17.lt
  obtain ⟨T17, h17, X17, e17, E17, A17, D17, -, st17⟩ := newO X0 hx hZ hown (w_56 hw) (w_57 hw) (w_58 hw) e0 (g := (mkF m 0 #[vA ac, .unset] [])) rfl (hb hby d399) (by decide) (by decide)
  obtain ⟨b17, g17⟩ : ∃ z, z = h0.size := ⟨_, rfl⟩
  rw [← g17] at A17 D17 st17
  have z17 := E17.1
  have C17 := C0.trans (CHr.ext E17 C0.1)
  have K17 := K0.ext E17
  have lt18 := own_l A17.lt
  have F17_83 : Fld Z h17 b17 "java/lang/AbstractStringBuilder" "coder" "B" (.int 0) := D17 (Or.inl (w_83 hw)) (ty := .byte) (by decide)
  have F17_85 : Fld Z h17 b17 "java/lang/AbstractStringBuilder" "value" "[B" .null := D17 (Or.inl (w_85 hw)) (ty := (.array .byte)) (by decide)
  have F17_101 : Fld Z h17 b17 "java/lang/AbstractStringBuilder" "count" "I" (.int 0) := D17 (Or.inl (w_101 hw)) (ty := .int) (by decide)
  have sfb19 : Safe Z own_EL s.vm h17 b17 := (Safe.exa (Z := Z) (EL := own_EL) (vm := s.vm) hZ.alike A17 (by decide) (by decide))
  obtain ⟨a20, T20, h20, k1_20, b20, k20, X20, e20, E20, hS20, hk20, hZ20, hown20, A20, FC20, FV20, V20, -, -, Cs20, Lt20, Sn20, st20⟩ := ldcCH X17 hx hZ hown (w_59 hw) (own_wS hw) e17 hS0 (by omega) (own_EW hw) (by decide) C17.1 (vs := [(.int 65), (.int 99), (.int 99), (.int 111), (.int 117), (.int 110), (.int 116), (.int 91), (.int 117), (.int 115), (.int 101), (.int 114), (.int 61)]) (z := (13 : Int32)) ⟨by decide, by decide⟩ (by decide) (by decide) (g := (mkF m 4 #[vA ac, .unset] [(.ref b17), (.ref b17)])) rfl (hb hby d401) (n := 52) (by decide) (by decide) (by decide) (by decide)
  have z20 := E20.1
  have C20 := C17.trans Cs20
  have K20 := K17.ext E20
  have lt21 := own_l A20.lt
  have lt22 := own_l V20.lt
  have f23 := (Cs20.safe (by show @LT.lt Nat _ _ _; omega) sfb19)
  have ns20_b17 := Sn20 _ f23
  have f25 := P0.ext E17
  have f26 := f25.ext E20
  have f27 := A17.ext E20
  have f28 := F17_85.ext E20
  have f29 := F17_83.ext E20
  have f30 := F17_101.ext E20
  obtain ⟨_, _, ⟨T24, L24, k24, n24⟩, -, X24, ⟨Lc24, hQ24, l24, y24, z24⟩, st24⟩ := X20.specialBack hx (y := m_24) rfl hown20 (mvT hZ20 (w_60 hw)) (mvT hZ20 (w_61 hw)) (mvT hZ20 (w_62 hw)) (by decide) (backOf (W := 1) (rm_sbi l Z a0 hw [] b17 (.null) ((0 : Int32)) a20 b20 k20 ([(.int 65), (.int 99), (.int 99), (.int 111), (.int 117), (.int 110), (.int 116), (.int 91), (.int 117), (.int 115), (.int 101), (.int 114), (.int 61)]) cp h20 n0 (by omega) f26 P1 A20 FC20 FV20 V20 f27 f28 f29 f30 (by omega) (fun q => ns20_b17.2 q.symm) (fun q => ns20_b17.1 q.symm) hcs (Nat.le_of_ble_eq_true rfl)) hZ20 (w_62 hw) (w_58 hw) (by decide) (by decide)) (g := (mkF m 6 #[vA ac, .unset] [(.ref a20), (.ref b17), (.ref b17)])) rfl (by rw [hml]; rfl) (Steps.refl _) (a := b17) (argsL := [(.ref a20)]) (rest := [(.ref b17)]) (lenOf pd_8 rfl) rfl (Nat.le_of_eq rfl) (hb hby d402) (fun _ _ => ⟨rfl, e20, (by decide : 3 + 1 ≤ _), (by decide : 60 + 29 ≤ _)⟩)
  dsimp only [Pt.U, Pt.locs, Pt.cells, Pt.slots] at X24 l24 y24 z24 st24 hQ24
  rw [l24, y24, z24] at X24
  obtain ⟨x24_b, x24_k, rfl, Nq24, Kq24, r24_0, r24_1, r24_2, r24_3, r24_4, r24_5, r24_6⟩ := hQ24
  have N24 := Fr.app N0 Nq24
  have C24 := C20.trans (CHr.keep Kq24 (sfS (Safe.exa (Z := Z) (EL := own_EL) (vm := T20.vm) hZ20.alike f27 (by decide) (by decide)) sf0) C20.1)
  have z24' := Kq24.1
  have K24 := K20.trans Kq24 (allS (Or.inr (by omega)) all0)
  have sf24_0 : Safe Z own_EL T20.vm T24.heap x24_b := Safe.keep Kq24 (sfS (Safe.exa (Z := Z) (EL := own_EL) (vm := T20.vm) hZ20.alike f27 (by decide) (by decide)) sf0) C20.1 (Safe.new (by omega))
  have lt31 := own_l r24_1.lt
  have lt32 := own_l r24_2.lt
  have lt33 := own_l r24_3.lt
  have lt34 := own_l r24_4.lt
  have lt35 := own_l r24_5.lt
  have f37 := P3.ext E17
  have f38 := f37.ext E20
  have f39 := f38.keep Kq24 (ninS (own_ne (by omega)) nin0)
  obtain ⟨T36, X36, e36, st36⟩ := getF X24 hx hZ20 hown20 (host := "") (Or.inl (w_41 hw)) Via.refl rfl f39 (g := (mkF m 10 #[vA ac, .unset] [(.ref ac), (.ref b17)])) rfl rfl (hb hby d404)
  have f41 := P6.ext E17
  have f42 := f41.ext E20
  have f43 := f42.keep Kq24
  have f44 := P7.ext E17
  have f45 := f44.ext E20
  have f46 := f45.keep Kq24 (ninS (own_ne (by omega)) nin0)
  have f47 := P8.ext E17
  have f48 := f47.ext E20
  have f49 := f48.keep Kq24 (ninS (own_ne (by omega)) nin0)
  have f50 := P9.ext E17
  have f51 := f50.ext E20
  have f52 := f51.keep Kq24 (ninS (own_ne (by omega)) nin0)
  obtain ⟨cq40, kq40, qa40, qb40, qc40⟩ := isOf hZ20 e36 r24_1
  obtain ⟨_, _, ⟨T40, L40, k40, n40⟩, -, X40, ⟨Lc40, hQ40, l40, y40, z40⟩, st40⟩ := X36.virtualBack hx (y := m_18) (z := m_18) hown20 (mvT hZ20 (w_127 hw)) (mvT hZ20 (w_93 hw)) (notFace_of_selects (args := #[]) (mvT hZ20 (w_95 hw))) (mvT hZ20 (w_95 hw)) (mvT hZ20 (w_94 hw)) (by decide) (backOf (W := 0) (rm_apsN l Z a0 hw [] us ub ku ((1 : Int32)) ([(.int uq)]) cp b17 x24_b x24_k ((29 : Int32)) ((13 : Int32)) ([(.int 65), (.int 99), (.int 99), (.int 111), (.int 117), (.int 110), (.int 116), (.int 91), (.int 117), (.int 115), (.int 101), (.int 114), (.int 61)]) ((14 : Int32)) T24.heap n0 (by omega) r24_6 P1 f43 f46 f49 f52 r24_1 r24_2 r24_3 r24_4 r24_5 (by omega) (by omega) (own_ne (by omega)) (own_ne (by omega)) hcs (by decide) (by decide) rfl (Nat.le_of_ble_eq_true rfl) (Nat.le_of_ble_eq_true rfl) (by decide) (by decide)) hZ20 (w_96 hw) (w_58 hw) (by decide) (by decide)) qa40 qc40 (g := (mkF m 13 #[vA ac, .unset] [(.ref us), (.ref b17)])) rfl (by rw [hml]; rfl) (Steps.refl _) (argsL := [(.ref us)]) (rest := []) (lenOf pd_14 rfl) rfl (Nat.le_of_eq rfl) (hb hby d405) (fun _ _ => ⟨rfl, e36, (by decide : 4 + 0 ≤ _), (by decide : 89 + 0 ≤ _)⟩)
  dsimp only [Pt.U, Pt.locs, Pt.cells, Pt.slots] at X40 l40 y40 z40 st40 hQ40
  rw [l40, y40, z40] at X40
  obtain ⟨rfl, Nq40, Kq40, r40_0, r40_1, r40_2, r40_3, r40_4, r40_5⟩ := hQ40
  have N40 := Fr.app N24 Nq40
  have C40 := C24.trans (CHr.keep Kq40 (sfS (Safe.exa (Z := Z) (EL := own_EL) (vm := T20.vm) hZ20.alike r24_1 (by decide) (by decide)) (sfS sf24_0 sf0)) C24.1)
  have z40' := Kq40.1
  have K40 := K24.trans Kq40 (allS (Or.inr (by omega)) (allS (Or.inr (by omega)) all0))
  have lt53 := own_l r40_0.lt
  have lt54 := own_l r40_1.lt
  have lt55 := own_l r40_2.lt
  have lt56 := own_l r40_3.lt
  replace r40_4 : Arv Z T40.heap x24_b x24_k .byte (29 : Int32) [(.int 65), (.int 99), (.int 99), (.int 111), (.int 117), (.int 110), (.int 116), (.int 91), (.int 117), (.int 115), (.int 101), (.int 114), (.int 61), (.int uq)] (.int 0) := r40_4
  have lt57 := own_l r40_4.lt
  have f59 := P4.ext E17
  have f60 := f59.ext E20
  have f61 := f60.keep Kq24 (ninS (own_ne (by omega)) nin0)
  have f62 := f61.keep Kq40 (ninS (own_ne (by omega)) (ninS (own_ne (by omega)) nin0))
  obtain ⟨T58, X58, e58, st58⟩ := getF X40 hx hZ20 hown20 (host := "") (Or.inl (w_46 hw)) Via.refl rfl f62 (g := (mkF m 18 #[vA ac, vA b17] [(.ref ac)])) rfl rfl (hb hby d408)
  obtain ⟨a63, T63, h63, k1_63, b63, k63, X63, e63, E63, hS63, hk63, hZ63, hown63, A63, FC63, FV63, V63, -, -, Cs63, Lt63, Sn63, st63⟩ := ldcCH X58 hx hZ20 hown20 (w_211 hw) (own_wS hw) e58 hS20 (by omega) (own_EW hw) (by decide) C40.1 (vs := [(.int 44), (.int 32), (.int 100), (.int 111), (.int 109), (.int 97), (.int 105), (.int 110), (.int 61)]) (z := (9 : Int32)) ⟨by decide, by decide⟩ (by decide) (by decide) (g := (mkF m 25 #[vA ac, vA b17] [(.ref b17)])) rfl (hb hby d423) (n := 36) (by decide) (by decide) (by decide) (by decide)
  have z63 := E63.1
  have C63 := C40.trans Cs63
  have K63 := K40.ext E63
  have lt64 := own_l A63.lt
  have lt65 := own_l V63.lt
  have f66 := (Safe.keep Kq24 (sfS (Safe.exa (Z := Z) (EL := own_EL) (vm := T20.vm) hZ20.alike f27 (by decide) (by decide)) sf0) C20.1 f23)
  have f67 := (Safe.keep Kq40 (sfS (Safe.exa (Z := Z) (EL := own_EL) (vm := T20.vm) hZ20.alike r24_1 (by decide) (by decide)) (sfS sf24_0 sf0)) C24.1 f66)
  have f68 := (Cs63.safe (by show @LT.lt Nat _ _ _; omega) f67)
  have ns63_b17 := Sn63 _ f68
  have f69 := (Safe.keep Kq40 (sfS (Safe.exa (Z := Z) (EL := own_EL) (vm := T20.vm) hZ20.alike r24_1 (by decide) (by decide)) (sfS sf24_0 sf0)) C24.1 sf24_0)
  have f70 := (Cs63.safe (by show @LT.lt Nat _ _ _; omega) f69)
  have ns63_x24_b := Sn63 _ f70
  have f72 := r40_5.ext E63
  have f73 := r40_0.ext E63
  have f74 := r40_1.ext E63
  have f75 := r40_2.ext E63
  have f76 := r40_3.ext E63
  have f77 := r40_4.ext E63
  obtain ⟨cq71, kq71, qa71, qb71, qc71⟩ := isOf hZ63 e63 f73
  obtain ⟨_, _, ⟨T71, L71, k71, n71⟩, -, X71, ⟨Lc71, hQ71, l71, y71, z71⟩, st71⟩ := X63.virtualBack hx (y := m_18) (z := m_18) hown63 (mvT hZ63 (w_127 hw)) (mvT hZ63 (w_93 hw)) (notFace_of_selects (args := #[]) (mvT hZ63 (w_95 hw))) (mvT hZ63 (w_95 hw)) (mvT hZ63 (w_94 hw)) (by decide) (backOf (W := 0) (rm_apsN l Z a0 hw [] a63 b63 k63 ((9 : Int32)) ([(.int 44), (.int 32), (.int 100), (.int 111), (.int 109), (.int 97), (.int 105), (.int 110), (.int 61)]) cp b17 x24_b x24_k ((29 : Int32)) ((14 : Int32)) ([(.int 65), (.int 99), (.int 99), (.int 111), (.int 117), (.int 110), (.int 116), (.int 91), (.int 117), (.int 115), (.int 101), (.int 114), (.int 61), (.int uq)]) ((23 : Int32)) h63 n0 (by omega) f72 P1 A63 FC63 FV63 V63 f73 f74 f75 f76 f77 (by omega) (by omega) (fun q => ns63_x24_b.2 q.symm) (own_ne (by omega)) hcs (by decide) (by decide) rfl (Nat.le_of_ble_eq_true rfl) (Nat.le_of_ble_eq_true rfl) (by decide) (by decide)) hZ63 (w_96 hw) (w_58 hw) (by decide) (by decide)) qa71 qc71 (g := (mkF m 27 #[vA ac, vA b17] [(.ref a63), (.ref b17)])) rfl (by rw [hml]; rfl) (Steps.refl _) (argsL := [(.ref a63)]) (rest := []) (lenOf pd_14 rfl) rfl (Nat.le_of_eq rfl) (hb hby d424) (fun _ _ => ⟨rfl, e63, (by decide : 6 + 0 ≤ _), (by decide : 129 + 0 ≤ _)⟩)
  dsimp only [Pt.U, Pt.locs, Pt.cells, Pt.slots] at X71 l71 y71 z71 st71 hQ71
  rw [l71, y71, z71] at X71
  obtain ⟨rfl, Nq71, Kq71, r71_0, r71_1, r71_2, r71_3, r71_4, r71_5⟩ := hQ71
  have N71 := Fr.app N40 Nq71
  have C71 := C63.trans (CHr.keep Kq71 (sfS (Safe.exa (Z := Z) (EL := own_EL) (vm := T63.vm) hZ63.alike f73 (by decide) (by decide)) (sfS f70 sf0)) C63.1)
  have z71' := Kq71.1
  have K71 := K63.trans Kq71 (allS (Or.inr (by omega)) (allS (Or.inr (by omega)) all0))
  have lt78 := own_l r71_0.lt
  have lt79 := own_l r71_1.lt
  have lt80 := own_l r71_2.lt
  have lt81 := own_l r71_3.lt
  replace r71_4 : Arv Z T71.heap x24_b x24_k .byte (29 : Int32) [(.int 65), (.int 99), (.int 99), (.int 111), (.int 117), (.int 110), (.int 116), (.int 91), (.int 117), (.int 115), (.int 101), (.int 114), (.int 61), (.int uq), (.int 44), (.int 32), (.int 100), (.int 111), (.int 109), (.int 97), (.int 105), (.int 110), (.int 61)] (.int 0) := r71_4
  have lt82 := own_l r71_4.lt
  have f84 := f62.ext E63
  have f85 := f84.keep Kq71 (ninS (own_ne (by omega)) (ninS (own_ne (by omega)) nin0))
  obtain ⟨T83, X83, e83, st83⟩ := getF X71 hx hZ63 hown63 (host := "") (Or.inl (w_46 hw)) Via.refl rfl f85 (g := (mkF m 31 #[vA ac, vA b17] [(.ref ac), (.ref b17)])) rfl rfl (hb hby d426)
  have f87 := P14.ext E17
  have f88 := f87.ext E20
  have f89 := f88.keep Kq24
  have f90 := f89.keep Kq40
  have f91 := f90.ext E63
  have f92 := f91.keep Kq71
  have f93 := P15.ext E17
  have f94 := f93.ext E20
  have f95 := f94.keep Kq24 (ninS (own_ne (by omega)) nin0)
  have f96 := f95.keep Kq40 (ninS (own_ne (by omega)) (ninS (own_ne (by omega)) nin0))
  have f97 := f96.ext E63
  have f98 := f97.keep Kq71 (ninS (own_ne (by omega)) (ninS (own_ne (by omega)) nin0))
  have f99 := P16.ext E17
  have f100 := f99.ext E20
  have f101 := f100.keep Kq24 (ninS (own_ne (by omega)) nin0)
  have f102 := f101.keep Kq40 (ninS (own_ne (by omega)) (ninS (own_ne (by omega)) nin0))
  have f103 := f102.ext E63
  have f104 := f103.keep Kq71 (ninS (own_ne (by omega)) (ninS (own_ne (by omega)) nin0))
  have f105 := P17.ext E17
  have f106 := f105.ext E20
  have f107 := f106.keep Kq24 (ninS (own_ne (by omega)) nin0)
  have f108 := f107.keep Kq40 (ninS (own_ne (by omega)) (ninS (own_ne (by omega)) nin0))
  have f109 := f108.ext E63
  have f110 := f109.keep Kq71 (ninS (own_ne (by omega)) (ninS (own_ne (by omega)) nin0))
  obtain ⟨cq86, kq86, qa86, qb86, qc86⟩ := isOf hZ63 e83 r71_0
  obtain ⟨_, _, ⟨T86, L86, k86, n86⟩, -, X86, ⟨Lc86, hQ86, l86, y86, z86⟩, st86⟩ := X83.virtualBack hx (y := m_18) (z := m_18) hown63 (mvT hZ63 (w_127 hw)) (mvT hZ63 (w_93 hw)) (notFace_of_selects (args := #[]) (mvT hZ63 (w_95 hw))) (mvT hZ63 (w_95 hw)) (mvT hZ63 (w_94 hw)) (by decide) (backOf (W := 0) (rm_apsN l Z a0 hw [] dm db kd ((1 : Int32)) ([(.int dq)]) cp b17 x24_b x24_k ((29 : Int32)) ((23 : Int32)) ([(.int 65), (.int 99), (.int 99), (.int 111), (.int 117), (.int 110), (.int 116), (.int 91), (.int 117), (.int 115), (.int 101), (.int 114), (.int 61), (.int uq), (.int 44), (.int 32), (.int 100), (.int 111), (.int 109), (.int 97), (.int 105), (.int 110), (.int 61)]) ((24 : Int32)) T71.heap n0 (by omega) r71_5 P1 f92 f98 f104 f110 r71_0 r71_1 r71_2 r71_3 r71_4 (by omega) (by omega) (own_ne (by omega)) (own_ne (by omega)) hcs (by decide) (by decide) rfl (Nat.le_of_ble_eq_true rfl) (Nat.le_of_ble_eq_true rfl) (by decide) (by decide)) hZ63 (w_96 hw) (w_58 hw) (by decide) (by decide)) qa86 qc86 (g := (mkF m 34 #[vA ac, vA b17] [(.ref dm), (.ref b17)])) rfl (by rw [hml]; rfl) (Steps.refl _) (argsL := [(.ref dm)]) (rest := []) (lenOf pd_14 rfl) rfl (Nat.le_of_eq rfl) (hb hby d427) (fun _ _ => ⟨rfl, e83, (by decide : 6 + 0 ≤ _), (by decide : 129 + 0 ≤ _)⟩)
  dsimp only [Pt.U, Pt.locs, Pt.cells, Pt.slots] at X86 l86 y86 z86 st86 hQ86
  rw [l86, y86, z86] at X86
  obtain ⟨rfl, Nq86, Kq86, r86_0, r86_1, r86_2, r86_3, r86_4, r86_5⟩ := hQ86
  have N86 := Fr.app N71 Nq86
  have f111 := (Safe.keep Kq71 (sfS (Safe.exa (Z := Z) (EL := own_EL) (vm := T63.vm) hZ63.alike f73 (by decide) (by decide)) (sfS f70 sf0)) C63.1 f70)
  have C86 := C71.trans (CHr.keep Kq86 (sfS (Safe.exa (Z := Z) (EL := own_EL) (vm := T63.vm) hZ63.alike r71_0 (by decide) (by decide)) (sfS f111 sf0)) C71.1)
  have z86' := Kq86.1
  have K86 := K71.trans Kq86 (allS (Or.inr (by omega)) (allS (Or.inr (by omega)) all0))
  have lt112 := own_l r86_0.lt
  have lt113 := own_l r86_1.lt
  have lt114 := own_l r86_2.lt
  have lt115 := own_l r86_3.lt
  replace r86_4 : Arv Z T86.heap x24_b x24_k .byte (29 : Int32) [(.int 65), (.int 99), (.int 99), (.int 111), (.int 117), (.int 110), (.int 116), (.int 91), (.int 117), (.int 115), (.int 101), (.int 114), (.int 61), (.int uq), (.int 44), (.int 32), (.int 100), (.int 111), (.int 109), (.int 97), (.int 105), (.int 110), (.int 61), (.int dq)] (.int 0) := r86_4
  have lt116 := own_l r86_4.lt
  obtain ⟨a117, T117, h117, k1_117, b117, k117, X117, e117, E117, hS117, hk117, hZ117, hown117, A117, FC117, FV117, V117, -, -, Cs117, Lt117, Sn117, st117⟩ := ldcCH X86 hx hZ63 hown63 (w_128 hw) (own_wS hw) rfl hS63 (by omega) (own_EW hw) (by decide) C86.1 (vs := [(.int 44), (.int 32), (.int 116), (.int 97), (.int 114), (.int 103), (.int 101), (.int 116), (.int 61)]) (z := (9 : Int32)) ⟨by decide, by decide⟩ (by decide) (by decide) (g := (mkF m 39 #[vA ac, vA b17] [(.ref b17)])) rfl (hb hby d411) (n := 36) (by decide) (by decide) (by decide) (by decide)
  have z117 := E117.1
  have C117 := C86.trans Cs117
  have K117 := K86.ext E117
  have lt118 := own_l A117.lt
  have lt119 := own_l V117.lt
  have f120 := (Safe.keep Kq71 (sfS (Safe.exa (Z := Z) (EL := own_EL) (vm := T63.vm) hZ63.alike f73 (by decide) (by decide)) (sfS f70 sf0)) C63.1 f68)
  have f121 := (Safe.keep Kq86 (sfS (Safe.exa (Z := Z) (EL := own_EL) (vm := T63.vm) hZ63.alike r71_0 (by decide) (by decide)) (sfS f111 sf0)) C71.1 f120)
  have f122 := (Cs117.safe (by show @LT.lt Nat _ _ _; omega) f121)
  have ns117_b17 := Sn117 _ f122
  have f123 := (Safe.keep Kq86 (sfS (Safe.exa (Z := Z) (EL := own_EL) (vm := T63.vm) hZ63.alike r71_0 (by decide) (by decide)) (sfS f111 sf0)) C71.1 f111)
  have f124 := (Cs117.safe (by show @LT.lt Nat _ _ _; omega) f123)
  have ns117_x24_b := Sn117 _ f124
  have f126 := r86_5.ext E117
  have f127 := r86_0.ext E117
  have f128 := r86_1.ext E117
  have f129 := r86_2.ext E117
  have f130 := r86_3.ext E117
  have f131 := r86_4.ext E117
  obtain ⟨cq125, kq125, qa125, qb125, qc125⟩ := isOf hZ117 e117 f127
  obtain ⟨_, _, ⟨T125, L125, k125, n125⟩, -, X125, ⟨Lc125, hQ125, l125, y125, z125⟩, st125⟩ := X117.virtualBack hx (y := m_18) (z := m_18) hown117 (mvT hZ117 (w_127 hw)) (mvT hZ117 (w_93 hw)) (notFace_of_selects (args := #[]) (mvT hZ117 (w_95 hw))) (mvT hZ117 (w_95 hw)) (mvT hZ117 (w_94 hw)) (by decide) (backOf (W := 0) (rm_apsG33 l Z a0 hw [] a117 b117 k117 ((9 : Int32)) ([(.int 44), (.int 32), (.int 116), (.int 97), (.int 114), (.int 103), (.int 101), (.int 116), (.int 61)]) cp b17 x24_b x24_k ((24 : Int32)) ([(.int 65), (.int 99), (.int 99), (.int 111), (.int 117), (.int 110), (.int 116), (.int 91), (.int 117), (.int 115), (.int 101), (.int 114), (.int 61), (.int uq), (.int 44), (.int 32), (.int 100), (.int 111), (.int 109), (.int 97), (.int 105), (.int 110), (.int 61), (.int dq)]) h117 n0 (by omega) f126 P1 A117 FC117 FV117 V117 f127 f128 f129 f130 f131 (by omega) (by omega) (fun q => ns117_x24_b.2 q.symm) (own_ne (by omega)) (fun q => ns117_b17.2 q.symm) (fun q => ns117_b17.1 q.symm) hcs (by decide) (Nat.le_of_ble_eq_true rfl) (Nat.le_of_ble_eq_true rfl) (by decide) rfl (Nat.le_of_ble_eq_true rfl) (by decide)) hZ117 (w_96 hw) (w_58 hw) (by decide) (by decide)) qa125 qc125 (g := (mkF m 41 #[vA ac, vA b17] [(.ref a117), (.ref b17)])) rfl (by rw [hml]; rfl) (Steps.refl _) (argsL := [(.ref a117)]) (rest := []) (lenOf pd_14 rfl) rfl (Nat.le_of_eq rfl) (hb hby d412) (fun _ _ => ⟨rfl, e117, (by decide : 8 + 1 ≤ _), (by decide : 169 + 60 ≤ _)⟩)
  dsimp only [Pt.U, Pt.locs, Pt.cells, Pt.slots] at X125 l125 y125 z125 st125 hQ125
  rw [l125, y125, z125] at X125
  obtain ⟨x125_b, x125_k, rfl, Nq125, Kq125, r125_0, r125_1, r125_2, r125_3, r125_4, r125_5, r125_6⟩ := hQ125
  have N125 := Fr.app N86 Nq125
  have C125 := C117.trans (CHr.keep Kq125 (sfS (Safe.exa (Z := Z) (EL := own_EL) (vm := T117.vm) hZ117.alike f127 (by decide) (by decide)) sf0) C117.1)
  have z125' := Kq125.1
  have K125 := K117.trans Kq125 (allS (Or.inr (by omega)) all0)
  have sf125_0 : Safe Z own_EL T117.vm T125.heap x125_b := Safe.keep Kq125 (sfS (Safe.exa (Z := Z) (EL := own_EL) (vm := T117.vm) hZ117.alike f127 (by decide) (by decide)) sf0) C117.1 (Safe.new (by omega))
  have lt132 := own_l r125_1.lt
  have lt133 := own_l r125_2.lt
  have lt134 := own_l r125_3.lt
  have lt135 := own_l r125_4.lt
  replace r125_5 : Arv Z T125.heap x125_b x125_k .byte (60 : Int32) [(.int 65), (.int 99), (.int 99), (.int 111), (.int 117), (.int 110), (.int 116), (.int 91), (.int 117), (.int 115), (.int 101), (.int 114), (.int 61), (.int uq), (.int 44), (.int 32), (.int 100), (.int 111), (.int 109), (.int 97), (.int 105), (.int 110), (.int 61), (.int dq), (.int 44), (.int 32), (.int 116), (.int 97), (.int 114), (.int 103), (.int 101), (.int 116), (.int 61)] (.int 0) := r125_5
  have lt136 := own_l r125_5.lt
  have f138 := P5.ext E17
  have f139 := f138.ext E20
  have f140 := f139.keep Kq24 (ninS (own_ne (by omega)) nin0)
  have f141 := f140.keep Kq40 (ninS (own_ne (by omega)) (ninS (own_ne (by omega)) nin0))
  have f142 := f141.ext E63
  have f143 := f142.keep Kq71 (ninS (own_ne (by omega)) (ninS (own_ne (by omega)) nin0))
  have f144 := f143.keep Kq86 (ninS (own_ne (by omega)) (ninS (own_ne (by omega)) nin0))
  have f145 := f144.ext E117
  have f146 := f145.keep Kq125 (ninS (own_ne (by omega)) nin0)
  obtain ⟨T137, X137, e137, st137⟩ := getF X125 hx hZ117 hown117 (host := "") (Or.inl (w_49 hw)) Via.refl rfl f146 (g := (mkF m 45 #[vA ac, vA b17] [(.ref ac), (.ref b17)])) rfl rfl (hb hby d414)
  have f148 := P10.ext E17
  have f149 := f148.ext E20
  have f150 := f149.keep Kq24
  have f151 := f150.keep Kq40
  have f152 := f151.ext E63
  have f153 := f152.keep Kq71
  have f154 := f153.keep Kq86
  have f155 := f154.ext E117
  have f156 := f155.keep Kq125
  have f157 := P11.ext E17
  have f158 := f157.ext E20
  have f159 := f158.keep Kq24 (ninS (own_ne (by omega)) nin0)
  have f160 := f159.keep Kq40 (ninS (own_ne (by omega)) (ninS (own_ne (by omega)) nin0))
  have f161 := f160.ext E63
  have f162 := f161.keep Kq71 (ninS (own_ne (by omega)) (ninS (own_ne (by omega)) nin0))
  have f163 := f162.keep Kq86 (ninS (own_ne (by omega)) (ninS (own_ne (by omega)) nin0))
  have f164 := f163.ext E117
  have f165 := f164.keep Kq125 (ninS (own_ne (by omega)) nin0)
  have f166 := P12.ext E17
  have f167 := f166.ext E20
  have f168 := f167.keep Kq24 (ninS (own_ne (by omega)) nin0)
  have f169 := f168.keep Kq40 (ninS (own_ne (by omega)) (ninS (own_ne (by omega)) nin0))
  have f170 := f169.ext E63
  have f171 := f170.keep Kq71 (ninS (own_ne (by omega)) (ninS (own_ne (by omega)) nin0))
  have f172 := f171.keep Kq86 (ninS (own_ne (by omega)) (ninS (own_ne (by omega)) nin0))
  have f173 := f172.ext E117
  have f174 := f173.keep Kq125 (ninS (own_ne (by omega)) nin0)
  have f175 := P13.ext E17
  have f176 := f175.ext E20
  have f177 := f176.keep Kq24 (ninS (own_ne (by omega)) nin0)
  have f178 := f177.keep Kq40 (ninS (own_ne (by omega)) (ninS (own_ne (by omega)) nin0))
  have f179 := f178.ext E63
  have f180 := f179.keep Kq71 (ninS (own_ne (by omega)) (ninS (own_ne (by omega)) nin0))
  have f181 := f180.keep Kq86 (ninS (own_ne (by omega)) (ninS (own_ne (by omega)) nin0))
  have f182 := f181.ext E117
  have f183 := f182.keep Kq125 (ninS (own_ne (by omega)) nin0)
  obtain ⟨cq147, kq147, qa147, qb147, qc147⟩ := isOf hZ117 e137 r125_1
  obtain ⟨_, _, ⟨T147, L147, k147, n147⟩, -, X147, ⟨Lc147, hQ147, l147, y147, z147⟩, st147⟩ := X137.virtualBack hx (y := m_18) (z := m_18) hown117 (mvT hZ117 (w_127 hw)) (mvT hZ117 (w_93 hw)) (notFace_of_selects (args := #[]) (mvT hZ117 (w_95 hw))) (mvT hZ117 (w_95 hw)) (mvT hZ117 (w_94 hw)) (by decide) (backOf (W := 0) (rm_apsN l Z a0 hw [] tg gb kg ((1 : Int32)) ([(.int tq)]) cp b17 x125_b x125_k ((60 : Int32)) ((33 : Int32)) ([(.int 65), (.int 99), (.int 99), (.int 111), (.int 117), (.int 110), (.int 116), (.int 91), (.int 117), (.int 115), (.int 101), (.int 114), (.int 61), (.int uq), (.int 44), (.int 32), (.int 100), (.int 111), (.int 109), (.int 97), (.int 105), (.int 110), (.int 61), (.int dq), (.int 44), (.int 32), (.int 116), (.int 97), (.int 114), (.int 103), (.int 101), (.int 116), (.int 61)]) ((34 : Int32)) T125.heap n0 (by omega) r125_6 P1 f156 f165 f174 f183 r125_1 r125_2 r125_3 r125_4 r125_5 (by omega) (by omega) (own_ne (by omega)) (own_ne (by omega)) hcs (by decide) (by decide) rfl (Nat.le_of_ble_eq_true rfl) (Nat.le_of_ble_eq_true rfl) (by decide) (by decide)) hZ117 (w_96 hw) (w_58 hw) (by decide) (by decide)) qa147 qc147 (g := (mkF m 48 #[vA ac, vA b17] [(.ref tg), (.ref b17)])) rfl (by rw [hml]; rfl) (Steps.refl _) (argsL := [(.ref tg)]) (rest := []) (lenOf pd_14 rfl) rfl (Nat.le_of_eq rfl) (hb hby d415) (fun _ _ => ⟨rfl, e137, (by decide : 9 + 0 ≤ _), (by decide : 229 + 0 ≤ _)⟩)
  dsimp only [Pt.U, Pt.locs, Pt.cells, Pt.slots] at X147 l147 y147 z147 st147 hQ147
  rw [l147, y147, z147] at X147
  obtain ⟨rfl, Nq147, Kq147, r147_0, r147_1, r147_2, r147_3, r147_4, r147_5⟩ := hQ147
  have N147 := Fr.app N125 Nq147
  have C147 := C125.trans (CHr.keep Kq147 (sfS (Safe.exa (Z := Z) (EL := own_EL) (vm := T117.vm) hZ117.alike r125_1 (by decide) (by decide)) (sfS sf125_0 sf0)) C125.1)
  have z147' := Kq147.1
  have K147 := K125.trans Kq147 (allS (Or.inr (by omega)) (allS (Or.inr (by omega)) all0))
  have lt184 := own_l r147_0.lt
  have lt185 := own_l r147_1.lt
  have lt186 := own_l r147_2.lt
  have lt187 := own_l r147_3.lt
  replace r147_4 : Arv Z T147.heap x125_b x125_k .byte (60 : Int32) [(.int 65), (.int 99), (.int 99), (.int 111), (.int 117), (.int 110), (.int 116), (.int 91), (.int 117), (.int 115), (.int 101), (.int 114), (.int 61), (.int uq), (.int 44), (.int 32), (.int 100), (.int 111), (.int 109), (.int 97), (.int 105), (.int 110), (.int 61), (.int dq), (.int 44), (.int 32), (.int 116), (.int 97), (.int 114), (.int 103), (.int 101), (.int 116), (.int 61), (.int tq)] (.int 0) := r147_4
  have lt188 := own_l r147_4.lt
  obtain ⟨cq189, kq189, qa189, qb189, qc189⟩ := isOf hZ117 rfl r147_0
  obtain ⟨_, _, ⟨T189, L189, k189, n189⟩, -, X189, ⟨Lc189, hQ189, l189, y189, z189⟩, st189⟩ := X147.virtualBack hx (y := m_22) (z := m_22) hown117 (mvT hZ117 (w_129 hw)) (mvT hZ117 (w_130 hw)) (notFace_of_selects (args := #[]) (mvT hZ117 (w_132 hw))) (mvT hZ117 (w_132 hw)) (mvT hZ117 (w_131 hw)) (by decide) (backOf (W := 0) (rm_apcS l Z a0 hw [] ((93 : Int32)) cp b17 x125_b x125_k ((60 : Int32)) ((34 : Int32)) ([(.int 65), (.int 99), (.int 99), (.int 111), (.int 117), (.int 110), (.int 116), (.int 91), (.int 117), (.int 115), (.int 101), (.int 114), (.int 61), (.int uq), (.int 44), (.int 32), (.int 100), (.int 111), (.int 109), (.int 97), (.int 105), (.int 110), (.int 61), (.int dq), (.int 44), (.int 32), (.int 116), (.int 97), (.int 114), (.int 103), (.int 101), (.int 116), (.int 61), (.int tq)]) ((35 : Int32)) T147.heap n0 (by omega) r147_5 P1 r147_0 r147_1 r147_2 r147_3 r147_4 (by omega) (by omega) (own_ne (by omega)) hcs (by decide) (by decide) rfl (by decide) (by decide) (by decide)) hZ117 (w_133 hw) (w_58 hw) (by decide) (by decide)) qa189 qc189 (g := (mkF m 55 #[vA ac, vA b17] [(.int 93), (.ref b17)])) rfl (by rw [hml]; rfl) (Steps.refl _) (argsL := [(.int 93)]) (rest := []) (lenOf pd_23 rfl) rfl (Nat.le_of_eq rfl) (hb hby d419) (fun _ _ => ⟨rfl, rfl, (by decide : 9 + 0 ≤ _), (by decide : 229 + 0 ≤ _)⟩)
  dsimp only [Pt.U, Pt.locs, Pt.cells, Pt.slots] at X189 l189 y189 z189 st189 hQ189
  rw [l189, y189, z189] at X189
  obtain ⟨rfl, Nq189, Kq189, r189_0, r189_1, r189_2, r189_3, r189_4, r189_5⟩ := hQ189
  have N189 := Fr.app N147 Nq189
  have f190 := (Safe.keep Kq147 (sfS (Safe.exa (Z := Z) (EL := own_EL) (vm := T117.vm) hZ117.alike r125_1 (by decide) (by decide)) (sfS sf125_0 sf0)) C125.1 sf125_0)
  have C189 := C147.trans (CHr.keep Kq189 (sfS (Safe.exa (Z := Z) (EL := own_EL) (vm := T117.vm) hZ117.alike r147_0 (by decide) (by decide)) (sfS f190 sf0)) C147.1)
  have z189' := Kq189.1
  have K189 := K147.trans Kq189 (allS (Or.inr (by omega)) (allS (Or.inr (by omega)) all0))
  have lt191 := own_l r189_0.lt
  have lt192 := own_l r189_1.lt
  have lt193 := own_l r189_2.lt
  have lt194 := own_l r189_3.lt
  replace r189_4 : Arv Z T189.heap x125_b x125_k .byte (60 : Int32) [(.int 65), (.int 99), (.int 99), (.int 111), (.int 117), (.int 110), (.int 116), (.int 91), (.int 117), (.int 115), (.int 101), (.int 114), (.int 61), (.int uq), (.int 44), (.int 32), (.int 100), (.int 111), (.int 109), (.int 97), (.int 105), (.int 110), (.int 61), (.int dq), (.int 44), (.int 32), (.int 116), (.int 97), (.int 114), (.int 103), (.int 101), (.int 116), (.int 61), (.int tq), (.int (oB (93 : Int32)))] (.int 0) := r189_4
  have lt195 := own_l r189_4.lt
  obtain ⟨cq196, kq196, qa196, qb196, qc196⟩ := isOf hZ117 rfl r189_0
  obtain ⟨_, _, ⟨T196, L196, k196, n196⟩, -, X196, ⟨Lc196, hQ196, l196, y196, z196⟩, st196⟩ := X189.virtualBack hx (y := m_33) (z := m_33) hown117 (mvT hZ117 (w_144 hw)) (mvT hZ117 (w_145 hw)) (notFace_of_selects (args := #[]) (mvT hZ117 (w_147 hw))) (mvT hZ117 (w_147 hw)) (mvT hZ117 (w_146 hw)) (by decide) (backOf (W := 0) (rm_tos l Z a0 hw [] cp b17 x125_b x125_k ((60 : Int32)) ((35 : Int32)) ([(.int 65), (.int 99), (.int 99), (.int 111), (.int 117), (.int 110), (.int 116), (.int 91), (.int 117), (.int 115), (.int 101), (.int 114), (.int 61), (.int uq), (.int 44), (.int 32), (.int 100), (.int 111), (.int 109), (.int 97), (.int 105), (.int 110), (.int 61), (.int dq), (.int 44), (.int 32), (.int 116), (.int 97), (.int 114), (.int 103), (.int 101), (.int 116), (.int 61), (.int tq), (.int (oB (93 : Int32)))]) T189.heap n0 (by omega) r189_5 P1 r189_0 r189_1 r189_2 r189_3 r189_4 hcs (by decide) rfl (by decide) (by decide) (by decide) (by decide)) hZ117 (w_148 hw) (w_58 hw) (by decide) (by decide)) qa196 qc196 (g := (mkF m 58 #[vA ac, vA b17] [(.ref b17)])) rfl (by rw [hml]; rfl) (Steps.refl _) (argsL := []) (rest := []) (lenOf pd_24 rfl) rfl (Nat.le_of_eq rfl) (hb hby d420) (fun _ _ => ⟨rfl, rfl, (by decide : 9 + 2 ≤ _), (by decide : 229 + 64 ≤ _)⟩)
  dsimp only [Pt.U, Pt.locs, Pt.cells, Pt.slots] at X196 l196 y196 z196 st196 hQ196
  rw [l196, y196, z196] at X196
  obtain ⟨x196_r, x196_b, x196_k, rfl, Nq196, Kq196, r196_0, r196_1, r196_2, r196_3, r196_4, r196_5, r196_6⟩ := hQ196
  have N196 := Fr.app N189 Nq196
  have C196 := C189.trans (CHr.keep Kq196 sf0 C189.1)
  have z196' := Kq196.1
  have K196 := K189.trans Kq196 all0
  have sf196_0 : Safe Z own_EL T117.vm T196.heap x196_r := Safe.keep Kq196 sf0 C189.1 (Safe.new (by omega))
  have sf196_1 : Safe Z own_EL T117.vm T196.heap x196_b := Safe.keep Kq196 sf0 C189.1 (Safe.new (by omega))
  have lt197 := own_l r196_2.lt
  have lt198 := own_l r196_3.lt
  have lt199 := own_l r196_4.lt
  have lt200 := own_l r196_5.lt
  obtain ⟨fs, hr, hrun, hended, hEnd⟩ := X196.leaveW hS117 (by first | omega | (rw [(rfl : T196.heap = T196.heap)]; omega)) (v := some (.ref x196_r)) (fun h => by rw [Bd.returns] at h; cases h)
  have Cz := C196.trans (CHv.at X196 hZ117 (own_EW hw) C196.1)
  refine ⟨_, _, castTop (ef_17 m ac) ?_, hrun, hended, _, _, rfl, ?_, (by rw [hh]; show CHr Z own_EL s.vm h0 T196.vm T196.heap; rw [(rfl : T196.heap = T196.heap)]; exact Cz), hEnd.1, hEnd.2.1, hEnd.2.2.1, hEnd.2.2.2.mono (by decide) (by decide)⟩
  · show Steps _ _ _ (s₁.setTop (mkF m 0 #[vA ac, .unset] [])) _
    refine st17 _ ?_
    show Steps _ _ _ (T17.setTop (mkF m 3 #[vA ac, .unset] [(.ref b17)])) _
    refine XS.dup X17.here hx rfl (hb hby d400) rfl rfl ?_
    refine st20 _ ?_
    show Steps _ _ _ (T20.setTop (mkF m 6 #[vA ac, .unset] [(.ref a20), (.ref b17), (.ref b17)])) _
    refine st24.trans ?_
    show Steps _ _ _ (T24.setTop (mkF m 9 #[vA ac, .unset] [(.ref b17)])) _
    refine XS.aloadN X24.here hx rfl (hb hby d403) rfl rfl ?_
    refine st36 _ ?_
    show Steps _ _ _ (T36.setTop (mkF m 13 #[vA ac, .unset] [(.ref us), (.ref b17)])) _
    refine st40.trans ?_
    show Steps _ _ _ (T40.setTop (mkF m 16 #[vA ac, .unset] [(.ref b17)])) _
    refine XS.astoreN X40.here hx rfl (hb hby d406) rfl rfl (l' := #[vA ac, vA b17]) rfl ?_
    refine XS.aloadN X40.here hx rfl (hb hby d407) rfl rfl ?_
    refine st58 _ ?_
    show Steps _ _ _ (T58.setTop (mkF m 21 #[vA ac, vA b17] [(.ref dm)])) _
    refine XS.ifnullNo X58.here hx rfl (hb hby d409) rfl ?_
    refine XS.aloadN X58.here hx rfl (hb hby d422) rfl rfl ?_
    refine st63 _ ?_
    show Steps _ _ _ (T63.setTop (mkF m 27 #[vA ac, vA b17] [(.ref a63), (.ref b17)])) _
    refine st71.trans ?_
    show Steps _ _ _ (T71.setTop (mkF m 30 #[vA ac, vA b17] [(.ref b17)])) _
    refine XS.aloadN X71.here hx rfl (hb hby d425) rfl rfl ?_
    refine st83 _ ?_
    show Steps _ _ _ (T83.setTop (mkF m 34 #[vA ac, vA b17] [(.ref dm), (.ref b17)])) _
    refine st86.trans ?_
    show Steps _ _ _ (T86.setTop (mkF m 37 #[vA ac, vA b17] [(.ref b17)])) _
    refine XS.pop X86.here hx rfl (hb hby d428) rfl rfl ?_
    refine XS.aloadN X86.here hx rfl (hb hby d410) rfl rfl ?_
    refine st117 _ ?_
    show Steps _ _ _ (T117.setTop (mkF m 41 #[vA ac, vA b17] [(.ref a117), (.ref b17)])) _
    refine st125.trans ?_
    show Steps _ _ _ (T125.setTop (mkF m 44 #[vA ac, vA b17] [(.ref b17)])) _
    refine XS.aloadN X125.here hx rfl (hb hby d413) rfl rfl ?_
    refine st137 _ ?_
    show Steps _ _ _ (T137.setTop (mkF m 48 #[vA ac, vA b17] [(.ref tg), (.ref b17)])) _
    refine st147.trans ?_
    show Steps _ _ _ (T147.setTop (mkF m 51 #[vA ac, vA b17] [(.ref b17)])) _
    refine XS.pop X147.here hx rfl (hb hby d416) rfl rfl ?_
    refine XS.aloadN X147.here hx rfl (hb hby d417) rfl rfl ?_
    refine XS.bipush X147.here hx rfl (hb hby d418) ?_
    refine st189.trans ?_
    show Steps _ _ _ (T189.setTop (mkF m 58 #[vA ac, vA b17] [(.ref b17)])) _
    refine st196.trans ?_
    show Steps _ _ _ (T196.setTop (mkF m 61 #[vA ac, vA b17] [(.ref x196_r)])) _
    exact retOut X196 hx Bd.returns (own_narrow_ref rfl) (Or.inr (Or.inr (Or.inr (Or.inr ⟨rfl, rfl, rfl⟩)))) (hb hby d421) hr
  · show Q_ts1 Z ac cp us ub ku tg gb kg uq tq dm db kd dq h0 n0 _ T196.heap _
    exact ⟨x196_r, x196_b, x196_k, rfl, N196, K196, r196_2, r196_3, r196_4, r196_5⟩
abbrev oC (y : Int32) : Int32 := (y &&& (255 : Int32)).toUInt32.toUInt16.toUInt32.toInt32
theorem own_ch (y : Int32) : ¬ oC y < 0 ∧ ¬ (255 : Int32) < oC y := by
  unfold oC
  rw [i2c_mask]
  have q := c_and y 255 (by decide)
  have q2 : (255 : Int32).toInt = 255 := by decide
  simp only [Int32.lt_iff_toInt_lt, show (0 : Int32).toInt = 0 from by decide, q2] at q ⊢
  omega
theorem own_nc (y : Int32) : nar .char (oC y) = oC y := by
  unfold oC
  rw [i2c_mask]
  exact i2c_mask y
theorem own_hws {Z : State} {a0 : Array Value} (hw : HW Z a0) : ∀ d ∈ StrChars.Road.words, d.before a0 Z = true := fun d hd => hw d ((by decide +kernel : ∀ d ∈ StrChars.Road.words, d ∈ tables_1) d hd)
theorem own_hwe {Z : State} {a0 : Array Value} (hw : HW Z a0) : ∀ d ∈ StrChars.Road.wordsEq, d.before a0 Z = true := fun d hd => hw d ((by decide +kernel : ∀ d ∈ StrChars.Road.wordsEq, d ∈ tables_1) d hd)
theorem own_up {y : Int32} (h : ¬ y < 0 ∧ ¬ (255 : Int32) < y) : ¬ y < 0 ∧ ¬ (65535 : Int32) < y := by
  refine ⟨h.1, ?_⟩
  have q1 : (255 : Int32).toInt = 255 := by decide
  have q2 : (65535 : Int32).toInt = 65535 := by decide
  have q := h.2
  simp only [Int32.lt_iff_toInt_lt, q1, q2] at q ⊢
  omega
theorem own_eqS {p : Program} {l : Launch} {e : Env} {R : Room} {s : State} {args : Array Value} {below : List Frame} {len W : Nat} {Z : State} {a0 : Array Value} {h : Heap} {n0 : Nat} (hZ : Z.Warmed39 s.vm) (hw : HW Z a0) {x t : Addr} {kb : ClassId} {cs : List Int32} {N : Int32} (hN : N = Int32.ofNat cs.length) (hp : ∀ c ∈ cs, ¬ c < 0 ∧ ¬ (255 : Int32) < c) (l2 : cs.length ≤ 4000)
    (E : Exa Z h x "java/lang/String") (V : Fld Z h x "java/lang/String" "value" "[B" (.ref t)) (C : Fld Z h x "java/lang/String" "coder" "B" (.int 0)) (K : Arv Z h t kb .byte N ((cs.map StrChars.lo8).map Value.int) (.int 0))
    {y t' : Addr} {kb' : ClassId} (E' : Exa Z h y "java/lang/String") (V' : Fld Z h y "java/lang/String" "value" "[B" (.ref t')) (C' : Fld Z h y "java/lang/String" "coder" "B" (.int 0)) (K' : Arv Z h t' kb' .byte N ((cs.map StrChars.lo8).map Value.int) (.int 0))
    {z : Int32} (S : Sta Z h "java/lang/String" "COMPACT_STRINGS" "Z" (.int z)) (hz : ¬ z = 0) (hfr : 2 ≤ R.frames) (hlo : W + 28 ≤ R.locals) :
    Back l R p e below s args (⟨"java/lang/String", "equals", "(Ljava/lang/Object;)Z"⟩ : MethodName) len W (fun P a => a = #[.ref x, .ref y] ∧ P.U.heap = h ∧ P.cells + 0 ≤ R.cells ∧ P.slots + 0 ≤ R.slots)
      (fun P _ v B => ∃ L, (v = some (.int 1) ∧ Fr n0 L ∧ B.U.heap = h) ∧ B.locs = P.locs ++ L ∧ B.cells = P.cells + 0 ∧ B.slots = P.slots + 0) := by
  subst hN
  have hc := StrChars.Road.codOf (cs := cs) rfl (fun c hc => (hp c hc).2)
  have hb : ∀ c ∈ cs, ¬ c < 0 ∧ ¬ (65535 : Int32) < c := fun c hc => own_up (hp c hc)
  refine Back.mono (StrChars.Road.eqW hZ (own_hwe hw) (kI := 4) (w_13 hw) E V C K hc hb l2 E' V' C' K' hc hb l2 S hz hfr hlo) (fun P a q => q) (fun P a v B _ q => ?_)
  obtain ⟨L, ⟨hv, rfl, hh⟩, r⟩ := q
  refine ⟨[], ⟨?_, Fr.nil n0, hh⟩, r⟩
  rcases hv with ⟨hv, -⟩ | ⟨-, hne⟩
  · exact hv
  · exact absurd rfl hne
abbrev oLN (y0 y3 : Int32) : List Int32 := [65, 99, 99, 111, 117, 110, 116, 91, 117, 115, 101, 114, 61, y0, 44, 32, 116, 97, 114, 103, 101, 116, 61, y3, 93]
abbrev oWN (y0 y3 : Int32) : List Value := ((oLN y0 y3).map StrChars.lo8).map Value.int
theorem own_wN (y0 y3 : Int32) : [.int 65, .int 99, .int 99, .int 111, .int 117, .int 110, .int 116, .int 91, .int 117, .int 115, .int 101, .int 114, .int 61, .int (oB y0), .int 44, .int 32, .int 116, .int 97, .int 114, .int 103, .int 101, .int 116, .int 61, .int (oB y3), .int 93] = oWN y0 y3 := rfl
theorem own_hpN {y0 y3 : Int32} (hy0 : ¬ y0 < 0 ∧ ¬ (255 : Int32) < y0) (hy3 : ¬ y3 < 0 ∧ ¬ (255 : Int32) < y3) : ∀ c ∈ oLN y0 y3, ¬ c < 0 ∧ ¬ (255 : Int32) < c := by
  intro c hc
  simp only [oLN, List.mem_cons, List.not_mem_nil, or_false] at hc
  rcases hc with rfl | rfl | rfl | rfl | rfl | rfl | rfl | rfl | rfl | rfl | rfl | rfl | rfl | rfl | rfl | rfl | rfl | rfl | rfl | rfl | rfl | rfl | rfl | rfl | rfl <;> first | assumption | decide
abbrev oL0 (y0 y3 : Int32) : List Int32 := [65, 99, 99, 111, 117, 110, 116, 91, 117, 115, 101, 114, 61, y0, 44, 32, 100, 111, 109, 97, 105, 110, 61, 44, 32, 116, 97, 114, 103, 101, 116, 61, y3, 93]
abbrev oW0 (y0 y3 : Int32) : List Value := ((oL0 y0 y3).map StrChars.lo8).map Value.int
theorem own_w0 (y0 y3 : Int32) : [.int 65, .int 99, .int 99, .int 111, .int 117, .int 110, .int 116, .int 91, .int 117, .int 115, .int 101, .int 114, .int 61, .int (oB y0), .int 44, .int 32, .int 100, .int 111, .int 109, .int 97, .int 105, .int 110, .int 61, .int 44, .int 32, .int 116, .int 97, .int 114, .int 103, .int 101, .int 116, .int 61, .int (oB y3), .int 93] = oW0 y0 y3 := rfl
theorem own_hp0 {y0 y3 : Int32} (hy0 : ¬ y0 < 0 ∧ ¬ (255 : Int32) < y0) (hy3 : ¬ y3 < 0 ∧ ¬ (255 : Int32) < y3) : ∀ c ∈ oL0 y0 y3, ¬ c < 0 ∧ ¬ (255 : Int32) < c := by
  intro c hc
  simp only [oL0, List.mem_cons, List.not_mem_nil, or_false] at hc
  rcases hc with rfl | rfl | rfl | rfl | rfl | rfl | rfl | rfl | rfl | rfl | rfl | rfl | rfl | rfl | rfl | rfl | rfl | rfl | rfl | rfl | rfl | rfl | rfl | rfl | rfl | rfl | rfl | rfl | rfl | rfl | rfl | rfl | rfl | rfl <;> first | assumption | decide
abbrev oL1 (y0 y2 y3 : Int32) : List Int32 := [65, 99, 99, 111, 117, 110, 116, 91, 117, 115, 101, 114, 61, y0, 44, 32, 100, 111, 109, 97, 105, 110, 61, y2, 44, 32, 116, 97, 114, 103, 101, 116, 61, y3, 93]
abbrev oW1 (y0 y2 y3 : Int32) : List Value := ((oL1 y0 y2 y3).map StrChars.lo8).map Value.int
theorem own_w1 (y0 y2 y3 : Int32) : [.int 65, .int 99, .int 99, .int 111, .int 117, .int 110, .int 116, .int 91, .int 117, .int 115, .int 101, .int 114, .int 61, .int (oB y0), .int 44, .int 32, .int 100, .int 111, .int 109, .int 97, .int 105, .int 110, .int 61, .int (oB y2), .int 44, .int 32, .int 116, .int 97, .int 114, .int 103, .int 101, .int 116, .int 61, .int (oB y3), .int 93] = oW1 y0 y2 y3 := rfl
theorem own_hp1 {y0 y2 y3 : Int32} (hy0 : ¬ y0 < 0 ∧ ¬ (255 : Int32) < y0) (hy2 : ¬ y2 < 0 ∧ ¬ (255 : Int32) < y2) (hy3 : ¬ y3 < 0 ∧ ¬ (255 : Int32) < y3) : ∀ c ∈ oL1 y0 y2 y3, ¬ c < 0 ∧ ¬ (255 : Int32) < c := by
  intro c hc
  simp only [oL1, List.mem_cons, List.not_mem_nil, or_false] at hc
  rcases hc with rfl | rfl | rfl | rfl | rfl | rfl | rfl | rfl | rfl | rfl | rfl | rfl | rfl | rfl | rfl | rfl | rfl | rfl | rfl | rfl | rfl | rfl | rfl | rfl | rfl | rfl | rfl | rfl | rfl | rfl | rfl | rfl | rfl | rfl | rfl <;> first | assumption | decide
theorem w_0 {Z : State} {a0 : Array Value} (hw : HW Z a0) : (Jvm.Cond.classLink "com/example/upright_harness/uprightharness/AccountToStringPinLaw" (15 : Nat) "com/example/upright_harness/uprightharness/Account").before a0 Z = true := hw _ (List.mem_of_getElem? (i := 0) rfl)
theorem w_2 {Z : State} {a0 : Array Value} (hw : HW Z a0) : (Jvm.Cond.initialized "com/example/upright_harness/uprightharness/Account").before a0 Z = true := hw _ (List.mem_of_getElem? (i := 2) rfl)
theorem w_3 {Z : State} {a0 : Array Value} (hw : HW Z a0) : (Jvm.Cond.methodLink "com/example/upright_harness/uprightharness/AccountToStringPinLaw" (9 : Nat) m_4).before a0 Z = true := hw _ (List.mem_of_getElem? (i := 3) rfl)
theorem w_6 {Z : State} {a0 : Array Value} (hw : HW Z a0) : (Jvm.Cond.code m_4 jdk_42_method_139_code (1 : Nat) (Option.some (FieldType.object "java/lang/String"))).before a0 Z = true := hw _ (List.mem_of_getElem? (i := 6) rfl)
theorem pd_25 : parseMethodDescriptor "(C)Ljava/lang/String;" = some ⟨[.char], some (.object "java/lang/String")⟩ := by decide +kernel
theorem w_4 {Z : State} {a0 : Array Value} (hw : HW Z a0) : (Jvm.Cond.static m_4).before a0 Z = true := hw _ (List.mem_of_getElem? (i := 4) rfl)
theorem w_29 {Z : State} {a0 : Array Value} (hw : HW Z a0) : (Jvm.Cond.methodLink "com/example/upright_harness/uprightharness/AccountToStringPinLaw" (17 : Nat) m_35).before a0 Z = true := hw _ (List.mem_of_getElem? (i := 29) rfl)
theorem w_31 {Z : State} {a0 : Array Value} (hw : HW Z a0) : (Jvm.Cond.code m_35 prog_1_method_1_code (5 : Nat) (Option.none : Option Jvm.ClassFile.FieldType)).before a0 Z = true := hw _ (List.mem_of_getElem? (i := 31) rfl)
theorem pd_26 : parseMethodDescriptor "(Ljava/lang/String;Ljava/lang/String;Ljava/lang/String;Ljava/lang/String;)V" = some ⟨[(.object "java/lang/String"), (.object "java/lang/String"), (.object "java/lang/String"), (.object "java/lang/String")], none⟩ := by decide +kernel
theorem w_30 {Z : State} {a0 : Array Value} (hw : HW Z a0) : (Jvm.Cond.instanceMethod m_35).before a0 Z = true := hw _ (List.mem_of_getElem? (i := 30) rfl)
theorem w_51 {Z : State} {a0 : Array Value} (hw : HW Z a0) : (Jvm.Cond.methodLink "com/example/upright_harness/uprightharness/AccountToStringPinLaw" (20 : Nat) m_36).before a0 Z = true := hw _ (List.mem_of_getElem? (i := 51) rfl)
theorem w_55 {Z : State} {a0 : Array Value} (hw : HW Z a0) : (Jvm.Cond.code m_36 prog_1_method_6_code (2 : Nat) (Option.some (FieldType.object "java/lang/String"))).before a0 Z = true := hw _ (List.mem_of_getElem? (i := 55) rfl)
theorem w_54 {Z : State} {a0 : Array Value} (hw : HW Z a0) : (Jvm.Cond.selects "com/example/upright_harness/uprightharness/Account" m_36 m_36).before a0 Z = true := hw _ (List.mem_of_getElem? (i := 54) rfl)
theorem w_52 {Z : State} {a0 : Array Value} (hw : HW Z a0) : (Jvm.Cond.declares m_36).before a0 Z = true := hw _ (List.mem_of_getElem? (i := 52) rfl)
theorem w_53 {Z : State} {a0 : Array Value} (hw : HW Z a0) : (Jvm.Cond.instanceMethod m_36).before a0 Z = true := hw _ (List.mem_of_getElem? (i := 53) rfl)
theorem w_185 {Z : State} {a0 : Array Value} (hw : HW Z a0) : (Jvm.Cond.arrayClass FieldType.char).before a0 Z = true := hw _ (List.mem_of_getElem? (i := 185) rfl)
theorem w_186 {Z : State} {a0 : Array Value} (hw : HW Z a0) : (Jvm.Cond.classLink "com/example/upright_harness/uprightharness/AccountToStringPinLaw" (10 : Nat) "java/lang/String").before a0 Z = true := hw _ (List.mem_of_getElem? (i := 186) rfl)
abbrev m_37 : MethodName := (⟨"java/lang/String", "<init>", "([C)V"⟩ : MethodName)
theorem w_187 {Z : State} {a0 : Array Value} (hw : HW Z a0) : (Jvm.Cond.methodLink "com/example/upright_harness/uprightharness/AccountToStringPinLaw" (24 : Nat) m_37).before a0 Z = true := hw _ (List.mem_of_getElem? (i := 187) rfl)
theorem w_189 {Z : State} {a0 : Array Value} (hw : HW Z a0) : (Jvm.Cond.code m_37 jdk_42_method_3_code (2 : Nat) (Option.none : Option Jvm.ClassFile.FieldType)).before a0 Z = true := hw _ (List.mem_of_getElem? (i := 189) rfl)
theorem pd_27 : parseMethodDescriptor "([C)V" = some ⟨[(.array .char)], none⟩ := by decide +kernel
theorem w_188 {Z : State} {a0 : Array Value} (hw : HW Z a0) : (Jvm.Cond.instanceMethod m_37).before a0 Z = true := hw _ (List.mem_of_getElem? (i := 188) rfl)
abbrev m_38 : MethodName := (⟨"java/lang/String", "equals", "(Ljava/lang/Object;)Z"⟩ : MethodName)
theorem w_203 {Z : State} {a0 : Array Value} (hw : HW Z a0) : (Jvm.Cond.methodLink "com/example/upright_harness/uprightharness/AccountToStringPinLaw" (27 : Nat) m_38).before a0 Z = true := hw _ (List.mem_of_getElem? (i := 203) rfl)
theorem w_207 {Z : State} {a0 : Array Value} (hw : HW Z a0) : (Jvm.Cond.code m_38 jdk_42_method_66_code (3 : Nat) (Option.some FieldType.boolean)).before a0 Z = true := hw _ (List.mem_of_getElem? (i := 207) rfl)
theorem pd_28 : parseMethodDescriptor "(Ljava/lang/Object;)Z" = some ⟨[(.object "java/lang/Object")], some .boolean⟩ := by decide +kernel
theorem w_206 {Z : State} {a0 : Array Value} (hw : HW Z a0) : (Jvm.Cond.selects "java/lang/String" m_38 m_38).before a0 Z = true := hw _ (List.mem_of_getElem? (i := 206) rfl)
theorem w_204 {Z : State} {a0 : Array Value} (hw : HW Z a0) : (Jvm.Cond.declares m_38).before a0 Z = true := hw _ (List.mem_of_getElem? (i := 204) rfl)
theorem w_205 {Z : State} {a0 : Array Value} (hw : HW Z a0) : (Jvm.Cond.instanceMethod m_38).before a0 Z = true := hw _ (List.mem_of_getElem? (i := 205) rfl)
theorem pn_10 : plainName "com/example/upright_harness/uprightharness/AccountToStringPinLaw" = true := by first | (simp [plainName, overriddenIn]; done) | decide +kernel
theorem ef_18 (m : MethodId) (x0 : Int32) (x1 : Int32) (x2 : Int32) (x3 : Int32) (x4 : Int32) : entryFrame m #[(.int x0), (.int x1), (.int x2), (.int x3), (.int x4)] maxLocals = mkF m 0 #[vI x0, vI x1, vI x2, vI x3, vI x4, .unset, .unset, .unset, .unset, .unset, .unset, .unset, .unset, .unset] [] := by first | (simp [entryFrame, mkF, argsToLocals, Value.category, maxLocals]; done) | rfl
def Q_law (Z : State) (p0 : Int32) (p1 : Int32) (p2 : Int32) (p3 : Int32) (p4 : Int32) (cp : Int32) (h0 : Heap) (n0 : Nat) (v : Option Value) (h : Heap) (L : List Loc) : Prop := v = some (.int 1) ∧ Fr n0 L
theorem rm_law_N (l : Launch) (Z : State) (a0 : Array Value) (hw : HW Z a0) (ws : List Jvm.Cond) (p0 : Int32) (p1 : Int32) (p2 : Int32) (p3 : Int32) (p4 : Int32) (cp : Int32) (h0 : Heap) (n0 : Nat) (Z0 : n0 ≤ h0.size) (P0 : Old Z n0 h0) (P1 : sta0 Z (.int cp)) (hcs : ¬ (cp = (0 : Int32))) (hc40 : (p4 &&& (3 : Int32)) = (0 : Int32)) :
    MetFree l x (head1 (Jvm.Cond.code x code maxLocals ret :: ws) room_1) (fun as' U => as' = #[(.int p0), (.int p1), (.int p2), (.int p3), (.int p4)] ∧ Z.Warmed39 U.vm ∧ U.heap = h0 ∧ CHv Z own_EL U.vm h0) (fun _ _ _ _ _ => True) (fun _ U o U' => ∃ v L, o = .returned v ∧ Q_law Z p0 p1 p2 p3 p4 cp h0 n0 v U'.heap L ∧ ReturnedEndW U o U' L room_1.cells room_1.slots) := by
  refine MetFree.of_bodySF (plainFor_of_name pn_10) hisR ?_
  intro p e s m args below meth c s₁ Bd hml0 hP hK
  obtain ⟨rfl, hZ, hh, hCH⟩ := hP
  have hx := Bd.exec
  have hby := Bd.bytes
  have hml : c.maxLocals = 14 := hml0
  have hown : (s.setVm s.vm).vm.findClass "com/example/upright_harness/uprightharness/AccountToStringPinLaw" = some m.cls := findClass_of_methodNamed Bd.named
  have hnm := (name_of_methodNamed Bd.named Bd.method).1
  have X0 : Stand p l e room_1 (s.setVm s.vm) m #[(.int p0), (.int p1), (.int p2), (.int p3), (.int p4)] below meth c s₁ [] 0 0 := Stand.of_body Bd
  have e0 : s₁.heap = h0 := by rw [← hh, Bd.state]; rfl
  have N0 := Fr.nil n0
  have hZ : Z.Warmed39 (s.setVm s.vm).vm := hZ
  have hS0 : s.Since s.vm h0.size := (State.WarmedH.refl s).since _
  have hk0 : h0.size ≤ h0.size := Nat.le_refl _
  have C0 : CHr Z own_EL s.vm h0 s.vm h0 := CHr.refl hCH
  obtain ⟨T1, h1, X1, e1, E1, A1, D1, -, st1⟩ := newO X0 hx hZ hown (w_0 hw) (w_1 hw) (w_2 hw) e0 (g := (mkF m 69 #[vI p0, vI p1, vI p2, vI p3, vI p4, .val (.int (oC p0)), .val (.int (oC p1)), .val (.int (oC p2)), .val (.int (oC p3)), .val (.int (p4 &&& (3 : Int32))), .val .null, .unset, .unset, .unset] [])) rfl (hb hby at_69) (by decide) (by decide)
  obtain ⟨b1, g1⟩ : ∃ z, z = h0.size := ⟨_, rfl⟩
  rw [← g1] at A1 D1 st1
  have z1 := E1.1
  have C1 := C0.trans (CHr.ext E1 C0.1)
  have lt2 := own_l A1.lt
  have F1_42 : Fld Z h1 b1 "com/example/upright_harness/uprightharness/Account" "user" "Ljava/lang/String;" .null := D1 (Or.inr (w_42 hw)) (ty := (.object "java/lang/String")) (by decide)
  have F1_45 : Fld Z h1 b1 "com/example/upright_harness/uprightharness/Account" "password" "Ljava/lang/String;" .null := D1 (Or.inr (w_45 hw)) (ty := (.object "java/lang/String")) (by decide)
  have F1_47 : Fld Z h1 b1 "com/example/upright_harness/uprightharness/Account" "domain" "Ljava/lang/String;" .null := D1 (Or.inr (w_47 hw)) (ty := (.object "java/lang/String")) (by decide)
  have F1_50 : Fld Z h1 b1 "com/example/upright_harness/uprightharness/Account" "target" "Ljava/lang/String;" .null := D1 (Or.inr (w_50 hw)) (ty := (.object "java/lang/String")) (by decide)
  have f4 := P0.ext E1
  obtain ⟨_, _, ⟨T3, L3, k3, n3⟩, -, X3, ⟨Lc3, hQ3, l3, y3, z3⟩, st3⟩ := Jvm.LawKit.callS X1 hx (y := m_4) hown (mvT hZ (w_3 hw)) (mvT hZ (w_4 hw)) (mvT hZ (w_5 hw)) (mvT hZ (w_6 hw)) (by decide) (backOf (W := 2) (rm_valueC l Z a0 hw [] ((oC p0)) cp h1 n0 (by omega) f4 P1 hcs (own_ch p0).2) hZ (w_6 hw) (w_5 hw) (by decide) (by decide)) (g := (mkF m 75 #[vI p0, vI p1, vI p2, vI p3, vI p4, .val (.int (oC p0)), .val (.int (oC p1)), .val (.int (oC p2)), .val (.int (oC p3)), .val (.int (p4 &&& (3 : Int32))), .val .null, .unset, .unset, .unset] [(.int (oC p0)), (.ref b1), (.ref b1)])) rfl (by rw [hml]; rfl) (argsL := [(.int (oC p0))]) (rest := [(.ref b1), (.ref b1)]) (lenOf pd_25 rfl) rfl (Nat.le_of_eq rfl) (hb hby at_75) (fun _ _ => ⟨rfl, e1, (by decide : 1 + 2 ≤ _), (by decide : 4 + 5 ≤ _)⟩)
  dsimp only [Pt.U, Pt.locs, Pt.cells, Pt.slots] at X3 l3 y3 z3 st3 hQ3
  rw [l3, y3, z3] at X3
  obtain ⟨x3_a_, x3_b, x3_k, rfl, Nq3, Kq3, r3_0, r3_1, r3_2, r3_3, r3_4, r3_5, r3_6⟩ := hQ3
  have N3 := Fr.app N0 Nq3
  have C3 := C1.trans (CHr.keep Kq3 sf0 C1.1)
  have z3' := Kq3.1
  have sf3_0 : Safe Z own_EL s.vm T3.heap x3_a_ := Safe.keep Kq3 sf0 C1.1 (Safe.new (by omega))
  have sf3_1 : Safe Z own_EL s.vm T3.heap x3_b := Safe.keep Kq3 sf0 C1.1 (Safe.new (by omega))
  have lt5 := own_l r3_2.lt
  have lt6 := own_l r3_3.lt
  have lt7 := own_l r3_4.lt
  have lt8 := own_l r3_5.lt
  obtain ⟨_, _, ⟨T9, L9, k9, n9⟩, -, X9, ⟨Lc9, hQ9, l9, y9, z9⟩, st9⟩ := Jvm.LawKit.callS X3 hx (y := m_4) hown (mvT hZ (w_3 hw)) (mvT hZ (w_4 hw)) (mvT hZ (w_5 hw)) (mvT hZ (w_6 hw)) (by decide) (backOf (W := 3) (rm_valueC l Z a0 hw [] ((oC p1)) cp T3.heap n0 (by omega) r3_6 P1 hcs (own_ch p1).2) hZ (w_6 hw) (w_5 hw) (by decide) (by decide)) (g := (mkF m 80 #[vI p0, vI p1, vI p2, vI p3, vI p4, .val (.int (oC p0)), .val (.int (oC p1)), .val (.int (oC p2)), .val (.int (oC p3)), .val (.int (p4 &&& (3 : Int32))), .val .null, .unset, .unset, .unset] [(.int (oC p1)), (.ref x3_a_), (.ref b1), (.ref b1)])) rfl (by rw [hml]; rfl) (argsL := [(.int (oC p1))]) (rest := [(.ref x3_a_), (.ref b1), (.ref b1)]) (lenOf pd_25 rfl) rfl (Nat.le_of_eq rfl) (hb hby at_80) (fun _ _ => ⟨rfl, rfl, (by decide : 3 + 2 ≤ _), (by decide : 9 + 5 ≤ _)⟩)
  dsimp only [Pt.U, Pt.locs, Pt.cells, Pt.slots] at X9 l9 y9 z9 st9 hQ9
  rw [l9, y9, z9] at X9
  obtain ⟨x9_a_, x9_b, x9_k, rfl, Nq9, Kq9, r9_0, r9_1, r9_2, r9_3, r9_4, r9_5, r9_6⟩ := hQ9
  have N9 := Fr.app N3 Nq9
  have C9 := C3.trans (CHr.keep Kq9 sf0 C3.1)
  have z9' := Kq9.1
  have sf9_0 : Safe Z own_EL s.vm T9.heap x9_a_ := Safe.keep Kq9 sf0 C3.1 (Safe.new (by omega))
  have sf9_1 : Safe Z own_EL s.vm T9.heap x9_b := Safe.keep Kq9 sf0 C3.1 (Safe.new (by omega))
  have lt10 := own_l r9_2.lt
  have lt11 := own_l r9_3.lt
  have lt12 := own_l r9_4.lt
  have lt13 := own_l r9_5.lt
  obtain ⟨_, _, ⟨T14, L14, k14, n14⟩, -, X14, ⟨Lc14, hQ14, l14, y14, z14⟩, st14⟩ := Jvm.LawKit.callS X9 hx (y := m_4) hown (mvT hZ (w_3 hw)) (mvT hZ (w_4 hw)) (mvT hZ (w_5 hw)) (mvT hZ (w_6 hw)) (by decide) (backOf (W := 5) (rm_valueC l Z a0 hw [] ((oC p3)) cp T9.heap n0 (by omega) r9_6 P1 hcs (own_ch p3).2) hZ (w_6 hw) (w_5 hw) (by decide) (by decide)) (g := (mkF m 87 #[vI p0, vI p1, vI p2, vI p3, vI p4, .val (.int (oC p0)), .val (.int (oC p1)), .val (.int (oC p2)), .val (.int (oC p3)), .val (.int (p4 &&& (3 : Int32))), .val .null, .unset, .unset, .unset] [(.int (oC p3)), .null, (.ref x9_a_), (.ref x3_a_), (.ref b1), (.ref b1)])) rfl (by rw [hml]; rfl) (argsL := [(.int (oC p3))]) (rest := [.null, (.ref x9_a_), (.ref x3_a_), (.ref b1), (.ref b1)]) (lenOf pd_25 rfl) rfl (Nat.le_of_eq rfl) (hb hby at_87) (fun _ _ => ⟨rfl, rfl, (by decide : 5 + 2 ≤ _), (by decide : 14 + 5 ≤ _)⟩)
  dsimp only [Pt.U, Pt.locs, Pt.cells, Pt.slots] at X14 l14 y14 z14 st14 hQ14
  rw [l14, y14, z14] at X14
  obtain ⟨x14_a_, x14_b, x14_k, rfl, Nq14, Kq14, r14_0, r14_1, r14_2, r14_3, r14_4, r14_5, r14_6⟩ := hQ14
  have N14 := Fr.app N9 Nq14
  have C14 := C9.trans (CHr.keep Kq14 sf0 C9.1)
  have z14' := Kq14.1
  have sf14_0 : Safe Z own_EL s.vm T14.heap x14_a_ := Safe.keep Kq14 sf0 C9.1 (Safe.new (by omega))
  have sf14_1 : Safe Z own_EL s.vm T14.heap x14_b := Safe.keep Kq14 sf0 C9.1 (Safe.new (by omega))
  have lt15 := own_l r14_2.lt
  have lt16 := own_l r14_3.lt
  have lt17 := own_l r14_4.lt
  have lt18 := own_l r14_5.lt
  have f20 := A1.keep Kq3
  have f21 := f20.keep Kq9
  have f22 := f21.keep Kq14
  have f23 := F1_42.keep Kq3 nin0
  have f24 := f23.keep Kq9 nin0
  have f25 := f24.keep Kq14 nin0
  have f26 := F1_45.keep Kq3 nin0
  have f27 := f26.keep Kq9 nin0
  have f28 := f27.keep Kq14 nin0
  have f29 := F1_47.keep Kq3 nin0
  have f30 := f29.keep Kq9 nin0
  have f31 := f30.keep Kq14 nin0
  have f32 := F1_50.keep Kq3 nin0
  have f33 := f32.keep Kq9 nin0
  have f34 := f33.keep Kq14 nin0
  have f35 := r3_2.keep Kq9
  have f36 := f35.keep Kq14
  have f37 := r9_2.keep Kq14
  obtain ⟨_, _, ⟨T19, L19, k19, n19⟩, -, X19, hSb19, hgr19, ⟨Lc19, hQ19, l19, y19, z19, Cs19⟩, st19⟩ := X14.specialBackS hx (y := m_35) rfl hown (mvT hZ (w_29 hw)) (mvT hZ (w_30 hw)) (mvT hZ (w_31 hw)) (by decide) (backOfSH (W := 1) (rm_acci l Z a0 hw [] b1 x3_a_ x9_a_ (.null) x14_a_ T14.heap n0 (by omega) f22 f25 f28 f31 f34 (by omega) f36 f37 r14_2 rfl) hZ (w_31 hw) (w_2 hw) (by decide) (by decide) (own_EW hw) C14.1) (g := (mkF m 90 #[vI p0, vI p1, vI p2, vI p3, vI p4, .val (.int (oC p0)), .val (.int (oC p1)), .val (.int (oC p2)), .val (.int (oC p3)), .val (.int (p4 &&& (3 : Int32))), .val .null, .unset, .unset, .unset] [(.ref x14_a_), .null, (.ref x9_a_), (.ref x3_a_), (.ref b1), (.ref b1)])) rfl (by rw [hml]; rfl) (Steps.refl _) (a := b1) (argsL := [(.ref x3_a_), (.ref x9_a_), .null, (.ref x14_a_)]) (rest := [(.ref b1)]) (lenOf pd_26 rfl) rfl (Nat.le_of_eq rfl) (hb hby at_90) (fun _ _ => ⟨rfl, rfl, (by decide : 7 + 6 ≤ _), (by decide : 19 + 84 ≤ _)⟩)
  dsimp only [Pt.U, Pt.locs, Pt.cells, Pt.slots] at X19 l19 y19 z19 st19 hQ19 hSb19 hgr19 Cs19
  rw [l19, y19, z19] at X19
  obtain ⟨X19, hS19, hZ19, hown19⟩ := rebS hS0 (by omega) X19 hSb19 hgr19 hZ hown
  have hk19 : T19.heap.size ≤ T19.heap.size := Nat.le_refl _
  obtain ⟨rfl, Nq19, Kq19, r19_0, r19_1, r19_2, r19_3⟩ := hQ19
  have N19 := Fr.app N14 Nq19
  have C19 := C14.trans Cs19
  have z19' := Kq19.1
  have lt38 := own_l r19_0.lt
  have lt39 := own_l r19_1.lt
  have lt40 := own_l r19_2.lt
  have lt41 := own_l r19_3.lt
  have f43 := r14_6.keep Kq19 (allS (by omega) all0)
  have f44 := f36.keep Kq19
  have f45 := r3_4.keep Kq9 nin0
  have f46 := f45.keep Kq14 nin0
  have f47 := f46.keep Kq19 (ninS (own_ne (by omega)) nin0)
  have f48 := r3_3.keep Kq9 nin0
  have f49 := f48.keep Kq14 nin0
  have f50 := f49.keep Kq19 (ninS (own_ne (by omega)) nin0)
  have f51 := r3_5.keep Kq9 nin0
  have f52 := f51.keep Kq14 nin0
  have f53 := f52.keep Kq19 (ninS (own_ne (by omega)) nin0)
  have f54 := r14_2.keep Kq19
  have f55 := r14_4.keep Kq19 (ninS (own_ne (by omega)) nin0)
  have f56 := r14_3.keep Kq19 (ninS (own_ne (by omega)) nin0)
  have f57 := r14_5.keep Kq19 (ninS (own_ne (by omega)) nin0)
  obtain ⟨cq42, kq42, qa42, qb42, qc42⟩ := isOf hZ19 rfl r19_0
  obtain ⟨_, _, ⟨T42, L42, k42, n42⟩, -, X42, hSb42, hgr42, ⟨Lc42, hQ42, l42, y42, z42, Cs42⟩, st42⟩ := X19.virtualBackS hx (y := m_36) (z := m_36) hown19 (mvT hZ19 (w_51 hw)) (mvT hZ19 (w_52 hw)) (notFace_of_selects (args := #[]) (mvT hZ19 (w_54 hw))) (mvT hZ19 (w_54 hw)) (mvT hZ19 (w_53 hw)) (by decide) (backOfSH (W := 0) (rm_tsN l Z a0 hw [] b1 cp x3_a_ x3_b x3_k x14_a_ x14_b x14_k ((oB (oC p0))) ((oB (oC p3))) T19.heap n0 (by omega) f43 P1 r19_0 r19_1 r19_2 r19_3 f44 f47 f50 f53 f54 f55 f56 f57 hcs) hZ19 (w_55 hw) (w_2 hw) (by decide) (by decide) (own_EW hw) C19.1) qa42 qc42 (g := (mkF m 97 #[vI p0, vI p1, vI p2, vI p3, vI p4, .val (.int (oC p0)), .val (.int (oC p1)), .val (.int (oC p2)), .val (.int (oC p3)), .val (.int (p4 &&& (3 : Int32))), .val .null, vA b1, .unset, .unset] [(.ref b1)])) rfl (by rw [hml]; rfl) (Steps.refl _) (argsL := []) (rest := []) (lenOf pd_24 rfl) rfl (Nat.le_of_eq rfl) (hb hby at_97) (fun _ _ => ⟨rfl, rfl, (by decide : 13 + 8 ≤ _), (by decide : 103 + 193 ≤ _)⟩)
  dsimp only [Pt.U, Pt.locs, Pt.cells, Pt.slots] at X42 l42 y42 z42 st42 hQ42 hSb42 hgr42 Cs42
  rw [l42, y42, z42] at X42
  obtain ⟨X42, hS42, hZ42, hown42⟩ := rebS hS19 (by omega) X42 hSb42 hgr42 hZ19 hown19
  have hk42 : T42.heap.size ≤ T42.heap.size := Nat.le_refl _
  obtain ⟨x42_r, x42_b, x42_k, rfl, Nq42, Kq42, r42_0, r42_1, r42_2, r42_3⟩ := hQ42
  have N42 := Fr.app N19 Nq42
  have C42 := C19.trans Cs42
  have z42' := Kq42.1
  have lt58 := own_l r42_0.lt
  have lt59 := own_l r42_1.lt
  have lt60 := own_l r42_2.lt
  have lt61 := own_l r42_3.lt
  have V62 : Arv Z T42.heap x42_b x42_k .byte (25 : Int32) (oWN (oC p0) (oC p3)) (.int 0) := own_wN (oC p0) (oC p3) ▸ r42_3
  obtain ⟨T63, h63, k63, X63, e63, E63, A63, st63⟩ := newP X42 hx hZ42 (aty := .char) (w_185 hw) rfl (g := (mkF m 109 #[vI p0, vI p1, vI p2, vI p3, vI p4, .val (.int (oC p0)), .val (.int (oC p1)), .val (.int (oC p2)), .val (.int (oC p3)), .val (.int (p4 &&& (3 : Int32))), .val .null, vA b1, vA x42_r, .unset] [(.int 25)])) rfl (hb hby at_109) rfl (by decide) (cap := 25) (by decide) (by decide) (by decide) (by decide)
  obtain ⟨b63, g63⟩ : ∃ z, z = T42.heap.size := ⟨_, rfl⟩
  rw [← g63] at A63 st63
  have z63 := E63.1
  have V63 : Arv Z h63 b63 k63 .char (25 : Int32) [(.int 0), (.int 0), (.int 0), (.int 0), (.int 0), (.int 0), (.int 0), (.int 0), (.int 0), (.int 0), (.int 0), (.int 0), (.int 0), (.int 0), (.int 0), (.int 0), (.int 0), (.int 0), (.int 0), (.int 0), (.int 0), (.int 0), (.int 0), (.int 0), (.int 0)] (.int 0) := (Arv.new A63 (by decide)).pad (pad_rep [] (.int 0) 25)
  have lt64 := own_l V63.lt
  obtain ⟨cl65, Ar65, q65, S65, M65, H65, G65⟩ := id V63
  have hin65 : ¬ ((0 : Int32) < 0 ∨ cl65.slots.size ≤ ((0 : Int32)).toNatClampNeg) := inb_of S65 ⟨by decide, by decide⟩
  obtain ⟨T65, h65, X65, e65, W65, st65⟩ := stC X63 hx hZ42 e63 Ar65 (j := (0 : Int32)) hin65 (g := (mkF m 115 #[vI p0, vI p1, vI p2, vI p3, vI p4, .val (.int (oC p0)), .val (.int (oC p1)), .val (.int (oC p2)), .val (.int (oC p3)), .val (.int (p4 &&& (3 : Int32))), .val .null, vA b1, vA x42_r, .unset] [(.int 65), (.int 0), (.ref b63), (.ref b63)])) rfl rfl (hb hby at_115)
  have V65 : Arv Z h65 b63 k63 .char (25 : Int32) [(.int 65), (.int 0), (.int 0), (.int 0), (.int 0), (.int 0), (.int 0), (.int 0), (.int 0), (.int 0), (.int 0), (.int 0), (.int 0), (.int 0), (.int 0), (.int 0), (.int 0), (.int 0), (.int 0), (.int 0), (.int 0), (.int 0), (.int 0), (.int 0), (.int 0)] (.int 0) := Arv.set Ar65 q65 S65 M65 H65 G65 (fits_nar_char (65 : Int32)) W65 0 rfl (Nat.le_of_ble_eq_true rfl)
  have z65 := W65.size
  have N65 := Fr.snoc X65 N42 (by omega)
  obtain ⟨cl66, Ar66, q66, S66, M66, H66, G66⟩ := id V65
  have hin66 : ¬ ((1 : Int32) < 0 ∨ cl66.slots.size ≤ ((1 : Int32)).toNatClampNeg) := inb_of S66 ⟨by decide, by decide⟩
  obtain ⟨T66, h66, X66, e66, W66, st66⟩ := stC X65 hx hZ42 e65 Ar66 (j := (1 : Int32)) hin66 (g := (mkF m 120 #[vI p0, vI p1, vI p2, vI p3, vI p4, .val (.int (oC p0)), .val (.int (oC p1)), .val (.int (oC p2)), .val (.int (oC p3)), .val (.int (p4 &&& (3 : Int32))), .val .null, vA b1, vA x42_r, .unset] [(.int 99), (.int 1), (.ref b63), (.ref b63)])) rfl rfl (hb hby at_120)
  have V66 : Arv Z h66 b63 k63 .char (25 : Int32) [(.int 65), (.int 99), (.int 0), (.int 0), (.int 0), (.int 0), (.int 0), (.int 0), (.int 0), (.int 0), (.int 0), (.int 0), (.int 0), (.int 0), (.int 0), (.int 0), (.int 0), (.int 0), (.int 0), (.int 0), (.int 0), (.int 0), (.int 0), (.int 0), (.int 0)] (.int 0) := Arv.set Ar66 q66 S66 M66 H66 G66 (fits_nar_char (99 : Int32)) W66 1 rfl (Nat.le_of_ble_eq_true rfl)
  have z66 := W66.size
  have N66 := Fr.snoc X66 N65 (by omega)
  obtain ⟨cl67, Ar67, q67, S67, M67, H67, G67⟩ := id V66
  have hin67 : ¬ ((2 : Int32) < 0 ∨ cl67.slots.size ≤ ((2 : Int32)).toNatClampNeg) := inb_of S67 ⟨by decide, by decide⟩
  obtain ⟨T67, h67, X67, e67, W67, st67⟩ := stC X66 hx hZ42 e66 Ar67 (j := (2 : Int32)) hin67 (g := (mkF m 125 #[vI p0, vI p1, vI p2, vI p3, vI p4, .val (.int (oC p0)), .val (.int (oC p1)), .val (.int (oC p2)), .val (.int (oC p3)), .val (.int (p4 &&& (3 : Int32))), .val .null, vA b1, vA x42_r, .unset] [(.int 99), (.int 2), (.ref b63), (.ref b63)])) rfl rfl (hb hby at_125)
  have V67 : Arv Z h67 b63 k63 .char (25 : Int32) [(.int 65), (.int 99), (.int 99), (.int 0), (.int 0), (.int 0), (.int 0), (.int 0), (.int 0), (.int 0), (.int 0), (.int 0), (.int 0), (.int 0), (.int 0), (.int 0), (.int 0), (.int 0), (.int 0), (.int 0), (.int 0), (.int 0), (.int 0), (.int 0), (.int 0)] (.int 0) := Arv.set Ar67 q67 S67 M67 H67 G67 (fits_nar_char (99 : Int32)) W67 2 rfl (Nat.le_of_ble_eq_true rfl)
  have z67 := W67.size
  have N67 := Fr.snoc X67 N66 (by omega)
  obtain ⟨cl68, Ar68, q68, S68, M68, H68, G68⟩ := id V67
  have hin68 : ¬ ((3 : Int32) < 0 ∨ cl68.slots.size ≤ ((3 : Int32)).toNatClampNeg) := inb_of S68 ⟨by decide, by decide⟩
  obtain ⟨T68, h68, X68, e68, W68, st68⟩ := stC X67 hx hZ42 e67 Ar68 (j := (3 : Int32)) hin68 (g := (mkF m 130 #[vI p0, vI p1, vI p2, vI p3, vI p4, .val (.int (oC p0)), .val (.int (oC p1)), .val (.int (oC p2)), .val (.int (oC p3)), .val (.int (p4 &&& (3 : Int32))), .val .null, vA b1, vA x42_r, .unset] [(.int 111), (.int 3), (.ref b63), (.ref b63)])) rfl rfl (hb hby at_130)
  have V68 : Arv Z h68 b63 k63 .char (25 : Int32) [(.int 65), (.int 99), (.int 99), (.int 111), (.int 0), (.int 0), (.int 0), (.int 0), (.int 0), (.int 0), (.int 0), (.int 0), (.int 0), (.int 0), (.int 0), (.int 0), (.int 0), (.int 0), (.int 0), (.int 0), (.int 0), (.int 0), (.int 0), (.int 0), (.int 0)] (.int 0) := Arv.set Ar68 q68 S68 M68 H68 G68 (fits_nar_char (111 : Int32)) W68 3 rfl (Nat.le_of_ble_eq_true rfl)
  have z68 := W68.size
  have N68 := Fr.snoc X68 N67 (by omega)
  obtain ⟨cl69, Ar69, q69, S69, M69, H69, G69⟩ := id V68
  have hin69 : ¬ ((4 : Int32) < 0 ∨ cl69.slots.size ≤ ((4 : Int32)).toNatClampNeg) := inb_of S69 ⟨by decide, by decide⟩
  obtain ⟨T69, h69, X69, e69, W69, st69⟩ := stC X68 hx hZ42 e68 Ar69 (j := (4 : Int32)) hin69 (g := (mkF m 135 #[vI p0, vI p1, vI p2, vI p3, vI p4, .val (.int (oC p0)), .val (.int (oC p1)), .val (.int (oC p2)), .val (.int (oC p3)), .val (.int (p4 &&& (3 : Int32))), .val .null, vA b1, vA x42_r, .unset] [(.int 117), (.int 4), (.ref b63), (.ref b63)])) rfl rfl (hb hby at_135)
  have V69 : Arv Z h69 b63 k63 .char (25 : Int32) [(.int 65), (.int 99), (.int 99), (.int 111), (.int 117), (.int 0), (.int 0), (.int 0), (.int 0), (.int 0), (.int 0), (.int 0), (.int 0), (.int 0), (.int 0), (.int 0), (.int 0), (.int 0), (.int 0), (.int 0), (.int 0), (.int 0), (.int 0), (.int 0), (.int 0)] (.int 0) := Arv.set Ar69 q69 S69 M69 H69 G69 (fits_nar_char (117 : Int32)) W69 4 rfl (Nat.le_of_ble_eq_true rfl)
  have z69 := W69.size
  have N69 := Fr.snoc X69 N68 (by omega)
  obtain ⟨cl70, Ar70, q70, S70, M70, H70, G70⟩ := id V69
  have hin70 : ¬ ((5 : Int32) < 0 ∨ cl70.slots.size ≤ ((5 : Int32)).toNatClampNeg) := inb_of S70 ⟨by decide, by decide⟩
  obtain ⟨T70, h70, X70, e70, W70, st70⟩ := stC X69 hx hZ42 e69 Ar70 (j := (5 : Int32)) hin70 (g := (mkF m 140 #[vI p0, vI p1, vI p2, vI p3, vI p4, .val (.int (oC p0)), .val (.int (oC p1)), .val (.int (oC p2)), .val (.int (oC p3)), .val (.int (p4 &&& (3 : Int32))), .val .null, vA b1, vA x42_r, .unset] [(.int 110), (.int 5), (.ref b63), (.ref b63)])) rfl rfl (hb hby at_140)
  have V70 : Arv Z h70 b63 k63 .char (25 : Int32) [(.int 65), (.int 99), (.int 99), (.int 111), (.int 117), (.int 110), (.int 0), (.int 0), (.int 0), (.int 0), (.int 0), (.int 0), (.int 0), (.int 0), (.int 0), (.int 0), (.int 0), (.int 0), (.int 0), (.int 0), (.int 0), (.int 0), (.int 0), (.int 0), (.int 0)] (.int 0) := Arv.set Ar70 q70 S70 M70 H70 G70 (fits_nar_char (110 : Int32)) W70 5 rfl (Nat.le_of_ble_eq_true rfl)
  have z70 := W70.size
  have N70 := Fr.snoc X70 N69 (by omega)
  obtain ⟨cl71, Ar71, q71, S71, M71, H71, G71⟩ := id V70
  have hin71 : ¬ ((6 : Int32) < 0 ∨ cl71.slots.size ≤ ((6 : Int32)).toNatClampNeg) := inb_of S71 ⟨by decide, by decide⟩
  obtain ⟨T71, h71, X71, e71, W71, st71⟩ := stC X70 hx hZ42 e70 Ar71 (j := (6 : Int32)) hin71 (g := (mkF m 146 #[vI p0, vI p1, vI p2, vI p3, vI p4, .val (.int (oC p0)), .val (.int (oC p1)), .val (.int (oC p2)), .val (.int (oC p3)), .val (.int (p4 &&& (3 : Int32))), .val .null, vA b1, vA x42_r, .unset] [(.int 116), (.int 6), (.ref b63), (.ref b63)])) rfl rfl (hb hby at_146)
  have V71 : Arv Z h71 b63 k63 .char (25 : Int32) [(.int 65), (.int 99), (.int 99), (.int 111), (.int 117), (.int 110), (.int 116), (.int 0), (.int 0), (.int 0), (.int 0), (.int 0), (.int 0), (.int 0), (.int 0), (.int 0), (.int 0), (.int 0), (.int 0), (.int 0), (.int 0), (.int 0), (.int 0), (.int 0), (.int 0)] (.int 0) := Arv.set Ar71 q71 S71 M71 H71 G71 (fits_nar_char (116 : Int32)) W71 6 rfl (Nat.le_of_ble_eq_true rfl)
  have z71 := W71.size
  have N71 := Fr.snoc X71 N70 (by omega)
  obtain ⟨cl72, Ar72, q72, S72, M72, H72, G72⟩ := id V71
  have hin72 : ¬ ((7 : Int32) < 0 ∨ cl72.slots.size ≤ ((7 : Int32)).toNatClampNeg) := inb_of S72 ⟨by decide, by decide⟩
  obtain ⟨T72, h72, X72, e72, W72, st72⟩ := stC X71 hx hZ42 e71 Ar72 (j := (7 : Int32)) hin72 (g := (mkF m 152 #[vI p0, vI p1, vI p2, vI p3, vI p4, .val (.int (oC p0)), .val (.int (oC p1)), .val (.int (oC p2)), .val (.int (oC p3)), .val (.int (p4 &&& (3 : Int32))), .val .null, vA b1, vA x42_r, .unset] [(.int 91), (.int 7), (.ref b63), (.ref b63)])) rfl rfl (hb hby at_152)
  have V72 : Arv Z h72 b63 k63 .char (25 : Int32) [(.int 65), (.int 99), (.int 99), (.int 111), (.int 117), (.int 110), (.int 116), (.int 91), (.int 0), (.int 0), (.int 0), (.int 0), (.int 0), (.int 0), (.int 0), (.int 0), (.int 0), (.int 0), (.int 0), (.int 0), (.int 0), (.int 0), (.int 0), (.int 0), (.int 0)] (.int 0) := Arv.set Ar72 q72 S72 M72 H72 G72 (fits_nar_char (91 : Int32)) W72 7 rfl (Nat.le_of_ble_eq_true rfl)
  have z72 := W72.size
  have N72 := Fr.snoc X72 N71 (by omega)
  obtain ⟨cl73, Ar73, q73, S73, M73, H73, G73⟩ := id V72
  have hin73 : ¬ ((8 : Int32) < 0 ∨ cl73.slots.size ≤ ((8 : Int32)).toNatClampNeg) := inb_of S73 ⟨by decide, by decide⟩
  obtain ⟨T73, h73, X73, e73, W73, st73⟩ := stC X72 hx hZ42 e72 Ar73 (j := (8 : Int32)) hin73 (g := (mkF m 158 #[vI p0, vI p1, vI p2, vI p3, vI p4, .val (.int (oC p0)), .val (.int (oC p1)), .val (.int (oC p2)), .val (.int (oC p3)), .val (.int (p4 &&& (3 : Int32))), .val .null, vA b1, vA x42_r, .unset] [(.int 117), (.int 8), (.ref b63), (.ref b63)])) rfl rfl (hb hby at_158)
  have V73 : Arv Z h73 b63 k63 .char (25 : Int32) [(.int 65), (.int 99), (.int 99), (.int 111), (.int 117), (.int 110), (.int 116), (.int 91), (.int 117), (.int 0), (.int 0), (.int 0), (.int 0), (.int 0), (.int 0), (.int 0), (.int 0), (.int 0), (.int 0), (.int 0), (.int 0), (.int 0), (.int 0), (.int 0), (.int 0)] (.int 0) := Arv.set Ar73 q73 S73 M73 H73 G73 (fits_nar_char (117 : Int32)) W73 8 rfl (Nat.le_of_ble_eq_true rfl)
  have z73 := W73.size
  have N73 := Fr.snoc X73 N72 (by omega)
  obtain ⟨cl74, Ar74, q74, S74, M74, H74, G74⟩ := id V73
  have hin74 : ¬ ((9 : Int32) < 0 ∨ cl74.slots.size ≤ ((9 : Int32)).toNatClampNeg) := inb_of S74 ⟨by decide, by decide⟩
  obtain ⟨T74, h74, X74, e74, W74, st74⟩ := stC X73 hx hZ42 e73 Ar74 (j := (9 : Int32)) hin74 (g := (mkF m 164 #[vI p0, vI p1, vI p2, vI p3, vI p4, .val (.int (oC p0)), .val (.int (oC p1)), .val (.int (oC p2)), .val (.int (oC p3)), .val (.int (p4 &&& (3 : Int32))), .val .null, vA b1, vA x42_r, .unset] [(.int 115), (.int 9), (.ref b63), (.ref b63)])) rfl rfl (hb hby at_164)
  have V74 : Arv Z h74 b63 k63 .char (25 : Int32) [(.int 65), (.int 99), (.int 99), (.int 111), (.int 117), (.int 110), (.int 116), (.int 91), (.int 117), (.int 115), (.int 0), (.int 0), (.int 0), (.int 0), (.int 0), (.int 0), (.int 0), (.int 0), (.int 0), (.int 0), (.int 0), (.int 0), (.int 0), (.int 0), (.int 0)] (.int 0) := Arv.set Ar74 q74 S74 M74 H74 G74 (fits_nar_char (115 : Int32)) W74 9 rfl (Nat.le_of_ble_eq_true rfl)
  have z74 := W74.size
  have N74 := Fr.snoc X74 N73 (by omega)
  obtain ⟨cl75, Ar75, q75, S75, M75, H75, G75⟩ := id V74
  have hin75 : ¬ ((10 : Int32) < 0 ∨ cl75.slots.size ≤ ((10 : Int32)).toNatClampNeg) := inb_of S75 ⟨by decide, by decide⟩
  obtain ⟨T75, h75, X75, e75, W75, st75⟩ := stC X74 hx hZ42 e74 Ar75 (j := (10 : Int32)) hin75 (g := (mkF m 170 #[vI p0, vI p1, vI p2, vI p3, vI p4, .val (.int (oC p0)), .val (.int (oC p1)), .val (.int (oC p2)), .val (.int (oC p3)), .val (.int (p4 &&& (3 : Int32))), .val .null, vA b1, vA x42_r, .unset] [(.int 101), (.int 10), (.ref b63), (.ref b63)])) rfl rfl (hb hby at_170)
  have V75 : Arv Z h75 b63 k63 .char (25 : Int32) [(.int 65), (.int 99), (.int 99), (.int 111), (.int 117), (.int 110), (.int 116), (.int 91), (.int 117), (.int 115), (.int 101), (.int 0), (.int 0), (.int 0), (.int 0), (.int 0), (.int 0), (.int 0), (.int 0), (.int 0), (.int 0), (.int 0), (.int 0), (.int 0), (.int 0)] (.int 0) := Arv.set Ar75 q75 S75 M75 H75 G75 (fits_nar_char (101 : Int32)) W75 10 rfl (Nat.le_of_ble_eq_true rfl)
  have z75 := W75.size
  have N75 := Fr.snoc X75 N74 (by omega)
  obtain ⟨cl76, Ar76, q76, S76, M76, H76, G76⟩ := id V75
  have hin76 : ¬ ((11 : Int32) < 0 ∨ cl76.slots.size ≤ ((11 : Int32)).toNatClampNeg) := inb_of S76 ⟨by decide, by decide⟩
  obtain ⟨T76, h76, X76, e76, W76, st76⟩ := stC X75 hx hZ42 e75 Ar76 (j := (11 : Int32)) hin76 (g := (mkF m 176 #[vI p0, vI p1, vI p2, vI p3, vI p4, .val (.int (oC p0)), .val (.int (oC p1)), .val (.int (oC p2)), .val (.int (oC p3)), .val (.int (p4 &&& (3 : Int32))), .val .null, vA b1, vA x42_r, .unset] [(.int 114), (.int 11), (.ref b63), (.ref b63)])) rfl rfl (hb hby at_176)
  have V76 : Arv Z h76 b63 k63 .char (25 : Int32) [(.int 65), (.int 99), (.int 99), (.int 111), (.int 117), (.int 110), (.int 116), (.int 91), (.int 117), (.int 115), (.int 101), (.int 114), (.int 0), (.int 0), (.int 0), (.int 0), (.int 0), (.int 0), (.int 0), (.int 0), (.int 0), (.int 0), (.int 0), (.int 0), (.int 0)] (.int 0) := Arv.set Ar76 q76 S76 M76 H76 G76 (fits_nar_char (114 : Int32)) W76 11 rfl (Nat.le_of_ble_eq_true rfl)
  have z76 := W76.size
  have N76 := Fr.snoc X76 N75 (by omega)
  obtain ⟨cl77, Ar77, q77, S77, M77, H77, G77⟩ := id V76
  have hin77 : ¬ ((12 : Int32) < 0 ∨ cl77.slots.size ≤ ((12 : Int32)).toNatClampNeg) := inb_of S77 ⟨by decide, by decide⟩
  obtain ⟨T77, h77, X77, e77, W77, st77⟩ := stC X76 hx hZ42 e76 Ar77 (j := (12 : Int32)) hin77 (g := (mkF m 182 #[vI p0, vI p1, vI p2, vI p3, vI p4, .val (.int (oC p0)), .val (.int (oC p1)), .val (.int (oC p2)), .val (.int (oC p3)), .val (.int (p4 &&& (3 : Int32))), .val .null, vA b1, vA x42_r, .unset] [(.int 61), (.int 12), (.ref b63), (.ref b63)])) rfl rfl (hb hby at_182)
  have V77 : Arv Z h77 b63 k63 .char (25 : Int32) [(.int 65), (.int 99), (.int 99), (.int 111), (.int 117), (.int 110), (.int 116), (.int 91), (.int 117), (.int 115), (.int 101), (.int 114), (.int 61), (.int 0), (.int 0), (.int 0), (.int 0), (.int 0), (.int 0), (.int 0), (.int 0), (.int 0), (.int 0), (.int 0), (.int 0)] (.int 0) := Arv.set Ar77 q77 S77 M77 H77 G77 (fits_nar_char (61 : Int32)) W77 12 rfl (Nat.le_of_ble_eq_true rfl)
  have z77 := W77.size
  have N77 := Fr.snoc X77 N76 (by omega)
  obtain ⟨cl78, Ar78, q78, S78, M78, H78, G78⟩ := id V77
  have hin78 : ¬ ((13 : Int32) < 0 ∨ cl78.slots.size ≤ ((13 : Int32)).toNatClampNeg) := inb_of S78 ⟨by decide, by decide⟩
  obtain ⟨T78, h78, X78, e78, W78, st78⟩ := stC X77 hx hZ42 e77 Ar78 (j := (13 : Int32)) hin78 (g := (mkF m 188 #[vI p0, vI p1, vI p2, vI p3, vI p4, .val (.int (oC p0)), .val (.int (oC p1)), .val (.int (oC p2)), .val (.int (oC p3)), .val (.int (p4 &&& (3 : Int32))), .val .null, vA b1, vA x42_r, .unset] [(.int (oC p0)), (.int 13), (.ref b63), (.ref b63)])) rfl rfl (hb hby at_188)
  have V78 : Arv Z h78 b63 k63 .char (25 : Int32) [(.int 65), (.int 99), (.int 99), (.int 111), (.int 117), (.int 110), (.int 116), (.int 91), (.int 117), (.int 115), (.int 101), (.int 114), (.int 61), (.int (nar .char (oC p0))), (.int 0), (.int 0), (.int 0), (.int 0), (.int 0), (.int 0), (.int 0), (.int 0), (.int 0), (.int 0), (.int 0)] (.int 0) := Arv.set Ar78 q78 S78 M78 H78 G78 (fits_nar_char (oC p0)) W78 13 rfl (Nat.le_of_ble_eq_true rfl)
  have z78 := W78.size
  have N78 := Fr.snoc X78 N77 (by omega)
  obtain ⟨cl79, Ar79, q79, S79, M79, H79, G79⟩ := id V78
  have hin79 : ¬ ((14 : Int32) < 0 ∨ cl79.slots.size ≤ ((14 : Int32)).toNatClampNeg) := inb_of S79 ⟨by decide, by decide⟩
  obtain ⟨T79, h79, X79, e79, W79, st79⟩ := stC X78 hx hZ42 e78 Ar79 (j := (14 : Int32)) hin79 (g := (mkF m 194 #[vI p0, vI p1, vI p2, vI p3, vI p4, .val (.int (oC p0)), .val (.int (oC p1)), .val (.int (oC p2)), .val (.int (oC p3)), .val (.int (p4 &&& (3 : Int32))), .val .null, vA b1, vA x42_r, .unset] [(.int 44), (.int 14), (.ref b63), (.ref b63)])) rfl rfl (hb hby at_194)
  have V79 : Arv Z h79 b63 k63 .char (25 : Int32) [(.int 65), (.int 99), (.int 99), (.int 111), (.int 117), (.int 110), (.int 116), (.int 91), (.int 117), (.int 115), (.int 101), (.int 114), (.int 61), (.int (nar .char (oC p0))), (.int 44), (.int 0), (.int 0), (.int 0), (.int 0), (.int 0), (.int 0), (.int 0), (.int 0), (.int 0), (.int 0)] (.int 0) := Arv.set Ar79 q79 S79 M79 H79 G79 (fits_nar_char (44 : Int32)) W79 14 rfl (Nat.le_of_ble_eq_true rfl)
  have z79 := W79.size
  have N79 := Fr.snoc X79 N78 (by omega)
  obtain ⟨cl80, Ar80, q80, S80, M80, H80, G80⟩ := id V79
  have hin80 : ¬ ((15 : Int32) < 0 ∨ cl80.slots.size ≤ ((15 : Int32)).toNatClampNeg) := inb_of S80 ⟨by decide, by decide⟩
  obtain ⟨T80, h80, X80, e80, W80, st80⟩ := stC X79 hx hZ42 e79 Ar80 (j := (15 : Int32)) hin80 (g := (mkF m 200 #[vI p0, vI p1, vI p2, vI p3, vI p4, .val (.int (oC p0)), .val (.int (oC p1)), .val (.int (oC p2)), .val (.int (oC p3)), .val (.int (p4 &&& (3 : Int32))), .val .null, vA b1, vA x42_r, .unset] [(.int 32), (.int 15), (.ref b63), (.ref b63)])) rfl rfl (hb hby at_200)
  have V80 : Arv Z h80 b63 k63 .char (25 : Int32) [(.int 65), (.int 99), (.int 99), (.int 111), (.int 117), (.int 110), (.int 116), (.int 91), (.int 117), (.int 115), (.int 101), (.int 114), (.int 61), (.int (nar .char (oC p0))), (.int 44), (.int 32), (.int 0), (.int 0), (.int 0), (.int 0), (.int 0), (.int 0), (.int 0), (.int 0), (.int 0)] (.int 0) := Arv.set Ar80 q80 S80 M80 H80 G80 (fits_nar_char (32 : Int32)) W80 15 rfl (Nat.le_of_ble_eq_true rfl)
  have z80 := W80.size
  have N80 := Fr.snoc X80 N79 (by omega)
  obtain ⟨cl81, Ar81, q81, S81, M81, H81, G81⟩ := id V80
  have hin81 : ¬ ((16 : Int32) < 0 ∨ cl81.slots.size ≤ ((16 : Int32)).toNatClampNeg) := inb_of S81 ⟨by decide, by decide⟩
  obtain ⟨T81, h81, X81, e81, W81, st81⟩ := stC X80 hx hZ42 e80 Ar81 (j := (16 : Int32)) hin81 (g := (mkF m 206 #[vI p0, vI p1, vI p2, vI p3, vI p4, .val (.int (oC p0)), .val (.int (oC p1)), .val (.int (oC p2)), .val (.int (oC p3)), .val (.int (p4 &&& (3 : Int32))), .val .null, vA b1, vA x42_r, .unset] [(.int 116), (.int 16), (.ref b63), (.ref b63)])) rfl rfl (hb hby at_206)
  have V81 : Arv Z h81 b63 k63 .char (25 : Int32) [(.int 65), (.int 99), (.int 99), (.int 111), (.int 117), (.int 110), (.int 116), (.int 91), (.int 117), (.int 115), (.int 101), (.int 114), (.int 61), (.int (nar .char (oC p0))), (.int 44), (.int 32), (.int 116), (.int 0), (.int 0), (.int 0), (.int 0), (.int 0), (.int 0), (.int 0), (.int 0)] (.int 0) := Arv.set Ar81 q81 S81 M81 H81 G81 (fits_nar_char (116 : Int32)) W81 16 rfl (Nat.le_of_ble_eq_true rfl)
  have z81 := W81.size
  have N81 := Fr.snoc X81 N80 (by omega)
  obtain ⟨cl82, Ar82, q82, S82, M82, H82, G82⟩ := id V81
  have hin82 : ¬ ((17 : Int32) < 0 ∨ cl82.slots.size ≤ ((17 : Int32)).toNatClampNeg) := inb_of S82 ⟨by decide, by decide⟩
  obtain ⟨T82, h82, X82, e82, W82, st82⟩ := stC X81 hx hZ42 e81 Ar82 (j := (17 : Int32)) hin82 (g := (mkF m 212 #[vI p0, vI p1, vI p2, vI p3, vI p4, .val (.int (oC p0)), .val (.int (oC p1)), .val (.int (oC p2)), .val (.int (oC p3)), .val (.int (p4 &&& (3 : Int32))), .val .null, vA b1, vA x42_r, .unset] [(.int 97), (.int 17), (.ref b63), (.ref b63)])) rfl rfl (hb hby at_212)
  have V82 : Arv Z h82 b63 k63 .char (25 : Int32) [(.int 65), (.int 99), (.int 99), (.int 111), (.int 117), (.int 110), (.int 116), (.int 91), (.int 117), (.int 115), (.int 101), (.int 114), (.int 61), (.int (nar .char (oC p0))), (.int 44), (.int 32), (.int 116), (.int 97), (.int 0), (.int 0), (.int 0), (.int 0), (.int 0), (.int 0), (.int 0)] (.int 0) := Arv.set Ar82 q82 S82 M82 H82 G82 (fits_nar_char (97 : Int32)) W82 17 rfl (Nat.le_of_ble_eq_true rfl)
  have z82 := W82.size
  have N82 := Fr.snoc X82 N81 (by omega)
  obtain ⟨cl83, Ar83, q83, S83, M83, H83, G83⟩ := id V82
  have hin83 : ¬ ((18 : Int32) < 0 ∨ cl83.slots.size ≤ ((18 : Int32)).toNatClampNeg) := inb_of S83 ⟨by decide, by decide⟩
  obtain ⟨T83, h83, X83, e83, W83, st83⟩ := stC X82 hx hZ42 e82 Ar83 (j := (18 : Int32)) hin83 (g := (mkF m 218 #[vI p0, vI p1, vI p2, vI p3, vI p4, .val (.int (oC p0)), .val (.int (oC p1)), .val (.int (oC p2)), .val (.int (oC p3)), .val (.int (p4 &&& (3 : Int32))), .val .null, vA b1, vA x42_r, .unset] [(.int 114), (.int 18), (.ref b63), (.ref b63)])) rfl rfl (hb hby at_218)
  have V83 : Arv Z h83 b63 k63 .char (25 : Int32) [(.int 65), (.int 99), (.int 99), (.int 111), (.int 117), (.int 110), (.int 116), (.int 91), (.int 117), (.int 115), (.int 101), (.int 114), (.int 61), (.int (nar .char (oC p0))), (.int 44), (.int 32), (.int 116), (.int 97), (.int 114), (.int 0), (.int 0), (.int 0), (.int 0), (.int 0), (.int 0)] (.int 0) := Arv.set Ar83 q83 S83 M83 H83 G83 (fits_nar_char (114 : Int32)) W83 18 rfl (Nat.le_of_ble_eq_true rfl)
  have z83 := W83.size
  have N83 := Fr.snoc X83 N82 (by omega)
  obtain ⟨cl84, Ar84, q84, S84, M84, H84, G84⟩ := id V83
  have hin84 : ¬ ((19 : Int32) < 0 ∨ cl84.slots.size ≤ ((19 : Int32)).toNatClampNeg) := inb_of S84 ⟨by decide, by decide⟩
  obtain ⟨T84, h84, X84, e84, W84, st84⟩ := stC X83 hx hZ42 e83 Ar84 (j := (19 : Int32)) hin84 (g := (mkF m 224 #[vI p0, vI p1, vI p2, vI p3, vI p4, .val (.int (oC p0)), .val (.int (oC p1)), .val (.int (oC p2)), .val (.int (oC p3)), .val (.int (p4 &&& (3 : Int32))), .val .null, vA b1, vA x42_r, .unset] [(.int 103), (.int 19), (.ref b63), (.ref b63)])) rfl rfl (hb hby at_224)
  have V84 : Arv Z h84 b63 k63 .char (25 : Int32) [(.int 65), (.int 99), (.int 99), (.int 111), (.int 117), (.int 110), (.int 116), (.int 91), (.int 117), (.int 115), (.int 101), (.int 114), (.int 61), (.int (nar .char (oC p0))), (.int 44), (.int 32), (.int 116), (.int 97), (.int 114), (.int 103), (.int 0), (.int 0), (.int 0), (.int 0), (.int 0)] (.int 0) := Arv.set Ar84 q84 S84 M84 H84 G84 (fits_nar_char (103 : Int32)) W84 19 rfl (Nat.le_of_ble_eq_true rfl)
  have z84 := W84.size
  have N84 := Fr.snoc X84 N83 (by omega)
  obtain ⟨cl85, Ar85, q85, S85, M85, H85, G85⟩ := id V84
  have hin85 : ¬ ((20 : Int32) < 0 ∨ cl85.slots.size ≤ ((20 : Int32)).toNatClampNeg) := inb_of S85 ⟨by decide, by decide⟩
  obtain ⟨T85, h85, X85, e85, W85, st85⟩ := stC X84 hx hZ42 e84 Ar85 (j := (20 : Int32)) hin85 (g := (mkF m 230 #[vI p0, vI p1, vI p2, vI p3, vI p4, .val (.int (oC p0)), .val (.int (oC p1)), .val (.int (oC p2)), .val (.int (oC p3)), .val (.int (p4 &&& (3 : Int32))), .val .null, vA b1, vA x42_r, .unset] [(.int 101), (.int 20), (.ref b63), (.ref b63)])) rfl rfl (hb hby at_230)
  have V85 : Arv Z h85 b63 k63 .char (25 : Int32) [(.int 65), (.int 99), (.int 99), (.int 111), (.int 117), (.int 110), (.int 116), (.int 91), (.int 117), (.int 115), (.int 101), (.int 114), (.int 61), (.int (nar .char (oC p0))), (.int 44), (.int 32), (.int 116), (.int 97), (.int 114), (.int 103), (.int 101), (.int 0), (.int 0), (.int 0), (.int 0)] (.int 0) := Arv.set Ar85 q85 S85 M85 H85 G85 (fits_nar_char (101 : Int32)) W85 20 rfl (Nat.le_of_ble_eq_true rfl)
  have z85 := W85.size
  have N85 := Fr.snoc X85 N84 (by omega)
  obtain ⟨cl86, Ar86, q86, S86, M86, H86, G86⟩ := id V85
  have hin86 : ¬ ((21 : Int32) < 0 ∨ cl86.slots.size ≤ ((21 : Int32)).toNatClampNeg) := inb_of S86 ⟨by decide, by decide⟩
  obtain ⟨T86, h86, X86, e86, W86, st86⟩ := stC X85 hx hZ42 e85 Ar86 (j := (21 : Int32)) hin86 (g := (mkF m 236 #[vI p0, vI p1, vI p2, vI p3, vI p4, .val (.int (oC p0)), .val (.int (oC p1)), .val (.int (oC p2)), .val (.int (oC p3)), .val (.int (p4 &&& (3 : Int32))), .val .null, vA b1, vA x42_r, .unset] [(.int 116), (.int 21), (.ref b63), (.ref b63)])) rfl rfl (hb hby at_236)
  have V86 : Arv Z h86 b63 k63 .char (25 : Int32) [(.int 65), (.int 99), (.int 99), (.int 111), (.int 117), (.int 110), (.int 116), (.int 91), (.int 117), (.int 115), (.int 101), (.int 114), (.int 61), (.int (nar .char (oC p0))), (.int 44), (.int 32), (.int 116), (.int 97), (.int 114), (.int 103), (.int 101), (.int 116), (.int 0), (.int 0), (.int 0)] (.int 0) := Arv.set Ar86 q86 S86 M86 H86 G86 (fits_nar_char (116 : Int32)) W86 21 rfl (Nat.le_of_ble_eq_true rfl)
  have z86 := W86.size
  have N86 := Fr.snoc X86 N85 (by omega)
  obtain ⟨cl87, Ar87, q87, S87, M87, H87, G87⟩ := id V86
  have hin87 : ¬ ((22 : Int32) < 0 ∨ cl87.slots.size ≤ ((22 : Int32)).toNatClampNeg) := inb_of S87 ⟨by decide, by decide⟩
  obtain ⟨T87, h87, X87, e87, W87, st87⟩ := stC X86 hx hZ42 e86 Ar87 (j := (22 : Int32)) hin87 (g := (mkF m 242 #[vI p0, vI p1, vI p2, vI p3, vI p4, .val (.int (oC p0)), .val (.int (oC p1)), .val (.int (oC p2)), .val (.int (oC p3)), .val (.int (p4 &&& (3 : Int32))), .val .null, vA b1, vA x42_r, .unset] [(.int 61), (.int 22), (.ref b63), (.ref b63)])) rfl rfl (hb hby at_242)
  have V87 : Arv Z h87 b63 k63 .char (25 : Int32) [(.int 65), (.int 99), (.int 99), (.int 111), (.int 117), (.int 110), (.int 116), (.int 91), (.int 117), (.int 115), (.int 101), (.int 114), (.int 61), (.int (nar .char (oC p0))), (.int 44), (.int 32), (.int 116), (.int 97), (.int 114), (.int 103), (.int 101), (.int 116), (.int 61), (.int 0), (.int 0)] (.int 0) := Arv.set Ar87 q87 S87 M87 H87 G87 (fits_nar_char (61 : Int32)) W87 22 rfl (Nat.le_of_ble_eq_true rfl)
  have z87 := W87.size
  have N87 := Fr.snoc X87 N86 (by omega)
  obtain ⟨cl88, Ar88, q88, S88, M88, H88, G88⟩ := id V87
  have hin88 : ¬ ((23 : Int32) < 0 ∨ cl88.slots.size ≤ ((23 : Int32)).toNatClampNeg) := inb_of S88 ⟨by decide, by decide⟩
  obtain ⟨T88, h88, X88, e88, W88, st88⟩ := stC X87 hx hZ42 e87 Ar88 (j := (23 : Int32)) hin88 (g := (mkF m 248 #[vI p0, vI p1, vI p2, vI p3, vI p4, .val (.int (oC p0)), .val (.int (oC p1)), .val (.int (oC p2)), .val (.int (oC p3)), .val (.int (p4 &&& (3 : Int32))), .val .null, vA b1, vA x42_r, .unset] [(.int (oC p3)), (.int 23), (.ref b63), (.ref b63)])) rfl rfl (hb hby at_248)
  have V88 : Arv Z h88 b63 k63 .char (25 : Int32) [(.int 65), (.int 99), (.int 99), (.int 111), (.int 117), (.int 110), (.int 116), (.int 91), (.int 117), (.int 115), (.int 101), (.int 114), (.int 61), (.int (nar .char (oC p0))), (.int 44), (.int 32), (.int 116), (.int 97), (.int 114), (.int 103), (.int 101), (.int 116), (.int 61), (.int (nar .char (oC p3))), (.int 0)] (.int 0) := Arv.set Ar88 q88 S88 M88 H88 G88 (fits_nar_char (oC p3)) W88 23 rfl (Nat.le_of_ble_eq_true rfl)
  have z88 := W88.size
  have N88 := Fr.snoc X88 N87 (by omega)
  obtain ⟨cl89, Ar89, q89, S89, M89, H89, G89⟩ := id V88
  have hin89 : ¬ ((24 : Int32) < 0 ∨ cl89.slots.size ≤ ((24 : Int32)).toNatClampNeg) := inb_of S89 ⟨by decide, by decide⟩
  obtain ⟨T89, h89, X89, e89, W89, st89⟩ := stC X88 hx hZ42 e88 Ar89 (j := (24 : Int32)) hin89 (g := (mkF m 254 #[vI p0, vI p1, vI p2, vI p3, vI p4, .val (.int (oC p0)), .val (.int (oC p1)), .val (.int (oC p2)), .val (.int (oC p3)), .val (.int (p4 &&& (3 : Int32))), .val .null, vA b1, vA x42_r, .unset] [(.int 93), (.int 24), (.ref b63), (.ref b63)])) rfl rfl (hb hby at_254)
  have V89 : Arv Z h89 b63 k63 .char (25 : Int32) [(.int 65), (.int 99), (.int 99), (.int 111), (.int 117), (.int 110), (.int 116), (.int 91), (.int 117), (.int 115), (.int 101), (.int 114), (.int 61), (.int (nar .char (oC p0))), (.int 44), (.int 32), (.int 116), (.int 97), (.int 114), (.int 103), (.int 101), (.int 116), (.int 61), (.int (nar .char (oC p3))), (.int 93)] (.int 0) := Arv.set Ar89 q89 S89 M89 H89 G89 (fits_nar_char (93 : Int32)) W89 24 rfl (Nat.le_of_ble_eq_true rfl)
  have z89 := W89.size
  have N89 := Fr.snoc X89 N88 (by omega)
  have V90 : Arv Z h89 b63 k63 .char (25 : Int32) [(.int 65), (.int 99), (.int 99), (.int 111), (.int 117), (.int 110), (.int 116), (.int 91), (.int 117), (.int 115), (.int 101), (.int 114), (.int 61), (.int (oC p0)), (.int 44), (.int 32), (.int 116), (.int 97), (.int 114), (.int 103), (.int 101), (.int 116), (.int 61), (.int (oC p3)), (.int 93)] (.int 0) := by have vq := V89; simp only [own_nc] at vq; exact vq
  obtain ⟨T91, h91, X91, e91, E91, A91, D91, -, st91⟩ := newO X89 hx hZ42 hown42 (w_186 hw) (w_13 hw) (w_5 hw) e89 (g := (mkF m 685 #[vI p0, vI p1, vI p2, vI p3, vI p4, .val (.int (oC p0)), .val (.int (oC p1)), .val (.int (oC p2)), .val (.int (oC p3)), .val (.int (p4 &&& (3 : Int32))), .val .null, vA b1, vA x42_r, vA b63] [(.ref x42_r)])) rfl (hb hby at_685) (by decide) (by decide)
  obtain ⟨b91, g91⟩ : ∃ z, z = h89.size := ⟨_, rfl⟩
  rw [← g91] at A91 D91 st91
  have z91 := E91.1
  have lt92 := own_l A91.lt
  have F91_26 : Fld Z h91 b91 "java/lang/String" "value" "[B" .null := D91 (Or.inr (w_26 hw)) (ty := (.array .byte)) (by decide)
  have F91_28 : Fld Z h91 b91 "java/lang/String" "coder" "B" (.int 0) := D91 (Or.inr (w_28 hw)) (ty := .byte) (by decide)
  have f94 := V90.ext E91
  have f95 := f43.keep Kq42 all0
  have f96 := f95.ext E63
  have f97 := f96.wr W65 (by omega)
  have f98 := f97.wr W66 (by omega)
  have f99 := f98.wr W67 (by omega)
  have f100 := f99.wr W68 (by omega)
  have f101 := f100.wr W69 (by omega)
  have f102 := f101.wr W70 (by omega)
  have f103 := f102.wr W71 (by omega)
  have f104 := f103.wr W72 (by omega)
  have f105 := f104.wr W73 (by omega)
  have f106 := f105.wr W74 (by omega)
  have f107 := f106.wr W75 (by omega)
  have f108 := f107.wr W76 (by omega)
  have f109 := f108.wr W77 (by omega)
  have f110 := f109.wr W78 (by omega)
  have f111 := f110.wr W79 (by omega)
  have f112 := f111.wr W80 (by omega)
  have f113 := f112.wr W81 (by omega)
  have f114 := f113.wr W82 (by omega)
  have f115 := f114.wr W83 (by omega)
  have f116 := f115.wr W84 (by omega)
  have f117 := f116.wr W85 (by omega)
  have f118 := f117.wr W86 (by omega)
  have f119 := f118.wr W87 (by omega)
  have f120 := f119.wr W88 (by omega)
  have f121 := f120.wr W89 (by omega)
  have f122 := f121.ext E91
  obtain ⟨_, _, ⟨T93, L93, k93, n93⟩, -, X93, ⟨Lc93, hQ93, l93, y93, z93⟩, st93⟩ := X91.specialBack hx (y := m_37) rfl hown42 (mvT hZ42 (w_187 hw)) (mvT hZ42 (w_188 hw)) (mvT hZ42 (w_189 hw)) (by decide) (StrChars.Road.backV (W := 2) hZ42 (own_hws hw) (kI := 4) (w_13 hw) (n0 := n0) (cs := oLN (oC p0) (oC p3)) (bs := (oLN (oC p0) (oC p3)).map StrChars.lo8) (n := 25) (by omega) (by omega) A91 F91_26 F91_28 f94 (P1.ext f122.2) hcs rfl rfl (by decide) (by decide) (own_hpN (own_ch p0) (own_ch p3)) rfl (by decide) (by decide)) (g := (mkF m 691 #[vI p0, vI p1, vI p2, vI p3, vI p4, .val (.int (oC p0)), .val (.int (oC p1)), .val (.int (oC p2)), .val (.int (oC p3)), .val (.int (p4 &&& (3 : Int32))), .val .null, vA b1, vA x42_r, vA b63] [(.ref b63), (.ref b91), (.ref b91), (.ref x42_r)])) rfl (by rw [hml]; rfl) (Steps.refl _) (a := b91) (argsL := [(.ref b63)]) (rest := [(.ref b91), (.ref x42_r)]) (lenOf pd_27 rfl) rfl (Nat.le_of_eq rfl) (hb hby at_691) (fun _ _ => ⟨rfl, e91, (by decide : 23 + 1 ≤ _), (by decide : 325 + 25 ≤ _)⟩)
  dsimp only [Pt.U, Pt.locs, Pt.cells, Pt.slots] at X93 l93 y93 z93 st93 hQ93
  rw [l93, y93, z93] at X93
  obtain ⟨rfl, Nq93, Kq93, r93_0, r93_1, x93_b, x93_kb, -, r93_ge, -, r93_2, r93_3⟩ := hQ93
  have N93 := Fr.app N89 Nq93
  have z93' := Kq93.1
  have lt123 := own_l r93_0.lt
  have lt124 := own_l r93_1.lt
  have lt125 := own_l r93_2.lt
  have lt126 := own_l r93_3.lt
  have f128 := r42_0.ext E63
  have f129 := f128.wr W65
  have f130 := f129.wr W66
  have f131 := f130.wr W67
  have f132 := f131.wr W68
  have f133 := f132.wr W69
  have f134 := f133.wr W70
  have f135 := f134.wr W71
  have f136 := f135.wr W72
  have f137 := f136.wr W73
  have f138 := f137.wr W74
  have f139 := f138.wr W75
  have f140 := f139.wr W76
  have f141 := f140.wr W77
  have f142 := f141.wr W78
  have f143 := f142.wr W79
  have f144 := f143.wr W80
  have f145 := f144.wr W81
  have f146 := f145.wr W82
  have f147 := f146.wr W83
  have f148 := f147.wr W84
  have f149 := f148.wr W85
  have f150 := f149.wr W86
  have f151 := f150.wr W87
  have f152 := f151.wr W88
  have f153 := f152.wr W89
  have f154 := f153.ext E91
  have f155 := f154.keep Kq93
  have f156 := r42_1.ext E63
  have f157 := f156.other W65 (Or.inl (own_ne (by omega)))
  have f158 := f157.other W66 (Or.inl (own_ne (by omega)))
  have f159 := f158.other W67 (Or.inl (own_ne (by omega)))
  have f160 := f159.other W68 (Or.inl (own_ne (by omega)))
  have f161 := f160.other W69 (Or.inl (own_ne (by omega)))
  have f162 := f161.other W70 (Or.inl (own_ne (by omega)))
  have f163 := f162.other W71 (Or.inl (own_ne (by omega)))
  have f164 := f163.other W72 (Or.inl (own_ne (by omega)))
  have f165 := f164.other W73 (Or.inl (own_ne (by omega)))
  have f166 := f165.other W74 (Or.inl (own_ne (by omega)))
  have f167 := f166.other W75 (Or.inl (own_ne (by omega)))
  have f168 := f167.other W76 (Or.inl (own_ne (by omega)))
  have f169 := f168.other W77 (Or.inl (own_ne (by omega)))
  have f170 := f169.other W78 (Or.inl (own_ne (by omega)))
  have f171 := f170.other W79 (Or.inl (own_ne (by omega)))
  have f172 := f171.other W80 (Or.inl (own_ne (by omega)))
  have f173 := f172.other W81 (Or.inl (own_ne (by omega)))
  have f174 := f173.other W82 (Or.inl (own_ne (by omega)))
  have f175 := f174.other W83 (Or.inl (own_ne (by omega)))
  have f176 := f175.other W84 (Or.inl (own_ne (by omega)))
  have f177 := f176.other W85 (Or.inl (own_ne (by omega)))
  have f178 := f177.other W86 (Or.inl (own_ne (by omega)))
  have f179 := f178.other W87 (Or.inl (own_ne (by omega)))
  have f180 := f179.other W88 (Or.inl (own_ne (by omega)))
  have f181 := f180.other W89 (Or.inl (own_ne (by omega)))
  have f182 := f181.ext E91
  have f183 := f182.keep Kq93 (ninS (own_ne (by omega)) nin0)
  have f184 := r42_2.ext E63
  have f185 := f184.other W65 (Or.inl (own_ne (by omega)))
  have f186 := f185.other W66 (Or.inl (own_ne (by omega)))
  have f187 := f186.other W67 (Or.inl (own_ne (by omega)))
  have f188 := f187.other W68 (Or.inl (own_ne (by omega)))
  have f189 := f188.other W69 (Or.inl (own_ne (by omega)))
  have f190 := f189.other W70 (Or.inl (own_ne (by omega)))
  have f191 := f190.other W71 (Or.inl (own_ne (by omega)))
  have f192 := f191.other W72 (Or.inl (own_ne (by omega)))
  have f193 := f192.other W73 (Or.inl (own_ne (by omega)))
  have f194 := f193.other W74 (Or.inl (own_ne (by omega)))
  have f195 := f194.other W75 (Or.inl (own_ne (by omega)))
  have f196 := f195.other W76 (Or.inl (own_ne (by omega)))
  have f197 := f196.other W77 (Or.inl (own_ne (by omega)))
  have f198 := f197.other W78 (Or.inl (own_ne (by omega)))
  have f199 := f198.other W79 (Or.inl (own_ne (by omega)))
  have f200 := f199.other W80 (Or.inl (own_ne (by omega)))
  have f201 := f200.other W81 (Or.inl (own_ne (by omega)))
  have f202 := f201.other W82 (Or.inl (own_ne (by omega)))
  have f203 := f202.other W83 (Or.inl (own_ne (by omega)))
  have f204 := f203.other W84 (Or.inl (own_ne (by omega)))
  have f205 := f204.other W85 (Or.inl (own_ne (by omega)))
  have f206 := f205.other W86 (Or.inl (own_ne (by omega)))
  have f207 := f206.other W87 (Or.inl (own_ne (by omega)))
  have f208 := f207.other W88 (Or.inl (own_ne (by omega)))
  have f209 := f208.other W89 (Or.inl (own_ne (by omega)))
  have f210 := f209.ext E91
  have f211 := f210.keep Kq93 (ninS (own_ne (by omega)) nin0)
  have f212 := V62.ext E63
  have f213 := f212.other W65 (own_ne (by omega))
  have f214 := f213.other W66 (own_ne (by omega))
  have f215 := f214.other W67 (own_ne (by omega))
  have f216 := f215.other W68 (own_ne (by omega))
  have f217 := f216.other W69 (own_ne (by omega))
  have f218 := f217.other W70 (own_ne (by omega))
  have f219 := f218.other W71 (own_ne (by omega))
  have f220 := f219.other W72 (own_ne (by omega))
  have f221 := f220.other W73 (own_ne (by omega))
  have f222 := f221.other W74 (own_ne (by omega))
  have f223 := f222.other W75 (own_ne (by omega))
  have f224 := f223.other W76 (own_ne (by omega))
  have f225 := f224.other W77 (own_ne (by omega))
  have f226 := f225.other W78 (own_ne (by omega))
  have f227 := f226.other W79 (own_ne (by omega))
  have f228 := f227.other W80 (own_ne (by omega))
  have f229 := f228.other W81 (own_ne (by omega))
  have f230 := f229.other W82 (own_ne (by omega))
  have f231 := f230.other W83 (own_ne (by omega))
  have f232 := f231.other W84 (own_ne (by omega))
  have f233 := f232.other W85 (own_ne (by omega))
  have f234 := f233.other W86 (own_ne (by omega))
  have f235 := f234.other W87 (own_ne (by omega))
  have f236 := f235.other W88 (own_ne (by omega))
  have f237 := f236.other W89 (own_ne (by omega))
  have f238 := f237.ext E91
  have f239 := f238.keep Kq93 (ninS (own_ne (by omega)) nin0)
  have f240 := f122.keep Kq93 (allS (by omega) all0)
  obtain ⟨cq127, kq127, qa127, qb127, qc127⟩ := isOf hZ42 rfl f155
  obtain ⟨_, _, ⟨T127, L127, k127, n127⟩, -, X127, ⟨Lc127, hQ127, l127, y127, z127⟩, st127⟩ := X93.virtualBack hx (y := m_38) (z := m_38) hown42 (mvT hZ42 (w_203 hw)) (mvT hZ42 (w_204 hw)) (notFace_of_selects (args := #[]) (mvT hZ42 (w_206 hw))) (mvT hZ42 (w_206 hw)) (mvT hZ42 (w_205 hw)) (by decide) (own_eqS (W := 0) hZ42 hw (cs := oLN (oC p0) (oC p3)) rfl (own_hpN (own_ch p0) (own_ch p3)) (Nat.le_of_ble_eq_true rfl) f155 f183 f211 f239 r93_0 r93_2 r93_1 r93_3 (P1.ext f240.2) hcs (by decide) (by decide)) qa127 qc127 (g := (mkF m 694 #[vI p0, vI p1, vI p2, vI p3, vI p4, .val (.int (oC p0)), .val (.int (oC p1)), .val (.int (oC p2)), .val (.int (oC p3)), .val (.int (p4 &&& (3 : Int32))), .val .null, vA b1, vA x42_r, vA b63] [(.ref b91), (.ref x42_r)])) rfl (by rw [hml]; rfl) (Steps.refl _) (argsL := [(.ref b91)]) (rest := []) (lenOf pd_28 rfl) rfl (Nat.le_of_eq rfl) (hb hby at_694) (fun _ _ => ⟨rfl, rfl, (by decide : 24 + 0 ≤ _), (by decide : 350 + 0 ≤ _)⟩)
  dsimp only [Pt.U, Pt.locs, Pt.cells, Pt.slots] at X127 l127 y127 z127 st127 hQ127
  rw [l127, y127, z127] at X127
  obtain ⟨rfl, Nq127, Kq127⟩ := hQ127
  have N127 := Fr.app N93 Nq127
  obtain ⟨fs, hr, hrun, hended, hEnd⟩ := X127.leaveW hS42 (by first | omega | (rw [(Kq127 : T127.heap = T93.heap)]; omega)) (v := some (.int 1)) (fun h => by rw [Bd.returns] at h; cases h)
  refine ⟨_, _, castTop (ef_18 m p0 p1 p2 p3 p4) ?_, hrun, hended, _, _, rfl, ?_, hEnd.1, hEnd.2.1, hEnd.2.2.1, hEnd.2.2.2.mono (by decide) (by decide)⟩
  · show Steps _ _ _ (s₁.setTop (mkF m 0 #[vI p0, vI p1, vI p2, vI p3, vI p4, .unset, .unset, .unset, .unset, .unset, .unset, .unset, .unset, .unset] [])) _
    refine XS.iloadN X0.here hx rfl (hb hby at_0) rfl ?_
    refine XS.sipush X0.here hx rfl (hb hby at_1) ?_
    refine XS.iand X0.here hx rfl (hb hby at_4) rfl ?_
    refine XS.i2c X0.here hx rfl (hb hby at_5) rfl ?_
    show Steps _ _ _ (s₁.setTop (mkF m 6 #[vI p0, vI p1, vI p2, vI p3, vI p4, .unset, .unset, .unset, .unset, .unset, .unset, .unset, .unset, .unset] [(.int (oC p0))])) _
    show Steps _ _ _ (s₁.setTop (mkF m 6 #[vI p0, vI p1, vI p2, vI p3, vI p4, .unset, .unset, .unset, .unset, .unset, .unset, .unset, .unset, .unset] [(.int (oC p0))])) _
    refine XS.istore X0.here hx rfl (hb hby at_6) rfl (l' := #[vI p0, vI p1, vI p2, vI p3, vI p4, .val (.int (oC p0)), .unset, .unset, .unset, .unset, .unset, .unset, .unset, .unset]) rfl ?_
    refine XS.iloadN X0.here hx rfl (hb hby at_8) rfl ?_
    refine XS.sipush X0.here hx rfl (hb hby at_9) ?_
    refine XS.iand X0.here hx rfl (hb hby at_12) rfl ?_
    refine XS.i2c X0.here hx rfl (hb hby at_13) rfl ?_
    show Steps _ _ _ (s₁.setTop (mkF m 14 #[vI p0, vI p1, vI p2, vI p3, vI p4, .val (.int (oC p0)), .unset, .unset, .unset, .unset, .unset, .unset, .unset, .unset] [(.int (oC p1))])) _
    show Steps _ _ _ (s₁.setTop (mkF m 14 #[vI p0, vI p1, vI p2, vI p3, vI p4, .val (.int (oC p0)), .unset, .unset, .unset, .unset, .unset, .unset, .unset, .unset] [(.int (oC p1))])) _
    refine XS.istore X0.here hx rfl (hb hby at_14) rfl (l' := #[vI p0, vI p1, vI p2, vI p3, vI p4, .val (.int (oC p0)), .val (.int (oC p1)), .unset, .unset, .unset, .unset, .unset, .unset, .unset]) rfl ?_
    refine XS.iloadN X0.here hx rfl (hb hby at_16) rfl ?_
    refine XS.sipush X0.here hx rfl (hb hby at_17) ?_
    refine XS.iand X0.here hx rfl (hb hby at_20) rfl ?_
    refine XS.i2c X0.here hx rfl (hb hby at_21) rfl ?_
    show Steps _ _ _ (s₁.setTop (mkF m 22 #[vI p0, vI p1, vI p2, vI p3, vI p4, .val (.int (oC p0)), .val (.int (oC p1)), .unset, .unset, .unset, .unset, .unset, .unset, .unset] [(.int (oC p2))])) _
    show Steps _ _ _ (s₁.setTop (mkF m 22 #[vI p0, vI p1, vI p2, vI p3, vI p4, .val (.int (oC p0)), .val (.int (oC p1)), .unset, .unset, .unset, .unset, .unset, .unset, .unset] [(.int (oC p2))])) _
    refine XS.istore X0.here hx rfl (hb hby at_22) rfl (l' := #[vI p0, vI p1, vI p2, vI p3, vI p4, .val (.int (oC p0)), .val (.int (oC p1)), .val (.int (oC p2)), .unset, .unset, .unset, .unset, .unset, .unset]) rfl ?_
    refine XS.iloadN X0.here hx rfl (hb hby at_24) rfl ?_
    refine XS.sipush X0.here hx rfl (hb hby at_25) ?_
    refine XS.iand X0.here hx rfl (hb hby at_28) rfl ?_
    refine XS.i2c X0.here hx rfl (hb hby at_29) rfl ?_
    show Steps _ _ _ (s₁.setTop (mkF m 30 #[vI p0, vI p1, vI p2, vI p3, vI p4, .val (.int (oC p0)), .val (.int (oC p1)), .val (.int (oC p2)), .unset, .unset, .unset, .unset, .unset, .unset] [(.int (oC p3))])) _
    show Steps _ _ _ (s₁.setTop (mkF m 30 #[vI p0, vI p1, vI p2, vI p3, vI p4, .val (.int (oC p0)), .val (.int (oC p1)), .val (.int (oC p2)), .unset, .unset, .unset, .unset, .unset, .unset] [(.int (oC p3))])) _
    refine XS.istore X0.here hx rfl (hb hby at_30) rfl (l' := #[vI p0, vI p1, vI p2, vI p3, vI p4, .val (.int (oC p0)), .val (.int (oC p1)), .val (.int (oC p2)), .val (.int (oC p3)), .unset, .unset, .unset, .unset, .unset]) rfl ?_
    refine XS.iload X0.here hx rfl (hb hby at_32) rfl ?_
    refine XS.iconst X0.here hx rfl (hb hby at_34) ?_
    refine XS.iand X0.here hx rfl (hb hby at_35) rfl ?_
    refine XS.istore X0.here hx rfl (hb hby at_36) rfl (l' := #[vI p0, vI p1, vI p2, vI p3, vI p4, .val (.int (oC p0)), .val (.int (oC p1)), .val (.int (oC p2)), .val (.int (oC p3)), .val (.int (p4 &&& (3 : Int32))), .unset, .unset, .unset, .unset]) rfl ?_
    refine XS.iload X0.here hx rfl (hb hby at_38) rfl ?_
    refine XS.ifNo X0.here hx rfl (hb hby at_40) rfl ((if0 _ _).trans (teq (hc40 : (p4 &&& (3 : Int32)) = (0 : Int32))).2) ?_
    refine XS.aconstNull X0.here hx rfl (hb hby at_43) ?_
    refine XS.astore X0.here hx rfl (hb hby at_44) rfl rfl (l' := #[vI p0, vI p1, vI p2, vI p3, vI p4, .val (.int (oC p0)), .val (.int (oC p1)), .val (.int (oC p2)), .val (.int (oC p3)), .val (.int (p4 &&& (3 : Int32))), .val .null, .unset, .unset, .unset]) rfl ?_
    refine XS.goto X0.here hx rfl (pc0 := 46) (pc' := 69) rfl (hb hby at_46) (by decide) (by decide) ?_
    refine st1 _ ?_
    show Steps _ _ _ (T1.setTop (mkF m 72 #[vI p0, vI p1, vI p2, vI p3, vI p4, .val (.int (oC p0)), .val (.int (oC p1)), .val (.int (oC p2)), .val (.int (oC p3)), .val (.int (p4 &&& (3 : Int32))), .val .null, .unset, .unset, .unset] [(.ref b1)])) _
    refine XS.dup X1.here hx rfl (hb hby at_72) rfl rfl ?_
    refine XS.iload X1.here hx rfl (hb hby at_73) rfl ?_
    refine st3 _ ?_
    show Steps _ _ _ (T3.setTop (mkF m 78 #[vI p0, vI p1, vI p2, vI p3, vI p4, .val (.int (oC p0)), .val (.int (oC p1)), .val (.int (oC p2)), .val (.int (oC p3)), .val (.int (p4 &&& (3 : Int32))), .val .null, .unset, .unset, .unset] [(.ref x3_a_), (.ref b1), (.ref b1)])) _
    refine XS.iload X3.here hx rfl (hb hby at_78) rfl ?_
    refine st9 _ ?_
    show Steps _ _ _ (T9.setTop (mkF m 83 #[vI p0, vI p1, vI p2, vI p3, vI p4, .val (.int (oC p0)), .val (.int (oC p1)), .val (.int (oC p2)), .val (.int (oC p3)), .val (.int (p4 &&& (3 : Int32))), .val .null, .unset, .unset, .unset] [(.ref x9_a_), (.ref x3_a_), (.ref b1), (.ref b1)])) _
    refine XS.aload X9.here hx rfl (hb hby at_83) rfl rfl ?_
    refine XS.iload X9.here hx rfl (hb hby at_85) rfl ?_
    refine st14 _ ?_
    show Steps _ _ _ (T14.setTop (mkF m 90 #[vI p0, vI p1, vI p2, vI p3, vI p4, .val (.int (oC p0)), .val (.int (oC p1)), .val (.int (oC p2)), .val (.int (oC p3)), .val (.int (p4 &&& (3 : Int32))), .val .null, .unset, .unset, .unset] [(.ref x14_a_), .null, (.ref x9_a_), (.ref x3_a_), (.ref b1), (.ref b1)])) _
    refine st19.trans ?_
    show Steps _ _ _ (T19.setTop (mkF m 93 #[vI p0, vI p1, vI p2, vI p3, vI p4, .val (.int (oC p0)), .val (.int (oC p1)), .val (.int (oC p2)), .val (.int (oC p3)), .val (.int (p4 &&& (3 : Int32))), .val .null, .unset, .unset, .unset] [(.ref b1)])) _
    refine XS.astore X19.here hx rfl (hb hby at_93) rfl rfl (l' := #[vI p0, vI p1, vI p2, vI p3, vI p4, .val (.int (oC p0)), .val (.int (oC p1)), .val (.int (oC p2)), .val (.int (oC p3)), .val (.int (p4 &&& (3 : Int32))), .val .null, vA b1, .unset, .unset]) rfl ?_
    refine XS.aload X19.here hx rfl (hb hby at_95) rfl rfl ?_
    refine st42.trans ?_
    show Steps _ _ _ (T42.setTop (mkF m 100 #[vI p0, vI p1, vI p2, vI p3, vI p4, .val (.int (oC p0)), .val (.int (oC p1)), .val (.int (oC p2)), .val (.int (oC p3)), .val (.int (p4 &&& (3 : Int32))), .val .null, vA b1, .unset, .unset] [(.ref x42_r)])) _
    refine XS.astore X42.here hx rfl (hb hby at_100) rfl rfl (l' := #[vI p0, vI p1, vI p2, vI p3, vI p4, .val (.int (oC p0)), .val (.int (oC p1)), .val (.int (oC p2)), .val (.int (oC p3)), .val (.int (p4 &&& (3 : Int32))), .val .null, vA b1, vA x42_r, .unset]) rfl ?_
    refine XS.iload X42.here hx rfl (hb hby at_102) rfl ?_
    refine XS.ifNo X42.here hx rfl (hb hby at_104) rfl ((if0 _ _).trans (teq (hc40 : (p4 &&& (3 : Int32)) = (0 : Int32))).2) ?_
    refine XS.bipush X42.here hx rfl (hb hby at_107) ?_
    refine st63 _ ?_
    show Steps _ _ _ (T63.setTop (mkF m 111 #[vI p0, vI p1, vI p2, vI p3, vI p4, .val (.int (oC p0)), .val (.int (oC p1)), .val (.int (oC p2)), .val (.int (oC p3)), .val (.int (p4 &&& (3 : Int32))), .val .null, vA b1, vA x42_r, .unset] [(.ref b63)])) _
    refine XS.dup X63.here hx rfl (hb hby at_111) rfl rfl ?_
    refine XS.iconst X63.here hx rfl (hb hby at_112) ?_
    refine XS.bipush X63.here hx rfl (hb hby at_113) ?_
    refine st65 _ ?_
    show Steps _ _ _ (T65.setTop (mkF m 116 #[vI p0, vI p1, vI p2, vI p3, vI p4, .val (.int (oC p0)), .val (.int (oC p1)), .val (.int (oC p2)), .val (.int (oC p3)), .val (.int (p4 &&& (3 : Int32))), .val .null, vA b1, vA x42_r, .unset] [(.ref b63)])) _
    refine XS.dup X65.here hx rfl (hb hby at_116) rfl rfl ?_
    refine XS.iconst X65.here hx rfl (hb hby at_117) ?_
    refine XS.bipush X65.here hx rfl (hb hby at_118) ?_
    refine st66 _ ?_
    show Steps _ _ _ (T66.setTop (mkF m 121 #[vI p0, vI p1, vI p2, vI p3, vI p4, .val (.int (oC p0)), .val (.int (oC p1)), .val (.int (oC p2)), .val (.int (oC p3)), .val (.int (p4 &&& (3 : Int32))), .val .null, vA b1, vA x42_r, .unset] [(.ref b63)])) _
    refine XS.dup X66.here hx rfl (hb hby at_121) rfl rfl ?_
    refine XS.iconst X66.here hx rfl (hb hby at_122) ?_
    refine XS.bipush X66.here hx rfl (hb hby at_123) ?_
    refine st67 _ ?_
    show Steps _ _ _ (T67.setTop (mkF m 126 #[vI p0, vI p1, vI p2, vI p3, vI p4, .val (.int (oC p0)), .val (.int (oC p1)), .val (.int (oC p2)), .val (.int (oC p3)), .val (.int (p4 &&& (3 : Int32))), .val .null, vA b1, vA x42_r, .unset] [(.ref b63)])) _
    refine XS.dup X67.here hx rfl (hb hby at_126) rfl rfl ?_
    refine XS.iconst X67.here hx rfl (hb hby at_127) ?_
    refine XS.bipush X67.here hx rfl (hb hby at_128) ?_
    refine st68 _ ?_
    show Steps _ _ _ (T68.setTop (mkF m 131 #[vI p0, vI p1, vI p2, vI p3, vI p4, .val (.int (oC p0)), .val (.int (oC p1)), .val (.int (oC p2)), .val (.int (oC p3)), .val (.int (p4 &&& (3 : Int32))), .val .null, vA b1, vA x42_r, .unset] [(.ref b63)])) _
    refine XS.dup X68.here hx rfl (hb hby at_131) rfl rfl ?_
    refine XS.iconst X68.here hx rfl (hb hby at_132) ?_
    refine XS.bipush X68.here hx rfl (hb hby at_133) ?_
    refine st69 _ ?_
    show Steps _ _ _ (T69.setTop (mkF m 136 #[vI p0, vI p1, vI p2, vI p3, vI p4, .val (.int (oC p0)), .val (.int (oC p1)), .val (.int (oC p2)), .val (.int (oC p3)), .val (.int (p4 &&& (3 : Int32))), .val .null, vA b1, vA x42_r, .unset] [(.ref b63)])) _
    refine XS.dup X69.here hx rfl (hb hby at_136) rfl rfl ?_
    refine XS.iconst X69.here hx rfl (hb hby at_137) ?_
    refine XS.bipush X69.here hx rfl (hb hby at_138) ?_
    refine st70 _ ?_
    show Steps _ _ _ (T70.setTop (mkF m 141 #[vI p0, vI p1, vI p2, vI p3, vI p4, .val (.int (oC p0)), .val (.int (oC p1)), .val (.int (oC p2)), .val (.int (oC p3)), .val (.int (p4 &&& (3 : Int32))), .val .null, vA b1, vA x42_r, .unset] [(.ref b63)])) _
    refine XS.dup X70.here hx rfl (hb hby at_141) rfl rfl ?_
    refine XS.bipush X70.here hx rfl (hb hby at_142) ?_
    refine XS.bipush X70.here hx rfl (hb hby at_144) ?_
    refine st71 _ ?_
    show Steps _ _ _ (T71.setTop (mkF m 147 #[vI p0, vI p1, vI p2, vI p3, vI p4, .val (.int (oC p0)), .val (.int (oC p1)), .val (.int (oC p2)), .val (.int (oC p3)), .val (.int (p4 &&& (3 : Int32))), .val .null, vA b1, vA x42_r, .unset] [(.ref b63)])) _
    refine XS.dup X71.here hx rfl (hb hby at_147) rfl rfl ?_
    refine XS.bipush X71.here hx rfl (hb hby at_148) ?_
    refine XS.bipush X71.here hx rfl (hb hby at_150) ?_
    refine st72 _ ?_
    show Steps _ _ _ (T72.setTop (mkF m 153 #[vI p0, vI p1, vI p2, vI p3, vI p4, .val (.int (oC p0)), .val (.int (oC p1)), .val (.int (oC p2)), .val (.int (oC p3)), .val (.int (p4 &&& (3 : Int32))), .val .null, vA b1, vA x42_r, .unset] [(.ref b63)])) _
    refine XS.dup X72.here hx rfl (hb hby at_153) rfl rfl ?_
    refine XS.bipush X72.here hx rfl (hb hby at_154) ?_
    refine XS.bipush X72.here hx rfl (hb hby at_156) ?_
    refine st73 _ ?_
    show Steps _ _ _ (T73.setTop (mkF m 159 #[vI p0, vI p1, vI p2, vI p3, vI p4, .val (.int (oC p0)), .val (.int (oC p1)), .val (.int (oC p2)), .val (.int (oC p3)), .val (.int (p4 &&& (3 : Int32))), .val .null, vA b1, vA x42_r, .unset] [(.ref b63)])) _
    refine XS.dup X73.here hx rfl (hb hby at_159) rfl rfl ?_
    refine XS.bipush X73.here hx rfl (hb hby at_160) ?_
    refine XS.bipush X73.here hx rfl (hb hby at_162) ?_
    refine st74 _ ?_
    show Steps _ _ _ (T74.setTop (mkF m 165 #[vI p0, vI p1, vI p2, vI p3, vI p4, .val (.int (oC p0)), .val (.int (oC p1)), .val (.int (oC p2)), .val (.int (oC p3)), .val (.int (p4 &&& (3 : Int32))), .val .null, vA b1, vA x42_r, .unset] [(.ref b63)])) _
    refine XS.dup X74.here hx rfl (hb hby at_165) rfl rfl ?_
    refine XS.bipush X74.here hx rfl (hb hby at_166) ?_
    refine XS.bipush X74.here hx rfl (hb hby at_168) ?_
    refine st75 _ ?_
    show Steps _ _ _ (T75.setTop (mkF m 171 #[vI p0, vI p1, vI p2, vI p3, vI p4, .val (.int (oC p0)), .val (.int (oC p1)), .val (.int (oC p2)), .val (.int (oC p3)), .val (.int (p4 &&& (3 : Int32))), .val .null, vA b1, vA x42_r, .unset] [(.ref b63)])) _
    refine XS.dup X75.here hx rfl (hb hby at_171) rfl rfl ?_
    refine XS.bipush X75.here hx rfl (hb hby at_172) ?_
    refine XS.bipush X75.here hx rfl (hb hby at_174) ?_
    refine st76 _ ?_
    show Steps _ _ _ (T76.setTop (mkF m 177 #[vI p0, vI p1, vI p2, vI p3, vI p4, .val (.int (oC p0)), .val (.int (oC p1)), .val (.int (oC p2)), .val (.int (oC p3)), .val (.int (p4 &&& (3 : Int32))), .val .null, vA b1, vA x42_r, .unset] [(.ref b63)])) _
    refine XS.dup X76.here hx rfl (hb hby at_177) rfl rfl ?_
    refine XS.bipush X76.here hx rfl (hb hby at_178) ?_
    refine XS.bipush X76.here hx rfl (hb hby at_180) ?_
    refine st77 _ ?_
    show Steps _ _ _ (T77.setTop (mkF m 183 #[vI p0, vI p1, vI p2, vI p3, vI p4, .val (.int (oC p0)), .val (.int (oC p1)), .val (.int (oC p2)), .val (.int (oC p3)), .val (.int (p4 &&& (3 : Int32))), .val .null, vA b1, vA x42_r, .unset] [(.ref b63)])) _
    refine XS.dup X77.here hx rfl (hb hby at_183) rfl rfl ?_
    refine XS.bipush X77.here hx rfl (hb hby at_184) ?_
    refine XS.iload X77.here hx rfl (hb hby at_186) rfl ?_
    refine st78 _ ?_
    show Steps _ _ _ (T78.setTop (mkF m 189 #[vI p0, vI p1, vI p2, vI p3, vI p4, .val (.int (oC p0)), .val (.int (oC p1)), .val (.int (oC p2)), .val (.int (oC p3)), .val (.int (p4 &&& (3 : Int32))), .val .null, vA b1, vA x42_r, .unset] [(.ref b63)])) _
    refine XS.dup X78.here hx rfl (hb hby at_189) rfl rfl ?_
    refine XS.bipush X78.here hx rfl (hb hby at_190) ?_
    refine XS.bipush X78.here hx rfl (hb hby at_192) ?_
    refine st79 _ ?_
    show Steps _ _ _ (T79.setTop (mkF m 195 #[vI p0, vI p1, vI p2, vI p3, vI p4, .val (.int (oC p0)), .val (.int (oC p1)), .val (.int (oC p2)), .val (.int (oC p3)), .val (.int (p4 &&& (3 : Int32))), .val .null, vA b1, vA x42_r, .unset] [(.ref b63)])) _
    refine XS.dup X79.here hx rfl (hb hby at_195) rfl rfl ?_
    refine XS.bipush X79.here hx rfl (hb hby at_196) ?_
    refine XS.bipush X79.here hx rfl (hb hby at_198) ?_
    refine st80 _ ?_
    show Steps _ _ _ (T80.setTop (mkF m 201 #[vI p0, vI p1, vI p2, vI p3, vI p4, .val (.int (oC p0)), .val (.int (oC p1)), .val (.int (oC p2)), .val (.int (oC p3)), .val (.int (p4 &&& (3 : Int32))), .val .null, vA b1, vA x42_r, .unset] [(.ref b63)])) _
    refine XS.dup X80.here hx rfl (hb hby at_201) rfl rfl ?_
    refine XS.bipush X80.here hx rfl (hb hby at_202) ?_
    refine XS.bipush X80.here hx rfl (hb hby at_204) ?_
    refine st81 _ ?_
    show Steps _ _ _ (T81.setTop (mkF m 207 #[vI p0, vI p1, vI p2, vI p3, vI p4, .val (.int (oC p0)), .val (.int (oC p1)), .val (.int (oC p2)), .val (.int (oC p3)), .val (.int (p4 &&& (3 : Int32))), .val .null, vA b1, vA x42_r, .unset] [(.ref b63)])) _
    refine XS.dup X81.here hx rfl (hb hby at_207) rfl rfl ?_
    refine XS.bipush X81.here hx rfl (hb hby at_208) ?_
    refine XS.bipush X81.here hx rfl (hb hby at_210) ?_
    refine st82 _ ?_
    show Steps _ _ _ (T82.setTop (mkF m 213 #[vI p0, vI p1, vI p2, vI p3, vI p4, .val (.int (oC p0)), .val (.int (oC p1)), .val (.int (oC p2)), .val (.int (oC p3)), .val (.int (p4 &&& (3 : Int32))), .val .null, vA b1, vA x42_r, .unset] [(.ref b63)])) _
    refine XS.dup X82.here hx rfl (hb hby at_213) rfl rfl ?_
    refine XS.bipush X82.here hx rfl (hb hby at_214) ?_
    refine XS.bipush X82.here hx rfl (hb hby at_216) ?_
    refine st83 _ ?_
    show Steps _ _ _ (T83.setTop (mkF m 219 #[vI p0, vI p1, vI p2, vI p3, vI p4, .val (.int (oC p0)), .val (.int (oC p1)), .val (.int (oC p2)), .val (.int (oC p3)), .val (.int (p4 &&& (3 : Int32))), .val .null, vA b1, vA x42_r, .unset] [(.ref b63)])) _
    refine XS.dup X83.here hx rfl (hb hby at_219) rfl rfl ?_
    refine XS.bipush X83.here hx rfl (hb hby at_220) ?_
    refine XS.bipush X83.here hx rfl (hb hby at_222) ?_
    refine st84 _ ?_
    show Steps _ _ _ (T84.setTop (mkF m 225 #[vI p0, vI p1, vI p2, vI p3, vI p4, .val (.int (oC p0)), .val (.int (oC p1)), .val (.int (oC p2)), .val (.int (oC p3)), .val (.int (p4 &&& (3 : Int32))), .val .null, vA b1, vA x42_r, .unset] [(.ref b63)])) _
    refine XS.dup X84.here hx rfl (hb hby at_225) rfl rfl ?_
    refine XS.bipush X84.here hx rfl (hb hby at_226) ?_
    refine XS.bipush X84.here hx rfl (hb hby at_228) ?_
    refine st85 _ ?_
    show Steps _ _ _ (T85.setTop (mkF m 231 #[vI p0, vI p1, vI p2, vI p3, vI p4, .val (.int (oC p0)), .val (.int (oC p1)), .val (.int (oC p2)), .val (.int (oC p3)), .val (.int (p4 &&& (3 : Int32))), .val .null, vA b1, vA x42_r, .unset] [(.ref b63)])) _
    refine XS.dup X85.here hx rfl (hb hby at_231) rfl rfl ?_
    refine XS.bipush X85.here hx rfl (hb hby at_232) ?_
    refine XS.bipush X85.here hx rfl (hb hby at_234) ?_
    refine st86 _ ?_
    show Steps _ _ _ (T86.setTop (mkF m 237 #[vI p0, vI p1, vI p2, vI p3, vI p4, .val (.int (oC p0)), .val (.int (oC p1)), .val (.int (oC p2)), .val (.int (oC p3)), .val (.int (p4 &&& (3 : Int32))), .val .null, vA b1, vA x42_r, .unset] [(.ref b63)])) _
    refine XS.dup X86.here hx rfl (hb hby at_237) rfl rfl ?_
    refine XS.bipush X86.here hx rfl (hb hby at_238) ?_
    refine XS.bipush X86.here hx rfl (hb hby at_240) ?_
    refine st87 _ ?_
    show Steps _ _ _ (T87.setTop (mkF m 243 #[vI p0, vI p1, vI p2, vI p3, vI p4, .val (.int (oC p0)), .val (.int (oC p1)), .val (.int (oC p2)), .val (.int (oC p3)), .val (.int (p4 &&& (3 : Int32))), .val .null, vA b1, vA x42_r, .unset] [(.ref b63)])) _
    refine XS.dup X87.here hx rfl (hb hby at_243) rfl rfl ?_
    refine XS.bipush X87.here hx rfl (hb hby at_244) ?_
    refine XS.iload X87.here hx rfl (hb hby at_246) rfl ?_
    refine st88 _ ?_
    show Steps _ _ _ (T88.setTop (mkF m 249 #[vI p0, vI p1, vI p2, vI p3, vI p4, .val (.int (oC p0)), .val (.int (oC p1)), .val (.int (oC p2)), .val (.int (oC p3)), .val (.int (p4 &&& (3 : Int32))), .val .null, vA b1, vA x42_r, .unset] [(.ref b63)])) _
    refine XS.dup X88.here hx rfl (hb hby at_249) rfl rfl ?_
    refine XS.bipush X88.here hx rfl (hb hby at_250) ?_
    refine XS.bipush X88.here hx rfl (hb hby at_252) ?_
    refine st89 _ ?_
    show Steps _ _ _ (T89.setTop (mkF m 255 #[vI p0, vI p1, vI p2, vI p3, vI p4, .val (.int (oC p0)), .val (.int (oC p1)), .val (.int (oC p2)), .val (.int (oC p3)), .val (.int (p4 &&& (3 : Int32))), .val .null, vA b1, vA x42_r, .unset] [(.ref b63)])) _
    refine XS.astore X89.here hx rfl (hb hby at_255) rfl rfl (l' := #[vI p0, vI p1, vI p2, vI p3, vI p4, .val (.int (oC p0)), .val (.int (oC p1)), .val (.int (oC p2)), .val (.int (oC p3)), .val (.int (p4 &&& (3 : Int32))), .val .null, vA b1, vA x42_r, vA b63]) rfl ?_
    refine XS.goto X89.here hx rfl (pc0 := 257) (pc' := 683) rfl (hb hby at_257) (by decide) (by decide) ?_
    refine XS.aload X89.here hx rfl (hb hby at_683) rfl rfl ?_
    refine st91 _ ?_
    show Steps _ _ _ (T91.setTop (mkF m 688 #[vI p0, vI p1, vI p2, vI p3, vI p4, .val (.int (oC p0)), .val (.int (oC p1)), .val (.int (oC p2)), .val (.int (oC p3)), .val (.int (p4 &&& (3 : Int32))), .val .null, vA b1, vA x42_r, vA b63] [(.ref b91), (.ref x42_r)])) _
    refine XS.dup X91.here hx rfl (hb hby at_688) rfl rfl ?_
    refine XS.aload X91.here hx rfl (hb hby at_689) rfl rfl ?_
    refine st93.trans ?_
    show Steps _ _ _ (T93.setTop (mkF m 694 #[vI p0, vI p1, vI p2, vI p3, vI p4, .val (.int (oC p0)), .val (.int (oC p1)), .val (.int (oC p2)), .val (.int (oC p3)), .val (.int (p4 &&& (3 : Int32))), .val .null, vA b1, vA x42_r, vA b63] [(.ref b91), (.ref x42_r)])) _
    refine st127.trans ?_
    show Steps _ _ _ (T127.setTop (mkF m 697 #[vI p0, vI p1, vI p2, vI p3, vI p4, .val (.int (oC p0)), .val (.int (oC p1)), .val (.int (oC p2)), .val (.int (oC p3)), .val (.int (p4 &&& (3 : Int32))), .val .null, vA b1, vA x42_r, vA b63] [(.int 1)])) _
    exact retN X127 hx (t := .boolean) Bd.returns (by simp) (hb hby at_697) hr
  · show Q_law Z p0 p1 p2 p3 p4 cp h0 n0 _ T127.heap _
    rw [(Kq127 : T127.heap = T93.heap)]
    exact ⟨rfl, N127⟩
theorem rm_law_0 (l : Launch) (Z : State) (a0 : Array Value) (hw : HW Z a0) (ws : List Jvm.Cond) (p0 : Int32) (p1 : Int32) (p2 : Int32) (p3 : Int32) (p4 : Int32) (cp : Int32) (h0 : Heap) (n0 : Nat) (Z0 : n0 ≤ h0.size) (P0 : Old Z n0 h0) (P1 : sta0 Z (.int cp)) (hcs : ¬ (cp = (0 : Int32))) (hc40 : ¬ ((p4 &&& (3 : Int32)) = (0 : Int32))) (hc52 : (p4 &&& (3 : Int32)) = (1 : Int32)) :
    MetFree l x (head1 (Jvm.Cond.code x code maxLocals ret :: ws) room_1) (fun as' U => as' = #[(.int p0), (.int p1), (.int p2), (.int p3), (.int p4)] ∧ Z.Warmed39 U.vm ∧ U.heap = h0 ∧ CHv Z own_EL U.vm h0) (fun _ _ _ _ _ => True) (fun _ U o U' => ∃ v L, o = .returned v ∧ Q_law Z p0 p1 p2 p3 p4 cp h0 n0 v U'.heap L ∧ ReturnedEndW U o U' L room_1.cells room_1.slots) := by
  refine MetFree.of_bodySF (plainFor_of_name pn_10) hisR ?_
  intro p e s m args below meth c s₁ Bd hml0 hP hK
  obtain ⟨rfl, hZ, hh, hCH⟩ := hP
  have hx := Bd.exec
  have hby := Bd.bytes
  have hml : c.maxLocals = 14 := hml0
  have hown : (s.setVm s.vm).vm.findClass "com/example/upright_harness/uprightharness/AccountToStringPinLaw" = some m.cls := findClass_of_methodNamed Bd.named
  have hnm := (name_of_methodNamed Bd.named Bd.method).1
  have X0 : Stand p l e room_1 (s.setVm s.vm) m #[(.int p0), (.int p1), (.int p2), (.int p3), (.int p4)] below meth c s₁ [] 0 0 := Stand.of_body Bd
  have e0 : s₁.heap = h0 := by rw [← hh, Bd.state]; rfl
  have N0 := Fr.nil n0
  have hZ : Z.Warmed39 (s.setVm s.vm).vm := hZ
  have hS0 : s.Since s.vm h0.size := (State.WarmedH.refl s).since _
  have hk0 : h0.size ≤ h0.size := Nat.le_refl _
  have C0 : CHr Z own_EL s.vm h0 s.vm h0 := CHr.refl hCH
  obtain ⟨a1, T1, h1, k1_1, b1, k1, X1, e1, E1, hS1, hk1, hZ1, hown1, A1, FC1, FV1, V1, -, -, Cs1, Lt1, Sn1, st1⟩ := ldcCH X0 hx hZ hown (w_229 hw) (own_wS hw) e0 hS0 (by omega) (own_EW hw) (by decide) C0.1 (vs := []) (z := (0 : Int32)) ⟨by decide, by decide⟩ (by decide) (by decide) (g := (mkF m 55 #[vI p0, vI p1, vI p2, vI p3, vI p4, .val (.int (oC p0)), .val (.int (oC p1)), .val (.int (oC p2)), .val (.int (oC p3)), .val (.int (p4 &&& (3 : Int32))), .unset, .unset, .unset, .unset] [])) rfl (hb hby at_55) (n := 0) (by decide) (by decide) (by decide) (by decide)
  have z1 := E1.1
  have C1 := C0.trans Cs1
  have lt2 := own_l A1.lt
  have lt3 := own_l V1.lt
  obtain ⟨T4, h4, X4, e4, E4, A4, D4, -, st4⟩ := newO X1 hx hZ1 hown1 (w_0 hw) (w_1 hw) (w_2 hw) e1 (g := (mkF m 69 #[vI p0, vI p1, vI p2, vI p3, vI p4, .val (.int (oC p0)), .val (.int (oC p1)), .val (.int (oC p2)), .val (.int (oC p3)), .val (.int (p4 &&& (3 : Int32))), vA a1, .unset, .unset, .unset] [])) rfl (hb hby at_69) (by decide) (by decide)
  obtain ⟨b4, g4⟩ : ∃ z, z = h1.size := ⟨_, rfl⟩
  rw [← g4] at A4 D4 st4
  have z4 := E4.1
  have C4 := C1.trans (CHr.ext E4 C1.1)
  have lt5 := own_l A4.lt
  have F4_42 : Fld Z h4 b4 "com/example/upright_harness/uprightharness/Account" "user" "Ljava/lang/String;" .null := D4 (Or.inr (w_42 hw)) (ty := (.object "java/lang/String")) (by decide)
  have F4_45 : Fld Z h4 b4 "com/example/upright_harness/uprightharness/Account" "password" "Ljava/lang/String;" .null := D4 (Or.inr (w_45 hw)) (ty := (.object "java/lang/String")) (by decide)
  have F4_47 : Fld Z h4 b4 "com/example/upright_harness/uprightharness/Account" "domain" "Ljava/lang/String;" .null := D4 (Or.inr (w_47 hw)) (ty := (.object "java/lang/String")) (by decide)
  have F4_50 : Fld Z h4 b4 "com/example/upright_harness/uprightharness/Account" "target" "Ljava/lang/String;" .null := D4 (Or.inr (w_50 hw)) (ty := (.object "java/lang/String")) (by decide)
  have f7 := P0.ext E1
  have f8 := f7.ext E4
  obtain ⟨_, _, ⟨T6, L6, k6, n6⟩, -, X6, ⟨Lc6, hQ6, l6, y6, z6⟩, st6⟩ := Jvm.LawKit.callS X4 hx (y := m_4) hown1 (mvT hZ1 (w_3 hw)) (mvT hZ1 (w_4 hw)) (mvT hZ1 (w_5 hw)) (mvT hZ1 (w_6 hw)) (by decide) (backOf (W := 2) (rm_valueC l Z a0 hw [] ((oC p0)) cp h4 n0 (by omega) f8 P1 hcs (own_ch p0).2) hZ1 (w_6 hw) (w_5 hw) (by decide) (by decide)) (g := (mkF m 75 #[vI p0, vI p1, vI p2, vI p3, vI p4, .val (.int (oC p0)), .val (.int (oC p1)), .val (.int (oC p2)), .val (.int (oC p3)), .val (.int (p4 &&& (3 : Int32))), vA a1, .unset, .unset, .unset] [(.int (oC p0)), (.ref b4), (.ref b4)])) rfl (by rw [hml]; rfl) (argsL := [(.int (oC p0))]) (rest := [(.ref b4), (.ref b4)]) (lenOf pd_25 rfl) rfl (Nat.le_of_eq rfl) (hb hby at_75) (fun _ _ => ⟨rfl, e4, (by decide : 3 + 2 ≤ _), (by decide : 8 + 5 ≤ _)⟩)
  dsimp only [Pt.U, Pt.locs, Pt.cells, Pt.slots] at X6 l6 y6 z6 st6 hQ6
  rw [l6, y6, z6] at X6
  obtain ⟨x6_a_, x6_b, x6_k, rfl, Nq6, Kq6, r6_0, r6_1, r6_2, r6_3, r6_4, r6_5, r6_6⟩ := hQ6
  have N6 := Fr.app N0 Nq6
  have C6 := C4.trans (CHr.keep Kq6 sf0 C4.1)
  have z6' := Kq6.1
  have sf6_0 : Safe Z own_EL T1.vm T6.heap x6_a_ := Safe.keep Kq6 sf0 C4.1 (Safe.new (by omega))
  have sf6_1 : Safe Z own_EL T1.vm T6.heap x6_b := Safe.keep Kq6 sf0 C4.1 (Safe.new (by omega))
  have lt9 := own_l r6_2.lt
  have lt10 := own_l r6_3.lt
  have lt11 := own_l r6_4.lt
  have lt12 := own_l r6_5.lt
  obtain ⟨_, _, ⟨T13, L13, k13, n13⟩, -, X13, ⟨Lc13, hQ13, l13, y13, z13⟩, st13⟩ := Jvm.LawKit.callS X6 hx (y := m_4) hown1 (mvT hZ1 (w_3 hw)) (mvT hZ1 (w_4 hw)) (mvT hZ1 (w_5 hw)) (mvT hZ1 (w_6 hw)) (by decide) (backOf (W := 3) (rm_valueC l Z a0 hw [] ((oC p1)) cp T6.heap n0 (by omega) r6_6 P1 hcs (own_ch p1).2) hZ1 (w_6 hw) (w_5 hw) (by decide) (by decide)) (g := (mkF m 80 #[vI p0, vI p1, vI p2, vI p3, vI p4, .val (.int (oC p0)), .val (.int (oC p1)), .val (.int (oC p2)), .val (.int (oC p3)), .val (.int (p4 &&& (3 : Int32))), vA a1, .unset, .unset, .unset] [(.int (oC p1)), (.ref x6_a_), (.ref b4), (.ref b4)])) rfl (by rw [hml]; rfl) (argsL := [(.int (oC p1))]) (rest := [(.ref x6_a_), (.ref b4), (.ref b4)]) (lenOf pd_25 rfl) rfl (Nat.le_of_eq rfl) (hb hby at_80) (fun _ _ => ⟨rfl, rfl, (by decide : 5 + 2 ≤ _), (by decide : 13 + 5 ≤ _)⟩)
  dsimp only [Pt.U, Pt.locs, Pt.cells, Pt.slots] at X13 l13 y13 z13 st13 hQ13
  rw [l13, y13, z13] at X13
  obtain ⟨x13_a_, x13_b, x13_k, rfl, Nq13, Kq13, r13_0, r13_1, r13_2, r13_3, r13_4, r13_5, r13_6⟩ := hQ13
  have N13 := Fr.app N6 Nq13
  have C13 := C6.trans (CHr.keep Kq13 sf0 C6.1)
  have z13' := Kq13.1
  have sf13_0 : Safe Z own_EL T1.vm T13.heap x13_a_ := Safe.keep Kq13 sf0 C6.1 (Safe.new (by omega))
  have sf13_1 : Safe Z own_EL T1.vm T13.heap x13_b := Safe.keep Kq13 sf0 C6.1 (Safe.new (by omega))
  have lt14 := own_l r13_2.lt
  have lt15 := own_l r13_3.lt
  have lt16 := own_l r13_4.lt
  have lt17 := own_l r13_5.lt
  obtain ⟨_, _, ⟨T18, L18, k18, n18⟩, -, X18, ⟨Lc18, hQ18, l18, y18, z18⟩, st18⟩ := Jvm.LawKit.callS X13 hx (y := m_4) hown1 (mvT hZ1 (w_3 hw)) (mvT hZ1 (w_4 hw)) (mvT hZ1 (w_5 hw)) (mvT hZ1 (w_6 hw)) (by decide) (backOf (W := 5) (rm_valueC l Z a0 hw [] ((oC p3)) cp T13.heap n0 (by omega) r13_6 P1 hcs (own_ch p3).2) hZ1 (w_6 hw) (w_5 hw) (by decide) (by decide)) (g := (mkF m 87 #[vI p0, vI p1, vI p2, vI p3, vI p4, .val (.int (oC p0)), .val (.int (oC p1)), .val (.int (oC p2)), .val (.int (oC p3)), .val (.int (p4 &&& (3 : Int32))), vA a1, .unset, .unset, .unset] [(.int (oC p3)), (.ref a1), (.ref x13_a_), (.ref x6_a_), (.ref b4), (.ref b4)])) rfl (by rw [hml]; rfl) (argsL := [(.int (oC p3))]) (rest := [(.ref a1), (.ref x13_a_), (.ref x6_a_), (.ref b4), (.ref b4)]) (lenOf pd_25 rfl) rfl (Nat.le_of_eq rfl) (hb hby at_87) (fun _ _ => ⟨rfl, rfl, (by decide : 7 + 2 ≤ _), (by decide : 18 + 5 ≤ _)⟩)
  dsimp only [Pt.U, Pt.locs, Pt.cells, Pt.slots] at X18 l18 y18 z18 st18 hQ18
  rw [l18, y18, z18] at X18
  obtain ⟨x18_a_, x18_b, x18_k, rfl, Nq18, Kq18, r18_0, r18_1, r18_2, r18_3, r18_4, r18_5, r18_6⟩ := hQ18
  have N18 := Fr.app N13 Nq18
  have C18 := C13.trans (CHr.keep Kq18 sf0 C13.1)
  have z18' := Kq18.1
  have sf18_0 : Safe Z own_EL T1.vm T18.heap x18_a_ := Safe.keep Kq18 sf0 C13.1 (Safe.new (by omega))
  have sf18_1 : Safe Z own_EL T1.vm T18.heap x18_b := Safe.keep Kq18 sf0 C13.1 (Safe.new (by omega))
  have lt19 := own_l r18_2.lt
  have lt20 := own_l r18_3.lt
  have lt21 := own_l r18_4.lt
  have lt22 := own_l r18_5.lt
  have f24 := A4.keep Kq6
  have f25 := f24.keep Kq13
  have f26 := f25.keep Kq18
  have f27 := F4_42.keep Kq6 nin0
  have f28 := f27.keep Kq13 nin0
  have f29 := f28.keep Kq18 nin0
  have f30 := F4_45.keep Kq6 nin0
  have f31 := f30.keep Kq13 nin0
  have f32 := f31.keep Kq18 nin0
  have f33 := F4_47.keep Kq6 nin0
  have f34 := f33.keep Kq13 nin0
  have f35 := f34.keep Kq18 nin0
  have f36 := F4_50.keep Kq6 nin0
  have f37 := f36.keep Kq13 nin0
  have f38 := f37.keep Kq18 nin0
  have f39 := r6_2.keep Kq13
  have f40 := f39.keep Kq18
  have f41 := r13_2.keep Kq18
  obtain ⟨_, _, ⟨T23, L23, k23, n23⟩, -, X23, hSb23, hgr23, ⟨Lc23, hQ23, l23, y23, z23, Cs23⟩, st23⟩ := X18.specialBackS hx (y := m_35) rfl hown1 (mvT hZ1 (w_29 hw)) (mvT hZ1 (w_30 hw)) (mvT hZ1 (w_31 hw)) (by decide) (backOfSH (W := 1) (rm_acci l Z a0 hw [] b4 x6_a_ x13_a_ ((.ref a1)) x18_a_ T18.heap n0 (by omega) f26 f29 f32 f35 f38 (by omega) f40 f41 r18_2 rfl) hZ1 (w_31 hw) (w_2 hw) (by decide) (by decide) (own_EW hw) C18.1) (g := (mkF m 90 #[vI p0, vI p1, vI p2, vI p3, vI p4, .val (.int (oC p0)), .val (.int (oC p1)), .val (.int (oC p2)), .val (.int (oC p3)), .val (.int (p4 &&& (3 : Int32))), vA a1, .unset, .unset, .unset] [(.ref x18_a_), (.ref a1), (.ref x13_a_), (.ref x6_a_), (.ref b4), (.ref b4)])) rfl (by rw [hml]; rfl) (Steps.refl _) (a := b4) (argsL := [(.ref x6_a_), (.ref x13_a_), (.ref a1), (.ref x18_a_)]) (rest := [(.ref b4)]) (lenOf pd_26 rfl) rfl (Nat.le_of_eq rfl) (hb hby at_90) (fun _ _ => ⟨rfl, rfl, (by decide : 9 + 6 ≤ _), (by decide : 23 + 84 ≤ _)⟩)
  dsimp only [Pt.U, Pt.locs, Pt.cells, Pt.slots] at X23 l23 y23 z23 st23 hQ23 hSb23 hgr23 Cs23
  rw [l23, y23, z23] at X23
  obtain ⟨X23, hS23, hZ23, hown23⟩ := rebS hS1 (by omega) X23 hSb23 hgr23 hZ1 hown1
  have hk23 : T23.heap.size ≤ T23.heap.size := Nat.le_refl _
  obtain ⟨rfl, Nq23, Kq23, r23_0, r23_1, r23_2, r23_3⟩ := hQ23
  have N23 := Fr.app N18 Nq23
  have C23 := C18.trans Cs23
  have z23' := Kq23.1
  have lt42 := own_l r23_0.lt
  have lt43 := own_l r23_1.lt
  have lt44 := own_l r23_2.lt
  have lt45 := own_l r23_3.lt
  have f47 := r18_6.keep Kq23 (allS (by omega) all0)
  have f48 := f40.keep Kq23
  have f49 := r6_4.keep Kq13 nin0
  have f50 := f49.keep Kq18 nin0
  have f51 := f50.keep Kq23 (ninS (own_ne (by omega)) nin0)
  have f52 := r6_3.keep Kq13 nin0
  have f53 := f52.keep Kq18 nin0
  have f54 := f53.keep Kq23 (ninS (own_ne (by omega)) nin0)
  have f55 := r6_5.keep Kq13 nin0
  have f56 := f55.keep Kq18 nin0
  have f57 := f56.keep Kq23 (ninS (own_ne (by omega)) nin0)
  have f58 := r18_2.keep Kq23
  have f59 := r18_4.keep Kq23 (ninS (own_ne (by omega)) nin0)
  have f60 := r18_3.keep Kq23 (ninS (own_ne (by omega)) nin0)
  have f61 := r18_5.keep Kq23 (ninS (own_ne (by omega)) nin0)
  have f62 := A1.ext E4
  have f63 := f62.keep Kq6
  have f64 := f63.keep Kq13
  have f65 := f64.keep Kq18
  have f66 := f65.keep Kq23
  have f67 := FC1.ext E4
  have f68 := f67.keep Kq6 nin0
  have f69 := f68.keep Kq13 nin0
  have f70 := f69.keep Kq18 nin0
  have f71 := f70.keep Kq23 (ninS (own_ne (by omega)) nin0)
  have f72 := FV1.ext E4
  have f73 := f72.keep Kq6 nin0
  have f74 := f73.keep Kq13 nin0
  have f75 := f74.keep Kq18 nin0
  have f76 := f75.keep Kq23 (ninS (own_ne (by omega)) nin0)
  have f77 := V1.ext E4
  have f78 := f77.keep Kq6 nin0
  have f79 := f78.keep Kq13 nin0
  have f80 := f79.keep Kq18 nin0
  have f81 := f80.keep Kq23 (ninS (own_ne (by omega)) nin0)
  obtain ⟨cq46, kq46, qa46, qb46, qc46⟩ := isOf hZ23 rfl r23_0
  obtain ⟨_, _, ⟨T46, L46, k46, n46⟩, -, X46, hSb46, hgr46, ⟨Lc46, hQ46, l46, y46, z46, Cs46⟩, st46⟩ := X23.virtualBackS hx (y := m_36) (z := m_36) hown23 (mvT hZ23 (w_51 hw)) (mvT hZ23 (w_52 hw)) (notFace_of_selects (args := #[]) (mvT hZ23 (w_54 hw))) (mvT hZ23 (w_54 hw)) (mvT hZ23 (w_53 hw)) (by decide) (backOfSH (W := 0) (rm_ts0 l Z a0 hw [] b4 cp x6_a_ x6_b x6_k x18_a_ x18_b x18_k ((oB (oC p0))) ((oB (oC p3))) a1 b1 k1 T23.heap n0 (by omega) f47 P1 r23_0 r23_1 r23_2 r23_3 f48 f51 f54 f57 f58 f59 f60 f61 f66 f71 f76 f81 hcs) hZ23 (w_55 hw) (w_2 hw) (by decide) (by decide) (own_EW hw) C23.1) qa46 qc46 (g := (mkF m 97 #[vI p0, vI p1, vI p2, vI p3, vI p4, .val (.int (oC p0)), .val (.int (oC p1)), .val (.int (oC p2)), .val (.int (oC p3)), .val (.int (p4 &&& (3 : Int32))), vA a1, vA b4, .unset, .unset] [(.ref b4)])) rfl (by rw [hml]; rfl) (Steps.refl _) (argsL := []) (rest := []) (lenOf pd_24 rfl) rfl (Nat.le_of_eq rfl) (hb hby at_97) (fun _ _ => ⟨rfl, rfl, (by decide : 15 + 11 ≤ _), (by decide : 107 + 293 ≤ _)⟩)
  dsimp only [Pt.U, Pt.locs, Pt.cells, Pt.slots] at X46 l46 y46 z46 st46 hQ46 hSb46 hgr46 Cs46
  rw [l46, y46, z46] at X46
  obtain ⟨X46, hS46, hZ46, hown46⟩ := rebS hS23 (by omega) X46 hSb46 hgr46 hZ23 hown23
  have hk46 : T46.heap.size ≤ T46.heap.size := Nat.le_refl _
  obtain ⟨x46_r, x46_b, x46_k, rfl, Nq46, Kq46, r46_0, r46_1, r46_2, r46_3⟩ := hQ46
  have N46 := Fr.app N23 Nq46
  have C46 := C23.trans Cs46
  have z46' := Kq46.1
  have lt82 := own_l r46_0.lt
  have lt83 := own_l r46_1.lt
  have lt84 := own_l r46_2.lt
  have lt85 := own_l r46_3.lt
  have V86 : Arv Z T46.heap x46_b x46_k .byte (34 : Int32) (oW0 (oC p0) (oC p3)) (.int 0) := own_w0 (oC p0) (oC p3) ▸ r46_3
  obtain ⟨T87, h87, k87, X87, e87, E87, A87, st87⟩ := newP X46 hx hZ46 (aty := .char) (w_185 hw) rfl (g := (mkF m 268 #[vI p0, vI p1, vI p2, vI p3, vI p4, .val (.int (oC p0)), .val (.int (oC p1)), .val (.int (oC p2)), .val (.int (oC p3)), .val (.int (p4 &&& (3 : Int32))), vA a1, vA b4, vA x46_r, .unset] [(.int 34)])) rfl (hb hby at_268) rfl (by decide) (cap := 34) (by decide) (by decide) (by decide) (by decide)
  obtain ⟨b87, g87⟩ : ∃ z, z = T46.heap.size := ⟨_, rfl⟩
  rw [← g87] at A87 st87
  have z87 := E87.1
  have V87 : Arv Z h87 b87 k87 .char (34 : Int32) [(.int 0), (.int 0), (.int 0), (.int 0), (.int 0), (.int 0), (.int 0), (.int 0), (.int 0), (.int 0), (.int 0), (.int 0), (.int 0), (.int 0), (.int 0), (.int 0), (.int 0), (.int 0), (.int 0), (.int 0), (.int 0), (.int 0), (.int 0), (.int 0), (.int 0), (.int 0), (.int 0), (.int 0), (.int 0), (.int 0), (.int 0), (.int 0), (.int 0), (.int 0)] (.int 0) := (Arv.new A87 (by decide)).pad (pad_rep [] (.int 0) 34)
  have lt88 := own_l V87.lt
  obtain ⟨cl89, Ar89, q89, S89, M89, H89, G89⟩ := id V87
  have hin89 : ¬ ((0 : Int32) < 0 ∨ cl89.slots.size ≤ ((0 : Int32)).toNatClampNeg) := inb_of S89 ⟨by decide, by decide⟩
  obtain ⟨T89, h89, X89, e89, W89, st89⟩ := stC X87 hx hZ46 e87 Ar89 (j := (0 : Int32)) hin89 (g := (mkF m 274 #[vI p0, vI p1, vI p2, vI p3, vI p4, .val (.int (oC p0)), .val (.int (oC p1)), .val (.int (oC p2)), .val (.int (oC p3)), .val (.int (p4 &&& (3 : Int32))), vA a1, vA b4, vA x46_r, .unset] [(.int 65), (.int 0), (.ref b87), (.ref b87)])) rfl rfl (hb hby at_274)
  have V89 : Arv Z h89 b87 k87 .char (34 : Int32) [(.int 65), (.int 0), (.int 0), (.int 0), (.int 0), (.int 0), (.int 0), (.int 0), (.int 0), (.int 0), (.int 0), (.int 0), (.int 0), (.int 0), (.int 0), (.int 0), (.int 0), (.int 0), (.int 0), (.int 0), (.int 0), (.int 0), (.int 0), (.int 0), (.int 0), (.int 0), (.int 0), (.int 0), (.int 0), (.int 0), (.int 0), (.int 0), (.int 0), (.int 0)] (.int 0) := Arv.set Ar89 q89 S89 M89 H89 G89 (fits_nar_char (65 : Int32)) W89 0 rfl (Nat.le_of_ble_eq_true rfl)
  have z89 := W89.size
  have N89 := Fr.snoc X89 N46 (by omega)
  obtain ⟨cl90, Ar90, q90, S90, M90, H90, G90⟩ := id V89
  have hin90 : ¬ ((1 : Int32) < 0 ∨ cl90.slots.size ≤ ((1 : Int32)).toNatClampNeg) := inb_of S90 ⟨by decide, by decide⟩
  obtain ⟨T90, h90, X90, e90, W90, st90⟩ := stC X89 hx hZ46 e89 Ar90 (j := (1 : Int32)) hin90 (g := (mkF m 279 #[vI p0, vI p1, vI p2, vI p3, vI p4, .val (.int (oC p0)), .val (.int (oC p1)), .val (.int (oC p2)), .val (.int (oC p3)), .val (.int (p4 &&& (3 : Int32))), vA a1, vA b4, vA x46_r, .unset] [(.int 99), (.int 1), (.ref b87), (.ref b87)])) rfl rfl (hb hby at_279)
  have V90 : Arv Z h90 b87 k87 .char (34 : Int32) [(.int 65), (.int 99), (.int 0), (.int 0), (.int 0), (.int 0), (.int 0), (.int 0), (.int 0), (.int 0), (.int 0), (.int 0), (.int 0), (.int 0), (.int 0), (.int 0), (.int 0), (.int 0), (.int 0), (.int 0), (.int 0), (.int 0), (.int 0), (.int 0), (.int 0), (.int 0), (.int 0), (.int 0), (.int 0), (.int 0), (.int 0), (.int 0), (.int 0), (.int 0)] (.int 0) := Arv.set Ar90 q90 S90 M90 H90 G90 (fits_nar_char (99 : Int32)) W90 1 rfl (Nat.le_of_ble_eq_true rfl)
  have z90 := W90.size
  have N90 := Fr.snoc X90 N89 (by omega)
  obtain ⟨cl91, Ar91, q91, S91, M91, H91, G91⟩ := id V90
  have hin91 : ¬ ((2 : Int32) < 0 ∨ cl91.slots.size ≤ ((2 : Int32)).toNatClampNeg) := inb_of S91 ⟨by decide, by decide⟩
  obtain ⟨T91, h91, X91, e91, W91, st91⟩ := stC X90 hx hZ46 e90 Ar91 (j := (2 : Int32)) hin91 (g := (mkF m 284 #[vI p0, vI p1, vI p2, vI p3, vI p4, .val (.int (oC p0)), .val (.int (oC p1)), .val (.int (oC p2)), .val (.int (oC p3)), .val (.int (p4 &&& (3 : Int32))), vA a1, vA b4, vA x46_r, .unset] [(.int 99), (.int 2), (.ref b87), (.ref b87)])) rfl rfl (hb hby at_284)
  have V91 : Arv Z h91 b87 k87 .char (34 : Int32) [(.int 65), (.int 99), (.int 99), (.int 0), (.int 0), (.int 0), (.int 0), (.int 0), (.int 0), (.int 0), (.int 0), (.int 0), (.int 0), (.int 0), (.int 0), (.int 0), (.int 0), (.int 0), (.int 0), (.int 0), (.int 0), (.int 0), (.int 0), (.int 0), (.int 0), (.int 0), (.int 0), (.int 0), (.int 0), (.int 0), (.int 0), (.int 0), (.int 0), (.int 0)] (.int 0) := Arv.set Ar91 q91 S91 M91 H91 G91 (fits_nar_char (99 : Int32)) W91 2 rfl (Nat.le_of_ble_eq_true rfl)
  have z91 := W91.size
  have N91 := Fr.snoc X91 N90 (by omega)
  obtain ⟨cl92, Ar92, q92, S92, M92, H92, G92⟩ := id V91
  have hin92 : ¬ ((3 : Int32) < 0 ∨ cl92.slots.size ≤ ((3 : Int32)).toNatClampNeg) := inb_of S92 ⟨by decide, by decide⟩
  obtain ⟨T92, h92, X92, e92, W92, st92⟩ := stC X91 hx hZ46 e91 Ar92 (j := (3 : Int32)) hin92 (g := (mkF m 289 #[vI p0, vI p1, vI p2, vI p3, vI p4, .val (.int (oC p0)), .val (.int (oC p1)), .val (.int (oC p2)), .val (.int (oC p3)), .val (.int (p4 &&& (3 : Int32))), vA a1, vA b4, vA x46_r, .unset] [(.int 111), (.int 3), (.ref b87), (.ref b87)])) rfl rfl (hb hby at_289)
  have V92 : Arv Z h92 b87 k87 .char (34 : Int32) [(.int 65), (.int 99), (.int 99), (.int 111), (.int 0), (.int 0), (.int 0), (.int 0), (.int 0), (.int 0), (.int 0), (.int 0), (.int 0), (.int 0), (.int 0), (.int 0), (.int 0), (.int 0), (.int 0), (.int 0), (.int 0), (.int 0), (.int 0), (.int 0), (.int 0), (.int 0), (.int 0), (.int 0), (.int 0), (.int 0), (.int 0), (.int 0), (.int 0), (.int 0)] (.int 0) := Arv.set Ar92 q92 S92 M92 H92 G92 (fits_nar_char (111 : Int32)) W92 3 rfl (Nat.le_of_ble_eq_true rfl)
  have z92 := W92.size
  have N92 := Fr.snoc X92 N91 (by omega)
  obtain ⟨cl93, Ar93, q93, S93, M93, H93, G93⟩ := id V92
  have hin93 : ¬ ((4 : Int32) < 0 ∨ cl93.slots.size ≤ ((4 : Int32)).toNatClampNeg) := inb_of S93 ⟨by decide, by decide⟩
  obtain ⟨T93, h93, X93, e93, W93, st93⟩ := stC X92 hx hZ46 e92 Ar93 (j := (4 : Int32)) hin93 (g := (mkF m 294 #[vI p0, vI p1, vI p2, vI p3, vI p4, .val (.int (oC p0)), .val (.int (oC p1)), .val (.int (oC p2)), .val (.int (oC p3)), .val (.int (p4 &&& (3 : Int32))), vA a1, vA b4, vA x46_r, .unset] [(.int 117), (.int 4), (.ref b87), (.ref b87)])) rfl rfl (hb hby at_294)
  have V93 : Arv Z h93 b87 k87 .char (34 : Int32) [(.int 65), (.int 99), (.int 99), (.int 111), (.int 117), (.int 0), (.int 0), (.int 0), (.int 0), (.int 0), (.int 0), (.int 0), (.int 0), (.int 0), (.int 0), (.int 0), (.int 0), (.int 0), (.int 0), (.int 0), (.int 0), (.int 0), (.int 0), (.int 0), (.int 0), (.int 0), (.int 0), (.int 0), (.int 0), (.int 0), (.int 0), (.int 0), (.int 0), (.int 0)] (.int 0) := Arv.set Ar93 q93 S93 M93 H93 G93 (fits_nar_char (117 : Int32)) W93 4 rfl (Nat.le_of_ble_eq_true rfl)
  have z93 := W93.size
  have N93 := Fr.snoc X93 N92 (by omega)
  obtain ⟨cl94, Ar94, q94, S94, M94, H94, G94⟩ := id V93
  have hin94 : ¬ ((5 : Int32) < 0 ∨ cl94.slots.size ≤ ((5 : Int32)).toNatClampNeg) := inb_of S94 ⟨by decide, by decide⟩
  obtain ⟨T94, h94, X94, e94, W94, st94⟩ := stC X93 hx hZ46 e93 Ar94 (j := (5 : Int32)) hin94 (g := (mkF m 299 #[vI p0, vI p1, vI p2, vI p3, vI p4, .val (.int (oC p0)), .val (.int (oC p1)), .val (.int (oC p2)), .val (.int (oC p3)), .val (.int (p4 &&& (3 : Int32))), vA a1, vA b4, vA x46_r, .unset] [(.int 110), (.int 5), (.ref b87), (.ref b87)])) rfl rfl (hb hby at_299)
  have V94 : Arv Z h94 b87 k87 .char (34 : Int32) [(.int 65), (.int 99), (.int 99), (.int 111), (.int 117), (.int 110), (.int 0), (.int 0), (.int 0), (.int 0), (.int 0), (.int 0), (.int 0), (.int 0), (.int 0), (.int 0), (.int 0), (.int 0), (.int 0), (.int 0), (.int 0), (.int 0), (.int 0), (.int 0), (.int 0), (.int 0), (.int 0), (.int 0), (.int 0), (.int 0), (.int 0), (.int 0), (.int 0), (.int 0)] (.int 0) := Arv.set Ar94 q94 S94 M94 H94 G94 (fits_nar_char (110 : Int32)) W94 5 rfl (Nat.le_of_ble_eq_true rfl)
  have z94 := W94.size
  have N94 := Fr.snoc X94 N93 (by omega)
  obtain ⟨cl95, Ar95, q95, S95, M95, H95, G95⟩ := id V94
  have hin95 : ¬ ((6 : Int32) < 0 ∨ cl95.slots.size ≤ ((6 : Int32)).toNatClampNeg) := inb_of S95 ⟨by decide, by decide⟩
  obtain ⟨T95, h95, X95, e95, W95, st95⟩ := stC X94 hx hZ46 e94 Ar95 (j := (6 : Int32)) hin95 (g := (mkF m 305 #[vI p0, vI p1, vI p2, vI p3, vI p4, .val (.int (oC p0)), .val (.int (oC p1)), .val (.int (oC p2)), .val (.int (oC p3)), .val (.int (p4 &&& (3 : Int32))), vA a1, vA b4, vA x46_r, .unset] [(.int 116), (.int 6), (.ref b87), (.ref b87)])) rfl rfl (hb hby at_305)
  have V95 : Arv Z h95 b87 k87 .char (34 : Int32) [(.int 65), (.int 99), (.int 99), (.int 111), (.int 117), (.int 110), (.int 116), (.int 0), (.int 0), (.int 0), (.int 0), (.int 0), (.int 0), (.int 0), (.int 0), (.int 0), (.int 0), (.int 0), (.int 0), (.int 0), (.int 0), (.int 0), (.int 0), (.int 0), (.int 0), (.int 0), (.int 0), (.int 0), (.int 0), (.int 0), (.int 0), (.int 0), (.int 0), (.int 0)] (.int 0) := Arv.set Ar95 q95 S95 M95 H95 G95 (fits_nar_char (116 : Int32)) W95 6 rfl (Nat.le_of_ble_eq_true rfl)
  have z95 := W95.size
  have N95 := Fr.snoc X95 N94 (by omega)
  obtain ⟨cl96, Ar96, q96, S96, M96, H96, G96⟩ := id V95
  have hin96 : ¬ ((7 : Int32) < 0 ∨ cl96.slots.size ≤ ((7 : Int32)).toNatClampNeg) := inb_of S96 ⟨by decide, by decide⟩
  obtain ⟨T96, h96, X96, e96, W96, st96⟩ := stC X95 hx hZ46 e95 Ar96 (j := (7 : Int32)) hin96 (g := (mkF m 311 #[vI p0, vI p1, vI p2, vI p3, vI p4, .val (.int (oC p0)), .val (.int (oC p1)), .val (.int (oC p2)), .val (.int (oC p3)), .val (.int (p4 &&& (3 : Int32))), vA a1, vA b4, vA x46_r, .unset] [(.int 91), (.int 7), (.ref b87), (.ref b87)])) rfl rfl (hb hby at_311)
  have V96 : Arv Z h96 b87 k87 .char (34 : Int32) [(.int 65), (.int 99), (.int 99), (.int 111), (.int 117), (.int 110), (.int 116), (.int 91), (.int 0), (.int 0), (.int 0), (.int 0), (.int 0), (.int 0), (.int 0), (.int 0), (.int 0), (.int 0), (.int 0), (.int 0), (.int 0), (.int 0), (.int 0), (.int 0), (.int 0), (.int 0), (.int 0), (.int 0), (.int 0), (.int 0), (.int 0), (.int 0), (.int 0), (.int 0)] (.int 0) := Arv.set Ar96 q96 S96 M96 H96 G96 (fits_nar_char (91 : Int32)) W96 7 rfl (Nat.le_of_ble_eq_true rfl)
  have z96 := W96.size
  have N96 := Fr.snoc X96 N95 (by omega)
  obtain ⟨cl97, Ar97, q97, S97, M97, H97, G97⟩ := id V96
  have hin97 : ¬ ((8 : Int32) < 0 ∨ cl97.slots.size ≤ ((8 : Int32)).toNatClampNeg) := inb_of S97 ⟨by decide, by decide⟩
  obtain ⟨T97, h97, X97, e97, W97, st97⟩ := stC X96 hx hZ46 e96 Ar97 (j := (8 : Int32)) hin97 (g := (mkF m 317 #[vI p0, vI p1, vI p2, vI p3, vI p4, .val (.int (oC p0)), .val (.int (oC p1)), .val (.int (oC p2)), .val (.int (oC p3)), .val (.int (p4 &&& (3 : Int32))), vA a1, vA b4, vA x46_r, .unset] [(.int 117), (.int 8), (.ref b87), (.ref b87)])) rfl rfl (hb hby at_317)
  have V97 : Arv Z h97 b87 k87 .char (34 : Int32) [(.int 65), (.int 99), (.int 99), (.int 111), (.int 117), (.int 110), (.int 116), (.int 91), (.int 117), (.int 0), (.int 0), (.int 0), (.int 0), (.int 0), (.int 0), (.int 0), (.int 0), (.int 0), (.int 0), (.int 0), (.int 0), (.int 0), (.int 0), (.int 0), (.int 0), (.int 0), (.int 0), (.int 0), (.int 0), (.int 0), (.int 0), (.int 0), (.int 0), (.int 0)] (.int 0) := Arv.set Ar97 q97 S97 M97 H97 G97 (fits_nar_char (117 : Int32)) W97 8 rfl (Nat.le_of_ble_eq_true rfl)
  have z97 := W97.size
  have N97 := Fr.snoc X97 N96 (by omega)
  obtain ⟨cl98, Ar98, q98, S98, M98, H98, G98⟩ := id V97
  have hin98 : ¬ ((9 : Int32) < 0 ∨ cl98.slots.size ≤ ((9 : Int32)).toNatClampNeg) := inb_of S98 ⟨by decide, by decide⟩
  obtain ⟨T98, h98, X98, e98, W98, st98⟩ := stC X97 hx hZ46 e97 Ar98 (j := (9 : Int32)) hin98 (g := (mkF m 323 #[vI p0, vI p1, vI p2, vI p3, vI p4, .val (.int (oC p0)), .val (.int (oC p1)), .val (.int (oC p2)), .val (.int (oC p3)), .val (.int (p4 &&& (3 : Int32))), vA a1, vA b4, vA x46_r, .unset] [(.int 115), (.int 9), (.ref b87), (.ref b87)])) rfl rfl (hb hby at_323)
  have V98 : Arv Z h98 b87 k87 .char (34 : Int32) [(.int 65), (.int 99), (.int 99), (.int 111), (.int 117), (.int 110), (.int 116), (.int 91), (.int 117), (.int 115), (.int 0), (.int 0), (.int 0), (.int 0), (.int 0), (.int 0), (.int 0), (.int 0), (.int 0), (.int 0), (.int 0), (.int 0), (.int 0), (.int 0), (.int 0), (.int 0), (.int 0), (.int 0), (.int 0), (.int 0), (.int 0), (.int 0), (.int 0), (.int 0)] (.int 0) := Arv.set Ar98 q98 S98 M98 H98 G98 (fits_nar_char (115 : Int32)) W98 9 rfl (Nat.le_of_ble_eq_true rfl)
  have z98 := W98.size
  have N98 := Fr.snoc X98 N97 (by omega)
  obtain ⟨cl99, Ar99, q99, S99, M99, H99, G99⟩ := id V98
  have hin99 : ¬ ((10 : Int32) < 0 ∨ cl99.slots.size ≤ ((10 : Int32)).toNatClampNeg) := inb_of S99 ⟨by decide, by decide⟩
  obtain ⟨T99, h99, X99, e99, W99, st99⟩ := stC X98 hx hZ46 e98 Ar99 (j := (10 : Int32)) hin99 (g := (mkF m 329 #[vI p0, vI p1, vI p2, vI p3, vI p4, .val (.int (oC p0)), .val (.int (oC p1)), .val (.int (oC p2)), .val (.int (oC p3)), .val (.int (p4 &&& (3 : Int32))), vA a1, vA b4, vA x46_r, .unset] [(.int 101), (.int 10), (.ref b87), (.ref b87)])) rfl rfl (hb hby at_329)
  have V99 : Arv Z h99 b87 k87 .char (34 : Int32) [(.int 65), (.int 99), (.int 99), (.int 111), (.int 117), (.int 110), (.int 116), (.int 91), (.int 117), (.int 115), (.int 101), (.int 0), (.int 0), (.int 0), (.int 0), (.int 0), (.int 0), (.int 0), (.int 0), (.int 0), (.int 0), (.int 0), (.int 0), (.int 0), (.int 0), (.int 0), (.int 0), (.int 0), (.int 0), (.int 0), (.int 0), (.int 0), (.int 0), (.int 0)] (.int 0) := Arv.set Ar99 q99 S99 M99 H99 G99 (fits_nar_char (101 : Int32)) W99 10 rfl (Nat.le_of_ble_eq_true rfl)
  have z99 := W99.size
  have N99 := Fr.snoc X99 N98 (by omega)
  obtain ⟨cl100, Ar100, q100, S100, M100, H100, G100⟩ := id V99
  have hin100 : ¬ ((11 : Int32) < 0 ∨ cl100.slots.size ≤ ((11 : Int32)).toNatClampNeg) := inb_of S100 ⟨by decide, by decide⟩
  obtain ⟨T100, h100, X100, e100, W100, st100⟩ := stC X99 hx hZ46 e99 Ar100 (j := (11 : Int32)) hin100 (g := (mkF m 335 #[vI p0, vI p1, vI p2, vI p3, vI p4, .val (.int (oC p0)), .val (.int (oC p1)), .val (.int (oC p2)), .val (.int (oC p3)), .val (.int (p4 &&& (3 : Int32))), vA a1, vA b4, vA x46_r, .unset] [(.int 114), (.int 11), (.ref b87), (.ref b87)])) rfl rfl (hb hby at_335)
  have V100 : Arv Z h100 b87 k87 .char (34 : Int32) [(.int 65), (.int 99), (.int 99), (.int 111), (.int 117), (.int 110), (.int 116), (.int 91), (.int 117), (.int 115), (.int 101), (.int 114), (.int 0), (.int 0), (.int 0), (.int 0), (.int 0), (.int 0), (.int 0), (.int 0), (.int 0), (.int 0), (.int 0), (.int 0), (.int 0), (.int 0), (.int 0), (.int 0), (.int 0), (.int 0), (.int 0), (.int 0), (.int 0), (.int 0)] (.int 0) := Arv.set Ar100 q100 S100 M100 H100 G100 (fits_nar_char (114 : Int32)) W100 11 rfl (Nat.le_of_ble_eq_true rfl)
  have z100 := W100.size
  have N100 := Fr.snoc X100 N99 (by omega)
  obtain ⟨cl101, Ar101, q101, S101, M101, H101, G101⟩ := id V100
  have hin101 : ¬ ((12 : Int32) < 0 ∨ cl101.slots.size ≤ ((12 : Int32)).toNatClampNeg) := inb_of S101 ⟨by decide, by decide⟩
  obtain ⟨T101, h101, X101, e101, W101, st101⟩ := stC X100 hx hZ46 e100 Ar101 (j := (12 : Int32)) hin101 (g := (mkF m 341 #[vI p0, vI p1, vI p2, vI p3, vI p4, .val (.int (oC p0)), .val (.int (oC p1)), .val (.int (oC p2)), .val (.int (oC p3)), .val (.int (p4 &&& (3 : Int32))), vA a1, vA b4, vA x46_r, .unset] [(.int 61), (.int 12), (.ref b87), (.ref b87)])) rfl rfl (hb hby at_341)
  have V101 : Arv Z h101 b87 k87 .char (34 : Int32) [(.int 65), (.int 99), (.int 99), (.int 111), (.int 117), (.int 110), (.int 116), (.int 91), (.int 117), (.int 115), (.int 101), (.int 114), (.int 61), (.int 0), (.int 0), (.int 0), (.int 0), (.int 0), (.int 0), (.int 0), (.int 0), (.int 0), (.int 0), (.int 0), (.int 0), (.int 0), (.int 0), (.int 0), (.int 0), (.int 0), (.int 0), (.int 0), (.int 0), (.int 0)] (.int 0) := Arv.set Ar101 q101 S101 M101 H101 G101 (fits_nar_char (61 : Int32)) W101 12 rfl (Nat.le_of_ble_eq_true rfl)
  have z101 := W101.size
  have N101 := Fr.snoc X101 N100 (by omega)
  obtain ⟨cl102, Ar102, q102, S102, M102, H102, G102⟩ := id V101
  have hin102 : ¬ ((13 : Int32) < 0 ∨ cl102.slots.size ≤ ((13 : Int32)).toNatClampNeg) := inb_of S102 ⟨by decide, by decide⟩
  obtain ⟨T102, h102, X102, e102, W102, st102⟩ := stC X101 hx hZ46 e101 Ar102 (j := (13 : Int32)) hin102 (g := (mkF m 347 #[vI p0, vI p1, vI p2, vI p3, vI p4, .val (.int (oC p0)), .val (.int (oC p1)), .val (.int (oC p2)), .val (.int (oC p3)), .val (.int (p4 &&& (3 : Int32))), vA a1, vA b4, vA x46_r, .unset] [(.int (oC p0)), (.int 13), (.ref b87), (.ref b87)])) rfl rfl (hb hby at_347)
  have V102 : Arv Z h102 b87 k87 .char (34 : Int32) [(.int 65), (.int 99), (.int 99), (.int 111), (.int 117), (.int 110), (.int 116), (.int 91), (.int 117), (.int 115), (.int 101), (.int 114), (.int 61), (.int (nar .char (oC p0))), (.int 0), (.int 0), (.int 0), (.int 0), (.int 0), (.int 0), (.int 0), (.int 0), (.int 0), (.int 0), (.int 0), (.int 0), (.int 0), (.int 0), (.int 0), (.int 0), (.int 0), (.int 0), (.int 0), (.int 0)] (.int 0) := Arv.set Ar102 q102 S102 M102 H102 G102 (fits_nar_char (oC p0)) W102 13 rfl (Nat.le_of_ble_eq_true rfl)
  have z102 := W102.size
  have N102 := Fr.snoc X102 N101 (by omega)
  obtain ⟨cl103, Ar103, q103, S103, M103, H103, G103⟩ := id V102
  have hin103 : ¬ ((14 : Int32) < 0 ∨ cl103.slots.size ≤ ((14 : Int32)).toNatClampNeg) := inb_of S103 ⟨by decide, by decide⟩
  obtain ⟨T103, h103, X103, e103, W103, st103⟩ := stC X102 hx hZ46 e102 Ar103 (j := (14 : Int32)) hin103 (g := (mkF m 353 #[vI p0, vI p1, vI p2, vI p3, vI p4, .val (.int (oC p0)), .val (.int (oC p1)), .val (.int (oC p2)), .val (.int (oC p3)), .val (.int (p4 &&& (3 : Int32))), vA a1, vA b4, vA x46_r, .unset] [(.int 44), (.int 14), (.ref b87), (.ref b87)])) rfl rfl (hb hby at_353)
  have V103 : Arv Z h103 b87 k87 .char (34 : Int32) [(.int 65), (.int 99), (.int 99), (.int 111), (.int 117), (.int 110), (.int 116), (.int 91), (.int 117), (.int 115), (.int 101), (.int 114), (.int 61), (.int (nar .char (oC p0))), (.int 44), (.int 0), (.int 0), (.int 0), (.int 0), (.int 0), (.int 0), (.int 0), (.int 0), (.int 0), (.int 0), (.int 0), (.int 0), (.int 0), (.int 0), (.int 0), (.int 0), (.int 0), (.int 0), (.int 0)] (.int 0) := Arv.set Ar103 q103 S103 M103 H103 G103 (fits_nar_char (44 : Int32)) W103 14 rfl (Nat.le_of_ble_eq_true rfl)
  have z103 := W103.size
  have N103 := Fr.snoc X103 N102 (by omega)
  obtain ⟨cl104, Ar104, q104, S104, M104, H104, G104⟩ := id V103
  have hin104 : ¬ ((15 : Int32) < 0 ∨ cl104.slots.size ≤ ((15 : Int32)).toNatClampNeg) := inb_of S104 ⟨by decide, by decide⟩
  obtain ⟨T104, h104, X104, e104, W104, st104⟩ := stC X103 hx hZ46 e103 Ar104 (j := (15 : Int32)) hin104 (g := (mkF m 359 #[vI p0, vI p1, vI p2, vI p3, vI p4, .val (.int (oC p0)), .val (.int (oC p1)), .val (.int (oC p2)), .val (.int (oC p3)), .val (.int (p4 &&& (3 : Int32))), vA a1, vA b4, vA x46_r, .unset] [(.int 32), (.int 15), (.ref b87), (.ref b87)])) rfl rfl (hb hby at_359)
  have V104 : Arv Z h104 b87 k87 .char (34 : Int32) [(.int 65), (.int 99), (.int 99), (.int 111), (.int 117), (.int 110), (.int 116), (.int 91), (.int 117), (.int 115), (.int 101), (.int 114), (.int 61), (.int (nar .char (oC p0))), (.int 44), (.int 32), (.int 0), (.int 0), (.int 0), (.int 0), (.int 0), (.int 0), (.int 0), (.int 0), (.int 0), (.int 0), (.int 0), (.int 0), (.int 0), (.int 0), (.int 0), (.int 0), (.int 0), (.int 0)] (.int 0) := Arv.set Ar104 q104 S104 M104 H104 G104 (fits_nar_char (32 : Int32)) W104 15 rfl (Nat.le_of_ble_eq_true rfl)
  have z104 := W104.size
  have N104 := Fr.snoc X104 N103 (by omega)
  obtain ⟨cl105, Ar105, q105, S105, M105, H105, G105⟩ := id V104
  have hin105 : ¬ ((16 : Int32) < 0 ∨ cl105.slots.size ≤ ((16 : Int32)).toNatClampNeg) := inb_of S105 ⟨by decide, by decide⟩
  obtain ⟨T105, h105, X105, e105, W105, st105⟩ := stC X104 hx hZ46 e104 Ar105 (j := (16 : Int32)) hin105 (g := (mkF m 365 #[vI p0, vI p1, vI p2, vI p3, vI p4, .val (.int (oC p0)), .val (.int (oC p1)), .val (.int (oC p2)), .val (.int (oC p3)), .val (.int (p4 &&& (3 : Int32))), vA a1, vA b4, vA x46_r, .unset] [(.int 100), (.int 16), (.ref b87), (.ref b87)])) rfl rfl (hb hby at_365)
  have V105 : Arv Z h105 b87 k87 .char (34 : Int32) [(.int 65), (.int 99), (.int 99), (.int 111), (.int 117), (.int 110), (.int 116), (.int 91), (.int 117), (.int 115), (.int 101), (.int 114), (.int 61), (.int (nar .char (oC p0))), (.int 44), (.int 32), (.int 100), (.int 0), (.int 0), (.int 0), (.int 0), (.int 0), (.int 0), (.int 0), (.int 0), (.int 0), (.int 0), (.int 0), (.int 0), (.int 0), (.int 0), (.int 0), (.int 0), (.int 0)] (.int 0) := Arv.set Ar105 q105 S105 M105 H105 G105 (fits_nar_char (100 : Int32)) W105 16 rfl (Nat.le_of_ble_eq_true rfl)
  have z105 := W105.size
  have N105 := Fr.snoc X105 N104 (by omega)
  obtain ⟨cl106, Ar106, q106, S106, M106, H106, G106⟩ := id V105
  have hin106 : ¬ ((17 : Int32) < 0 ∨ cl106.slots.size ≤ ((17 : Int32)).toNatClampNeg) := inb_of S106 ⟨by decide, by decide⟩
  obtain ⟨T106, h106, X106, e106, W106, st106⟩ := stC X105 hx hZ46 e105 Ar106 (j := (17 : Int32)) hin106 (g := (mkF m 371 #[vI p0, vI p1, vI p2, vI p3, vI p4, .val (.int (oC p0)), .val (.int (oC p1)), .val (.int (oC p2)), .val (.int (oC p3)), .val (.int (p4 &&& (3 : Int32))), vA a1, vA b4, vA x46_r, .unset] [(.int 111), (.int 17), (.ref b87), (.ref b87)])) rfl rfl (hb hby at_371)
  have V106 : Arv Z h106 b87 k87 .char (34 : Int32) [(.int 65), (.int 99), (.int 99), (.int 111), (.int 117), (.int 110), (.int 116), (.int 91), (.int 117), (.int 115), (.int 101), (.int 114), (.int 61), (.int (nar .char (oC p0))), (.int 44), (.int 32), (.int 100), (.int 111), (.int 0), (.int 0), (.int 0), (.int 0), (.int 0), (.int 0), (.int 0), (.int 0), (.int 0), (.int 0), (.int 0), (.int 0), (.int 0), (.int 0), (.int 0), (.int 0)] (.int 0) := Arv.set Ar106 q106 S106 M106 H106 G106 (fits_nar_char (111 : Int32)) W106 17 rfl (Nat.le_of_ble_eq_true rfl)
  have z106 := W106.size
  have N106 := Fr.snoc X106 N105 (by omega)
  obtain ⟨cl107, Ar107, q107, S107, M107, H107, G107⟩ := id V106
  have hin107 : ¬ ((18 : Int32) < 0 ∨ cl107.slots.size ≤ ((18 : Int32)).toNatClampNeg) := inb_of S107 ⟨by decide, by decide⟩
  obtain ⟨T107, h107, X107, e107, W107, st107⟩ := stC X106 hx hZ46 e106 Ar107 (j := (18 : Int32)) hin107 (g := (mkF m 377 #[vI p0, vI p1, vI p2, vI p3, vI p4, .val (.int (oC p0)), .val (.int (oC p1)), .val (.int (oC p2)), .val (.int (oC p3)), .val (.int (p4 &&& (3 : Int32))), vA a1, vA b4, vA x46_r, .unset] [(.int 109), (.int 18), (.ref b87), (.ref b87)])) rfl rfl (hb hby at_377)
  have V107 : Arv Z h107 b87 k87 .char (34 : Int32) [(.int 65), (.int 99), (.int 99), (.int 111), (.int 117), (.int 110), (.int 116), (.int 91), (.int 117), (.int 115), (.int 101), (.int 114), (.int 61), (.int (nar .char (oC p0))), (.int 44), (.int 32), (.int 100), (.int 111), (.int 109), (.int 0), (.int 0), (.int 0), (.int 0), (.int 0), (.int 0), (.int 0), (.int 0), (.int 0), (.int 0), (.int 0), (.int 0), (.int 0), (.int 0), (.int 0)] (.int 0) := Arv.set Ar107 q107 S107 M107 H107 G107 (fits_nar_char (109 : Int32)) W107 18 rfl (Nat.le_of_ble_eq_true rfl)
  have z107 := W107.size
  have N107 := Fr.snoc X107 N106 (by omega)
  obtain ⟨cl108, Ar108, q108, S108, M108, H108, G108⟩ := id V107
  have hin108 : ¬ ((19 : Int32) < 0 ∨ cl108.slots.size ≤ ((19 : Int32)).toNatClampNeg) := inb_of S108 ⟨by decide, by decide⟩
  obtain ⟨T108, h108, X108, e108, W108, st108⟩ := stC X107 hx hZ46 e107 Ar108 (j := (19 : Int32)) hin108 (g := (mkF m 383 #[vI p0, vI p1, vI p2, vI p3, vI p4, .val (.int (oC p0)), .val (.int (oC p1)), .val (.int (oC p2)), .val (.int (oC p3)), .val (.int (p4 &&& (3 : Int32))), vA a1, vA b4, vA x46_r, .unset] [(.int 97), (.int 19), (.ref b87), (.ref b87)])) rfl rfl (hb hby at_383)
  have V108 : Arv Z h108 b87 k87 .char (34 : Int32) [(.int 65), (.int 99), (.int 99), (.int 111), (.int 117), (.int 110), (.int 116), (.int 91), (.int 117), (.int 115), (.int 101), (.int 114), (.int 61), (.int (nar .char (oC p0))), (.int 44), (.int 32), (.int 100), (.int 111), (.int 109), (.int 97), (.int 0), (.int 0), (.int 0), (.int 0), (.int 0), (.int 0), (.int 0), (.int 0), (.int 0), (.int 0), (.int 0), (.int 0), (.int 0), (.int 0)] (.int 0) := Arv.set Ar108 q108 S108 M108 H108 G108 (fits_nar_char (97 : Int32)) W108 19 rfl (Nat.le_of_ble_eq_true rfl)
  have z108 := W108.size
  have N108 := Fr.snoc X108 N107 (by omega)
  obtain ⟨cl109, Ar109, q109, S109, M109, H109, G109⟩ := id V108
  have hin109 : ¬ ((20 : Int32) < 0 ∨ cl109.slots.size ≤ ((20 : Int32)).toNatClampNeg) := inb_of S109 ⟨by decide, by decide⟩
  obtain ⟨T109, h109, X109, e109, W109, st109⟩ := stC X108 hx hZ46 e108 Ar109 (j := (20 : Int32)) hin109 (g := (mkF m 389 #[vI p0, vI p1, vI p2, vI p3, vI p4, .val (.int (oC p0)), .val (.int (oC p1)), .val (.int (oC p2)), .val (.int (oC p3)), .val (.int (p4 &&& (3 : Int32))), vA a1, vA b4, vA x46_r, .unset] [(.int 105), (.int 20), (.ref b87), (.ref b87)])) rfl rfl (hb hby at_389)
  have V109 : Arv Z h109 b87 k87 .char (34 : Int32) [(.int 65), (.int 99), (.int 99), (.int 111), (.int 117), (.int 110), (.int 116), (.int 91), (.int 117), (.int 115), (.int 101), (.int 114), (.int 61), (.int (nar .char (oC p0))), (.int 44), (.int 32), (.int 100), (.int 111), (.int 109), (.int 97), (.int 105), (.int 0), (.int 0), (.int 0), (.int 0), (.int 0), (.int 0), (.int 0), (.int 0), (.int 0), (.int 0), (.int 0), (.int 0), (.int 0)] (.int 0) := Arv.set Ar109 q109 S109 M109 H109 G109 (fits_nar_char (105 : Int32)) W109 20 rfl (Nat.le_of_ble_eq_true rfl)
  have z109 := W109.size
  have N109 := Fr.snoc X109 N108 (by omega)
  obtain ⟨cl110, Ar110, q110, S110, M110, H110, G110⟩ := id V109
  have hin110 : ¬ ((21 : Int32) < 0 ∨ cl110.slots.size ≤ ((21 : Int32)).toNatClampNeg) := inb_of S110 ⟨by decide, by decide⟩
  obtain ⟨T110, h110, X110, e110, W110, st110⟩ := stC X109 hx hZ46 e109 Ar110 (j := (21 : Int32)) hin110 (g := (mkF m 395 #[vI p0, vI p1, vI p2, vI p3, vI p4, .val (.int (oC p0)), .val (.int (oC p1)), .val (.int (oC p2)), .val (.int (oC p3)), .val (.int (p4 &&& (3 : Int32))), vA a1, vA b4, vA x46_r, .unset] [(.int 110), (.int 21), (.ref b87), (.ref b87)])) rfl rfl (hb hby at_395)
  have V110 : Arv Z h110 b87 k87 .char (34 : Int32) [(.int 65), (.int 99), (.int 99), (.int 111), (.int 117), (.int 110), (.int 116), (.int 91), (.int 117), (.int 115), (.int 101), (.int 114), (.int 61), (.int (nar .char (oC p0))), (.int 44), (.int 32), (.int 100), (.int 111), (.int 109), (.int 97), (.int 105), (.int 110), (.int 0), (.int 0), (.int 0), (.int 0), (.int 0), (.int 0), (.int 0), (.int 0), (.int 0), (.int 0), (.int 0), (.int 0)] (.int 0) := Arv.set Ar110 q110 S110 M110 H110 G110 (fits_nar_char (110 : Int32)) W110 21 rfl (Nat.le_of_ble_eq_true rfl)
  have z110 := W110.size
  have N110 := Fr.snoc X110 N109 (by omega)
  obtain ⟨cl111, Ar111, q111, S111, M111, H111, G111⟩ := id V110
  have hin111 : ¬ ((22 : Int32) < 0 ∨ cl111.slots.size ≤ ((22 : Int32)).toNatClampNeg) := inb_of S111 ⟨by decide, by decide⟩
  obtain ⟨T111, h111, X111, e111, W111, st111⟩ := stC X110 hx hZ46 e110 Ar111 (j := (22 : Int32)) hin111 (g := (mkF m 401 #[vI p0, vI p1, vI p2, vI p3, vI p4, .val (.int (oC p0)), .val (.int (oC p1)), .val (.int (oC p2)), .val (.int (oC p3)), .val (.int (p4 &&& (3 : Int32))), vA a1, vA b4, vA x46_r, .unset] [(.int 61), (.int 22), (.ref b87), (.ref b87)])) rfl rfl (hb hby at_401)
  have V111 : Arv Z h111 b87 k87 .char (34 : Int32) [(.int 65), (.int 99), (.int 99), (.int 111), (.int 117), (.int 110), (.int 116), (.int 91), (.int 117), (.int 115), (.int 101), (.int 114), (.int 61), (.int (nar .char (oC p0))), (.int 44), (.int 32), (.int 100), (.int 111), (.int 109), (.int 97), (.int 105), (.int 110), (.int 61), (.int 0), (.int 0), (.int 0), (.int 0), (.int 0), (.int 0), (.int 0), (.int 0), (.int 0), (.int 0), (.int 0)] (.int 0) := Arv.set Ar111 q111 S111 M111 H111 G111 (fits_nar_char (61 : Int32)) W111 22 rfl (Nat.le_of_ble_eq_true rfl)
  have z111 := W111.size
  have N111 := Fr.snoc X111 N110 (by omega)
  obtain ⟨cl112, Ar112, q112, S112, M112, H112, G112⟩ := id V111
  have hin112 : ¬ ((23 : Int32) < 0 ∨ cl112.slots.size ≤ ((23 : Int32)).toNatClampNeg) := inb_of S112 ⟨by decide, by decide⟩
  obtain ⟨T112, h112, X112, e112, W112, st112⟩ := stC X111 hx hZ46 e111 Ar112 (j := (23 : Int32)) hin112 (g := (mkF m 407 #[vI p0, vI p1, vI p2, vI p3, vI p4, .val (.int (oC p0)), .val (.int (oC p1)), .val (.int (oC p2)), .val (.int (oC p3)), .val (.int (p4 &&& (3 : Int32))), vA a1, vA b4, vA x46_r, .unset] [(.int 44), (.int 23), (.ref b87), (.ref b87)])) rfl rfl (hb hby at_407)
  have V112 : Arv Z h112 b87 k87 .char (34 : Int32) [(.int 65), (.int 99), (.int 99), (.int 111), (.int 117), (.int 110), (.int 116), (.int 91), (.int 117), (.int 115), (.int 101), (.int 114), (.int 61), (.int (nar .char (oC p0))), (.int 44), (.int 32), (.int 100), (.int 111), (.int 109), (.int 97), (.int 105), (.int 110), (.int 61), (.int 44), (.int 0), (.int 0), (.int 0), (.int 0), (.int 0), (.int 0), (.int 0), (.int 0), (.int 0), (.int 0)] (.int 0) := Arv.set Ar112 q112 S112 M112 H112 G112 (fits_nar_char (44 : Int32)) W112 23 rfl (Nat.le_of_ble_eq_true rfl)
  have z112 := W112.size
  have N112 := Fr.snoc X112 N111 (by omega)
  obtain ⟨cl113, Ar113, q113, S113, M113, H113, G113⟩ := id V112
  have hin113 : ¬ ((24 : Int32) < 0 ∨ cl113.slots.size ≤ ((24 : Int32)).toNatClampNeg) := inb_of S113 ⟨by decide, by decide⟩
  obtain ⟨T113, h113, X113, e113, W113, st113⟩ := stC X112 hx hZ46 e112 Ar113 (j := (24 : Int32)) hin113 (g := (mkF m 413 #[vI p0, vI p1, vI p2, vI p3, vI p4, .val (.int (oC p0)), .val (.int (oC p1)), .val (.int (oC p2)), .val (.int (oC p3)), .val (.int (p4 &&& (3 : Int32))), vA a1, vA b4, vA x46_r, .unset] [(.int 32), (.int 24), (.ref b87), (.ref b87)])) rfl rfl (hb hby at_413)
  have V113 : Arv Z h113 b87 k87 .char (34 : Int32) [(.int 65), (.int 99), (.int 99), (.int 111), (.int 117), (.int 110), (.int 116), (.int 91), (.int 117), (.int 115), (.int 101), (.int 114), (.int 61), (.int (nar .char (oC p0))), (.int 44), (.int 32), (.int 100), (.int 111), (.int 109), (.int 97), (.int 105), (.int 110), (.int 61), (.int 44), (.int 32), (.int 0), (.int 0), (.int 0), (.int 0), (.int 0), (.int 0), (.int 0), (.int 0), (.int 0)] (.int 0) := Arv.set Ar113 q113 S113 M113 H113 G113 (fits_nar_char (32 : Int32)) W113 24 rfl (Nat.le_of_ble_eq_true rfl)
  have z113 := W113.size
  have N113 := Fr.snoc X113 N112 (by omega)
  obtain ⟨cl114, Ar114, q114, S114, M114, H114, G114⟩ := id V113
  have hin114 : ¬ ((25 : Int32) < 0 ∨ cl114.slots.size ≤ ((25 : Int32)).toNatClampNeg) := inb_of S114 ⟨by decide, by decide⟩
  obtain ⟨T114, h114, X114, e114, W114, st114⟩ := stC X113 hx hZ46 e113 Ar114 (j := (25 : Int32)) hin114 (g := (mkF m 419 #[vI p0, vI p1, vI p2, vI p3, vI p4, .val (.int (oC p0)), .val (.int (oC p1)), .val (.int (oC p2)), .val (.int (oC p3)), .val (.int (p4 &&& (3 : Int32))), vA a1, vA b4, vA x46_r, .unset] [(.int 116), (.int 25), (.ref b87), (.ref b87)])) rfl rfl (hb hby at_419)
  have V114 : Arv Z h114 b87 k87 .char (34 : Int32) [(.int 65), (.int 99), (.int 99), (.int 111), (.int 117), (.int 110), (.int 116), (.int 91), (.int 117), (.int 115), (.int 101), (.int 114), (.int 61), (.int (nar .char (oC p0))), (.int 44), (.int 32), (.int 100), (.int 111), (.int 109), (.int 97), (.int 105), (.int 110), (.int 61), (.int 44), (.int 32), (.int 116), (.int 0), (.int 0), (.int 0), (.int 0), (.int 0), (.int 0), (.int 0), (.int 0)] (.int 0) := Arv.set Ar114 q114 S114 M114 H114 G114 (fits_nar_char (116 : Int32)) W114 25 rfl (Nat.le_of_ble_eq_true rfl)
  have z114 := W114.size
  have N114 := Fr.snoc X114 N113 (by omega)
  obtain ⟨cl115, Ar115, q115, S115, M115, H115, G115⟩ := id V114
  have hin115 : ¬ ((26 : Int32) < 0 ∨ cl115.slots.size ≤ ((26 : Int32)).toNatClampNeg) := inb_of S115 ⟨by decide, by decide⟩
  obtain ⟨T115, h115, X115, e115, W115, st115⟩ := stC X114 hx hZ46 e114 Ar115 (j := (26 : Int32)) hin115 (g := (mkF m 425 #[vI p0, vI p1, vI p2, vI p3, vI p4, .val (.int (oC p0)), .val (.int (oC p1)), .val (.int (oC p2)), .val (.int (oC p3)), .val (.int (p4 &&& (3 : Int32))), vA a1, vA b4, vA x46_r, .unset] [(.int 97), (.int 26), (.ref b87), (.ref b87)])) rfl rfl (hb hby at_425)
  have V115 : Arv Z h115 b87 k87 .char (34 : Int32) [(.int 65), (.int 99), (.int 99), (.int 111), (.int 117), (.int 110), (.int 116), (.int 91), (.int 117), (.int 115), (.int 101), (.int 114), (.int 61), (.int (nar .char (oC p0))), (.int 44), (.int 32), (.int 100), (.int 111), (.int 109), (.int 97), (.int 105), (.int 110), (.int 61), (.int 44), (.int 32), (.int 116), (.int 97), (.int 0), (.int 0), (.int 0), (.int 0), (.int 0), (.int 0), (.int 0)] (.int 0) := Arv.set Ar115 q115 S115 M115 H115 G115 (fits_nar_char (97 : Int32)) W115 26 rfl (Nat.le_of_ble_eq_true rfl)
  have z115 := W115.size
  have N115 := Fr.snoc X115 N114 (by omega)
  obtain ⟨cl116, Ar116, q116, S116, M116, H116, G116⟩ := id V115
  have hin116 : ¬ ((27 : Int32) < 0 ∨ cl116.slots.size ≤ ((27 : Int32)).toNatClampNeg) := inb_of S116 ⟨by decide, by decide⟩
  obtain ⟨T116, h116, X116, e116, W116, st116⟩ := stC X115 hx hZ46 e115 Ar116 (j := (27 : Int32)) hin116 (g := (mkF m 431 #[vI p0, vI p1, vI p2, vI p3, vI p4, .val (.int (oC p0)), .val (.int (oC p1)), .val (.int (oC p2)), .val (.int (oC p3)), .val (.int (p4 &&& (3 : Int32))), vA a1, vA b4, vA x46_r, .unset] [(.int 114), (.int 27), (.ref b87), (.ref b87)])) rfl rfl (hb hby at_431)
  have V116 : Arv Z h116 b87 k87 .char (34 : Int32) [(.int 65), (.int 99), (.int 99), (.int 111), (.int 117), (.int 110), (.int 116), (.int 91), (.int 117), (.int 115), (.int 101), (.int 114), (.int 61), (.int (nar .char (oC p0))), (.int 44), (.int 32), (.int 100), (.int 111), (.int 109), (.int 97), (.int 105), (.int 110), (.int 61), (.int 44), (.int 32), (.int 116), (.int 97), (.int 114), (.int 0), (.int 0), (.int 0), (.int 0), (.int 0), (.int 0)] (.int 0) := Arv.set Ar116 q116 S116 M116 H116 G116 (fits_nar_char (114 : Int32)) W116 27 rfl (Nat.le_of_ble_eq_true rfl)
  have z116 := W116.size
  have N116 := Fr.snoc X116 N115 (by omega)
  obtain ⟨cl117, Ar117, q117, S117, M117, H117, G117⟩ := id V116
  have hin117 : ¬ ((28 : Int32) < 0 ∨ cl117.slots.size ≤ ((28 : Int32)).toNatClampNeg) := inb_of S117 ⟨by decide, by decide⟩
  obtain ⟨T117, h117, X117, e117, W117, st117⟩ := stC X116 hx hZ46 e116 Ar117 (j := (28 : Int32)) hin117 (g := (mkF m 437 #[vI p0, vI p1, vI p2, vI p3, vI p4, .val (.int (oC p0)), .val (.int (oC p1)), .val (.int (oC p2)), .val (.int (oC p3)), .val (.int (p4 &&& (3 : Int32))), vA a1, vA b4, vA x46_r, .unset] [(.int 103), (.int 28), (.ref b87), (.ref b87)])) rfl rfl (hb hby at_437)
  have V117 : Arv Z h117 b87 k87 .char (34 : Int32) [(.int 65), (.int 99), (.int 99), (.int 111), (.int 117), (.int 110), (.int 116), (.int 91), (.int 117), (.int 115), (.int 101), (.int 114), (.int 61), (.int (nar .char (oC p0))), (.int 44), (.int 32), (.int 100), (.int 111), (.int 109), (.int 97), (.int 105), (.int 110), (.int 61), (.int 44), (.int 32), (.int 116), (.int 97), (.int 114), (.int 103), (.int 0), (.int 0), (.int 0), (.int 0), (.int 0)] (.int 0) := Arv.set Ar117 q117 S117 M117 H117 G117 (fits_nar_char (103 : Int32)) W117 28 rfl (Nat.le_of_ble_eq_true rfl)
  have z117 := W117.size
  have N117 := Fr.snoc X117 N116 (by omega)
  obtain ⟨cl118, Ar118, q118, S118, M118, H118, G118⟩ := id V117
  have hin118 : ¬ ((29 : Int32) < 0 ∨ cl118.slots.size ≤ ((29 : Int32)).toNatClampNeg) := inb_of S118 ⟨by decide, by decide⟩
  obtain ⟨T118, h118, X118, e118, W118, st118⟩ := stC X117 hx hZ46 e117 Ar118 (j := (29 : Int32)) hin118 (g := (mkF m 443 #[vI p0, vI p1, vI p2, vI p3, vI p4, .val (.int (oC p0)), .val (.int (oC p1)), .val (.int (oC p2)), .val (.int (oC p3)), .val (.int (p4 &&& (3 : Int32))), vA a1, vA b4, vA x46_r, .unset] [(.int 101), (.int 29), (.ref b87), (.ref b87)])) rfl rfl (hb hby at_443)
  have V118 : Arv Z h118 b87 k87 .char (34 : Int32) [(.int 65), (.int 99), (.int 99), (.int 111), (.int 117), (.int 110), (.int 116), (.int 91), (.int 117), (.int 115), (.int 101), (.int 114), (.int 61), (.int (nar .char (oC p0))), (.int 44), (.int 32), (.int 100), (.int 111), (.int 109), (.int 97), (.int 105), (.int 110), (.int 61), (.int 44), (.int 32), (.int 116), (.int 97), (.int 114), (.int 103), (.int 101), (.int 0), (.int 0), (.int 0), (.int 0)] (.int 0) := Arv.set Ar118 q118 S118 M118 H118 G118 (fits_nar_char (101 : Int32)) W118 29 rfl (Nat.le_of_ble_eq_true rfl)
  have z118 := W118.size
  have N118 := Fr.snoc X118 N117 (by omega)
  obtain ⟨cl119, Ar119, q119, S119, M119, H119, G119⟩ := id V118
  have hin119 : ¬ ((30 : Int32) < 0 ∨ cl119.slots.size ≤ ((30 : Int32)).toNatClampNeg) := inb_of S119 ⟨by decide, by decide⟩
  obtain ⟨T119, h119, X119, e119, W119, st119⟩ := stC X118 hx hZ46 e118 Ar119 (j := (30 : Int32)) hin119 (g := (mkF m 449 #[vI p0, vI p1, vI p2, vI p3, vI p4, .val (.int (oC p0)), .val (.int (oC p1)), .val (.int (oC p2)), .val (.int (oC p3)), .val (.int (p4 &&& (3 : Int32))), vA a1, vA b4, vA x46_r, .unset] [(.int 116), (.int 30), (.ref b87), (.ref b87)])) rfl rfl (hb hby at_449)
  have V119 : Arv Z h119 b87 k87 .char (34 : Int32) [(.int 65), (.int 99), (.int 99), (.int 111), (.int 117), (.int 110), (.int 116), (.int 91), (.int 117), (.int 115), (.int 101), (.int 114), (.int 61), (.int (nar .char (oC p0))), (.int 44), (.int 32), (.int 100), (.int 111), (.int 109), (.int 97), (.int 105), (.int 110), (.int 61), (.int 44), (.int 32), (.int 116), (.int 97), (.int 114), (.int 103), (.int 101), (.int 116), (.int 0), (.int 0), (.int 0)] (.int 0) := Arv.set Ar119 q119 S119 M119 H119 G119 (fits_nar_char (116 : Int32)) W119 30 rfl (Nat.le_of_ble_eq_true rfl)
  have z119 := W119.size
  have N119 := Fr.snoc X119 N118 (by omega)
  obtain ⟨cl120, Ar120, q120, S120, M120, H120, G120⟩ := id V119
  have hin120 : ¬ ((31 : Int32) < 0 ∨ cl120.slots.size ≤ ((31 : Int32)).toNatClampNeg) := inb_of S120 ⟨by decide, by decide⟩
  obtain ⟨T120, h120, X120, e120, W120, st120⟩ := stC X119 hx hZ46 e119 Ar120 (j := (31 : Int32)) hin120 (g := (mkF m 455 #[vI p0, vI p1, vI p2, vI p3, vI p4, .val (.int (oC p0)), .val (.int (oC p1)), .val (.int (oC p2)), .val (.int (oC p3)), .val (.int (p4 &&& (3 : Int32))), vA a1, vA b4, vA x46_r, .unset] [(.int 61), (.int 31), (.ref b87), (.ref b87)])) rfl rfl (hb hby at_455)
  have V120 : Arv Z h120 b87 k87 .char (34 : Int32) [(.int 65), (.int 99), (.int 99), (.int 111), (.int 117), (.int 110), (.int 116), (.int 91), (.int 117), (.int 115), (.int 101), (.int 114), (.int 61), (.int (nar .char (oC p0))), (.int 44), (.int 32), (.int 100), (.int 111), (.int 109), (.int 97), (.int 105), (.int 110), (.int 61), (.int 44), (.int 32), (.int 116), (.int 97), (.int 114), (.int 103), (.int 101), (.int 116), (.int 61), (.int 0), (.int 0)] (.int 0) := Arv.set Ar120 q120 S120 M120 H120 G120 (fits_nar_char (61 : Int32)) W120 31 rfl (Nat.le_of_ble_eq_true rfl)
  have z120 := W120.size
  have N120 := Fr.snoc X120 N119 (by omega)
  obtain ⟨cl121, Ar121, q121, S121, M121, H121, G121⟩ := id V120
  have hin121 : ¬ ((32 : Int32) < 0 ∨ cl121.slots.size ≤ ((32 : Int32)).toNatClampNeg) := inb_of S121 ⟨by decide, by decide⟩
  obtain ⟨T121, h121, X121, e121, W121, st121⟩ := stC X120 hx hZ46 e120 Ar121 (j := (32 : Int32)) hin121 (g := (mkF m 461 #[vI p0, vI p1, vI p2, vI p3, vI p4, .val (.int (oC p0)), .val (.int (oC p1)), .val (.int (oC p2)), .val (.int (oC p3)), .val (.int (p4 &&& (3 : Int32))), vA a1, vA b4, vA x46_r, .unset] [(.int (oC p3)), (.int 32), (.ref b87), (.ref b87)])) rfl rfl (hb hby at_461)
  have V121 : Arv Z h121 b87 k87 .char (34 : Int32) [(.int 65), (.int 99), (.int 99), (.int 111), (.int 117), (.int 110), (.int 116), (.int 91), (.int 117), (.int 115), (.int 101), (.int 114), (.int 61), (.int (nar .char (oC p0))), (.int 44), (.int 32), (.int 100), (.int 111), (.int 109), (.int 97), (.int 105), (.int 110), (.int 61), (.int 44), (.int 32), (.int 116), (.int 97), (.int 114), (.int 103), (.int 101), (.int 116), (.int 61), (.int (nar .char (oC p3))), (.int 0)] (.int 0) := Arv.set Ar121 q121 S121 M121 H121 G121 (fits_nar_char (oC p3)) W121 32 rfl (Nat.le_of_ble_eq_true rfl)
  have z121 := W121.size
  have N121 := Fr.snoc X121 N120 (by omega)
  obtain ⟨cl122, Ar122, q122, S122, M122, H122, G122⟩ := id V121
  have hin122 : ¬ ((33 : Int32) < 0 ∨ cl122.slots.size ≤ ((33 : Int32)).toNatClampNeg) := inb_of S122 ⟨by decide, by decide⟩
  obtain ⟨T122, h122, X122, e122, W122, st122⟩ := stC X121 hx hZ46 e121 Ar122 (j := (33 : Int32)) hin122 (g := (mkF m 467 #[vI p0, vI p1, vI p2, vI p3, vI p4, .val (.int (oC p0)), .val (.int (oC p1)), .val (.int (oC p2)), .val (.int (oC p3)), .val (.int (p4 &&& (3 : Int32))), vA a1, vA b4, vA x46_r, .unset] [(.int 93), (.int 33), (.ref b87), (.ref b87)])) rfl rfl (hb hby at_467)
  have V122 : Arv Z h122 b87 k87 .char (34 : Int32) [(.int 65), (.int 99), (.int 99), (.int 111), (.int 117), (.int 110), (.int 116), (.int 91), (.int 117), (.int 115), (.int 101), (.int 114), (.int 61), (.int (nar .char (oC p0))), (.int 44), (.int 32), (.int 100), (.int 111), (.int 109), (.int 97), (.int 105), (.int 110), (.int 61), (.int 44), (.int 32), (.int 116), (.int 97), (.int 114), (.int 103), (.int 101), (.int 116), (.int 61), (.int (nar .char (oC p3))), (.int 93)] (.int 0) := Arv.set Ar122 q122 S122 M122 H122 G122 (fits_nar_char (93 : Int32)) W122 33 rfl (Nat.le_of_ble_eq_true rfl)
  have z122 := W122.size
  have N122 := Fr.snoc X122 N121 (by omega)
  have V123 : Arv Z h122 b87 k87 .char (34 : Int32) [(.int 65), (.int 99), (.int 99), (.int 111), (.int 117), (.int 110), (.int 116), (.int 91), (.int 117), (.int 115), (.int 101), (.int 114), (.int 61), (.int (oC p0)), (.int 44), (.int 32), (.int 100), (.int 111), (.int 109), (.int 97), (.int 105), (.int 110), (.int 61), (.int 44), (.int 32), (.int 116), (.int 97), (.int 114), (.int 103), (.int 101), (.int 116), (.int 61), (.int (oC p3)), (.int 93)] (.int 0) := by have vq := V122; simp only [own_nc] at vq; exact vq
  obtain ⟨T124, h124, X124, e124, E124, A124, D124, -, st124⟩ := newO X122 hx hZ46 hown46 (w_186 hw) (w_13 hw) (w_5 hw) e122 (g := (mkF m 685 #[vI p0, vI p1, vI p2, vI p3, vI p4, .val (.int (oC p0)), .val (.int (oC p1)), .val (.int (oC p2)), .val (.int (oC p3)), .val (.int (p4 &&& (3 : Int32))), vA a1, vA b4, vA x46_r, vA b87] [(.ref x46_r)])) rfl (hb hby at_685) (by decide) (by decide)
  obtain ⟨b124, g124⟩ : ∃ z, z = h122.size := ⟨_, rfl⟩
  rw [← g124] at A124 D124 st124
  have z124 := E124.1
  have lt125 := own_l A124.lt
  have F124_26 : Fld Z h124 b124 "java/lang/String" "value" "[B" .null := D124 (Or.inr (w_26 hw)) (ty := (.array .byte)) (by decide)
  have F124_28 : Fld Z h124 b124 "java/lang/String" "coder" "B" (.int 0) := D124 (Or.inr (w_28 hw)) (ty := .byte) (by decide)
  have f127 := V123.ext E124
  have f128 := f47.keep Kq46 all0
  have f129 := f128.ext E87
  have f130 := f129.wr W89 (by omega)
  have f131 := f130.wr W90 (by omega)
  have f132 := f131.wr W91 (by omega)
  have f133 := f132.wr W92 (by omega)
  have f134 := f133.wr W93 (by omega)
  have f135 := f134.wr W94 (by omega)
  have f136 := f135.wr W95 (by omega)
  have f137 := f136.wr W96 (by omega)
  have f138 := f137.wr W97 (by omega)
  have f139 := f138.wr W98 (by omega)
  have f140 := f139.wr W99 (by omega)
  have f141 := f140.wr W100 (by omega)
  have f142 := f141.wr W101 (by omega)
  have f143 := f142.wr W102 (by omega)
  have f144 := f143.wr W103 (by omega)
  have f145 := f144.wr W104 (by omega)
  have f146 := f145.wr W105 (by omega)
  have f147 := f146.wr W106 (by omega)
  have f148 := f147.wr W107 (by omega)
  have f149 := f148.wr W108 (by omega)
  have f150 := f149.wr W109 (by omega)
  have f151 := f150.wr W110 (by omega)
  have f152 := f151.wr W111 (by omega)
  have f153 := f152.wr W112 (by omega)
  have f154 := f153.wr W113 (by omega)
  have f155 := f154.wr W114 (by omega)
  have f156 := f155.wr W115 (by omega)
  have f157 := f156.wr W116 (by omega)
  have f158 := f157.wr W117 (by omega)
  have f159 := f158.wr W118 (by omega)
  have f160 := f159.wr W119 (by omega)
  have f161 := f160.wr W120 (by omega)
  have f162 := f161.wr W121 (by omega)
  have f163 := f162.wr W122 (by omega)
  have f164 := f163.ext E124
  obtain ⟨_, _, ⟨T126, L126, k126, n126⟩, -, X126, ⟨Lc126, hQ126, l126, y126, z126⟩, st126⟩ := X124.specialBack hx (y := m_37) rfl hown46 (mvT hZ46 (w_187 hw)) (mvT hZ46 (w_188 hw)) (mvT hZ46 (w_189 hw)) (by decide) (StrChars.Road.backV (W := 2) hZ46 (own_hws hw) (kI := 4) (w_13 hw) (n0 := n0) (cs := oL0 (oC p0) (oC p3)) (bs := (oL0 (oC p0) (oC p3)).map StrChars.lo8) (n := 34) (by omega) (by omega) A124 F124_26 F124_28 f127 (P1.ext f164.2) hcs rfl rfl (by decide) (by decide) (own_hp0 (own_ch p0) (own_ch p3)) rfl (by decide) (by decide)) (g := (mkF m 691 #[vI p0, vI p1, vI p2, vI p3, vI p4, .val (.int (oC p0)), .val (.int (oC p1)), .val (.int (oC p2)), .val (.int (oC p3)), .val (.int (p4 &&& (3 : Int32))), vA a1, vA b4, vA x46_r, vA b87] [(.ref b87), (.ref b124), (.ref b124), (.ref x46_r)])) rfl (by rw [hml]; rfl) (Steps.refl _) (a := b124) (argsL := [(.ref b87)]) (rest := [(.ref b124), (.ref x46_r)]) (lenOf pd_27 rfl) rfl (Nat.le_of_eq rfl) (hb hby at_691) (fun _ _ => ⟨rfl, e124, (by decide : 28 + 1 ≤ _), (by decide : 438 + 34 ≤ _)⟩)
  dsimp only [Pt.U, Pt.locs, Pt.cells, Pt.slots] at X126 l126 y126 z126 st126 hQ126
  rw [l126, y126, z126] at X126
  obtain ⟨rfl, Nq126, Kq126, r126_0, r126_1, x126_b, x126_kb, -, r126_ge, -, r126_2, r126_3⟩ := hQ126
  have N126 := Fr.app N122 Nq126
  have z126' := Kq126.1
  have lt165 := own_l r126_0.lt
  have lt166 := own_l r126_1.lt
  have lt167 := own_l r126_2.lt
  have lt168 := own_l r126_3.lt
  have f170 := r46_0.ext E87
  have f171 := f170.wr W89
  have f172 := f171.wr W90
  have f173 := f172.wr W91
  have f174 := f173.wr W92
  have f175 := f174.wr W93
  have f176 := f175.wr W94
  have f177 := f176.wr W95
  have f178 := f177.wr W96
  have f179 := f178.wr W97
  have f180 := f179.wr W98
  have f181 := f180.wr W99
  have f182 := f181.wr W100
  have f183 := f182.wr W101
  have f184 := f183.wr W102
  have f185 := f184.wr W103
  have f186 := f185.wr W104
  have f187 := f186.wr W105
  have f188 := f187.wr W106
  have f189 := f188.wr W107
  have f190 := f189.wr W108
  have f191 := f190.wr W109
  have f192 := f191.wr W110
  have f193 := f192.wr W111
  have f194 := f193.wr W112
  have f195 := f194.wr W113
  have f196 := f195.wr W114
  have f197 := f196.wr W115
  have f198 := f197.wr W116
  have f199 := f198.wr W117
  have f200 := f199.wr W118
  have f201 := f200.wr W119
  have f202 := f201.wr W120
  have f203 := f202.wr W121
  have f204 := f203.wr W122
  have f205 := f204.ext E124
  have f206 := f205.keep Kq126
  have f207 := r46_1.ext E87
  have f208 := f207.other W89 (Or.inl (own_ne (by omega)))
  have f209 := f208.other W90 (Or.inl (own_ne (by omega)))
  have f210 := f209.other W91 (Or.inl (own_ne (by omega)))
  have f211 := f210.other W92 (Or.inl (own_ne (by omega)))
  have f212 := f211.other W93 (Or.inl (own_ne (by omega)))
  have f213 := f212.other W94 (Or.inl (own_ne (by omega)))
  have f214 := f213.other W95 (Or.inl (own_ne (by omega)))
  have f215 := f214.other W96 (Or.inl (own_ne (by omega)))
  have f216 := f215.other W97 (Or.inl (own_ne (by omega)))
  have f217 := f216.other W98 (Or.inl (own_ne (by omega)))
  have f218 := f217.other W99 (Or.inl (own_ne (by omega)))
  have f219 := f218.other W100 (Or.inl (own_ne (by omega)))
  have f220 := f219.other W101 (Or.inl (own_ne (by omega)))
  have f221 := f220.other W102 (Or.inl (own_ne (by omega)))
  have f222 := f221.other W103 (Or.inl (own_ne (by omega)))
  have f223 := f222.other W104 (Or.inl (own_ne (by omega)))
  have f224 := f223.other W105 (Or.inl (own_ne (by omega)))
  have f225 := f224.other W106 (Or.inl (own_ne (by omega)))
  have f226 := f225.other W107 (Or.inl (own_ne (by omega)))
  have f227 := f226.other W108 (Or.inl (own_ne (by omega)))
  have f228 := f227.other W109 (Or.inl (own_ne (by omega)))
  have f229 := f228.other W110 (Or.inl (own_ne (by omega)))
  have f230 := f229.other W111 (Or.inl (own_ne (by omega)))
  have f231 := f230.other W112 (Or.inl (own_ne (by omega)))
  have f232 := f231.other W113 (Or.inl (own_ne (by omega)))
  have f233 := f232.other W114 (Or.inl (own_ne (by omega)))
  have f234 := f233.other W115 (Or.inl (own_ne (by omega)))
  have f235 := f234.other W116 (Or.inl (own_ne (by omega)))
  have f236 := f235.other W117 (Or.inl (own_ne (by omega)))
  have f237 := f236.other W118 (Or.inl (own_ne (by omega)))
  have f238 := f237.other W119 (Or.inl (own_ne (by omega)))
  have f239 := f238.other W120 (Or.inl (own_ne (by omega)))
  have f240 := f239.other W121 (Or.inl (own_ne (by omega)))
  have f241 := f240.other W122 (Or.inl (own_ne (by omega)))
  have f242 := f241.ext E124
  have f243 := f242.keep Kq126 (ninS (own_ne (by omega)) nin0)
  have f244 := r46_2.ext E87
  have f245 := f244.other W89 (Or.inl (own_ne (by omega)))
  have f246 := f245.other W90 (Or.inl (own_ne (by omega)))
  have f247 := f246.other W91 (Or.inl (own_ne (by omega)))
  have f248 := f247.other W92 (Or.inl (own_ne (by omega)))
  have f249 := f248.other W93 (Or.inl (own_ne (by omega)))
  have f250 := f249.other W94 (Or.inl (own_ne (by omega)))
  have f251 := f250.other W95 (Or.inl (own_ne (by omega)))
  have f252 := f251.other W96 (Or.inl (own_ne (by omega)))
  have f253 := f252.other W97 (Or.inl (own_ne (by omega)))
  have f254 := f253.other W98 (Or.inl (own_ne (by omega)))
  have f255 := f254.other W99 (Or.inl (own_ne (by omega)))
  have f256 := f255.other W100 (Or.inl (own_ne (by omega)))
  have f257 := f256.other W101 (Or.inl (own_ne (by omega)))
  have f258 := f257.other W102 (Or.inl (own_ne (by omega)))
  have f259 := f258.other W103 (Or.inl (own_ne (by omega)))
  have f260 := f259.other W104 (Or.inl (own_ne (by omega)))
  have f261 := f260.other W105 (Or.inl (own_ne (by omega)))
  have f262 := f261.other W106 (Or.inl (own_ne (by omega)))
  have f263 := f262.other W107 (Or.inl (own_ne (by omega)))
  have f264 := f263.other W108 (Or.inl (own_ne (by omega)))
  have f265 := f264.other W109 (Or.inl (own_ne (by omega)))
  have f266 := f265.other W110 (Or.inl (own_ne (by omega)))
  have f267 := f266.other W111 (Or.inl (own_ne (by omega)))
  have f268 := f267.other W112 (Or.inl (own_ne (by omega)))
  have f269 := f268.other W113 (Or.inl (own_ne (by omega)))
  have f270 := f269.other W114 (Or.inl (own_ne (by omega)))
  have f271 := f270.other W115 (Or.inl (own_ne (by omega)))
  have f272 := f271.other W116 (Or.inl (own_ne (by omega)))
  have f273 := f272.other W117 (Or.inl (own_ne (by omega)))
  have f274 := f273.other W118 (Or.inl (own_ne (by omega)))
  have f275 := f274.other W119 (Or.inl (own_ne (by omega)))
  have f276 := f275.other W120 (Or.inl (own_ne (by omega)))
  have f277 := f276.other W121 (Or.inl (own_ne (by omega)))
  have f278 := f277.other W122 (Or.inl (own_ne (by omega)))
  have f279 := f278.ext E124
  have f280 := f279.keep Kq126 (ninS (own_ne (by omega)) nin0)
  have f281 := V86.ext E87
  have f282 := f281.other W89 (own_ne (by omega))
  have f283 := f282.other W90 (own_ne (by omega))
  have f284 := f283.other W91 (own_ne (by omega))
  have f285 := f284.other W92 (own_ne (by omega))
  have f286 := f285.other W93 (own_ne (by omega))
  have f287 := f286.other W94 (own_ne (by omega))
  have f288 := f287.other W95 (own_ne (by omega))
  have f289 := f288.other W96 (own_ne (by omega))
  have f290 := f289.other W97 (own_ne (by omega))
  have f291 := f290.other W98 (own_ne (by omega))
  have f292 := f291.other W99 (own_ne (by omega))
  have f293 := f292.other W100 (own_ne (by omega))
  have f294 := f293.other W101 (own_ne (by omega))
  have f295 := f294.other W102 (own_ne (by omega))
  have f296 := f295.other W103 (own_ne (by omega))
  have f297 := f296.other W104 (own_ne (by omega))
  have f298 := f297.other W105 (own_ne (by omega))
  have f299 := f298.other W106 (own_ne (by omega))
  have f300 := f299.other W107 (own_ne (by omega))
  have f301 := f300.other W108 (own_ne (by omega))
  have f302 := f301.other W109 (own_ne (by omega))
  have f303 := f302.other W110 (own_ne (by omega))
  have f304 := f303.other W111 (own_ne (by omega))
  have f305 := f304.other W112 (own_ne (by omega))
  have f306 := f305.other W113 (own_ne (by omega))
  have f307 := f306.other W114 (own_ne (by omega))
  have f308 := f307.other W115 (own_ne (by omega))
  have f309 := f308.other W116 (own_ne (by omega))
  have f310 := f309.other W117 (own_ne (by omega))
  have f311 := f310.other W118 (own_ne (by omega))
  have f312 := f311.other W119 (own_ne (by omega))
  have f313 := f312.other W120 (own_ne (by omega))
  have f314 := f313.other W121 (own_ne (by omega))
  have f315 := f314.other W122 (own_ne (by omega))
  have f316 := f315.ext E124
  have f317 := f316.keep Kq126 (ninS (own_ne (by omega)) nin0)
  have f318 := f164.keep Kq126 (allS (by omega) all0)
  obtain ⟨cq169, kq169, qa169, qb169, qc169⟩ := isOf hZ46 rfl f206
  obtain ⟨_, _, ⟨T169, L169, k169, n169⟩, -, X169, ⟨Lc169, hQ169, l169, y169, z169⟩, st169⟩ := X126.virtualBack hx (y := m_38) (z := m_38) hown46 (mvT hZ46 (w_203 hw)) (mvT hZ46 (w_204 hw)) (notFace_of_selects (args := #[]) (mvT hZ46 (w_206 hw))) (mvT hZ46 (w_206 hw)) (mvT hZ46 (w_205 hw)) (by decide) (own_eqS (W := 0) hZ46 hw (cs := oL0 (oC p0) (oC p3)) rfl (own_hp0 (own_ch p0) (own_ch p3)) (Nat.le_of_ble_eq_true rfl) f206 f243 f280 f317 r126_0 r126_2 r126_1 r126_3 (P1.ext f318.2) hcs (by decide) (by decide)) qa169 qc169 (g := (mkF m 694 #[vI p0, vI p1, vI p2, vI p3, vI p4, .val (.int (oC p0)), .val (.int (oC p1)), .val (.int (oC p2)), .val (.int (oC p3)), .val (.int (p4 &&& (3 : Int32))), vA a1, vA b4, vA x46_r, vA b87] [(.ref b124), (.ref x46_r)])) rfl (by rw [hml]; rfl) (Steps.refl _) (argsL := [(.ref b124)]) (rest := []) (lenOf pd_28 rfl) rfl (Nat.le_of_eq rfl) (hb hby at_694) (fun _ _ => ⟨rfl, rfl, (by decide : 29 + 0 ≤ _), (by decide : 472 + 0 ≤ _)⟩)
  dsimp only [Pt.U, Pt.locs, Pt.cells, Pt.slots] at X169 l169 y169 z169 st169 hQ169
  rw [l169, y169, z169] at X169
  obtain ⟨rfl, Nq169, Kq169⟩ := hQ169
  have N169 := Fr.app N126 Nq169
  obtain ⟨fs, hr, hrun, hended, hEnd⟩ := X169.leaveW hS46 (by first | omega | (rw [(Kq169 : T169.heap = T126.heap)]; omega)) (v := some (.int 1)) (fun h => by rw [Bd.returns] at h; cases h)
  refine ⟨_, _, castTop (ef_18 m p0 p1 p2 p3 p4) ?_, hrun, hended, _, _, rfl, ?_, hEnd.1, hEnd.2.1, hEnd.2.2.1, hEnd.2.2.2.mono (by decide) (by decide)⟩
  · show Steps _ _ _ (s₁.setTop (mkF m 0 #[vI p0, vI p1, vI p2, vI p3, vI p4, .unset, .unset, .unset, .unset, .unset, .unset, .unset, .unset, .unset] [])) _
    refine XS.iloadN X0.here hx rfl (hb hby at_0) rfl ?_
    refine XS.sipush X0.here hx rfl (hb hby at_1) ?_
    refine XS.iand X0.here hx rfl (hb hby at_4) rfl ?_
    refine XS.i2c X0.here hx rfl (hb hby at_5) rfl ?_
    show Steps _ _ _ (s₁.setTop (mkF m 6 #[vI p0, vI p1, vI p2, vI p3, vI p4, .unset, .unset, .unset, .unset, .unset, .unset, .unset, .unset, .unset] [(.int (oC p0))])) _
    show Steps _ _ _ (s₁.setTop (mkF m 6 #[vI p0, vI p1, vI p2, vI p3, vI p4, .unset, .unset, .unset, .unset, .unset, .unset, .unset, .unset, .unset] [(.int (oC p0))])) _
    refine XS.istore X0.here hx rfl (hb hby at_6) rfl (l' := #[vI p0, vI p1, vI p2, vI p3, vI p4, .val (.int (oC p0)), .unset, .unset, .unset, .unset, .unset, .unset, .unset, .unset]) rfl ?_
    refine XS.iloadN X0.here hx rfl (hb hby at_8) rfl ?_
    refine XS.sipush X0.here hx rfl (hb hby at_9) ?_
    refine XS.iand X0.here hx rfl (hb hby at_12) rfl ?_
    refine XS.i2c X0.here hx rfl (hb hby at_13) rfl ?_
    show Steps _ _ _ (s₁.setTop (mkF m 14 #[vI p0, vI p1, vI p2, vI p3, vI p4, .val (.int (oC p0)), .unset, .unset, .unset, .unset, .unset, .unset, .unset, .unset] [(.int (oC p1))])) _
    show Steps _ _ _ (s₁.setTop (mkF m 14 #[vI p0, vI p1, vI p2, vI p3, vI p4, .val (.int (oC p0)), .unset, .unset, .unset, .unset, .unset, .unset, .unset, .unset] [(.int (oC p1))])) _
    refine XS.istore X0.here hx rfl (hb hby at_14) rfl (l' := #[vI p0, vI p1, vI p2, vI p3, vI p4, .val (.int (oC p0)), .val (.int (oC p1)), .unset, .unset, .unset, .unset, .unset, .unset, .unset]) rfl ?_
    refine XS.iloadN X0.here hx rfl (hb hby at_16) rfl ?_
    refine XS.sipush X0.here hx rfl (hb hby at_17) ?_
    refine XS.iand X0.here hx rfl (hb hby at_20) rfl ?_
    refine XS.i2c X0.here hx rfl (hb hby at_21) rfl ?_
    show Steps _ _ _ (s₁.setTop (mkF m 22 #[vI p0, vI p1, vI p2, vI p3, vI p4, .val (.int (oC p0)), .val (.int (oC p1)), .unset, .unset, .unset, .unset, .unset, .unset, .unset] [(.int (oC p2))])) _
    show Steps _ _ _ (s₁.setTop (mkF m 22 #[vI p0, vI p1, vI p2, vI p3, vI p4, .val (.int (oC p0)), .val (.int (oC p1)), .unset, .unset, .unset, .unset, .unset, .unset, .unset] [(.int (oC p2))])) _
    refine XS.istore X0.here hx rfl (hb hby at_22) rfl (l' := #[vI p0, vI p1, vI p2, vI p3, vI p4, .val (.int (oC p0)), .val (.int (oC p1)), .val (.int (oC p2)), .unset, .unset, .unset, .unset, .unset, .unset]) rfl ?_
    refine XS.iloadN X0.here hx rfl (hb hby at_24) rfl ?_
    refine XS.sipush X0.here hx rfl (hb hby at_25) ?_
    refine XS.iand X0.here hx rfl (hb hby at_28) rfl ?_
    refine XS.i2c X0.here hx rfl (hb hby at_29) rfl ?_
    show Steps _ _ _ (s₁.setTop (mkF m 30 #[vI p0, vI p1, vI p2, vI p3, vI p4, .val (.int (oC p0)), .val (.int (oC p1)), .val (.int (oC p2)), .unset, .unset, .unset, .unset, .unset, .unset] [(.int (oC p3))])) _
    show Steps _ _ _ (s₁.setTop (mkF m 30 #[vI p0, vI p1, vI p2, vI p3, vI p4, .val (.int (oC p0)), .val (.int (oC p1)), .val (.int (oC p2)), .unset, .unset, .unset, .unset, .unset, .unset] [(.int (oC p3))])) _
    refine XS.istore X0.here hx rfl (hb hby at_30) rfl (l' := #[vI p0, vI p1, vI p2, vI p3, vI p4, .val (.int (oC p0)), .val (.int (oC p1)), .val (.int (oC p2)), .val (.int (oC p3)), .unset, .unset, .unset, .unset, .unset]) rfl ?_
    refine XS.iload X0.here hx rfl (hb hby at_32) rfl ?_
    refine XS.iconst X0.here hx rfl (hb hby at_34) ?_
    refine XS.iand X0.here hx rfl (hb hby at_35) rfl ?_
    refine XS.istore X0.here hx rfl (hb hby at_36) rfl (l' := #[vI p0, vI p1, vI p2, vI p3, vI p4, .val (.int (oC p0)), .val (.int (oC p1)), .val (.int (oC p2)), .val (.int (oC p3)), .val (.int (p4 &&& (3 : Int32))), .unset, .unset, .unset, .unset]) rfl ?_
    refine XS.iload X0.here hx rfl (hb hby at_38) rfl ?_
    refine XS.ifYes X0.here hx rfl (pc0 := 40) (pc' := 49) rfl (hb hby at_40) rfl ((if0 _ _).trans (feq (hc40 : ¬ ((p4 &&& (3 : Int32)) = (0 : Int32)))).2) (by decide) (by decide) ?_
    refine XS.iload X0.here hx rfl (hb hby at_49) rfl ?_
    refine XS.iconst X0.here hx rfl (hb hby at_51) ?_
    refine XS.icmpNo X0.here hx rfl (hb hby at_52) rfl (teq (hc52 : (p4 &&& (3 : Int32)) = (1 : Int32))).2 ?_
    refine st1 _ ?_
    show Steps _ _ _ (T1.setTop (mkF m 57 #[vI p0, vI p1, vI p2, vI p3, vI p4, .val (.int (oC p0)), .val (.int (oC p1)), .val (.int (oC p2)), .val (.int (oC p3)), .val (.int (p4 &&& (3 : Int32))), .unset, .unset, .unset, .unset] [(.ref a1)])) _
    refine XS.astore X1.here hx rfl (hb hby at_57) rfl rfl (l' := #[vI p0, vI p1, vI p2, vI p3, vI p4, .val (.int (oC p0)), .val (.int (oC p1)), .val (.int (oC p2)), .val (.int (oC p3)), .val (.int (p4 &&& (3 : Int32))), vA a1, .unset, .unset, .unset]) rfl ?_
    refine XS.goto X1.here hx rfl (pc0 := 59) (pc' := 69) rfl (hb hby at_59) (by decide) (by decide) ?_
    refine st4 _ ?_
    show Steps _ _ _ (T4.setTop (mkF m 72 #[vI p0, vI p1, vI p2, vI p3, vI p4, .val (.int (oC p0)), .val (.int (oC p1)), .val (.int (oC p2)), .val (.int (oC p3)), .val (.int (p4 &&& (3 : Int32))), vA a1, .unset, .unset, .unset] [(.ref b4)])) _
    refine XS.dup X4.here hx rfl (hb hby at_72) rfl rfl ?_
    refine XS.iload X4.here hx rfl (hb hby at_73) rfl ?_
    refine st6 _ ?_
    show Steps _ _ _ (T6.setTop (mkF m 78 #[vI p0, vI p1, vI p2, vI p3, vI p4, .val (.int (oC p0)), .val (.int (oC p1)), .val (.int (oC p2)), .val (.int (oC p3)), .val (.int (p4 &&& (3 : Int32))), vA a1, .unset, .unset, .unset] [(.ref x6_a_), (.ref b4), (.ref b4)])) _
    refine XS.iload X6.here hx rfl (hb hby at_78) rfl ?_
    refine st13 _ ?_
    show Steps _ _ _ (T13.setTop (mkF m 83 #[vI p0, vI p1, vI p2, vI p3, vI p4, .val (.int (oC p0)), .val (.int (oC p1)), .val (.int (oC p2)), .val (.int (oC p3)), .val (.int (p4 &&& (3 : Int32))), vA a1, .unset, .unset, .unset] [(.ref x13_a_), (.ref x6_a_), (.ref b4), (.ref b4)])) _
    refine XS.aload X13.here hx rfl (hb hby at_83) rfl rfl ?_
    refine XS.iload X13.here hx rfl (hb hby at_85) rfl ?_
    refine st18 _ ?_
    show Steps _ _ _ (T18.setTop (mkF m 90 #[vI p0, vI p1, vI p2, vI p3, vI p4, .val (.int (oC p0)), .val (.int (oC p1)), .val (.int (oC p2)), .val (.int (oC p3)), .val (.int (p4 &&& (3 : Int32))), vA a1, .unset, .unset, .unset] [(.ref x18_a_), (.ref a1), (.ref x13_a_), (.ref x6_a_), (.ref b4), (.ref b4)])) _
    refine st23.trans ?_
    show Steps _ _ _ (T23.setTop (mkF m 93 #[vI p0, vI p1, vI p2, vI p3, vI p4, .val (.int (oC p0)), .val (.int (oC p1)), .val (.int (oC p2)), .val (.int (oC p3)), .val (.int (p4 &&& (3 : Int32))), vA a1, .unset, .unset, .unset] [(.ref b4)])) _
    refine XS.astore X23.here hx rfl (hb hby at_93) rfl rfl (l' := #[vI p0, vI p1, vI p2, vI p3, vI p4, .val (.int (oC p0)), .val (.int (oC p1)), .val (.int (oC p2)), .val (.int (oC p3)), .val (.int (p4 &&& (3 : Int32))), vA a1, vA b4, .unset, .unset]) rfl ?_
    refine XS.aload X23.here hx rfl (hb hby at_95) rfl rfl ?_
    refine st46.trans ?_
    show Steps _ _ _ (T46.setTop (mkF m 100 #[vI p0, vI p1, vI p2, vI p3, vI p4, .val (.int (oC p0)), .val (.int (oC p1)), .val (.int (oC p2)), .val (.int (oC p3)), .val (.int (p4 &&& (3 : Int32))), vA a1, vA b4, .unset, .unset] [(.ref x46_r)])) _
    refine XS.astore X46.here hx rfl (hb hby at_100) rfl rfl (l' := #[vI p0, vI p1, vI p2, vI p3, vI p4, .val (.int (oC p0)), .val (.int (oC p1)), .val (.int (oC p2)), .val (.int (oC p3)), .val (.int (p4 &&& (3 : Int32))), vA a1, vA b4, vA x46_r, .unset]) rfl ?_
    refine XS.iload X46.here hx rfl (hb hby at_102) rfl ?_
    refine XS.ifYes X46.here hx rfl (pc0 := 104) (pc' := 260) rfl (hb hby at_104) rfl ((if0 _ _).trans (feq (hc40 : ¬ ((p4 &&& (3 : Int32)) = (0 : Int32)))).2) (by decide) (by decide) ?_
    refine XS.iload X46.here hx rfl (hb hby at_260) rfl ?_
    refine XS.iconst X46.here hx rfl (hb hby at_262) ?_
    refine XS.icmpNo X46.here hx rfl (hb hby at_263) rfl (teq (hc52 : (p4 &&& (3 : Int32)) = (1 : Int32))).2 ?_
    refine XS.bipush X46.here hx rfl (hb hby at_266) ?_
    refine st87 _ ?_
    show Steps _ _ _ (T87.setTop (mkF m 270 #[vI p0, vI p1, vI p2, vI p3, vI p4, .val (.int (oC p0)), .val (.int (oC p1)), .val (.int (oC p2)), .val (.int (oC p3)), .val (.int (p4 &&& (3 : Int32))), vA a1, vA b4, vA x46_r, .unset] [(.ref b87)])) _
    refine XS.dup X87.here hx rfl (hb hby at_270) rfl rfl ?_
    refine XS.iconst X87.here hx rfl (hb hby at_271) ?_
    refine XS.bipush X87.here hx rfl (hb hby at_272) ?_
    refine st89 _ ?_
    show Steps _ _ _ (T89.setTop (mkF m 275 #[vI p0, vI p1, vI p2, vI p3, vI p4, .val (.int (oC p0)), .val (.int (oC p1)), .val (.int (oC p2)), .val (.int (oC p3)), .val (.int (p4 &&& (3 : Int32))), vA a1, vA b4, vA x46_r, .unset] [(.ref b87)])) _
    refine XS.dup X89.here hx rfl (hb hby at_275) rfl rfl ?_
    refine XS.iconst X89.here hx rfl (hb hby at_276) ?_
    refine XS.bipush X89.here hx rfl (hb hby at_277) ?_
    refine st90 _ ?_
    show Steps _ _ _ (T90.setTop (mkF m 280 #[vI p0, vI p1, vI p2, vI p3, vI p4, .val (.int (oC p0)), .val (.int (oC p1)), .val (.int (oC p2)), .val (.int (oC p3)), .val (.int (p4 &&& (3 : Int32))), vA a1, vA b4, vA x46_r, .unset] [(.ref b87)])) _
    refine XS.dup X90.here hx rfl (hb hby at_280) rfl rfl ?_
    refine XS.iconst X90.here hx rfl (hb hby at_281) ?_
    refine XS.bipush X90.here hx rfl (hb hby at_282) ?_
    refine st91 _ ?_
    show Steps _ _ _ (T91.setTop (mkF m 285 #[vI p0, vI p1, vI p2, vI p3, vI p4, .val (.int (oC p0)), .val (.int (oC p1)), .val (.int (oC p2)), .val (.int (oC p3)), .val (.int (p4 &&& (3 : Int32))), vA a1, vA b4, vA x46_r, .unset] [(.ref b87)])) _
    refine XS.dup X91.here hx rfl (hb hby at_285) rfl rfl ?_
    refine XS.iconst X91.here hx rfl (hb hby at_286) ?_
    refine XS.bipush X91.here hx rfl (hb hby at_287) ?_
    refine st92 _ ?_
    show Steps _ _ _ (T92.setTop (mkF m 290 #[vI p0, vI p1, vI p2, vI p3, vI p4, .val (.int (oC p0)), .val (.int (oC p1)), .val (.int (oC p2)), .val (.int (oC p3)), .val (.int (p4 &&& (3 : Int32))), vA a1, vA b4, vA x46_r, .unset] [(.ref b87)])) _
    refine XS.dup X92.here hx rfl (hb hby at_290) rfl rfl ?_
    refine XS.iconst X92.here hx rfl (hb hby at_291) ?_
    refine XS.bipush X92.here hx rfl (hb hby at_292) ?_
    refine st93 _ ?_
    show Steps _ _ _ (T93.setTop (mkF m 295 #[vI p0, vI p1, vI p2, vI p3, vI p4, .val (.int (oC p0)), .val (.int (oC p1)), .val (.int (oC p2)), .val (.int (oC p3)), .val (.int (p4 &&& (3 : Int32))), vA a1, vA b4, vA x46_r, .unset] [(.ref b87)])) _
    refine XS.dup X93.here hx rfl (hb hby at_295) rfl rfl ?_
    refine XS.iconst X93.here hx rfl (hb hby at_296) ?_
    refine XS.bipush X93.here hx rfl (hb hby at_297) ?_
    refine st94 _ ?_
    show Steps _ _ _ (T94.setTop (mkF m 300 #[vI p0, vI p1, vI p2, vI p3, vI p4, .val (.int (oC p0)), .val (.int (oC p1)), .val (.int (oC p2)), .val (.int (oC p3)), .val (.int (p4 &&& (3 : Int32))), vA a1, vA b4, vA x46_r, .unset] [(.ref b87)])) _
    refine XS.dup X94.here hx rfl (hb hby at_300) rfl rfl ?_
    refine XS.bipush X94.here hx rfl (hb hby at_301) ?_
    refine XS.bipush X94.here hx rfl (hb hby at_303) ?_
    refine st95 _ ?_
    show Steps _ _ _ (T95.setTop (mkF m 306 #[vI p0, vI p1, vI p2, vI p3, vI p4, .val (.int (oC p0)), .val (.int (oC p1)), .val (.int (oC p2)), .val (.int (oC p3)), .val (.int (p4 &&& (3 : Int32))), vA a1, vA b4, vA x46_r, .unset] [(.ref b87)])) _
    refine XS.dup X95.here hx rfl (hb hby at_306) rfl rfl ?_
    refine XS.bipush X95.here hx rfl (hb hby at_307) ?_
    refine XS.bipush X95.here hx rfl (hb hby at_309) ?_
    refine st96 _ ?_
    show Steps _ _ _ (T96.setTop (mkF m 312 #[vI p0, vI p1, vI p2, vI p3, vI p4, .val (.int (oC p0)), .val (.int (oC p1)), .val (.int (oC p2)), .val (.int (oC p3)), .val (.int (p4 &&& (3 : Int32))), vA a1, vA b4, vA x46_r, .unset] [(.ref b87)])) _
    refine XS.dup X96.here hx rfl (hb hby at_312) rfl rfl ?_
    refine XS.bipush X96.here hx rfl (hb hby at_313) ?_
    refine XS.bipush X96.here hx rfl (hb hby at_315) ?_
    refine st97 _ ?_
    show Steps _ _ _ (T97.setTop (mkF m 318 #[vI p0, vI p1, vI p2, vI p3, vI p4, .val (.int (oC p0)), .val (.int (oC p1)), .val (.int (oC p2)), .val (.int (oC p3)), .val (.int (p4 &&& (3 : Int32))), vA a1, vA b4, vA x46_r, .unset] [(.ref b87)])) _
    refine XS.dup X97.here hx rfl (hb hby at_318) rfl rfl ?_
    refine XS.bipush X97.here hx rfl (hb hby at_319) ?_
    refine XS.bipush X97.here hx rfl (hb hby at_321) ?_
    refine st98 _ ?_
    show Steps _ _ _ (T98.setTop (mkF m 324 #[vI p0, vI p1, vI p2, vI p3, vI p4, .val (.int (oC p0)), .val (.int (oC p1)), .val (.int (oC p2)), .val (.int (oC p3)), .val (.int (p4 &&& (3 : Int32))), vA a1, vA b4, vA x46_r, .unset] [(.ref b87)])) _
    refine XS.dup X98.here hx rfl (hb hby at_324) rfl rfl ?_
    refine XS.bipush X98.here hx rfl (hb hby at_325) ?_
    refine XS.bipush X98.here hx rfl (hb hby at_327) ?_
    refine st99 _ ?_
    show Steps _ _ _ (T99.setTop (mkF m 330 #[vI p0, vI p1, vI p2, vI p3, vI p4, .val (.int (oC p0)), .val (.int (oC p1)), .val (.int (oC p2)), .val (.int (oC p3)), .val (.int (p4 &&& (3 : Int32))), vA a1, vA b4, vA x46_r, .unset] [(.ref b87)])) _
    refine XS.dup X99.here hx rfl (hb hby at_330) rfl rfl ?_
    refine XS.bipush X99.here hx rfl (hb hby at_331) ?_
    refine XS.bipush X99.here hx rfl (hb hby at_333) ?_
    refine st100 _ ?_
    show Steps _ _ _ (T100.setTop (mkF m 336 #[vI p0, vI p1, vI p2, vI p3, vI p4, .val (.int (oC p0)), .val (.int (oC p1)), .val (.int (oC p2)), .val (.int (oC p3)), .val (.int (p4 &&& (3 : Int32))), vA a1, vA b4, vA x46_r, .unset] [(.ref b87)])) _
    refine XS.dup X100.here hx rfl (hb hby at_336) rfl rfl ?_
    refine XS.bipush X100.here hx rfl (hb hby at_337) ?_
    refine XS.bipush X100.here hx rfl (hb hby at_339) ?_
    refine st101 _ ?_
    show Steps _ _ _ (T101.setTop (mkF m 342 #[vI p0, vI p1, vI p2, vI p3, vI p4, .val (.int (oC p0)), .val (.int (oC p1)), .val (.int (oC p2)), .val (.int (oC p3)), .val (.int (p4 &&& (3 : Int32))), vA a1, vA b4, vA x46_r, .unset] [(.ref b87)])) _
    refine XS.dup X101.here hx rfl (hb hby at_342) rfl rfl ?_
    refine XS.bipush X101.here hx rfl (hb hby at_343) ?_
    refine XS.iload X101.here hx rfl (hb hby at_345) rfl ?_
    refine st102 _ ?_
    show Steps _ _ _ (T102.setTop (mkF m 348 #[vI p0, vI p1, vI p2, vI p3, vI p4, .val (.int (oC p0)), .val (.int (oC p1)), .val (.int (oC p2)), .val (.int (oC p3)), .val (.int (p4 &&& (3 : Int32))), vA a1, vA b4, vA x46_r, .unset] [(.ref b87)])) _
    refine XS.dup X102.here hx rfl (hb hby at_348) rfl rfl ?_
    refine XS.bipush X102.here hx rfl (hb hby at_349) ?_
    refine XS.bipush X102.here hx rfl (hb hby at_351) ?_
    refine st103 _ ?_
    show Steps _ _ _ (T103.setTop (mkF m 354 #[vI p0, vI p1, vI p2, vI p3, vI p4, .val (.int (oC p0)), .val (.int (oC p1)), .val (.int (oC p2)), .val (.int (oC p3)), .val (.int (p4 &&& (3 : Int32))), vA a1, vA b4, vA x46_r, .unset] [(.ref b87)])) _
    refine XS.dup X103.here hx rfl (hb hby at_354) rfl rfl ?_
    refine XS.bipush X103.here hx rfl (hb hby at_355) ?_
    refine XS.bipush X103.here hx rfl (hb hby at_357) ?_
    refine st104 _ ?_
    show Steps _ _ _ (T104.setTop (mkF m 360 #[vI p0, vI p1, vI p2, vI p3, vI p4, .val (.int (oC p0)), .val (.int (oC p1)), .val (.int (oC p2)), .val (.int (oC p3)), .val (.int (p4 &&& (3 : Int32))), vA a1, vA b4, vA x46_r, .unset] [(.ref b87)])) _
    refine XS.dup X104.here hx rfl (hb hby at_360) rfl rfl ?_
    refine XS.bipush X104.here hx rfl (hb hby at_361) ?_
    refine XS.bipush X104.here hx rfl (hb hby at_363) ?_
    refine st105 _ ?_
    show Steps _ _ _ (T105.setTop (mkF m 366 #[vI p0, vI p1, vI p2, vI p3, vI p4, .val (.int (oC p0)), .val (.int (oC p1)), .val (.int (oC p2)), .val (.int (oC p3)), .val (.int (p4 &&& (3 : Int32))), vA a1, vA b4, vA x46_r, .unset] [(.ref b87)])) _
    refine XS.dup X105.here hx rfl (hb hby at_366) rfl rfl ?_
    refine XS.bipush X105.here hx rfl (hb hby at_367) ?_
    refine XS.bipush X105.here hx rfl (hb hby at_369) ?_
    refine st106 _ ?_
    show Steps _ _ _ (T106.setTop (mkF m 372 #[vI p0, vI p1, vI p2, vI p3, vI p4, .val (.int (oC p0)), .val (.int (oC p1)), .val (.int (oC p2)), .val (.int (oC p3)), .val (.int (p4 &&& (3 : Int32))), vA a1, vA b4, vA x46_r, .unset] [(.ref b87)])) _
    refine XS.dup X106.here hx rfl (hb hby at_372) rfl rfl ?_
    refine XS.bipush X106.here hx rfl (hb hby at_373) ?_
    refine XS.bipush X106.here hx rfl (hb hby at_375) ?_
    refine st107 _ ?_
    show Steps _ _ _ (T107.setTop (mkF m 378 #[vI p0, vI p1, vI p2, vI p3, vI p4, .val (.int (oC p0)), .val (.int (oC p1)), .val (.int (oC p2)), .val (.int (oC p3)), .val (.int (p4 &&& (3 : Int32))), vA a1, vA b4, vA x46_r, .unset] [(.ref b87)])) _
    refine XS.dup X107.here hx rfl (hb hby at_378) rfl rfl ?_
    refine XS.bipush X107.here hx rfl (hb hby at_379) ?_
    refine XS.bipush X107.here hx rfl (hb hby at_381) ?_
    refine st108 _ ?_
    show Steps _ _ _ (T108.setTop (mkF m 384 #[vI p0, vI p1, vI p2, vI p3, vI p4, .val (.int (oC p0)), .val (.int (oC p1)), .val (.int (oC p2)), .val (.int (oC p3)), .val (.int (p4 &&& (3 : Int32))), vA a1, vA b4, vA x46_r, .unset] [(.ref b87)])) _
    refine XS.dup X108.here hx rfl (hb hby at_384) rfl rfl ?_
    refine XS.bipush X108.here hx rfl (hb hby at_385) ?_
    refine XS.bipush X108.here hx rfl (hb hby at_387) ?_
    refine st109 _ ?_
    show Steps _ _ _ (T109.setTop (mkF m 390 #[vI p0, vI p1, vI p2, vI p3, vI p4, .val (.int (oC p0)), .val (.int (oC p1)), .val (.int (oC p2)), .val (.int (oC p3)), .val (.int (p4 &&& (3 : Int32))), vA a1, vA b4, vA x46_r, .unset] [(.ref b87)])) _
    refine XS.dup X109.here hx rfl (hb hby at_390) rfl rfl ?_
    refine XS.bipush X109.here hx rfl (hb hby at_391) ?_
    refine XS.bipush X109.here hx rfl (hb hby at_393) ?_
    refine st110 _ ?_
    show Steps _ _ _ (T110.setTop (mkF m 396 #[vI p0, vI p1, vI p2, vI p3, vI p4, .val (.int (oC p0)), .val (.int (oC p1)), .val (.int (oC p2)), .val (.int (oC p3)), .val (.int (p4 &&& (3 : Int32))), vA a1, vA b4, vA x46_r, .unset] [(.ref b87)])) _
    refine XS.dup X110.here hx rfl (hb hby at_396) rfl rfl ?_
    refine XS.bipush X110.here hx rfl (hb hby at_397) ?_
    refine XS.bipush X110.here hx rfl (hb hby at_399) ?_
    refine st111 _ ?_
    show Steps _ _ _ (T111.setTop (mkF m 402 #[vI p0, vI p1, vI p2, vI p3, vI p4, .val (.int (oC p0)), .val (.int (oC p1)), .val (.int (oC p2)), .val (.int (oC p3)), .val (.int (p4 &&& (3 : Int32))), vA a1, vA b4, vA x46_r, .unset] [(.ref b87)])) _
    refine XS.dup X111.here hx rfl (hb hby at_402) rfl rfl ?_
    refine XS.bipush X111.here hx rfl (hb hby at_403) ?_
    refine XS.bipush X111.here hx rfl (hb hby at_405) ?_
    refine st112 _ ?_
    show Steps _ _ _ (T112.setTop (mkF m 408 #[vI p0, vI p1, vI p2, vI p3, vI p4, .val (.int (oC p0)), .val (.int (oC p1)), .val (.int (oC p2)), .val (.int (oC p3)), .val (.int (p4 &&& (3 : Int32))), vA a1, vA b4, vA x46_r, .unset] [(.ref b87)])) _
    refine XS.dup X112.here hx rfl (hb hby at_408) rfl rfl ?_
    refine XS.bipush X112.here hx rfl (hb hby at_409) ?_
    refine XS.bipush X112.here hx rfl (hb hby at_411) ?_
    refine st113 _ ?_
    show Steps _ _ _ (T113.setTop (mkF m 414 #[vI p0, vI p1, vI p2, vI p3, vI p4, .val (.int (oC p0)), .val (.int (oC p1)), .val (.int (oC p2)), .val (.int (oC p3)), .val (.int (p4 &&& (3 : Int32))), vA a1, vA b4, vA x46_r, .unset] [(.ref b87)])) _
    refine XS.dup X113.here hx rfl (hb hby at_414) rfl rfl ?_
    refine XS.bipush X113.here hx rfl (hb hby at_415) ?_
    refine XS.bipush X113.here hx rfl (hb hby at_417) ?_
    refine st114 _ ?_
    show Steps _ _ _ (T114.setTop (mkF m 420 #[vI p0, vI p1, vI p2, vI p3, vI p4, .val (.int (oC p0)), .val (.int (oC p1)), .val (.int (oC p2)), .val (.int (oC p3)), .val (.int (p4 &&& (3 : Int32))), vA a1, vA b4, vA x46_r, .unset] [(.ref b87)])) _
    refine XS.dup X114.here hx rfl (hb hby at_420) rfl rfl ?_
    refine XS.bipush X114.here hx rfl (hb hby at_421) ?_
    refine XS.bipush X114.here hx rfl (hb hby at_423) ?_
    refine st115 _ ?_
    show Steps _ _ _ (T115.setTop (mkF m 426 #[vI p0, vI p1, vI p2, vI p3, vI p4, .val (.int (oC p0)), .val (.int (oC p1)), .val (.int (oC p2)), .val (.int (oC p3)), .val (.int (p4 &&& (3 : Int32))), vA a1, vA b4, vA x46_r, .unset] [(.ref b87)])) _
    refine XS.dup X115.here hx rfl (hb hby at_426) rfl rfl ?_
    refine XS.bipush X115.here hx rfl (hb hby at_427) ?_
    refine XS.bipush X115.here hx rfl (hb hby at_429) ?_
    refine st116 _ ?_
    show Steps _ _ _ (T116.setTop (mkF m 432 #[vI p0, vI p1, vI p2, vI p3, vI p4, .val (.int (oC p0)), .val (.int (oC p1)), .val (.int (oC p2)), .val (.int (oC p3)), .val (.int (p4 &&& (3 : Int32))), vA a1, vA b4, vA x46_r, .unset] [(.ref b87)])) _
    refine XS.dup X116.here hx rfl (hb hby at_432) rfl rfl ?_
    refine XS.bipush X116.here hx rfl (hb hby at_433) ?_
    refine XS.bipush X116.here hx rfl (hb hby at_435) ?_
    refine st117 _ ?_
    show Steps _ _ _ (T117.setTop (mkF m 438 #[vI p0, vI p1, vI p2, vI p3, vI p4, .val (.int (oC p0)), .val (.int (oC p1)), .val (.int (oC p2)), .val (.int (oC p3)), .val (.int (p4 &&& (3 : Int32))), vA a1, vA b4, vA x46_r, .unset] [(.ref b87)])) _
    refine XS.dup X117.here hx rfl (hb hby at_438) rfl rfl ?_
    refine XS.bipush X117.here hx rfl (hb hby at_439) ?_
    refine XS.bipush X117.here hx rfl (hb hby at_441) ?_
    refine st118 _ ?_
    show Steps _ _ _ (T118.setTop (mkF m 444 #[vI p0, vI p1, vI p2, vI p3, vI p4, .val (.int (oC p0)), .val (.int (oC p1)), .val (.int (oC p2)), .val (.int (oC p3)), .val (.int (p4 &&& (3 : Int32))), vA a1, vA b4, vA x46_r, .unset] [(.ref b87)])) _
    refine XS.dup X118.here hx rfl (hb hby at_444) rfl rfl ?_
    refine XS.bipush X118.here hx rfl (hb hby at_445) ?_
    refine XS.bipush X118.here hx rfl (hb hby at_447) ?_
    refine st119 _ ?_
    show Steps _ _ _ (T119.setTop (mkF m 450 #[vI p0, vI p1, vI p2, vI p3, vI p4, .val (.int (oC p0)), .val (.int (oC p1)), .val (.int (oC p2)), .val (.int (oC p3)), .val (.int (p4 &&& (3 : Int32))), vA a1, vA b4, vA x46_r, .unset] [(.ref b87)])) _
    refine XS.dup X119.here hx rfl (hb hby at_450) rfl rfl ?_
    refine XS.bipush X119.here hx rfl (hb hby at_451) ?_
    refine XS.bipush X119.here hx rfl (hb hby at_453) ?_
    refine st120 _ ?_
    show Steps _ _ _ (T120.setTop (mkF m 456 #[vI p0, vI p1, vI p2, vI p3, vI p4, .val (.int (oC p0)), .val (.int (oC p1)), .val (.int (oC p2)), .val (.int (oC p3)), .val (.int (p4 &&& (3 : Int32))), vA a1, vA b4, vA x46_r, .unset] [(.ref b87)])) _
    refine XS.dup X120.here hx rfl (hb hby at_456) rfl rfl ?_
    refine XS.bipush X120.here hx rfl (hb hby at_457) ?_
    refine XS.iload X120.here hx rfl (hb hby at_459) rfl ?_
    refine st121 _ ?_
    show Steps _ _ _ (T121.setTop (mkF m 462 #[vI p0, vI p1, vI p2, vI p3, vI p4, .val (.int (oC p0)), .val (.int (oC p1)), .val (.int (oC p2)), .val (.int (oC p3)), .val (.int (p4 &&& (3 : Int32))), vA a1, vA b4, vA x46_r, .unset] [(.ref b87)])) _
    refine XS.dup X121.here hx rfl (hb hby at_462) rfl rfl ?_
    refine XS.bipush X121.here hx rfl (hb hby at_463) ?_
    refine XS.bipush X121.here hx rfl (hb hby at_465) ?_
    refine st122 _ ?_
    show Steps _ _ _ (T122.setTop (mkF m 468 #[vI p0, vI p1, vI p2, vI p3, vI p4, .val (.int (oC p0)), .val (.int (oC p1)), .val (.int (oC p2)), .val (.int (oC p3)), .val (.int (p4 &&& (3 : Int32))), vA a1, vA b4, vA x46_r, .unset] [(.ref b87)])) _
    refine XS.astore X122.here hx rfl (hb hby at_468) rfl rfl (l' := #[vI p0, vI p1, vI p2, vI p3, vI p4, .val (.int (oC p0)), .val (.int (oC p1)), .val (.int (oC p2)), .val (.int (oC p3)), .val (.int (p4 &&& (3 : Int32))), vA a1, vA b4, vA x46_r, vA b87]) rfl ?_
    refine XS.goto X122.here hx rfl (pc0 := 470) (pc' := 683) rfl (hb hby at_470) (by decide) (by decide) ?_
    refine XS.aload X122.here hx rfl (hb hby at_683) rfl rfl ?_
    refine st124 _ ?_
    show Steps _ _ _ (T124.setTop (mkF m 688 #[vI p0, vI p1, vI p2, vI p3, vI p4, .val (.int (oC p0)), .val (.int (oC p1)), .val (.int (oC p2)), .val (.int (oC p3)), .val (.int (p4 &&& (3 : Int32))), vA a1, vA b4, vA x46_r, vA b87] [(.ref b124), (.ref x46_r)])) _
    refine XS.dup X124.here hx rfl (hb hby at_688) rfl rfl ?_
    refine XS.aload X124.here hx rfl (hb hby at_689) rfl rfl ?_
    refine st126.trans ?_
    show Steps _ _ _ (T126.setTop (mkF m 694 #[vI p0, vI p1, vI p2, vI p3, vI p4, .val (.int (oC p0)), .val (.int (oC p1)), .val (.int (oC p2)), .val (.int (oC p3)), .val (.int (p4 &&& (3 : Int32))), vA a1, vA b4, vA x46_r, vA b87] [(.ref b124), (.ref x46_r)])) _
    refine st169.trans ?_
    show Steps _ _ _ (T169.setTop (mkF m 697 #[vI p0, vI p1, vI p2, vI p3, vI p4, .val (.int (oC p0)), .val (.int (oC p1)), .val (.int (oC p2)), .val (.int (oC p3)), .val (.int (p4 &&& (3 : Int32))), vA a1, vA b4, vA x46_r, vA b87] [(.int 1)])) _
    exact retN X169 hx (t := .boolean) Bd.returns (by simp) (hb hby at_697) hr
  · show Q_law Z p0 p1 p2 p3 p4 cp h0 n0 _ T169.heap _
    rw [(Kq169 : T169.heap = T126.heap)]
    exact ⟨rfl, N169⟩
theorem rm_law_1 (l : Launch) (Z : State) (a0 : Array Value) (hw : HW Z a0) (ws : List Jvm.Cond) (p0 : Int32) (p1 : Int32) (p2 : Int32) (p3 : Int32) (p4 : Int32) (cp : Int32) (h0 : Heap) (n0 : Nat) (Z0 : n0 ≤ h0.size) (P0 : Old Z n0 h0) (P1 : sta0 Z (.int cp)) (hcs : ¬ (cp = (0 : Int32))) (hc40 : ¬ ((p4 &&& (3 : Int32)) = (0 : Int32))) (hc52 : ¬ ((p4 &&& (3 : Int32)) = (1 : Int32))) :
    MetFree l x (head1 (Jvm.Cond.code x code maxLocals ret :: ws) room_1) (fun as' U => as' = #[(.int p0), (.int p1), (.int p2), (.int p3), (.int p4)] ∧ Z.Warmed39 U.vm ∧ U.heap = h0 ∧ CHv Z own_EL U.vm h0) (fun _ _ _ _ _ => True) (fun _ U o U' => ∃ v L, o = .returned v ∧ Q_law Z p0 p1 p2 p3 p4 cp h0 n0 v U'.heap L ∧ ReturnedEndW U o U' L room_1.cells room_1.slots) := by
  refine MetFree.of_bodySF (plainFor_of_name pn_10) hisR ?_
  intro p e s m args below meth c s₁ Bd hml0 hP hK
  obtain ⟨rfl, hZ, hh, hCH⟩ := hP
  have hx := Bd.exec
  have hby := Bd.bytes
  have hml : c.maxLocals = 14 := hml0
  have hown : (s.setVm s.vm).vm.findClass "com/example/upright_harness/uprightharness/AccountToStringPinLaw" = some m.cls := findClass_of_methodNamed Bd.named
  have hnm := (name_of_methodNamed Bd.named Bd.method).1
  have X0 : Stand p l e room_1 (s.setVm s.vm) m #[(.int p0), (.int p1), (.int p2), (.int p3), (.int p4)] below meth c s₁ [] 0 0 := Stand.of_body Bd
  have e0 : s₁.heap = h0 := by rw [← hh, Bd.state]; rfl
  have N0 := Fr.nil n0
  have hZ : Z.Warmed39 (s.setVm s.vm).vm := hZ
  have hS0 : s.Since s.vm h0.size := (State.WarmedH.refl s).since _
  have hk0 : h0.size ≤ h0.size := Nat.le_refl _
  have C0 : CHr Z own_EL s.vm h0 s.vm h0 := CHr.refl hCH
  obtain ⟨_, _, ⟨T1, L1, k1, n1⟩, -, X1, ⟨Lc1, hQ1, l1, y1, z1⟩, st1⟩ := Jvm.LawKit.callS X0 hx (y := m_4) hown (mvT hZ (w_3 hw)) (mvT hZ (w_4 hw)) (mvT hZ (w_5 hw)) (mvT hZ (w_6 hw)) (by decide) (backOf (W := 0) (rm_valueC l Z a0 hw [] ((oC p2)) cp h0 n0 (by omega) P0 P1 hcs (own_ch p2).2) hZ (w_6 hw) (w_5 hw) (by decide) (by decide)) (g := (mkF m 64 #[vI p0, vI p1, vI p2, vI p3, vI p4, .val (.int (oC p0)), .val (.int (oC p1)), .val (.int (oC p2)), .val (.int (oC p3)), .val (.int (p4 &&& (3 : Int32))), .unset, .unset, .unset, .unset] [(.int (oC p2))])) rfl (by rw [hml]; rfl) (argsL := [(.int (oC p2))]) (rest := []) (lenOf pd_25 rfl) rfl (Nat.le_of_eq rfl) (hb hby at_64) (fun _ _ => ⟨rfl, e0, (by decide : 0 + 2 ≤ _), (by decide : 0 + 5 ≤ _)⟩)
  dsimp only [Pt.U, Pt.locs, Pt.cells, Pt.slots] at X1 l1 y1 z1 st1 hQ1
  rw [l1, y1, z1] at X1
  obtain ⟨x1_a_, x1_b, x1_k, rfl, Nq1, Kq1, r1_0, r1_1, r1_2, r1_3, r1_4, r1_5, r1_6⟩ := hQ1
  have N1 := Fr.app N0 Nq1
  have C1 := C0.trans (CHr.keep Kq1 sf0 C0.1)
  have z1' := Kq1.1
  have sf1_0 : Safe Z own_EL s.vm T1.heap x1_a_ := Safe.keep Kq1 sf0 C0.1 (Safe.new (by omega))
  have sf1_1 : Safe Z own_EL s.vm T1.heap x1_b := Safe.keep Kq1 sf0 C0.1 (Safe.new (by omega))
  have lt2 := own_l r1_2.lt
  have lt3 := own_l r1_3.lt
  have lt4 := own_l r1_4.lt
  have lt5 := own_l r1_5.lt
  obtain ⟨T6, h6, X6, e6, E6, A6, D6, -, st6⟩ := newO X1 hx hZ hown (w_0 hw) (w_1 hw) (w_2 hw) rfl (g := (mkF m 69 #[vI p0, vI p1, vI p2, vI p3, vI p4, .val (.int (oC p0)), .val (.int (oC p1)), .val (.int (oC p2)), .val (.int (oC p3)), .val (.int (p4 &&& (3 : Int32))), vA x1_a_, .unset, .unset, .unset] [])) rfl (hb hby at_69) (by decide) (by decide)
  obtain ⟨b6, g6⟩ : ∃ z, z = T1.heap.size := ⟨_, rfl⟩
  rw [← g6] at A6 D6 st6
  have z6 := E6.1
  have C6 := C1.trans (CHr.ext E6 C1.1)
  have lt7 := own_l A6.lt
  have F6_42 : Fld Z h6 b6 "com/example/upright_harness/uprightharness/Account" "user" "Ljava/lang/String;" .null := D6 (Or.inr (w_42 hw)) (ty := (.object "java/lang/String")) (by decide)
  have F6_45 : Fld Z h6 b6 "com/example/upright_harness/uprightharness/Account" "password" "Ljava/lang/String;" .null := D6 (Or.inr (w_45 hw)) (ty := (.object "java/lang/String")) (by decide)
  have F6_47 : Fld Z h6 b6 "com/example/upright_harness/uprightharness/Account" "domain" "Ljava/lang/String;" .null := D6 (Or.inr (w_47 hw)) (ty := (.object "java/lang/String")) (by decide)
  have F6_50 : Fld Z h6 b6 "com/example/upright_harness/uprightharness/Account" "target" "Ljava/lang/String;" .null := D6 (Or.inr (w_50 hw)) (ty := (.object "java/lang/String")) (by decide)
  have f9 := r1_6.ext E6
  obtain ⟨_, _, ⟨T8, L8, k8, n8⟩, -, X8, ⟨Lc8, hQ8, l8, y8, z8⟩, st8⟩ := Jvm.LawKit.callS X6 hx (y := m_4) hown (mvT hZ (w_3 hw)) (mvT hZ (w_4 hw)) (mvT hZ (w_5 hw)) (mvT hZ (w_6 hw)) (by decide) (backOf (W := 2) (rm_valueC l Z a0 hw [] ((oC p0)) cp h6 n0 (by omega) f9 P1 hcs (own_ch p0).2) hZ (w_6 hw) (w_5 hw) (by decide) (by decide)) (g := (mkF m 75 #[vI p0, vI p1, vI p2, vI p3, vI p4, .val (.int (oC p0)), .val (.int (oC p1)), .val (.int (oC p2)), .val (.int (oC p3)), .val (.int (p4 &&& (3 : Int32))), vA x1_a_, .unset, .unset, .unset] [(.int (oC p0)), (.ref b6), (.ref b6)])) rfl (by rw [hml]; rfl) (argsL := [(.int (oC p0))]) (rest := [(.ref b6), (.ref b6)]) (lenOf pd_25 rfl) rfl (Nat.le_of_eq rfl) (hb hby at_75) (fun _ _ => ⟨rfl, e6, (by decide : 3 + 2 ≤ _), (by decide : 9 + 5 ≤ _)⟩)
  dsimp only [Pt.U, Pt.locs, Pt.cells, Pt.slots] at X8 l8 y8 z8 st8 hQ8
  rw [l8, y8, z8] at X8
  obtain ⟨x8_a_, x8_b, x8_k, rfl, Nq8, Kq8, r8_0, r8_1, r8_2, r8_3, r8_4, r8_5, r8_6⟩ := hQ8
  have N8 := Fr.app N1 Nq8
  have C8 := C6.trans (CHr.keep Kq8 sf0 C6.1)
  have z8' := Kq8.1
  have sf8_0 : Safe Z own_EL s.vm T8.heap x8_a_ := Safe.keep Kq8 sf0 C6.1 (Safe.new (by omega))
  have sf8_1 : Safe Z own_EL s.vm T8.heap x8_b := Safe.keep Kq8 sf0 C6.1 (Safe.new (by omega))
  have lt10 := own_l r8_2.lt
  have lt11 := own_l r8_3.lt
  have lt12 := own_l r8_4.lt
  have lt13 := own_l r8_5.lt
  obtain ⟨_, _, ⟨T14, L14, k14, n14⟩, -, X14, ⟨Lc14, hQ14, l14, y14, z14⟩, st14⟩ := Jvm.LawKit.callS X8 hx (y := m_4) hown (mvT hZ (w_3 hw)) (mvT hZ (w_4 hw)) (mvT hZ (w_5 hw)) (mvT hZ (w_6 hw)) (by decide) (backOf (W := 3) (rm_valueC l Z a0 hw [] ((oC p1)) cp T8.heap n0 (by omega) r8_6 P1 hcs (own_ch p1).2) hZ (w_6 hw) (w_5 hw) (by decide) (by decide)) (g := (mkF m 80 #[vI p0, vI p1, vI p2, vI p3, vI p4, .val (.int (oC p0)), .val (.int (oC p1)), .val (.int (oC p2)), .val (.int (oC p3)), .val (.int (p4 &&& (3 : Int32))), vA x1_a_, .unset, .unset, .unset] [(.int (oC p1)), (.ref x8_a_), (.ref b6), (.ref b6)])) rfl (by rw [hml]; rfl) (argsL := [(.int (oC p1))]) (rest := [(.ref x8_a_), (.ref b6), (.ref b6)]) (lenOf pd_25 rfl) rfl (Nat.le_of_eq rfl) (hb hby at_80) (fun _ _ => ⟨rfl, rfl, (by decide : 5 + 2 ≤ _), (by decide : 14 + 5 ≤ _)⟩)
  dsimp only [Pt.U, Pt.locs, Pt.cells, Pt.slots] at X14 l14 y14 z14 st14 hQ14
  rw [l14, y14, z14] at X14
  obtain ⟨x14_a_, x14_b, x14_k, rfl, Nq14, Kq14, r14_0, r14_1, r14_2, r14_3, r14_4, r14_5, r14_6⟩ := hQ14
  have N14 := Fr.app N8 Nq14
  have C14 := C8.trans (CHr.keep Kq14 sf0 C8.1)
  have z14' := Kq14.1
  have sf14_0 : Safe Z own_EL s.vm T14.heap x14_a_ := Safe.keep Kq14 sf0 C8.1 (Safe.new (by omega))
  have sf14_1 : Safe Z own_EL s.vm T14.heap x14_b := Safe.keep Kq14 sf0 C8.1 (Safe.new (by omega))
  have lt15 := own_l r14_2.lt
  have lt16 := own_l r14_3.lt
  have lt17 := own_l r14_4.lt
  have lt18 := own_l r14_5.lt
  obtain ⟨_, _, ⟨T19, L19, k19, n19⟩, -, X19, ⟨Lc19, hQ19, l19, y19, z19⟩, st19⟩ := Jvm.LawKit.callS X14 hx (y := m_4) hown (mvT hZ (w_3 hw)) (mvT hZ (w_4 hw)) (mvT hZ (w_5 hw)) (mvT hZ (w_6 hw)) (by decide) (backOf (W := 5) (rm_valueC l Z a0 hw [] ((oC p3)) cp T14.heap n0 (by omega) r14_6 P1 hcs (own_ch p3).2) hZ (w_6 hw) (w_5 hw) (by decide) (by decide)) (g := (mkF m 87 #[vI p0, vI p1, vI p2, vI p3, vI p4, .val (.int (oC p0)), .val (.int (oC p1)), .val (.int (oC p2)), .val (.int (oC p3)), .val (.int (p4 &&& (3 : Int32))), vA x1_a_, .unset, .unset, .unset] [(.int (oC p3)), (.ref x1_a_), (.ref x14_a_), (.ref x8_a_), (.ref b6), (.ref b6)])) rfl (by rw [hml]; rfl) (argsL := [(.int (oC p3))]) (rest := [(.ref x1_a_), (.ref x14_a_), (.ref x8_a_), (.ref b6), (.ref b6)]) (lenOf pd_25 rfl) rfl (Nat.le_of_eq rfl) (hb hby at_87) (fun _ _ => ⟨rfl, rfl, (by decide : 7 + 2 ≤ _), (by decide : 19 + 5 ≤ _)⟩)
  dsimp only [Pt.U, Pt.locs, Pt.cells, Pt.slots] at X19 l19 y19 z19 st19 hQ19
  rw [l19, y19, z19] at X19
  obtain ⟨x19_a_, x19_b, x19_k, rfl, Nq19, Kq19, r19_0, r19_1, r19_2, r19_3, r19_4, r19_5, r19_6⟩ := hQ19
  have N19 := Fr.app N14 Nq19
  have C19 := C14.trans (CHr.keep Kq19 sf0 C14.1)
  have z19' := Kq19.1
  have sf19_0 : Safe Z own_EL s.vm T19.heap x19_a_ := Safe.keep Kq19 sf0 C14.1 (Safe.new (by omega))
  have sf19_1 : Safe Z own_EL s.vm T19.heap x19_b := Safe.keep Kq19 sf0 C14.1 (Safe.new (by omega))
  have lt20 := own_l r19_2.lt
  have lt21 := own_l r19_3.lt
  have lt22 := own_l r19_4.lt
  have lt23 := own_l r19_5.lt
  have f25 := A6.keep Kq8
  have f26 := f25.keep Kq14
  have f27 := f26.keep Kq19
  have f28 := F6_42.keep Kq8 nin0
  have f29 := f28.keep Kq14 nin0
  have f30 := f29.keep Kq19 nin0
  have f31 := F6_45.keep Kq8 nin0
  have f32 := f31.keep Kq14 nin0
  have f33 := f32.keep Kq19 nin0
  have f34 := F6_47.keep Kq8 nin0
  have f35 := f34.keep Kq14 nin0
  have f36 := f35.keep Kq19 nin0
  have f37 := F6_50.keep Kq8 nin0
  have f38 := f37.keep Kq14 nin0
  have f39 := f38.keep Kq19 nin0
  have f40 := r8_2.keep Kq14
  have f41 := f40.keep Kq19
  have f42 := r14_2.keep Kq19
  obtain ⟨_, _, ⟨T24, L24, k24, n24⟩, -, X24, hSb24, hgr24, ⟨Lc24, hQ24, l24, y24, z24, Cs24⟩, st24⟩ := X19.specialBackS hx (y := m_35) rfl hown (mvT hZ (w_29 hw)) (mvT hZ (w_30 hw)) (mvT hZ (w_31 hw)) (by decide) (backOfSH (W := 1) (rm_acci l Z a0 hw [] b6 x8_a_ x14_a_ ((.ref x1_a_)) x19_a_ T19.heap n0 (by omega) f27 f30 f33 f36 f39 (by omega) f41 f42 r19_2 rfl) hZ (w_31 hw) (w_2 hw) (by decide) (by decide) (own_EW hw) C19.1) (g := (mkF m 90 #[vI p0, vI p1, vI p2, vI p3, vI p4, .val (.int (oC p0)), .val (.int (oC p1)), .val (.int (oC p2)), .val (.int (oC p3)), .val (.int (p4 &&& (3 : Int32))), vA x1_a_, .unset, .unset, .unset] [(.ref x19_a_), (.ref x1_a_), (.ref x14_a_), (.ref x8_a_), (.ref b6), (.ref b6)])) rfl (by rw [hml]; rfl) (Steps.refl _) (a := b6) (argsL := [(.ref x8_a_), (.ref x14_a_), (.ref x1_a_), (.ref x19_a_)]) (rest := [(.ref b6)]) (lenOf pd_26 rfl) rfl (Nat.le_of_eq rfl) (hb hby at_90) (fun _ _ => ⟨rfl, rfl, (by decide : 9 + 6 ≤ _), (by decide : 24 + 84 ≤ _)⟩)
  dsimp only [Pt.U, Pt.locs, Pt.cells, Pt.slots] at X24 l24 y24 z24 st24 hQ24 hSb24 hgr24 Cs24
  rw [l24, y24, z24] at X24
  obtain ⟨X24, hS24, hZ24, hown24⟩ := rebS hS0 (by omega) X24 hSb24 hgr24 hZ hown
  have hk24 : T24.heap.size ≤ T24.heap.size := Nat.le_refl _
  obtain ⟨rfl, Nq24, Kq24, r24_0, r24_1, r24_2, r24_3⟩ := hQ24
  have N24 := Fr.app N19 Nq24
  have C24 := C19.trans Cs24
  have z24' := Kq24.1
  have lt43 := own_l r24_0.lt
  have lt44 := own_l r24_1.lt
  have lt45 := own_l r24_2.lt
  have lt46 := own_l r24_3.lt
  have f48 := r19_6.keep Kq24 (allS (by omega) all0)
  have f49 := f41.keep Kq24
  have f50 := r8_4.keep Kq14 nin0
  have f51 := f50.keep Kq19 nin0
  have f52 := f51.keep Kq24 (ninS (own_ne (by omega)) nin0)
  have f53 := r8_3.keep Kq14 nin0
  have f54 := f53.keep Kq19 nin0
  have f55 := f54.keep Kq24 (ninS (own_ne (by omega)) nin0)
  have f56 := r8_5.keep Kq14 nin0
  have f57 := f56.keep Kq19 nin0
  have f58 := f57.keep Kq24 (ninS (own_ne (by omega)) nin0)
  have f59 := r19_2.keep Kq24
  have f60 := r19_4.keep Kq24 (ninS (own_ne (by omega)) nin0)
  have f61 := r19_3.keep Kq24 (ninS (own_ne (by omega)) nin0)
  have f62 := r19_5.keep Kq24 (ninS (own_ne (by omega)) nin0)
  have f63 := r1_2.ext E6
  have f64 := f63.keep Kq8
  have f65 := f64.keep Kq14
  have f66 := f65.keep Kq19
  have f67 := f66.keep Kq24
  have f68 := r1_4.ext E6
  have f69 := f68.keep Kq8 nin0
  have f70 := f69.keep Kq14 nin0
  have f71 := f70.keep Kq19 nin0
  have f72 := f71.keep Kq24 (ninS (own_ne (by omega)) nin0)
  have f73 := r1_3.ext E6
  have f74 := f73.keep Kq8 nin0
  have f75 := f74.keep Kq14 nin0
  have f76 := f75.keep Kq19 nin0
  have f77 := f76.keep Kq24 (ninS (own_ne (by omega)) nin0)
  have f78 := r1_5.ext E6
  have f79 := f78.keep Kq8 nin0
  have f80 := f79.keep Kq14 nin0
  have f81 := f80.keep Kq19 nin0
  have f82 := f81.keep Kq24 (ninS (own_ne (by omega)) nin0)
  obtain ⟨cq47, kq47, qa47, qb47, qc47⟩ := isOf hZ24 rfl r24_0
  obtain ⟨_, _, ⟨T47, L47, k47, n47⟩, -, X47, hSb47, hgr47, ⟨Lc47, hQ47, l47, y47, z47, Cs47⟩, st47⟩ := X24.virtualBackS hx (y := m_36) (z := m_36) hown24 (mvT hZ24 (w_51 hw)) (mvT hZ24 (w_52 hw)) (notFace_of_selects (args := #[]) (mvT hZ24 (w_54 hw))) (mvT hZ24 (w_54 hw)) (mvT hZ24 (w_53 hw)) (by decide) (backOfSH (W := 0) (rm_ts1 l Z a0 hw [] b6 cp x8_a_ x8_b x8_k x19_a_ x19_b x19_k ((oB (oC p0))) ((oB (oC p3))) x1_a_ x1_b x1_k ((oB (oC p2))) T24.heap n0 (by omega) f48 P1 r24_0 r24_1 r24_2 r24_3 f49 f52 f55 f58 f59 f60 f61 f62 f67 f72 f77 f82 hcs) hZ24 (w_55 hw) (w_2 hw) (by decide) (by decide) (own_EW hw) C24.1) qa47 qc47 (g := (mkF m 97 #[vI p0, vI p1, vI p2, vI p3, vI p4, .val (.int (oC p0)), .val (.int (oC p1)), .val (.int (oC p2)), .val (.int (oC p3)), .val (.int (p4 &&& (3 : Int32))), vA x1_a_, vA b6, .unset, .unset] [(.ref b6)])) rfl (by rw [hml]; rfl) (Steps.refl _) (argsL := []) (rest := []) (lenOf pd_24 rfl) rfl (Nat.le_of_eq rfl) (hb hby at_97) (fun _ _ => ⟨rfl, rfl, (by decide : 15 + 11 ≤ _), (by decide : 108 + 293 ≤ _)⟩)
  dsimp only [Pt.U, Pt.locs, Pt.cells, Pt.slots] at X47 l47 y47 z47 st47 hQ47 hSb47 hgr47 Cs47
  rw [l47, y47, z47] at X47
  obtain ⟨X47, hS47, hZ47, hown47⟩ := rebS hS24 (by omega) X47 hSb47 hgr47 hZ24 hown24
  have hk47 : T47.heap.size ≤ T47.heap.size := Nat.le_refl _
  obtain ⟨x47_r, x47_b, x47_k, rfl, Nq47, Kq47, r47_0, r47_1, r47_2, r47_3⟩ := hQ47
  have N47 := Fr.app N24 Nq47
  have C47 := C24.trans Cs47
  have z47' := Kq47.1
  have lt83 := own_l r47_0.lt
  have lt84 := own_l r47_1.lt
  have lt85 := own_l r47_2.lt
  have lt86 := own_l r47_3.lt
  have V87 : Arv Z T47.heap x47_b x47_k .byte (35 : Int32) (oW1 (oC p0) (oC p2) (oC p3)) (.int 0) := own_w1 (oC p0) (oC p2) (oC p3) ▸ r47_3
  obtain ⟨T88, h88, k88, X88, e88, E88, A88, st88⟩ := newP X47 hx hZ47 (aty := .char) (w_185 hw) rfl (g := (mkF m 475 #[vI p0, vI p1, vI p2, vI p3, vI p4, .val (.int (oC p0)), .val (.int (oC p1)), .val (.int (oC p2)), .val (.int (oC p3)), .val (.int (p4 &&& (3 : Int32))), vA x1_a_, vA b6, vA x47_r, .unset] [(.int 35)])) rfl (hb hby at_475) rfl (by decide) (cap := 35) (by decide) (by decide) (by decide) (by decide)
  obtain ⟨b88, g88⟩ : ∃ z, z = T47.heap.size := ⟨_, rfl⟩
  rw [← g88] at A88 st88
  have z88 := E88.1
  have V88 : Arv Z h88 b88 k88 .char (35 : Int32) [(.int 0), (.int 0), (.int 0), (.int 0), (.int 0), (.int 0), (.int 0), (.int 0), (.int 0), (.int 0), (.int 0), (.int 0), (.int 0), (.int 0), (.int 0), (.int 0), (.int 0), (.int 0), (.int 0), (.int 0), (.int 0), (.int 0), (.int 0), (.int 0), (.int 0), (.int 0), (.int 0), (.int 0), (.int 0), (.int 0), (.int 0), (.int 0), (.int 0), (.int 0), (.int 0)] (.int 0) := (Arv.new A88 (by decide)).pad (pad_rep [] (.int 0) 35)
  have lt89 := own_l V88.lt
  obtain ⟨cl90, Ar90, q90, S90, M90, H90, G90⟩ := id V88
  have hin90 : ¬ ((0 : Int32) < 0 ∨ cl90.slots.size ≤ ((0 : Int32)).toNatClampNeg) := inb_of S90 ⟨by decide, by decide⟩
  obtain ⟨T90, h90, X90, e90, W90, st90⟩ := stC X88 hx hZ47 e88 Ar90 (j := (0 : Int32)) hin90 (g := (mkF m 481 #[vI p0, vI p1, vI p2, vI p3, vI p4, .val (.int (oC p0)), .val (.int (oC p1)), .val (.int (oC p2)), .val (.int (oC p3)), .val (.int (p4 &&& (3 : Int32))), vA x1_a_, vA b6, vA x47_r, .unset] [(.int 65), (.int 0), (.ref b88), (.ref b88)])) rfl rfl (hb hby at_481)
  have V90 : Arv Z h90 b88 k88 .char (35 : Int32) [(.int 65), (.int 0), (.int 0), (.int 0), (.int 0), (.int 0), (.int 0), (.int 0), (.int 0), (.int 0), (.int 0), (.int 0), (.int 0), (.int 0), (.int 0), (.int 0), (.int 0), (.int 0), (.int 0), (.int 0), (.int 0), (.int 0), (.int 0), (.int 0), (.int 0), (.int 0), (.int 0), (.int 0), (.int 0), (.int 0), (.int 0), (.int 0), (.int 0), (.int 0), (.int 0)] (.int 0) := Arv.set Ar90 q90 S90 M90 H90 G90 (fits_nar_char (65 : Int32)) W90 0 rfl (Nat.le_of_ble_eq_true rfl)
  have z90 := W90.size
  have N90 := Fr.snoc X90 N47 (by omega)
  obtain ⟨cl91, Ar91, q91, S91, M91, H91, G91⟩ := id V90
  have hin91 : ¬ ((1 : Int32) < 0 ∨ cl91.slots.size ≤ ((1 : Int32)).toNatClampNeg) := inb_of S91 ⟨by decide, by decide⟩
  obtain ⟨T91, h91, X91, e91, W91, st91⟩ := stC X90 hx hZ47 e90 Ar91 (j := (1 : Int32)) hin91 (g := (mkF m 486 #[vI p0, vI p1, vI p2, vI p3, vI p4, .val (.int (oC p0)), .val (.int (oC p1)), .val (.int (oC p2)), .val (.int (oC p3)), .val (.int (p4 &&& (3 : Int32))), vA x1_a_, vA b6, vA x47_r, .unset] [(.int 99), (.int 1), (.ref b88), (.ref b88)])) rfl rfl (hb hby at_486)
  have V91 : Arv Z h91 b88 k88 .char (35 : Int32) [(.int 65), (.int 99), (.int 0), (.int 0), (.int 0), (.int 0), (.int 0), (.int 0), (.int 0), (.int 0), (.int 0), (.int 0), (.int 0), (.int 0), (.int 0), (.int 0), (.int 0), (.int 0), (.int 0), (.int 0), (.int 0), (.int 0), (.int 0), (.int 0), (.int 0), (.int 0), (.int 0), (.int 0), (.int 0), (.int 0), (.int 0), (.int 0), (.int 0), (.int 0), (.int 0)] (.int 0) := Arv.set Ar91 q91 S91 M91 H91 G91 (fits_nar_char (99 : Int32)) W91 1 rfl (Nat.le_of_ble_eq_true rfl)
  have z91 := W91.size
  have N91 := Fr.snoc X91 N90 (by omega)
  obtain ⟨cl92, Ar92, q92, S92, M92, H92, G92⟩ := id V91
  have hin92 : ¬ ((2 : Int32) < 0 ∨ cl92.slots.size ≤ ((2 : Int32)).toNatClampNeg) := inb_of S92 ⟨by decide, by decide⟩
  obtain ⟨T92, h92, X92, e92, W92, st92⟩ := stC X91 hx hZ47 e91 Ar92 (j := (2 : Int32)) hin92 (g := (mkF m 491 #[vI p0, vI p1, vI p2, vI p3, vI p4, .val (.int (oC p0)), .val (.int (oC p1)), .val (.int (oC p2)), .val (.int (oC p3)), .val (.int (p4 &&& (3 : Int32))), vA x1_a_, vA b6, vA x47_r, .unset] [(.int 99), (.int 2), (.ref b88), (.ref b88)])) rfl rfl (hb hby at_491)
  have V92 : Arv Z h92 b88 k88 .char (35 : Int32) [(.int 65), (.int 99), (.int 99), (.int 0), (.int 0), (.int 0), (.int 0), (.int 0), (.int 0), (.int 0), (.int 0), (.int 0), (.int 0), (.int 0), (.int 0), (.int 0), (.int 0), (.int 0), (.int 0), (.int 0), (.int 0), (.int 0), (.int 0), (.int 0), (.int 0), (.int 0), (.int 0), (.int 0), (.int 0), (.int 0), (.int 0), (.int 0), (.int 0), (.int 0), (.int 0)] (.int 0) := Arv.set Ar92 q92 S92 M92 H92 G92 (fits_nar_char (99 : Int32)) W92 2 rfl (Nat.le_of_ble_eq_true rfl)
  have z92 := W92.size
  have N92 := Fr.snoc X92 N91 (by omega)
  obtain ⟨cl93, Ar93, q93, S93, M93, H93, G93⟩ := id V92
  have hin93 : ¬ ((3 : Int32) < 0 ∨ cl93.slots.size ≤ ((3 : Int32)).toNatClampNeg) := inb_of S93 ⟨by decide, by decide⟩
  obtain ⟨T93, h93, X93, e93, W93, st93⟩ := stC X92 hx hZ47 e92 Ar93 (j := (3 : Int32)) hin93 (g := (mkF m 496 #[vI p0, vI p1, vI p2, vI p3, vI p4, .val (.int (oC p0)), .val (.int (oC p1)), .val (.int (oC p2)), .val (.int (oC p3)), .val (.int (p4 &&& (3 : Int32))), vA x1_a_, vA b6, vA x47_r, .unset] [(.int 111), (.int 3), (.ref b88), (.ref b88)])) rfl rfl (hb hby at_496)
  have V93 : Arv Z h93 b88 k88 .char (35 : Int32) [(.int 65), (.int 99), (.int 99), (.int 111), (.int 0), (.int 0), (.int 0), (.int 0), (.int 0), (.int 0), (.int 0), (.int 0), (.int 0), (.int 0), (.int 0), (.int 0), (.int 0), (.int 0), (.int 0), (.int 0), (.int 0), (.int 0), (.int 0), (.int 0), (.int 0), (.int 0), (.int 0), (.int 0), (.int 0), (.int 0), (.int 0), (.int 0), (.int 0), (.int 0), (.int 0)] (.int 0) := Arv.set Ar93 q93 S93 M93 H93 G93 (fits_nar_char (111 : Int32)) W93 3 rfl (Nat.le_of_ble_eq_true rfl)
  have z93 := W93.size
  have N93 := Fr.snoc X93 N92 (by omega)
  obtain ⟨cl94, Ar94, q94, S94, M94, H94, G94⟩ := id V93
  have hin94 : ¬ ((4 : Int32) < 0 ∨ cl94.slots.size ≤ ((4 : Int32)).toNatClampNeg) := inb_of S94 ⟨by decide, by decide⟩
  obtain ⟨T94, h94, X94, e94, W94, st94⟩ := stC X93 hx hZ47 e93 Ar94 (j := (4 : Int32)) hin94 (g := (mkF m 501 #[vI p0, vI p1, vI p2, vI p3, vI p4, .val (.int (oC p0)), .val (.int (oC p1)), .val (.int (oC p2)), .val (.int (oC p3)), .val (.int (p4 &&& (3 : Int32))), vA x1_a_, vA b6, vA x47_r, .unset] [(.int 117), (.int 4), (.ref b88), (.ref b88)])) rfl rfl (hb hby at_501)
  have V94 : Arv Z h94 b88 k88 .char (35 : Int32) [(.int 65), (.int 99), (.int 99), (.int 111), (.int 117), (.int 0), (.int 0), (.int 0), (.int 0), (.int 0), (.int 0), (.int 0), (.int 0), (.int 0), (.int 0), (.int 0), (.int 0), (.int 0), (.int 0), (.int 0), (.int 0), (.int 0), (.int 0), (.int 0), (.int 0), (.int 0), (.int 0), (.int 0), (.int 0), (.int 0), (.int 0), (.int 0), (.int 0), (.int 0), (.int 0)] (.int 0) := Arv.set Ar94 q94 S94 M94 H94 G94 (fits_nar_char (117 : Int32)) W94 4 rfl (Nat.le_of_ble_eq_true rfl)
  have z94 := W94.size
  have N94 := Fr.snoc X94 N93 (by omega)
  obtain ⟨cl95, Ar95, q95, S95, M95, H95, G95⟩ := id V94
  have hin95 : ¬ ((5 : Int32) < 0 ∨ cl95.slots.size ≤ ((5 : Int32)).toNatClampNeg) := inb_of S95 ⟨by decide, by decide⟩
  obtain ⟨T95, h95, X95, e95, W95, st95⟩ := stC X94 hx hZ47 e94 Ar95 (j := (5 : Int32)) hin95 (g := (mkF m 506 #[vI p0, vI p1, vI p2, vI p3, vI p4, .val (.int (oC p0)), .val (.int (oC p1)), .val (.int (oC p2)), .val (.int (oC p3)), .val (.int (p4 &&& (3 : Int32))), vA x1_a_, vA b6, vA x47_r, .unset] [(.int 110), (.int 5), (.ref b88), (.ref b88)])) rfl rfl (hb hby at_506)
  have V95 : Arv Z h95 b88 k88 .char (35 : Int32) [(.int 65), (.int 99), (.int 99), (.int 111), (.int 117), (.int 110), (.int 0), (.int 0), (.int 0), (.int 0), (.int 0), (.int 0), (.int 0), (.int 0), (.int 0), (.int 0), (.int 0), (.int 0), (.int 0), (.int 0), (.int 0), (.int 0), (.int 0), (.int 0), (.int 0), (.int 0), (.int 0), (.int 0), (.int 0), (.int 0), (.int 0), (.int 0), (.int 0), (.int 0), (.int 0)] (.int 0) := Arv.set Ar95 q95 S95 M95 H95 G95 (fits_nar_char (110 : Int32)) W95 5 rfl (Nat.le_of_ble_eq_true rfl)
  have z95 := W95.size
  have N95 := Fr.snoc X95 N94 (by omega)
  obtain ⟨cl96, Ar96, q96, S96, M96, H96, G96⟩ := id V95
  have hin96 : ¬ ((6 : Int32) < 0 ∨ cl96.slots.size ≤ ((6 : Int32)).toNatClampNeg) := inb_of S96 ⟨by decide, by decide⟩
  obtain ⟨T96, h96, X96, e96, W96, st96⟩ := stC X95 hx hZ47 e95 Ar96 (j := (6 : Int32)) hin96 (g := (mkF m 512 #[vI p0, vI p1, vI p2, vI p3, vI p4, .val (.int (oC p0)), .val (.int (oC p1)), .val (.int (oC p2)), .val (.int (oC p3)), .val (.int (p4 &&& (3 : Int32))), vA x1_a_, vA b6, vA x47_r, .unset] [(.int 116), (.int 6), (.ref b88), (.ref b88)])) rfl rfl (hb hby at_512)
  have V96 : Arv Z h96 b88 k88 .char (35 : Int32) [(.int 65), (.int 99), (.int 99), (.int 111), (.int 117), (.int 110), (.int 116), (.int 0), (.int 0), (.int 0), (.int 0), (.int 0), (.int 0), (.int 0), (.int 0), (.int 0), (.int 0), (.int 0), (.int 0), (.int 0), (.int 0), (.int 0), (.int 0), (.int 0), (.int 0), (.int 0), (.int 0), (.int 0), (.int 0), (.int 0), (.int 0), (.int 0), (.int 0), (.int 0), (.int 0)] (.int 0) := Arv.set Ar96 q96 S96 M96 H96 G96 (fits_nar_char (116 : Int32)) W96 6 rfl (Nat.le_of_ble_eq_true rfl)
  have z96 := W96.size
  have N96 := Fr.snoc X96 N95 (by omega)
  obtain ⟨cl97, Ar97, q97, S97, M97, H97, G97⟩ := id V96
  have hin97 : ¬ ((7 : Int32) < 0 ∨ cl97.slots.size ≤ ((7 : Int32)).toNatClampNeg) := inb_of S97 ⟨by decide, by decide⟩
  obtain ⟨T97, h97, X97, e97, W97, st97⟩ := stC X96 hx hZ47 e96 Ar97 (j := (7 : Int32)) hin97 (g := (mkF m 518 #[vI p0, vI p1, vI p2, vI p3, vI p4, .val (.int (oC p0)), .val (.int (oC p1)), .val (.int (oC p2)), .val (.int (oC p3)), .val (.int (p4 &&& (3 : Int32))), vA x1_a_, vA b6, vA x47_r, .unset] [(.int 91), (.int 7), (.ref b88), (.ref b88)])) rfl rfl (hb hby at_518)
  have V97 : Arv Z h97 b88 k88 .char (35 : Int32) [(.int 65), (.int 99), (.int 99), (.int 111), (.int 117), (.int 110), (.int 116), (.int 91), (.int 0), (.int 0), (.int 0), (.int 0), (.int 0), (.int 0), (.int 0), (.int 0), (.int 0), (.int 0), (.int 0), (.int 0), (.int 0), (.int 0), (.int 0), (.int 0), (.int 0), (.int 0), (.int 0), (.int 0), (.int 0), (.int 0), (.int 0), (.int 0), (.int 0), (.int 0), (.int 0)] (.int 0) := Arv.set Ar97 q97 S97 M97 H97 G97 (fits_nar_char (91 : Int32)) W97 7 rfl (Nat.le_of_ble_eq_true rfl)
  have z97 := W97.size
  have N97 := Fr.snoc X97 N96 (by omega)
  obtain ⟨cl98, Ar98, q98, S98, M98, H98, G98⟩ := id V97
  have hin98 : ¬ ((8 : Int32) < 0 ∨ cl98.slots.size ≤ ((8 : Int32)).toNatClampNeg) := inb_of S98 ⟨by decide, by decide⟩
  obtain ⟨T98, h98, X98, e98, W98, st98⟩ := stC X97 hx hZ47 e97 Ar98 (j := (8 : Int32)) hin98 (g := (mkF m 524 #[vI p0, vI p1, vI p2, vI p3, vI p4, .val (.int (oC p0)), .val (.int (oC p1)), .val (.int (oC p2)), .val (.int (oC p3)), .val (.int (p4 &&& (3 : Int32))), vA x1_a_, vA b6, vA x47_r, .unset] [(.int 117), (.int 8), (.ref b88), (.ref b88)])) rfl rfl (hb hby at_524)
  have V98 : Arv Z h98 b88 k88 .char (35 : Int32) [(.int 65), (.int 99), (.int 99), (.int 111), (.int 117), (.int 110), (.int 116), (.int 91), (.int 117), (.int 0), (.int 0), (.int 0), (.int 0), (.int 0), (.int 0), (.int 0), (.int 0), (.int 0), (.int 0), (.int 0), (.int 0), (.int 0), (.int 0), (.int 0), (.int 0), (.int 0), (.int 0), (.int 0), (.int 0), (.int 0), (.int 0), (.int 0), (.int 0), (.int 0), (.int 0)] (.int 0) := Arv.set Ar98 q98 S98 M98 H98 G98 (fits_nar_char (117 : Int32)) W98 8 rfl (Nat.le_of_ble_eq_true rfl)
  have z98 := W98.size
  have N98 := Fr.snoc X98 N97 (by omega)
  obtain ⟨cl99, Ar99, q99, S99, M99, H99, G99⟩ := id V98
  have hin99 : ¬ ((9 : Int32) < 0 ∨ cl99.slots.size ≤ ((9 : Int32)).toNatClampNeg) := inb_of S99 ⟨by decide, by decide⟩
  obtain ⟨T99, h99, X99, e99, W99, st99⟩ := stC X98 hx hZ47 e98 Ar99 (j := (9 : Int32)) hin99 (g := (mkF m 530 #[vI p0, vI p1, vI p2, vI p3, vI p4, .val (.int (oC p0)), .val (.int (oC p1)), .val (.int (oC p2)), .val (.int (oC p3)), .val (.int (p4 &&& (3 : Int32))), vA x1_a_, vA b6, vA x47_r, .unset] [(.int 115), (.int 9), (.ref b88), (.ref b88)])) rfl rfl (hb hby at_530)
  have V99 : Arv Z h99 b88 k88 .char (35 : Int32) [(.int 65), (.int 99), (.int 99), (.int 111), (.int 117), (.int 110), (.int 116), (.int 91), (.int 117), (.int 115), (.int 0), (.int 0), (.int 0), (.int 0), (.int 0), (.int 0), (.int 0), (.int 0), (.int 0), (.int 0), (.int 0), (.int 0), (.int 0), (.int 0), (.int 0), (.int 0), (.int 0), (.int 0), (.int 0), (.int 0), (.int 0), (.int 0), (.int 0), (.int 0), (.int 0)] (.int 0) := Arv.set Ar99 q99 S99 M99 H99 G99 (fits_nar_char (115 : Int32)) W99 9 rfl (Nat.le_of_ble_eq_true rfl)
  have z99 := W99.size
  have N99 := Fr.snoc X99 N98 (by omega)
  obtain ⟨cl100, Ar100, q100, S100, M100, H100, G100⟩ := id V99
  have hin100 : ¬ ((10 : Int32) < 0 ∨ cl100.slots.size ≤ ((10 : Int32)).toNatClampNeg) := inb_of S100 ⟨by decide, by decide⟩
  obtain ⟨T100, h100, X100, e100, W100, st100⟩ := stC X99 hx hZ47 e99 Ar100 (j := (10 : Int32)) hin100 (g := (mkF m 536 #[vI p0, vI p1, vI p2, vI p3, vI p4, .val (.int (oC p0)), .val (.int (oC p1)), .val (.int (oC p2)), .val (.int (oC p3)), .val (.int (p4 &&& (3 : Int32))), vA x1_a_, vA b6, vA x47_r, .unset] [(.int 101), (.int 10), (.ref b88), (.ref b88)])) rfl rfl (hb hby at_536)
  have V100 : Arv Z h100 b88 k88 .char (35 : Int32) [(.int 65), (.int 99), (.int 99), (.int 111), (.int 117), (.int 110), (.int 116), (.int 91), (.int 117), (.int 115), (.int 101), (.int 0), (.int 0), (.int 0), (.int 0), (.int 0), (.int 0), (.int 0), (.int 0), (.int 0), (.int 0), (.int 0), (.int 0), (.int 0), (.int 0), (.int 0), (.int 0), (.int 0), (.int 0), (.int 0), (.int 0), (.int 0), (.int 0), (.int 0), (.int 0)] (.int 0) := Arv.set Ar100 q100 S100 M100 H100 G100 (fits_nar_char (101 : Int32)) W100 10 rfl (Nat.le_of_ble_eq_true rfl)
  have z100 := W100.size
  have N100 := Fr.snoc X100 N99 (by omega)
  obtain ⟨cl101, Ar101, q101, S101, M101, H101, G101⟩ := id V100
  have hin101 : ¬ ((11 : Int32) < 0 ∨ cl101.slots.size ≤ ((11 : Int32)).toNatClampNeg) := inb_of S101 ⟨by decide, by decide⟩
  obtain ⟨T101, h101, X101, e101, W101, st101⟩ := stC X100 hx hZ47 e100 Ar101 (j := (11 : Int32)) hin101 (g := (mkF m 542 #[vI p0, vI p1, vI p2, vI p3, vI p4, .val (.int (oC p0)), .val (.int (oC p1)), .val (.int (oC p2)), .val (.int (oC p3)), .val (.int (p4 &&& (3 : Int32))), vA x1_a_, vA b6, vA x47_r, .unset] [(.int 114), (.int 11), (.ref b88), (.ref b88)])) rfl rfl (hb hby at_542)
  have V101 : Arv Z h101 b88 k88 .char (35 : Int32) [(.int 65), (.int 99), (.int 99), (.int 111), (.int 117), (.int 110), (.int 116), (.int 91), (.int 117), (.int 115), (.int 101), (.int 114), (.int 0), (.int 0), (.int 0), (.int 0), (.int 0), (.int 0), (.int 0), (.int 0), (.int 0), (.int 0), (.int 0), (.int 0), (.int 0), (.int 0), (.int 0), (.int 0), (.int 0), (.int 0), (.int 0), (.int 0), (.int 0), (.int 0), (.int 0)] (.int 0) := Arv.set Ar101 q101 S101 M101 H101 G101 (fits_nar_char (114 : Int32)) W101 11 rfl (Nat.le_of_ble_eq_true rfl)
  have z101 := W101.size
  have N101 := Fr.snoc X101 N100 (by omega)
  obtain ⟨cl102, Ar102, q102, S102, M102, H102, G102⟩ := id V101
  have hin102 : ¬ ((12 : Int32) < 0 ∨ cl102.slots.size ≤ ((12 : Int32)).toNatClampNeg) := inb_of S102 ⟨by decide, by decide⟩
  obtain ⟨T102, h102, X102, e102, W102, st102⟩ := stC X101 hx hZ47 e101 Ar102 (j := (12 : Int32)) hin102 (g := (mkF m 548 #[vI p0, vI p1, vI p2, vI p3, vI p4, .val (.int (oC p0)), .val (.int (oC p1)), .val (.int (oC p2)), .val (.int (oC p3)), .val (.int (p4 &&& (3 : Int32))), vA x1_a_, vA b6, vA x47_r, .unset] [(.int 61), (.int 12), (.ref b88), (.ref b88)])) rfl rfl (hb hby at_548)
  have V102 : Arv Z h102 b88 k88 .char (35 : Int32) [(.int 65), (.int 99), (.int 99), (.int 111), (.int 117), (.int 110), (.int 116), (.int 91), (.int 117), (.int 115), (.int 101), (.int 114), (.int 61), (.int 0), (.int 0), (.int 0), (.int 0), (.int 0), (.int 0), (.int 0), (.int 0), (.int 0), (.int 0), (.int 0), (.int 0), (.int 0), (.int 0), (.int 0), (.int 0), (.int 0), (.int 0), (.int 0), (.int 0), (.int 0), (.int 0)] (.int 0) := Arv.set Ar102 q102 S102 M102 H102 G102 (fits_nar_char (61 : Int32)) W102 12 rfl (Nat.le_of_ble_eq_true rfl)
  have z102 := W102.size
  have N102 := Fr.snoc X102 N101 (by omega)
  obtain ⟨cl103, Ar103, q103, S103, M103, H103, G103⟩ := id V102
  have hin103 : ¬ ((13 : Int32) < 0 ∨ cl103.slots.size ≤ ((13 : Int32)).toNatClampNeg) := inb_of S103 ⟨by decide, by decide⟩
  obtain ⟨T103, h103, X103, e103, W103, st103⟩ := stC X102 hx hZ47 e102 Ar103 (j := (13 : Int32)) hin103 (g := (mkF m 554 #[vI p0, vI p1, vI p2, vI p3, vI p4, .val (.int (oC p0)), .val (.int (oC p1)), .val (.int (oC p2)), .val (.int (oC p3)), .val (.int (p4 &&& (3 : Int32))), vA x1_a_, vA b6, vA x47_r, .unset] [(.int (oC p0)), (.int 13), (.ref b88), (.ref b88)])) rfl rfl (hb hby at_554)
  have V103 : Arv Z h103 b88 k88 .char (35 : Int32) [(.int 65), (.int 99), (.int 99), (.int 111), (.int 117), (.int 110), (.int 116), (.int 91), (.int 117), (.int 115), (.int 101), (.int 114), (.int 61), (.int (nar .char (oC p0))), (.int 0), (.int 0), (.int 0), (.int 0), (.int 0), (.int 0), (.int 0), (.int 0), (.int 0), (.int 0), (.int 0), (.int 0), (.int 0), (.int 0), (.int 0), (.int 0), (.int 0), (.int 0), (.int 0), (.int 0), (.int 0)] (.int 0) := Arv.set Ar103 q103 S103 M103 H103 G103 (fits_nar_char (oC p0)) W103 13 rfl (Nat.le_of_ble_eq_true rfl)
  have z103 := W103.size
  have N103 := Fr.snoc X103 N102 (by omega)
  obtain ⟨cl104, Ar104, q104, S104, M104, H104, G104⟩ := id V103
  have hin104 : ¬ ((14 : Int32) < 0 ∨ cl104.slots.size ≤ ((14 : Int32)).toNatClampNeg) := inb_of S104 ⟨by decide, by decide⟩
  obtain ⟨T104, h104, X104, e104, W104, st104⟩ := stC X103 hx hZ47 e103 Ar104 (j := (14 : Int32)) hin104 (g := (mkF m 560 #[vI p0, vI p1, vI p2, vI p3, vI p4, .val (.int (oC p0)), .val (.int (oC p1)), .val (.int (oC p2)), .val (.int (oC p3)), .val (.int (p4 &&& (3 : Int32))), vA x1_a_, vA b6, vA x47_r, .unset] [(.int 44), (.int 14), (.ref b88), (.ref b88)])) rfl rfl (hb hby at_560)
  have V104 : Arv Z h104 b88 k88 .char (35 : Int32) [(.int 65), (.int 99), (.int 99), (.int 111), (.int 117), (.int 110), (.int 116), (.int 91), (.int 117), (.int 115), (.int 101), (.int 114), (.int 61), (.int (nar .char (oC p0))), (.int 44), (.int 0), (.int 0), (.int 0), (.int 0), (.int 0), (.int 0), (.int 0), (.int 0), (.int 0), (.int 0), (.int 0), (.int 0), (.int 0), (.int 0), (.int 0), (.int 0), (.int 0), (.int 0), (.int 0), (.int 0)] (.int 0) := Arv.set Ar104 q104 S104 M104 H104 G104 (fits_nar_char (44 : Int32)) W104 14 rfl (Nat.le_of_ble_eq_true rfl)
  have z104 := W104.size
  have N104 := Fr.snoc X104 N103 (by omega)
  obtain ⟨cl105, Ar105, q105, S105, M105, H105, G105⟩ := id V104
  have hin105 : ¬ ((15 : Int32) < 0 ∨ cl105.slots.size ≤ ((15 : Int32)).toNatClampNeg) := inb_of S105 ⟨by decide, by decide⟩
  obtain ⟨T105, h105, X105, e105, W105, st105⟩ := stC X104 hx hZ47 e104 Ar105 (j := (15 : Int32)) hin105 (g := (mkF m 566 #[vI p0, vI p1, vI p2, vI p3, vI p4, .val (.int (oC p0)), .val (.int (oC p1)), .val (.int (oC p2)), .val (.int (oC p3)), .val (.int (p4 &&& (3 : Int32))), vA x1_a_, vA b6, vA x47_r, .unset] [(.int 32), (.int 15), (.ref b88), (.ref b88)])) rfl rfl (hb hby at_566)
  have V105 : Arv Z h105 b88 k88 .char (35 : Int32) [(.int 65), (.int 99), (.int 99), (.int 111), (.int 117), (.int 110), (.int 116), (.int 91), (.int 117), (.int 115), (.int 101), (.int 114), (.int 61), (.int (nar .char (oC p0))), (.int 44), (.int 32), (.int 0), (.int 0), (.int 0), (.int 0), (.int 0), (.int 0), (.int 0), (.int 0), (.int 0), (.int 0), (.int 0), (.int 0), (.int 0), (.int 0), (.int 0), (.int 0), (.int 0), (.int 0), (.int 0)] (.int 0) := Arv.set Ar105 q105 S105 M105 H105 G105 (fits_nar_char (32 : Int32)) W105 15 rfl (Nat.le_of_ble_eq_true rfl)
  have z105 := W105.size
  have N105 := Fr.snoc X105 N104 (by omega)
  obtain ⟨cl106, Ar106, q106, S106, M106, H106, G106⟩ := id V105
  have hin106 : ¬ ((16 : Int32) < 0 ∨ cl106.slots.size ≤ ((16 : Int32)).toNatClampNeg) := inb_of S106 ⟨by decide, by decide⟩
  obtain ⟨T106, h106, X106, e106, W106, st106⟩ := stC X105 hx hZ47 e105 Ar106 (j := (16 : Int32)) hin106 (g := (mkF m 572 #[vI p0, vI p1, vI p2, vI p3, vI p4, .val (.int (oC p0)), .val (.int (oC p1)), .val (.int (oC p2)), .val (.int (oC p3)), .val (.int (p4 &&& (3 : Int32))), vA x1_a_, vA b6, vA x47_r, .unset] [(.int 100), (.int 16), (.ref b88), (.ref b88)])) rfl rfl (hb hby at_572)
  have V106 : Arv Z h106 b88 k88 .char (35 : Int32) [(.int 65), (.int 99), (.int 99), (.int 111), (.int 117), (.int 110), (.int 116), (.int 91), (.int 117), (.int 115), (.int 101), (.int 114), (.int 61), (.int (nar .char (oC p0))), (.int 44), (.int 32), (.int 100), (.int 0), (.int 0), (.int 0), (.int 0), (.int 0), (.int 0), (.int 0), (.int 0), (.int 0), (.int 0), (.int 0), (.int 0), (.int 0), (.int 0), (.int 0), (.int 0), (.int 0), (.int 0)] (.int 0) := Arv.set Ar106 q106 S106 M106 H106 G106 (fits_nar_char (100 : Int32)) W106 16 rfl (Nat.le_of_ble_eq_true rfl)
  have z106 := W106.size
  have N106 := Fr.snoc X106 N105 (by omega)
  obtain ⟨cl107, Ar107, q107, S107, M107, H107, G107⟩ := id V106
  have hin107 : ¬ ((17 : Int32) < 0 ∨ cl107.slots.size ≤ ((17 : Int32)).toNatClampNeg) := inb_of S107 ⟨by decide, by decide⟩
  obtain ⟨T107, h107, X107, e107, W107, st107⟩ := stC X106 hx hZ47 e106 Ar107 (j := (17 : Int32)) hin107 (g := (mkF m 578 #[vI p0, vI p1, vI p2, vI p3, vI p4, .val (.int (oC p0)), .val (.int (oC p1)), .val (.int (oC p2)), .val (.int (oC p3)), .val (.int (p4 &&& (3 : Int32))), vA x1_a_, vA b6, vA x47_r, .unset] [(.int 111), (.int 17), (.ref b88), (.ref b88)])) rfl rfl (hb hby at_578)
  have V107 : Arv Z h107 b88 k88 .char (35 : Int32) [(.int 65), (.int 99), (.int 99), (.int 111), (.int 117), (.int 110), (.int 116), (.int 91), (.int 117), (.int 115), (.int 101), (.int 114), (.int 61), (.int (nar .char (oC p0))), (.int 44), (.int 32), (.int 100), (.int 111), (.int 0), (.int 0), (.int 0), (.int 0), (.int 0), (.int 0), (.int 0), (.int 0), (.int 0), (.int 0), (.int 0), (.int 0), (.int 0), (.int 0), (.int 0), (.int 0), (.int 0)] (.int 0) := Arv.set Ar107 q107 S107 M107 H107 G107 (fits_nar_char (111 : Int32)) W107 17 rfl (Nat.le_of_ble_eq_true rfl)
  have z107 := W107.size
  have N107 := Fr.snoc X107 N106 (by omega)
  obtain ⟨cl108, Ar108, q108, S108, M108, H108, G108⟩ := id V107
  have hin108 : ¬ ((18 : Int32) < 0 ∨ cl108.slots.size ≤ ((18 : Int32)).toNatClampNeg) := inb_of S108 ⟨by decide, by decide⟩
  obtain ⟨T108, h108, X108, e108, W108, st108⟩ := stC X107 hx hZ47 e107 Ar108 (j := (18 : Int32)) hin108 (g := (mkF m 584 #[vI p0, vI p1, vI p2, vI p3, vI p4, .val (.int (oC p0)), .val (.int (oC p1)), .val (.int (oC p2)), .val (.int (oC p3)), .val (.int (p4 &&& (3 : Int32))), vA x1_a_, vA b6, vA x47_r, .unset] [(.int 109), (.int 18), (.ref b88), (.ref b88)])) rfl rfl (hb hby at_584)
  have V108 : Arv Z h108 b88 k88 .char (35 : Int32) [(.int 65), (.int 99), (.int 99), (.int 111), (.int 117), (.int 110), (.int 116), (.int 91), (.int 117), (.int 115), (.int 101), (.int 114), (.int 61), (.int (nar .char (oC p0))), (.int 44), (.int 32), (.int 100), (.int 111), (.int 109), (.int 0), (.int 0), (.int 0), (.int 0), (.int 0), (.int 0), (.int 0), (.int 0), (.int 0), (.int 0), (.int 0), (.int 0), (.int 0), (.int 0), (.int 0), (.int 0)] (.int 0) := Arv.set Ar108 q108 S108 M108 H108 G108 (fits_nar_char (109 : Int32)) W108 18 rfl (Nat.le_of_ble_eq_true rfl)
  have z108 := W108.size
  have N108 := Fr.snoc X108 N107 (by omega)
  obtain ⟨cl109, Ar109, q109, S109, M109, H109, G109⟩ := id V108
  have hin109 : ¬ ((19 : Int32) < 0 ∨ cl109.slots.size ≤ ((19 : Int32)).toNatClampNeg) := inb_of S109 ⟨by decide, by decide⟩
  obtain ⟨T109, h109, X109, e109, W109, st109⟩ := stC X108 hx hZ47 e108 Ar109 (j := (19 : Int32)) hin109 (g := (mkF m 590 #[vI p0, vI p1, vI p2, vI p3, vI p4, .val (.int (oC p0)), .val (.int (oC p1)), .val (.int (oC p2)), .val (.int (oC p3)), .val (.int (p4 &&& (3 : Int32))), vA x1_a_, vA b6, vA x47_r, .unset] [(.int 97), (.int 19), (.ref b88), (.ref b88)])) rfl rfl (hb hby at_590)
  have V109 : Arv Z h109 b88 k88 .char (35 : Int32) [(.int 65), (.int 99), (.int 99), (.int 111), (.int 117), (.int 110), (.int 116), (.int 91), (.int 117), (.int 115), (.int 101), (.int 114), (.int 61), (.int (nar .char (oC p0))), (.int 44), (.int 32), (.int 100), (.int 111), (.int 109), (.int 97), (.int 0), (.int 0), (.int 0), (.int 0), (.int 0), (.int 0), (.int 0), (.int 0), (.int 0), (.int 0), (.int 0), (.int 0), (.int 0), (.int 0), (.int 0)] (.int 0) := Arv.set Ar109 q109 S109 M109 H109 G109 (fits_nar_char (97 : Int32)) W109 19 rfl (Nat.le_of_ble_eq_true rfl)
  have z109 := W109.size
  have N109 := Fr.snoc X109 N108 (by omega)
  obtain ⟨cl110, Ar110, q110, S110, M110, H110, G110⟩ := id V109
  have hin110 : ¬ ((20 : Int32) < 0 ∨ cl110.slots.size ≤ ((20 : Int32)).toNatClampNeg) := inb_of S110 ⟨by decide, by decide⟩
  obtain ⟨T110, h110, X110, e110, W110, st110⟩ := stC X109 hx hZ47 e109 Ar110 (j := (20 : Int32)) hin110 (g := (mkF m 596 #[vI p0, vI p1, vI p2, vI p3, vI p4, .val (.int (oC p0)), .val (.int (oC p1)), .val (.int (oC p2)), .val (.int (oC p3)), .val (.int (p4 &&& (3 : Int32))), vA x1_a_, vA b6, vA x47_r, .unset] [(.int 105), (.int 20), (.ref b88), (.ref b88)])) rfl rfl (hb hby at_596)
  have V110 : Arv Z h110 b88 k88 .char (35 : Int32) [(.int 65), (.int 99), (.int 99), (.int 111), (.int 117), (.int 110), (.int 116), (.int 91), (.int 117), (.int 115), (.int 101), (.int 114), (.int 61), (.int (nar .char (oC p0))), (.int 44), (.int 32), (.int 100), (.int 111), (.int 109), (.int 97), (.int 105), (.int 0), (.int 0), (.int 0), (.int 0), (.int 0), (.int 0), (.int 0), (.int 0), (.int 0), (.int 0), (.int 0), (.int 0), (.int 0), (.int 0)] (.int 0) := Arv.set Ar110 q110 S110 M110 H110 G110 (fits_nar_char (105 : Int32)) W110 20 rfl (Nat.le_of_ble_eq_true rfl)
  have z110 := W110.size
  have N110 := Fr.snoc X110 N109 (by omega)
  obtain ⟨cl111, Ar111, q111, S111, M111, H111, G111⟩ := id V110
  have hin111 : ¬ ((21 : Int32) < 0 ∨ cl111.slots.size ≤ ((21 : Int32)).toNatClampNeg) := inb_of S111 ⟨by decide, by decide⟩
  obtain ⟨T111, h111, X111, e111, W111, st111⟩ := stC X110 hx hZ47 e110 Ar111 (j := (21 : Int32)) hin111 (g := (mkF m 602 #[vI p0, vI p1, vI p2, vI p3, vI p4, .val (.int (oC p0)), .val (.int (oC p1)), .val (.int (oC p2)), .val (.int (oC p3)), .val (.int (p4 &&& (3 : Int32))), vA x1_a_, vA b6, vA x47_r, .unset] [(.int 110), (.int 21), (.ref b88), (.ref b88)])) rfl rfl (hb hby at_602)
  have V111 : Arv Z h111 b88 k88 .char (35 : Int32) [(.int 65), (.int 99), (.int 99), (.int 111), (.int 117), (.int 110), (.int 116), (.int 91), (.int 117), (.int 115), (.int 101), (.int 114), (.int 61), (.int (nar .char (oC p0))), (.int 44), (.int 32), (.int 100), (.int 111), (.int 109), (.int 97), (.int 105), (.int 110), (.int 0), (.int 0), (.int 0), (.int 0), (.int 0), (.int 0), (.int 0), (.int 0), (.int 0), (.int 0), (.int 0), (.int 0), (.int 0)] (.int 0) := Arv.set Ar111 q111 S111 M111 H111 G111 (fits_nar_char (110 : Int32)) W111 21 rfl (Nat.le_of_ble_eq_true rfl)
  have z111 := W111.size
  have N111 := Fr.snoc X111 N110 (by omega)
  obtain ⟨cl112, Ar112, q112, S112, M112, H112, G112⟩ := id V111
  have hin112 : ¬ ((22 : Int32) < 0 ∨ cl112.slots.size ≤ ((22 : Int32)).toNatClampNeg) := inb_of S112 ⟨by decide, by decide⟩
  obtain ⟨T112, h112, X112, e112, W112, st112⟩ := stC X111 hx hZ47 e111 Ar112 (j := (22 : Int32)) hin112 (g := (mkF m 608 #[vI p0, vI p1, vI p2, vI p3, vI p4, .val (.int (oC p0)), .val (.int (oC p1)), .val (.int (oC p2)), .val (.int (oC p3)), .val (.int (p4 &&& (3 : Int32))), vA x1_a_, vA b6, vA x47_r, .unset] [(.int 61), (.int 22), (.ref b88), (.ref b88)])) rfl rfl (hb hby at_608)
  have V112 : Arv Z h112 b88 k88 .char (35 : Int32) [(.int 65), (.int 99), (.int 99), (.int 111), (.int 117), (.int 110), (.int 116), (.int 91), (.int 117), (.int 115), (.int 101), (.int 114), (.int 61), (.int (nar .char (oC p0))), (.int 44), (.int 32), (.int 100), (.int 111), (.int 109), (.int 97), (.int 105), (.int 110), (.int 61), (.int 0), (.int 0), (.int 0), (.int 0), (.int 0), (.int 0), (.int 0), (.int 0), (.int 0), (.int 0), (.int 0), (.int 0)] (.int 0) := Arv.set Ar112 q112 S112 M112 H112 G112 (fits_nar_char (61 : Int32)) W112 22 rfl (Nat.le_of_ble_eq_true rfl)
  have z112 := W112.size
  have N112 := Fr.snoc X112 N111 (by omega)
  obtain ⟨cl113, Ar113, q113, S113, M113, H113, G113⟩ := id V112
  have hin113 : ¬ ((23 : Int32) < 0 ∨ cl113.slots.size ≤ ((23 : Int32)).toNatClampNeg) := inb_of S113 ⟨by decide, by decide⟩
  obtain ⟨T113, h113, X113, e113, W113, st113⟩ := stC X112 hx hZ47 e112 Ar113 (j := (23 : Int32)) hin113 (g := (mkF m 614 #[vI p0, vI p1, vI p2, vI p3, vI p4, .val (.int (oC p0)), .val (.int (oC p1)), .val (.int (oC p2)), .val (.int (oC p3)), .val (.int (p4 &&& (3 : Int32))), vA x1_a_, vA b6, vA x47_r, .unset] [(.int (oC p2)), (.int 23), (.ref b88), (.ref b88)])) rfl rfl (hb hby at_614)
  have V113 : Arv Z h113 b88 k88 .char (35 : Int32) [(.int 65), (.int 99), (.int 99), (.int 111), (.int 117), (.int 110), (.int 116), (.int 91), (.int 117), (.int 115), (.int 101), (.int 114), (.int 61), (.int (nar .char (oC p0))), (.int 44), (.int 32), (.int 100), (.int 111), (.int 109), (.int 97), (.int 105), (.int 110), (.int 61), (.int (nar .char (oC p2))), (.int 0), (.int 0), (.int 0), (.int 0), (.int 0), (.int 0), (.int 0), (.int 0), (.int 0), (.int 0), (.int 0)] (.int 0) := Arv.set Ar113 q113 S113 M113 H113 G113 (fits_nar_char (oC p2)) W113 23 rfl (Nat.le_of_ble_eq_true rfl)
  have z113 := W113.size
  have N113 := Fr.snoc X113 N112 (by omega)
  obtain ⟨cl114, Ar114, q114, S114, M114, H114, G114⟩ := id V113
  have hin114 : ¬ ((24 : Int32) < 0 ∨ cl114.slots.size ≤ ((24 : Int32)).toNatClampNeg) := inb_of S114 ⟨by decide, by decide⟩
  obtain ⟨T114, h114, X114, e114, W114, st114⟩ := stC X113 hx hZ47 e113 Ar114 (j := (24 : Int32)) hin114 (g := (mkF m 620 #[vI p0, vI p1, vI p2, vI p3, vI p4, .val (.int (oC p0)), .val (.int (oC p1)), .val (.int (oC p2)), .val (.int (oC p3)), .val (.int (p4 &&& (3 : Int32))), vA x1_a_, vA b6, vA x47_r, .unset] [(.int 44), (.int 24), (.ref b88), (.ref b88)])) rfl rfl (hb hby at_620)
  have V114 : Arv Z h114 b88 k88 .char (35 : Int32) [(.int 65), (.int 99), (.int 99), (.int 111), (.int 117), (.int 110), (.int 116), (.int 91), (.int 117), (.int 115), (.int 101), (.int 114), (.int 61), (.int (nar .char (oC p0))), (.int 44), (.int 32), (.int 100), (.int 111), (.int 109), (.int 97), (.int 105), (.int 110), (.int 61), (.int (nar .char (oC p2))), (.int 44), (.int 0), (.int 0), (.int 0), (.int 0), (.int 0), (.int 0), (.int 0), (.int 0), (.int 0), (.int 0)] (.int 0) := Arv.set Ar114 q114 S114 M114 H114 G114 (fits_nar_char (44 : Int32)) W114 24 rfl (Nat.le_of_ble_eq_true rfl)
  have z114 := W114.size
  have N114 := Fr.snoc X114 N113 (by omega)
  obtain ⟨cl115, Ar115, q115, S115, M115, H115, G115⟩ := id V114
  have hin115 : ¬ ((25 : Int32) < 0 ∨ cl115.slots.size ≤ ((25 : Int32)).toNatClampNeg) := inb_of S115 ⟨by decide, by decide⟩
  obtain ⟨T115, h115, X115, e115, W115, st115⟩ := stC X114 hx hZ47 e114 Ar115 (j := (25 : Int32)) hin115 (g := (mkF m 626 #[vI p0, vI p1, vI p2, vI p3, vI p4, .val (.int (oC p0)), .val (.int (oC p1)), .val (.int (oC p2)), .val (.int (oC p3)), .val (.int (p4 &&& (3 : Int32))), vA x1_a_, vA b6, vA x47_r, .unset] [(.int 32), (.int 25), (.ref b88), (.ref b88)])) rfl rfl (hb hby at_626)
  have V115 : Arv Z h115 b88 k88 .char (35 : Int32) [(.int 65), (.int 99), (.int 99), (.int 111), (.int 117), (.int 110), (.int 116), (.int 91), (.int 117), (.int 115), (.int 101), (.int 114), (.int 61), (.int (nar .char (oC p0))), (.int 44), (.int 32), (.int 100), (.int 111), (.int 109), (.int 97), (.int 105), (.int 110), (.int 61), (.int (nar .char (oC p2))), (.int 44), (.int 32), (.int 0), (.int 0), (.int 0), (.int 0), (.int 0), (.int 0), (.int 0), (.int 0), (.int 0)] (.int 0) := Arv.set Ar115 q115 S115 M115 H115 G115 (fits_nar_char (32 : Int32)) W115 25 rfl (Nat.le_of_ble_eq_true rfl)
  have z115 := W115.size
  have N115 := Fr.snoc X115 N114 (by omega)
  obtain ⟨cl116, Ar116, q116, S116, M116, H116, G116⟩ := id V115
  have hin116 : ¬ ((26 : Int32) < 0 ∨ cl116.slots.size ≤ ((26 : Int32)).toNatClampNeg) := inb_of S116 ⟨by decide, by decide⟩
  obtain ⟨T116, h116, X116, e116, W116, st116⟩ := stC X115 hx hZ47 e115 Ar116 (j := (26 : Int32)) hin116 (g := (mkF m 632 #[vI p0, vI p1, vI p2, vI p3, vI p4, .val (.int (oC p0)), .val (.int (oC p1)), .val (.int (oC p2)), .val (.int (oC p3)), .val (.int (p4 &&& (3 : Int32))), vA x1_a_, vA b6, vA x47_r, .unset] [(.int 116), (.int 26), (.ref b88), (.ref b88)])) rfl rfl (hb hby at_632)
  have V116 : Arv Z h116 b88 k88 .char (35 : Int32) [(.int 65), (.int 99), (.int 99), (.int 111), (.int 117), (.int 110), (.int 116), (.int 91), (.int 117), (.int 115), (.int 101), (.int 114), (.int 61), (.int (nar .char (oC p0))), (.int 44), (.int 32), (.int 100), (.int 111), (.int 109), (.int 97), (.int 105), (.int 110), (.int 61), (.int (nar .char (oC p2))), (.int 44), (.int 32), (.int 116), (.int 0), (.int 0), (.int 0), (.int 0), (.int 0), (.int 0), (.int 0), (.int 0)] (.int 0) := Arv.set Ar116 q116 S116 M116 H116 G116 (fits_nar_char (116 : Int32)) W116 26 rfl (Nat.le_of_ble_eq_true rfl)
  have z116 := W116.size
  have N116 := Fr.snoc X116 N115 (by omega)
  obtain ⟨cl117, Ar117, q117, S117, M117, H117, G117⟩ := id V116
  have hin117 : ¬ ((27 : Int32) < 0 ∨ cl117.slots.size ≤ ((27 : Int32)).toNatClampNeg) := inb_of S117 ⟨by decide, by decide⟩
  obtain ⟨T117, h117, X117, e117, W117, st117⟩ := stC X116 hx hZ47 e116 Ar117 (j := (27 : Int32)) hin117 (g := (mkF m 638 #[vI p0, vI p1, vI p2, vI p3, vI p4, .val (.int (oC p0)), .val (.int (oC p1)), .val (.int (oC p2)), .val (.int (oC p3)), .val (.int (p4 &&& (3 : Int32))), vA x1_a_, vA b6, vA x47_r, .unset] [(.int 97), (.int 27), (.ref b88), (.ref b88)])) rfl rfl (hb hby at_638)
  have V117 : Arv Z h117 b88 k88 .char (35 : Int32) [(.int 65), (.int 99), (.int 99), (.int 111), (.int 117), (.int 110), (.int 116), (.int 91), (.int 117), (.int 115), (.int 101), (.int 114), (.int 61), (.int (nar .char (oC p0))), (.int 44), (.int 32), (.int 100), (.int 111), (.int 109), (.int 97), (.int 105), (.int 110), (.int 61), (.int (nar .char (oC p2))), (.int 44), (.int 32), (.int 116), (.int 97), (.int 0), (.int 0), (.int 0), (.int 0), (.int 0), (.int 0), (.int 0)] (.int 0) := Arv.set Ar117 q117 S117 M117 H117 G117 (fits_nar_char (97 : Int32)) W117 27 rfl (Nat.le_of_ble_eq_true rfl)
  have z117 := W117.size
  have N117 := Fr.snoc X117 N116 (by omega)
  obtain ⟨cl118, Ar118, q118, S118, M118, H118, G118⟩ := id V117
  have hin118 : ¬ ((28 : Int32) < 0 ∨ cl118.slots.size ≤ ((28 : Int32)).toNatClampNeg) := inb_of S118 ⟨by decide, by decide⟩
  obtain ⟨T118, h118, X118, e118, W118, st118⟩ := stC X117 hx hZ47 e117 Ar118 (j := (28 : Int32)) hin118 (g := (mkF m 644 #[vI p0, vI p1, vI p2, vI p3, vI p4, .val (.int (oC p0)), .val (.int (oC p1)), .val (.int (oC p2)), .val (.int (oC p3)), .val (.int (p4 &&& (3 : Int32))), vA x1_a_, vA b6, vA x47_r, .unset] [(.int 114), (.int 28), (.ref b88), (.ref b88)])) rfl rfl (hb hby at_644)
  have V118 : Arv Z h118 b88 k88 .char (35 : Int32) [(.int 65), (.int 99), (.int 99), (.int 111), (.int 117), (.int 110), (.int 116), (.int 91), (.int 117), (.int 115), (.int 101), (.int 114), (.int 61), (.int (nar .char (oC p0))), (.int 44), (.int 32), (.int 100), (.int 111), (.int 109), (.int 97), (.int 105), (.int 110), (.int 61), (.int (nar .char (oC p2))), (.int 44), (.int 32), (.int 116), (.int 97), (.int 114), (.int 0), (.int 0), (.int 0), (.int 0), (.int 0), (.int 0)] (.int 0) := Arv.set Ar118 q118 S118 M118 H118 G118 (fits_nar_char (114 : Int32)) W118 28 rfl (Nat.le_of_ble_eq_true rfl)
  have z118 := W118.size
  have N118 := Fr.snoc X118 N117 (by omega)
  obtain ⟨cl119, Ar119, q119, S119, M119, H119, G119⟩ := id V118
  have hin119 : ¬ ((29 : Int32) < 0 ∨ cl119.slots.size ≤ ((29 : Int32)).toNatClampNeg) := inb_of S119 ⟨by decide, by decide⟩
  obtain ⟨T119, h119, X119, e119, W119, st119⟩ := stC X118 hx hZ47 e118 Ar119 (j := (29 : Int32)) hin119 (g := (mkF m 650 #[vI p0, vI p1, vI p2, vI p3, vI p4, .val (.int (oC p0)), .val (.int (oC p1)), .val (.int (oC p2)), .val (.int (oC p3)), .val (.int (p4 &&& (3 : Int32))), vA x1_a_, vA b6, vA x47_r, .unset] [(.int 103), (.int 29), (.ref b88), (.ref b88)])) rfl rfl (hb hby at_650)
  have V119 : Arv Z h119 b88 k88 .char (35 : Int32) [(.int 65), (.int 99), (.int 99), (.int 111), (.int 117), (.int 110), (.int 116), (.int 91), (.int 117), (.int 115), (.int 101), (.int 114), (.int 61), (.int (nar .char (oC p0))), (.int 44), (.int 32), (.int 100), (.int 111), (.int 109), (.int 97), (.int 105), (.int 110), (.int 61), (.int (nar .char (oC p2))), (.int 44), (.int 32), (.int 116), (.int 97), (.int 114), (.int 103), (.int 0), (.int 0), (.int 0), (.int 0), (.int 0)] (.int 0) := Arv.set Ar119 q119 S119 M119 H119 G119 (fits_nar_char (103 : Int32)) W119 29 rfl (Nat.le_of_ble_eq_true rfl)
  have z119 := W119.size
  have N119 := Fr.snoc X119 N118 (by omega)
  obtain ⟨cl120, Ar120, q120, S120, M120, H120, G120⟩ := id V119
  have hin120 : ¬ ((30 : Int32) < 0 ∨ cl120.slots.size ≤ ((30 : Int32)).toNatClampNeg) := inb_of S120 ⟨by decide, by decide⟩
  obtain ⟨T120, h120, X120, e120, W120, st120⟩ := stC X119 hx hZ47 e119 Ar120 (j := (30 : Int32)) hin120 (g := (mkF m 656 #[vI p0, vI p1, vI p2, vI p3, vI p4, .val (.int (oC p0)), .val (.int (oC p1)), .val (.int (oC p2)), .val (.int (oC p3)), .val (.int (p4 &&& (3 : Int32))), vA x1_a_, vA b6, vA x47_r, .unset] [(.int 101), (.int 30), (.ref b88), (.ref b88)])) rfl rfl (hb hby at_656)
  have V120 : Arv Z h120 b88 k88 .char (35 : Int32) [(.int 65), (.int 99), (.int 99), (.int 111), (.int 117), (.int 110), (.int 116), (.int 91), (.int 117), (.int 115), (.int 101), (.int 114), (.int 61), (.int (nar .char (oC p0))), (.int 44), (.int 32), (.int 100), (.int 111), (.int 109), (.int 97), (.int 105), (.int 110), (.int 61), (.int (nar .char (oC p2))), (.int 44), (.int 32), (.int 116), (.int 97), (.int 114), (.int 103), (.int 101), (.int 0), (.int 0), (.int 0), (.int 0)] (.int 0) := Arv.set Ar120 q120 S120 M120 H120 G120 (fits_nar_char (101 : Int32)) W120 30 rfl (Nat.le_of_ble_eq_true rfl)
  have z120 := W120.size
  have N120 := Fr.snoc X120 N119 (by omega)
  obtain ⟨cl121, Ar121, q121, S121, M121, H121, G121⟩ := id V120
  have hin121 : ¬ ((31 : Int32) < 0 ∨ cl121.slots.size ≤ ((31 : Int32)).toNatClampNeg) := inb_of S121 ⟨by decide, by decide⟩
  obtain ⟨T121, h121, X121, e121, W121, st121⟩ := stC X120 hx hZ47 e120 Ar121 (j := (31 : Int32)) hin121 (g := (mkF m 662 #[vI p0, vI p1, vI p2, vI p3, vI p4, .val (.int (oC p0)), .val (.int (oC p1)), .val (.int (oC p2)), .val (.int (oC p3)), .val (.int (p4 &&& (3 : Int32))), vA x1_a_, vA b6, vA x47_r, .unset] [(.int 116), (.int 31), (.ref b88), (.ref b88)])) rfl rfl (hb hby at_662)
  have V121 : Arv Z h121 b88 k88 .char (35 : Int32) [(.int 65), (.int 99), (.int 99), (.int 111), (.int 117), (.int 110), (.int 116), (.int 91), (.int 117), (.int 115), (.int 101), (.int 114), (.int 61), (.int (nar .char (oC p0))), (.int 44), (.int 32), (.int 100), (.int 111), (.int 109), (.int 97), (.int 105), (.int 110), (.int 61), (.int (nar .char (oC p2))), (.int 44), (.int 32), (.int 116), (.int 97), (.int 114), (.int 103), (.int 101), (.int 116), (.int 0), (.int 0), (.int 0)] (.int 0) := Arv.set Ar121 q121 S121 M121 H121 G121 (fits_nar_char (116 : Int32)) W121 31 rfl (Nat.le_of_ble_eq_true rfl)
  have z121 := W121.size
  have N121 := Fr.snoc X121 N120 (by omega)
  obtain ⟨cl122, Ar122, q122, S122, M122, H122, G122⟩ := id V121
  have hin122 : ¬ ((32 : Int32) < 0 ∨ cl122.slots.size ≤ ((32 : Int32)).toNatClampNeg) := inb_of S122 ⟨by decide, by decide⟩
  obtain ⟨T122, h122, X122, e122, W122, st122⟩ := stC X121 hx hZ47 e121 Ar122 (j := (32 : Int32)) hin122 (g := (mkF m 668 #[vI p0, vI p1, vI p2, vI p3, vI p4, .val (.int (oC p0)), .val (.int (oC p1)), .val (.int (oC p2)), .val (.int (oC p3)), .val (.int (p4 &&& (3 : Int32))), vA x1_a_, vA b6, vA x47_r, .unset] [(.int 61), (.int 32), (.ref b88), (.ref b88)])) rfl rfl (hb hby at_668)
  have V122 : Arv Z h122 b88 k88 .char (35 : Int32) [(.int 65), (.int 99), (.int 99), (.int 111), (.int 117), (.int 110), (.int 116), (.int 91), (.int 117), (.int 115), (.int 101), (.int 114), (.int 61), (.int (nar .char (oC p0))), (.int 44), (.int 32), (.int 100), (.int 111), (.int 109), (.int 97), (.int 105), (.int 110), (.int 61), (.int (nar .char (oC p2))), (.int 44), (.int 32), (.int 116), (.int 97), (.int 114), (.int 103), (.int 101), (.int 116), (.int 61), (.int 0), (.int 0)] (.int 0) := Arv.set Ar122 q122 S122 M122 H122 G122 (fits_nar_char (61 : Int32)) W122 32 rfl (Nat.le_of_ble_eq_true rfl)
  have z122 := W122.size
  have N122 := Fr.snoc X122 N121 (by omega)
  obtain ⟨cl123, Ar123, q123, S123, M123, H123, G123⟩ := id V122
  have hin123 : ¬ ((33 : Int32) < 0 ∨ cl123.slots.size ≤ ((33 : Int32)).toNatClampNeg) := inb_of S123 ⟨by decide, by decide⟩
  obtain ⟨T123, h123, X123, e123, W123, st123⟩ := stC X122 hx hZ47 e122 Ar123 (j := (33 : Int32)) hin123 (g := (mkF m 674 #[vI p0, vI p1, vI p2, vI p3, vI p4, .val (.int (oC p0)), .val (.int (oC p1)), .val (.int (oC p2)), .val (.int (oC p3)), .val (.int (p4 &&& (3 : Int32))), vA x1_a_, vA b6, vA x47_r, .unset] [(.int (oC p3)), (.int 33), (.ref b88), (.ref b88)])) rfl rfl (hb hby at_674)
  have V123 : Arv Z h123 b88 k88 .char (35 : Int32) [(.int 65), (.int 99), (.int 99), (.int 111), (.int 117), (.int 110), (.int 116), (.int 91), (.int 117), (.int 115), (.int 101), (.int 114), (.int 61), (.int (nar .char (oC p0))), (.int 44), (.int 32), (.int 100), (.int 111), (.int 109), (.int 97), (.int 105), (.int 110), (.int 61), (.int (nar .char (oC p2))), (.int 44), (.int 32), (.int 116), (.int 97), (.int 114), (.int 103), (.int 101), (.int 116), (.int 61), (.int (nar .char (oC p3))), (.int 0)] (.int 0) := Arv.set Ar123 q123 S123 M123 H123 G123 (fits_nar_char (oC p3)) W123 33 rfl (Nat.le_of_ble_eq_true rfl)
  have z123 := W123.size
  have N123 := Fr.snoc X123 N122 (by omega)
  obtain ⟨cl124, Ar124, q124, S124, M124, H124, G124⟩ := id V123
  have hin124 : ¬ ((34 : Int32) < 0 ∨ cl124.slots.size ≤ ((34 : Int32)).toNatClampNeg) := inb_of S124 ⟨by decide, by decide⟩
  obtain ⟨T124, h124, X124, e124, W124, st124⟩ := stC X123 hx hZ47 e123 Ar124 (j := (34 : Int32)) hin124 (g := (mkF m 680 #[vI p0, vI p1, vI p2, vI p3, vI p4, .val (.int (oC p0)), .val (.int (oC p1)), .val (.int (oC p2)), .val (.int (oC p3)), .val (.int (p4 &&& (3 : Int32))), vA x1_a_, vA b6, vA x47_r, .unset] [(.int 93), (.int 34), (.ref b88), (.ref b88)])) rfl rfl (hb hby at_680)
  have V124 : Arv Z h124 b88 k88 .char (35 : Int32) [(.int 65), (.int 99), (.int 99), (.int 111), (.int 117), (.int 110), (.int 116), (.int 91), (.int 117), (.int 115), (.int 101), (.int 114), (.int 61), (.int (nar .char (oC p0))), (.int 44), (.int 32), (.int 100), (.int 111), (.int 109), (.int 97), (.int 105), (.int 110), (.int 61), (.int (nar .char (oC p2))), (.int 44), (.int 32), (.int 116), (.int 97), (.int 114), (.int 103), (.int 101), (.int 116), (.int 61), (.int (nar .char (oC p3))), (.int 93)] (.int 0) := Arv.set Ar124 q124 S124 M124 H124 G124 (fits_nar_char (93 : Int32)) W124 34 rfl (Nat.le_of_ble_eq_true rfl)
  have z124 := W124.size
  have N124 := Fr.snoc X124 N123 (by omega)
  have V125 : Arv Z h124 b88 k88 .char (35 : Int32) [(.int 65), (.int 99), (.int 99), (.int 111), (.int 117), (.int 110), (.int 116), (.int 91), (.int 117), (.int 115), (.int 101), (.int 114), (.int 61), (.int (oC p0)), (.int 44), (.int 32), (.int 100), (.int 111), (.int 109), (.int 97), (.int 105), (.int 110), (.int 61), (.int (oC p2)), (.int 44), (.int 32), (.int 116), (.int 97), (.int 114), (.int 103), (.int 101), (.int 116), (.int 61), (.int (oC p3)), (.int 93)] (.int 0) := by have vq := V124; simp only [own_nc] at vq; exact vq
  obtain ⟨T126, h126, X126, e126, E126, A126, D126, -, st126⟩ := newO X124 hx hZ47 hown47 (w_186 hw) (w_13 hw) (w_5 hw) e124 (g := (mkF m 685 #[vI p0, vI p1, vI p2, vI p3, vI p4, .val (.int (oC p0)), .val (.int (oC p1)), .val (.int (oC p2)), .val (.int (oC p3)), .val (.int (p4 &&& (3 : Int32))), vA x1_a_, vA b6, vA x47_r, vA b88] [(.ref x47_r)])) rfl (hb hby at_685) (by decide) (by decide)
  obtain ⟨b126, g126⟩ : ∃ z, z = h124.size := ⟨_, rfl⟩
  rw [← g126] at A126 D126 st126
  have z126 := E126.1
  have lt127 := own_l A126.lt
  have F126_26 : Fld Z h126 b126 "java/lang/String" "value" "[B" .null := D126 (Or.inr (w_26 hw)) (ty := (.array .byte)) (by decide)
  have F126_28 : Fld Z h126 b126 "java/lang/String" "coder" "B" (.int 0) := D126 (Or.inr (w_28 hw)) (ty := .byte) (by decide)
  have f129 := V125.ext E126
  have f130 := f48.keep Kq47 all0
  have f131 := f130.ext E88
  have f132 := f131.wr W90 (by omega)
  have f133 := f132.wr W91 (by omega)
  have f134 := f133.wr W92 (by omega)
  have f135 := f134.wr W93 (by omega)
  have f136 := f135.wr W94 (by omega)
  have f137 := f136.wr W95 (by omega)
  have f138 := f137.wr W96 (by omega)
  have f139 := f138.wr W97 (by omega)
  have f140 := f139.wr W98 (by omega)
  have f141 := f140.wr W99 (by omega)
  have f142 := f141.wr W100 (by omega)
  have f143 := f142.wr W101 (by omega)
  have f144 := f143.wr W102 (by omega)
  have f145 := f144.wr W103 (by omega)
  have f146 := f145.wr W104 (by omega)
  have f147 := f146.wr W105 (by omega)
  have f148 := f147.wr W106 (by omega)
  have f149 := f148.wr W107 (by omega)
  have f150 := f149.wr W108 (by omega)
  have f151 := f150.wr W109 (by omega)
  have f152 := f151.wr W110 (by omega)
  have f153 := f152.wr W111 (by omega)
  have f154 := f153.wr W112 (by omega)
  have f155 := f154.wr W113 (by omega)
  have f156 := f155.wr W114 (by omega)
  have f157 := f156.wr W115 (by omega)
  have f158 := f157.wr W116 (by omega)
  have f159 := f158.wr W117 (by omega)
  have f160 := f159.wr W118 (by omega)
  have f161 := f160.wr W119 (by omega)
  have f162 := f161.wr W120 (by omega)
  have f163 := f162.wr W121 (by omega)
  have f164 := f163.wr W122 (by omega)
  have f165 := f164.wr W123 (by omega)
  have f166 := f165.wr W124 (by omega)
  have f167 := f166.ext E126
  obtain ⟨_, _, ⟨T128, L128, k128, n128⟩, -, X128, ⟨Lc128, hQ128, l128, y128, z128⟩, st128⟩ := X126.specialBack hx (y := m_37) rfl hown47 (mvT hZ47 (w_187 hw)) (mvT hZ47 (w_188 hw)) (mvT hZ47 (w_189 hw)) (by decide) (StrChars.Road.backV (W := 2) hZ47 (own_hws hw) (kI := 4) (w_13 hw) (n0 := n0) (cs := oL1 (oC p0) (oC p2) (oC p3)) (bs := (oL1 (oC p0) (oC p2) (oC p3)).map StrChars.lo8) (n := 35) (by omega) (by omega) A126 F126_26 F126_28 f129 (P1.ext f167.2) hcs rfl rfl (by decide) (by decide) (own_hp1 (own_ch p0) (own_ch p2) (own_ch p3)) rfl (by decide) (by decide)) (g := (mkF m 691 #[vI p0, vI p1, vI p2, vI p3, vI p4, .val (.int (oC p0)), .val (.int (oC p1)), .val (.int (oC p2)), .val (.int (oC p3)), .val (.int (p4 &&& (3 : Int32))), vA x1_a_, vA b6, vA x47_r, vA b88] [(.ref b88), (.ref b126), (.ref b126), (.ref x47_r)])) rfl (by rw [hml]; rfl) (Steps.refl _) (a := b126) (argsL := [(.ref b88)]) (rest := [(.ref b126), (.ref x47_r)]) (lenOf pd_27 rfl) rfl (Nat.le_of_eq rfl) (hb hby at_691) (fun _ _ => ⟨rfl, e126, (by decide : 28 + 1 ≤ _), (by decide : 440 + 35 ≤ _)⟩)
  dsimp only [Pt.U, Pt.locs, Pt.cells, Pt.slots] at X128 l128 y128 z128 st128 hQ128
  rw [l128, y128, z128] at X128
  obtain ⟨rfl, Nq128, Kq128, r128_0, r128_1, x128_b, x128_kb, -, r128_ge, -, r128_2, r128_3⟩ := hQ128
  have N128 := Fr.app N124 Nq128
  have z128' := Kq128.1
  have lt168 := own_l r128_0.lt
  have lt169 := own_l r128_1.lt
  have lt170 := own_l r128_2.lt
  have lt171 := own_l r128_3.lt
  have f173 := r47_0.ext E88
  have f174 := f173.wr W90
  have f175 := f174.wr W91
  have f176 := f175.wr W92
  have f177 := f176.wr W93
  have f178 := f177.wr W94
  have f179 := f178.wr W95
  have f180 := f179.wr W96
  have f181 := f180.wr W97
  have f182 := f181.wr W98
  have f183 := f182.wr W99
  have f184 := f183.wr W100
  have f185 := f184.wr W101
  have f186 := f185.wr W102
  have f187 := f186.wr W103
  have f188 := f187.wr W104
  have f189 := f188.wr W105
  have f190 := f189.wr W106
  have f191 := f190.wr W107
  have f192 := f191.wr W108
  have f193 := f192.wr W109
  have f194 := f193.wr W110
  have f195 := f194.wr W111
  have f196 := f195.wr W112
  have f197 := f196.wr W113
  have f198 := f197.wr W114
  have f199 := f198.wr W115
  have f200 := f199.wr W116
  have f201 := f200.wr W117
  have f202 := f201.wr W118
  have f203 := f202.wr W119
  have f204 := f203.wr W120
  have f205 := f204.wr W121
  have f206 := f205.wr W122
  have f207 := f206.wr W123
  have f208 := f207.wr W124
  have f209 := f208.ext E126
  have f210 := f209.keep Kq128
  have f211 := r47_1.ext E88
  have f212 := f211.other W90 (Or.inl (own_ne (by omega)))
  have f213 := f212.other W91 (Or.inl (own_ne (by omega)))
  have f214 := f213.other W92 (Or.inl (own_ne (by omega)))
  have f215 := f214.other W93 (Or.inl (own_ne (by omega)))
  have f216 := f215.other W94 (Or.inl (own_ne (by omega)))
  have f217 := f216.other W95 (Or.inl (own_ne (by omega)))
  have f218 := f217.other W96 (Or.inl (own_ne (by omega)))
  have f219 := f218.other W97 (Or.inl (own_ne (by omega)))
  have f220 := f219.other W98 (Or.inl (own_ne (by omega)))
  have f221 := f220.other W99 (Or.inl (own_ne (by omega)))
  have f222 := f221.other W100 (Or.inl (own_ne (by omega)))
  have f223 := f222.other W101 (Or.inl (own_ne (by omega)))
  have f224 := f223.other W102 (Or.inl (own_ne (by omega)))
  have f225 := f224.other W103 (Or.inl (own_ne (by omega)))
  have f226 := f225.other W104 (Or.inl (own_ne (by omega)))
  have f227 := f226.other W105 (Or.inl (own_ne (by omega)))
  have f228 := f227.other W106 (Or.inl (own_ne (by omega)))
  have f229 := f228.other W107 (Or.inl (own_ne (by omega)))
  have f230 := f229.other W108 (Or.inl (own_ne (by omega)))
  have f231 := f230.other W109 (Or.inl (own_ne (by omega)))
  have f232 := f231.other W110 (Or.inl (own_ne (by omega)))
  have f233 := f232.other W111 (Or.inl (own_ne (by omega)))
  have f234 := f233.other W112 (Or.inl (own_ne (by omega)))
  have f235 := f234.other W113 (Or.inl (own_ne (by omega)))
  have f236 := f235.other W114 (Or.inl (own_ne (by omega)))
  have f237 := f236.other W115 (Or.inl (own_ne (by omega)))
  have f238 := f237.other W116 (Or.inl (own_ne (by omega)))
  have f239 := f238.other W117 (Or.inl (own_ne (by omega)))
  have f240 := f239.other W118 (Or.inl (own_ne (by omega)))
  have f241 := f240.other W119 (Or.inl (own_ne (by omega)))
  have f242 := f241.other W120 (Or.inl (own_ne (by omega)))
  have f243 := f242.other W121 (Or.inl (own_ne (by omega)))
  have f244 := f243.other W122 (Or.inl (own_ne (by omega)))
  have f245 := f244.other W123 (Or.inl (own_ne (by omega)))
  have f246 := f245.other W124 (Or.inl (own_ne (by omega)))
  have f247 := f246.ext E126
  have f248 := f247.keep Kq128 (ninS (own_ne (by omega)) nin0)
  have f249 := r47_2.ext E88
  have f250 := f249.other W90 (Or.inl (own_ne (by omega)))
  have f251 := f250.other W91 (Or.inl (own_ne (by omega)))
  have f252 := f251.other W92 (Or.inl (own_ne (by omega)))
  have f253 := f252.other W93 (Or.inl (own_ne (by omega)))
  have f254 := f253.other W94 (Or.inl (own_ne (by omega)))
  have f255 := f254.other W95 (Or.inl (own_ne (by omega)))
  have f256 := f255.other W96 (Or.inl (own_ne (by omega)))
  have f257 := f256.other W97 (Or.inl (own_ne (by omega)))
  have f258 := f257.other W98 (Or.inl (own_ne (by omega)))
  have f259 := f258.other W99 (Or.inl (own_ne (by omega)))
  have f260 := f259.other W100 (Or.inl (own_ne (by omega)))
  have f261 := f260.other W101 (Or.inl (own_ne (by omega)))
  have f262 := f261.other W102 (Or.inl (own_ne (by omega)))
  have f263 := f262.other W103 (Or.inl (own_ne (by omega)))
  have f264 := f263.other W104 (Or.inl (own_ne (by omega)))
  have f265 := f264.other W105 (Or.inl (own_ne (by omega)))
  have f266 := f265.other W106 (Or.inl (own_ne (by omega)))
  have f267 := f266.other W107 (Or.inl (own_ne (by omega)))
  have f268 := f267.other W108 (Or.inl (own_ne (by omega)))
  have f269 := f268.other W109 (Or.inl (own_ne (by omega)))
  have f270 := f269.other W110 (Or.inl (own_ne (by omega)))
  have f271 := f270.other W111 (Or.inl (own_ne (by omega)))
  have f272 := f271.other W112 (Or.inl (own_ne (by omega)))
  have f273 := f272.other W113 (Or.inl (own_ne (by omega)))
  have f274 := f273.other W114 (Or.inl (own_ne (by omega)))
  have f275 := f274.other W115 (Or.inl (own_ne (by omega)))
  have f276 := f275.other W116 (Or.inl (own_ne (by omega)))
  have f277 := f276.other W117 (Or.inl (own_ne (by omega)))
  have f278 := f277.other W118 (Or.inl (own_ne (by omega)))
  have f279 := f278.other W119 (Or.inl (own_ne (by omega)))
  have f280 := f279.other W120 (Or.inl (own_ne (by omega)))
  have f281 := f280.other W121 (Or.inl (own_ne (by omega)))
  have f282 := f281.other W122 (Or.inl (own_ne (by omega)))
  have f283 := f282.other W123 (Or.inl (own_ne (by omega)))
  have f284 := f283.other W124 (Or.inl (own_ne (by omega)))
  have f285 := f284.ext E126
  have f286 := f285.keep Kq128 (ninS (own_ne (by omega)) nin0)
  have f287 := V87.ext E88
  have f288 := f287.other W90 (own_ne (by omega))
  have f289 := f288.other W91 (own_ne (by omega))
  have f290 := f289.other W92 (own_ne (by omega))
  have f291 := f290.other W93 (own_ne (by omega))
  have f292 := f291.other W94 (own_ne (by omega))
  have f293 := f292.other W95 (own_ne (by omega))
  have f294 := f293.other W96 (own_ne (by omega))
  have f295 := f294.other W97 (own_ne (by omega))
  have f296 := f295.other W98 (own_ne (by omega))
  have f297 := f296.other W99 (own_ne (by omega))
  have f298 := f297.other W100 (own_ne (by omega))
  have f299 := f298.other W101 (own_ne (by omega))
  have f300 := f299.other W102 (own_ne (by omega))
  have f301 := f300.other W103 (own_ne (by omega))
  have f302 := f301.other W104 (own_ne (by omega))
  have f303 := f302.other W105 (own_ne (by omega))
  have f304 := f303.other W106 (own_ne (by omega))
  have f305 := f304.other W107 (own_ne (by omega))
  have f306 := f305.other W108 (own_ne (by omega))
  have f307 := f306.other W109 (own_ne (by omega))
  have f308 := f307.other W110 (own_ne (by omega))
  have f309 := f308.other W111 (own_ne (by omega))
  have f310 := f309.other W112 (own_ne (by omega))
  have f311 := f310.other W113 (own_ne (by omega))
  have f312 := f311.other W114 (own_ne (by omega))
  have f313 := f312.other W115 (own_ne (by omega))
  have f314 := f313.other W116 (own_ne (by omega))
  have f315 := f314.other W117 (own_ne (by omega))
  have f316 := f315.other W118 (own_ne (by omega))
  have f317 := f316.other W119 (own_ne (by omega))
  have f318 := f317.other W120 (own_ne (by omega))
  have f319 := f318.other W121 (own_ne (by omega))
  have f320 := f319.other W122 (own_ne (by omega))
  have f321 := f320.other W123 (own_ne (by omega))
  have f322 := f321.other W124 (own_ne (by omega))
  have f323 := f322.ext E126
  have f324 := f323.keep Kq128 (ninS (own_ne (by omega)) nin0)
  have f325 := f167.keep Kq128 (allS (by omega) all0)
  obtain ⟨cq172, kq172, qa172, qb172, qc172⟩ := isOf hZ47 rfl f210
  obtain ⟨_, _, ⟨T172, L172, k172, n172⟩, -, X172, ⟨Lc172, hQ172, l172, y172, z172⟩, st172⟩ := X128.virtualBack hx (y := m_38) (z := m_38) hown47 (mvT hZ47 (w_203 hw)) (mvT hZ47 (w_204 hw)) (notFace_of_selects (args := #[]) (mvT hZ47 (w_206 hw))) (mvT hZ47 (w_206 hw)) (mvT hZ47 (w_205 hw)) (by decide) (own_eqS (W := 0) hZ47 hw (cs := oL1 (oC p0) (oC p2) (oC p3)) rfl (own_hp1 (own_ch p0) (own_ch p2) (own_ch p3)) (Nat.le_of_ble_eq_true rfl) f210 f248 f286 f324 r128_0 r128_2 r128_1 r128_3 (P1.ext f325.2) hcs (by decide) (by decide)) qa172 qc172 (g := (mkF m 694 #[vI p0, vI p1, vI p2, vI p3, vI p4, .val (.int (oC p0)), .val (.int (oC p1)), .val (.int (oC p2)), .val (.int (oC p3)), .val (.int (p4 &&& (3 : Int32))), vA x1_a_, vA b6, vA x47_r, vA b88] [(.ref b126), (.ref x47_r)])) rfl (by rw [hml]; rfl) (Steps.refl _) (argsL := [(.ref b126)]) (rest := []) (lenOf pd_28 rfl) rfl (Nat.le_of_eq rfl) (hb hby at_694) (fun _ _ => ⟨rfl, rfl, (by decide : 29 + 0 ≤ _), (by decide : 475 + 0 ≤ _)⟩)
  dsimp only [Pt.U, Pt.locs, Pt.cells, Pt.slots] at X172 l172 y172 z172 st172 hQ172
  rw [l172, y172, z172] at X172
  obtain ⟨rfl, Nq172, Kq172⟩ := hQ172
  have N172 := Fr.app N128 Nq172
  obtain ⟨fs, hr, hrun, hended, hEnd⟩ := X172.leaveW hS47 (by first | omega | (rw [(Kq172 : T172.heap = T128.heap)]; omega)) (v := some (.int 1)) (fun h => by rw [Bd.returns] at h; cases h)
  refine ⟨_, _, castTop (ef_18 m p0 p1 p2 p3 p4) ?_, hrun, hended, _, _, rfl, ?_, hEnd.1, hEnd.2.1, hEnd.2.2.1, hEnd.2.2.2.mono (by decide) (by decide)⟩
  · show Steps _ _ _ (s₁.setTop (mkF m 0 #[vI p0, vI p1, vI p2, vI p3, vI p4, .unset, .unset, .unset, .unset, .unset, .unset, .unset, .unset, .unset] [])) _
    refine XS.iloadN X0.here hx rfl (hb hby at_0) rfl ?_
    refine XS.sipush X0.here hx rfl (hb hby at_1) ?_
    refine XS.iand X0.here hx rfl (hb hby at_4) rfl ?_
    refine XS.i2c X0.here hx rfl (hb hby at_5) rfl ?_
    show Steps _ _ _ (s₁.setTop (mkF m 6 #[vI p0, vI p1, vI p2, vI p3, vI p4, .unset, .unset, .unset, .unset, .unset, .unset, .unset, .unset, .unset] [(.int (oC p0))])) _
    show Steps _ _ _ (s₁.setTop (mkF m 6 #[vI p0, vI p1, vI p2, vI p3, vI p4, .unset, .unset, .unset, .unset, .unset, .unset, .unset, .unset, .unset] [(.int (oC p0))])) _
    refine XS.istore X0.here hx rfl (hb hby at_6) rfl (l' := #[vI p0, vI p1, vI p2, vI p3, vI p4, .val (.int (oC p0)), .unset, .unset, .unset, .unset, .unset, .unset, .unset, .unset]) rfl ?_
    refine XS.iloadN X0.here hx rfl (hb hby at_8) rfl ?_
    refine XS.sipush X0.here hx rfl (hb hby at_9) ?_
    refine XS.iand X0.here hx rfl (hb hby at_12) rfl ?_
    refine XS.i2c X0.here hx rfl (hb hby at_13) rfl ?_
    show Steps _ _ _ (s₁.setTop (mkF m 14 #[vI p0, vI p1, vI p2, vI p3, vI p4, .val (.int (oC p0)), .unset, .unset, .unset, .unset, .unset, .unset, .unset, .unset] [(.int (oC p1))])) _
    show Steps _ _ _ (s₁.setTop (mkF m 14 #[vI p0, vI p1, vI p2, vI p3, vI p4, .val (.int (oC p0)), .unset, .unset, .unset, .unset, .unset, .unset, .unset, .unset] [(.int (oC p1))])) _
    refine XS.istore X0.here hx rfl (hb hby at_14) rfl (l' := #[vI p0, vI p1, vI p2, vI p3, vI p4, .val (.int (oC p0)), .val (.int (oC p1)), .unset, .unset, .unset, .unset, .unset, .unset, .unset]) rfl ?_
    refine XS.iloadN X0.here hx rfl (hb hby at_16) rfl ?_
    refine XS.sipush X0.here hx rfl (hb hby at_17) ?_
    refine XS.iand X0.here hx rfl (hb hby at_20) rfl ?_
    refine XS.i2c X0.here hx rfl (hb hby at_21) rfl ?_
    show Steps _ _ _ (s₁.setTop (mkF m 22 #[vI p0, vI p1, vI p2, vI p3, vI p4, .val (.int (oC p0)), .val (.int (oC p1)), .unset, .unset, .unset, .unset, .unset, .unset, .unset] [(.int (oC p2))])) _
    show Steps _ _ _ (s₁.setTop (mkF m 22 #[vI p0, vI p1, vI p2, vI p3, vI p4, .val (.int (oC p0)), .val (.int (oC p1)), .unset, .unset, .unset, .unset, .unset, .unset, .unset] [(.int (oC p2))])) _
    refine XS.istore X0.here hx rfl (hb hby at_22) rfl (l' := #[vI p0, vI p1, vI p2, vI p3, vI p4, .val (.int (oC p0)), .val (.int (oC p1)), .val (.int (oC p2)), .unset, .unset, .unset, .unset, .unset, .unset]) rfl ?_
    refine XS.iloadN X0.here hx rfl (hb hby at_24) rfl ?_
    refine XS.sipush X0.here hx rfl (hb hby at_25) ?_
    refine XS.iand X0.here hx rfl (hb hby at_28) rfl ?_
    refine XS.i2c X0.here hx rfl (hb hby at_29) rfl ?_
    show Steps _ _ _ (s₁.setTop (mkF m 30 #[vI p0, vI p1, vI p2, vI p3, vI p4, .val (.int (oC p0)), .val (.int (oC p1)), .val (.int (oC p2)), .unset, .unset, .unset, .unset, .unset, .unset] [(.int (oC p3))])) _
    show Steps _ _ _ (s₁.setTop (mkF m 30 #[vI p0, vI p1, vI p2, vI p3, vI p4, .val (.int (oC p0)), .val (.int (oC p1)), .val (.int (oC p2)), .unset, .unset, .unset, .unset, .unset, .unset] [(.int (oC p3))])) _
    refine XS.istore X0.here hx rfl (hb hby at_30) rfl (l' := #[vI p0, vI p1, vI p2, vI p3, vI p4, .val (.int (oC p0)), .val (.int (oC p1)), .val (.int (oC p2)), .val (.int (oC p3)), .unset, .unset, .unset, .unset, .unset]) rfl ?_
    refine XS.iload X0.here hx rfl (hb hby at_32) rfl ?_
    refine XS.iconst X0.here hx rfl (hb hby at_34) ?_
    refine XS.iand X0.here hx rfl (hb hby at_35) rfl ?_
    refine XS.istore X0.here hx rfl (hb hby at_36) rfl (l' := #[vI p0, vI p1, vI p2, vI p3, vI p4, .val (.int (oC p0)), .val (.int (oC p1)), .val (.int (oC p2)), .val (.int (oC p3)), .val (.int (p4 &&& (3 : Int32))), .unset, .unset, .unset, .unset]) rfl ?_
    refine XS.iload X0.here hx rfl (hb hby at_38) rfl ?_
    refine XS.ifYes X0.here hx rfl (pc0 := 40) (pc' := 49) rfl (hb hby at_40) rfl ((if0 _ _).trans (feq (hc40 : ¬ ((p4 &&& (3 : Int32)) = (0 : Int32)))).2) (by decide) (by decide) ?_
    refine XS.iload X0.here hx rfl (hb hby at_49) rfl ?_
    refine XS.iconst X0.here hx rfl (hb hby at_51) ?_
    refine XS.icmpYes X0.here hx rfl (pc0 := 52) (pc' := 62) rfl (hb hby at_52) rfl (feq (hc52 : ¬ ((p4 &&& (3 : Int32)) = (1 : Int32)))).2 (by decide) (by decide) ?_
    refine XS.iload X0.here hx rfl (hb hby at_62) rfl ?_
    refine st1 _ ?_
    show Steps _ _ _ (T1.setTop (mkF m 67 #[vI p0, vI p1, vI p2, vI p3, vI p4, .val (.int (oC p0)), .val (.int (oC p1)), .val (.int (oC p2)), .val (.int (oC p3)), .val (.int (p4 &&& (3 : Int32))), .unset, .unset, .unset, .unset] [(.ref x1_a_)])) _
    refine XS.astore X1.here hx rfl (hb hby at_67) rfl rfl (l' := #[vI p0, vI p1, vI p2, vI p3, vI p4, .val (.int (oC p0)), .val (.int (oC p1)), .val (.int (oC p2)), .val (.int (oC p3)), .val (.int (p4 &&& (3 : Int32))), vA x1_a_, .unset, .unset, .unset]) rfl ?_
    refine st6 _ ?_
    show Steps _ _ _ (T6.setTop (mkF m 72 #[vI p0, vI p1, vI p2, vI p3, vI p4, .val (.int (oC p0)), .val (.int (oC p1)), .val (.int (oC p2)), .val (.int (oC p3)), .val (.int (p4 &&& (3 : Int32))), vA x1_a_, .unset, .unset, .unset] [(.ref b6)])) _
    refine XS.dup X6.here hx rfl (hb hby at_72) rfl rfl ?_
    refine XS.iload X6.here hx rfl (hb hby at_73) rfl ?_
    refine st8 _ ?_
    show Steps _ _ _ (T8.setTop (mkF m 78 #[vI p0, vI p1, vI p2, vI p3, vI p4, .val (.int (oC p0)), .val (.int (oC p1)), .val (.int (oC p2)), .val (.int (oC p3)), .val (.int (p4 &&& (3 : Int32))), vA x1_a_, .unset, .unset, .unset] [(.ref x8_a_), (.ref b6), (.ref b6)])) _
    refine XS.iload X8.here hx rfl (hb hby at_78) rfl ?_
    refine st14 _ ?_
    show Steps _ _ _ (T14.setTop (mkF m 83 #[vI p0, vI p1, vI p2, vI p3, vI p4, .val (.int (oC p0)), .val (.int (oC p1)), .val (.int (oC p2)), .val (.int (oC p3)), .val (.int (p4 &&& (3 : Int32))), vA x1_a_, .unset, .unset, .unset] [(.ref x14_a_), (.ref x8_a_), (.ref b6), (.ref b6)])) _
    refine XS.aload X14.here hx rfl (hb hby at_83) rfl rfl ?_
    refine XS.iload X14.here hx rfl (hb hby at_85) rfl ?_
    refine st19 _ ?_
    show Steps _ _ _ (T19.setTop (mkF m 90 #[vI p0, vI p1, vI p2, vI p3, vI p4, .val (.int (oC p0)), .val (.int (oC p1)), .val (.int (oC p2)), .val (.int (oC p3)), .val (.int (p4 &&& (3 : Int32))), vA x1_a_, .unset, .unset, .unset] [(.ref x19_a_), (.ref x1_a_), (.ref x14_a_), (.ref x8_a_), (.ref b6), (.ref b6)])) _
    refine st24.trans ?_
    show Steps _ _ _ (T24.setTop (mkF m 93 #[vI p0, vI p1, vI p2, vI p3, vI p4, .val (.int (oC p0)), .val (.int (oC p1)), .val (.int (oC p2)), .val (.int (oC p3)), .val (.int (p4 &&& (3 : Int32))), vA x1_a_, .unset, .unset, .unset] [(.ref b6)])) _
    refine XS.astore X24.here hx rfl (hb hby at_93) rfl rfl (l' := #[vI p0, vI p1, vI p2, vI p3, vI p4, .val (.int (oC p0)), .val (.int (oC p1)), .val (.int (oC p2)), .val (.int (oC p3)), .val (.int (p4 &&& (3 : Int32))), vA x1_a_, vA b6, .unset, .unset]) rfl ?_
    refine XS.aload X24.here hx rfl (hb hby at_95) rfl rfl ?_
    refine st47.trans ?_
    show Steps _ _ _ (T47.setTop (mkF m 100 #[vI p0, vI p1, vI p2, vI p3, vI p4, .val (.int (oC p0)), .val (.int (oC p1)), .val (.int (oC p2)), .val (.int (oC p3)), .val (.int (p4 &&& (3 : Int32))), vA x1_a_, vA b6, .unset, .unset] [(.ref x47_r)])) _
    refine XS.astore X47.here hx rfl (hb hby at_100) rfl rfl (l' := #[vI p0, vI p1, vI p2, vI p3, vI p4, .val (.int (oC p0)), .val (.int (oC p1)), .val (.int (oC p2)), .val (.int (oC p3)), .val (.int (p4 &&& (3 : Int32))), vA x1_a_, vA b6, vA x47_r, .unset]) rfl ?_
    refine XS.iload X47.here hx rfl (hb hby at_102) rfl ?_
    refine XS.ifYes X47.here hx rfl (pc0 := 104) (pc' := 260) rfl (hb hby at_104) rfl ((if0 _ _).trans (feq (hc40 : ¬ ((p4 &&& (3 : Int32)) = (0 : Int32)))).2) (by decide) (by decide) ?_
    refine XS.iload X47.here hx rfl (hb hby at_260) rfl ?_
    refine XS.iconst X47.here hx rfl (hb hby at_262) ?_
    refine XS.icmpYes X47.here hx rfl (pc0 := 263) (pc' := 473) rfl (hb hby at_263) rfl (feq (hc52 : ¬ ((p4 &&& (3 : Int32)) = (1 : Int32)))).2 (by decide) (by decide) ?_
    refine XS.bipush X47.here hx rfl (hb hby at_473) ?_
    refine st88 _ ?_
    show Steps _ _ _ (T88.setTop (mkF m 477 #[vI p0, vI p1, vI p2, vI p3, vI p4, .val (.int (oC p0)), .val (.int (oC p1)), .val (.int (oC p2)), .val (.int (oC p3)), .val (.int (p4 &&& (3 : Int32))), vA x1_a_, vA b6, vA x47_r, .unset] [(.ref b88)])) _
    refine XS.dup X88.here hx rfl (hb hby at_477) rfl rfl ?_
    refine XS.iconst X88.here hx rfl (hb hby at_478) ?_
    refine XS.bipush X88.here hx rfl (hb hby at_479) ?_
    refine st90 _ ?_
    show Steps _ _ _ (T90.setTop (mkF m 482 #[vI p0, vI p1, vI p2, vI p3, vI p4, .val (.int (oC p0)), .val (.int (oC p1)), .val (.int (oC p2)), .val (.int (oC p3)), .val (.int (p4 &&& (3 : Int32))), vA x1_a_, vA b6, vA x47_r, .unset] [(.ref b88)])) _
    refine XS.dup X90.here hx rfl (hb hby at_482) rfl rfl ?_
    refine XS.iconst X90.here hx rfl (hb hby at_483) ?_
    refine XS.bipush X90.here hx rfl (hb hby at_484) ?_
    refine st91 _ ?_
    show Steps _ _ _ (T91.setTop (mkF m 487 #[vI p0, vI p1, vI p2, vI p3, vI p4, .val (.int (oC p0)), .val (.int (oC p1)), .val (.int (oC p2)), .val (.int (oC p3)), .val (.int (p4 &&& (3 : Int32))), vA x1_a_, vA b6, vA x47_r, .unset] [(.ref b88)])) _
    refine XS.dup X91.here hx rfl (hb hby at_487) rfl rfl ?_
    refine XS.iconst X91.here hx rfl (hb hby at_488) ?_
    refine XS.bipush X91.here hx rfl (hb hby at_489) ?_
    refine st92 _ ?_
    show Steps _ _ _ (T92.setTop (mkF m 492 #[vI p0, vI p1, vI p2, vI p3, vI p4, .val (.int (oC p0)), .val (.int (oC p1)), .val (.int (oC p2)), .val (.int (oC p3)), .val (.int (p4 &&& (3 : Int32))), vA x1_a_, vA b6, vA x47_r, .unset] [(.ref b88)])) _
    refine XS.dup X92.here hx rfl (hb hby at_492) rfl rfl ?_
    refine XS.iconst X92.here hx rfl (hb hby at_493) ?_
    refine XS.bipush X92.here hx rfl (hb hby at_494) ?_
    refine st93 _ ?_
    show Steps _ _ _ (T93.setTop (mkF m 497 #[vI p0, vI p1, vI p2, vI p3, vI p4, .val (.int (oC p0)), .val (.int (oC p1)), .val (.int (oC p2)), .val (.int (oC p3)), .val (.int (p4 &&& (3 : Int32))), vA x1_a_, vA b6, vA x47_r, .unset] [(.ref b88)])) _
    refine XS.dup X93.here hx rfl (hb hby at_497) rfl rfl ?_
    refine XS.iconst X93.here hx rfl (hb hby at_498) ?_
    refine XS.bipush X93.here hx rfl (hb hby at_499) ?_
    refine st94 _ ?_
    show Steps _ _ _ (T94.setTop (mkF m 502 #[vI p0, vI p1, vI p2, vI p3, vI p4, .val (.int (oC p0)), .val (.int (oC p1)), .val (.int (oC p2)), .val (.int (oC p3)), .val (.int (p4 &&& (3 : Int32))), vA x1_a_, vA b6, vA x47_r, .unset] [(.ref b88)])) _
    refine XS.dup X94.here hx rfl (hb hby at_502) rfl rfl ?_
    refine XS.iconst X94.here hx rfl (hb hby at_503) ?_
    refine XS.bipush X94.here hx rfl (hb hby at_504) ?_
    refine st95 _ ?_
    show Steps _ _ _ (T95.setTop (mkF m 507 #[vI p0, vI p1, vI p2, vI p3, vI p4, .val (.int (oC p0)), .val (.int (oC p1)), .val (.int (oC p2)), .val (.int (oC p3)), .val (.int (p4 &&& (3 : Int32))), vA x1_a_, vA b6, vA x47_r, .unset] [(.ref b88)])) _
    refine XS.dup X95.here hx rfl (hb hby at_507) rfl rfl ?_
    refine XS.bipush X95.here hx rfl (hb hby at_508) ?_
    refine XS.bipush X95.here hx rfl (hb hby at_510) ?_
    refine st96 _ ?_
    show Steps _ _ _ (T96.setTop (mkF m 513 #[vI p0, vI p1, vI p2, vI p3, vI p4, .val (.int (oC p0)), .val (.int (oC p1)), .val (.int (oC p2)), .val (.int (oC p3)), .val (.int (p4 &&& (3 : Int32))), vA x1_a_, vA b6, vA x47_r, .unset] [(.ref b88)])) _
    refine XS.dup X96.here hx rfl (hb hby at_513) rfl rfl ?_
    refine XS.bipush X96.here hx rfl (hb hby at_514) ?_
    refine XS.bipush X96.here hx rfl (hb hby at_516) ?_
    refine st97 _ ?_
    show Steps _ _ _ (T97.setTop (mkF m 519 #[vI p0, vI p1, vI p2, vI p3, vI p4, .val (.int (oC p0)), .val (.int (oC p1)), .val (.int (oC p2)), .val (.int (oC p3)), .val (.int (p4 &&& (3 : Int32))), vA x1_a_, vA b6, vA x47_r, .unset] [(.ref b88)])) _
    refine XS.dup X97.here hx rfl (hb hby at_519) rfl rfl ?_
    refine XS.bipush X97.here hx rfl (hb hby at_520) ?_
    refine XS.bipush X97.here hx rfl (hb hby at_522) ?_
    refine st98 _ ?_
    show Steps _ _ _ (T98.setTop (mkF m 525 #[vI p0, vI p1, vI p2, vI p3, vI p4, .val (.int (oC p0)), .val (.int (oC p1)), .val (.int (oC p2)), .val (.int (oC p3)), .val (.int (p4 &&& (3 : Int32))), vA x1_a_, vA b6, vA x47_r, .unset] [(.ref b88)])) _
    refine XS.dup X98.here hx rfl (hb hby at_525) rfl rfl ?_
    refine XS.bipush X98.here hx rfl (hb hby at_526) ?_
    refine XS.bipush X98.here hx rfl (hb hby at_528) ?_
    refine st99 _ ?_
    show Steps _ _ _ (T99.setTop (mkF m 531 #[vI p0, vI p1, vI p2, vI p3, vI p4, .val (.int (oC p0)), .val (.int (oC p1)), .val (.int (oC p2)), .val (.int (oC p3)), .val (.int (p4 &&& (3 : Int32))), vA x1_a_, vA b6, vA x47_r, .unset] [(.ref b88)])) _
    refine XS.dup X99.here hx rfl (hb hby at_531) rfl rfl ?_
    refine XS.bipush X99.here hx rfl (hb hby at_532) ?_
    refine XS.bipush X99.here hx rfl (hb hby at_534) ?_
    refine st100 _ ?_
    show Steps _ _ _ (T100.setTop (mkF m 537 #[vI p0, vI p1, vI p2, vI p3, vI p4, .val (.int (oC p0)), .val (.int (oC p1)), .val (.int (oC p2)), .val (.int (oC p3)), .val (.int (p4 &&& (3 : Int32))), vA x1_a_, vA b6, vA x47_r, .unset] [(.ref b88)])) _
    refine XS.dup X100.here hx rfl (hb hby at_537) rfl rfl ?_
    refine XS.bipush X100.here hx rfl (hb hby at_538) ?_
    refine XS.bipush X100.here hx rfl (hb hby at_540) ?_
    refine st101 _ ?_
    show Steps _ _ _ (T101.setTop (mkF m 543 #[vI p0, vI p1, vI p2, vI p3, vI p4, .val (.int (oC p0)), .val (.int (oC p1)), .val (.int (oC p2)), .val (.int (oC p3)), .val (.int (p4 &&& (3 : Int32))), vA x1_a_, vA b6, vA x47_r, .unset] [(.ref b88)])) _
    refine XS.dup X101.here hx rfl (hb hby at_543) rfl rfl ?_
    refine XS.bipush X101.here hx rfl (hb hby at_544) ?_
    refine XS.bipush X101.here hx rfl (hb hby at_546) ?_
    refine st102 _ ?_
    show Steps _ _ _ (T102.setTop (mkF m 549 #[vI p0, vI p1, vI p2, vI p3, vI p4, .val (.int (oC p0)), .val (.int (oC p1)), .val (.int (oC p2)), .val (.int (oC p3)), .val (.int (p4 &&& (3 : Int32))), vA x1_a_, vA b6, vA x47_r, .unset] [(.ref b88)])) _
    refine XS.dup X102.here hx rfl (hb hby at_549) rfl rfl ?_
    refine XS.bipush X102.here hx rfl (hb hby at_550) ?_
    refine XS.iload X102.here hx rfl (hb hby at_552) rfl ?_
    refine st103 _ ?_
    show Steps _ _ _ (T103.setTop (mkF m 555 #[vI p0, vI p1, vI p2, vI p3, vI p4, .val (.int (oC p0)), .val (.int (oC p1)), .val (.int (oC p2)), .val (.int (oC p3)), .val (.int (p4 &&& (3 : Int32))), vA x1_a_, vA b6, vA x47_r, .unset] [(.ref b88)])) _
    refine XS.dup X103.here hx rfl (hb hby at_555) rfl rfl ?_
    refine XS.bipush X103.here hx rfl (hb hby at_556) ?_
    refine XS.bipush X103.here hx rfl (hb hby at_558) ?_
    refine st104 _ ?_
    show Steps _ _ _ (T104.setTop (mkF m 561 #[vI p0, vI p1, vI p2, vI p3, vI p4, .val (.int (oC p0)), .val (.int (oC p1)), .val (.int (oC p2)), .val (.int (oC p3)), .val (.int (p4 &&& (3 : Int32))), vA x1_a_, vA b6, vA x47_r, .unset] [(.ref b88)])) _
    refine XS.dup X104.here hx rfl (hb hby at_561) rfl rfl ?_
    refine XS.bipush X104.here hx rfl (hb hby at_562) ?_
    refine XS.bipush X104.here hx rfl (hb hby at_564) ?_
    refine st105 _ ?_
    show Steps _ _ _ (T105.setTop (mkF m 567 #[vI p0, vI p1, vI p2, vI p3, vI p4, .val (.int (oC p0)), .val (.int (oC p1)), .val (.int (oC p2)), .val (.int (oC p3)), .val (.int (p4 &&& (3 : Int32))), vA x1_a_, vA b6, vA x47_r, .unset] [(.ref b88)])) _
    refine XS.dup X105.here hx rfl (hb hby at_567) rfl rfl ?_
    refine XS.bipush X105.here hx rfl (hb hby at_568) ?_
    refine XS.bipush X105.here hx rfl (hb hby at_570) ?_
    refine st106 _ ?_
    show Steps _ _ _ (T106.setTop (mkF m 573 #[vI p0, vI p1, vI p2, vI p3, vI p4, .val (.int (oC p0)), .val (.int (oC p1)), .val (.int (oC p2)), .val (.int (oC p3)), .val (.int (p4 &&& (3 : Int32))), vA x1_a_, vA b6, vA x47_r, .unset] [(.ref b88)])) _
    refine XS.dup X106.here hx rfl (hb hby at_573) rfl rfl ?_
    refine XS.bipush X106.here hx rfl (hb hby at_574) ?_
    refine XS.bipush X106.here hx rfl (hb hby at_576) ?_
    refine st107 _ ?_
    show Steps _ _ _ (T107.setTop (mkF m 579 #[vI p0, vI p1, vI p2, vI p3, vI p4, .val (.int (oC p0)), .val (.int (oC p1)), .val (.int (oC p2)), .val (.int (oC p3)), .val (.int (p4 &&& (3 : Int32))), vA x1_a_, vA b6, vA x47_r, .unset] [(.ref b88)])) _
    refine XS.dup X107.here hx rfl (hb hby at_579) rfl rfl ?_
    refine XS.bipush X107.here hx rfl (hb hby at_580) ?_
    refine XS.bipush X107.here hx rfl (hb hby at_582) ?_
    refine st108 _ ?_
    show Steps _ _ _ (T108.setTop (mkF m 585 #[vI p0, vI p1, vI p2, vI p3, vI p4, .val (.int (oC p0)), .val (.int (oC p1)), .val (.int (oC p2)), .val (.int (oC p3)), .val (.int (p4 &&& (3 : Int32))), vA x1_a_, vA b6, vA x47_r, .unset] [(.ref b88)])) _
    refine XS.dup X108.here hx rfl (hb hby at_585) rfl rfl ?_
    refine XS.bipush X108.here hx rfl (hb hby at_586) ?_
    refine XS.bipush X108.here hx rfl (hb hby at_588) ?_
    refine st109 _ ?_
    show Steps _ _ _ (T109.setTop (mkF m 591 #[vI p0, vI p1, vI p2, vI p3, vI p4, .val (.int (oC p0)), .val (.int (oC p1)), .val (.int (oC p2)), .val (.int (oC p3)), .val (.int (p4 &&& (3 : Int32))), vA x1_a_, vA b6, vA x47_r, .unset] [(.ref b88)])) _
    refine XS.dup X109.here hx rfl (hb hby at_591) rfl rfl ?_
    refine XS.bipush X109.here hx rfl (hb hby at_592) ?_
    refine XS.bipush X109.here hx rfl (hb hby at_594) ?_
    refine st110 _ ?_
    show Steps _ _ _ (T110.setTop (mkF m 597 #[vI p0, vI p1, vI p2, vI p3, vI p4, .val (.int (oC p0)), .val (.int (oC p1)), .val (.int (oC p2)), .val (.int (oC p3)), .val (.int (p4 &&& (3 : Int32))), vA x1_a_, vA b6, vA x47_r, .unset] [(.ref b88)])) _
    refine XS.dup X110.here hx rfl (hb hby at_597) rfl rfl ?_
    refine XS.bipush X110.here hx rfl (hb hby at_598) ?_
    refine XS.bipush X110.here hx rfl (hb hby at_600) ?_
    refine st111 _ ?_
    show Steps _ _ _ (T111.setTop (mkF m 603 #[vI p0, vI p1, vI p2, vI p3, vI p4, .val (.int (oC p0)), .val (.int (oC p1)), .val (.int (oC p2)), .val (.int (oC p3)), .val (.int (p4 &&& (3 : Int32))), vA x1_a_, vA b6, vA x47_r, .unset] [(.ref b88)])) _
    refine XS.dup X111.here hx rfl (hb hby at_603) rfl rfl ?_
    refine XS.bipush X111.here hx rfl (hb hby at_604) ?_
    refine XS.bipush X111.here hx rfl (hb hby at_606) ?_
    refine st112 _ ?_
    show Steps _ _ _ (T112.setTop (mkF m 609 #[vI p0, vI p1, vI p2, vI p3, vI p4, .val (.int (oC p0)), .val (.int (oC p1)), .val (.int (oC p2)), .val (.int (oC p3)), .val (.int (p4 &&& (3 : Int32))), vA x1_a_, vA b6, vA x47_r, .unset] [(.ref b88)])) _
    refine XS.dup X112.here hx rfl (hb hby at_609) rfl rfl ?_
    refine XS.bipush X112.here hx rfl (hb hby at_610) ?_
    refine XS.iload X112.here hx rfl (hb hby at_612) rfl ?_
    refine st113 _ ?_
    show Steps _ _ _ (T113.setTop (mkF m 615 #[vI p0, vI p1, vI p2, vI p3, vI p4, .val (.int (oC p0)), .val (.int (oC p1)), .val (.int (oC p2)), .val (.int (oC p3)), .val (.int (p4 &&& (3 : Int32))), vA x1_a_, vA b6, vA x47_r, .unset] [(.ref b88)])) _
    refine XS.dup X113.here hx rfl (hb hby at_615) rfl rfl ?_
    refine XS.bipush X113.here hx rfl (hb hby at_616) ?_
    refine XS.bipush X113.here hx rfl (hb hby at_618) ?_
    refine st114 _ ?_
    show Steps _ _ _ (T114.setTop (mkF m 621 #[vI p0, vI p1, vI p2, vI p3, vI p4, .val (.int (oC p0)), .val (.int (oC p1)), .val (.int (oC p2)), .val (.int (oC p3)), .val (.int (p4 &&& (3 : Int32))), vA x1_a_, vA b6, vA x47_r, .unset] [(.ref b88)])) _
    refine XS.dup X114.here hx rfl (hb hby at_621) rfl rfl ?_
    refine XS.bipush X114.here hx rfl (hb hby at_622) ?_
    refine XS.bipush X114.here hx rfl (hb hby at_624) ?_
    refine st115 _ ?_
    show Steps _ _ _ (T115.setTop (mkF m 627 #[vI p0, vI p1, vI p2, vI p3, vI p4, .val (.int (oC p0)), .val (.int (oC p1)), .val (.int (oC p2)), .val (.int (oC p3)), .val (.int (p4 &&& (3 : Int32))), vA x1_a_, vA b6, vA x47_r, .unset] [(.ref b88)])) _
    refine XS.dup X115.here hx rfl (hb hby at_627) rfl rfl ?_
    refine XS.bipush X115.here hx rfl (hb hby at_628) ?_
    refine XS.bipush X115.here hx rfl (hb hby at_630) ?_
    refine st116 _ ?_
    show Steps _ _ _ (T116.setTop (mkF m 633 #[vI p0, vI p1, vI p2, vI p3, vI p4, .val (.int (oC p0)), .val (.int (oC p1)), .val (.int (oC p2)), .val (.int (oC p3)), .val (.int (p4 &&& (3 : Int32))), vA x1_a_, vA b6, vA x47_r, .unset] [(.ref b88)])) _
    refine XS.dup X116.here hx rfl (hb hby at_633) rfl rfl ?_
    refine XS.bipush X116.here hx rfl (hb hby at_634) ?_
    refine XS.bipush X116.here hx rfl (hb hby at_636) ?_
    refine st117 _ ?_
    show Steps _ _ _ (T117.setTop (mkF m 639 #[vI p0, vI p1, vI p2, vI p3, vI p4, .val (.int (oC p0)), .val (.int (oC p1)), .val (.int (oC p2)), .val (.int (oC p3)), .val (.int (p4 &&& (3 : Int32))), vA x1_a_, vA b6, vA x47_r, .unset] [(.ref b88)])) _
    refine XS.dup X117.here hx rfl (hb hby at_639) rfl rfl ?_
    refine XS.bipush X117.here hx rfl (hb hby at_640) ?_
    refine XS.bipush X117.here hx rfl (hb hby at_642) ?_
    refine st118 _ ?_
    show Steps _ _ _ (T118.setTop (mkF m 645 #[vI p0, vI p1, vI p2, vI p3, vI p4, .val (.int (oC p0)), .val (.int (oC p1)), .val (.int (oC p2)), .val (.int (oC p3)), .val (.int (p4 &&& (3 : Int32))), vA x1_a_, vA b6, vA x47_r, .unset] [(.ref b88)])) _
    refine XS.dup X118.here hx rfl (hb hby at_645) rfl rfl ?_
    refine XS.bipush X118.here hx rfl (hb hby at_646) ?_
    refine XS.bipush X118.here hx rfl (hb hby at_648) ?_
    refine st119 _ ?_
    show Steps _ _ _ (T119.setTop (mkF m 651 #[vI p0, vI p1, vI p2, vI p3, vI p4, .val (.int (oC p0)), .val (.int (oC p1)), .val (.int (oC p2)), .val (.int (oC p3)), .val (.int (p4 &&& (3 : Int32))), vA x1_a_, vA b6, vA x47_r, .unset] [(.ref b88)])) _
    refine XS.dup X119.here hx rfl (hb hby at_651) rfl rfl ?_
    refine XS.bipush X119.here hx rfl (hb hby at_652) ?_
    refine XS.bipush X119.here hx rfl (hb hby at_654) ?_
    refine st120 _ ?_
    show Steps _ _ _ (T120.setTop (mkF m 657 #[vI p0, vI p1, vI p2, vI p3, vI p4, .val (.int (oC p0)), .val (.int (oC p1)), .val (.int (oC p2)), .val (.int (oC p3)), .val (.int (p4 &&& (3 : Int32))), vA x1_a_, vA b6, vA x47_r, .unset] [(.ref b88)])) _
    refine XS.dup X120.here hx rfl (hb hby at_657) rfl rfl ?_
    refine XS.bipush X120.here hx rfl (hb hby at_658) ?_
    refine XS.bipush X120.here hx rfl (hb hby at_660) ?_
    refine st121 _ ?_
    show Steps _ _ _ (T121.setTop (mkF m 663 #[vI p0, vI p1, vI p2, vI p3, vI p4, .val (.int (oC p0)), .val (.int (oC p1)), .val (.int (oC p2)), .val (.int (oC p3)), .val (.int (p4 &&& (3 : Int32))), vA x1_a_, vA b6, vA x47_r, .unset] [(.ref b88)])) _
    refine XS.dup X121.here hx rfl (hb hby at_663) rfl rfl ?_
    refine XS.bipush X121.here hx rfl (hb hby at_664) ?_
    refine XS.bipush X121.here hx rfl (hb hby at_666) ?_
    refine st122 _ ?_
    show Steps _ _ _ (T122.setTop (mkF m 669 #[vI p0, vI p1, vI p2, vI p3, vI p4, .val (.int (oC p0)), .val (.int (oC p1)), .val (.int (oC p2)), .val (.int (oC p3)), .val (.int (p4 &&& (3 : Int32))), vA x1_a_, vA b6, vA x47_r, .unset] [(.ref b88)])) _
    refine XS.dup X122.here hx rfl (hb hby at_669) rfl rfl ?_
    refine XS.bipush X122.here hx rfl (hb hby at_670) ?_
    refine XS.iload X122.here hx rfl (hb hby at_672) rfl ?_
    refine st123 _ ?_
    show Steps _ _ _ (T123.setTop (mkF m 675 #[vI p0, vI p1, vI p2, vI p3, vI p4, .val (.int (oC p0)), .val (.int (oC p1)), .val (.int (oC p2)), .val (.int (oC p3)), .val (.int (p4 &&& (3 : Int32))), vA x1_a_, vA b6, vA x47_r, .unset] [(.ref b88)])) _
    refine XS.dup X123.here hx rfl (hb hby at_675) rfl rfl ?_
    refine XS.bipush X123.here hx rfl (hb hby at_676) ?_
    refine XS.bipush X123.here hx rfl (hb hby at_678) ?_
    refine st124 _ ?_
    show Steps _ _ _ (T124.setTop (mkF m 681 #[vI p0, vI p1, vI p2, vI p3, vI p4, .val (.int (oC p0)), .val (.int (oC p1)), .val (.int (oC p2)), .val (.int (oC p3)), .val (.int (p4 &&& (3 : Int32))), vA x1_a_, vA b6, vA x47_r, .unset] [(.ref b88)])) _
    refine XS.astore X124.here hx rfl (hb hby at_681) rfl rfl (l' := #[vI p0, vI p1, vI p2, vI p3, vI p4, .val (.int (oC p0)), .val (.int (oC p1)), .val (.int (oC p2)), .val (.int (oC p3)), .val (.int (p4 &&& (3 : Int32))), vA x1_a_, vA b6, vA x47_r, vA b88]) rfl ?_
    refine XS.aload X124.here hx rfl (hb hby at_683) rfl rfl ?_
    refine st126 _ ?_
    show Steps _ _ _ (T126.setTop (mkF m 688 #[vI p0, vI p1, vI p2, vI p3, vI p4, .val (.int (oC p0)), .val (.int (oC p1)), .val (.int (oC p2)), .val (.int (oC p3)), .val (.int (p4 &&& (3 : Int32))), vA x1_a_, vA b6, vA x47_r, vA b88] [(.ref b126), (.ref x47_r)])) _
    refine XS.dup X126.here hx rfl (hb hby at_688) rfl rfl ?_
    refine XS.aload X126.here hx rfl (hb hby at_689) rfl rfl ?_
    refine st128.trans ?_
    show Steps _ _ _ (T128.setTop (mkF m 694 #[vI p0, vI p1, vI p2, vI p3, vI p4, .val (.int (oC p0)), .val (.int (oC p1)), .val (.int (oC p2)), .val (.int (oC p3)), .val (.int (p4 &&& (3 : Int32))), vA x1_a_, vA b6, vA x47_r, vA b88] [(.ref b126), (.ref x47_r)])) _
    refine st172.trans ?_
    show Steps _ _ _ (T172.setTop (mkF m 697 #[vI p0, vI p1, vI p2, vI p3, vI p4, .val (.int (oC p0)), .val (.int (oC p1)), .val (.int (oC p2)), .val (.int (oC p3)), .val (.int (p4 &&& (3 : Int32))), vA x1_a_, vA b6, vA x47_r, vA b88] [(.int 1)])) _
    exact retN X172 hx (t := .boolean) Bd.returns (by simp) (hb hby at_697) hr
  · show Q_law Z p0 p1 p2 p3 p4 cp h0 n0 _ T172.heap _
    rw [(Kq172 : T172.heap = T128.heap)]
    exact ⟨rfl, N172⟩
theorem rm_law (l : Launch) (Z : State) (a0 : Array Value) (hw : HW Z a0) (ws : List Jvm.Cond) (p0 : Int32) (p1 : Int32) (p2 : Int32) (p3 : Int32) (p4 : Int32) (cp : Int32) (h0 : Heap) (n0 : Nat) (Z0 : n0 ≤ h0.size) (P0 : Old Z n0 h0) (P1 : sta0 Z (.int cp)) (hcs : ¬ (cp = (0 : Int32))) :
    MetFree l x (head1 (Jvm.Cond.code x code maxLocals ret :: ws) room_1) (fun as' U => as' = #[(.int p0), (.int p1), (.int p2), (.int p3), (.int p4)] ∧ Z.Warmed39 U.vm ∧ U.heap = h0 ∧ CHv Z own_EL U.vm h0) (fun _ _ _ _ _ => True) (fun _ U o U' => ∃ v L, o = .returned v ∧ Q_law Z p0 p1 p2 p3 p4 cp h0 n0 v U'.heap L ∧ ReturnedEndW U o U' L room_1.cells room_1.slots) := by
  by_cases h0' : (p4 &&& (3 : Int32)) = (0 : Int32)
  · exact rm_law_N l Z a0 hw ws p0 p1 p2 p3 p4 cp h0 n0 Z0 P0 P1 hcs h0'
  by_cases h1' : (p4 &&& (3 : Int32)) = (1 : Int32)
  · exact rm_law_0 l Z a0 hw ws p0 p1 p2 p3 p4 cp h0 n0 Z0 P0 P1 hcs h0' h1'
  exact rm_law_1 l Z a0 hw ws p0 p1 p2 p3 p4 cp h0 n0 Z0 P0 P1 hcs h0' h1'
set_option maxRecDepth 65536 in
set_option maxHeartbeats 40000000 in
theorem comes_1 {Post : Tables → Env → Array Value → State → Outcome → State → Prop} (hpost : ∀ tb e args s v u, (limb_1_1.after args s (.returned v) u = true ∧ limb_1_2.after args s (.returned v) u = true ∧ True) → ReturnedEndW s (.returned v) u (Jvm.fieldLocs frame_1_writes args s ++ Jvm.arrayLocs frame_1_arrays args s ++ Jvm.staticLocs frame_1_statics s) 56 7744 → Post tb e args s (.returned v) u) :
    ArmFor flags0 classFile x code maxLocals ret World_1 tables_1 room_1 Calls_1 rest_1 Pre_1 Post := by
  intro l hfl _ _ p e ha hc hk s m args below hf hA hF happ hP
  obtain ⟨hcalls, hrest, hpre⟩ := hP
  obtain ⟨-, -, -, hnamed, -, -, -, hat⟩ := (Spec.applies_iff hf).mp happ
  obtain ⟨hg, hn⟩ := and_e (Cond.before_iff.mp (show (Jvm.Cond.and given_1 narrow_1).before args s = true from hpre))
  obtain ⟨hcount, hq0⟩ := and_e hg
  obtain ⟨hk0, hq1⟩ := and_e hq0
  obtain ⟨hk1, hq2⟩ := and_e hq1
  obtain ⟨hk2, hq3⟩ := and_e hq2
  obtain ⟨hk3, hq4⟩ := and_e hq3
  obtain ⟨w0, w1, w2, w3, w4, rfl⟩ : ∃ w0 w1 w2 w3 w4 : Value, args = #[w0, w1, w2, w3, w4] := by
    have hs : args.size = 5 := by simpa [Cond.value, given_1] using hcount
    obtain ⟨L⟩ := args
    match L, hs with
    | [w0, w1, w2, w3, w4], _ => exact ⟨w0, w1, w2, w3, w4, rfl⟩
  have hw := fun d (hd : d ∈ tables_1) => atoms_spec (ws := Jvm.Cond.code x code maxLocals ret :: tables_1) hat d (List.mem_cons_of_mem _ hd)
  obtain ⟨hsets, hown0⟩ := atoms_of _ (rest_1_c_eq ▸ (show rest_1_c.before _ s = true from hrest))
  have hfit : Fit s := fun {y c} hc i hi => by
    obtain ⟨ha, rfl⟩ := Array.getElem?_eq_some_iff.mp hc
    have q := List.all_eq_true.mp ((Array.all_eq_true_iff_forall_mem.mp hF) _ (Array.getElem_mem ha)) i (List.mem_range.mpr hi)
    simpa [Array.getElem?_eq_getElem hi] using q
  obtain ⟨i0, ev0⟩ := is_v hk0
  obtain rfl : w0 = (.int i0) := Option.some.inj ev0
  obtain ⟨i1, ev1⟩ := is_v hk1
  obtain rfl : w1 = (.int i1) := Option.some.inj ev1
  obtain ⟨i2, ev2⟩ := is_v hk2
  obtain rfl : w2 = (.int i2) := Option.some.inj ev2
  obtain ⟨i3, ev3⟩ := is_v hk3
  obtain rfl : w3 = (.int i3) := Option.some.inj ev3
  obtain ⟨i4, ev4⟩ := is_v hq4
  obtain rfl : w4 = (.int i4) := Option.some.inj ev4
  obtain ⟨cs, e4⟩ := is_v (Cond.before_iff.mp (hsets _ (List.mem_of_getElem? (i := 1) rfl)))
  have S4 : Sta s s.heap "java/lang/String" "COMPACT_STRINGS" "Z" (.int cs) := Sta.start e4 (Or.inl (hsets _ (List.mem_of_getElem? (i := 0) rfl)))
  have c4 : ¬ (cs = (0 : Int32)) := gotF (Cond.eq_ints e4 (Term.int_eval (0))) (not_v (Cond.before_iff.mp (hsets _ (List.mem_of_getElem? (i := 2) rfl))))
  have hCH : CHv s own_EL s.vm s.heap := CHv.start (own_EW hw) (fun p hp => hcalls.1 p ((by decide : ∀ p ∈ own_EL, p ∈ consts_1) p hp)) (hsets _ (List.mem_of_getElem? (i := 2) rfl)) (w_17 hw) (w_13 hw)
  obtain ⟨n, o, h1, h2, h3, _, L, rfl, ⟨rfl, N⟩, hq⟩ := rm_law l s _ hw tables_1 i0 i1 i2 i3 i4 cs s.heap s.heap.size (Nat.le_refl _) (Old.start s) S4 c4 p e ha hc hk s m _ below hf ((Spec.applies_iff_loose hf).mp happ).1 ⟨rfl, State.Warmed39.refl s, rfl, hCH⟩ trivial
  refine ⟨n, _, h1, h2, h3, hpost _ _ _ _ _ _ ⟨Cond.after_iff.mpr rfl, Cond.after_iff.mpr (eq_i res_at (Term.int_eval (1)) rfl), trivial⟩ ⟨hq.1, hq.2.1, hq.2.2.1, (hq.2.2.2.sift fun y hy => Or.inr (N y hy)).mono (by decide) (by decide)⟩⟩
theorem main_1_1 : Claimed_1_1 := comes_1 fun _ _ _ _ _ _ h hF => ⟨h.1, hF⟩
theorem main_1_2 : Claimed_1_2 := comes_1 fun _ _ _ _ _ _ h hF => ⟨h.2.1, hF⟩
end Jvm.Pilot.@@N@@
namespace Jvm.Pilot.@@N@@
open Jvm Jvm.ClassFile Sem Op Lib Jvm.Free Jvm.Stand Jvm.Pilot.@@N@@.Jvm.D
/-! MADE BY PROGRAM (witnessworld.py) out of the Statement's table words and the real class files: 27 classes; the members and pool entries that the words name. The judged class is class 1, her method 1. -/
namespace start1
open Jvm.ClassFile
def u (s : String) : CpInfo := .utf8 (stringToUtf16 s)
/-- a pool by its gaps: so many unusable entries, then the entry; so many at the end -/
def gap : Nat → List CpInfo → List CpInfo
  | 0, r => r
  | n + 1, r => .unusable :: gap n r
def poolList (es : List (Nat × CpInfo)) (last : Nat) : List CpInfo := es.foldr (fun e r => gap e.1 (e.2 :: r)) (gap last [])
def pool (es : List (Nat × CpInfo)) (last : Nat) : Array CpInfo := ⟨poolList es last⟩
def fileOf (pool : Array CpInfo) (this : Nat) (attrs : Array Attribute := #[]) (ms : Array MethodInfo := #[]) (fl : Nat := 33) (sup : Nat := 0) (ifs : Array Nat := #[]) (fds : Array FieldInfo := #[]) : ClassFile where
  minorVersion := 0
  majorVersion := 65
  constantPool := pool
  accessFlags := fl
  thisClass := this
  superClass := sup
  interfaces := ifs
  fields := fds
  methods := ms
  attributes := attrs
def plain (name : String) (sup : Option ClassId) : Class where
  name := name
  kind := .ordinary
  loader := none
  accessFlags := 33
  super := sup
  interfaces := #[]
  cf := none
  fields := #[]
  methods := #[]
  instanceTypes := #[]
  staticTypes := #[]
  resolved := #[]
  callSites := []
  init := .initialized
  statics := none
  mirror := none

def pool0 : Array CpInfo := pool [(5, u "<init>"), (0, u "()V"), (1, .class_ 10), (1, u "java/lang/Object")] 113

def k0c0 : Code := { maxStack := 0, maxLocals := 1, code := object_method_1_code, exceptionTable := #[], attributes := #[] }
def k0m0 : Method := { name := "<init>", desc := "()V", sig := { parameters := [], returnType := none }, accessFlags := 1, code := some k0c0 }
/-- java/lang/Object -/
def k0 : Class := { plain "java/lang/Object" none with
  accessFlags := 33
  interfaces := #[]
  cf := some (fileOf pool0 8 #[] #[{ accessFlags := 1, nameIndex := 5, descriptorIndex := 6, attributes := #[] }] 33 0 #[] #[])
  fields := #[]
  methods := #[k0m0]
  instanceTypes := #[]
  staticTypes := #[]
  resolved := Array.replicate 124 none
  statics := none }

def pool1 : Array CpInfo := pool [(2, .class_ 4), (1, u "java/lang/Object"), (0, u "<init>"), (0, u "()V"), (0, .string 8), (0, u ""), (0, .methodref 10 11), (0, .class_ 12), (0, .nameAndType 13 14), (0, u "java/lang/String"), (0, u "valueOf"), (0, u "(C)Ljava/lang/String;"), (0, .class_ 16), (0, u "com/example/upright_harness/uprightharness/Account"), (0, .methodref 15 18), (0, .nameAndType 5 19), (0, u "(Ljava/lang/String;Ljava/lang/String;Ljava/lang/String;Ljava/lang/String;)V"), (0, .methodref 15 21), (0, .nameAndType 22 23), (0, u "toString"), (0, u "()Ljava/lang/String;"), (0, .methodref 10 25), (0, .nameAndType 5 26), (0, u "([C)V"), (0, .methodref 10 28), (0, .nameAndType 29 30), (0, u "equals"), (0, u "(Ljava/lang/Object;)Z"), (0, .class_ 32), (0, u "com/example/upright_harness/uprightharness/AccountToStringPinLaw"), (2, u "law"), (0, u "(IIIII)Z")] 5

def k1m0 : Method := { name := "<init>", desc := "()V", sig := { parameters := [], returnType := none }, accessFlags := 1, code := none }
def k1c1 : Code := { maxStack := 6, maxLocals := 14, code := code, exceptionTable := #[], attributes := #[] }
def k1m1 : Method := { name := "law", desc := "(IIIII)Z", sig := { parameters := [.int, .int, .int, .int, .int], returnType := some .boolean }, accessFlags := 9, code := some k1c1 }
/-- com/example/upright_harness/uprightharness/AccountToStringPinLaw -/
def k1 : Class := { plain "com/example/upright_harness/uprightharness/AccountToStringPinLaw" (some 0) with
  accessFlags := 49
  interfaces := #[]
  cf := some (fileOf pool1 31 #[] #[{ accessFlags := 1, nameIndex := 5, descriptorIndex := 6, attributes := #[] }, { accessFlags := 9, nameIndex := 35, descriptorIndex := 36, attributes := #[] }] 49 2 #[] #[])
  fields := #[]
  methods := #[k1m0, k1m1]
  instanceTypes := #[]
  staticTypes := #[]
  resolved := Array.replicate 42 none
  statics := none }

def pool2 : Array CpInfo := pool [(1, .methodref 2 3), (0, .class_ 4), (0, .nameAndType 5 6), (0, u "java/lang/Object"), (0, u "<init>"), (0, u "()V"), (0, .string 8), (0, u "user"), (0, .methodref 10 11), (0, .class_ 12), (0, .nameAndType 13 14), (0, u "java/util/Objects"), (0, u "requireNonNull"), (0, u "(Ljava/lang/Object;Ljava/lang/String;)Ljava/lang/Object;"), (0, .class_ 16), (0, u "java/lang/String"), (0, .fieldref 18 19), (0, .class_ 20), (0, .nameAndType 8 21), (0, u "com/example/upright_harness/uprightharness/Account"), (0, u "Ljava/lang/String;"), (0, .string 23), (0, u "password"), (0, .fieldref 18 25), (0, .nameAndType 23 21), (0, .fieldref 18 27), (0, .nameAndType 28 21), (0, u "domain"), (0, .string 30), (0, u "target"), (0, .fieldref 18 32), (0, .nameAndType 30 21), (0, .class_ 34), (0, u "java/lang/StringBuilder"), (0, .string 36), (0, u "Account[user="), (0, .methodref 33 38), (0, .nameAndType 5 39), (0, u "(Ljava/lang/String;)V"), (0, .methodref 33 41), (0, .nameAndType 42 43), (0, u "append"), (0, u "(Ljava/lang/String;)Ljava/lang/StringBuilder;"), (0, .string 45), (0, u ", domain="), (0, .string 47), (0, u ", target="), (0, .methodref 33 49), (0, .nameAndType 42 50), (0, u "(C)Ljava/lang/StringBuilder;"), (0, .methodref 33 52), (0, .nameAndType 53 54), (0, u "toString"), (0, u "()Ljava/lang/String;"), (0, u "(Ljava/lang/String;Ljava/lang/String;Ljava/lang/String;Ljava/lang/String;)V")] 5

def k2c0 : Code := { maxStack := 3, maxLocals := 5, code := prog_1_method_1_code, exceptionTable := #[], attributes := #[] }
def k2m0 : Method := { name := "<init>", desc := "(Ljava/lang/String;Ljava/lang/String;Ljava/lang/String;Ljava/lang/String;)V", sig := { parameters := [(.object "java/lang/String"), (.object "java/lang/String"), (.object "java/lang/String"), (.object "java/lang/String")], returnType := none }, accessFlags := 0, code := some k2c0 }
def k2c1 : Code := { maxStack := 3, maxLocals := 2, code := prog_1_method_6_code, exceptionTable := #[], attributes := #[] }
def k2m1 : Method := { name := "toString", desc := "()Ljava/lang/String;", sig := { parameters := [], returnType := some (.object "java/lang/String") }, accessFlags := 1, code := some k2c1 }
/-- com/example/upright_harness/uprightharness/Account -/
def k2 : Class := { plain "com/example/upright_harness/uprightharness/Account" (some 0) with
  accessFlags := 49
  interfaces := #[]
  cf := some (fileOf pool2 18 #[] #[{ accessFlags := 0, nameIndex := 5, descriptorIndex := 55, attributes := #[] }, { accessFlags := 1, nameIndex := 53, descriptorIndex := 54, attributes := #[] }] 49 2 #[] #[{ accessFlags := 18, nameIndex := 8, descriptorIndex := 21, attributes := #[] }, { accessFlags := 18, nameIndex := 23, descriptorIndex := 21, attributes := #[] }, { accessFlags := 18, nameIndex := 28, descriptorIndex := 21, attributes := #[] }, { accessFlags := 18, nameIndex := 30, descriptorIndex := 21, attributes := #[] }])
  fields := #[{ name := "user", type := (.object "java/lang/String"), accessFlags := 18, slot := 0, constantValue := 0 }, { name := "password", type := (.object "java/lang/String"), accessFlags := 18, slot := 1, constantValue := 0 }, { name := "domain", type := (.object "java/lang/String"), accessFlags := 18, slot := 2, constantValue := 0 }, { name := "target", type := (.object "java/lang/String"), accessFlags := 18, slot := 3, constantValue := 0 }]
  methods := #[k2m0, k2m1]
  instanceTypes := #[(.object "java/lang/String"), (.object "java/lang/String"), (.object "java/lang/String"), (.object "java/lang/String")]
  staticTypes := #[]
  resolved := Array.replicate 61 none
  statics := none }

def pool3 : Array CpInfo := pool [(1, .class_ 2), (0, u "java/io/Serializable"), (0, .class_ 4), (0, u "java/lang/Object")] 2

/-- java/io/Serializable -/
def k3 : Class := { plain "java/io/Serializable" (some 0) with
  accessFlags := 1537
  interfaces := #[]
  cf := some (fileOf pool3 1 #[] #[] 1537 3 #[] #[])
  fields := #[]
  methods := #[]
  instanceTypes := #[]
  staticTypes := #[]
  resolved := Array.replicate 7 none
  statics := none }

def pool4 : Array CpInfo := pool [(1, .class_ 2), (0, u "java/lang/Comparable"), (0, .class_ 4), (0, u "java/lang/Object")] 7

/-- java/lang/Comparable -/
def k4 : Class := { plain "java/lang/Comparable" (some 0) with
  accessFlags := 1537
  interfaces := #[]
  cf := some (fileOf pool4 1 #[] #[] 1537 3 #[] #[])
  fields := #[]
  methods := #[]
  instanceTypes := #[]
  staticTypes := #[]
  resolved := Array.replicate 12 none
  statics := none }

def pool5 : Array CpInfo := pool [(2, .class_ 4), (1, u "java/lang/CharSequence"), (42, .class_ 48), (0, u "java/lang/CharSequence$1CodePointIterator"), (10, .class_ 60), (0, u "java/lang/CharSequence$1CharIterator"), (5, .class_ 67), (0, u "java/lang/Object")] 63

/-- java/lang/CharSequence -/
def k5 : Class := { plain "java/lang/CharSequence" (some 0) with
  accessFlags := 1537
  interfaces := #[]
  cf := some (fileOf pool5 2 #[.nestMembers #[47, 59]] #[] 1537 66 #[] #[])
  fields := #[]
  methods := #[]
  instanceTypes := #[]
  staticTypes := #[]
  resolved := Array.replicate 131 none
  statics := none }

def pool6 : Array CpInfo := pool [(1, .class_ 2), (0, u "java/lang/constant/Constable"), (0, .class_ 4), (0, u "java/lang/Object")] 6

/-- java/lang/constant/Constable -/
def k6 : Class := { plain "java/lang/constant/Constable" (some 0) with
  accessFlags := 1537
  interfaces := #[]
  cf := some (fileOf pool6 1 #[] #[] 1537 3 #[] #[])
  fields := #[]
  methods := #[]
  instanceTypes := #[]
  staticTypes := #[]
  resolved := Array.replicate 11 none
  statics := none }

def pool7 : Array CpInfo := pool [(1, .class_ 2), (0, u "java/lang/constant/ConstantDesc"), (0, .class_ 4), (0, u "java/lang/Object")] 32

/-- java/lang/constant/ConstantDesc -/
def k7 : Class := { plain "java/lang/constant/ConstantDesc" (some 0) with
  accessFlags := 1537
  interfaces := #[]
  cf := some (fileOf pool7 1 #[] #[] 1537 3 #[] #[])
  fields := #[]
  methods := #[]
  instanceTypes := #[]
  staticTypes := #[]
  resolved := Array.replicate 37 none
  statics := none }

def pool8 : Array CpInfo := pool [(1, .methodref 2 3), (0, .class_ 4), (0, .nameAndType 5 6), (0, u "java/lang/Object"), (0, u "<init>"), (0, u "()V"), (2, .fieldref 10 11), (0, .class_ 12), (0, .nameAndType 13 14), (0, u "java/lang/String"), (0, u "value"), (0, u "[B"), (0, .fieldref 10 16), (0, .nameAndType 17 18), (0, u "coder"), (0, u "B"), (2, u "hash"), (0, u "I"), (2, u "hashIsZero"), (0, u "Z"), (0, .methodref 10 28), (0, .nameAndType 5 29), (0, u "([CIILjava/lang/Void;)V"), (8, .fieldref 10 39), (0, .nameAndType 40 26), (0, u "COMPACT_STRINGS"), (1, .class_ 44), (1, u "java/lang/StringUTF16"), (0, u "compress"), (1, .methodref 42 48), (0, .nameAndType 49 50), (0, u "coderFromArrayLen"), (0, u "([BI)B"), (2, u "toBytes"), (0, .methodref 55 56), (0, .class_ 57), (0, .nameAndType 58 59), (0, u "java/util/Arrays"), (0, u "copyOfRange"), (0, u "([BII)[B"), (47, .class_ 109), (1, u "java/lang/StringLatin1"), (32, u "()Z"), (34, .methodref 42 178), (0, .nameAndType 45 179), (0, u "([CII)[B"), (13, .class_ 195), (1, u "java/lang/System"), (13, .methodref 10 210), (0, .nameAndType 5 211), (0, u "([BB)V"), (0, .methodref 193 213), (0, .nameAndType 214 215), (0, u "arraycopy"), (0, u "(Ljava/lang/Object;ILjava/lang/Object;II)V"), (118, u "()I"), (0, .methodref 10 336), (0, .nameAndType 17 337), (0, u "()B"), (2, u "()[B"), (28, u "(C)Z"), (119, .methodref 10 490), (0, .nameAndType 5 491), (0, u "(Ljava/lang/AbstractStringBuilder;Ljava/lang/Void;)V"), (1, .nameAndType 494 142), (0, u "isLatin1"), (11, .nameAndType 507 334), (0, u "length"), (24, u "getBytes"), (8, .methodref 107 542), (0, .nameAndType 543 544), (0, u "equals"), (0, u "([B[B)Z"), (4, .methodref 550 506), (0, .class_ 551), (0, u "java/lang/AbstractStringBuilder"), (0, .methodref 550 553), (0, .nameAndType 554 340), (0, u "getValue"), (18, u "(Ljava/lang/Object;)Z"), (1, .class_ 576), (0, u "java/lang/CharSequence"), (22, u "CASE_INSENSITIVE_ORDER"), (0, u "Ljava/util/Comparator;"), (181, u "valueOf"), (0, u "(C)Ljava/lang/String;"), (37, u "([BIB)V"), (188, u "([C)V"), (4, .methodref 107 1016), (0, .nameAndType 1017 369), (0, u "canEncode"), (0, .methodref 107 1019), (0, .nameAndType 53 1020), (0, u "(C)[B"), (26, .methodref 550 493), (53, u "serialPersistentFields"), (0, u "[Ljava/io/ObjectStreamField;"), (0, .class_ 1104), (0, u "java/lang/String$CaseInsensitiveComparator"), (1, .class_ 1107), (0, u "java/io/Serializable"), (0, .class_ 1109), (0, u "java/lang/Comparable"), (0, .class_ 1111), (0, u "java/lang/constant/Constable"), (0, .class_ 1113), (0, u "java/lang/constant/ConstantDesc"), (2, u "serialVersionUID"), (0, u "J"), (3, u "REPL"), (0, u "C"), (2, u "LATIN1"), (1, u "UTF16"), (105, u "(Ljava/lang/StringBuilder;)V")] 217

def k8m0 : Method := { name := "<init>", desc := "()V", sig := { parameters := [], returnType := none }, accessFlags := 1, code := none }
def k8c1 : Code := { maxStack := 5, maxLocals := 2, code := jdk_42_method_3_code, exceptionTable := #[], attributes := #[] }
def k8m1 : Method := { name := "<init>", desc := "([C)V", sig := { parameters := [(.array .char)], returnType := none }, accessFlags := 1, code := some k8c1 }
def k8c2 : Code := { maxStack := 3, maxLocals := 2, code := jdk_42_method_53_code, exceptionTable := #[], attributes := #[] }
def k8m2 : Method := { name := "<init>", desc := "(Ljava/lang/StringBuilder;)V", sig := { parameters := [(.object "java/lang/StringBuilder")], returnType := none }, accessFlags := 1, code := some k8c2 }
def k8c3 : Code := { maxStack := 2, maxLocals := 1, code := jdk_42_method_54_code, exceptionTable := #[], attributes := #[] }
def k8m3 : Method := { name := "length", desc := "()I", sig := { parameters := [], returnType := some .int }, accessFlags := 1, code := some k8c3 }
def k8c4 : Code := { maxStack := 2, maxLocals := 3, code := jdk_42_method_66_code, exceptionTable := #[], attributes := #[] }
def k8m4 : Method := { name := "equals", desc := "(Ljava/lang/Object;)Z", sig := { parameters := [(.object "java/lang/Object")], returnType := some .boolean }, accessFlags := 1, code := some k8c4 }
def k8c5 : Code := { maxStack := 4, maxLocals := 1, code := jdk_42_method_139_code, exceptionTable := #[], attributes := #[] }
def k8m5 : Method := { name := "valueOf", desc := "(C)Ljava/lang/String;", sig := { parameters := [.char], returnType := some (.object "java/lang/String") }, accessFlags := 9, code := some k8c5 }
def k8c6 : Code := { maxStack := 5, maxLocals := 4, code := jdk_42_method_147_code, exceptionTable := #[], attributes := #[] }
def k8m6 : Method := { name := "getBytes", desc := "([BIB)V", sig := { parameters := [(.array .byte), .int, .byte], returnType := none }, accessFlags := 0, code := some k8c6 }
def k8c7 : Code := { maxStack := 4, maxLocals := 6, code := jdk_42_method_149_code, exceptionTable := #[], attributes := #[] }
def k8m7 : Method := { name := "<init>", desc := "([CIILjava/lang/Void;)V", sig := { parameters := [(.array .char), .int, .int, (.object "java/lang/Void")], returnType := none }, accessFlags := 2, code := some k8c7 }
def k8c8 : Code := { maxStack := 5, maxLocals := 5, code := jdk_42_method_150_code, exceptionTable := #[], attributes := #[] }
def k8m8 : Method := { name := "<init>", desc := "(Ljava/lang/AbstractStringBuilder;Ljava/lang/Void;)V", sig := { parameters := [(.object "java/lang/AbstractStringBuilder"), (.object "java/lang/Void")], returnType := none }, accessFlags := 0, code := some k8c8 }
def k8c9 : Code := { maxStack := 2, maxLocals := 3, code := jdk_42_method_151_code, exceptionTable := #[], attributes := #[] }
def k8m9 : Method := { name := "<init>", desc := "([BB)V", sig := { parameters := [(.array .byte), .byte], returnType := none }, accessFlags := 0, code := some k8c9 }
def k8c10 : Code := { maxStack := 1, maxLocals := 1, code := jdk_42_method_152_code, exceptionTable := #[], attributes := #[] }
def k8m10 : Method := { name := "coder", desc := "()B", sig := { parameters := [], returnType := some .byte }, accessFlags := 0, code := some k8c10 }
/-- java/lang/String -/
def k8 : Class := { plain "java/lang/String" (some 0) with
  accessFlags := 49
  interfaces := #[3, 4, 5, 6, 7]
  cf := some (fileOf pool8 10 #[.nestMembers #[1103]] #[{ accessFlags := 1, nameIndex := 5, descriptorIndex := 6, attributes := #[] }, { accessFlags := 1, nameIndex := 5, descriptorIndex := 1010, attributes := #[] }, { accessFlags := 1, nameIndex := 5, descriptorIndex := 1233, attributes := #[] }, { accessFlags := 1, nameIndex := 507, descriptorIndex := 334, attributes := #[] }, { accessFlags := 1, nameIndex := 543, descriptorIndex := 573, attributes := #[] }, { accessFlags := 9, nameIndex := 782, descriptorIndex := 783, attributes := #[] }, { accessFlags := 0, nameIndex := 532, descriptorIndex := 821, attributes := #[] }, { accessFlags := 2, nameIndex := 5, descriptorIndex := 29, attributes := #[] }, { accessFlags := 0, nameIndex := 5, descriptorIndex := 491, attributes := #[] }, { accessFlags := 0, nameIndex := 5, descriptorIndex := 211, attributes := #[] }, { accessFlags := 0, nameIndex := 17, descriptorIndex := 337, attributes := #[] }] 49 2 #[1106, 1108, 575, 1110, 1112] #[{ accessFlags := 18, nameIndex := 13, descriptorIndex := 14, attributes := #[] }, { accessFlags := 18, nameIndex := 17, descriptorIndex := 18, attributes := #[] }, { accessFlags := 2, nameIndex := 21, descriptorIndex := 22, attributes := #[] }, { accessFlags := 2, nameIndex := 25, descriptorIndex := 26, attributes := #[] }, { accessFlags := 26, nameIndex := 1116, descriptorIndex := 1117, attributes := #[] }, { accessFlags := 24, nameIndex := 40, descriptorIndex := 26, attributes := #[] }, { accessFlags := 26, nameIndex := 1101, descriptorIndex := 1102, attributes := #[] }, { accessFlags := 26, nameIndex := 1121, descriptorIndex := 1122, attributes := #[] }, { accessFlags := 25, nameIndex := 599, descriptorIndex := 600, attributes := #[] }, { accessFlags := 24, nameIndex := 1125, descriptorIndex := 18, attributes := #[] }, { accessFlags := 24, nameIndex := 1127, descriptorIndex := 18, attributes := #[] }])
  fields := #[{ name := "value", type := (.array .byte), accessFlags := 18, slot := 0, constantValue := 0 }, { name := "coder", type := .byte, accessFlags := 18, slot := 1, constantValue := 0 }, { name := "hash", type := .int, accessFlags := 2, slot := 2, constantValue := 0 }, { name := "hashIsZero", type := .boolean, accessFlags := 2, slot := 3, constantValue := 0 }, { name := "serialVersionUID", type := .long, accessFlags := 26, slot := 0, constantValue := 0 }, { name := "COMPACT_STRINGS", type := .boolean, accessFlags := 24, slot := 1, constantValue := 0 }, { name := "serialPersistentFields", type := (.array (.object "java/io/ObjectStreamField")), accessFlags := 26, slot := 2, constantValue := 0 }, { name := "REPL", type := .char, accessFlags := 26, slot := 3, constantValue := 0 }, { name := "CASE_INSENSITIVE_ORDER", type := (.object "java/util/Comparator"), accessFlags := 25, slot := 4, constantValue := 0 }, { name := "LATIN1", type := .byte, accessFlags := 24, slot := 5, constantValue := 0 }, { name := "UTF16", type := .byte, accessFlags := 24, slot := 6, constantValue := 0 }]
  methods := #[k8m0, k8m1, k8m2, k8m3, k8m4, k8m5, k8m6, k8m7, k8m8, k8m9, k8m10]
  instanceTypes := #[(.array .byte), .byte, .int, .boolean]
  staticTypes := #[.long, .boolean, (.array (.object "java/io/ObjectStreamField")), .char, (.object "java/util/Comparator"), .byte, .byte]
  resolved := Array.replicate 1451 none
  statics := some 0 }

def pool9 : Array CpInfo := pool [(4, .class_ 6), (1, u "java/lang/Object"), (0, u "<init>"), (0, u "()V"), (5, .class_ 16), (1, u "java/lang/StringLatin1"), (73, u "canEncode"), (14, u "(C)Z"), (15, u "$assertionsDisabled"), (0, u "Z"), (98, .class_ 223), (1, u "java/lang/StringLatin1$LinesSpliterator"), (57, u "equals"), (0, u "([B[B)Z"), (97, u "toBytes"), (1, u "(C)[B"), (7, .class_ 391), (0, u "java/lang/StringLatin1$CharsSpliterator")] 3

def k9m0 : Method := { name := "<init>", desc := "()V", sig := { parameters := [], returnType := none }, accessFlags := 0, code := none }
def k9c1 : Code := { maxStack := 2, maxLocals := 1, code := jdk_43_method_3_code, exceptionTable := #[], attributes := #[] }
def k9m1 : Method := { name := "canEncode", desc := "(C)Z", sig := { parameters := [.char], returnType := some .boolean }, accessFlags := 9, code := some k9c1 }
def k9c2 : Code := { maxStack := 3, maxLocals := 3, code := jdk_43_method_13_code, exceptionTable := #[], attributes := #[] }
def k9m2 : Method := { name := "equals", desc := "([B[B)Z", sig := { parameters := [(.array .byte), (.array .byte)], returnType := some .boolean }, accessFlags := 9, code := some k9c2 }
def k9c3 : Code := { maxStack := 4, maxLocals := 1, code := jdk_43_method_46_code, exceptionTable := #[], attributes := #[] }
def k9m3 : Method := { name := "toBytes", desc := "(C)[B", sig := { parameters := [.char], returnType := some (.array .byte) }, accessFlags := 9, code := some k9c3 }
/-- java/lang/StringLatin1 -/
def k9 : Class := { plain "java/lang/StringLatin1" (some 0) with
  accessFlags := 48
  interfaces := #[]
  cf := some (fileOf pool9 14 #[.nestMembers #[390, 221]] #[{ accessFlags := 0, nameIndex := 7, descriptorIndex := 8, attributes := #[] }, { accessFlags := 9, nameIndex := 90, descriptorIndex := 105, attributes := #[] }, { accessFlags := 9, nameIndex := 281, descriptorIndex := 282, attributes := #[] }, { accessFlags := 9, nameIndex := 380, descriptorIndex := 382, attributes := #[] }] 48 4 #[] #[{ accessFlags := 4120, nameIndex := 121, descriptorIndex := 122, attributes := #[] }])
  fields := #[{ name := "$assertionsDisabled", type := .boolean, accessFlags := 4120, slot := 0, constantValue := 0 }]
  methods := #[k9m0, k9m1, k9m2, k9m3]
  instanceTypes := #[]
  staticTypes := #[.boolean]
  resolved := Array.replicate 395 none
  statics := none }

def pool10 : Array CpInfo := pool [(2, .class_ 4), (1, u "java/lang/Object"), (0, u "<init>"), (0, u "()V"), (35, .class_ 44), (1, u "java/util/Objects"), (0, u "requireNonNull"), (48, u "(Ljava/lang/Object;Ljava/lang/String;)Ljava/lang/Object;")] 89

def k10m0 : Method := { name := "<init>", desc := "()V", sig := { parameters := [], returnType := none }, accessFlags := 2, code := none }
def k10c1 : Code := { maxStack := 3, maxLocals := 2, code := jdk_31_method_11_code, exceptionTable := #[], attributes := #[] }
def k10m1 : Method := { name := "requireNonNull", desc := "(Ljava/lang/Object;Ljava/lang/String;)Ljava/lang/Object;", sig := { parameters := [(.object "java/lang/Object"), (.object "java/lang/String")], returnType := some (.object "java/lang/Object") }, accessFlags := 9, code := some k10c1 }
/-- java/util/Objects -/
def k10 : Class := { plain "java/util/Objects" (some 0) with
  accessFlags := 49
  interfaces := #[]
  cf := some (fileOf pool10 42 #[] #[{ accessFlags := 2, nameIndex := 5, descriptorIndex := 6, attributes := #[] }, { accessFlags := 9, nameIndex := 45, descriptorIndex := 94, attributes := #[] }] 49 2 #[] #[])
  fields := #[]
  methods := #[k10m0, k10m1]
  instanceTypes := #[]
  staticTypes := #[]
  resolved := Array.replicate 184 none
  statics := none }

def pool11 : Array CpInfo := pool [(1, .class_ 2), (0, u "java/lang/Appendable"), (0, .class_ 4), (0, u "java/lang/Object")] 9

/-- java/lang/Appendable -/
def k11 : Class := { plain "java/lang/Appendable" (some 0) with
  accessFlags := 1537
  interfaces := #[]
  cf := some (fileOf pool11 1 #[] #[] 1537 3 #[] #[])
  fields := #[]
  methods := #[]
  instanceTypes := #[]
  staticTypes := #[]
  resolved := Array.replicate 14 none
  statics := none }

def pool12 : Array CpInfo := pool [(1, .class_ 2), (0, u "java/lang/String"), (0, .methodref 4 5), (0, .class_ 6), (0, .nameAndType 7 8), (0, u "java/lang/Object"), (0, u "<init>"), (0, u "()V"), (1, .class_ 12), (1, u "java/lang/AbstractStringBuilder"), (0, u "EMPTYVALUE"), (0, u "[B"), (0, .fieldref 10 16), (0, .nameAndType 17 14), (0, u "value"), (0, .fieldref 1 19), (0, .nameAndType 20 21), (0, u "COMPACT_STRINGS"), (0, u "Z"), (0, .fieldref 10 23), (0, .nameAndType 24 25), (0, u "coder"), (0, u "B"), (6, .methodref 1 33), (0, .nameAndType 34 35), (0, u "length"), (0, u "()I"), (2, .integer 2147483631), (0, .integer 2147483647), (0, .methodref 1 41), (0, .nameAndType 24 42), (0, u "()B"), (0, .methodref 10 44), (0, .nameAndType 45 46), (0, u "append"), (0, u "(Ljava/lang/String;)Ljava/lang/AbstractStringBuilder;"), (1, .class_ 49), (0, u "java/lang/CharSequence"), (19, u "(Ljava/lang/String;)V"), (5, u "maybeLatin1"), (3, .fieldref 10 80), (0, .nameAndType 81 82), (0, u "count"), (0, u "I"), (0, .methodref 10 84), (0, .nameAndType 85 86), (0, u "isLatin1"), (0, u "()Z"), (1, .class_ 90), (1, u "java/lang/StringLatin1"), (9, .methodref 10 101), (0, .nameAndType 102 103), (0, u "ensureCapacityInternal"), (0, u "(I)V"), (0, .methodref 10 105), (0, .nameAndType 106 107), (0, u "newCapacity"), (0, u "(I)I"), (0, .methodref 109 110), (0, .class_ 111), (0, .nameAndType 112 113), (0, u "java/util/Arrays"), (0, u "copyOf"), (0, u "([BI)[B"), (0, .methodref 115 116), (0, .class_ 117), (0, .nameAndType 118 119), (0, u "jdk/internal/util/ArraysSupport"), (0, u "newLength"), (0, u "(III)I"), (71, .methodref 88 192), (0, .nameAndType 193 194), (0, u "canEncode"), (0, u "(C)Z"), (13, .methodref 10 209), (0, .nameAndType 210 211), (0, u "putStringAt"), (0, u "(ILjava/lang/String;)V"), (5, u "inflateIfNeededFor"), (2, .nameAndType 221 222), (0, u "getBytes"), (0, u "([BIB)V"), (69, u "(C)Ljava/lang/AbstractStringBuilder;"), (104, .methodref 10 398), (0, .nameAndType 217 69), (0, .methodref 1 220), (3, u "()[B"), (40, .class_ 445), (0, u "java/lang/Appendable"), (106, u "getValue")] 56

def k12m0 : Method := { name := "<init>", desc := "()V", sig := { parameters := [], returnType := none }, accessFlags := 0, code := none }
def k12c1 : Code := { maxStack := 2, maxLocals := 5, code := jdk_68_method_3_code, exceptionTable := #[], attributes := #[] }
def k12m1 : Method := { name := "<init>", desc := "(Ljava/lang/String;)V", sig := { parameters := [(.object "java/lang/String")], returnType := none }, accessFlags := 0, code := some k12c1 }
def k12c2 : Code := { maxStack := 1, maxLocals := 1, code := jdk_68_method_6_code, exceptionTable := #[], attributes := #[] }
def k12m2 : Method := { name := "length", desc := "()I", sig := { parameters := [], returnType := some .int }, accessFlags := 1, code := some k12c2 }
def k12c3 : Code := { maxStack := 4, maxLocals := 3, code := jdk_68_method_9_code, exceptionTable := #[], attributes := #[] }
def k12m3 : Method := { name := "ensureCapacityInternal", desc := "(I)V", sig := { parameters := [.int], returnType := none }, accessFlags := 2, code := some k12c3 }
def k12c4 : Code := { maxStack := 5, maxLocals := 6, code := jdk_68_method_10_code, exceptionTable := #[], attributes := #[] }
def k12m4 : Method := { name := "newCapacity", desc := "(I)I", sig := { parameters := [.int], returnType := some .int }, accessFlags := 2, code := some k12c4 }
def k12c5 : Code := { maxStack := 3, maxLocals := 3, code := jdk_68_method_22_code, exceptionTable := #[], attributes := #[] }
def k12m5 : Method := { name := "append", desc := "(Ljava/lang/String;)Ljava/lang/AbstractStringBuilder;", sig := { parameters := [(.object "java/lang/String")], returnType := some (.object "java/lang/AbstractStringBuilder") }, accessFlags := 1, code := some k12c5 }
def k12c6 : Code := { maxStack := 5, maxLocals := 2, code := jdk_68_method_31_code, exceptionTable := #[], attributes := #[] }
def k12m6 : Method := { name := "append", desc := "(C)Ljava/lang/AbstractStringBuilder;", sig := { parameters := [.char], returnType := some (.object "java/lang/AbstractStringBuilder") }, accessFlags := 1, code := some k12c6 }
def k12c7 : Code := { maxStack := 1, maxLocals := 1, code := jdk_68_method_64_code, exceptionTable := #[], attributes := #[] }
def k12m7 : Method := { name := "getValue", desc := "()[B", sig := { parameters := [], returnType := some (.array .byte) }, accessFlags := 16, code := some k12c7 }
def k12c8 : Code := { maxStack := 1, maxLocals := 1, code := jdk_68_method_68_code, exceptionTable := #[], attributes := #[] }
def k12m8 : Method := { name := "isLatin1", desc := "()Z", sig := { parameters := [], returnType := some .boolean }, accessFlags := 16, code := some k12c8 }
def k12c9 : Code := { maxStack := 2, maxLocals := 2, code := jdk_68_method_71_code, exceptionTable := #[], attributes := #[] }
def k12m9 : Method := { name := "inflateIfNeededFor", desc := "(Ljava/lang/String;)V", sig := { parameters := [(.object "java/lang/String")], returnType := none }, accessFlags := 2, code := some k12c9 }
def k12c10 : Code := { maxStack := 4, maxLocals := 3, code := jdk_68_method_73_code, exceptionTable := #[], attributes := #[] }
def k12m10 : Method := { name := "putStringAt", desc := "(ILjava/lang/String;)V", sig := { parameters := [.int, (.object "java/lang/String")], returnType := none }, accessFlags := 2, code := some k12c10 }
/-- java/lang/AbstractStringBuilder -/
def k12 : Class := { plain "java/lang/AbstractStringBuilder" (some 0) with
  accessFlags := 1056
  interfaces := #[11, 5]
  cf := some (fileOf pool12 10 #[] #[{ accessFlags := 0, nameIndex := 7, descriptorIndex := 8, attributes := #[] }, { accessFlags := 0, nameIndex := 7, descriptorIndex := 69, attributes := #[] }, { accessFlags := 1, nameIndex := 34, descriptorIndex := 35, attributes := #[] }, { accessFlags := 2, nameIndex := 102, descriptorIndex := 103, attributes := #[] }, { accessFlags := 2, nameIndex := 106, descriptorIndex := 107, attributes := #[] }, { accessFlags := 1, nameIndex := 45, descriptorIndex := 46, attributes := #[] }, { accessFlags := 1, nameIndex := 45, descriptorIndex := 292, attributes := #[] }, { accessFlags := 16, nameIndex := 552, descriptorIndex := 403, attributes := #[] }, { accessFlags := 16, nameIndex := 85, descriptorIndex := 86, attributes := #[] }, { accessFlags := 2, nameIndex := 217, descriptorIndex := 69, attributes := #[] }, { accessFlags := 2, nameIndex := 210, descriptorIndex := 211, attributes := #[] }] 1056 4 #[444, 48] #[{ accessFlags := 0, nameIndex := 17, descriptorIndex := 14, attributes := #[] }, { accessFlags := 0, nameIndex := 24, descriptorIndex := 25, attributes := #[] }, { accessFlags := 0, nameIndex := 75, descriptorIndex := 21, attributes := #[] }, { accessFlags := 0, nameIndex := 81, descriptorIndex := 82, attributes := #[] }, { accessFlags := 26, nameIndex := 13, descriptorIndex := 14, attributes := #[] }])
  fields := #[{ name := "value", type := (.array .byte), accessFlags := 0, slot := 0, constantValue := 0 }, { name := "coder", type := .byte, accessFlags := 0, slot := 1, constantValue := 0 }, { name := "maybeLatin1", type := .boolean, accessFlags := 0, slot := 2, constantValue := 0 }, { name := "count", type := .int, accessFlags := 0, slot := 3, constantValue := 0 }, { name := "EMPTYVALUE", type := (.array .byte), accessFlags := 26, slot := 0, constantValue := 0 }]
  methods := #[k12m0, k12m1, k12m2, k12m3, k12m4, k12m5, k12m6, k12m7, k12m8, k12m9, k12m10]
  instanceTypes := #[(.array .byte), .byte, .boolean, .int]
  staticTypes := #[(.array .byte)]
  resolved := Array.replicate 609 none
  statics := none }

def pool13 : Array CpInfo := pool [(2, .class_ 4), (1, u "java/lang/AbstractStringBuilder"), (0, u "<init>"), (1, .methodref 2 8), (0, .nameAndType 5 9), (0, u "(Ljava/lang/String;)V"), (8, .class_ 20), (1, u "java/lang/String"), (2, .methodref 24 25), (0, .class_ 26), (0, .nameAndType 27 28), (0, u "java/lang/StringBuilder"), (0, u "append"), (0, u "(Ljava/lang/String;)Ljava/lang/StringBuilder;"), (0, .methodref 2 30), (0, .nameAndType 27 31), (0, u "(Ljava/lang/String;)Ljava/lang/AbstractStringBuilder;"), (18, .methodref 2 51), (0, .nameAndType 27 52), (0, u "(C)Ljava/lang/AbstractStringBuilder;"), (84, .methodref 18 138), (0, .nameAndType 5 139), (0, u "(Ljava/lang/StringBuilder;)V"), (5, u "()V"), (10, u "()I"), (129, u "(C)Ljava/lang/StringBuilder;"), (56, .methodref 2 344), (0, .nameAndType 345 156), (0, u "length"), (3, .class_ 350), (0, u "java/lang/Appendable"), (0, .class_ 352), (0, u "java/io/Serializable"), (0, .class_ 354), (0, u "java/lang/Comparable"), (0, .class_ 356), (0, u "java/lang/CharSequence"), (0, u "serialVersionUID"), (0, u "J"), (40, u "toString"), (0, u "()Ljava/lang/String;")] 21

def k13m0 : Method := { name := "<init>", desc := "()V", sig := { parameters := [], returnType := none }, accessFlags := 1, code := none }
def k13c1 : Code := { maxStack := 2, maxLocals := 2, code := jdk_67_method_3_code, exceptionTable := #[], attributes := #[] }
def k13m1 : Method := { name := "<init>", desc := "(Ljava/lang/String;)V", sig := { parameters := [(.object "java/lang/String")], returnType := none }, accessFlags := 1, code := some k13c1 }
def k13c2 : Code := { maxStack := 2, maxLocals := 2, code := jdk_67_method_7_code, exceptionTable := #[], attributes := #[] }
def k13m2 : Method := { name := "append", desc := "(Ljava/lang/String;)Ljava/lang/StringBuilder;", sig := { parameters := [(.object "java/lang/String")], returnType := some (.object "java/lang/StringBuilder") }, accessFlags := 1, code := some k13c2 }
def k13c3 : Code := { maxStack := 2, maxLocals := 2, code := jdk_67_method_14_code, exceptionTable := #[], attributes := #[] }
def k13m3 : Method := { name := "append", desc := "(C)Ljava/lang/StringBuilder;", sig := { parameters := [.char], returnType := some (.object "java/lang/StringBuilder") }, accessFlags := 1, code := some k13c3 }
def k13c4 : Code := { maxStack := 3, maxLocals := 1, code := jdk_67_method_42_code, exceptionTable := #[], attributes := #[] }
def k13m4 : Method := { name := "toString", desc := "()Ljava/lang/String;", sig := { parameters := [], returnType := some (.object "java/lang/String") }, accessFlags := 1, code := some k13c4 }
def k13c5 : Code := { maxStack := 2, maxLocals := 2, code := jdk_67_method_80_code, exceptionTable := #[], attributes := #[] }
def k13m5 : Method := { name := "append", desc := "(Ljava/lang/String;)Ljava/lang/AbstractStringBuilder;", sig := { parameters := [(.object "java/lang/String")], returnType := some (.object "java/lang/AbstractStringBuilder") }, accessFlags := 4161, code := some k13c5 }
def k13c6 : Code := { maxStack := 1, maxLocals := 1, code := jdk_67_method_93_code, exceptionTable := #[], attributes := #[] }
def k13m6 : Method := { name := "length", desc := "()I", sig := { parameters := [], returnType := some .int }, accessFlags := 4161, code := some k13c6 }
/-- java/lang/StringBuilder -/
def k13 : Class := { plain "java/lang/StringBuilder" (some 12) with
  accessFlags := 49
  interfaces := #[11, 3, 4, 5]
  cf := some (fileOf pool13 24 #[] #[{ accessFlags := 1, nameIndex := 5, descriptorIndex := 145, attributes := #[] }, { accessFlags := 1, nameIndex := 5, descriptorIndex := 9, attributes := #[] }, { accessFlags := 1, nameIndex := 27, descriptorIndex := 28, attributes := #[] }, { accessFlags := 1, nameIndex := 27, descriptorIndex := 286, attributes := #[] }, { accessFlags := 1, nameIndex := 399, descriptorIndex := 400, attributes := #[] }, { accessFlags := 4161, nameIndex := 27, descriptorIndex := 31, attributes := #[] }, { accessFlags := 4161, nameIndex := 345, descriptorIndex := 156, attributes := #[] }] 49 2 #[349, 351, 353, 355] #[{ accessFlags := 24, nameIndex := 357, descriptorIndex := 358, attributes := #[] }])
  fields := #[{ name := "serialVersionUID", type := .long, accessFlags := 24, slot := 0, constantValue := 0 }]
  methods := #[k13m0, k13m1, k13m2, k13m3, k13m4, k13m5, k13m6]
  instanceTypes := #[(.array .byte), .byte, .boolean, .int]
  staticTypes := #[.long]
  resolved := Array.replicate 422 none
  statics := none }

def pool14 : Array CpInfo := pool [(2, .class_ 4), (1, u "java/lang/Object"), (0, u "<init>"), (0, u "()V"), (1, .class_ 10), (1, u "java/lang/System"), (0, u "allowSecurityManager"), (0, u "I"), (16, u "cons"), (0, u "Ljava/io/Console;"), (77, .class_ 110), (1, u "java/lang/System$CallersHolder"), (43, u "initialErrStream"), (0, u "Ljava/io/PrintStream;"), (19, u "security"), (0, u "Ljava/lang/SecurityManager;"), (31, .class_ 209), (0, u "java/lang/System$1"), (7, u "props"), (0, u "Ljava/util/Properties;"), (2, u "lineSeparator"), (0, u "Ljava/lang/String;"), (96, .class_ 321), (1, u "java/lang/System$LoggerFinder"), (5, .class_ 328), (0, u "java/lang/System$Logger"), (67, u "err"), (2, u "out"), (91, u "notSupportedJnuEncoding"), (15, u "in"), (17, u "initialIn"), (0, u "Ljava/io/InputStream;"), (35, u "bootLayer"), (0, u "Ljava/lang/ModuleLayer;"), (99, .class_ 664), (0, u "java/lang/System$2"), (9, u "NEVER"), (2, u "MAYBE"), (49, u "arraycopy"), (0, u "(Ljava/lang/Object;ILjava/lang/Object;II)V"), (72, .class_ 802), (0, u "java/lang/System$Logger$Level")] 31

def k14m0 : Method := { name := "<init>", desc := "()V", sig := { parameters := [], returnType := none }, accessFlags := 2, code := none }
def k14m1 : Method := { name := "arraycopy", desc := "(Ljava/lang/Object;ILjava/lang/Object;II)V", sig := { parameters := [(.object "java/lang/Object"), .int, (.object "java/lang/Object"), .int, .int], returnType := none }, accessFlags := 265, code := none }
/-- java/lang/System -/
def k14 : Class := { plain "java/lang/System" (some 0) with
  accessFlags := 49
  interfaces := #[]
  cf := some (fileOf pool14 8 #[.nestMembers #[319, 327, 801, 108, 663, 208]] #[{ accessFlags := 2, nameIndex := 5, descriptorIndex := 6, attributes := #[] }, { accessFlags := 265, nameIndex := 727, descriptorIndex := 728, attributes := #[] }] 49 2 #[] #[{ accessFlags := 25, nameIndex := 507, descriptorIndex := 526, attributes := #[] }, { accessFlags := 25, nameIndex := 399, descriptorIndex := 155, attributes := #[] }, { accessFlags := 25, nameIndex := 396, descriptorIndex := 155, attributes := #[] }, { accessFlags := 10, nameIndex := 525, descriptorIndex := 526, attributes := #[] }, { accessFlags := 26, nameIndex := 674, descriptorIndex := 12, attributes := #[] }, { accessFlags := 26, nameIndex := 677, descriptorIndex := 12, attributes := #[] }, { accessFlags := 10, nameIndex := 11, descriptorIndex := 12, attributes := #[] }, { accessFlags := 74, nameIndex := 175, descriptorIndex := 176, attributes := #[] }, { accessFlags := 10, nameIndex := 491, descriptorIndex := 222, attributes := #[] }, { accessFlags := 74, nameIndex := 29, descriptorIndex := 30, attributes := #[] }, { accessFlags := 74, nameIndex := 154, descriptorIndex := 155, attributes := #[] }, { accessFlags := 10, nameIndex := 217, descriptorIndex := 218, attributes := #[] }, { accessFlags := 10, nameIndex := 221, descriptorIndex := 222, attributes := #[] }, { accessFlags := 8, nameIndex := 562, descriptorIndex := 563, attributes := #[] }])
  fields := #[{ name := "in", type := (.object "java/io/InputStream"), accessFlags := 25, slot := 0, constantValue := 0 }, { name := "out", type := (.object "java/io/PrintStream"), accessFlags := 25, slot := 1, constantValue := 0 }, { name := "err", type := (.object "java/io/PrintStream"), accessFlags := 25, slot := 2, constantValue := 0 }, { name := "initialIn", type := (.object "java/io/InputStream"), accessFlags := 10, slot := 3, constantValue := 0 }, { name := "NEVER", type := .int, accessFlags := 26, slot := 4, constantValue := 0 }, { name := "MAYBE", type := .int, accessFlags := 26, slot := 5, constantValue := 0 }, { name := "allowSecurityManager", type := .int, accessFlags := 10, slot := 6, constantValue := 0 }, { name := "security", type := (.object "java/lang/SecurityManager"), accessFlags := 74, slot := 7, constantValue := 0 }, { name := "notSupportedJnuEncoding", type := (.object "java/lang/String"), accessFlags := 10, slot := 8, constantValue := 0 }, { name := "cons", type := (.object "java/io/Console"), accessFlags := 74, slot := 9, constantValue := 0 }, { name := "initialErrStream", type := (.object "java/io/PrintStream"), accessFlags := 74, slot := 10, constantValue := 0 }, { name := "props", type := (.object "java/util/Properties"), accessFlags := 10, slot := 11, constantValue := 0 }, { name := "lineSeparator", type := (.object "java/lang/String"), accessFlags := 10, slot := 12, constantValue := 0 }, { name := "bootLayer", type := (.object "java/lang/ModuleLayer"), accessFlags := 8, slot := 13, constantValue := 0 }]
  methods := #[k14m0, k14m1]
  instanceTypes := #[]
  staticTypes := #[(.object "java/io/InputStream"), (.object "java/io/PrintStream"), (.object "java/io/PrintStream"), (.object "java/io/InputStream"), .int, .int, .int, (.object "java/lang/SecurityManager"), (.object "java/lang/String"), (.object "java/io/Console"), (.object "java/io/PrintStream"), (.object "java/util/Properties"), (.object "java/lang/String"), (.object "java/lang/ModuleLayer")]
  resolved := Array.replicate 834 none
  statics := none }

def pool15 : Array CpInfo := pool [(2, .class_ 4), (1, u "java/lang/Object"), (0, u "<init>"), (0, u "()V"), (7, .class_ 16), (1, u "java/util/Arrays"), (57, .class_ 76), (1, u "java/util/Arrays$NaturalOrder"), (36, .class_ 115), (1, u "java/util/Arrays$LegacyMergeSort"), (1, u "Z"), (21, u "copyOfRange"), (10, .methodref 151 152), (0, .class_ 153), (0, .nameAndType 154 155), (0, u "java/lang/System"), (0, u "arraycopy"), (0, u "(Ljava/lang/Object;ILjava/lang/Object;II)V"), (146, u "copyOf"), (1, .methodref 305 306), (0, .class_ 307), (0, .nameAndType 308 309), (0, u "java/lang/Math"), (0, u "min"), (0, u "(II)I"), (29, .methodref 14 340), (0, .nameAndType 341 342), (0, u "copyOfRangeByte"), (0, u "([BII)[B"), (0, .methodref 14 344), (0, .nameAndType 345 346), (0, u "checkLength"), (0, u "(II)V"), (28, .class_ 376), (0, u "java/util/Arrays$ArrayList"), (68, u "$assertionsDisabled"), (269, u "MIN_ARRAY_SORT_GRAN"), (0, u "I"), (2, u "INSERTIONSORT_THRESHOLD"), (149, u "([BI)[B"), (105, .class_ 976), (0, u "java/util/Arrays$ArrayItr")] 52

def k15m0 : Method := { name := "<init>", desc := "()V", sig := { parameters := [], returnType := none }, accessFlags := 2, code := none }
def k15c1 : Code := { maxStack := 6, maxLocals := 3, code := jdk_65_method_121_code, exceptionTable := #[], attributes := #[] }
def k15m1 : Method := { name := "copyOf", desc := "([BI)[B", sig := { parameters := [(.array .byte), .int], returnType := some (.array .byte) }, accessFlags := 9, code := some k15c1 }
def k15c2 : Code := { maxStack := 4, maxLocals := 2, code := jdk_65_method_131_code, exceptionTable := #[], attributes := #[] }
def k15m2 : Method := { name := "checkLength", desc := "(II)V", sig := { parameters := [.int, .int], returnType := none }, accessFlags := 10, code := some k15c2 }
def k15c3 : Code := { maxStack := 3, maxLocals := 3, code := jdk_65_method_132_code, exceptionTable := #[], attributes := #[] }
def k15m3 : Method := { name := "copyOfRange", desc := "([BII)[B", sig := { parameters := [(.array .byte), .int, .int], returnType := some (.array .byte) }, accessFlags := 9, code := some k15c3 }
def k15c4 : Code := { maxStack := 6, maxLocals := 5, code := jdk_65_method_133_code, exceptionTable := #[], attributes := #[] }
def k15m4 : Method := { name := "copyOfRangeByte", desc := "([BII)[B", sig := { parameters := [(.array .byte), .int, .int], returnType := some (.array .byte) }, accessFlags := 10, code := some k15c4 }
/-- java/util/Arrays -/
def k15 : Class := { plain "java/util/Arrays" (some 0) with
  accessFlags := 49
  interfaces := #[]
  cf := some (fileOf pool15 14 #[.nestMembers #[975, 375, 113, 74]] #[{ accessFlags := 2, nameIndex := 5, descriptorIndex := 6, attributes := #[] }, { accessFlags := 9, nameIndex := 302, descriptorIndex := 869, attributes := #[] }, { accessFlags := 10, nameIndex := 345, descriptorIndex := 346, attributes := #[] }, { accessFlags := 9, nameIndex := 139, descriptorIndex := 342, attributes := #[] }, { accessFlags := 10, nameIndex := 341, descriptorIndex := 342, attributes := #[] }] 49 2 #[] #[{ accessFlags := 26, nameIndex := 715, descriptorIndex := 716, attributes := #[] }, { accessFlags := 26, nameIndex := 719, descriptorIndex := 716, attributes := #[] }, { accessFlags := 4120, nameIndex := 445, descriptorIndex := 117, attributes := #[] }])
  fields := #[{ name := "MIN_ARRAY_SORT_GRAN", type := .int, accessFlags := 26, slot := 0, constantValue := 0 }, { name := "INSERTIONSORT_THRESHOLD", type := .int, accessFlags := 26, slot := 1, constantValue := 0 }, { name := "$assertionsDisabled", type := .boolean, accessFlags := 4120, slot := 2, constantValue := 0 }]
  methods := #[k15m0, k15m1, k15m2, k15m3, k15m4]
  instanceTypes := #[]
  staticTypes := #[.int, .int, .boolean]
  resolved := Array.replicate 1029 none
  statics := none }

def pool16 : Array CpInfo := pool [(1, .class_ 2), (0, u "java/lang/Math"), (1, .class_ 6), (1, u "java/lang/Object"), (0, u "<init>"), (0, u "()V"), (89, .class_ 100), (1, u "java/lang/Math$RandomNumberGeneratorHolder"), (71, u "negativeZeroFloatBits"), (0, u "J"), (2, u "negativeZeroDoubleBits"), (21, u "max"), (2, u "min"), (43, u "$assertionsDisabled"), (0, u "Z"), (88, u "(II)I"), (2, u "twoToTheDoubleScaleDown"), (0, u "D"), (4, u "twoToTheDoubleScaleUp"), (9, u "E"), (3, u "PI"), (2, u "TAU"), (2, u "DEGREES_TO_RADIANS"), (0, u "RADIANS_TO_DEGREES")] 94

def k16m0 : Method := { name := "<init>", desc := "()V", sig := { parameters := [], returnType := none }, accessFlags := 2, code := none }
def k16c1 : Code := { maxStack := 2, maxLocals := 2, code := jdk_29_method_65_code, exceptionTable := #[], attributes := #[] }
def k16m1 : Method := { name := "max", desc := "(II)I", sig := { parameters := [.int, .int], returnType := some .int }, accessFlags := 9, code := some k16c1 }
def k16c2 : Code := { maxStack := 2, maxLocals := 2, code := jdk_29_method_69_code, exceptionTable := #[], attributes := #[] }
def k16m2 : Method := { name := "min", desc := "(II)I", sig := { parameters := [.int, .int], returnType := some .int }, accessFlags := 9, code := some k16c2 }
/-- java/lang/Math -/
def k16 : Class := { plain "java/lang/Math" (some 0) with
  accessFlags := 49
  interfaces := #[]
  cf := some (fileOf pool16 1 #[.nestMembers #[98]] #[{ accessFlags := 2, nameIndex := 7, descriptorIndex := 8, attributes := #[] }, { accessFlags := 9, nameIndex := 198, descriptorIndex := 335, attributes := #[] }, { accessFlags := 9, nameIndex := 201, descriptorIndex := 335, attributes := #[] }] 49 4 #[] #[{ accessFlags := 25, nameIndex := 354, descriptorIndex := 339, attributes := #[] }, { accessFlags := 25, nameIndex := 358, descriptorIndex := 339, attributes := #[] }, { accessFlags := 25, nameIndex := 361, descriptorIndex := 339, attributes := #[] }, { accessFlags := 26, nameIndex := 364, descriptorIndex := 339, attributes := #[] }, { accessFlags := 26, nameIndex := 365, descriptorIndex := 339, attributes := #[] }, { accessFlags := 26, nameIndex := 172, descriptorIndex := 173, attributes := #[] }, { accessFlags := 26, nameIndex := 176, descriptorIndex := 173, attributes := #[] }, { accessFlags := 8, nameIndex := 344, descriptorIndex := 339, attributes := #[] }, { accessFlags := 8, nameIndex := 338, descriptorIndex := 339, attributes := #[] }, { accessFlags := 4120, nameIndex := 245, descriptorIndex := 246, attributes := #[] }])
  fields := #[{ name := "E", type := .double, accessFlags := 25, slot := 0, constantValue := 0 }, { name := "PI", type := .double, accessFlags := 25, slot := 1, constantValue := 0 }, { name := "TAU", type := .double, accessFlags := 25, slot := 2, constantValue := 0 }, { name := "DEGREES_TO_RADIANS", type := .double, accessFlags := 26, slot := 3, constantValue := 0 }, { name := "RADIANS_TO_DEGREES", type := .double, accessFlags := 26, slot := 4, constantValue := 0 }, { name := "negativeZeroFloatBits", type := .long, accessFlags := 26, slot := 5, constantValue := 0 }, { name := "negativeZeroDoubleBits", type := .long, accessFlags := 26, slot := 6, constantValue := 0 }, { name := "twoToTheDoubleScaleUp", type := .double, accessFlags := 8, slot := 7, constantValue := 0 }, { name := "twoToTheDoubleScaleDown", type := .double, accessFlags := 8, slot := 8, constantValue := 0 }, { name := "$assertionsDisabled", type := .boolean, accessFlags := 4120, slot := 9, constantValue := 0 }]
  methods := #[k16m0, k16m1, k16m2]
  instanceTypes := #[]
  staticTypes := #[.double, .double, .double, .double, .double, .long, .long, .double, .double, .boolean]
  resolved := Array.replicate 460 none
  statics := none }

def pool17 : Array CpInfo := pool [(6, .class_ 8), (1, u "java/lang/Object"), (0, u "<init>"), (0, u "()V"), (1, .class_ 14), (1, u "java/lang/StringUTF16"), (31, u "$assertionsDisabled"), (0, u "Z"), (13, u "HI_BYTE_SHIFT"), (0, u "I"), (2, u "LO_BYTE_SHIFT"), (49, .methodref 12 116), (0, .nameAndType 117 118), (0, u "compress"), (0, u "([CI[BII)I"), (3, u "([CII)[B"), (138, u "coderFromArrayLen"), (0, u "([BI)B"), (106, .class_ 371), (1, u "java/lang/StringUTF16$LinesSpliterator"), (58, u "MAX_LENGTH"), (196, .class_ 628), (0, u "java/lang/StringUTF16$CodePointsSpliterator"), (0, .class_ 630), (0, u "java/lang/StringUTF16$CharsSpliterator")] 4

def k17m0 : Method := { name := "<init>", desc := "()V", sig := { parameters := [], returnType := none }, accessFlags := 0, code := none }
def k17c1 : Code := { maxStack := 2, maxLocals := 2, code := jdk_52_method_15_code, exceptionTable := #[], attributes := #[] }
def k17m1 : Method := { name := "coderFromArrayLen", desc := "([BI)B", sig := { parameters := [(.array .byte), .int], returnType := some .byte }, accessFlags := 8, code := some k17c1 }
def k17c2 : Code := { maxStack := 5, maxLocals := 6, code := jdk_52_method_16_code, exceptionTable := #[], attributes := #[] }
def k17m2 : Method := { name := "compress", desc := "([CII)[B", sig := { parameters := [(.array .char), .int, .int], returnType := some (.array .byte) }, accessFlags := 9, code := some k17c2 }
def k17c3 : Code := { maxStack := 3, maxLocals := 7, code := jdk_52_method_21_code, exceptionTable := #[], attributes := #[] }
def k17m3 : Method := { name := "compress", desc := "([CI[BII)I", sig := { parameters := [(.array .char), .int, (.array .byte), .int, .int], returnType := some .int }, accessFlags := 9, code := some k17c3 }
/-- java/lang/StringUTF16 -/
def k17 : Class := { plain "java/lang/StringUTF16" (some 0) with
  accessFlags := 48
  interfaces := #[]
  cf := some (fileOf pool17 12 #[.nestMembers #[627, 629, 369]] #[{ accessFlags := 0, nameIndex := 9, descriptorIndex := 10, attributes := #[] }, { accessFlags := 8, nameIndex := 261, descriptorIndex := 262, attributes := #[] }, { accessFlags := 9, nameIndex := 117, descriptorIndex := 122, attributes := #[] }, { accessFlags := 9, nameIndex := 117, descriptorIndex := 118, attributes := #[] }] 48 6 #[] #[{ accessFlags := 26, nameIndex := 61, descriptorIndex := 62, attributes := #[] }, { accessFlags := 26, nameIndex := 65, descriptorIndex := 62, attributes := #[] }, { accessFlags := 24, nameIndex := 430, descriptorIndex := 62, attributes := #[] }, { accessFlags := 4120, nameIndex := 46, descriptorIndex := 47, attributes := #[] }])
  fields := #[{ name := "HI_BYTE_SHIFT", type := .int, accessFlags := 26, slot := 0, constantValue := 0 }, { name := "LO_BYTE_SHIFT", type := .int, accessFlags := 26, slot := 1, constantValue := 0 }, { name := "MAX_LENGTH", type := .int, accessFlags := 24, slot := 2, constantValue := 0 }, { name := "$assertionsDisabled", type := .boolean, accessFlags := 4120, slot := 3, constantValue := 0 }]
  methods := #[k17m0, k17m1, k17m2, k17m3]
  instanceTypes := #[]
  staticTypes := #[.int, .int, .int, .boolean]
  resolved := Array.replicate 635 none
  statics := none }

def pool18 : Array CpInfo := pool [(9, u "<init>"), (6, .class_ 18), (1, u "java/lang/Object"), (0, u "()V"), (1, .class_ 23), (1, u "jdk/internal/util/ArraysSupport"), (0, u "LOG2_ARRAY_LONG_INDEX_SCALE"), (0, u "I"), (2, u "U"), (0, u "Ljdk/internal/misc/Unsafe;"), (8, u "BIG_ENDIAN"), (0, u "Z"), (8, u "LOG2_BYTE_BIT_SIZE"), (4, u "LOG2_ARRAY_INT_INDEX_SCALE"), (54, u "JLA"), (0, u "Ljdk/internal/access/JavaLangAccess;"), (11, u "LOG2_ARRAY_BOOLEAN_INDEX_SCALE"), (9, u "LOG2_ARRAY_BYTE_INDEX_SCALE"), (5, u "LOG2_ARRAY_CHAR_INDEX_SCALE"), (5, u "LOG2_ARRAY_SHORT_INDEX_SCALE"), (18, u "LOG2_ARRAY_FLOAT_INDEX_SCALE"), (24, u "LOG2_ARRAY_DOUBLE_INDEX_SCALE"), (6, .methodref 195 196), (0, .class_ 197), (0, .nameAndType 198 199), (0, u "java/lang/Math"), (0, u "max"), (0, u "(II)I"), (0, .integer 2147483639), (76, u "T_BOOLEAN"), (2, u "T_CHAR"), (1, u "T_FLOAT"), (1, u "T_DOUBLE"), (1, u "T_BYTE"), (1, u "T_SHORT"), (1, u "T_INT"), (1, u "T_LONG"), (1, u "SOFT_MAX_ARRAY_LENGTH"), (56, u "newLength"), (0, u "(III)I")] 25

def k18m0 : Method := { name := "<init>", desc := "()V", sig := { parameters := [], returnType := none }, accessFlags := 2, code := none }
def k18c1 : Code := { maxStack := 3, maxLocals := 4, code := jdk_48_method_27_code, exceptionTable := #[], attributes := #[] }
def k18m1 : Method := { name := "newLength", desc := "(III)I", sig := { parameters := [.int, .int, .int], returnType := some .int }, accessFlags := 9, code := some k18c1 }
/-- jdk/internal/util/ArraysSupport -/
def k18 : Class := { plain "jdk/internal/util/ArraysSupport" (some 0) with
  accessFlags := 33
  interfaces := #[]
  cf := some (fileOf pool18 21 #[] #[{ accessFlags := 2, nameIndex := 9, descriptorIndex := 19, attributes := #[] }, { accessFlags := 9, nameIndex := 351, descriptorIndex := 352, attributes := #[] }] 33 16 #[] #[{ accessFlags := 24, nameIndex := 28, descriptorIndex := 29, attributes := #[] }, { accessFlags := 26, nameIndex := 38, descriptorIndex := 39, attributes := #[] }, { accessFlags := 25, nameIndex := 121, descriptorIndex := 25, attributes := #[] }, { accessFlags := 25, nameIndex := 131, descriptorIndex := 25, attributes := #[] }, { accessFlags := 25, nameIndex := 137, descriptorIndex := 25, attributes := #[] }, { accessFlags := 25, nameIndex := 143, descriptorIndex := 25, attributes := #[] }, { accessFlags := 25, nameIndex := 53, descriptorIndex := 25, attributes := #[] }, { accessFlags := 25, nameIndex := 24, descriptorIndex := 25, attributes := #[] }, { accessFlags := 25, nameIndex := 162, descriptorIndex := 25, attributes := #[] }, { accessFlags := 25, nameIndex := 187, descriptorIndex := 25, attributes := #[] }, { accessFlags := 26, nameIndex := 48, descriptorIndex := 25, attributes := #[] }, { accessFlags := 25, nameIndex := 277, descriptorIndex := 25, attributes := #[] }, { accessFlags := 25, nameIndex := 280, descriptorIndex := 25, attributes := #[] }, { accessFlags := 25, nameIndex := 282, descriptorIndex := 25, attributes := #[] }, { accessFlags := 25, nameIndex := 284, descriptorIndex := 25, attributes := #[] }, { accessFlags := 25, nameIndex := 286, descriptorIndex := 25, attributes := #[] }, { accessFlags := 25, nameIndex := 288, descriptorIndex := 25, attributes := #[] }, { accessFlags := 25, nameIndex := 290, descriptorIndex := 25, attributes := #[] }, { accessFlags := 25, nameIndex := 292, descriptorIndex := 25, attributes := #[] }, { accessFlags := 26, nameIndex := 108, descriptorIndex := 109, attributes := #[] }, { accessFlags := 25, nameIndex := 294, descriptorIndex := 25, attributes := #[] }])
  fields := #[{ name := "U", type := (.object "jdk/internal/misc/Unsafe"), accessFlags := 24, slot := 0, constantValue := 0 }, { name := "BIG_ENDIAN", type := .boolean, accessFlags := 26, slot := 1, constantValue := 0 }, { name := "LOG2_ARRAY_BOOLEAN_INDEX_SCALE", type := .int, accessFlags := 25, slot := 2, constantValue := 0 }, { name := "LOG2_ARRAY_BYTE_INDEX_SCALE", type := .int, accessFlags := 25, slot := 3, constantValue := 0 }, { name := "LOG2_ARRAY_CHAR_INDEX_SCALE", type := .int, accessFlags := 25, slot := 4, constantValue := 0 }, { name := "LOG2_ARRAY_SHORT_INDEX_SCALE", type := .int, accessFlags := 25, slot := 5, constantValue := 0 }, { name := "LOG2_ARRAY_INT_INDEX_SCALE", type := .int, accessFlags := 25, slot := 6, constantValue := 0 }, { name := "LOG2_ARRAY_LONG_INDEX_SCALE", type := .int, accessFlags := 25, slot := 7, constantValue := 0 }, { name := "LOG2_ARRAY_FLOAT_INDEX_SCALE", type := .int, accessFlags := 25, slot := 8, constantValue := 0 }, { name := "LOG2_ARRAY_DOUBLE_INDEX_SCALE", type := .int, accessFlags := 25, slot := 9, constantValue := 0 }, { name := "LOG2_BYTE_BIT_SIZE", type := .int, accessFlags := 26, slot := 10, constantValue := 0 }, { name := "T_BOOLEAN", type := .int, accessFlags := 25, slot := 11, constantValue := 0 }, { name := "T_CHAR", type := .int, accessFlags := 25, slot := 12, constantValue := 0 }, { name := "T_FLOAT", type := .int, accessFlags := 25, slot := 13, constantValue := 0 }, { name := "T_DOUBLE", type := .int, accessFlags := 25, slot := 14, constantValue := 0 }, { name := "T_BYTE", type := .int, accessFlags := 25, slot := 15, constantValue := 0 }, { name := "T_SHORT", type := .int, accessFlags := 25, slot := 16, constantValue := 0 }, { name := "T_INT", type := .int, accessFlags := 25, slot := 17, constantValue := 0 }, { name := "T_LONG", type := .int, accessFlags := 25, slot := 18, constantValue := 0 }, { name := "JLA", type := (.object "jdk/internal/access/JavaLangAccess"), accessFlags := 26, slot := 19, constantValue := 0 }, { name := "SOFT_MAX_ARRAY_LENGTH", type := .int, accessFlags := 25, slot := 20, constantValue := 0 }]
  methods := #[k18m0, k18m1]
  instanceTypes := #[]
  staticTypes := #[(.object "jdk/internal/misc/Unsafe"), .boolean, .int, .int, .int, .int, .int, .int, .int, .int, .int, .int, .int, .int, .int, .int, .int, .int, .int, (.object "jdk/internal/access/JavaLangAccess"), .int]
  resolved := Array.replicate 378 none
  statics := none }

def pool19 : Array CpInfo := pool [(2, .class_ 4), (1, u "java/lang/Object"), (0, u "<init>"), (0, u "()V"), (17, .class_ 26), (1, u "jdk/internal/util/Preconditions"), (28, .class_ 56), (0, u "jdk/internal/util/Preconditions$4"), (57, .class_ 115), (0, u "jdk/internal/util/Preconditions$1"), (7, u "SIOOBE_FORMATTER"), (0, u "Ljava/util/function/BiFunction;"), (0, .class_ 126), (0, u "jdk/internal/util/Preconditions$2"), (3, u "AIOOBE_FORMATTER"), (0, .class_ 132), (0, u "jdk/internal/util/Preconditions$3"), (3, u "IOOBE_FORMATTER")] 57

def k19m0 : Method := { name := "<init>", desc := "()V", sig := { parameters := [], returnType := none }, accessFlags := 1, code := none }
/-- jdk/internal/util/Preconditions -/
def k19 : Class := { plain "jdk/internal/util/Preconditions" (some 0) with
  accessFlags := 33
  interfaces := #[]
  cf := some (fileOf pool19 24 #[.nestMembers #[55, 131, 125, 114]] #[{ accessFlags := 1, nameIndex := 5, descriptorIndex := 6, attributes := #[] }] 33 2 #[] #[{ accessFlags := 25, nameIndex := 123, descriptorIndex := 124, attributes := #[] }, { accessFlags := 25, nameIndex := 130, descriptorIndex := 124, attributes := #[] }, { accessFlags := 25, nameIndex := 136, descriptorIndex := 124, attributes := #[] }])
  fields := #[{ name := "SIOOBE_FORMATTER", type := (.object "java/util/function/BiFunction"), accessFlags := 25, slot := 0, constantValue := 0 }, { name := "AIOOBE_FORMATTER", type := (.object "java/util/function/BiFunction"), accessFlags := 25, slot := 1, constantValue := 0 }, { name := "IOOBE_FORMATTER", type := (.object "java/util/function/BiFunction"), accessFlags := 25, slot := 2, constantValue := 0 }]
  methods := #[k19m0]
  instanceTypes := #[]
  staticTypes := #[(.object "java/util/function/BiFunction"), (.object "java/util/function/BiFunction"), (.object "java/util/function/BiFunction")]
  resolved := Array.replicate 194 none
  statics := some 1 }

def pool20 : Array CpInfo := pool [(1, u "java/lang/Cloneable"), (0, .class_ 1), (0, u "java/lang/Object"), (0, .class_ 3)] 3

/-- java/lang/Cloneable -/
def k20 : Class := { plain "java/lang/Cloneable" (some 0) with
  accessFlags := 1537
  interfaces := #[]
  cf := some (fileOf pool20 2 #[] #[] 1537 4 #[] #[])
  fields := #[]
  methods := #[]
  instanceTypes := #[]
  staticTypes := #[]
  resolved := Array.replicate 8 none
  statics := none }

/-- the primitive byte -/
def k21 : Class := { plain "byte" none with kind := .primitive 'B', accessFlags := 0x411 }
/-- [B -/
def k22 : Class := { plain "[B" (some 0) with kind := .array 21 .byte, interfaces := #[20, 3], accessFlags := 1041 }

/-- the primitive char -/
def k23 : Class := { plain "char" none with kind := .primitive 'C', accessFlags := 0x411 }
/-- [C -/
def k24 : Class := { plain "[C" (some 0) with kind := .array 23 .char, interfaces := #[20, 3], accessFlags := 1041 }

/-- the primitive int -/
def k25 : Class := { plain "int" none with kind := .primitive 'I', accessFlags := 0x411 }
/-- [I -/
def k26 : Class := { plain "[I" (some 0) with kind := .array 25 .int, interfaces := #[20, 3], accessFlags := 1041 }

def heap : Heap := #[{ cls := 8, slots := #[.long 0, .int 1, .null, .int 0, .null, .int 0, .int 0], vm := .statics 8 },
  { cls := 19, slots := #[.null, .null, .null], vm := .statics 19 }]
def classes : Array Class := #[k0, k1, k2, k3, k4, k5, k6, k7, k8, k9, k10, k11, k12, k13, k14, k15, k16, k17, k18, k19, k20, k21, k22, k23, k24, k25, k26]
def interned : List (Array UInt16 × Addr) := []
def slotsUsed : Nat := 10
def theMethod : MethodId := ⟨1, 1⟩
def args0 : Array Value := #[.int 65, .int 66, .int 67, .int 68, .int 2]
def aboutOver (below : List Frame) : State where
  vm := { classes := classes, interned := interned.toArray }
  heap := heap
  slotsUsed := slotsUsed
  threads := #[{ frames := .invoking theMethod args0 :: below }]
def below0 : List Frame := [.native { method := ⟨0, 0⟩, args := #[] }]
def about1 : State := aboutOver below0
def p0 : Program := .bare "" "" ""
def e0 : Env := launch0.env 0 0 0
theorem w_frames : about1.frames = Frame.invoking theMethod args0 :: below0 := rfl
set_option maxRecDepth 65536 in
theorem w_args : argsFit about1.vm theMethod args0 = true := by decide +kernel
set_option maxRecDepth 65536 in
theorem w_heap : heapFits about1 = true := by decide +kernel
set_option maxRecDepth 65536 in
theorem w_runnable : about1.curStatus? = some .runnable := by decide +kernel
set_option maxRecDepth 65536 in
theorem w_alone : about1.alone = true := by decide +kernel
set_option maxRecDepth 65536 in
theorem w_named : about1.methodNamed? x = some theMethod := by decide +kernel
set_option maxRecDepth 65536 in
theorem w_hears : about1.hears theMethod below0 = true := by decide +kernel
set_option maxRecDepth 65536 in
theorem w_ripe : about1.ripe theMethod args0 below0 = true := by decide +kernel
theorem w_running : about1.status = .running := rfl
set_option maxRecDepth 65536 in
theorem w_room : about1.hasRoom e0.platform room_1 = true :=
  launch0.hasRoom_least _ room_1 (by decide +kernel) (by decide +kernel) (by decide +kernel) (by decide +kernel) (by decide +kernel) (by decide +kernel)
theorem allAtoms_all (ts : List Jvm.Cond) (a : Array Jvm.Value) (st : Jvm.State) : (allAtoms ts).before a st = ts.all (fun c => c.before a st) := by
  induction ts with
  | nil => rfl
  | cons c t ih =>
    show (Jvm.Cond.and c (allAtoms t)).before a st = _
    rw [Jvm.Cond.before_and, ih, List.all_cons]
def words1 : List Jvm.Cond := Jvm.Cond.code x code maxLocals ret :: tables_1
/-- a 'code' word, met by the world's own term for the bytes: nothing is compared byte by byte -/
theorem code_word {y : MethodName} {bytes : ByteArray} {mx : Nat} {rt : Option FieldType} {a : Array Value} {s : State} {m : MethodId} {meth : Method} {c : Code} (h1 : s.methodNamed? y = some m) (h2 : s.vm.method? m = some meth) (h3 : meth.code = some c) (h4 : c.code = bytes)
    (h5 : (c.maxLocals == mx && c.exceptionTable.isEmpty && decide (c.maxStack ≤ mostOperands) && decide (meth.sig.returnType = rt) && !meth.locks && decide (parseMethodDescriptor y.desc = some meth.sig)) = true) : (Jvm.Cond.code y bytes mx rt).before a s = true := by
  simp only [Bool.and_eq_true, beq_iff_eq, Bool.not_eq_true', decide_eq_true_eq] at h5
  obtain ⟨⟨⟨⟨⟨g1, g2⟩, g3⟩, g4⟩, g5⟩, g6⟩ := h5
  simp [Cond.before, Cond.holds, Cond.value, h1, h2, h3, h4, g1, g2, g3, g4, g5, g6]
def isCode : Jvm.Cond → Bool
  | .code _ _ _ _ => true
  | _ => false
theorem all_split {L : List Jvm.Cond} {P : Jvm.Cond → Bool} (h1 : L.all (fun c => isCode c || P c) = true) (h2 : ∀ c ∈ L.filter isCode, P c = true) : L.all P = true := by
  refine List.all_eq_true.mpr fun c hc => ?_
  have h := List.all_eq_true.mp h1 c hc
  rcases Bool.eq_false_or_eq_true (isCode c) with hi | hi
  · exact h2 c (List.mem_filter.mpr ⟨hc, hi⟩)
  · simpa [hi] using h
set_option maxRecDepth 65536 in
theorem w_c0 : (Jvm.Cond.code x code maxLocals ret).before args0 about1 = true := code_word (m := ⟨1, 1⟩) (meth := k1m1) (c := k1c1) (by decide +kernel) rfl rfl rfl (by decide +kernel)
set_option maxRecDepth 65536 in
theorem w_c1 : (Jvm.Cond.code ({ cls := "java/lang/String", name := "valueOf", desc := "(C)Ljava/lang/String;" } : Jvm.MethodName) jdk_42_method_139_code (1 : Nat) (Option.some (Jvm.ClassFile.FieldType.object "java/lang/String"))).before args0 about1 = true := code_word (m := ⟨8, 5⟩) (meth := k8m5) (c := k8c5) (by decide +kernel) rfl rfl rfl (by decide +kernel)
set_option maxRecDepth 65536 in
theorem w_c2 : (Jvm.Cond.code ({ cls := "java/lang/StringLatin1", name := "canEncode", desc := "(C)Z" } : Jvm.MethodName) jdk_43_method_3_code (1 : Nat) (Option.some Jvm.ClassFile.FieldType.boolean)).before args0 about1 = true := code_word (m := ⟨9, 1⟩) (meth := k9m1) (c := k9c1) (by decide +kernel) rfl rfl rfl (by decide +kernel)
set_option maxRecDepth 65536 in
theorem w_c3 : (Jvm.Cond.code ({ cls := "java/lang/StringLatin1", name := "toBytes", desc := "(C)[B" } : Jvm.MethodName) jdk_43_method_46_code (1 : Nat) (Option.some (Jvm.ClassFile.FieldType.array Jvm.ClassFile.FieldType.byte))).before args0 about1 = true := code_word (m := ⟨9, 3⟩) (meth := k9m3) (c := k9c3) (by decide +kernel) rfl rfl rfl (by decide +kernel)
set_option maxRecDepth 65536 in
theorem w_c4 : (Jvm.Cond.code ({ cls := "java/lang/String", name := "<init>", desc := "([BB)V" } : Jvm.MethodName) jdk_42_method_151_code (3 : Nat) (Option.none : Option Jvm.ClassFile.FieldType)).before args0 about1 = true := code_word (m := ⟨8, 9⟩) (meth := k8m9) (c := k8c9) (by decide +kernel) rfl rfl rfl (by decide +kernel)
set_option maxRecDepth 65536 in
theorem w_c5 : (Jvm.Cond.code ({ cls := "java/lang/Object", name := "<init>", desc := "()V" } : Jvm.MethodName) object_method_1_code (1 : Nat) (Option.none : Option Jvm.ClassFile.FieldType)).before args0 about1 = true := code_word (m := ⟨0, 0⟩) (meth := k0m0) (c := k0c0) (by decide +kernel) rfl rfl rfl (by decide +kernel)
set_option maxRecDepth 65536 in
theorem w_c6 : (Jvm.Cond.code ({ cls := "com/example/upright_harness/uprightharness/Account", name := "<init>", desc := "(Ljava/lang/String;Ljava/lang/String;Ljava/lang/String;Ljava/lang/String;)V" } : Jvm.MethodName) prog_1_method_1_code (5 : Nat) (Option.none : Option Jvm.ClassFile.FieldType)).before args0 about1 = true := code_word (m := ⟨2, 0⟩) (meth := k2m0) (c := k2c0) (by decide +kernel) rfl rfl rfl (by decide +kernel)
set_option maxRecDepth 65536 in
theorem w_c7 : (Jvm.Cond.code ({ cls := "java/util/Objects", name := "requireNonNull", desc := "(Ljava/lang/Object;Ljava/lang/String;)Ljava/lang/Object;" } : Jvm.MethodName) jdk_31_method_11_code (2 : Nat) (Option.some (Jvm.ClassFile.FieldType.object "java/lang/Object"))).before args0 about1 = true := code_word (m := ⟨10, 1⟩) (meth := k10m1) (c := k10c1) (by decide +kernel) rfl rfl rfl (by decide +kernel)
set_option maxRecDepth 65536 in
theorem w_c8 : (Jvm.Cond.code ({ cls := "com/example/upright_harness/uprightharness/Account", name := "toString", desc := "()Ljava/lang/String;" } : Jvm.MethodName) prog_1_method_6_code (2 : Nat) (Option.some (Jvm.ClassFile.FieldType.object "java/lang/String"))).before args0 about1 = true := code_word (m := ⟨2, 1⟩) (meth := k2m1) (c := k2c1) (by decide +kernel) rfl rfl rfl (by decide +kernel)
set_option maxRecDepth 65536 in
theorem w_c9 : (Jvm.Cond.code ({ cls := "java/lang/StringBuilder", name := "<init>", desc := "(Ljava/lang/String;)V" } : Jvm.MethodName) jdk_67_method_3_code (2 : Nat) (Option.none : Option Jvm.ClassFile.FieldType)).before args0 about1 = true := code_word (m := ⟨13, 1⟩) (meth := k13m1) (c := k13c1) (by decide +kernel) rfl rfl rfl (by decide +kernel)
set_option maxRecDepth 65536 in
theorem w_c10 : (Jvm.Cond.code ({ cls := "java/lang/AbstractStringBuilder", name := "<init>", desc := "(Ljava/lang/String;)V" } : Jvm.MethodName) jdk_68_method_3_code (5 : Nat) (Option.none : Option Jvm.ClassFile.FieldType)).before args0 about1 = true := code_word (m := ⟨12, 1⟩) (meth := k12m1) (c := k12c1) (by decide +kernel) rfl rfl rfl (by decide +kernel)
set_option maxRecDepth 65536 in
theorem w_c11 : (Jvm.Cond.code ({ cls := "java/lang/String", name := "length", desc := "()I" } : Jvm.MethodName) jdk_42_method_54_code (1 : Nat) (Option.some Jvm.ClassFile.FieldType.int)).before args0 about1 = true := code_word (m := ⟨8, 3⟩) (meth := k8m3) (c := k8c3) (by decide +kernel) rfl rfl rfl (by decide +kernel)
set_option maxRecDepth 65536 in
theorem w_c12 : (Jvm.Cond.code ({ cls := "java/lang/String", name := "coder", desc := "()B" } : Jvm.MethodName) jdk_42_method_152_code (1 : Nat) (Option.some Jvm.ClassFile.FieldType.byte)).before args0 about1 = true := code_word (m := ⟨8, 10⟩) (meth := k8m10) (c := k8c10) (by decide +kernel) rfl rfl rfl (by decide +kernel)
set_option maxRecDepth 65536 in
theorem w_c13 : (Jvm.Cond.code ({ cls := "java/lang/StringBuilder", name := "append", desc := "(Ljava/lang/String;)Ljava/lang/AbstractStringBuilder;" } : Jvm.MethodName) jdk_67_method_80_code (2 : Nat) (Option.some (Jvm.ClassFile.FieldType.object "java/lang/AbstractStringBuilder"))).before args0 about1 = true := code_word (m := ⟨13, 5⟩) (meth := k13m5) (c := k13c5) (by decide +kernel) rfl rfl rfl (by decide +kernel)
set_option maxRecDepth 65536 in
theorem w_c14 : (Jvm.Cond.code ({ cls := "java/lang/StringBuilder", name := "append", desc := "(Ljava/lang/String;)Ljava/lang/StringBuilder;" } : Jvm.MethodName) jdk_67_method_7_code (2 : Nat) (Option.some (Jvm.ClassFile.FieldType.object "java/lang/StringBuilder"))).before args0 about1 = true := code_word (m := ⟨13, 2⟩) (meth := k13m2) (c := k13c2) (by decide +kernel) rfl rfl rfl (by decide +kernel)
set_option maxRecDepth 65536 in
theorem w_c15 : (Jvm.Cond.code ({ cls := "java/lang/AbstractStringBuilder", name := "append", desc := "(Ljava/lang/String;)Ljava/lang/AbstractStringBuilder;" } : Jvm.MethodName) jdk_68_method_22_code (3 : Nat) (Option.some (Jvm.ClassFile.FieldType.object "java/lang/AbstractStringBuilder"))).before args0 about1 = true := code_word (m := ⟨12, 5⟩) (meth := k12m5) (c := k12c5) (by decide +kernel) rfl rfl rfl (by decide +kernel)
set_option maxRecDepth 65536 in
theorem w_c16 : (Jvm.Cond.code ({ cls := "java/lang/AbstractStringBuilder", name := "ensureCapacityInternal", desc := "(I)V" } : Jvm.MethodName) jdk_68_method_9_code (3 : Nat) (Option.none : Option Jvm.ClassFile.FieldType)).before args0 about1 = true := code_word (m := ⟨12, 3⟩) (meth := k12m3) (c := k12c3) (by decide +kernel) rfl rfl rfl (by decide +kernel)
set_option maxRecDepth 65536 in
theorem w_c17 : (Jvm.Cond.code ({ cls := "java/lang/AbstractStringBuilder", name := "putStringAt", desc := "(ILjava/lang/String;)V" } : Jvm.MethodName) jdk_68_method_73_code (3 : Nat) (Option.none : Option Jvm.ClassFile.FieldType)).before args0 about1 = true := code_word (m := ⟨12, 10⟩) (meth := k12m10) (c := k12c10) (by decide +kernel) rfl rfl rfl (by decide +kernel)
set_option maxRecDepth 65536 in
theorem w_c18 : (Jvm.Cond.code ({ cls := "java/lang/AbstractStringBuilder", name := "inflateIfNeededFor", desc := "(Ljava/lang/String;)V" } : Jvm.MethodName) jdk_68_method_71_code (2 : Nat) (Option.none : Option Jvm.ClassFile.FieldType)).before args0 about1 = true := code_word (m := ⟨12, 9⟩) (meth := k12m9) (c := k12c9) (by decide +kernel) rfl rfl rfl (by decide +kernel)
set_option maxRecDepth 65536 in
theorem w_c19 : (Jvm.Cond.code ({ cls := "java/lang/String", name := "getBytes", desc := "([BIB)V" } : Jvm.MethodName) jdk_42_method_147_code (4 : Nat) (Option.none : Option Jvm.ClassFile.FieldType)).before args0 about1 = true := code_word (m := ⟨8, 6⟩) (meth := k8m6) (c := k8c6) (by decide +kernel) rfl rfl rfl (by decide +kernel)
set_option maxRecDepth 65536 in
theorem w_c20 : (Jvm.Cond.code ({ cls := "java/lang/StringBuilder", name := "append", desc := "(C)Ljava/lang/StringBuilder;" } : Jvm.MethodName) jdk_67_method_14_code (2 : Nat) (Option.some (Jvm.ClassFile.FieldType.object "java/lang/StringBuilder"))).before args0 about1 = true := code_word (m := ⟨13, 3⟩) (meth := k13m3) (c := k13c3) (by decide +kernel) rfl rfl rfl (by decide +kernel)
set_option maxRecDepth 65536 in
theorem w_c21 : (Jvm.Cond.code ({ cls := "java/lang/AbstractStringBuilder", name := "append", desc := "(C)Ljava/lang/AbstractStringBuilder;" } : Jvm.MethodName) jdk_68_method_31_code (2 : Nat) (Option.some (Jvm.ClassFile.FieldType.object "java/lang/AbstractStringBuilder"))).before args0 about1 = true := code_word (m := ⟨12, 6⟩) (meth := k12m6) (c := k12c6) (by decide +kernel) rfl rfl rfl (by decide +kernel)
set_option maxRecDepth 65536 in
theorem w_c22 : (Jvm.Cond.code ({ cls := "java/lang/AbstractStringBuilder", name := "isLatin1", desc := "()Z" } : Jvm.MethodName) jdk_68_method_68_code (1 : Nat) (Option.some Jvm.ClassFile.FieldType.boolean)).before args0 about1 = true := code_word (m := ⟨12, 8⟩) (meth := k12m8) (c := k12c8) (by decide +kernel) rfl rfl rfl (by decide +kernel)
set_option maxRecDepth 65536 in
theorem w_c23 : (Jvm.Cond.code ({ cls := "java/lang/StringBuilder", name := "toString", desc := "()Ljava/lang/String;" } : Jvm.MethodName) jdk_67_method_42_code (1 : Nat) (Option.some (Jvm.ClassFile.FieldType.object "java/lang/String"))).before args0 about1 = true := code_word (m := ⟨13, 4⟩) (meth := k13m4) (c := k13c4) (by decide +kernel) rfl rfl rfl (by decide +kernel)
set_option maxRecDepth 65536 in
theorem w_c24 : (Jvm.Cond.code ({ cls := "java/lang/String", name := "<init>", desc := "(Ljava/lang/StringBuilder;)V" } : Jvm.MethodName) jdk_42_method_53_code (2 : Nat) (Option.none : Option Jvm.ClassFile.FieldType)).before args0 about1 = true := code_word (m := ⟨8, 2⟩) (meth := k8m2) (c := k8c2) (by decide +kernel) rfl rfl rfl (by decide +kernel)
set_option maxRecDepth 65536 in
theorem w_c25 : (Jvm.Cond.code ({ cls := "java/lang/String", name := "<init>", desc := "(Ljava/lang/AbstractStringBuilder;Ljava/lang/Void;)V" } : Jvm.MethodName) jdk_42_method_150_code (5 : Nat) (Option.none : Option Jvm.ClassFile.FieldType)).before args0 about1 = true := code_word (m := ⟨8, 8⟩) (meth := k8m8) (c := k8c8) (by decide +kernel) rfl rfl rfl (by decide +kernel)
set_option maxRecDepth 65536 in
theorem w_c26 : (Jvm.Cond.code ({ cls := "java/lang/AbstractStringBuilder", name := "getValue", desc := "()[B" } : Jvm.MethodName) jdk_68_method_64_code (1 : Nat) (Option.some (Jvm.ClassFile.FieldType.array Jvm.ClassFile.FieldType.byte))).before args0 about1 = true := code_word (m := ⟨12, 7⟩) (meth := k12m7) (c := k12c7) (by decide +kernel) rfl rfl rfl (by decide +kernel)
set_option maxRecDepth 65536 in
theorem w_c27 : (Jvm.Cond.code ({ cls := "java/lang/StringBuilder", name := "length", desc := "()I" } : Jvm.MethodName) jdk_67_method_93_code (1 : Nat) (Option.some Jvm.ClassFile.FieldType.int)).before args0 about1 = true := code_word (m := ⟨13, 6⟩) (meth := k13m6) (c := k13c6) (by decide +kernel) rfl rfl rfl (by decide +kernel)
set_option maxRecDepth 65536 in
theorem w_c28 : (Jvm.Cond.code ({ cls := "java/lang/AbstractStringBuilder", name := "length", desc := "()I" } : Jvm.MethodName) jdk_68_method_6_code (1 : Nat) (Option.some Jvm.ClassFile.FieldType.int)).before args0 about1 = true := code_word (m := ⟨12, 2⟩) (meth := k12m2) (c := k12c2) (by decide +kernel) rfl rfl rfl (by decide +kernel)
set_option maxRecDepth 65536 in
theorem w_c29 : (Jvm.Cond.code ({ cls := "java/util/Arrays", name := "copyOfRange", desc := "([BII)[B" } : Jvm.MethodName) jdk_65_method_132_code (3 : Nat) (Option.some (Jvm.ClassFile.FieldType.array Jvm.ClassFile.FieldType.byte))).before args0 about1 = true := code_word (m := ⟨15, 3⟩) (meth := k15m3) (c := k15c3) (by decide +kernel) rfl rfl rfl (by decide +kernel)
set_option maxRecDepth 65536 in
theorem w_c30 : (Jvm.Cond.code ({ cls := "java/util/Arrays", name := "copyOfRangeByte", desc := "([BII)[B" } : Jvm.MethodName) jdk_65_method_133_code (5 : Nat) (Option.some (Jvm.ClassFile.FieldType.array Jvm.ClassFile.FieldType.byte))).before args0 about1 = true := code_word (m := ⟨15, 4⟩) (meth := k15m4) (c := k15c4) (by decide +kernel) rfl rfl rfl (by decide +kernel)
set_option maxRecDepth 65536 in
theorem w_c31 : (Jvm.Cond.code ({ cls := "java/util/Arrays", name := "checkLength", desc := "(II)V" } : Jvm.MethodName) jdk_65_method_131_code (2 : Nat) (Option.none : Option Jvm.ClassFile.FieldType)).before args0 about1 = true := code_word (m := ⟨15, 2⟩) (meth := k15m2) (c := k15c2) (by decide +kernel) rfl rfl rfl (by decide +kernel)
set_option maxRecDepth 65536 in
theorem w_c32 : (Jvm.Cond.code ({ cls := "java/lang/Math", name := "min", desc := "(II)I" } : Jvm.MethodName) jdk_29_method_69_code (2 : Nat) (Option.some Jvm.ClassFile.FieldType.int)).before args0 about1 = true := code_word (m := ⟨16, 2⟩) (meth := k16m2) (c := k16c2) (by decide +kernel) rfl rfl rfl (by decide +kernel)
set_option maxRecDepth 65536 in
theorem w_c33 : (Jvm.Cond.code ({ cls := "java/lang/String", name := "<init>", desc := "([C)V" } : Jvm.MethodName) jdk_42_method_3_code (2 : Nat) (Option.none : Option Jvm.ClassFile.FieldType)).before args0 about1 = true := code_word (m := ⟨8, 1⟩) (meth := k8m1) (c := k8c1) (by decide +kernel) rfl rfl rfl (by decide +kernel)
set_option maxRecDepth 65536 in
theorem w_c34 : (Jvm.Cond.code ({ cls := "java/lang/String", name := "<init>", desc := "([CIILjava/lang/Void;)V" } : Jvm.MethodName) jdk_42_method_149_code (6 : Nat) (Option.none : Option Jvm.ClassFile.FieldType)).before args0 about1 = true := code_word (m := ⟨8, 7⟩) (meth := k8m7) (c := k8c7) (by decide +kernel) rfl rfl rfl (by decide +kernel)
set_option maxRecDepth 65536 in
theorem w_c35 : (Jvm.Cond.code ({ cls := "java/lang/StringUTF16", name := "compress", desc := "([CII)[B" } : Jvm.MethodName) jdk_52_method_16_code (6 : Nat) (Option.some (Jvm.ClassFile.FieldType.array Jvm.ClassFile.FieldType.byte))).before args0 about1 = true := code_word (m := ⟨17, 2⟩) (meth := k17m2) (c := k17c2) (by decide +kernel) rfl rfl rfl (by decide +kernel)
set_option maxRecDepth 65536 in
theorem w_c36 : (Jvm.Cond.code ({ cls := "java/lang/StringUTF16", name := "compress", desc := "([CI[BII)I" } : Jvm.MethodName) jdk_52_method_21_code (7 : Nat) (Option.some Jvm.ClassFile.FieldType.int)).before args0 about1 = true := code_word (m := ⟨17, 3⟩) (meth := k17m3) (c := k17c3) (by decide +kernel) rfl rfl rfl (by decide +kernel)
set_option maxRecDepth 65536 in
theorem w_c37 : (Jvm.Cond.code ({ cls := "java/lang/StringUTF16", name := "coderFromArrayLen", desc := "([BI)B" } : Jvm.MethodName) jdk_52_method_15_code (2 : Nat) (Option.some Jvm.ClassFile.FieldType.byte)).before args0 about1 = true := code_word (m := ⟨17, 1⟩) (meth := k17m1) (c := k17c1) (by decide +kernel) rfl rfl rfl (by decide +kernel)
set_option maxRecDepth 65536 in
theorem w_c38 : (Jvm.Cond.code ({ cls := "java/lang/String", name := "equals", desc := "(Ljava/lang/Object;)Z" } : Jvm.MethodName) jdk_42_method_66_code (3 : Nat) (Option.some Jvm.ClassFile.FieldType.boolean)).before args0 about1 = true := code_word (m := ⟨8, 4⟩) (meth := k8m4) (c := k8c4) (by decide +kernel) rfl rfl rfl (by decide +kernel)
set_option maxRecDepth 65536 in
theorem w_c39 : (Jvm.Cond.code ({ cls := "java/lang/StringLatin1", name := "equals", desc := "([B[B)Z" } : Jvm.MethodName) jdk_43_method_13_code (3 : Nat) (Option.some Jvm.ClassFile.FieldType.boolean)).before args0 about1 = true := code_word (m := ⟨9, 2⟩) (meth := k9m2) (c := k9c2) (by decide +kernel) rfl rfl rfl (by decide +kernel)
set_option maxRecDepth 65536 in
theorem w_c40 : (Jvm.Cond.code ({ cls := "java/lang/AbstractStringBuilder", name := "newCapacity", desc := "(I)I" } : Jvm.MethodName) jdk_68_method_10_code (6 : Nat) (Option.some Jvm.ClassFile.FieldType.int)).before args0 about1 = true := code_word (m := ⟨12, 4⟩) (meth := k12m4) (c := k12c4) (by decide +kernel) rfl rfl rfl (by decide +kernel)
set_option maxRecDepth 65536 in
theorem w_c41 : (Jvm.Cond.code ({ cls := "jdk/internal/util/ArraysSupport", name := "newLength", desc := "(III)I" } : Jvm.MethodName) jdk_48_method_27_code (4 : Nat) (Option.some Jvm.ClassFile.FieldType.int)).before args0 about1 = true := code_word (m := ⟨18, 1⟩) (meth := k18m1) (c := k18c1) (by decide +kernel) rfl rfl rfl (by decide +kernel)
set_option maxRecDepth 65536 in
theorem w_c42 : (Jvm.Cond.code ({ cls := "java/lang/Math", name := "max", desc := "(II)I" } : Jvm.MethodName) jdk_29_method_65_code (2 : Nat) (Option.some Jvm.ClassFile.FieldType.int)).before args0 about1 = true := code_word (m := ⟨16, 1⟩) (meth := k16m1) (c := k16c1) (by decide +kernel) rfl rfl rfl (by decide +kernel)
set_option maxRecDepth 65536 in
theorem w_c43 : (Jvm.Cond.code ({ cls := "java/util/Arrays", name := "copyOf", desc := "([BI)[B" } : Jvm.MethodName) jdk_65_method_121_code (3 : Nat) (Option.some (Jvm.ClassFile.FieldType.array Jvm.ClassFile.FieldType.byte))).before args0 about1 = true := code_word (m := ⟨15, 1⟩) (meth := k15m1) (c := k15c1) (by decide +kernel) rfl rfl rfl (by decide +kernel)
def codes1 : List Jvm.Cond := [Jvm.Cond.code x code maxLocals ret, Jvm.Cond.code ({ cls := "java/lang/String", name := "valueOf", desc := "(C)Ljava/lang/String;" } : Jvm.MethodName) jdk_42_method_139_code (1 : Nat) (Option.some (Jvm.ClassFile.FieldType.object "java/lang/String")), Jvm.Cond.code ({ cls := "java/lang/StringLatin1", name := "canEncode", desc := "(C)Z" } : Jvm.MethodName) jdk_43_method_3_code (1 : Nat) (Option.some Jvm.ClassFile.FieldType.boolean), Jvm.Cond.code ({ cls := "java/lang/StringLatin1", name := "toBytes", desc := "(C)[B" } : Jvm.MethodName) jdk_43_method_46_code (1 : Nat) (Option.some (Jvm.ClassFile.FieldType.array Jvm.ClassFile.FieldType.byte)), Jvm.Cond.code ({ cls := "java/lang/String", name := "<init>", desc := "([BB)V" } : Jvm.MethodName) jdk_42_method_151_code (3 : Nat) (Option.none : Option Jvm.ClassFile.FieldType), Jvm.Cond.code ({ cls := "java/lang/Object", name := "<init>", desc := "()V" } : Jvm.MethodName) object_method_1_code (1 : Nat) (Option.none : Option Jvm.ClassFile.FieldType), Jvm.Cond.code ({ cls := "com/example/upright_harness/uprightharness/Account", name := "<init>", desc := "(Ljava/lang/String;Ljava/lang/String;Ljava/lang/String;Ljava/lang/String;)V" } : Jvm.MethodName) prog_1_method_1_code (5 : Nat) (Option.none : Option Jvm.ClassFile.FieldType), Jvm.Cond.code ({ cls := "java/util/Objects", name := "requireNonNull", desc := "(Ljava/lang/Object;Ljava/lang/String;)Ljava/lang/Object;" } : Jvm.MethodName) jdk_31_method_11_code (2 : Nat) (Option.some (Jvm.ClassFile.FieldType.object "java/lang/Object")), Jvm.Cond.code ({ cls := "com/example/upright_harness/uprightharness/Account", name := "toString", desc := "()Ljava/lang/String;" } : Jvm.MethodName) prog_1_method_6_code (2 : Nat) (Option.some (Jvm.ClassFile.FieldType.object "java/lang/String")), Jvm.Cond.code ({ cls := "java/lang/StringBuilder", name := "<init>", desc := "(Ljava/lang/String;)V" } : Jvm.MethodName) jdk_67_method_3_code (2 : Nat) (Option.none : Option Jvm.ClassFile.FieldType), Jvm.Cond.code ({ cls := "java/lang/AbstractStringBuilder", name := "<init>", desc := "(Ljava/lang/String;)V" } : Jvm.MethodName) jdk_68_method_3_code (5 : Nat) (Option.none : Option Jvm.ClassFile.FieldType), Jvm.Cond.code ({ cls := "java/lang/String", name := "length", desc := "()I" } : Jvm.MethodName) jdk_42_method_54_code (1 : Nat) (Option.some Jvm.ClassFile.FieldType.int), Jvm.Cond.code ({ cls := "java/lang/String", name := "coder", desc := "()B" } : Jvm.MethodName) jdk_42_method_152_code (1 : Nat) (Option.some Jvm.ClassFile.FieldType.byte), Jvm.Cond.code ({ cls := "java/lang/StringBuilder", name := "append", desc := "(Ljava/lang/String;)Ljava/lang/AbstractStringBuilder;" } : Jvm.MethodName) jdk_67_method_80_code (2 : Nat) (Option.some (Jvm.ClassFile.FieldType.object "java/lang/AbstractStringBuilder")), Jvm.Cond.code ({ cls := "java/lang/StringBuilder", name := "append", desc := "(Ljava/lang/String;)Ljava/lang/StringBuilder;" } : Jvm.MethodName) jdk_67_method_7_code (2 : Nat) (Option.some (Jvm.ClassFile.FieldType.object "java/lang/StringBuilder")), Jvm.Cond.code ({ cls := "java/lang/AbstractStringBuilder", name := "append", desc := "(Ljava/lang/String;)Ljava/lang/AbstractStringBuilder;" } : Jvm.MethodName) jdk_68_method_22_code (3 : Nat) (Option.some (Jvm.ClassFile.FieldType.object "java/lang/AbstractStringBuilder")), Jvm.Cond.code ({ cls := "java/lang/AbstractStringBuilder", name := "ensureCapacityInternal", desc := "(I)V" } : Jvm.MethodName) jdk_68_method_9_code (3 : Nat) (Option.none : Option Jvm.ClassFile.FieldType), Jvm.Cond.code ({ cls := "java/lang/AbstractStringBuilder", name := "putStringAt", desc := "(ILjava/lang/String;)V" } : Jvm.MethodName) jdk_68_method_73_code (3 : Nat) (Option.none : Option Jvm.ClassFile.FieldType), Jvm.Cond.code ({ cls := "java/lang/AbstractStringBuilder", name := "inflateIfNeededFor", desc := "(Ljava/lang/String;)V" } : Jvm.MethodName) jdk_68_method_71_code (2 : Nat) (Option.none : Option Jvm.ClassFile.FieldType), Jvm.Cond.code ({ cls := "java/lang/String", name := "getBytes", desc := "([BIB)V" } : Jvm.MethodName) jdk_42_method_147_code (4 : Nat) (Option.none : Option Jvm.ClassFile.FieldType), Jvm.Cond.code ({ cls := "java/lang/StringBuilder", name := "append", desc := "(C)Ljava/lang/StringBuilder;" } : Jvm.MethodName) jdk_67_method_14_code (2 : Nat) (Option.some (Jvm.ClassFile.FieldType.object "java/lang/StringBuilder")), Jvm.Cond.code ({ cls := "java/lang/AbstractStringBuilder", name := "append", desc := "(C)Ljava/lang/AbstractStringBuilder;" } : Jvm.MethodName) jdk_68_method_31_code (2 : Nat) (Option.some (Jvm.ClassFile.FieldType.object "java/lang/AbstractStringBuilder")), Jvm.Cond.code ({ cls := "java/lang/AbstractStringBuilder", name := "isLatin1", desc := "()Z" } : Jvm.MethodName) jdk_68_method_68_code (1 : Nat) (Option.some Jvm.ClassFile.FieldType.boolean), Jvm.Cond.code ({ cls := "java/lang/StringBuilder", name := "toString", desc := "()Ljava/lang/String;" } : Jvm.MethodName) jdk_67_method_42_code (1 : Nat) (Option.some (Jvm.ClassFile.FieldType.object "java/lang/String")), Jvm.Cond.code ({ cls := "java/lang/String", name := "<init>", desc := "(Ljava/lang/StringBuilder;)V" } : Jvm.MethodName) jdk_42_method_53_code (2 : Nat) (Option.none : Option Jvm.ClassFile.FieldType), Jvm.Cond.code ({ cls := "java/lang/String", name := "<init>", desc := "(Ljava/lang/AbstractStringBuilder;Ljava/lang/Void;)V" } : Jvm.MethodName) jdk_42_method_150_code (5 : Nat) (Option.none : Option Jvm.ClassFile.FieldType), Jvm.Cond.code ({ cls := "java/lang/AbstractStringBuilder", name := "getValue", desc := "()[B" } : Jvm.MethodName) jdk_68_method_64_code (1 : Nat) (Option.some (Jvm.ClassFile.FieldType.array Jvm.ClassFile.FieldType.byte)), Jvm.Cond.code ({ cls := "java/lang/StringBuilder", name := "length", desc := "()I" } : Jvm.MethodName) jdk_67_method_93_code (1 : Nat) (Option.some Jvm.ClassFile.FieldType.int), Jvm.Cond.code ({ cls := "java/lang/AbstractStringBuilder", name := "length", desc := "()I" } : Jvm.MethodName) jdk_68_method_6_code (1 : Nat) (Option.some Jvm.ClassFile.FieldType.int), Jvm.Cond.code ({ cls := "java/util/Arrays", name := "copyOfRange", desc := "([BII)[B" } : Jvm.MethodName) jdk_65_method_132_code (3 : Nat) (Option.some (Jvm.ClassFile.FieldType.array Jvm.ClassFile.FieldType.byte)), Jvm.Cond.code ({ cls := "java/util/Arrays", name := "copyOfRangeByte", desc := "([BII)[B" } : Jvm.MethodName) jdk_65_method_133_code (5 : Nat) (Option.some (Jvm.ClassFile.FieldType.array Jvm.ClassFile.FieldType.byte)), Jvm.Cond.code ({ cls := "java/util/Arrays", name := "checkLength", desc := "(II)V" } : Jvm.MethodName) jdk_65_method_131_code (2 : Nat) (Option.none : Option Jvm.ClassFile.FieldType), Jvm.Cond.code ({ cls := "java/lang/Math", name := "min", desc := "(II)I" } : Jvm.MethodName) jdk_29_method_69_code (2 : Nat) (Option.some Jvm.ClassFile.FieldType.int), Jvm.Cond.code ({ cls := "java/lang/String", name := "<init>", desc := "([C)V" } : Jvm.MethodName) jdk_42_method_3_code (2 : Nat) (Option.none : Option Jvm.ClassFile.FieldType), Jvm.Cond.code ({ cls := "java/lang/String", name := "<init>", desc := "([CIILjava/lang/Void;)V" } : Jvm.MethodName) jdk_42_method_149_code (6 : Nat) (Option.none : Option Jvm.ClassFile.FieldType), Jvm.Cond.code ({ cls := "java/lang/StringUTF16", name := "compress", desc := "([CII)[B" } : Jvm.MethodName) jdk_52_method_16_code (6 : Nat) (Option.some (Jvm.ClassFile.FieldType.array Jvm.ClassFile.FieldType.byte)), Jvm.Cond.code ({ cls := "java/lang/StringUTF16", name := "compress", desc := "([CI[BII)I" } : Jvm.MethodName) jdk_52_method_21_code (7 : Nat) (Option.some Jvm.ClassFile.FieldType.int), Jvm.Cond.code ({ cls := "java/lang/StringUTF16", name := "coderFromArrayLen", desc := "([BI)B" } : Jvm.MethodName) jdk_52_method_15_code (2 : Nat) (Option.some Jvm.ClassFile.FieldType.byte), Jvm.Cond.code ({ cls := "java/lang/String", name := "equals", desc := "(Ljava/lang/Object;)Z" } : Jvm.MethodName) jdk_42_method_66_code (3 : Nat) (Option.some Jvm.ClassFile.FieldType.boolean), Jvm.Cond.code ({ cls := "java/lang/StringLatin1", name := "equals", desc := "([B[B)Z" } : Jvm.MethodName) jdk_43_method_13_code (3 : Nat) (Option.some Jvm.ClassFile.FieldType.boolean), Jvm.Cond.code ({ cls := "java/lang/AbstractStringBuilder", name := "newCapacity", desc := "(I)I" } : Jvm.MethodName) jdk_68_method_10_code (6 : Nat) (Option.some Jvm.ClassFile.FieldType.int), Jvm.Cond.code ({ cls := "jdk/internal/util/ArraysSupport", name := "newLength", desc := "(III)I" } : Jvm.MethodName) jdk_48_method_27_code (4 : Nat) (Option.some Jvm.ClassFile.FieldType.int), Jvm.Cond.code ({ cls := "java/lang/Math", name := "max", desc := "(II)I" } : Jvm.MethodName) jdk_29_method_65_code (2 : Nat) (Option.some Jvm.ClassFile.FieldType.int), Jvm.Cond.code ({ cls := "java/util/Arrays", name := "copyOf", desc := "([BI)[B" } : Jvm.MethodName) jdk_65_method_121_code (3 : Nat) (Option.some (Jvm.ClassFile.FieldType.array Jvm.ClassFile.FieldType.byte))]
set_option maxRecDepth 65536 in
theorem codes_eq : words1.filter isCode = codes1 := rfl
theorem w_codes : ∀ c ∈ words1.filter isCode, c.before args0 about1 = true := by
  rw [codes_eq]
  intro c hc
  simp only [codes1, List.mem_cons, List.not_mem_nil, or_false] at hc
  rcases hc with rfl | rfl | rfl | rfl | rfl | rfl | rfl | rfl | rfl | rfl | rfl | rfl | rfl | rfl | rfl | rfl | rfl | rfl | rfl | rfl | rfl | rfl | rfl | rfl | rfl | rfl | rfl | rfl | rfl | rfl | rfl | rfl | rfl | rfl | rfl | rfl | rfl | rfl | rfl | rfl | rfl | rfl | rfl | rfl
  · exact w_c0
  · exact w_c1
  · exact w_c2
  · exact w_c3
  · exact w_c4
  · exact w_c5
  · exact w_c6
  · exact w_c7
  · exact w_c8
  · exact w_c9
  · exact w_c10
  · exact w_c11
  · exact w_c12
  · exact w_c13
  · exact w_c14
  · exact w_c15
  · exact w_c16
  · exact w_c17
  · exact w_c18
  · exact w_c19
  · exact w_c20
  · exact w_c21
  · exact w_c22
  · exact w_c23
  · exact w_c24
  · exact w_c25
  · exact w_c26
  · exact w_c27
  · exact w_c28
  · exact w_c29
  · exact w_c30
  · exact w_c31
  · exact w_c32
  · exact w_c33
  · exact w_c34
  · exact w_c35
  · exact w_c36
  · exact w_c37
  · exact w_c38
  · exact w_c39
  · exact w_c40
  · exact w_c41
  · exact w_c42
  · exact w_c43
set_option maxRecDepth 65536 in
theorem w_t1 : (words1.take 24).all (fun c => isCode c || c.before args0 about1) = true := by decide +kernel
set_option maxRecDepth 65536 in
theorem w_t2 : ((words1.drop 24).take 24).all (fun c => isCode c || c.before args0 about1) = true := by decide +kernel
set_option maxRecDepth 65536 in
theorem w_t3 : (((words1.drop 24).drop 24).take 24).all (fun c => isCode c || c.before args0 about1) = true := by decide +kernel
set_option maxRecDepth 65536 in
theorem w_t4 : ((((words1.drop 24).drop 24).drop 24).take 24).all (fun c => isCode c || c.before args0 about1) = true := by decide +kernel
set_option maxRecDepth 65536 in
theorem w_t5 : (((((words1.drop 24).drop 24).drop 24).drop 24).take 24).all (fun c => isCode c || c.before args0 about1) = true := by decide +kernel
set_option maxRecDepth 65536 in
theorem w_t6 : ((((((words1.drop 24).drop 24).drop 24).drop 24).drop 24).take 24).all (fun c => isCode c || c.before args0 about1) = true := by decide +kernel
set_option maxRecDepth 65536 in
theorem w_t7 : (((((((words1.drop 24).drop 24).drop 24).drop 24).drop 24).drop 24).take 24).all (fun c => isCode c || c.before args0 about1) = true := by decide +kernel
set_option maxRecDepth 65536 in
theorem w_t8 : ((((((((words1.drop 24).drop 24).drop 24).drop 24).drop 24).drop 24).drop 24).take 24).all (fun c => isCode c || c.before args0 about1) = true := by decide +kernel
set_option maxRecDepth 65536 in
theorem w_t9 : (((((((((words1.drop 24).drop 24).drop 24).drop 24).drop 24).drop 24).drop 24).drop 24).take 24).all (fun c => isCode c || c.before args0 about1) = true := by decide +kernel
set_option maxRecDepth 65536 in
theorem w_t10 : (((((((((words1.drop 24).drop 24).drop 24).drop 24).drop 24).drop 24).drop 24).drop 24).drop 24).all (fun c => isCode c || c.before args0 about1) = true := by decide +kernel
theorem w_tables : (allAtoms (Jvm.Cond.code x code maxLocals ret :: tables_1)).before args0 about1 = true := by
  rw [allAtoms_all]
  show words1.all (fun c => c.before args0 about1) = true
  refine all_split ?_ w_codes
  rw [← List.take_append_drop 24 words1, List.all_append, w_t1, ← List.take_append_drop 24 (words1.drop 24), List.all_append, w_t2, ← List.take_append_drop 24 ((words1.drop 24).drop 24), List.all_append, w_t3, ← List.take_append_drop 24 (((words1.drop 24).drop 24).drop 24), List.all_append, w_t4, ← List.take_append_drop 24 ((((words1.drop 24).drop 24).drop 24).drop 24), List.all_append, w_t5, ← List.take_append_drop 24 (((((words1.drop 24).drop 24).drop 24).drop 24).drop 24), List.all_append, w_t6, ← List.take_append_drop 24 ((((((words1.drop 24).drop 24).drop 24).drop 24).drop 24).drop 24), List.all_append, w_t7, ← List.take_append_drop 24 (((((((words1.drop 24).drop 24).drop 24).drop 24).drop 24).drop 24).drop 24), List.all_append, w_t8, ← List.take_append_drop 24 ((((((((words1.drop 24).drop 24).drop 24).drop 24).drop 24).drop 24).drop 24).drop 24), List.all_append, w_t9, w_t10]
  rfl
set_option maxRecDepth 65536 in
theorem w_rest : rest_1_c.before args0 about1 = true := by decide +kernel
set_option maxRecDepth 65536 in
theorem w_case : (Jvm.Cond.and given_1 narrow_1).before args0 about1 = true := by decide +kernel
set_option maxRecDepth 65536 in
theorem w_consts : constsHeld consts_1 about1 := Jvm.Lit.constsHeldB_iff.mp (by decide +kernel)
theorem w_applies : (headSpec (Jvm.Cond.code x code maxLocals ret :: tables_1) room_1).applies x e0.platform about1 = true :=
  (Spec.applies_iff w_frames).mpr ⟨w_running, w_runnable, w_alone, w_named, w_hears, w_ripe, w_room, w_tables⟩
theorem atStart : AtStart classFile x code maxLocals ret World_1 tables_1 room_1 Calls_1 rest_1 Pre_1 launch0 p0 e0 about1 theMethod args0 below0 :=
  ⟨lists_1, trivial, launch0.admits_env _ _ _, launch0.least_env, fairChoices_fair.cas, fairChoices_fair.clock, w_frames, w_args, w_heap, w_applies, ⟨w_consts, trivial⟩, w_rest, w_case⟩
end start1
theorem witness_1 : WitnessClaimed_1 := ⟨start1.p0, start1.e0, start1.about1, start1.theMethod, start1.args0, start1.below0, start1.atStart⟩
end Jvm.Pilot.@@N@@
