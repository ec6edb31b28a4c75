import JvmDerived
import JvmDerived.Pilot.@@N@@Statement
import JvmDerived.Pilot.@@N@@Code
set_option linter.unusedVariables false
set_option linter.unusedSimpArgs false
namespace Jvm.Pilot.@@N@@
open Jvm Jvm.ClassFile Sem Op Lib Jvm.Free Jvm.Stand Jvm.LawKit Jvm.RoadKit Bundle Jvm.Pilot.@@N@@.Jvm.D
/-! ## the walk's own goal: from this frame the method comes to its end, and what it leaves is Q -/
def own_Fin (tb : Tables) (e : Env) (below : List Frame) (s : State) (R : Room) (Q : Option Value → Heap → List Loc → Prop) (T : State) (g : JFrame) : Prop :=
  ∃ s₂ o, Steps tb e below (T.setTop g) s₂ ∧ s₂.status = .running ∧ Ended s₂ below o ∧ ∃ v L, o = .returned v ∧ Q v s₂.heap L ∧ FrameEnd s o s₂ L R.cells R.slots
theorem own_st {tb : Tables} {e : Env} {below : List Frame} {s : State} {R : Room} {Q : Option Value → Heap → List Loc → Prop} {T T' : State} {g g' : JFrame}
    (h : ∀ t, Steps tb e below (T'.setTop g') t → Steps tb e below (T.setTop g) t) (k : own_Fin tb e below s R Q T' g') : own_Fin tb e below s R Q T g := by
  obtain ⟨s₂, o, h1, r⟩ := k
  exact ⟨s₂, o, h _ h1, r⟩
/-- an array: its kind, its length, what lies at each place -/
def own_A (Z : State) (h : Heap) (a : Addr) (ty : FieldType) (n : Nat) (f : Nat → Value) : Prop := ∃ c : Cell, Arr Z h a c ty ∧ c.slots.size = n ∧ ∀ i, i < n → c.slots[i]? = some (f i)
section OwnArr
variable {Z : State} {h h' : Heap} {a b : Addr} {ty : FieldType} {n : Nat} {f : Nat → Value} {ws : List Addr} {sl : Nat} {v : Value}
theorem own_A.lt (F : own_A Z h a ty n f) : a < h.size := by obtain ⟨c, A, -⟩ := F; exact A.lt
theorem own_A.ext (F : own_A Z h a ty n f) (E : Ext h h') : own_A Z h' a ty n f := by obtain ⟨c, A, r⟩ := F; exact ⟨c, A.ext E, r⟩
theorem own_A.other (F : own_A Z h a ty n f) (W : Wr h h' b sl v) (q : a ≠ b) : own_A Z h' a ty n f := by obtain ⟨c, A, r⟩ := F; exact ⟨c, A.other W q, r⟩
theorem own_A.keep (F : own_A Z h a ty n f) (K : Keep h h' ws) (q : a ∉ ws) : own_A Z h' a ty n f := by obtain ⟨c, A, r⟩ := F; exact ⟨c, ⟨K.2.1 a c A.1 q, A.2⟩, r⟩
theorem own_A.congr (F : own_A Z h a ty n f) {f' : Nat → Value} (q : ∀ i, i < n → f i = f' i) : own_A Z h a ty n f' := by
  obtain ⟨c, A, r1, r2⟩ := F
  exact ⟨c, A, r1, fun i hi => by rw [r2 i hi, q i hi]⟩
theorem own_A.new {k : ClassId} {z : Int32} (A : Arr Z h a (newA k ty z) ty) : own_A Z h a ty z.toNatClampNeg (fun _ => defaultValue ty) :=
  ⟨_, A, sz_new _ _ _, fun i hi => by simp [newA, hi]⟩
theorem own_A.set (F : own_A Z h a ty n f) (W : Wr h h' a sl v) : own_A Z h' a ty n (fun i => if i = sl then v else f i) := by
  obtain ⟨c, A, r1, r2⟩ := F
  refine ⟨_, A.same W, by rw [sz_set]; exact r1, fun i hi => ?_⟩
  by_cases q : i = sl
  · subst q; simp [Cell.setSlot, r1, hi]
  · simp only [Cell.setSlot, q, if_false]; rw [Array.getElem?_setIfInBounds_ne (Ne.symm q)]; exact r2 i hi
theorem own_ne_A {c : Nat} {C : String} {a0 : Array Value} (F : Exa Z h b C) (wi : (Jvm.Cond.instantiable C c).before a0 Z = true) (G : own_A Z h a ty n f) : b ≠ a := by
  obtain ⟨cl, A, -⟩ := G; exact ne_arr F wi A
end OwnArr
section OwnStand
variable {p : Program} {l : Launch} {e : Env} {R : Room} {s : State} {m : MethodId} {args : Array Value} {below : List Frame} {meth : Method} {c : Code} {T : State} {locs : List Loc} {cells slots : Nat} {Q : Option Value → Heap → List Loc → Prop} {Z : State} {a0 : Array Value} {h : Heap}
theorem own_ret {v : Option Value} {g : JFrame} (X : Stand p l e R s m args below meth c T locs cells slots) (hv : meth.sig.returnType = none → v = none) (hlocks : meth.locks = false) (hc : cells ≤ R.cells) (hs : slots ≤ R.slots) (hQ : Q v T.heap locs)
    (hstep : ∀ fs, (∀ (f : JFrame) (acts : List Action), f.method = m → f.locked = none → f.entered = [] → (doReturn e (T.setTop f) acts v).1 = T.setFrames fs) → Steps p.tables e below (T.setTop g) (T.setFrames fs)) : own_Fin p.tables e below s R Q T g := by
  obtain ⟨fs, hr, hrun, hended, hW, hsame⟩ := X.leave hv hlocks
  exact ⟨_, _, hstep fs hr, hrun, hended, _, _, rfl, hQ, ⟨_, rfl⟩, hW, hsame.mono hc hs⟩
theorem own_retI {pc : Nat} {Ls : Array Slot} {z : Int32} {rest : List Value} (X : Stand p l e R s m args below meth c T locs cells slots) (hx : p.tables.exec = Jvm.exec) (hret : meth.sig.returnType = some .int) (hlocks : meth.locks = false) (hd : decode c.code pc = .ok (.ireturn, 1))
    (hc : cells ≤ R.cells) (hs : slots ≤ R.slots) (hQ : Q (some (.int z)) T.heap locs) : own_Fin p.tables e below s R Q T (mkF m pc Ls (.int z :: rest)) :=
  own_ret X (fun h => by rw [hret] at h; cases h) hlocks hc hs hQ fun fs hr => retOut X hx hret rfl (Or.inl ⟨rfl, Or.inl rfl, _, rfl⟩) hd hr
theorem own_retJ {pc : Nat} {Ls : Array Slot} {z : Int64} {rest : List Value} (X : Stand p l e R s m args below meth c T locs cells slots) (hx : p.tables.exec = Jvm.exec) (hret : meth.sig.returnType = some .long) (hlocks : meth.locks = false) (hd : decode c.code pc = .ok (.lreturn, 1))
    (hc : cells ≤ R.cells) (hs : slots ≤ R.slots) (hQ : Q (some (.long z)) T.heap locs) : own_Fin p.tables e below s R Q T (mkF m pc Ls (.long z :: rest)) :=
  own_ret X (fun h => by rw [hret] at h; cases h) hlocks hc hs hQ fun fs hr => retOut X hx hret rfl (Or.inr (Or.inl ⟨rfl, rfl, _, rfl⟩)) hd hr
theorem own_retA {pc : Nat} {Ls : Array Slot} {t : FieldType} {b : Addr} {rest : List Value} (X : Stand p l e R s m args below meth c T locs cells slots) (hx : p.tables.exec = Jvm.exec) (hret : meth.sig.returnType = some t) (ht : t.isReference = true) (hn : narrow t (.ref b) = .ref b) (hlocks : meth.locks = false) (hd : decode c.code pc = .ok (.areturn, 1))
    (hc : cells ≤ R.cells) (hs : slots ≤ R.slots) (hQ : Q (some (.ref b)) T.heap locs) : own_Fin p.tables e below s R Q T (mkF m pc Ls (.ref b :: rest)) :=
  own_ret X (fun h => by rw [hret] at h; cases h) hlocks hc hs hQ fun fs hr => retOut X hx hret hn (Or.inr (Or.inr (Or.inr (Or.inr ⟨rfl, ht, rfl⟩)))) hd hr
theorem own_retN {pc : Nat} {Ls : Array Slot} {t : FieldType} {z : Int32} {rest : List Value} (X : Stand p l e R s m args below meth c T locs cells slots) (hx : p.tables.exec = Jvm.exec) (hret : meth.sig.returnType = some t) (ht : t = .boolean ∨ t = .byte ∨ t = .char ∨ t = .short) (hlocks : meth.locks = false) (hd : decode c.code pc = .ok (.ireturn, 1))
    (hc : cells ≤ R.cells) (hs : slots ≤ R.slots) (hQ : Q (some (.int (nar t z))) T.heap locs) : own_Fin p.tables e below s R Q T (mkF m pc Ls (.int z :: rest)) :=
  own_ret X (fun h => by rw [hret] at h; cases h) hlocks hc hs hQ fun fs hr => retN X hx hret ht hd hr
theorem own_retV {pc : Nat} {Ls : Array Slot} (X : Stand p l e R s m args below meth c T locs cells slots) (hx : p.tables.exec = Jvm.exec) (hret : meth.sig.returnType = none) (hlocks : meth.locks = false) (hd : decode c.code pc = .ok (.return_, 1))
    (hc : cells ≤ R.cells) (hs : slots ≤ R.slots) (hQ : Q none T.heap locs) : own_Fin p.tables e below s R Q T (mkF m pc Ls []) :=
  own_ret X (fun _ => rfl) hlocks hc hs hQ fun fs hr => X.returnOut hx hret hd hr
theorem own_iaload {n : Nat} {f : Nat → Value} {a : Addr} {j : Int32} {v : Value} {g : JFrame} {rest : List Value} (X : Stand p l e R s m args below meth c T locs cells slots) (hx : p.tables.exec = Jvm.exec) (hZ : Z.Warmed39 s.vm) (eT : T.heap = h) (F : own_A Z h a .int n f) (hj : ¬ (j < 0 ∨ n ≤ j.toNatClampNeg)) (hv : f j.toNatClampNeg = v)
    (hg : g.method = m) (hs : g.stack = .int j :: .ref a :: rest) (hd : decode c.code g.pc = .ok (.iaload, 1)) (t : State) (k : Steps p.tables e below (T.setTop { g with pc := g.pc + 1, stack := v :: rest }) t) : Steps p.tables e below (T.setTop g) t := by
  obtain ⟨cl, A, r1, r2⟩ := F
  exact X.iaload hx (by rw [eT]; exact A.1) (State.isArrayOf_alike hZ.alike A.2.1) A.2.2 (by rw [r1]; exact hj) (by rw [r2 _ (Nat.lt_of_not_le fun q => hj (Or.inr q)), hv]) hg hs hd t k
theorem own_laload {n : Nat} {f : Nat → Value} {a : Addr} {j : Int32} {v : Value} {g : JFrame} {rest : List Value} (X : Stand p l e R s m args below meth c T locs cells slots) (hx : p.tables.exec = Jvm.exec) (hZ : Z.Warmed39 s.vm) (eT : T.heap = h) (F : own_A Z h a .long n f) (hj : ¬ (j < 0 ∨ n ≤ j.toNatClampNeg)) (hv : f j.toNatClampNeg = v)
    (hg : g.method = m) (hs : g.stack = .int j :: .ref a :: rest) (hd : decode c.code g.pc = .ok (.laload, 1)) (t : State) (k : Steps p.tables e below (T.setTop { g with pc := g.pc + 1, stack := v :: rest }) t) : Steps p.tables e below (T.setTop g) t := by
  obtain ⟨cl, A, r1, r2⟩ := F
  exact X.laload hx (by rw [eT]; exact A.1) (State.isArrayOf_alike hZ.alike A.2.1) A.2.2 (by rw [r1]; exact hj) (by rw [r2 _ (Nat.lt_of_not_le fun q => hj (Or.inr q)), hv]) hg hs hd t k
theorem own_baload {n : Nat} {f : Nat → Value} {a : Addr} {j : Int32} {v : Value} {g : JFrame} {rest : List Value} (X : Stand p l e R s m args below meth c T locs cells slots) (hx : p.tables.exec = Jvm.exec) (hZ : Z.Warmed39 s.vm) (eT : T.heap = h) (F : own_A Z h a .byte n f) (hj : ¬ (j < 0 ∨ n ≤ j.toNatClampNeg)) (hv : f j.toNatClampNeg = v)
    (hg : g.method = m) (hs : g.stack = .int j :: .ref a :: rest) (hd : decode c.code g.pc = .ok (.baload, 1)) (t : State) (k : Steps p.tables e below (T.setTop { g with pc := g.pc + 1, stack := v :: rest }) t) : Steps p.tables e below (T.setTop g) t := by
  obtain ⟨cl, A, r1, r2⟩ := F
  exact X.baloadBytes hx (by rw [eT]; exact A.1) (State.isArrayOf_alike hZ.alike A.2.1) A.2.2 (by rw [r1]; exact hj) (by rw [r2 _ (Nat.lt_of_not_le fun q => hj (Or.inr q)), hv]) hg hs hd t k
theorem own_alen {ty : FieldType} {n : Nat} {f : Nat → Value} {a : Addr} {z : Int32} {g : JFrame} {rest : List Value} (X : Stand p l e R s m args below meth c T locs cells slots) (hx : p.tables.exec = Jvm.exec) (hZ : Z.Warmed39 s.vm) (eT : T.heap = h) (F : own_A Z h a ty n f) (hz : n.toInt32 = z)
    (hg : g.method = m) (hs : g.stack = .ref a :: rest) (hd : decode c.code g.pc = .ok (.arraylength, 1)) (t : State) (k : Steps p.tables e below (T.setTop { g with pc := g.pc + 1, stack := .int z :: rest }) t) : Steps p.tables e below (T.setTop g) t := by
  obtain ⟨cl, A, r1, r2⟩ := F
  subst hz
  exact X.arraylength hx (by rw [eT]; exact A.1) (State.isArrayOf_alike hZ.alike A.2.1) hg hs hd t (by rw [r1]; exact k)
theorem own_iastore {n : Nat} {f : Nat → Value} {a : Addr} {j x : Int32} {g : JFrame} {rest : List Value} (X : Stand p l e R s m args below meth c T locs cells slots) (hx : p.tables.exec = Jvm.exec) (hZ : Z.Warmed39 s.vm) (eT : T.heap = h) (F : own_A Z h a .int n f) (hj : ¬ (j < 0 ∨ n ≤ j.toNatClampNeg))
    (hg : g.method = m) (hs : g.stack = .int x :: .int j :: .ref a :: rest) (hd : decode c.code g.pc = .ok (.iastore, 1)) :
    ∃ T' h', Stand p l e R s m args below meth c T' (locs ++ [⟨a, j.toNatClampNeg⟩]) cells slots ∧ T'.heap = h' ∧ Wr h h' a j.toNatClampNeg (.int x) ∧ ∀ target, Steps p.tables e below (T'.setTop { g with pc := g.pc + 1, stack := rest }) target → Steps p.tables e below (T.setTop g) target := by
  obtain ⟨cl, A, r1, r2⟩ := F
  exact stI X hx hZ eT A (by rw [r1]; exact hj) hg hs hd
theorem own_lastore {n : Nat} {f : Nat → Value} {a : Addr} {j : Int32} {x : Int64} {g : JFrame} {rest : List Value} (X : Stand p l e R s m args below meth c T locs cells slots) (hx : p.tables.exec = Jvm.exec) (hZ : Z.Warmed39 s.vm) (eT : T.heap = h) (F : own_A Z h a .long n f) (hj : ¬ (j < 0 ∨ n ≤ j.toNatClampNeg))
    (hg : g.method = m) (hs : g.stack = .long x :: .int j :: .ref a :: rest) (hd : decode c.code g.pc = .ok (.lastore, 1)) :
    ∃ T' h', Stand p l e R s m args below meth c T' (locs ++ [⟨a, j.toNatClampNeg⟩]) cells slots ∧ T'.heap = h' ∧ Wr h h' a j.toNatClampNeg (.long x) ∧ ∀ target, Steps p.tables e below (T'.setTop { g with pc := g.pc + 1, stack := rest }) target → Steps p.tables e below (T.setTop g) target := by
  obtain ⟨cl, A, r1, r2⟩ := F
  exact stJ X hx hZ eT A (by rw [r1]; exact hj) hg hs hd
theorem own_bastore {n : Nat} {f : Nat → Value} {a : Addr} {j x : Int32} {g : JFrame} {rest : List Value} (X : Stand p l e R s m args below meth c T locs cells slots) (hx : p.tables.exec = Jvm.exec) (hZ : Z.Warmed39 s.vm) (eT : T.heap = h) (F : own_A Z h a .byte n f) (hj : ¬ (j < 0 ∨ n ≤ j.toNatClampNeg))
    (hg : g.method = m) (hs : g.stack = .int x :: .int j :: .ref a :: rest) (hd : decode c.code g.pc = .ok (.bastore, 1)) :
    ∃ T' h', Stand p l e R s m args below meth c T' (locs ++ [⟨a, j.toNatClampNeg⟩]) cells slots ∧ T'.heap = h' ∧ Wr h h' a j.toNatClampNeg (.int (nar .byte x)) ∧ ∀ target, Steps p.tables e below (T'.setTop { g with pc := g.pc + 1, stack := rest }) target → Steps p.tables e below (T.setTop g) target := by
  obtain ⟨cl, A, r1, r2⟩ := F
  exact stB X hx hZ eT A (by rw [r1]; exact hj) hg hs hd
theorem own_newarr {aty : ArrayType} {n : Int32} {rest : List Value} {g : JFrame} (X : Stand p l e R s m args below meth c T locs cells slots) (hx : p.tables.exec = Jvm.exec) (hZ : Z.Warmed39 s.vm) (w : (Jvm.Cond.arrayClass (newarray.typeOf aty)).before a0 Z = true) (eT : T.heap = h) (hg : g.method = m) (hd : decode c.code g.pc = .ok (.newarray aty, 2)) (hs : g.stack = .int n :: rest)
    (hn : ¬ n < 0) {cap : Nat} (hcap : n.toNatClampNeg ≤ cap) (hb : cap * 8 ≤ 536870912) (hc : cells + 1 ≤ R.cells) (hl : slots + cap ≤ R.slots) :
    ∃ T' h' a, Stand p l e R s m args below meth c T' locs (cells + 1) (slots + cap) ∧ T'.heap = h' ∧ a = h.size ∧ Ext h h' ∧ own_A Z h' a (newarray.typeOf aty) n.toNatClampNeg (fun _ => defaultValue (newarray.typeOf aty)) ∧
      ∀ target, Steps p.tables e below (T'.setTop { g with pc := g.pc + 2, stack := .ref a :: rest }) target → Steps p.tables e below (T.setTop g) target := by
  obtain ⟨T', h', cA, X', e', E', A', st⟩ := newP X hx hZ w eT hg hd hs hn hcap hb hc hl
  exact ⟨T', h', _, X', e', rfl, E', own_A.new A', st⟩
theorem own_new {own C : String} {index n : Nat} {g : JFrame} (X : Stand p l e R s m args below meth c T locs cells slots) (hx : p.tables.exec = Jvm.exec) (hZ : Z.Warmed39 s.vm) (hown : s.vm.findClass own = some m.cls) (w : (Jvm.Cond.classLink own index C).before a0 Z = true) (wi : (Jvm.Cond.instantiable C n).before a0 Z = true) (wz : (Jvm.Cond.initialized C).before a0 Z = true) (eT : T.heap = h)
    (hg : g.method = m) (hd : decode c.code g.pc = .ok (.new index, 3)) (hc : cells + 1 ≤ R.cells) (hl : slots + n ≤ R.slots) :
    ∃ T' h' a, Stand p l e R s m args below meth c T' locs (cells + 1) (slots + n) ∧ T'.heap = h' ∧ a = h.size ∧ Ext h h' ∧ Exa Z h' a C ∧ (∀ {O nm d : String} {ty : FieldType}, Laid Z a0 C O nm d → parseFieldDescriptor d = some ty → Fld Z h' a O nm d (defaultValue ty)) ∧
      ∀ target, Steps p.tables e below (T'.setTop { g with pc := g.pc + 3, stack := .ref a :: g.stack }) target → Steps p.tables e below (T.setTop g) target := by
  obtain ⟨T', h', X', e', E', A', D', -, st⟩ := newO X hx hZ hown w wi wz eT hg hd hc hl
  exact ⟨T', h', _, X', e', rfl, E', A', D', st⟩
theorem own_body {y : MethodName} {bytes : ByteArray} {maxL : Nat} {ret : Option FieldType} {ws : List Jvm.Cond} {rm : Room} {as' : Array Value} {h0 : Heap} (hpl : plainFor y = true)
    (body : ∀ (p : Program) (e : Env) (s : State) (m : MethodId) (below : List Frame) (meth : Method) (c : Code) (s₁ : State), p.tables.exec = Jvm.exec → c.code = bytes → c.maxLocals = maxL → s.vm.findClass y.cls = some m.cls → meth.name = y.name → meth.sig.returnType = ret → meth.locks = false → Z.Warmed39 s.vm → Stand p l e rm s m as' below meth c s₁ [] 0 0 → s₁.heap = h0 → own_Fin p.tables e below s rm Q s₁ (entryFrame m as' maxL)) :
    MetFree l y (head1 (Jvm.Cond.code y bytes maxL ret :: ws) rm) (fun a U => a = as' ∧ Z.Warmed39 U.vm ∧ U.heap = h0) (fun _ _ _ _ _ => True) (fun _ U o U' => ∃ v L, o = .returned v ∧ Q v U'.heap L ∧ FrameEnd U o U' L rm.cells rm.slots) := by
  refine MetFree.of_bodySF hpl hisR ?_
  intro p e s m args below meth c s₁ Bd hml0 hP hK
  obtain ⟨rfl, hZ, hh⟩ := hP
  exact body p e s m below meth c s₁ Bd.exec Bd.bytes hml0 (findClass_of_methodNamed Bd.named) (name_of_methodNamed Bd.named Bd.method).1 Bd.returns Bd.notSynchronized hZ (Stand.of_body Bd) (by rw [← hh, Bd.state]; rfl)
theorem own_callS {own : String} {index : Nat} {y : MethodName} {bytes : ByteArray} {maxL W : Nat} {ret : Option FieldType} {rm : Room} {as' : Array Value} {g : JFrame} {argsL rest : List Value}
    (X : Stand p l e R s m args below meth c T locs cells slots) (hx : p.tables.exec = Jvm.exec) (hZ : Z.Warmed39 s.vm) (hown : s.vm.findClass own = some m.cls)
    (w1 : (Jvm.Cond.methodLink own index y).before a0 Z = true) (w2 : (Jvm.Cond.static y).before a0 Z = true) (w3 : (Jvm.Cond.initialized y.cls).before a0 Z = true) (w4 : (Jvm.Cond.code y bytes maxL ret).before a0 Z = true)
    (hy : y.cls ≠ "java/lang/invoke/MethodHandle" ∧ y.cls ≠ "java/lang/invoke/VarHandle") (eT : T.heap = h)
    (hM : MetFree l y (head1 [Jvm.Cond.code y bytes maxL ret] rm) (fun a U => a = as' ∧ Z.Warmed39 U.vm ∧ U.heap = h) (fun _ _ _ _ _ => True) (fun _ U o U' => ∃ v L, o = .returned v ∧ Q v U'.heap L ∧ FrameEnd U o U' L rm.cells rm.slots))
    (hf : rm.frames + 1 ≤ R.frames) (hl : W + (maxL + 11) + rm.locals ≤ R.locals) (hg : g.method = m) (hsize : g.locals.size = c.maxLocals) (hlen : ∀ sig, parseMethodDescriptor y.desc = some sig → argsL.length = sig.parameters.length)
    (hstack : g.stack = argsL.reverse ++ rest) (has : argsL.toArray = as') (hW : 2 * g.monitorRoom + (rest.map fun v => v.category).sum ≤ W) (hdg : decode c.code g.pc = .ok (.invokestatic index, 3)) (hc : cells + rm.cells ≤ R.cells) (hs : slots + rm.slots ≤ R.slots) :
    ∃ (v : Option Value) (T' : State) (L : List Loc), Stand p l e R s m args below meth c T' (locs ++ L) (cells + rm.cells) (slots + rm.slots) ∧ Q v T'.heap L ∧
      ∀ target, Steps p.tables e below (T'.setTop { g with pc := g.pc + 3, stack := v.toList ++ rest }) target → Steps p.tables e below (T.setTop g) target := by
  obtain ⟨v, _, ⟨T', L', k', n'⟩, -, X', ⟨Lc, hQ, l', y', z'⟩, st⟩ := Jvm.LawKit.callS X hx (y := y) hown (mvT hZ w1) (mvT hZ w2) (mvT hZ w3) (mvT hZ w4) hy (backOf (W := W) hM hZ w4 w3 hf hl) hg hsize hlen hstack hW hdg (fun _ _ => ⟨has, eT, hc, hs⟩)
  dsimp only [Pt.U, Pt.locs, Pt.cells, Pt.slots] at X' l' y' z' st hQ
  subst l' y' z'
  exact ⟨v, T', Lc, X', hQ, st⟩
theorem own_callN {own : String} {index : Nat} {y : MethodName} {bytes : ByteArray} {maxL W : Nat} {rm : Room} {as' : Array Value} {g : JFrame} {a : Addr} {argsL rest : List Value}
    (X : Stand p l e R s m args below meth c T locs cells slots) (hx : p.tables.exec = Jvm.exec) (hZ : Z.Warmed39 s.vm) (hy1 : y.name = "<init>") (hown : s.vm.findClass own = some m.cls)
    (w1 : (Jvm.Cond.methodLink own index y).before a0 Z = true) (w2 : (Jvm.Cond.instanceMethod y).before a0 Z = true) (w3 : (Jvm.Cond.initialized y.cls).before a0 Z = true) (w4 : (Jvm.Cond.code y bytes maxL none).before a0 Z = true)
    (hy : y.cls ≠ "java/lang/invoke/MethodHandle" ∧ y.cls ≠ "java/lang/invoke/VarHandle") (eT : T.heap = h)
    (hM : MetFree l y (head1 [Jvm.Cond.code y bytes maxL none] rm) (fun a U => a = as' ∧ Z.Warmed39 U.vm ∧ U.heap = h) (fun _ _ _ _ _ => True) (fun _ U o U' => ∃ v L, o = .returned v ∧ Q v U'.heap L ∧ FrameEnd U o U' L rm.cells rm.slots))
    (hf : rm.frames + 1 ≤ R.frames) (hl : W + (maxL + 11) + rm.locals ≤ R.locals) (hg : g.method = m) (hsize : g.locals.size = c.maxLocals) (hlen : ∀ sig, parseMethodDescriptor y.desc = some sig → argsL.length = sig.parameters.length)
    (hstack : g.stack = argsL.reverse ++ .ref a :: rest) (has : (.ref a :: argsL).toArray = as') (hW : 2 * g.monitorRoom + (rest.map fun v => v.category).sum ≤ W) (hdg : decode c.code g.pc = .ok (.invokespecial index, 3)) (hc : cells + rm.cells ≤ R.cells) (hs : slots + rm.slots ≤ R.slots) :
    ∃ (v : Option Value) (T' : State) (L : List Loc), Stand p l e R s m args below meth c T' (locs ++ L) (cells + rm.cells) (slots + rm.slots) ∧ Q v T'.heap L ∧
      ∀ target, Steps p.tables e below (T'.setTop { g with pc := g.pc + 3, stack := v.toList ++ rest }) target → Steps p.tables e below (T.setTop g) target := by
  obtain ⟨v, _, ⟨T', L', k', n'⟩, -, X', ⟨Lc, hQ, l', y', z'⟩, st⟩ := X.specialBack hx (y := y) hy1 hown (mvT hZ w1) (mvT hZ w2) (mvT hZ w4) hy (backOf (W := W) hM hZ w4 w3 hf hl) hg hsize (Steps.refl _) (a := a) hlen hstack hW hdg (fun _ _ => ⟨has, eT, hc, hs⟩)
  dsimp only [Pt.U, Pt.locs, Pt.cells, Pt.slots] at X' l' y' z' st hQ
  subst l' y' z'
  exact ⟨v, T', Lc, X', hQ, fun _ k => st.trans k⟩
theorem own_callV {own C : String} {index : Nat} {y : MethodName} {bytes : ByteArray} {maxL W : Nat} {ret : Option FieldType} {rm : Room} {as' : Array Value} {g : JFrame} {a : Addr} {argsL rest : List Value}
    (X : Stand p l e R s m args below meth c T locs cells slots) (hx : p.tables.exec = Jvm.exec) (hZ : Z.Warmed39 s.vm) (hown : s.vm.findClass own = some m.cls)
    (w1 : (Jvm.Cond.methodLink own index y).before a0 Z = true) (w2 : (Jvm.Cond.declares y).before a0 Z = true) (w3 : (Jvm.Cond.selects C y y).before a0 Z = true) (w4 : (Jvm.Cond.instanceMethod y).before a0 Z = true) (w5 : (Jvm.Cond.initialized y.cls).before a0 Z = true) (w6 : (Jvm.Cond.code y bytes maxL ret).before a0 Z = true)
    (hy : y.cls ≠ "java/lang/invoke/MethodHandle" ∧ y.cls ≠ "java/lang/invoke/VarHandle") (eT : T.heap = h) (E : Exa Z h a C)
    (hM : MetFree l y (head1 [Jvm.Cond.code y bytes maxL ret] rm) (fun a U => a = as' ∧ Z.Warmed39 U.vm ∧ U.heap = h) (fun _ _ _ _ _ => True) (fun _ U o U' => ∃ v L, o = .returned v ∧ Q v U'.heap L ∧ FrameEnd U o U' L rm.cells rm.slots))
    (hf : rm.frames + 1 ≤ R.frames) (hl : W + (maxL + 11) + rm.locals ≤ R.locals) (hg : g.method = m) (hsize : g.locals.size = c.maxLocals) (hlen : ∀ sig, parseMethodDescriptor y.desc = some sig → argsL.length = sig.parameters.length)
    (hstack : g.stack = argsL.reverse ++ .ref a :: rest) (has : (.ref a :: argsL).toArray = as') (hW : 2 * g.monitorRoom + (rest.map fun v => v.category).sum ≤ W) (hdg : decode c.code g.pc = .ok (.invokevirtual index, 3)) (hc : cells + rm.cells ≤ R.cells) (hs : slots + rm.slots ≤ R.slots) :
    ∃ (v : Option Value) (T' : State) (L : List Loc), Stand p l e R s m args below meth c T' (locs ++ L) (cells + rm.cells) (slots + rm.slots) ∧ Q v T'.heap L ∧
      ∀ target, Steps p.tables e below (T'.setTop { g with pc := g.pc + 3, stack := v.toList ++ rest }) target → Steps p.tables e below (T.setTop g) target := by
  obtain ⟨cq, kq, qa, qb, qc⟩ := isOf hZ eT E
  obtain ⟨v, _, ⟨T', L', k', n'⟩, -, X', ⟨Lc, hQ, l', y', z'⟩, st⟩ := X.virtualBack hx (y := y) (z := y) hown (mvT hZ w1) (mvT hZ w2) (notFace_of_selects (args := args) (mvT hZ w3)) (mvT hZ w3) (mvT hZ w4) hy (backOf (W := W) hM hZ w6 w5 hf hl) qa qc hg hsize (Steps.refl _) hlen hstack hW hdg (fun _ _ => ⟨has, eT, hc, hs⟩)
  dsimp only [Pt.U, Pt.locs, Pt.cells, Pt.slots] at X' l' y' z' st hQ
  subst l' y' z'
  exact ⟨v, T', Lc, X', hQ, fun _ k => st.trans k⟩
end OwnStand
theorem own_idx (j : Int32) (n : Nat) (h0 : 0 ≤ j.toInt) (h1 : j.toInt < n) : ¬ (j < 0 ∨ n ≤ j.toNatClampNeg) := by
  have e : j.toNatClampNeg = j.toInt.toNat := rfl
  intro q
  rcases q with q | q
  · rw [Int32.lt_iff_toInt_lt] at q
    have : (0 : Int32).toInt = 0 := by decide
    omega
  · omega
theorem own_clamp (j : Int32) (k : Nat) (h : j.toInt = k) : j.toNatClampNeg = k := by
  have e : j.toNatClampNeg = j.toInt.toNat := rfl
  omega
theorem own_lt32 (x y : Int32) : x < y ↔ x.toInt < y.toInt := Int32.lt_iff_toInt_lt
theorem own_eq32 (x y : Int32) : x = y ↔ x.toInt = y.toInt := Int32.toInt_inj.symm
def own_B (g : Nat → Int32) (i : Nat) : Nat := ((g i).toInt % 256).toNat
/-- how many bytes the character at p takes, the bytes ending at e; 0: none is there -/
def own_cl (B : Nat → Nat) (p e : Nat) : Nat :=
  if B p < 128 then 1
  else if 194 ≤ B p ∧ B p < 224 ∧ 2 ≤ e - p ∧ 128 ≤ B (p + 1) ∧ B (p + 1) ≤ 191 then 2
  else if 224 ≤ B p ∧ B p < 240 ∧ 3 ≤ e - p ∧ 128 ≤ B (p + 1) ∧ B (p + 1) ≤ 191 ∧ (B p = 224 → 160 ≤ B (p + 1)) ∧ (B p = 237 → B (p + 1) ≤ 159) ∧ 128 ≤ B (p + 2) ∧ B (p + 2) ≤ 191 then 3
  else if 240 ≤ B p ∧ B p < 245 ∧ 4 ≤ e - p ∧ 128 ≤ B (p + 1) ∧ B (p + 1) ≤ 191 ∧ (B p = 240 → 144 ≤ B (p + 1)) ∧ (B p = 244 → B (p + 1) ≤ 143) ∧ 128 ≤ B (p + 2) ∧ B (p + 2) ≤ 191 ∧ 128 ≤ B (p + 3) ∧ B (p + 3) ≤ 191 then 4
  else 0
theorem own_cl_le (B : Nat → Nat) (p e : Nat) (h : p < e) : p + own_cl B p e ≤ e := by
  unfold own_cl
  (repeat' split) <;> omega
def own_adv (B : Nat → Nat) (e : Nat) (x : Int) : Int := if x < 0 ∨ (e : Int) ≤ x then x else if own_cl B x.toNat e = 0 then -1 else x + (own_cl B x.toNat e : Int)
def own_it (B : Nat → Nat) (e : Nat) : Nat → Int → Int
  | 0, x => x
  | k + 1, x => own_it B e k (own_adv B e x)
def own_wf (B : Nat → Nat) (e : Nat) : Nat → Nat → Bool
  | 0, _ => true
  | k + 1, p => if p < e then (if own_cl B p e = 0 then false else own_wf B e k (p + own_cl B p e)) else true
theorem own_it_m1 (B : Nat → Nat) (e k : Nat) : own_it B e k (-1) = -1 := by
  induction k with
  | zero => rfl
  | succ k ih => rw [own_it, own_adv, if_pos (by omega), ih]
theorem own_it_e (B : Nat → Nat) (e k : Nat) : own_it B e k e = e := by
  induction k with
  | zero => rfl
  | succ k ih => rw [own_it, own_adv, if_pos (by omega), ih]
theorem own_it_wf (B : Nat → Nat) (e : Nat) : ∀ k p : Nat, p ≤ e → e - p ≤ k → (own_it B e k p = e ↔ own_wf B e (k + 1) p = true) := by
  intro k
  induction k with
  | zero =>
    intro p h1 h2
    have : p = e := by omega
    subst this
    rw [own_it, own_wf, if_neg (by omega)]; simp
  | succ k ih =>
    intro p h1 h2
    by_cases h : p < e
    · rw [own_wf, if_pos h, own_it, own_adv, if_neg (by omega)]
      have e1 : ((p : Int)).toNat = p := rfl
      rw [e1]
      by_cases c : own_cl B p e = 0
      · rw [if_pos c, if_pos c, own_it_m1]; simp
      · rw [if_neg c, if_neg c]
        have := own_cl_le B p e h
        have e2 : (p : Int) + (own_cl B p e : Int) = ((p + own_cl B p e : Nat) : Int) := by omega
        rw [e2]
        exact ih _ this (by omega)
    · have : p = e := by omega
      subst this
      rw [own_it_e, own_wf, if_neg (by omega)]; simp
theorem own_cont (b : Int32) (n : Nat) (h : b.toInt = n) (hn : n < 256) : b &&& 192 = 128 ↔ (128 ≤ n ∧ n ≤ 191) := by
  have e : b = Int32.ofNat n := by apply Int32.toInt_inj.mp; rw [h, Int32.toInt_ofNat_of_lt (by omega)]
  subst e
  have : ∀ k : Fin 256, Int32.ofNat k.1 &&& 192 = 128 ↔ (128 ≤ k.1 ∧ k.1 ≤ 191) := by decide +kernel
  exact this ⟨n, hn⟩
def own_ct (x : Int32) : Int32 := if x < 128 then 0 else if 191 < x then 0 else 1
theorem own_ct0 (x : Int32) : own_ct x = 0 ↔ ¬ (128 ≤ x.toInt ∧ x.toInt ≤ 191) := by
  have k1 : (128 : Int32).toInt = 128 := by decide
  have k2 : (191 : Int32).toInt = 191 := by decide
  unfold own_ct
  by_cases h : x < 128
  · rw [if_pos h]; rw [Int32.lt_iff_toInt_lt] at h; simp; omega
  · rw [if_neg h]
    by_cases h2 : 191 < x
    · rw [if_pos h2]; rw [Int32.lt_iff_toInt_lt] at h2; simp; omega
    · rw [if_neg h2]; rw [Int32.lt_iff_toInt_lt] at h h2; constructor
      · intro q; exact absurd q (by decide)
      · intro q; exfalso; omega
theorem own_wf_step (B : Nat → Nat) (e k p n : Nat) (h : p < e) (hc : own_cl B p e = n) (hn : n ≠ 0) : own_wf B e (k + 1) p = own_wf B e k (p + n) := by rw [own_wf, if_pos h, hc, if_neg hn]
theorem own_wf_bad (B : Nat → Nat) (e k p : Nat) (h : p < e) (hc : own_cl B p e = 0) : own_wf B e (k + 1) p = false := by rw [own_wf, if_pos h, hc, if_pos rfl]
theorem own_wf_end (B : Nat → Nat) (e k p : Nat) (h : ¬ p < e) : own_wf B e (k + 1) p = true := by rw [own_wf, if_neg h]

theorem own_byte (g : Nat → Int32) (i : Nat) : (g i &&& 255).toInt = (own_B g i : Int) ∧ own_B g i < 256 := by
  have h := c_mask (g i) 255 8 (by decide) (by decide)
  unfold own_B
  omega
theorem d5_0 : decode method_5_code 0 = .ok (.iload_n 0, 1) := by decide +kernel
theorem d5_1 : decode method_5_code 1 = .ok (.sipush 128, 3) := by decide +kernel
theorem d5_4 : decode method_5_code 4 = .ok (.if_icmp .lt 14, 3) := by decide +kernel
theorem d5_7 : decode method_5_code 7 = .ok (.iload_n 0, 1) := by decide +kernel
theorem d5_8 : decode method_5_code 8 = .ok (.sipush 191, 3) := by decide +kernel
theorem d5_11 : decode method_5_code 11 = .ok (.if_icmp .gt 7, 3) := by decide +kernel
theorem d5_14 : decode method_5_code 14 = .ok (.iconst 1, 1) := by decide +kernel
theorem d5_15 : decode method_5_code 15 = .ok (.goto 4, 3) := by decide +kernel
theorem d5_18 : decode method_5_code 18 = .ok (.iconst 0, 1) := by decide +kernel
theorem d5_19 : decode method_5_code 19 = .ok (.ireturn, 1) := by decide +kernel
theorem pn_5 : plainFor (⟨"com/example/leafline/leafline/table/CodePointOrderWellFormedPinLaw", "isCont", "(I)Z"⟩ : MethodName) = true := plainFor_of_name (by first | (simp [plainName, overriddenIn]; done) | decide +kernel)
theorem ef_5 (m : MethodId) (p1 : Int32) : entryFrame m #[(.int p1)] 1 = mkF m 0 #[.val (.int p1)] [] := by first | (simp [entryFrame, mkF, argsToLocals, Value.category]; done) | rfl
def Q5 (Z : State) (p1 : Int32) (hI : Heap) (n0 : Nat) (v : Option Value) (h : Heap) (L : List Loc) : Prop := v = some (.int (own_ct p1)) ∧ Fr n0 L ∧ h = hI
set_option maxRecDepth 65536 in
set_option maxHeartbeats 40000000 in
theorem rm5 (l : Launch) (Z : State) (a0 : Array Value) (hw : ∀ d ∈ tables_1, d.before a0 Z = true) (ws : List Jvm.Cond) (p1 : Int32) (hI : Heap) (n0 : Nat) (Z0 : n0 ≤ hI.size) :
    MetFree l (⟨"com/example/leafline/leafline/table/CodePointOrderWellFormedPinLaw", "isCont", "(I)Z"⟩ : MethodName) (head1 (Jvm.Cond.code (⟨"com/example/leafline/leafline/table/CodePointOrderWellFormedPinLaw", "isCont", "(I)Z"⟩ : MethodName) method_5_code 1 (some .boolean) :: ws) ({ frames := 0, cells := 0, slots := 0, locals := 0 } : Room)) (fun a₁ U₁ => a₁ = #[(.int p1)] ∧ Z.Warmed39 U₁.vm ∧ U₁.heap = hI) (fun _ _ _ _ _ => True) (fun _ U₁ o₁ U₂ => ∃ v₁ L₁, o₁ = .returned v₁ ∧ Q5 Z p1 hI n0 v₁ U₂.heap L₁ ∧ FrameEnd U₁ o₁ U₂ L₁ ({ frames := 0, cells := 0, slots := 0, locals := 0 } : Room).cells ({ frames := 0, cells := 0, slots := 0, locals := 0 } : Room).slots) := by
  refine own_body pn_5 ?_
  intro p e s m below meth c s₁ hx hby hml hown hnm hret hlk hZ XI eI
  obtain ⟨F, hF⟩ : ∃ F : State → JFrame → Prop, F = own_Fin p.tables e below s ({ frames := 0, cells := 0, slots := 0, locals := 0 } : Room) (Q5 Z p1 hI n0) := ⟨_, rfl⟩
  have hst : ∀ {T T' : State} {g g' : JFrame}, (∀ t, Steps p.tables e below (T'.setTop g') t → Steps p.tables e below (T.setTop g) t) → F T' g' → F T g := by subst hF; exact own_st
  have NI := Fr.nil n0
  show own_Fin p.tables e below s ({ frames := 0, cells := 0, slots := 0, locals := 0 } : Room) (Q5 Z p1 hI n0) s₁ (entryFrame m #[(.int p1)] 1)
  rw [← hF]
  rw [ef_5]
  show F s₁ (mkF m 0 #[.val (.int p1)] [])
  refine hst (fun t₀ k₀ => XS.iloadN XI.here hx rfl (hb hby d5_0) rfl k₀) ?_
  show F s₁ (mkF m 1 #[.val (.int p1)] [(.int p1)])
  refine hst (fun t₀ k₀ => XS.sipush XI.here hx rfl (hb hby d5_1) k₀) ?_
  show F s₁ (mkF m 4 #[.val (.int p1)] [(.int (128 : Int32)), (.int p1)])
  by_cases hc4 : p1 < (128 : Int32)
  · -- pc 4: taken
    refine hst (fun t₀ k₀ => XS.icmpYes XI.here hx rfl (pc0 := 4) (pc' := 18) rfl (hb hby d5_4) rfl (tlt hc4).1 (by decide) (by decide) k₀) ?_
    show F s₁ (mkF m 18 #[.val (.int p1)] [])
    refine hst (fun t₀ k₀ => XS.iconst XI.here hx rfl (hb hby d5_18) k₀) ?_
    show F s₁ (mkF m 19 #[.val (.int p1)] [(.int (0 : Int32))])
    rw [hF]
    refine own_retN XI hx hret (by simp) hlk (hb hby d5_19) (by decide) (by decide) ?_
    rw [eI]
    exact ⟨(by unfold own_ct; rw [if_pos hc4]; rfl), NI, rfl⟩
  · -- pc 4: not taken
    refine hst (fun t₀ k₀ => XS.icmpNo XI.here hx rfl (hb hby d5_4) rfl (flt hc4).1 k₀) ?_
    show F s₁ (mkF m 7 #[.val (.int p1)] [])
    refine hst (fun t₀ k₀ => XS.iloadN XI.here hx rfl (hb hby d5_7) rfl k₀) ?_
    show F s₁ (mkF m 8 #[.val (.int p1)] [(.int p1)])
    refine hst (fun t₀ k₀ => XS.sipush XI.here hx rfl (hb hby d5_8) k₀) ?_
    show F s₁ (mkF m 11 #[.val (.int p1)] [(.int (191 : Int32)), (.int p1)])
    by_cases hc11 : (191 : Int32) < p1
    · -- pc 11: taken
      refine hst (fun t₀ k₀ => XS.icmpYes XI.here hx rfl (pc0 := 11) (pc' := 18) rfl (hb hby d5_11) rfl (tlt hc11).2.2.1 (by decide) (by decide) k₀) ?_
      show F s₁ (mkF m 18 #[.val (.int p1)] [])
      refine hst (fun t₀ k₀ => XS.iconst XI.here hx rfl (hb hby d5_18) k₀) ?_
      show F s₁ (mkF m 19 #[.val (.int p1)] [(.int (0 : Int32))])
      rw [hF]
      refine own_retN XI hx hret (by simp) hlk (hb hby d5_19) (by decide) (by decide) ?_
      rw [eI]
      exact ⟨(by unfold own_ct; rw [if_neg hc4, if_pos hc11]; rfl), NI, rfl⟩
    · -- pc 11: not taken
      refine hst (fun t₀ k₀ => XS.icmpNo XI.here hx rfl (hb hby d5_11) rfl (flt hc11).2.2.1 k₀) ?_
      show F s₁ (mkF m 14 #[.val (.int p1)] [])
      refine hst (fun t₀ k₀ => XS.iconst XI.here hx rfl (hb hby d5_14) k₀) ?_
      show F s₁ (mkF m 15 #[.val (.int p1)] [(.int (1 : Int32))])
      refine hst (fun t₀ k₀ => XS.goto XI.here hx rfl (pc0 := 15) (pc' := 19) rfl (hb hby d5_15) (by decide) (by decide) k₀) ?_
      show F s₁ (mkF m 19 #[.val (.int p1)] [(.int (1 : Int32))])
      rw [hF]
      refine own_retN XI hx hret (by simp) hlk (hb hby d5_19) (by decide) (by decide) ?_
      rw [eI]
      exact ⟨(by unfold own_ct; rw [if_neg hc4, if_neg hc11]; rfl), NI, rfl⟩
theorem d4_0 : decode method_6_code 0 = .ok (.aload_n 0, 1) := by decide +kernel
theorem d4_1 : decode method_6_code 1 = .ok (.iload_n 1, 1) := by decide +kernel
theorem d4_2 : decode method_6_code 2 = .ok (.baload, 1) := by decide +kernel
theorem d4_3 : decode method_6_code 3 = .ok (.sipush 255, 3) := by decide +kernel
theorem d4_6 : decode method_6_code 6 = .ok (.iand, 1) := by decide +kernel
theorem d4_7 : decode method_6_code 7 = .ok (.istore_n 3, 1) := by decide +kernel
theorem d4_8 : decode method_6_code 8 = .ok (.iload_n 3, 1) := by decide +kernel
theorem d4_9 : decode method_6_code 9 = .ok (.sipush 128, 3) := by decide +kernel
theorem d4_12 : decode method_6_code 12 = .ok (.if_icmp .ge 5, 3) := by decide +kernel
theorem d4_15 : decode method_6_code 15 = .ok (.iconst 1, 1) := by decide +kernel
theorem d4_16 : decode method_6_code 16 = .ok (.ireturn, 1) := by decide +kernel
theorem d4_17 : decode method_6_code 17 = .ok (.iload_n 3, 1) := by decide +kernel
theorem d4_18 : decode method_6_code 18 = .ok (.sipush 192, 3) := by decide +kernel
theorem d4_21 : decode method_6_code 21 = .ok (.if_icmp .ge 5, 3) := by decide +kernel
theorem d4_24 : decode method_6_code 24 = .ok (.iconst 0, 1) := by decide +kernel
theorem d4_25 : decode method_6_code 25 = .ok (.ireturn, 1) := by decide +kernel
theorem d4_26 : decode method_6_code 26 = .ok (.iload_n 3, 1) := by decide +kernel
theorem d4_27 : decode method_6_code 27 = .ok (.sipush 224, 3) := by decide +kernel
theorem d4_30 : decode method_6_code 30 = .ok (.if_icmp .ge 9, 3) := by decide +kernel
theorem d4_33 : decode method_6_code 33 = .ok (.iconst 2, 1) := by decide +kernel
theorem d4_34 : decode method_6_code 34 = .ok (.istore 4, 2) := by decide +kernel
theorem d4_36 : decode method_6_code 36 = .ok (.goto 31, 3) := by decide +kernel
theorem d4_39 : decode method_6_code 39 = .ok (.iload_n 3, 1) := by decide +kernel
theorem d4_40 : decode method_6_code 40 = .ok (.sipush 240, 3) := by decide +kernel
theorem d4_43 : decode method_6_code 43 = .ok (.if_icmp .ge 9, 3) := by decide +kernel
theorem d4_46 : decode method_6_code 46 = .ok (.iconst 3, 1) := by decide +kernel
theorem d4_47 : decode method_6_code 47 = .ok (.istore 4, 2) := by decide +kernel
theorem d4_49 : decode method_6_code 49 = .ok (.goto 18, 3) := by decide +kernel
theorem d4_52 : decode method_6_code 52 = .ok (.iload_n 3, 1) := by decide +kernel
theorem d4_53 : decode method_6_code 53 = .ok (.sipush 248, 3) := by decide +kernel
theorem d4_56 : decode method_6_code 56 = .ok (.if_icmp .ge 9, 3) := by decide +kernel
theorem d4_59 : decode method_6_code 59 = .ok (.iconst 4, 1) := by decide +kernel
theorem d4_60 : decode method_6_code 60 = .ok (.istore 4, 2) := by decide +kernel
theorem d4_62 : decode method_6_code 62 = .ok (.goto 5, 3) := by decide +kernel
theorem d4_65 : decode method_6_code 65 = .ok (.iconst 0, 1) := by decide +kernel
theorem d4_66 : decode method_6_code 66 = .ok (.ireturn, 1) := by decide +kernel
theorem d4_67 : decode method_6_code 67 = .ok (.iload_n 2, 1) := by decide +kernel
theorem d4_68 : decode method_6_code 68 = .ok (.iload_n 1, 1) := by decide +kernel
theorem d4_69 : decode method_6_code 69 = .ok (.isub, 1) := by decide +kernel
theorem d4_70 : decode method_6_code 70 = .ok (.iload 4, 2) := by decide +kernel
theorem d4_72 : decode method_6_code 72 = .ok (.if_icmp .ge 5, 3) := by decide +kernel
theorem d4_75 : decode method_6_code 75 = .ok (.iconst 0, 1) := by decide +kernel
theorem d4_76 : decode method_6_code 76 = .ok (.ireturn, 1) := by decide +kernel
theorem d4_77 : decode method_6_code 77 = .ok (.aload_n 0, 1) := by decide +kernel
theorem d4_78 : decode method_6_code 78 = .ok (.iload_n 1, 1) := by decide +kernel
theorem d4_79 : decode method_6_code 79 = .ok (.iconst 1, 1) := by decide +kernel
theorem d4_80 : decode method_6_code 80 = .ok (.iadd, 1) := by decide +kernel
theorem d4_81 : decode method_6_code 81 = .ok (.baload, 1) := by decide +kernel
theorem d4_82 : decode method_6_code 82 = .ok (.sipush 255, 3) := by decide +kernel
theorem d4_85 : decode method_6_code 85 = .ok (.iand, 1) := by decide +kernel
theorem d4_86 : decode method_6_code 86 = .ok (.istore 5, 2) := by decide +kernel
theorem d4_88 : decode method_6_code 88 = .ok (.iload 5, 2) := by decide +kernel
theorem d4_90 : decode method_6_code 90 = .ok (.invokestatic 26, 3) := by decide +kernel
theorem d4_93 : decode method_6_code 93 = .ok (.ifCond .ne 5, 3) := by decide +kernel
theorem d4_96 : decode method_6_code 96 = .ok (.iconst 0, 1) := by decide +kernel
theorem d4_97 : decode method_6_code 97 = .ok (.ireturn, 1) := by decide +kernel
theorem d4_98 : decode method_6_code 98 = .ok (.iload 4, 2) := by decide +kernel
theorem d4_100 : decode method_6_code 100 = .ok (.iconst 2, 1) := by decide +kernel
theorem d4_101 : decode method_6_code 101 = .ok (.if_icmp .ne 26, 3) := by decide +kernel
theorem d4_104 : decode method_6_code 104 = .ok (.iload_n 3, 1) := by decide +kernel
theorem d4_105 : decode method_6_code 105 = .ok (.bipush 31, 2) := by decide +kernel
theorem d4_107 : decode method_6_code 107 = .ok (.iand, 1) := by decide +kernel
theorem d4_108 : decode method_6_code 108 = .ok (.bipush 6, 2) := by decide +kernel
theorem d4_110 : decode method_6_code 110 = .ok (.ishl, 1) := by decide +kernel
theorem d4_111 : decode method_6_code 111 = .ok (.iload 5, 2) := by decide +kernel
theorem d4_113 : decode method_6_code 113 = .ok (.bipush 63, 2) := by decide +kernel
theorem d4_115 : decode method_6_code 115 = .ok (.iand, 1) := by decide +kernel
theorem d4_116 : decode method_6_code 116 = .ok (.ior, 1) := by decide +kernel
theorem d4_117 : decode method_6_code 117 = .ok (.istore 6, 2) := by decide +kernel
theorem d4_119 : decode method_6_code 119 = .ok (.sipush 128, 3) := by decide +kernel
theorem d4_122 : decode method_6_code 122 = .ok (.istore 7, 2) := by decide +kernel
theorem d4_124 : decode method_6_code 124 = .ok (.goto 120, 3) := by decide +kernel
theorem d4_127 : decode method_6_code 127 = .ok (.aload_n 0, 1) := by decide +kernel
theorem d4_128 : decode method_6_code 128 = .ok (.iload_n 1, 1) := by decide +kernel
theorem d4_129 : decode method_6_code 129 = .ok (.iconst 2, 1) := by decide +kernel
theorem d4_130 : decode method_6_code 130 = .ok (.iadd, 1) := by decide +kernel
theorem d4_131 : decode method_6_code 131 = .ok (.baload, 1) := by decide +kernel
theorem d4_132 : decode method_6_code 132 = .ok (.sipush 255, 3) := by decide +kernel
theorem d4_135 : decode method_6_code 135 = .ok (.iand, 1) := by decide +kernel
theorem d4_136 : decode method_6_code 136 = .ok (.istore 8, 2) := by decide +kernel
theorem d4_138 : decode method_6_code 138 = .ok (.iload 8, 2) := by decide +kernel
theorem d4_140 : decode method_6_code 140 = .ok (.invokestatic 26, 3) := by decide +kernel
theorem d4_143 : decode method_6_code 143 = .ok (.ifCond .ne 5, 3) := by decide +kernel
theorem d4_146 : decode method_6_code 146 = .ok (.iconst 0, 1) := by decide +kernel
theorem d4_147 : decode method_6_code 147 = .ok (.ireturn, 1) := by decide +kernel
theorem d4_148 : decode method_6_code 148 = .ok (.iload 4, 2) := by decide +kernel
theorem d4_150 : decode method_6_code 150 = .ok (.iconst 3, 1) := by decide +kernel
theorem d4_151 : decode method_6_code 151 = .ok (.if_icmp .ne 35, 3) := by decide +kernel
theorem d4_154 : decode method_6_code 154 = .ok (.iload_n 3, 1) := by decide +kernel
theorem d4_155 : decode method_6_code 155 = .ok (.bipush 15, 2) := by decide +kernel
theorem d4_157 : decode method_6_code 157 = .ok (.iand, 1) := by decide +kernel
theorem d4_158 : decode method_6_code 158 = .ok (.bipush 12, 2) := by decide +kernel
theorem d4_160 : decode method_6_code 160 = .ok (.ishl, 1) := by decide +kernel
theorem d4_161 : decode method_6_code 161 = .ok (.iload 5, 2) := by decide +kernel
theorem d4_163 : decode method_6_code 163 = .ok (.bipush 63, 2) := by decide +kernel
theorem d4_165 : decode method_6_code 165 = .ok (.iand, 1) := by decide +kernel
theorem d4_166 : decode method_6_code 166 = .ok (.bipush 6, 2) := by decide +kernel
theorem d4_168 : decode method_6_code 168 = .ok (.ishl, 1) := by decide +kernel
theorem d4_169 : decode method_6_code 169 = .ok (.ior, 1) := by decide +kernel
theorem d4_170 : decode method_6_code 170 = .ok (.iload 8, 2) := by decide +kernel
theorem d4_172 : decode method_6_code 172 = .ok (.bipush 63, 2) := by decide +kernel
theorem d4_174 : decode method_6_code 174 = .ok (.iand, 1) := by decide +kernel
theorem d4_175 : decode method_6_code 175 = .ok (.ior, 1) := by decide +kernel
theorem d4_176 : decode method_6_code 176 = .ok (.istore 6, 2) := by decide +kernel
theorem d4_178 : decode method_6_code 178 = .ok (.sipush 2048, 3) := by decide +kernel
theorem d4_181 : decode method_6_code 181 = .ok (.istore 7, 2) := by decide +kernel
theorem d4_183 : decode method_6_code 183 = .ok (.goto 61, 3) := by decide +kernel
theorem d4_186 : decode method_6_code 186 = .ok (.aload_n 0, 1) := by decide +kernel
theorem d4_187 : decode method_6_code 187 = .ok (.iload_n 1, 1) := by decide +kernel
theorem d4_188 : decode method_6_code 188 = .ok (.iconst 3, 1) := by decide +kernel
theorem d4_189 : decode method_6_code 189 = .ok (.iadd, 1) := by decide +kernel
theorem d4_190 : decode method_6_code 190 = .ok (.baload, 1) := by decide +kernel
theorem d4_191 : decode method_6_code 191 = .ok (.sipush 255, 3) := by decide +kernel
theorem d4_194 : decode method_6_code 194 = .ok (.iand, 1) := by decide +kernel
theorem d4_195 : decode method_6_code 195 = .ok (.istore 9, 2) := by decide +kernel
theorem d4_197 : decode method_6_code 197 = .ok (.iload 9, 2) := by decide +kernel
theorem d4_199 : decode method_6_code 199 = .ok (.invokestatic 26, 3) := by decide +kernel
theorem d4_202 : decode method_6_code 202 = .ok (.ifCond .ne 5, 3) := by decide +kernel
theorem d4_205 : decode method_6_code 205 = .ok (.iconst 0, 1) := by decide +kernel
theorem d4_206 : decode method_6_code 206 = .ok (.ireturn, 1) := by decide +kernel
theorem d4_207 : decode method_6_code 207 = .ok (.iload_n 3, 1) := by decide +kernel
theorem d4_208 : decode method_6_code 208 = .ok (.bipush 7, 2) := by decide +kernel
theorem d4_210 : decode method_6_code 210 = .ok (.iand, 1) := by decide +kernel
theorem d4_211 : decode method_6_code 211 = .ok (.bipush 18, 2) := by decide +kernel
theorem d4_213 : decode method_6_code 213 = .ok (.ishl, 1) := by decide +kernel
theorem d4_214 : decode method_6_code 214 = .ok (.iload 5, 2) := by decide +kernel
theorem d4_216 : decode method_6_code 216 = .ok (.bipush 63, 2) := by decide +kernel
theorem d4_218 : decode method_6_code 218 = .ok (.iand, 1) := by decide +kernel
theorem d4_219 : decode method_6_code 219 = .ok (.bipush 12, 2) := by decide +kernel
theorem d4_221 : decode method_6_code 221 = .ok (.ishl, 1) := by decide +kernel
theorem d4_222 : decode method_6_code 222 = .ok (.ior, 1) := by decide +kernel
theorem d4_223 : decode method_6_code 223 = .ok (.iload 8, 2) := by decide +kernel
theorem d4_225 : decode method_6_code 225 = .ok (.bipush 63, 2) := by decide +kernel
theorem d4_227 : decode method_6_code 227 = .ok (.iand, 1) := by decide +kernel
theorem d4_228 : decode method_6_code 228 = .ok (.bipush 6, 2) := by decide +kernel
theorem d4_230 : decode method_6_code 230 = .ok (.ishl, 1) := by decide +kernel
theorem d4_231 : decode method_6_code 231 = .ok (.ior, 1) := by decide +kernel
theorem d4_232 : decode method_6_code 232 = .ok (.iload 9, 2) := by decide +kernel
theorem d4_234 : decode method_6_code 234 = .ok (.bipush 63, 2) := by decide +kernel
theorem d4_236 : decode method_6_code 236 = .ok (.iand, 1) := by decide +kernel
theorem d4_237 : decode method_6_code 237 = .ok (.ior, 1) := by decide +kernel
theorem d4_238 : decode method_6_code 238 = .ok (.istore 6, 2) := by decide +kernel
theorem d4_240 : decode method_6_code 240 = .ok (.ldc 30, 2) := by decide +kernel
theorem d4_242 : decode method_6_code 242 = .ok (.istore 7, 2) := by decide +kernel
theorem d4_244 : decode method_6_code 244 = .ok (.iload 6, 2) := by decide +kernel
theorem d4_246 : decode method_6_code 246 = .ok (.iload 7, 2) := by decide +kernel
theorem d4_248 : decode method_6_code 248 = .ok (.if_icmp .ge 5, 3) := by decide +kernel
theorem d4_251 : decode method_6_code 251 = .ok (.iconst 0, 1) := by decide +kernel
theorem d4_252 : decode method_6_code 252 = .ok (.ireturn, 1) := by decide +kernel
theorem d4_253 : decode method_6_code 253 = .ok (.iload 6, 2) := by decide +kernel
theorem d4_255 : decode method_6_code 255 = .ok (.ldc 31, 2) := by decide +kernel
theorem d4_257 : decode method_6_code 257 = .ok (.if_icmp .le 5, 3) := by decide +kernel
theorem d4_260 : decode method_6_code 260 = .ok (.iconst 0, 1) := by decide +kernel
theorem d4_261 : decode method_6_code 261 = .ok (.ireturn, 1) := by decide +kernel
theorem d4_262 : decode method_6_code 262 = .ok (.iload 6, 2) := by decide +kernel
theorem d4_264 : decode method_6_code 264 = .ok (.ldc 32, 2) := by decide +kernel
theorem d4_266 : decode method_6_code 266 = .ok (.if_icmp .lt 12, 3) := by decide +kernel
theorem d4_269 : decode method_6_code 269 = .ok (.iload 6, 2) := by decide +kernel
theorem d4_271 : decode method_6_code 271 = .ok (.ldc 33, 2) := by decide +kernel
theorem d4_273 : decode method_6_code 273 = .ok (.if_icmp .gt 5, 3) := by decide +kernel
theorem d4_276 : decode method_6_code 276 = .ok (.iconst 0, 1) := by decide +kernel
theorem d4_277 : decode method_6_code 277 = .ok (.ireturn, 1) := by decide +kernel
theorem d4_278 : decode method_6_code 278 = .ok (.iload 4, 2) := by decide +kernel
theorem d4_280 : decode method_6_code 280 = .ok (.ireturn, 1) := by decide +kernel
theorem pn_4 : plainFor (⟨"com/example/leafline/leafline/table/CodePointOrderWellFormedPinLaw", "charLength", "([BII)I"⟩ : MethodName) = true := plainFor_of_name (by first | (simp [plainName, overriddenIn]; done) | decide +kernel)
theorem pd_0 : parseMethodDescriptor "(I)Z" = some ⟨[.int], some .boolean⟩ := by decide +kernel
theorem ef_4 (m : MethodId) (a : Addr) (pv : Int32) (ev : Int32) : entryFrame m #[(.ref a), (.int pv), (.int ev)] 10 = mkF m 0 #[.val (.ref a), .val (.int pv), .val (.int ev), .unset, .unset, .unset, .unset, .unset, .unset, .unset] [] := by first | (simp [entryFrame, mkF, argsToLocals, Value.category]; done) | rfl
def Q4 (Z : State) (a : Addr) (pv : Int32) (ev : Int32) (g : Nat → Int32) (p' : Nat) (e' : Nat) (hI : Heap) (n0 : Nat) (v : Option Value) (h : Heap) (L : List Loc) : Prop := v = some (.int (Int32.ofNat (own_cl (own_B g) p' e'))) ∧ Fr n0 L ∧ h = hI
set_option maxRecDepth 65536 in
set_option maxHeartbeats 40000000 in
theorem rm4 (l : Launch) (Z : State) (a0 : Array Value) (hw : ∀ d ∈ tables_1, d.before a0 Z = true) (ws : List Jvm.Cond) (a : Addr) (pv : Int32) (ev : Int32) (g : Nat → Int32) (p' : Nat) (e' : Nat) (hI : Heap) (n0 : Nat) (Z0 : n0 ≤ hI.size) (Ar : own_A Z hI a .byte 6 (fun i => .int (g i))) (hp : pv.toInt = p') (he : ev.toInt = e') (hpe : p' < e') (he6 : e' ≤ 6) :
    MetFree l (⟨"com/example/leafline/leafline/table/CodePointOrderWellFormedPinLaw", "charLength", "([BII)I"⟩ : MethodName) (head1 (Jvm.Cond.code (⟨"com/example/leafline/leafline/table/CodePointOrderWellFormedPinLaw", "charLength", "([BII)I"⟩ : MethodName) method_6_code 10 (some .int) :: ws) ({ frames := 1, cells := 0, slots := 0, locals := 12 } : Room)) (fun a₁ U₁ => a₁ = #[(.ref a), (.int pv), (.int ev)] ∧ Z.Warmed39 U₁.vm ∧ U₁.heap = hI) (fun _ _ _ _ _ => True) (fun _ U₁ o₁ U₂ => ∃ v₁ L₁, o₁ = .returned v₁ ∧ Q4 Z a pv ev g p' e' hI n0 v₁ U₂.heap L₁ ∧ FrameEnd U₁ o₁ U₂ L₁ ({ frames := 1, cells := 0, slots := 0, locals := 12 } : Room).cells ({ frames := 1, cells := 0, slots := 0, locals := 12 } : Room).slots) := by
  refine own_body pn_4 ?_
  intro p e s m below meth c s₁ hx hby hml hown hnm hret hlk hZ XI eI
  obtain ⟨F, hF⟩ : ∃ F : State → JFrame → Prop, F = own_Fin p.tables e below s ({ frames := 1, cells := 0, slots := 0, locals := 12 } : Room) (Q4 Z a pv ev g p' e' hI n0) := ⟨_, rfl⟩
  have hst : ∀ {T T' : State} {g g' : JFrame}, (∀ t, Steps p.tables e below (T'.setTop g') t → Steps p.tables e below (T.setTop g) t) → F T' g' → F T g := by subst hF; exact own_st
  have NI := Fr.nil n0
  show own_Fin p.tables e below s ({ frames := 1, cells := 0, slots := 0, locals := 12 } : Room) (Q4 Z a pv ev g p' e' hI n0) s₁ (entryFrame m #[(.ref a), (.int pv), (.int ev)] 10)
  rw [← hF]
  rw [ef_4]
  show F s₁ (mkF m 0 #[.val (.ref a), .val (.int pv), .val (.int ev), .unset, .unset, .unset, .unset, .unset, .unset, .unset] [])
  have k0 : (0 : Int32).toInt = 0 := by decide
  have k1 : (1 : Int32).toInt = 1 := by decide
  have k2 : (2 : Int32).toInt = 2 := by decide
  have k3 : (3 : Int32).toInt = 3 := by decide
  have k4 : (4 : Int32).toInt = 4 := by decide
  have k128 : (128 : Int32).toInt = 128 := by decide
  have k192 : (192 : Int32).toInt = 192 := by decide
  have k224 : (224 : Int32).toInt = 224 := by decide
  have k240 : (240 : Int32).toInt = 240 := by decide
  have k248 : (248 : Int32).toInt = 248 := by decide
  have k2048 : (2048 : Int32).toInt = 2048 := by decide
  have k65536 : (65536 : Int32).toInt = 65536 := by decide
  have k1114111 : (1114111 : Int32).toInt = 1114111 := by decide
  have k55296 : (55296 : Int32).toInt = 55296 := by decide
  have k57343 : (57343 : Int32).toInt = 57343 := by decide
  have k191 : (191 : Int32).toInt = 191 := by decide
  refine hst (fun t₀ k₀ => XS.aloadN XI.here hx rfl (hb hby d4_0) rfl rfl k₀) ?_
  show F s₁ (mkF m 1 #[.val (.ref a), .val (.int pv), .val (.int ev), .unset, .unset, .unset, .unset, .unset, .unset, .unset] [(.ref a)])
  refine hst (fun t₀ k₀ => XS.iloadN XI.here hx rfl (hb hby d4_1) rfl k₀) ?_
  show F s₁ (mkF m 2 #[.val (.ref a), .val (.int pv), .val (.int ev), .unset, .unset, .unset, .unset, .unset, .unset, .unset] [(.int pv), (.ref a)])
  refine hst (fun t₀ k₀ => own_baload XI hx hZ eI Ar (own_idx pv 6 (by omega) (by omega)) (v := (.int (g (p')))) (by show Value.int (g pv.toNatClampNeg) = _; rw [own_clamp pv _ hp]) (g := (mkF m 2 #[.val (.ref a), .val (.int pv), .val (.int ev), .unset, .unset, .unset, .unset, .unset, .unset, .unset] [(.int pv), (.ref a)])) rfl rfl (hb hby d4_2) t₀ k₀) ?_
  show F s₁ (mkF m 3 #[.val (.ref a), .val (.int pv), .val (.int ev), .unset, .unset, .unset, .unset, .unset, .unset, .unset] [(.int (g (p')))])
  refine hst (fun t₀ k₀ => XS.sipush XI.here hx rfl (hb hby d4_3) k₀) ?_
  show F s₁ (mkF m 6 #[.val (.ref a), .val (.int pv), .val (.int ev), .unset, .unset, .unset, .unset, .unset, .unset, .unset] [(.int (255 : Int32)), (.int (g (p')))])
  refine hst (fun t₀ k₀ => XS.iand XI.here hx rfl (hb hby d4_6) rfl k₀) ?_
  show F s₁ (mkF m 7 #[.val (.ref a), .val (.int pv), .val (.int ev), .unset, .unset, .unset, .unset, .unset, .unset, .unset] [(.int ((g (p')) &&& (255 : Int32)))])
  generalize hld : ((g (p')) &&& (255 : Int32)) = ld
  show F s₁ (mkF m 7 #[.val (.ref a), .val (.int pv), .val (.int ev), .unset, .unset, .unset, .unset, .unset, .unset, .unset] [(.int ld)])
  obtain ⟨kld, kldb⟩ : ld.toInt = (own_B g (p') : Int) ∧ own_B g (p') < 256 := by rw [← hld]; exact own_byte g _
  refine hst (fun t₀ k₀ => XS.istoreN XI.here hx rfl (hb hby d4_7) rfl (l' := #[.val (.ref a), .val (.int pv), .val (.int ev), .val (.int ld), .unset, .unset, .unset, .unset, .unset, .unset]) rfl k₀) ?_
  show F s₁ (mkF m 8 #[.val (.ref a), .val (.int pv), .val (.int ev), .val (.int ld), .unset, .unset, .unset, .unset, .unset, .unset] [])
  refine hst (fun t₀ k₀ => XS.iloadN XI.here hx rfl (hb hby d4_8) rfl k₀) ?_
  show F s₁ (mkF m 9 #[.val (.ref a), .val (.int pv), .val (.int ev), .val (.int ld), .unset, .unset, .unset, .unset, .unset, .unset] [(.int ld)])
  refine hst (fun t₀ k₀ => XS.sipush XI.here hx rfl (hb hby d4_9) k₀) ?_
  show F s₁ (mkF m 12 #[.val (.ref a), .val (.int pv), .val (.int ev), .val (.int ld), .unset, .unset, .unset, .unset, .unset, .unset] [(.int (128 : Int32)), (.int ld)])
  by_cases hc12 : ld < (128 : Int32)
  · -- pc 12: not taken
    refine hst (fun t₀ k₀ => XS.icmpNo XI.here hx rfl (hb hby d4_12) rfl (tlt hc12).2.1 k₀) ?_
    show F s₁ (mkF m 15 #[.val (.ref a), .val (.int pv), .val (.int ev), .val (.int ld), .unset, .unset, .unset, .unset, .unset, .unset] [])
    refine hst (fun t₀ k₀ => XS.iconst XI.here hx rfl (hb hby d4_15) k₀) ?_
    show F s₁ (mkF m 16 #[.val (.ref a), .val (.int pv), .val (.int ev), .val (.int ld), .unset, .unset, .unset, .unset, .unset, .unset] [(.int (1 : Int32))])
    rw [hF]
    refine own_retI XI hx hret hlk (hb hby d4_16) (by decide) (by decide) ?_
    simp only [own_lt32, own_eq32] at hc12
    have hcl : own_cl (own_B g) p' e' = 1 := by
      unfold own_cl; (repeat' split) <;> omega
    rw [eI]
    exact ⟨(by rw [hcl]; rfl), NI, rfl⟩
  · -- pc 12: taken
    refine hst (fun t₀ k₀ => XS.icmpYes XI.here hx rfl (pc0 := 12) (pc' := 17) rfl (hb hby d4_12) rfl (flt hc12).2.1 (by decide) (by decide) k₀) ?_
    show F s₁ (mkF m 17 #[.val (.ref a), .val (.int pv), .val (.int ev), .val (.int ld), .unset, .unset, .unset, .unset, .unset, .unset] [])
    refine hst (fun t₀ k₀ => XS.iloadN XI.here hx rfl (hb hby d4_17) rfl k₀) ?_
    show F s₁ (mkF m 18 #[.val (.ref a), .val (.int pv), .val (.int ev), .val (.int ld), .unset, .unset, .unset, .unset, .unset, .unset] [(.int ld)])
    refine hst (fun t₀ k₀ => XS.sipush XI.here hx rfl (hb hby d4_18) k₀) ?_
    show F s₁ (mkF m 21 #[.val (.ref a), .val (.int pv), .val (.int ev), .val (.int ld), .unset, .unset, .unset, .unset, .unset, .unset] [(.int (192 : Int32)), (.int ld)])
    by_cases hc21 : ld < (192 : Int32)
    · -- pc 21: not taken
      refine hst (fun t₀ k₀ => XS.icmpNo XI.here hx rfl (hb hby d4_21) rfl (tlt hc21).2.1 k₀) ?_
      show F s₁ (mkF m 24 #[.val (.ref a), .val (.int pv), .val (.int ev), .val (.int ld), .unset, .unset, .unset, .unset, .unset, .unset] [])
      refine hst (fun t₀ k₀ => XS.iconst XI.here hx rfl (hb hby d4_24) k₀) ?_
      show F s₁ (mkF m 25 #[.val (.ref a), .val (.int pv), .val (.int ev), .val (.int ld), .unset, .unset, .unset, .unset, .unset, .unset] [(.int (0 : Int32))])
      rw [hF]
      refine own_retI XI hx hret hlk (hb hby d4_25) (by decide) (by decide) ?_
      simp only [own_lt32, own_eq32] at hc12 hc21
      have hcl : own_cl (own_B g) p' e' = 0 := by
        unfold own_cl; (repeat' split) <;> omega
      rw [eI]
      exact ⟨(by rw [hcl]; rfl), NI, rfl⟩
    · -- pc 21: taken
      refine hst (fun t₀ k₀ => XS.icmpYes XI.here hx rfl (pc0 := 21) (pc' := 26) rfl (hb hby d4_21) rfl (flt hc21).2.1 (by decide) (by decide) k₀) ?_
      show F s₁ (mkF m 26 #[.val (.ref a), .val (.int pv), .val (.int ev), .val (.int ld), .unset, .unset, .unset, .unset, .unset, .unset] [])
      refine hst (fun t₀ k₀ => XS.iloadN XI.here hx rfl (hb hby d4_26) rfl k₀) ?_
      show F s₁ (mkF m 27 #[.val (.ref a), .val (.int pv), .val (.int ev), .val (.int ld), .unset, .unset, .unset, .unset, .unset, .unset] [(.int ld)])
      refine hst (fun t₀ k₀ => XS.sipush XI.here hx rfl (hb hby d4_27) k₀) ?_
      show F s₁ (mkF m 30 #[.val (.ref a), .val (.int pv), .val (.int ev), .val (.int ld), .unset, .unset, .unset, .unset, .unset, .unset] [(.int (224 : Int32)), (.int ld)])
      by_cases hc30 : ld < (224 : Int32)
      · -- pc 30: not taken
        refine hst (fun t₀ k₀ => XS.icmpNo XI.here hx rfl (hb hby d4_30) rfl (tlt hc30).2.1 k₀) ?_
        show F s₁ (mkF m 33 #[.val (.ref a), .val (.int pv), .val (.int ev), .val (.int ld), .unset, .unset, .unset, .unset, .unset, .unset] [])
        refine hst (fun t₀ k₀ => XS.iconst XI.here hx rfl (hb hby d4_33) k₀) ?_
        show F s₁ (mkF m 34 #[.val (.ref a), .val (.int pv), .val (.int ev), .val (.int ld), .unset, .unset, .unset, .unset, .unset, .unset] [(.int (2 : Int32))])
        refine hst (fun t₀ k₀ => XS.istore XI.here hx rfl (hb hby d4_34) rfl (l' := #[.val (.ref a), .val (.int pv), .val (.int ev), .val (.int ld), .val (.int (2 : Int32)), .unset, .unset, .unset, .unset, .unset]) rfl k₀) ?_
        show F s₁ (mkF m 36 #[.val (.ref a), .val (.int pv), .val (.int ev), .val (.int ld), .val (.int (2 : Int32)), .unset, .unset, .unset, .unset, .unset] [])
        refine hst (fun t₀ k₀ => XS.goto XI.here hx rfl (pc0 := 36) (pc' := 67) rfl (hb hby d4_36) (by decide) (by decide) k₀) ?_
        show F s₁ (mkF m 67 #[.val (.ref a), .val (.int pv), .val (.int ev), .val (.int ld), .val (.int (2 : Int32)), .unset, .unset, .unset, .unset, .unset] [])
        refine hst (fun t₀ k₀ => XS.iloadN XI.here hx rfl (hb hby d4_67) rfl k₀) ?_
        show F s₁ (mkF m 68 #[.val (.ref a), .val (.int pv), .val (.int ev), .val (.int ld), .val (.int (2 : Int32)), .unset, .unset, .unset, .unset, .unset] [(.int ev)])
        refine hst (fun t₀ k₀ => XS.iloadN XI.here hx rfl (hb hby d4_68) rfl k₀) ?_
        show F s₁ (mkF m 69 #[.val (.ref a), .val (.int pv), .val (.int ev), .val (.int ld), .val (.int (2 : Int32)), .unset, .unset, .unset, .unset, .unset] [(.int pv), (.int ev)])
        refine hst (fun t₀ k₀ => XS.isub XI.here hx rfl (hb hby d4_69) rfl k₀) ?_
        show F s₁ (mkF m 70 #[.val (.ref a), .val (.int pv), .val (.int ev), .val (.int ld), .val (.int (2 : Int32)), .unset, .unset, .unset, .unset, .unset] [(.int (ev - pv))])
        generalize hdf : (ev - pv) = df
        show F s₁ (mkF m 70 #[.val (.ref a), .val (.int pv), .val (.int ev), .val (.int ld), .val (.int (2 : Int32)), .unset, .unset, .unset, .unset, .unset] [(.int df)])
        have kdf : df.toInt = (e' : Int) - p' := by have h1 := c_isub ev pv; have h2 := rng32 df; rw [hdf] at h1; omega
        refine hst (fun t₀ k₀ => XS.iload XI.here hx rfl (hb hby d4_70) rfl k₀) ?_
        show F s₁ (mkF m 72 #[.val (.ref a), .val (.int pv), .val (.int ev), .val (.int ld), .val (.int (2 : Int32)), .unset, .unset, .unset, .unset, .unset] [(.int (2 : Int32)), (.int df)])
        by_cases hc72 : df < (2 : Int32)
        · -- pc 72: not taken
          refine hst (fun t₀ k₀ => XS.icmpNo XI.here hx rfl (hb hby d4_72) rfl (tlt hc72).2.1 k₀) ?_
          show F s₁ (mkF m 75 #[.val (.ref a), .val (.int pv), .val (.int ev), .val (.int ld), .val (.int (2 : Int32)), .unset, .unset, .unset, .unset, .unset] [])
          refine hst (fun t₀ k₀ => XS.iconst XI.here hx rfl (hb hby d4_75) k₀) ?_
          show F s₁ (mkF m 76 #[.val (.ref a), .val (.int pv), .val (.int ev), .val (.int ld), .val (.int (2 : Int32)), .unset, .unset, .unset, .unset, .unset] [(.int (0 : Int32))])
          rw [hF]
          refine own_retI XI hx hret hlk (hb hby d4_76) (by decide) (by decide) ?_
          simp only [own_lt32, own_eq32] at hc12 hc21 hc30 hc72
          have hcl : own_cl (own_B g) p' e' = 0 := by
            unfold own_cl; (repeat' split) <;> omega
          rw [eI]
          exact ⟨(by rw [hcl]; rfl), NI, rfl⟩
        · -- pc 72: taken
          refine hst (fun t₀ k₀ => XS.icmpYes XI.here hx rfl (pc0 := 72) (pc' := 77) rfl (hb hby d4_72) rfl (flt hc72).2.1 (by decide) (by decide) k₀) ?_
          show F s₁ (mkF m 77 #[.val (.ref a), .val (.int pv), .val (.int ev), .val (.int ld), .val (.int (2 : Int32)), .unset, .unset, .unset, .unset, .unset] [])
          refine hst (fun t₀ k₀ => XS.aloadN XI.here hx rfl (hb hby d4_77) rfl rfl k₀) ?_
          show F s₁ (mkF m 78 #[.val (.ref a), .val (.int pv), .val (.int ev), .val (.int ld), .val (.int (2 : Int32)), .unset, .unset, .unset, .unset, .unset] [(.ref a)])
          refine hst (fun t₀ k₀ => XS.iloadN XI.here hx rfl (hb hby d4_78) rfl k₀) ?_
          show F s₁ (mkF m 79 #[.val (.ref a), .val (.int pv), .val (.int ev), .val (.int ld), .val (.int (2 : Int32)), .unset, .unset, .unset, .unset, .unset] [(.int pv), (.ref a)])
          refine hst (fun t₀ k₀ => XS.iconst XI.here hx rfl (hb hby d4_79) k₀) ?_
          show F s₁ (mkF m 80 #[.val (.ref a), .val (.int pv), .val (.int ev), .val (.int ld), .val (.int (2 : Int32)), .unset, .unset, .unset, .unset, .unset] [(.int (1 : Int32)), (.int pv), (.ref a)])
          refine hst (fun t₀ k₀ => XS.iadd XI.here hx rfl (hb hby d4_80) rfl k₀) ?_
          show F s₁ (mkF m 81 #[.val (.ref a), .val (.int pv), .val (.int ev), .val (.int ld), .val (.int (2 : Int32)), .unset, .unset, .unset, .unset, .unset] [(.int (pv + (1 : Int32))), (.ref a)])
          generalize hix1 : (pv + (1 : Int32)) = ix1
          show F s₁ (mkF m 81 #[.val (.ref a), .val (.int pv), .val (.int ev), .val (.int ld), .val (.int (2 : Int32)), .unset, .unset, .unset, .unset, .unset] [(.int ix1), (.ref a)])
          have kix1 : ix1.toInt = ((p' + 1 : Nat) : Int) := by have h1 := c_iadd pv 1; have h2 := rng32 ix1; rw [hix1] at h1; omega
          have ql1 : p' + 1 < e' := by simp only [own_lt32] at hc72; omega
          refine hst (fun t₀ k₀ => own_baload XI hx hZ eI Ar (own_idx ix1 6 (by omega) (by omega)) (v := (.int (g (p' + 1)))) (by show Value.int (g ix1.toNatClampNeg) = _; rw [own_clamp ix1 _ kix1]) (g := (mkF m 81 #[.val (.ref a), .val (.int pv), .val (.int ev), .val (.int ld), .val (.int (2 : Int32)), .unset, .unset, .unset, .unset, .unset] [(.int ix1), (.ref a)])) rfl rfl (hb hby d4_81) t₀ k₀) ?_
          show F s₁ (mkF m 82 #[.val (.ref a), .val (.int pv), .val (.int ev), .val (.int ld), .val (.int (2 : Int32)), .unset, .unset, .unset, .unset, .unset] [(.int (g (p' + 1)))])
          refine hst (fun t₀ k₀ => XS.sipush XI.here hx rfl (hb hby d4_82) k₀) ?_
          show F s₁ (mkF m 85 #[.val (.ref a), .val (.int pv), .val (.int ev), .val (.int ld), .val (.int (2 : Int32)), .unset, .unset, .unset, .unset, .unset] [(.int (255 : Int32)), (.int (g (p' + 1)))])
          refine hst (fun t₀ k₀ => XS.iand XI.here hx rfl (hb hby d4_85) rfl k₀) ?_
          show F s₁ (mkF m 86 #[.val (.ref a), .val (.int pv), .val (.int ev), .val (.int ld), .val (.int (2 : Int32)), .unset, .unset, .unset, .unset, .unset] [(.int ((g (p' + 1)) &&& (255 : Int32)))])
          generalize hb1 : ((g (p' + 1)) &&& (255 : Int32)) = b1
          show F s₁ (mkF m 86 #[.val (.ref a), .val (.int pv), .val (.int ev), .val (.int ld), .val (.int (2 : Int32)), .unset, .unset, .unset, .unset, .unset] [(.int b1)])
          obtain ⟨kb1, kb1b⟩ : b1.toInt = (own_B g (p' + 1) : Int) ∧ own_B g (p' + 1) < 256 := by rw [← hb1]; exact own_byte g _
          refine hst (fun t₀ k₀ => XS.istore XI.here hx rfl (hb hby d4_86) rfl (l' := #[.val (.ref a), .val (.int pv), .val (.int ev), .val (.int ld), .val (.int (2 : Int32)), .val (.int b1), .unset, .unset, .unset, .unset]) rfl k₀) ?_
          show F s₁ (mkF m 88 #[.val (.ref a), .val (.int pv), .val (.int ev), .val (.int ld), .val (.int (2 : Int32)), .val (.int b1), .unset, .unset, .unset, .unset] [])
          refine hst (fun t₀ k₀ => XS.iload XI.here hx rfl (hb hby d4_88) rfl k₀) ?_
          show F s₁ (mkF m 90 #[.val (.ref a), .val (.int pv), .val (.int ev), .val (.int ld), .val (.int (2 : Int32)), .val (.int b1), .unset, .unset, .unset, .unset] [(.int b1)])
          obtain ⟨v90, T90, Lc90, X90, hQ90, st90⟩ := own_callS XI hx hZ hown (y := (⟨"com/example/leafline/leafline/table/CodePointOrderWellFormedPinLaw", "isCont", "(I)Z"⟩ : MethodName)) (hw _ (List.mem_of_getElem? (i := 15) rfl)) (hw _ (List.mem_of_getElem? (i := 16) rfl)) (hw _ (List.mem_of_getElem? (i := 3) rfl)) (hw _ (List.mem_of_getElem? (i := 17) rfl)) (by decide) eI (rm5 l Z a0 hw [] b1 hI n0 Z0 ) (by decide) (by decide) (g := (mkF m 90 #[.val (.ref a), .val (.int pv), .val (.int ev), .val (.int ld), .val (.int (2 : Int32)), .val (.int b1), .unset, .unset, .unset, .unset] [(.int b1)])) rfl (by rw [hml]; rfl) (argsL := [(.int b1)]) (rest := []) (lenOf pd_0 rfl) rfl rfl (W := 0) (by show 2 * 0 + _ ≤ _; exact Nat.le_of_eq rfl) (hb hby d4_90) (by decide) (by decide)
          obtain ⟨rfl, Nq90, he90⟩ := hQ90
          have N90 := Fr.app NI Nq90
          refine hst st90 ?_
          show F T90 (mkF m 93 #[.val (.ref a), .val (.int pv), .val (.int ev), .val (.int ld), .val (.int (2 : Int32)), .val (.int b1), .unset, .unset, .unset, .unset] [(.int (own_ct b1))])
          by_cases hc93 : (own_ct b1) = (0 : Int32)
          · -- pc 93: not taken
            refine hst (fun t₀ k₀ => XS.ifNo X90.here hx rfl (hb hby d4_93) rfl ((if0 _ _).trans (teq hc93).2) k₀) ?_
            show F T90 (mkF m 96 #[.val (.ref a), .val (.int pv), .val (.int ev), .val (.int ld), .val (.int (2 : Int32)), .val (.int b1), .unset, .unset, .unset, .unset] [])
            refine hst (fun t₀ k₀ => XS.iconst X90.here hx rfl (hb hby d4_96) k₀) ?_
            show F T90 (mkF m 97 #[.val (.ref a), .val (.int pv), .val (.int ev), .val (.int ld), .val (.int (2 : Int32)), .val (.int b1), .unset, .unset, .unset, .unset] [(.int (0 : Int32))])
            rw [hF]
            refine own_retI X90 hx hret hlk (hb hby d4_97) (by decide) (by decide) ?_
            simp only [own_lt32, own_eq32] at hc12 hc21 hc30 hc72
            simp only [own_ct0] at hc93
            have hcl : own_cl (own_B g) p' e' = 0 := by
              unfold own_cl; (repeat' split) <;> omega
            rw [he90]
            exact ⟨(by rw [hcl]; rfl), N90, rfl⟩
          · -- pc 93: taken
            refine hst (fun t₀ k₀ => XS.ifYes X90.here hx rfl (pc0 := 93) (pc' := 98) rfl (hb hby d4_93) rfl ((if0 _ _).trans (feq hc93).2) (by decide) (by decide) k₀) ?_
            show F T90 (mkF m 98 #[.val (.ref a), .val (.int pv), .val (.int ev), .val (.int ld), .val (.int (2 : Int32)), .val (.int b1), .unset, .unset, .unset, .unset] [])
            refine hst (fun t₀ k₀ => XS.iload X90.here hx rfl (hb hby d4_98) rfl k₀) ?_
            show F T90 (mkF m 100 #[.val (.ref a), .val (.int pv), .val (.int ev), .val (.int ld), .val (.int (2 : Int32)), .val (.int b1), .unset, .unset, .unset, .unset] [(.int (2 : Int32))])
            refine hst (fun t₀ k₀ => XS.iconst X90.here hx rfl (hb hby d4_100) k₀) ?_
            show F T90 (mkF m 101 #[.val (.ref a), .val (.int pv), .val (.int ev), .val (.int ld), .val (.int (2 : Int32)), .val (.int b1), .unset, .unset, .unset, .unset] [(.int (2 : Int32)), (.int (2 : Int32))])
            refine hst (fun t₀ k₀ => XS.icmpNo X90.here hx rfl (hb hby d4_101) rfl (teq (by decide)).2 k₀) ?_
            show F T90 (mkF m 104 #[.val (.ref a), .val (.int pv), .val (.int ev), .val (.int ld), .val (.int (2 : Int32)), .val (.int b1), .unset, .unset, .unset, .unset] [])
            refine hst (fun t₀ k₀ => XS.iloadN X90.here hx rfl (hb hby d4_104) rfl k₀) ?_
            show F T90 (mkF m 105 #[.val (.ref a), .val (.int pv), .val (.int ev), .val (.int ld), .val (.int (2 : Int32)), .val (.int b1), .unset, .unset, .unset, .unset] [(.int ld)])
            refine hst (fun t₀ k₀ => XS.bipush X90.here hx rfl (hb hby d4_105) k₀) ?_
            show F T90 (mkF m 107 #[.val (.ref a), .val (.int pv), .val (.int ev), .val (.int ld), .val (.int (2 : Int32)), .val (.int b1), .unset, .unset, .unset, .unset] [(.int (31 : Int32)), (.int ld)])
            refine hst (fun t₀ k₀ => XS.iand X90.here hx rfl (hb hby d4_107) rfl k₀) ?_
            show F T90 (mkF m 108 #[.val (.ref a), .val (.int pv), .val (.int ev), .val (.int ld), .val (.int (2 : Int32)), .val (.int b1), .unset, .unset, .unset, .unset] [(.int (ld &&& (31 : Int32)))])
            generalize hl5 : (ld &&& (31 : Int32)) = l5
            show F T90 (mkF m 108 #[.val (.ref a), .val (.int pv), .val (.int ev), .val (.int ld), .val (.int (2 : Int32)), .val (.int b1), .unset, .unset, .unset, .unset] [(.int l5)])
            have kl5 : l5.toInt = ld.toInt % 32 := by rw [← hl5]; exact c_mask ld 31 5 (by decide) (by decide)
            refine hst (fun t₀ k₀ => XS.bipush X90.here hx rfl (hb hby d4_108) k₀) ?_
            show F T90 (mkF m 110 #[.val (.ref a), .val (.int pv), .val (.int ev), .val (.int ld), .val (.int (2 : Int32)), .val (.int b1), .unset, .unset, .unset, .unset] [(.int (6 : Int32)), (.int l5)])
            refine hst (fun t₀ k₀ => XS.ishl X90.here hx rfl (hb hby d4_110) rfl k₀) ?_
            show F T90 (mkF m 111 #[.val (.ref a), .val (.int pv), .val (.int ev), .val (.int ld), .val (.int (2 : Int32)), .val (.int b1), .unset, .unset, .unset, .unset] [(.int (l5 <<< ((6 : Int32) &&& 31)))])
            generalize hl6 : (l5 <<< ((6 : Int32) &&& 31)) = l6
            show F T90 (mkF m 111 #[.val (.ref a), .val (.int pv), .val (.int ev), .val (.int ld), .val (.int (2 : Int32)), .val (.int b1), .unset, .unset, .unset, .unset] [(.int l6)])
            have kl6 : l6.toInt = l5.toInt * 64 := by have h1 := c_ishl l5 6 6 (by decide); have h2 := rng32 l6; rw [hl6] at h1; omega
            refine hst (fun t₀ k₀ => XS.iload X90.here hx rfl (hb hby d4_111) rfl k₀) ?_
            show F T90 (mkF m 113 #[.val (.ref a), .val (.int pv), .val (.int ev), .val (.int ld), .val (.int (2 : Int32)), .val (.int b1), .unset, .unset, .unset, .unset] [(.int b1), (.int l6)])
            refine hst (fun t₀ k₀ => XS.bipush X90.here hx rfl (hb hby d4_113) k₀) ?_
            show F T90 (mkF m 115 #[.val (.ref a), .val (.int pv), .val (.int ev), .val (.int ld), .val (.int (2 : Int32)), .val (.int b1), .unset, .unset, .unset, .unset] [(.int (63 : Int32)), (.int b1), (.int l6)])
            refine hst (fun t₀ k₀ => XS.iand X90.here hx rfl (hb hby d4_115) rfl k₀) ?_
            show F T90 (mkF m 116 #[.val (.ref a), .val (.int pv), .val (.int ev), .val (.int ld), .val (.int (2 : Int32)), .val (.int b1), .unset, .unset, .unset, .unset] [(.int (b1 &&& (63 : Int32))), (.int l6)])
            generalize hm1 : (b1 &&& (63 : Int32)) = m1
            show F T90 (mkF m 116 #[.val (.ref a), .val (.int pv), .val (.int ev), .val (.int ld), .val (.int (2 : Int32)), .val (.int b1), .unset, .unset, .unset, .unset] [(.int m1), (.int l6)])
            have km1 : m1.toInt = b1.toInt % 64 := by rw [← hm1]; exact c_mask b1 63 6 (by decide) (by decide)
            refine hst (fun t₀ k₀ => XS.ior X90.here hx rfl (hb hby d4_116) rfl k₀) ?_
            show F T90 (mkF m 117 #[.val (.ref a), .val (.int pv), .val (.int ev), .val (.int ld), .val (.int (2 : Int32)), .val (.int b1), .unset, .unset, .unset, .unset] [(.int (l6 ||| m1))])
            generalize hcp : (l6 ||| m1) = cp
            show F T90 (mkF m 117 #[.val (.ref a), .val (.int pv), .val (.int ev), .val (.int ld), .val (.int (2 : Int32)), .val (.int b1), .unset, .unset, .unset, .unset] [(.int cp)])
            have kcp : cp.toInt = l6.toInt + m1.toInt := by have h1 := c_or l6 m1 6 (by decide) 64 (by decide) (by omega) (by omega) (by omega); have h2 := rng32 cp; rw [hcp] at h1; omega
            refine hst (fun t₀ k₀ => XS.istore X90.here hx rfl (hb hby d4_117) rfl (l' := #[.val (.ref a), .val (.int pv), .val (.int ev), .val (.int ld), .val (.int (2 : Int32)), .val (.int b1), .val (.int cp), .unset, .unset, .unset]) rfl k₀) ?_
            show F T90 (mkF m 119 #[.val (.ref a), .val (.int pv), .val (.int ev), .val (.int ld), .val (.int (2 : Int32)), .val (.int b1), .val (.int cp), .unset, .unset, .unset] [])
            refine hst (fun t₀ k₀ => XS.sipush X90.here hx rfl (hb hby d4_119) k₀) ?_
            show F T90 (mkF m 122 #[.val (.ref a), .val (.int pv), .val (.int ev), .val (.int ld), .val (.int (2 : Int32)), .val (.int b1), .val (.int cp), .unset, .unset, .unset] [(.int (128 : Int32))])
            refine hst (fun t₀ k₀ => XS.istore X90.here hx rfl (hb hby d4_122) rfl (l' := #[.val (.ref a), .val (.int pv), .val (.int ev), .val (.int ld), .val (.int (2 : Int32)), .val (.int b1), .val (.int cp), .val (.int (128 : Int32)), .unset, .unset]) rfl k₀) ?_
            show F T90 (mkF m 124 #[.val (.ref a), .val (.int pv), .val (.int ev), .val (.int ld), .val (.int (2 : Int32)), .val (.int b1), .val (.int cp), .val (.int (128 : Int32)), .unset, .unset] [])
            refine hst (fun t₀ k₀ => XS.goto X90.here hx rfl (pc0 := 124) (pc' := 244) rfl (hb hby d4_124) (by decide) (by decide) k₀) ?_
            show F T90 (mkF m 244 #[.val (.ref a), .val (.int pv), .val (.int ev), .val (.int ld), .val (.int (2 : Int32)), .val (.int b1), .val (.int cp), .val (.int (128 : Int32)), .unset, .unset] [])
            refine hst (fun t₀ k₀ => XS.iload X90.here hx rfl (hb hby d4_244) rfl k₀) ?_
            show F T90 (mkF m 246 #[.val (.ref a), .val (.int pv), .val (.int ev), .val (.int ld), .val (.int (2 : Int32)), .val (.int b1), .val (.int cp), .val (.int (128 : Int32)), .unset, .unset] [(.int cp)])
            refine hst (fun t₀ k₀ => XS.iload X90.here hx rfl (hb hby d4_246) rfl k₀) ?_
            show F T90 (mkF m 248 #[.val (.ref a), .val (.int pv), .val (.int ev), .val (.int ld), .val (.int (2 : Int32)), .val (.int b1), .val (.int cp), .val (.int (128 : Int32)), .unset, .unset] [(.int (128 : Int32)), (.int cp)])
            by_cases hc248 : cp < (128 : Int32)
            · -- pc 248: not taken
              refine hst (fun t₀ k₀ => XS.icmpNo X90.here hx rfl (hb hby d4_248) rfl (tlt hc248).2.1 k₀) ?_
              show F T90 (mkF m 251 #[.val (.ref a), .val (.int pv), .val (.int ev), .val (.int ld), .val (.int (2 : Int32)), .val (.int b1), .val (.int cp), .val (.int (128 : Int32)), .unset, .unset] [])
              refine hst (fun t₀ k₀ => XS.iconst X90.here hx rfl (hb hby d4_251) k₀) ?_
              show F T90 (mkF m 252 #[.val (.ref a), .val (.int pv), .val (.int ev), .val (.int ld), .val (.int (2 : Int32)), .val (.int b1), .val (.int cp), .val (.int (128 : Int32)), .unset, .unset] [(.int (0 : Int32))])
              rw [hF]
              refine own_retI X90 hx hret hlk (hb hby d4_252) (by decide) (by decide) ?_
              simp only [own_lt32, own_eq32] at hc12 hc21 hc30 hc72 hc248
              simp only [own_ct0] at hc93
              have hcl : own_cl (own_B g) p' e' = 0 := by
                unfold own_cl; (repeat' split) <;> omega
              rw [he90]
              exact ⟨(by rw [hcl]; rfl), N90, rfl⟩
            · -- pc 248: taken
              refine hst (fun t₀ k₀ => XS.icmpYes X90.here hx rfl (pc0 := 248) (pc' := 253) rfl (hb hby d4_248) rfl (flt hc248).2.1 (by decide) (by decide) k₀) ?_
              show F T90 (mkF m 253 #[.val (.ref a), .val (.int pv), .val (.int ev), .val (.int ld), .val (.int (2 : Int32)), .val (.int b1), .val (.int cp), .val (.int (128 : Int32)), .unset, .unset] [])
              refine hst (fun t₀ k₀ => XS.iload X90.here hx rfl (hb hby d4_253) rfl k₀) ?_
              show F T90 (mkF m 255 #[.val (.ref a), .val (.int pv), .val (.int ev), .val (.int ld), .val (.int (2 : Int32)), .val (.int b1), .val (.int cp), .val (.int (128 : Int32)), .unset, .unset] [(.int cp)])
              refine hst (fun t₀ k₀ => X90.ldcI hx hown (mvT hZ (hw _ (List.mem_of_getElem? (i := 19) rfl))) (g := (mkF m 255 #[.val (.ref a), .val (.int pv), .val (.int ev), .val (.int ld), .val (.int (2 : Int32)), .val (.int b1), .val (.int cp), .val (.int (128 : Int32)), .unset, .unset] [(.int cp)])) rfl (hb hby d4_255) k₀) ?_
              show F T90 (mkF m 257 #[.val (.ref a), .val (.int pv), .val (.int ev), .val (.int ld), .val (.int (2 : Int32)), .val (.int b1), .val (.int cp), .val (.int (128 : Int32)), .unset, .unset] [(.int (1114111 : Int32)), (.int cp)])
              by_cases hc257 : (1114111 : Int32) < cp
              · -- pc 257: not taken
                refine hst (fun t₀ k₀ => XS.icmpNo X90.here hx rfl (hb hby d4_257) rfl (tlt hc257).2.2.2 k₀) ?_
                show F T90 (mkF m 260 #[.val (.ref a), .val (.int pv), .val (.int ev), .val (.int ld), .val (.int (2 : Int32)), .val (.int b1), .val (.int cp), .val (.int (128 : Int32)), .unset, .unset] [])
                refine hst (fun t₀ k₀ => XS.iconst X90.here hx rfl (hb hby d4_260) k₀) ?_
                show F T90 (mkF m 261 #[.val (.ref a), .val (.int pv), .val (.int ev), .val (.int ld), .val (.int (2 : Int32)), .val (.int b1), .val (.int cp), .val (.int (128 : Int32)), .unset, .unset] [(.int (0 : Int32))])
                rw [hF]
                refine own_retI X90 hx hret hlk (hb hby d4_261) (by decide) (by decide) ?_
                simp only [own_lt32, own_eq32] at hc12 hc21 hc30 hc72 hc248 hc257
                simp only [own_ct0] at hc93
                have hcl : own_cl (own_B g) p' e' = 0 := by
                  unfold own_cl; (repeat' split) <;> omega
                rw [he90]
                exact ⟨(by rw [hcl]; rfl), N90, rfl⟩
              · -- pc 257: taken
                refine hst (fun t₀ k₀ => XS.icmpYes X90.here hx rfl (pc0 := 257) (pc' := 262) rfl (hb hby d4_257) rfl (flt hc257).2.2.2 (by decide) (by decide) k₀) ?_
                show F T90 (mkF m 262 #[.val (.ref a), .val (.int pv), .val (.int ev), .val (.int ld), .val (.int (2 : Int32)), .val (.int b1), .val (.int cp), .val (.int (128 : Int32)), .unset, .unset] [])
                refine hst (fun t₀ k₀ => XS.iload X90.here hx rfl (hb hby d4_262) rfl k₀) ?_
                show F T90 (mkF m 264 #[.val (.ref a), .val (.int pv), .val (.int ev), .val (.int ld), .val (.int (2 : Int32)), .val (.int b1), .val (.int cp), .val (.int (128 : Int32)), .unset, .unset] [(.int cp)])
                refine hst (fun t₀ k₀ => X90.ldcI hx hown (mvT hZ (hw _ (List.mem_of_getElem? (i := 20) rfl))) (g := (mkF m 264 #[.val (.ref a), .val (.int pv), .val (.int ev), .val (.int ld), .val (.int (2 : Int32)), .val (.int b1), .val (.int cp), .val (.int (128 : Int32)), .unset, .unset] [(.int cp)])) rfl (hb hby d4_264) k₀) ?_
                show F T90 (mkF m 266 #[.val (.ref a), .val (.int pv), .val (.int ev), .val (.int ld), .val (.int (2 : Int32)), .val (.int b1), .val (.int cp), .val (.int (128 : Int32)), .unset, .unset] [(.int (55296 : Int32)), (.int cp)])
                by_cases hc266 : cp < (55296 : Int32)
                · -- pc 266: taken
                  refine hst (fun t₀ k₀ => XS.icmpYes X90.here hx rfl (pc0 := 266) (pc' := 278) rfl (hb hby d4_266) rfl (tlt hc266).1 (by decide) (by decide) k₀) ?_
                  show F T90 (mkF m 278 #[.val (.ref a), .val (.int pv), .val (.int ev), .val (.int ld), .val (.int (2 : Int32)), .val (.int b1), .val (.int cp), .val (.int (128 : Int32)), .unset, .unset] [])
                  refine hst (fun t₀ k₀ => XS.iload X90.here hx rfl (hb hby d4_278) rfl k₀) ?_
                  show F T90 (mkF m 280 #[.val (.ref a), .val (.int pv), .val (.int ev), .val (.int ld), .val (.int (2 : Int32)), .val (.int b1), .val (.int cp), .val (.int (128 : Int32)), .unset, .unset] [(.int (2 : Int32))])
                  rw [hF]
                  refine own_retI X90 hx hret hlk (hb hby d4_280) (by decide) (by decide) ?_
                  simp only [own_lt32, own_eq32] at hc12 hc21 hc30 hc72 hc248 hc257 hc266
                  simp only [own_ct0] at hc93
                  have hcl : own_cl (own_B g) p' e' = 2 := by
                    unfold own_cl; (repeat' split) <;> omega
                  rw [he90]
                  exact ⟨(by rw [hcl]; rfl), N90, rfl⟩
                · -- pc 266: not taken
                  refine hst (fun t₀ k₀ => XS.icmpNo X90.here hx rfl (hb hby d4_266) rfl (flt hc266).1 k₀) ?_
                  show F T90 (mkF m 269 #[.val (.ref a), .val (.int pv), .val (.int ev), .val (.int ld), .val (.int (2 : Int32)), .val (.int b1), .val (.int cp), .val (.int (128 : Int32)), .unset, .unset] [])
                  refine hst (fun t₀ k₀ => XS.iload X90.here hx rfl (hb hby d4_269) rfl k₀) ?_
                  show F T90 (mkF m 271 #[.val (.ref a), .val (.int pv), .val (.int ev), .val (.int ld), .val (.int (2 : Int32)), .val (.int b1), .val (.int cp), .val (.int (128 : Int32)), .unset, .unset] [(.int cp)])
                  refine hst (fun t₀ k₀ => X90.ldcI hx hown (mvT hZ (hw _ (List.mem_of_getElem? (i := 21) rfl))) (g := (mkF m 271 #[.val (.ref a), .val (.int pv), .val (.int ev), .val (.int ld), .val (.int (2 : Int32)), .val (.int b1), .val (.int cp), .val (.int (128 : Int32)), .unset, .unset] [(.int cp)])) rfl (hb hby d4_271) k₀) ?_
                  show F T90 (mkF m 273 #[.val (.ref a), .val (.int pv), .val (.int ev), .val (.int ld), .val (.int (2 : Int32)), .val (.int b1), .val (.int cp), .val (.int (128 : Int32)), .unset, .unset] [(.int (57343 : Int32)), (.int cp)])
                  by_cases hc273 : (57343 : Int32) < cp
                  · -- pc 273: taken
                    refine hst (fun t₀ k₀ => XS.icmpYes X90.here hx rfl (pc0 := 273) (pc' := 278) rfl (hb hby d4_273) rfl (tlt hc273).2.2.1 (by decide) (by decide) k₀) ?_
                    show F T90 (mkF m 278 #[.val (.ref a), .val (.int pv), .val (.int ev), .val (.int ld), .val (.int (2 : Int32)), .val (.int b1), .val (.int cp), .val (.int (128 : Int32)), .unset, .unset] [])
                    refine hst (fun t₀ k₀ => XS.iload X90.here hx rfl (hb hby d4_278) rfl k₀) ?_
                    show F T90 (mkF m 280 #[.val (.ref a), .val (.int pv), .val (.int ev), .val (.int ld), .val (.int (2 : Int32)), .val (.int b1), .val (.int cp), .val (.int (128 : Int32)), .unset, .unset] [(.int (2 : Int32))])
                    rw [hF]
                    refine own_retI X90 hx hret hlk (hb hby d4_280) (by decide) (by decide) ?_
                    simp only [own_lt32, own_eq32] at hc12 hc21 hc30 hc72 hc248 hc257 hc266 hc273
                    simp only [own_ct0] at hc93
                    have hcl : own_cl (own_B g) p' e' = 2 := by
                      unfold own_cl; (repeat' split) <;> omega
                    rw [he90]
                    exact ⟨(by rw [hcl]; rfl), N90, rfl⟩
                  · -- pc 273: not taken
                    refine hst (fun t₀ k₀ => XS.icmpNo X90.here hx rfl (hb hby d4_273) rfl (flt hc273).2.2.1 k₀) ?_
                    show F T90 (mkF m 276 #[.val (.ref a), .val (.int pv), .val (.int ev), .val (.int ld), .val (.int (2 : Int32)), .val (.int b1), .val (.int cp), .val (.int (128 : Int32)), .unset, .unset] [])
                    refine hst (fun t₀ k₀ => XS.iconst X90.here hx rfl (hb hby d4_276) k₀) ?_
                    show F T90 (mkF m 277 #[.val (.ref a), .val (.int pv), .val (.int ev), .val (.int ld), .val (.int (2 : Int32)), .val (.int b1), .val (.int cp), .val (.int (128 : Int32)), .unset, .unset] [(.int (0 : Int32))])
                    rw [hF]
                    refine own_retI X90 hx hret hlk (hb hby d4_277) (by decide) (by decide) ?_
                    simp only [own_lt32, own_eq32] at hc12 hc21 hc30 hc72 hc248 hc257 hc266 hc273
                    simp only [own_ct0] at hc93
                    have hcl : own_cl (own_B g) p' e' = 0 := by
                      unfold own_cl; (repeat' split) <;> omega
                    rw [he90]
                    exact ⟨(by rw [hcl]; rfl), N90, rfl⟩
      · -- pc 30: taken
        refine hst (fun t₀ k₀ => XS.icmpYes XI.here hx rfl (pc0 := 30) (pc' := 39) rfl (hb hby d4_30) rfl (flt hc30).2.1 (by decide) (by decide) k₀) ?_
        show F s₁ (mkF m 39 #[.val (.ref a), .val (.int pv), .val (.int ev), .val (.int ld), .unset, .unset, .unset, .unset, .unset, .unset] [])
        refine hst (fun t₀ k₀ => XS.iloadN XI.here hx rfl (hb hby d4_39) rfl k₀) ?_
        show F s₁ (mkF m 40 #[.val (.ref a), .val (.int pv), .val (.int ev), .val (.int ld), .unset, .unset, .unset, .unset, .unset, .unset] [(.int ld)])
        refine hst (fun t₀ k₀ => XS.sipush XI.here hx rfl (hb hby d4_40) k₀) ?_
        show F s₁ (mkF m 43 #[.val (.ref a), .val (.int pv), .val (.int ev), .val (.int ld), .unset, .unset, .unset, .unset, .unset, .unset] [(.int (240 : Int32)), (.int ld)])
        by_cases hc43 : ld < (240 : Int32)
        · -- pc 43: not taken
          refine hst (fun t₀ k₀ => XS.icmpNo XI.here hx rfl (hb hby d4_43) rfl (tlt hc43).2.1 k₀) ?_
          show F s₁ (mkF m 46 #[.val (.ref a), .val (.int pv), .val (.int ev), .val (.int ld), .unset, .unset, .unset, .unset, .unset, .unset] [])
          refine hst (fun t₀ k₀ => XS.iconst XI.here hx rfl (hb hby d4_46) k₀) ?_
          show F s₁ (mkF m 47 #[.val (.ref a), .val (.int pv), .val (.int ev), .val (.int ld), .unset, .unset, .unset, .unset, .unset, .unset] [(.int (3 : Int32))])
          refine hst (fun t₀ k₀ => XS.istore XI.here hx rfl (hb hby d4_47) rfl (l' := #[.val (.ref a), .val (.int pv), .val (.int ev), .val (.int ld), .val (.int (3 : Int32)), .unset, .unset, .unset, .unset, .unset]) rfl k₀) ?_
          show F s₁ (mkF m 49 #[.val (.ref a), .val (.int pv), .val (.int ev), .val (.int ld), .val (.int (3 : Int32)), .unset, .unset, .unset, .unset, .unset] [])
          refine hst (fun t₀ k₀ => XS.goto XI.here hx rfl (pc0 := 49) (pc' := 67) rfl (hb hby d4_49) (by decide) (by decide) k₀) ?_
          show F s₁ (mkF m 67 #[.val (.ref a), .val (.int pv), .val (.int ev), .val (.int ld), .val (.int (3 : Int32)), .unset, .unset, .unset, .unset, .unset] [])
          refine hst (fun t₀ k₀ => XS.iloadN XI.here hx rfl (hb hby d4_67) rfl k₀) ?_
          show F s₁ (mkF m 68 #[.val (.ref a), .val (.int pv), .val (.int ev), .val (.int ld), .val (.int (3 : Int32)), .unset, .unset, .unset, .unset, .unset] [(.int ev)])
          refine hst (fun t₀ k₀ => XS.iloadN XI.here hx rfl (hb hby d4_68) rfl k₀) ?_
          show F s₁ (mkF m 69 #[.val (.ref a), .val (.int pv), .val (.int ev), .val (.int ld), .val (.int (3 : Int32)), .unset, .unset, .unset, .unset, .unset] [(.int pv), (.int ev)])
          refine hst (fun t₀ k₀ => XS.isub XI.here hx rfl (hb hby d4_69) rfl k₀) ?_
          show F s₁ (mkF m 70 #[.val (.ref a), .val (.int pv), .val (.int ev), .val (.int ld), .val (.int (3 : Int32)), .unset, .unset, .unset, .unset, .unset] [(.int (ev - pv))])
          generalize hdf : (ev - pv) = df
          show F s₁ (mkF m 70 #[.val (.ref a), .val (.int pv), .val (.int ev), .val (.int ld), .val (.int (3 : Int32)), .unset, .unset, .unset, .unset, .unset] [(.int df)])
          have kdf : df.toInt = (e' : Int) - p' := by have h1 := c_isub ev pv; have h2 := rng32 df; rw [hdf] at h1; omega
          refine hst (fun t₀ k₀ => XS.iload XI.here hx rfl (hb hby d4_70) rfl k₀) ?_
          show F s₁ (mkF m 72 #[.val (.ref a), .val (.int pv), .val (.int ev), .val (.int ld), .val (.int (3 : Int32)), .unset, .unset, .unset, .unset, .unset] [(.int (3 : Int32)), (.int df)])
          by_cases hc72 : df < (3 : Int32)
          · -- pc 72: not taken
            refine hst (fun t₀ k₀ => XS.icmpNo XI.here hx rfl (hb hby d4_72) rfl (tlt hc72).2.1 k₀) ?_
            show F s₁ (mkF m 75 #[.val (.ref a), .val (.int pv), .val (.int ev), .val (.int ld), .val (.int (3 : Int32)), .unset, .unset, .unset, .unset, .unset] [])
            refine hst (fun t₀ k₀ => XS.iconst XI.here hx rfl (hb hby d4_75) k₀) ?_
            show F s₁ (mkF m 76 #[.val (.ref a), .val (.int pv), .val (.int ev), .val (.int ld), .val (.int (3 : Int32)), .unset, .unset, .unset, .unset, .unset] [(.int (0 : Int32))])
            rw [hF]
            refine own_retI XI hx hret hlk (hb hby d4_76) (by decide) (by decide) ?_
            simp only [own_lt32, own_eq32] at hc12 hc21 hc30 hc43 hc72
            have hcl : own_cl (own_B g) p' e' = 0 := by
              unfold own_cl; (repeat' split) <;> omega
            rw [eI]
            exact ⟨(by rw [hcl]; rfl), NI, rfl⟩
          · -- pc 72: taken
            refine hst (fun t₀ k₀ => XS.icmpYes XI.here hx rfl (pc0 := 72) (pc' := 77) rfl (hb hby d4_72) rfl (flt hc72).2.1 (by decide) (by decide) k₀) ?_
            show F s₁ (mkF m 77 #[.val (.ref a), .val (.int pv), .val (.int ev), .val (.int ld), .val (.int (3 : Int32)), .unset, .unset, .unset, .unset, .unset] [])
            refine hst (fun t₀ k₀ => XS.aloadN XI.here hx rfl (hb hby d4_77) rfl rfl k₀) ?_
            show F s₁ (mkF m 78 #[.val (.ref a), .val (.int pv), .val (.int ev), .val (.int ld), .val (.int (3 : Int32)), .unset, .unset, .unset, .unset, .unset] [(.ref a)])
            refine hst (fun t₀ k₀ => XS.iloadN XI.here hx rfl (hb hby d4_78) rfl k₀) ?_
            show F s₁ (mkF m 79 #[.val (.ref a), .val (.int pv), .val (.int ev), .val (.int ld), .val (.int (3 : Int32)), .unset, .unset, .unset, .unset, .unset] [(.int pv), (.ref a)])
            refine hst (fun t₀ k₀ => XS.iconst XI.here hx rfl (hb hby d4_79) k₀) ?_
            show F s₁ (mkF m 80 #[.val (.ref a), .val (.int pv), .val (.int ev), .val (.int ld), .val (.int (3 : Int32)), .unset, .unset, .unset, .unset, .unset] [(.int (1 : Int32)), (.int pv), (.ref a)])
            refine hst (fun t₀ k₀ => XS.iadd XI.here hx rfl (hb hby d4_80) rfl k₀) ?_
            show F s₁ (mkF m 81 #[.val (.ref a), .val (.int pv), .val (.int ev), .val (.int ld), .val (.int (3 : Int32)), .unset, .unset, .unset, .unset, .unset] [(.int (pv + (1 : Int32))), (.ref a)])
            generalize hix1 : (pv + (1 : Int32)) = ix1
            show F s₁ (mkF m 81 #[.val (.ref a), .val (.int pv), .val (.int ev), .val (.int ld), .val (.int (3 : Int32)), .unset, .unset, .unset, .unset, .unset] [(.int ix1), (.ref a)])
            have kix1 : ix1.toInt = ((p' + 1 : Nat) : Int) := by have h1 := c_iadd pv 1; have h2 := rng32 ix1; rw [hix1] at h1; omega
            have ql1 : p' + 1 < e' := by simp only [own_lt32] at hc72; omega
            refine hst (fun t₀ k₀ => own_baload XI hx hZ eI Ar (own_idx ix1 6 (by omega) (by omega)) (v := (.int (g (p' + 1)))) (by show Value.int (g ix1.toNatClampNeg) = _; rw [own_clamp ix1 _ kix1]) (g := (mkF m 81 #[.val (.ref a), .val (.int pv), .val (.int ev), .val (.int ld), .val (.int (3 : Int32)), .unset, .unset, .unset, .unset, .unset] [(.int ix1), (.ref a)])) rfl rfl (hb hby d4_81) t₀ k₀) ?_
            show F s₁ (mkF m 82 #[.val (.ref a), .val (.int pv), .val (.int ev), .val (.int ld), .val (.int (3 : Int32)), .unset, .unset, .unset, .unset, .unset] [(.int (g (p' + 1)))])
            refine hst (fun t₀ k₀ => XS.sipush XI.here hx rfl (hb hby d4_82) k₀) ?_
            show F s₁ (mkF m 85 #[.val (.ref a), .val (.int pv), .val (.int ev), .val (.int ld), .val (.int (3 : Int32)), .unset, .unset, .unset, .unset, .unset] [(.int (255 : Int32)), (.int (g (p' + 1)))])
            refine hst (fun t₀ k₀ => XS.iand XI.here hx rfl (hb hby d4_85) rfl k₀) ?_
            show F s₁ (mkF m 86 #[.val (.ref a), .val (.int pv), .val (.int ev), .val (.int ld), .val (.int (3 : Int32)), .unset, .unset, .unset, .unset, .unset] [(.int ((g (p' + 1)) &&& (255 : Int32)))])
            generalize hb1 : ((g (p' + 1)) &&& (255 : Int32)) = b1
            show F s₁ (mkF m 86 #[.val (.ref a), .val (.int pv), .val (.int ev), .val (.int ld), .val (.int (3 : Int32)), .unset, .unset, .unset, .unset, .unset] [(.int b1)])
            obtain ⟨kb1, kb1b⟩ : b1.toInt = (own_B g (p' + 1) : Int) ∧ own_B g (p' + 1) < 256 := by rw [← hb1]; exact own_byte g _
            refine hst (fun t₀ k₀ => XS.istore XI.here hx rfl (hb hby d4_86) rfl (l' := #[.val (.ref a), .val (.int pv), .val (.int ev), .val (.int ld), .val (.int (3 : Int32)), .val (.int b1), .unset, .unset, .unset, .unset]) rfl k₀) ?_
            show F s₁ (mkF m 88 #[.val (.ref a), .val (.int pv), .val (.int ev), .val (.int ld), .val (.int (3 : Int32)), .val (.int b1), .unset, .unset, .unset, .unset] [])
            refine hst (fun t₀ k₀ => XS.iload XI.here hx rfl (hb hby d4_88) rfl k₀) ?_
            show F s₁ (mkF m 90 #[.val (.ref a), .val (.int pv), .val (.int ev), .val (.int ld), .val (.int (3 : Int32)), .val (.int b1), .unset, .unset, .unset, .unset] [(.int b1)])
            obtain ⟨v90, T90, Lc90, X90, hQ90, st90⟩ := own_callS XI hx hZ hown (y := (⟨"com/example/leafline/leafline/table/CodePointOrderWellFormedPinLaw", "isCont", "(I)Z"⟩ : MethodName)) (hw _ (List.mem_of_getElem? (i := 15) rfl)) (hw _ (List.mem_of_getElem? (i := 16) rfl)) (hw _ (List.mem_of_getElem? (i := 3) rfl)) (hw _ (List.mem_of_getElem? (i := 17) rfl)) (by decide) eI (rm5 l Z a0 hw [] b1 hI n0 Z0 ) (by decide) (by decide) (g := (mkF m 90 #[.val (.ref a), .val (.int pv), .val (.int ev), .val (.int ld), .val (.int (3 : Int32)), .val (.int b1), .unset, .unset, .unset, .unset] [(.int b1)])) rfl (by rw [hml]; rfl) (argsL := [(.int b1)]) (rest := []) (lenOf pd_0 rfl) rfl rfl (W := 0) (by show 2 * 0 + _ ≤ _; exact Nat.le_of_eq rfl) (hb hby d4_90) (by decide) (by decide)
            obtain ⟨rfl, Nq90, he90⟩ := hQ90
            have N90 := Fr.app NI Nq90
            refine hst st90 ?_
            show F T90 (mkF m 93 #[.val (.ref a), .val (.int pv), .val (.int ev), .val (.int ld), .val (.int (3 : Int32)), .val (.int b1), .unset, .unset, .unset, .unset] [(.int (own_ct b1))])
            by_cases hc93 : (own_ct b1) = (0 : Int32)
            · -- pc 93: not taken
              refine hst (fun t₀ k₀ => XS.ifNo X90.here hx rfl (hb hby d4_93) rfl ((if0 _ _).trans (teq hc93).2) k₀) ?_
              show F T90 (mkF m 96 #[.val (.ref a), .val (.int pv), .val (.int ev), .val (.int ld), .val (.int (3 : Int32)), .val (.int b1), .unset, .unset, .unset, .unset] [])
              refine hst (fun t₀ k₀ => XS.iconst X90.here hx rfl (hb hby d4_96) k₀) ?_
              show F T90 (mkF m 97 #[.val (.ref a), .val (.int pv), .val (.int ev), .val (.int ld), .val (.int (3 : Int32)), .val (.int b1), .unset, .unset, .unset, .unset] [(.int (0 : Int32))])
              rw [hF]
              refine own_retI X90 hx hret hlk (hb hby d4_97) (by decide) (by decide) ?_
              simp only [own_lt32, own_eq32] at hc12 hc21 hc30 hc43 hc72
              simp only [own_ct0] at hc93
              have hcl : own_cl (own_B g) p' e' = 0 := by
                unfold own_cl; (repeat' split) <;> omega
              rw [he90]
              exact ⟨(by rw [hcl]; rfl), N90, rfl⟩
            · -- pc 93: taken
              refine hst (fun t₀ k₀ => XS.ifYes X90.here hx rfl (pc0 := 93) (pc' := 98) rfl (hb hby d4_93) rfl ((if0 _ _).trans (feq hc93).2) (by decide) (by decide) k₀) ?_
              show F T90 (mkF m 98 #[.val (.ref a), .val (.int pv), .val (.int ev), .val (.int ld), .val (.int (3 : Int32)), .val (.int b1), .unset, .unset, .unset, .unset] [])
              refine hst (fun t₀ k₀ => XS.iload X90.here hx rfl (hb hby d4_98) rfl k₀) ?_
              show F T90 (mkF m 100 #[.val (.ref a), .val (.int pv), .val (.int ev), .val (.int ld), .val (.int (3 : Int32)), .val (.int b1), .unset, .unset, .unset, .unset] [(.int (3 : Int32))])
              refine hst (fun t₀ k₀ => XS.iconst X90.here hx rfl (hb hby d4_100) k₀) ?_
              show F T90 (mkF m 101 #[.val (.ref a), .val (.int pv), .val (.int ev), .val (.int ld), .val (.int (3 : Int32)), .val (.int b1), .unset, .unset, .unset, .unset] [(.int (2 : Int32)), (.int (3 : Int32))])
              refine hst (fun t₀ k₀ => XS.icmpYes X90.here hx rfl (pc0 := 101) (pc' := 127) rfl (hb hby d4_101) rfl (feq (by decide)).2 (by decide) (by decide) k₀) ?_
              show F T90 (mkF m 127 #[.val (.ref a), .val (.int pv), .val (.int ev), .val (.int ld), .val (.int (3 : Int32)), .val (.int b1), .unset, .unset, .unset, .unset] [])
              refine hst (fun t₀ k₀ => XS.aloadN X90.here hx rfl (hb hby d4_127) rfl rfl k₀) ?_
              show F T90 (mkF m 128 #[.val (.ref a), .val (.int pv), .val (.int ev), .val (.int ld), .val (.int (3 : Int32)), .val (.int b1), .unset, .unset, .unset, .unset] [(.ref a)])
              refine hst (fun t₀ k₀ => XS.iloadN X90.here hx rfl (hb hby d4_128) rfl k₀) ?_
              show F T90 (mkF m 129 #[.val (.ref a), .val (.int pv), .val (.int ev), .val (.int ld), .val (.int (3 : Int32)), .val (.int b1), .unset, .unset, .unset, .unset] [(.int pv), (.ref a)])
              refine hst (fun t₀ k₀ => XS.iconst X90.here hx rfl (hb hby d4_129) k₀) ?_
              show F T90 (mkF m 130 #[.val (.ref a), .val (.int pv), .val (.int ev), .val (.int ld), .val (.int (3 : Int32)), .val (.int b1), .unset, .unset, .unset, .unset] [(.int (2 : Int32)), (.int pv), (.ref a)])
              refine hst (fun t₀ k₀ => XS.iadd X90.here hx rfl (hb hby d4_130) rfl k₀) ?_
              show F T90 (mkF m 131 #[.val (.ref a), .val (.int pv), .val (.int ev), .val (.int ld), .val (.int (3 : Int32)), .val (.int b1), .unset, .unset, .unset, .unset] [(.int (pv + (2 : Int32))), (.ref a)])
              generalize hix2 : (pv + (2 : Int32)) = ix2
              show F T90 (mkF m 131 #[.val (.ref a), .val (.int pv), .val (.int ev), .val (.int ld), .val (.int (3 : Int32)), .val (.int b1), .unset, .unset, .unset, .unset] [(.int ix2), (.ref a)])
              have kix2 : ix2.toInt = ((p' + 2 : Nat) : Int) := by have h1 := c_iadd pv 2; have h2 := rng32 ix2; rw [hix2] at h1; omega
              have ql2 : p' + 2 < e' := by simp only [own_lt32] at hc72; omega
              refine hst (fun t₀ k₀ => own_baload X90 hx hZ he90 Ar (own_idx ix2 6 (by omega) (by omega)) (v := (.int (g (p' + 2)))) (by show Value.int (g ix2.toNatClampNeg) = _; rw [own_clamp ix2 _ kix2]) (g := (mkF m 131 #[.val (.ref a), .val (.int pv), .val (.int ev), .val (.int ld), .val (.int (3 : Int32)), .val (.int b1), .unset, .unset, .unset, .unset] [(.int ix2), (.ref a)])) rfl rfl (hb hby d4_131) t₀ k₀) ?_
              show F T90 (mkF m 132 #[.val (.ref a), .val (.int pv), .val (.int ev), .val (.int ld), .val (.int (3 : Int32)), .val (.int b1), .unset, .unset, .unset, .unset] [(.int (g (p' + 2)))])
              refine hst (fun t₀ k₀ => XS.sipush X90.here hx rfl (hb hby d4_132) k₀) ?_
              show F T90 (mkF m 135 #[.val (.ref a), .val (.int pv), .val (.int ev), .val (.int ld), .val (.int (3 : Int32)), .val (.int b1), .unset, .unset, .unset, .unset] [(.int (255 : Int32)), (.int (g (p' + 2)))])
              refine hst (fun t₀ k₀ => XS.iand X90.here hx rfl (hb hby d4_135) rfl k₀) ?_
              show F T90 (mkF m 136 #[.val (.ref a), .val (.int pv), .val (.int ev), .val (.int ld), .val (.int (3 : Int32)), .val (.int b1), .unset, .unset, .unset, .unset] [(.int ((g (p' + 2)) &&& (255 : Int32)))])
              generalize hb2 : ((g (p' + 2)) &&& (255 : Int32)) = b2
              show F T90 (mkF m 136 #[.val (.ref a), .val (.int pv), .val (.int ev), .val (.int ld), .val (.int (3 : Int32)), .val (.int b1), .unset, .unset, .unset, .unset] [(.int b2)])
              obtain ⟨kb2, kb2b⟩ : b2.toInt = (own_B g (p' + 2) : Int) ∧ own_B g (p' + 2) < 256 := by rw [← hb2]; exact own_byte g _
              refine hst (fun t₀ k₀ => XS.istore X90.here hx rfl (hb hby d4_136) rfl (l' := #[.val (.ref a), .val (.int pv), .val (.int ev), .val (.int ld), .val (.int (3 : Int32)), .val (.int b1), .unset, .unset, .val (.int b2), .unset]) rfl k₀) ?_
              show F T90 (mkF m 138 #[.val (.ref a), .val (.int pv), .val (.int ev), .val (.int ld), .val (.int (3 : Int32)), .val (.int b1), .unset, .unset, .val (.int b2), .unset] [])
              refine hst (fun t₀ k₀ => XS.iload X90.here hx rfl (hb hby d4_138) rfl k₀) ?_
              show F T90 (mkF m 140 #[.val (.ref a), .val (.int pv), .val (.int ev), .val (.int ld), .val (.int (3 : Int32)), .val (.int b1), .unset, .unset, .val (.int b2), .unset] [(.int b2)])
              obtain ⟨v140, T140, Lc140, X140, hQ140, st140⟩ := own_callS X90 hx hZ hown (y := (⟨"com/example/leafline/leafline/table/CodePointOrderWellFormedPinLaw", "isCont", "(I)Z"⟩ : MethodName)) (hw _ (List.mem_of_getElem? (i := 15) rfl)) (hw _ (List.mem_of_getElem? (i := 16) rfl)) (hw _ (List.mem_of_getElem? (i := 3) rfl)) (hw _ (List.mem_of_getElem? (i := 17) rfl)) (by decide) he90 (rm5 l Z a0 hw [] b2 hI n0 Z0 ) (by decide) (by decide) (g := (mkF m 140 #[.val (.ref a), .val (.int pv), .val (.int ev), .val (.int ld), .val (.int (3 : Int32)), .val (.int b1), .unset, .unset, .val (.int b2), .unset] [(.int b2)])) rfl (by rw [hml]; rfl) (argsL := [(.int b2)]) (rest := []) (lenOf pd_0 rfl) rfl rfl (W := 0) (by show 2 * 0 + _ ≤ _; exact Nat.le_of_eq rfl) (hb hby d4_140) (by decide) (by decide)
              obtain ⟨rfl, Nq140, he140⟩ := hQ140
              have N140 := Fr.app N90 Nq140
              refine hst st140 ?_
              show F T140 (mkF m 143 #[.val (.ref a), .val (.int pv), .val (.int ev), .val (.int ld), .val (.int (3 : Int32)), .val (.int b1), .unset, .unset, .val (.int b2), .unset] [(.int (own_ct b2))])
              by_cases hc143 : (own_ct b2) = (0 : Int32)
              · -- pc 143: not taken
                refine hst (fun t₀ k₀ => XS.ifNo X140.here hx rfl (hb hby d4_143) rfl ((if0 _ _).trans (teq hc143).2) k₀) ?_
                show F T140 (mkF m 146 #[.val (.ref a), .val (.int pv), .val (.int ev), .val (.int ld), .val (.int (3 : Int32)), .val (.int b1), .unset, .unset, .val (.int b2), .unset] [])
                refine hst (fun t₀ k₀ => XS.iconst X140.here hx rfl (hb hby d4_146) k₀) ?_
                show F T140 (mkF m 147 #[.val (.ref a), .val (.int pv), .val (.int ev), .val (.int ld), .val (.int (3 : Int32)), .val (.int b1), .unset, .unset, .val (.int b2), .unset] [(.int (0 : Int32))])
                rw [hF]
                refine own_retI X140 hx hret hlk (hb hby d4_147) (by decide) (by decide) ?_
                simp only [own_lt32, own_eq32] at hc12 hc21 hc30 hc43 hc72
                simp only [own_ct0] at hc93 hc143
                have hcl : own_cl (own_B g) p' e' = 0 := by
                  unfold own_cl; (repeat' split) <;> omega
                rw [he140]
                exact ⟨(by rw [hcl]; rfl), N140, rfl⟩
              · -- pc 143: taken
                refine hst (fun t₀ k₀ => XS.ifYes X140.here hx rfl (pc0 := 143) (pc' := 148) rfl (hb hby d4_143) rfl ((if0 _ _).trans (feq hc143).2) (by decide) (by decide) k₀) ?_
                show F T140 (mkF m 148 #[.val (.ref a), .val (.int pv), .val (.int ev), .val (.int ld), .val (.int (3 : Int32)), .val (.int b1), .unset, .unset, .val (.int b2), .unset] [])
                refine hst (fun t₀ k₀ => XS.iload X140.here hx rfl (hb hby d4_148) rfl k₀) ?_
                show F T140 (mkF m 150 #[.val (.ref a), .val (.int pv), .val (.int ev), .val (.int ld), .val (.int (3 : Int32)), .val (.int b1), .unset, .unset, .val (.int b2), .unset] [(.int (3 : Int32))])
                refine hst (fun t₀ k₀ => XS.iconst X140.here hx rfl (hb hby d4_150) k₀) ?_
                show F T140 (mkF m 151 #[.val (.ref a), .val (.int pv), .val (.int ev), .val (.int ld), .val (.int (3 : Int32)), .val (.int b1), .unset, .unset, .val (.int b2), .unset] [(.int (3 : Int32)), (.int (3 : Int32))])
                refine hst (fun t₀ k₀ => XS.icmpNo X140.here hx rfl (hb hby d4_151) rfl (teq (by decide)).2 k₀) ?_
                show F T140 (mkF m 154 #[.val (.ref a), .val (.int pv), .val (.int ev), .val (.int ld), .val (.int (3 : Int32)), .val (.int b1), .unset, .unset, .val (.int b2), .unset] [])
                refine hst (fun t₀ k₀ => XS.iloadN X140.here hx rfl (hb hby d4_154) rfl k₀) ?_
                show F T140 (mkF m 155 #[.val (.ref a), .val (.int pv), .val (.int ev), .val (.int ld), .val (.int (3 : Int32)), .val (.int b1), .unset, .unset, .val (.int b2), .unset] [(.int ld)])
                refine hst (fun t₀ k₀ => XS.bipush X140.here hx rfl (hb hby d4_155) k₀) ?_
                show F T140 (mkF m 157 #[.val (.ref a), .val (.int pv), .val (.int ev), .val (.int ld), .val (.int (3 : Int32)), .val (.int b1), .unset, .unset, .val (.int b2), .unset] [(.int (15 : Int32)), (.int ld)])
                refine hst (fun t₀ k₀ => XS.iand X140.here hx rfl (hb hby d4_157) rfl k₀) ?_
                show F T140 (mkF m 158 #[.val (.ref a), .val (.int pv), .val (.int ev), .val (.int ld), .val (.int (3 : Int32)), .val (.int b1), .unset, .unset, .val (.int b2), .unset] [(.int (ld &&& (15 : Int32)))])
                generalize hl5 : (ld &&& (15 : Int32)) = l5
                show F T140 (mkF m 158 #[.val (.ref a), .val (.int pv), .val (.int ev), .val (.int ld), .val (.int (3 : Int32)), .val (.int b1), .unset, .unset, .val (.int b2), .unset] [(.int l5)])
                have kl5 : l5.toInt = ld.toInt % 16 := by rw [← hl5]; exact c_mask ld 15 4 (by decide) (by decide)
                refine hst (fun t₀ k₀ => XS.bipush X140.here hx rfl (hb hby d4_158) k₀) ?_
                show F T140 (mkF m 160 #[.val (.ref a), .val (.int pv), .val (.int ev), .val (.int ld), .val (.int (3 : Int32)), .val (.int b1), .unset, .unset, .val (.int b2), .unset] [(.int (12 : Int32)), (.int l5)])
                refine hst (fun t₀ k₀ => XS.ishl X140.here hx rfl (hb hby d4_160) rfl k₀) ?_
                show F T140 (mkF m 161 #[.val (.ref a), .val (.int pv), .val (.int ev), .val (.int ld), .val (.int (3 : Int32)), .val (.int b1), .unset, .unset, .val (.int b2), .unset] [(.int (l5 <<< ((12 : Int32) &&& 31)))])
                generalize hl6 : (l5 <<< ((12 : Int32) &&& 31)) = l6
                show F T140 (mkF m 161 #[.val (.ref a), .val (.int pv), .val (.int ev), .val (.int ld), .val (.int (3 : Int32)), .val (.int b1), .unset, .unset, .val (.int b2), .unset] [(.int l6)])
                have kl6 : l6.toInt = l5.toInt * 4096 := by have h1 := c_ishl l5 12 12 (by decide); have h2 := rng32 l6; rw [hl6] at h1; omega
                refine hst (fun t₀ k₀ => XS.iload X140.here hx rfl (hb hby d4_161) rfl k₀) ?_
                show F T140 (mkF m 163 #[.val (.ref a), .val (.int pv), .val (.int ev), .val (.int ld), .val (.int (3 : Int32)), .val (.int b1), .unset, .unset, .val (.int b2), .unset] [(.int b1), (.int l6)])
                refine hst (fun t₀ k₀ => XS.bipush X140.here hx rfl (hb hby d4_163) k₀) ?_
                show F T140 (mkF m 165 #[.val (.ref a), .val (.int pv), .val (.int ev), .val (.int ld), .val (.int (3 : Int32)), .val (.int b1), .unset, .unset, .val (.int b2), .unset] [(.int (63 : Int32)), (.int b1), (.int l6)])
                refine hst (fun t₀ k₀ => XS.iand X140.here hx rfl (hb hby d4_165) rfl k₀) ?_
                show F T140 (mkF m 166 #[.val (.ref a), .val (.int pv), .val (.int ev), .val (.int ld), .val (.int (3 : Int32)), .val (.int b1), .unset, .unset, .val (.int b2), .unset] [(.int (b1 &&& (63 : Int32))), (.int l6)])
                generalize hm1 : (b1 &&& (63 : Int32)) = m1
                show F T140 (mkF m 166 #[.val (.ref a), .val (.int pv), .val (.int ev), .val (.int ld), .val (.int (3 : Int32)), .val (.int b1), .unset, .unset, .val (.int b2), .unset] [(.int m1), (.int l6)])
                have km1 : m1.toInt = b1.toInt % 64 := by rw [← hm1]; exact c_mask b1 63 6 (by decide) (by decide)
                refine hst (fun t₀ k₀ => XS.bipush X140.here hx rfl (hb hby d4_166) k₀) ?_
                show F T140 (mkF m 168 #[.val (.ref a), .val (.int pv), .val (.int ev), .val (.int ld), .val (.int (3 : Int32)), .val (.int b1), .unset, .unset, .val (.int b2), .unset] [(.int (6 : Int32)), (.int m1), (.int l6)])
                refine hst (fun t₀ k₀ => XS.ishl X140.here hx rfl (hb hby d4_168) rfl k₀) ?_
                show F T140 (mkF m 169 #[.val (.ref a), .val (.int pv), .val (.int ev), .val (.int ld), .val (.int (3 : Int32)), .val (.int b1), .unset, .unset, .val (.int b2), .unset] [(.int (m1 <<< ((6 : Int32) &&& 31))), (.int l6)])
                generalize hm2 : (m1 <<< ((6 : Int32) &&& 31)) = m2
                show F T140 (mkF m 169 #[.val (.ref a), .val (.int pv), .val (.int ev), .val (.int ld), .val (.int (3 : Int32)), .val (.int b1), .unset, .unset, .val (.int b2), .unset] [(.int m2), (.int l6)])
                have km2 : m2.toInt = m1.toInt * 64 := by have h1 := c_ishl m1 6 6 (by decide); have h2 := rng32 m2; rw [hm2] at h1; omega
                refine hst (fun t₀ k₀ => XS.ior X140.here hx rfl (hb hby d4_169) rfl k₀) ?_
                show F T140 (mkF m 170 #[.val (.ref a), .val (.int pv), .val (.int ev), .val (.int ld), .val (.int (3 : Int32)), .val (.int b1), .unset, .unset, .val (.int b2), .unset] [(.int (l6 ||| m2))])
                generalize hc1 : (l6 ||| m2) = c1
                show F T140 (mkF m 170 #[.val (.ref a), .val (.int pv), .val (.int ev), .val (.int ld), .val (.int (3 : Int32)), .val (.int b1), .unset, .unset, .val (.int b2), .unset] [(.int c1)])
                have kc1 : c1.toInt = l6.toInt + m2.toInt := by have h1 := c_or l6 m2 12 (by decide) 4096 (by decide) (by omega) (by omega) (by omega); have h2 := rng32 c1; rw [hc1] at h1; omega
                refine hst (fun t₀ k₀ => XS.iload X140.here hx rfl (hb hby d4_170) rfl k₀) ?_
                show F T140 (mkF m 172 #[.val (.ref a), .val (.int pv), .val (.int ev), .val (.int ld), .val (.int (3 : Int32)), .val (.int b1), .unset, .unset, .val (.int b2), .unset] [(.int b2), (.int c1)])
                refine hst (fun t₀ k₀ => XS.bipush X140.here hx rfl (hb hby d4_172) k₀) ?_
                show F T140 (mkF m 174 #[.val (.ref a), .val (.int pv), .val (.int ev), .val (.int ld), .val (.int (3 : Int32)), .val (.int b1), .unset, .unset, .val (.int b2), .unset] [(.int (63 : Int32)), (.int b2), (.int c1)])
                refine hst (fun t₀ k₀ => XS.iand X140.here hx rfl (hb hby d4_174) rfl k₀) ?_
                show F T140 (mkF m 175 #[.val (.ref a), .val (.int pv), .val (.int ev), .val (.int ld), .val (.int (3 : Int32)), .val (.int b1), .unset, .unset, .val (.int b2), .unset] [(.int (b2 &&& (63 : Int32))), (.int c1)])
                generalize hm3 : (b2 &&& (63 : Int32)) = m3
                show F T140 (mkF m 175 #[.val (.ref a), .val (.int pv), .val (.int ev), .val (.int ld), .val (.int (3 : Int32)), .val (.int b1), .unset, .unset, .val (.int b2), .unset] [(.int m3), (.int c1)])
                have km3 : m3.toInt = b2.toInt % 64 := by rw [← hm3]; exact c_mask b2 63 6 (by decide) (by decide)
                refine hst (fun t₀ k₀ => XS.ior X140.here hx rfl (hb hby d4_175) rfl k₀) ?_
                show F T140 (mkF m 176 #[.val (.ref a), .val (.int pv), .val (.int ev), .val (.int ld), .val (.int (3 : Int32)), .val (.int b1), .unset, .unset, .val (.int b2), .unset] [(.int (c1 ||| m3))])
                generalize hcp : (c1 ||| m3) = cp
                show F T140 (mkF m 176 #[.val (.ref a), .val (.int pv), .val (.int ev), .val (.int ld), .val (.int (3 : Int32)), .val (.int b1), .unset, .unset, .val (.int b2), .unset] [(.int cp)])
                have kcp : cp.toInt = c1.toInt + m3.toInt := by have h1 := c_or c1 m3 6 (by decide) 64 (by decide) (by omega) (by omega) (by omega); have h2 := rng32 cp; rw [hcp] at h1; omega
                refine hst (fun t₀ k₀ => XS.istore X140.here hx rfl (hb hby d4_176) rfl (l' := #[.val (.ref a), .val (.int pv), .val (.int ev), .val (.int ld), .val (.int (3 : Int32)), .val (.int b1), .val (.int cp), .unset, .val (.int b2), .unset]) rfl k₀) ?_
                show F T140 (mkF m 178 #[.val (.ref a), .val (.int pv), .val (.int ev), .val (.int ld), .val (.int (3 : Int32)), .val (.int b1), .val (.int cp), .unset, .val (.int b2), .unset] [])
                refine hst (fun t₀ k₀ => XS.sipush X140.here hx rfl (hb hby d4_178) k₀) ?_
                show F T140 (mkF m 181 #[.val (.ref a), .val (.int pv), .val (.int ev), .val (.int ld), .val (.int (3 : Int32)), .val (.int b1), .val (.int cp), .unset, .val (.int b2), .unset] [(.int (2048 : Int32))])
                refine hst (fun t₀ k₀ => XS.istore X140.here hx rfl (hb hby d4_181) rfl (l' := #[.val (.ref a), .val (.int pv), .val (.int ev), .val (.int ld), .val (.int (3 : Int32)), .val (.int b1), .val (.int cp), .val (.int (2048 : Int32)), .val (.int b2), .unset]) rfl k₀) ?_
                show F T140 (mkF m 183 #[.val (.ref a), .val (.int pv), .val (.int ev), .val (.int ld), .val (.int (3 : Int32)), .val (.int b1), .val (.int cp), .val (.int (2048 : Int32)), .val (.int b2), .unset] [])
                refine hst (fun t₀ k₀ => XS.goto X140.here hx rfl (pc0 := 183) (pc' := 244) rfl (hb hby d4_183) (by decide) (by decide) k₀) ?_
                show F T140 (mkF m 244 #[.val (.ref a), .val (.int pv), .val (.int ev), .val (.int ld), .val (.int (3 : Int32)), .val (.int b1), .val (.int cp), .val (.int (2048 : Int32)), .val (.int b2), .unset] [])
                refine hst (fun t₀ k₀ => XS.iload X140.here hx rfl (hb hby d4_244) rfl k₀) ?_
                show F T140 (mkF m 246 #[.val (.ref a), .val (.int pv), .val (.int ev), .val (.int ld), .val (.int (3 : Int32)), .val (.int b1), .val (.int cp), .val (.int (2048 : Int32)), .val (.int b2), .unset] [(.int cp)])
                refine hst (fun t₀ k₀ => XS.iload X140.here hx rfl (hb hby d4_246) rfl k₀) ?_
                show F T140 (mkF m 248 #[.val (.ref a), .val (.int pv), .val (.int ev), .val (.int ld), .val (.int (3 : Int32)), .val (.int b1), .val (.int cp), .val (.int (2048 : Int32)), .val (.int b2), .unset] [(.int (2048 : Int32)), (.int cp)])
                by_cases hc248 : cp < (2048 : Int32)
                · -- pc 248: not taken
                  refine hst (fun t₀ k₀ => XS.icmpNo X140.here hx rfl (hb hby d4_248) rfl (tlt hc248).2.1 k₀) ?_
                  show F T140 (mkF m 251 #[.val (.ref a), .val (.int pv), .val (.int ev), .val (.int ld), .val (.int (3 : Int32)), .val (.int b1), .val (.int cp), .val (.int (2048 : Int32)), .val (.int b2), .unset] [])
                  refine hst (fun t₀ k₀ => XS.iconst X140.here hx rfl (hb hby d4_251) k₀) ?_
                  show F T140 (mkF m 252 #[.val (.ref a), .val (.int pv), .val (.int ev), .val (.int ld), .val (.int (3 : Int32)), .val (.int b1), .val (.int cp), .val (.int (2048 : Int32)), .val (.int b2), .unset] [(.int (0 : Int32))])
                  rw [hF]
                  refine own_retI X140 hx hret hlk (hb hby d4_252) (by decide) (by decide) ?_
                  simp only [own_lt32, own_eq32] at hc12 hc21 hc30 hc43 hc72 hc248
                  simp only [own_ct0] at hc93 hc143
                  have hcl : own_cl (own_B g) p' e' = 0 := by
                    unfold own_cl; (repeat' split) <;> omega
                  rw [he140]
                  exact ⟨(by rw [hcl]; rfl), N140, rfl⟩
                · -- pc 248: taken
                  refine hst (fun t₀ k₀ => XS.icmpYes X140.here hx rfl (pc0 := 248) (pc' := 253) rfl (hb hby d4_248) rfl (flt hc248).2.1 (by decide) (by decide) k₀) ?_
                  show F T140 (mkF m 253 #[.val (.ref a), .val (.int pv), .val (.int ev), .val (.int ld), .val (.int (3 : Int32)), .val (.int b1), .val (.int cp), .val (.int (2048 : Int32)), .val (.int b2), .unset] [])
                  refine hst (fun t₀ k₀ => XS.iload X140.here hx rfl (hb hby d4_253) rfl k₀) ?_
                  show F T140 (mkF m 255 #[.val (.ref a), .val (.int pv), .val (.int ev), .val (.int ld), .val (.int (3 : Int32)), .val (.int b1), .val (.int cp), .val (.int (2048 : Int32)), .val (.int b2), .unset] [(.int cp)])
                  refine hst (fun t₀ k₀ => X140.ldcI hx hown (mvT hZ (hw _ (List.mem_of_getElem? (i := 19) rfl))) (g := (mkF m 255 #[.val (.ref a), .val (.int pv), .val (.int ev), .val (.int ld), .val (.int (3 : Int32)), .val (.int b1), .val (.int cp), .val (.int (2048 : Int32)), .val (.int b2), .unset] [(.int cp)])) rfl (hb hby d4_255) k₀) ?_
                  show F T140 (mkF m 257 #[.val (.ref a), .val (.int pv), .val (.int ev), .val (.int ld), .val (.int (3 : Int32)), .val (.int b1), .val (.int cp), .val (.int (2048 : Int32)), .val (.int b2), .unset] [(.int (1114111 : Int32)), (.int cp)])
                  by_cases hc257 : (1114111 : Int32) < cp
                  · -- pc 257: not taken
                    refine hst (fun t₀ k₀ => XS.icmpNo X140.here hx rfl (hb hby d4_257) rfl (tlt hc257).2.2.2 k₀) ?_
                    show F T140 (mkF m 260 #[.val (.ref a), .val (.int pv), .val (.int ev), .val (.int ld), .val (.int (3 : Int32)), .val (.int b1), .val (.int cp), .val (.int (2048 : Int32)), .val (.int b2), .unset] [])
                    refine hst (fun t₀ k₀ => XS.iconst X140.here hx rfl (hb hby d4_260) k₀) ?_
                    show F T140 (mkF m 261 #[.val (.ref a), .val (.int pv), .val (.int ev), .val (.int ld), .val (.int (3 : Int32)), .val (.int b1), .val (.int cp), .val (.int (2048 : Int32)), .val (.int b2), .unset] [(.int (0 : Int32))])
                    rw [hF]
                    refine own_retI X140 hx hret hlk (hb hby d4_261) (by decide) (by decide) ?_
                    simp only [own_lt32, own_eq32] at hc12 hc21 hc30 hc43 hc72 hc248 hc257
                    simp only [own_ct0] at hc93 hc143
                    have hcl : own_cl (own_B g) p' e' = 0 := by
                      unfold own_cl; (repeat' split) <;> omega
                    rw [he140]
                    exact ⟨(by rw [hcl]; rfl), N140, rfl⟩
                  · -- pc 257: taken
                    refine hst (fun t₀ k₀ => XS.icmpYes X140.here hx rfl (pc0 := 257) (pc' := 262) rfl (hb hby d4_257) rfl (flt hc257).2.2.2 (by decide) (by decide) k₀) ?_
                    show F T140 (mkF m 262 #[.val (.ref a), .val (.int pv), .val (.int ev), .val (.int ld), .val (.int (3 : Int32)), .val (.int b1), .val (.int cp), .val (.int (2048 : Int32)), .val (.int b2), .unset] [])
                    refine hst (fun t₀ k₀ => XS.iload X140.here hx rfl (hb hby d4_262) rfl k₀) ?_
                    show F T140 (mkF m 264 #[.val (.ref a), .val (.int pv), .val (.int ev), .val (.int ld), .val (.int (3 : Int32)), .val (.int b1), .val (.int cp), .val (.int (2048 : Int32)), .val (.int b2), .unset] [(.int cp)])
                    refine hst (fun t₀ k₀ => X140.ldcI hx hown (mvT hZ (hw _ (List.mem_of_getElem? (i := 20) rfl))) (g := (mkF m 264 #[.val (.ref a), .val (.int pv), .val (.int ev), .val (.int ld), .val (.int (3 : Int32)), .val (.int b1), .val (.int cp), .val (.int (2048 : Int32)), .val (.int b2), .unset] [(.int cp)])) rfl (hb hby d4_264) k₀) ?_
                    show F T140 (mkF m 266 #[.val (.ref a), .val (.int pv), .val (.int ev), .val (.int ld), .val (.int (3 : Int32)), .val (.int b1), .val (.int cp), .val (.int (2048 : Int32)), .val (.int b2), .unset] [(.int (55296 : Int32)), (.int cp)])
                    by_cases hc266 : cp < (55296 : Int32)
                    · -- pc 266: taken
                      refine hst (fun t₀ k₀ => XS.icmpYes X140.here hx rfl (pc0 := 266) (pc' := 278) rfl (hb hby d4_266) rfl (tlt hc266).1 (by decide) (by decide) k₀) ?_
                      show F T140 (mkF m 278 #[.val (.ref a), .val (.int pv), .val (.int ev), .val (.int ld), .val (.int (3 : Int32)), .val (.int b1), .val (.int cp), .val (.int (2048 : Int32)), .val (.int b2), .unset] [])
                      refine hst (fun t₀ k₀ => XS.iload X140.here hx rfl (hb hby d4_278) rfl k₀) ?_
                      show F T140 (mkF m 280 #[.val (.ref a), .val (.int pv), .val (.int ev), .val (.int ld), .val (.int (3 : Int32)), .val (.int b1), .val (.int cp), .val (.int (2048 : Int32)), .val (.int b2), .unset] [(.int (3 : Int32))])
                      rw [hF]
                      refine own_retI X140 hx hret hlk (hb hby d4_280) (by decide) (by decide) ?_
                      simp only [own_lt32, own_eq32] at hc12 hc21 hc30 hc43 hc72 hc248 hc257 hc266
                      simp only [own_ct0] at hc93 hc143
                      have hcl : own_cl (own_B g) p' e' = 3 := by
                        unfold own_cl; (repeat' split) <;> omega
                      rw [he140]
                      exact ⟨(by rw [hcl]; rfl), N140, rfl⟩
                    · -- pc 266: not taken
                      refine hst (fun t₀ k₀ => XS.icmpNo X140.here hx rfl (hb hby d4_266) rfl (flt hc266).1 k₀) ?_
                      show F T140 (mkF m 269 #[.val (.ref a), .val (.int pv), .val (.int ev), .val (.int ld), .val (.int (3 : Int32)), .val (.int b1), .val (.int cp), .val (.int (2048 : Int32)), .val (.int b2), .unset] [])
                      refine hst (fun t₀ k₀ => XS.iload X140.here hx rfl (hb hby d4_269) rfl k₀) ?_
                      show F T140 (mkF m 271 #[.val (.ref a), .val (.int pv), .val (.int ev), .val (.int ld), .val (.int (3 : Int32)), .val (.int b1), .val (.int cp), .val (.int (2048 : Int32)), .val (.int b2), .unset] [(.int cp)])
                      refine hst (fun t₀ k₀ => X140.ldcI hx hown (mvT hZ (hw _ (List.mem_of_getElem? (i := 21) rfl))) (g := (mkF m 271 #[.val (.ref a), .val (.int pv), .val (.int ev), .val (.int ld), .val (.int (3 : Int32)), .val (.int b1), .val (.int cp), .val (.int (2048 : Int32)), .val (.int b2), .unset] [(.int cp)])) rfl (hb hby d4_271) k₀) ?_
                      show F T140 (mkF m 273 #[.val (.ref a), .val (.int pv), .val (.int ev), .val (.int ld), .val (.int (3 : Int32)), .val (.int b1), .val (.int cp), .val (.int (2048 : Int32)), .val (.int b2), .unset] [(.int (57343 : Int32)), (.int cp)])
                      by_cases hc273 : (57343 : Int32) < cp
                      · -- pc 273: taken
                        refine hst (fun t₀ k₀ => XS.icmpYes X140.here hx rfl (pc0 := 273) (pc' := 278) rfl (hb hby d4_273) rfl (tlt hc273).2.2.1 (by decide) (by decide) k₀) ?_
                        show F T140 (mkF m 278 #[.val (.ref a), .val (.int pv), .val (.int ev), .val (.int ld), .val (.int (3 : Int32)), .val (.int b1), .val (.int cp), .val (.int (2048 : Int32)), .val (.int b2), .unset] [])
                        refine hst (fun t₀ k₀ => XS.iload X140.here hx rfl (hb hby d4_278) rfl k₀) ?_
                        show F T140 (mkF m 280 #[.val (.ref a), .val (.int pv), .val (.int ev), .val (.int ld), .val (.int (3 : Int32)), .val (.int b1), .val (.int cp), .val (.int (2048 : Int32)), .val (.int b2), .unset] [(.int (3 : Int32))])
                        rw [hF]
                        refine own_retI X140 hx hret hlk (hb hby d4_280) (by decide) (by decide) ?_
                        simp only [own_lt32, own_eq32] at hc12 hc21 hc30 hc43 hc72 hc248 hc257 hc266 hc273
                        simp only [own_ct0] at hc93 hc143
                        have hcl : own_cl (own_B g) p' e' = 3 := by
                          unfold own_cl; (repeat' split) <;> omega
                        rw [he140]
                        exact ⟨(by rw [hcl]; rfl), N140, rfl⟩
                      · -- pc 273: not taken
                        refine hst (fun t₀ k₀ => XS.icmpNo X140.here hx rfl (hb hby d4_273) rfl (flt hc273).2.2.1 k₀) ?_
                        show F T140 (mkF m 276 #[.val (.ref a), .val (.int pv), .val (.int ev), .val (.int ld), .val (.int (3 : Int32)), .val (.int b1), .val (.int cp), .val (.int (2048 : Int32)), .val (.int b2), .unset] [])
                        refine hst (fun t₀ k₀ => XS.iconst X140.here hx rfl (hb hby d4_276) k₀) ?_
                        show F T140 (mkF m 277 #[.val (.ref a), .val (.int pv), .val (.int ev), .val (.int ld), .val (.int (3 : Int32)), .val (.int b1), .val (.int cp), .val (.int (2048 : Int32)), .val (.int b2), .unset] [(.int (0 : Int32))])
                        rw [hF]
                        refine own_retI X140 hx hret hlk (hb hby d4_277) (by decide) (by decide) ?_
                        simp only [own_lt32, own_eq32] at hc12 hc21 hc30 hc43 hc72 hc248 hc257 hc266 hc273
                        simp only [own_ct0] at hc93 hc143
                        have hcl : own_cl (own_B g) p' e' = 0 := by
                          unfold own_cl; (repeat' split) <;> omega
                        rw [he140]
                        exact ⟨(by rw [hcl]; rfl), N140, rfl⟩
        · -- pc 43: taken
          refine hst (fun t₀ k₀ => XS.icmpYes XI.here hx rfl (pc0 := 43) (pc' := 52) rfl (hb hby d4_43) rfl (flt hc43).2.1 (by decide) (by decide) k₀) ?_
          show F s₁ (mkF m 52 #[.val (.ref a), .val (.int pv), .val (.int ev), .val (.int ld), .unset, .unset, .unset, .unset, .unset, .unset] [])
          refine hst (fun t₀ k₀ => XS.iloadN XI.here hx rfl (hb hby d4_52) rfl k₀) ?_
          show F s₁ (mkF m 53 #[.val (.ref a), .val (.int pv), .val (.int ev), .val (.int ld), .unset, .unset, .unset, .unset, .unset, .unset] [(.int ld)])
          refine hst (fun t₀ k₀ => XS.sipush XI.here hx rfl (hb hby d4_53) k₀) ?_
          show F s₁ (mkF m 56 #[.val (.ref a), .val (.int pv), .val (.int ev), .val (.int ld), .unset, .unset, .unset, .unset, .unset, .unset] [(.int (248 : Int32)), (.int ld)])
          by_cases hc56 : ld < (248 : Int32)
          · -- pc 56: not taken
            refine hst (fun t₀ k₀ => XS.icmpNo XI.here hx rfl (hb hby d4_56) rfl (tlt hc56).2.1 k₀) ?_
            show F s₁ (mkF m 59 #[.val (.ref a), .val (.int pv), .val (.int ev), .val (.int ld), .unset, .unset, .unset, .unset, .unset, .unset] [])
            refine hst (fun t₀ k₀ => XS.iconst XI.here hx rfl (hb hby d4_59) k₀) ?_
            show F s₁ (mkF m 60 #[.val (.ref a), .val (.int pv), .val (.int ev), .val (.int ld), .unset, .unset, .unset, .unset, .unset, .unset] [(.int (4 : Int32))])
            refine hst (fun t₀ k₀ => XS.istore XI.here hx rfl (hb hby d4_60) rfl (l' := #[.val (.ref a), .val (.int pv), .val (.int ev), .val (.int ld), .val (.int (4 : Int32)), .unset, .unset, .unset, .unset, .unset]) rfl k₀) ?_
            show F s₁ (mkF m 62 #[.val (.ref a), .val (.int pv), .val (.int ev), .val (.int ld), .val (.int (4 : Int32)), .unset, .unset, .unset, .unset, .unset] [])
            refine hst (fun t₀ k₀ => XS.goto XI.here hx rfl (pc0 := 62) (pc' := 67) rfl (hb hby d4_62) (by decide) (by decide) k₀) ?_
            show F s₁ (mkF m 67 #[.val (.ref a), .val (.int pv), .val (.int ev), .val (.int ld), .val (.int (4 : Int32)), .unset, .unset, .unset, .unset, .unset] [])
            refine hst (fun t₀ k₀ => XS.iloadN XI.here hx rfl (hb hby d4_67) rfl k₀) ?_
            show F s₁ (mkF m 68 #[.val (.ref a), .val (.int pv), .val (.int ev), .val (.int ld), .val (.int (4 : Int32)), .unset, .unset, .unset, .unset, .unset] [(.int ev)])
            refine hst (fun t₀ k₀ => XS.iloadN XI.here hx rfl (hb hby d4_68) rfl k₀) ?_
            show F s₁ (mkF m 69 #[.val (.ref a), .val (.int pv), .val (.int ev), .val (.int ld), .val (.int (4 : Int32)), .unset, .unset, .unset, .unset, .unset] [(.int pv), (.int ev)])
            refine hst (fun t₀ k₀ => XS.isub XI.here hx rfl (hb hby d4_69) rfl k₀) ?_
            show F s₁ (mkF m 70 #[.val (.ref a), .val (.int pv), .val (.int ev), .val (.int ld), .val (.int (4 : Int32)), .unset, .unset, .unset, .unset, .unset] [(.int (ev - pv))])
            generalize hdf : (ev - pv) = df
            show F s₁ (mkF m 70 #[.val (.ref a), .val (.int pv), .val (.int ev), .val (.int ld), .val (.int (4 : Int32)), .unset, .unset, .unset, .unset, .unset] [(.int df)])
            have kdf : df.toInt = (e' : Int) - p' := by have h1 := c_isub ev pv; have h2 := rng32 df; rw [hdf] at h1; omega
            refine hst (fun t₀ k₀ => XS.iload XI.here hx rfl (hb hby d4_70) rfl k₀) ?_
            show F s₁ (mkF m 72 #[.val (.ref a), .val (.int pv), .val (.int ev), .val (.int ld), .val (.int (4 : Int32)), .unset, .unset, .unset, .unset, .unset] [(.int (4 : Int32)), (.int df)])
            by_cases hc72 : df < (4 : Int32)
            · -- pc 72: not taken
              refine hst (fun t₀ k₀ => XS.icmpNo XI.here hx rfl (hb hby d4_72) rfl (tlt hc72).2.1 k₀) ?_
              show F s₁ (mkF m 75 #[.val (.ref a), .val (.int pv), .val (.int ev), .val (.int ld), .val (.int (4 : Int32)), .unset, .unset, .unset, .unset, .unset] [])
              refine hst (fun t₀ k₀ => XS.iconst XI.here hx rfl (hb hby d4_75) k₀) ?_
              show F s₁ (mkF m 76 #[.val (.ref a), .val (.int pv), .val (.int ev), .val (.int ld), .val (.int (4 : Int32)), .unset, .unset, .unset, .unset, .unset] [(.int (0 : Int32))])
              rw [hF]
              refine own_retI XI hx hret hlk (hb hby d4_76) (by decide) (by decide) ?_
              simp only [own_lt32, own_eq32] at hc12 hc21 hc30 hc43 hc56 hc72
              have hcl : own_cl (own_B g) p' e' = 0 := by
                unfold own_cl; (repeat' split) <;> omega
              rw [eI]
              exact ⟨(by rw [hcl]; rfl), NI, rfl⟩
            · -- pc 72: taken
              refine hst (fun t₀ k₀ => XS.icmpYes XI.here hx rfl (pc0 := 72) (pc' := 77) rfl (hb hby d4_72) rfl (flt hc72).2.1 (by decide) (by decide) k₀) ?_
              show F s₁ (mkF m 77 #[.val (.ref a), .val (.int pv), .val (.int ev), .val (.int ld), .val (.int (4 : Int32)), .unset, .unset, .unset, .unset, .unset] [])
              refine hst (fun t₀ k₀ => XS.aloadN XI.here hx rfl (hb hby d4_77) rfl rfl k₀) ?_
              show F s₁ (mkF m 78 #[.val (.ref a), .val (.int pv), .val (.int ev), .val (.int ld), .val (.int (4 : Int32)), .unset, .unset, .unset, .unset, .unset] [(.ref a)])
              refine hst (fun t₀ k₀ => XS.iloadN XI.here hx rfl (hb hby d4_78) rfl k₀) ?_
              show F s₁ (mkF m 79 #[.val (.ref a), .val (.int pv), .val (.int ev), .val (.int ld), .val (.int (4 : Int32)), .unset, .unset, .unset, .unset, .unset] [(.int pv), (.ref a)])
              refine hst (fun t₀ k₀ => XS.iconst XI.here hx rfl (hb hby d4_79) k₀) ?_
              show F s₁ (mkF m 80 #[.val (.ref a), .val (.int pv), .val (.int ev), .val (.int ld), .val (.int (4 : Int32)), .unset, .unset, .unset, .unset, .unset] [(.int (1 : Int32)), (.int pv), (.ref a)])
              refine hst (fun t₀ k₀ => XS.iadd XI.here hx rfl (hb hby d4_80) rfl k₀) ?_
              show F s₁ (mkF m 81 #[.val (.ref a), .val (.int pv), .val (.int ev), .val (.int ld), .val (.int (4 : Int32)), .unset, .unset, .unset, .unset, .unset] [(.int (pv + (1 : Int32))), (.ref a)])
              generalize hix1 : (pv + (1 : Int32)) = ix1
              show F s₁ (mkF m 81 #[.val (.ref a), .val (.int pv), .val (.int ev), .val (.int ld), .val (.int (4 : Int32)), .unset, .unset, .unset, .unset, .unset] [(.int ix1), (.ref a)])
              have kix1 : ix1.toInt = ((p' + 1 : Nat) : Int) := by have h1 := c_iadd pv 1; have h2 := rng32 ix1; rw [hix1] at h1; omega
              have ql1 : p' + 1 < e' := by simp only [own_lt32] at hc72; omega
              refine hst (fun t₀ k₀ => own_baload XI hx hZ eI Ar (own_idx ix1 6 (by omega) (by omega)) (v := (.int (g (p' + 1)))) (by show Value.int (g ix1.toNatClampNeg) = _; rw [own_clamp ix1 _ kix1]) (g := (mkF m 81 #[.val (.ref a), .val (.int pv), .val (.int ev), .val (.int ld), .val (.int (4 : Int32)), .unset, .unset, .unset, .unset, .unset] [(.int ix1), (.ref a)])) rfl rfl (hb hby d4_81) t₀ k₀) ?_
              show F s₁ (mkF m 82 #[.val (.ref a), .val (.int pv), .val (.int ev), .val (.int ld), .val (.int (4 : Int32)), .unset, .unset, .unset, .unset, .unset] [(.int (g (p' + 1)))])
              refine hst (fun t₀ k₀ => XS.sipush XI.here hx rfl (hb hby d4_82) k₀) ?_
              show F s₁ (mkF m 85 #[.val (.ref a), .val (.int pv), .val (.int ev), .val (.int ld), .val (.int (4 : Int32)), .unset, .unset, .unset, .unset, .unset] [(.int (255 : Int32)), (.int (g (p' + 1)))])
              refine hst (fun t₀ k₀ => XS.iand XI.here hx rfl (hb hby d4_85) rfl k₀) ?_
              show F s₁ (mkF m 86 #[.val (.ref a), .val (.int pv), .val (.int ev), .val (.int ld), .val (.int (4 : Int32)), .unset, .unset, .unset, .unset, .unset] [(.int ((g (p' + 1)) &&& (255 : Int32)))])
              generalize hb1 : ((g (p' + 1)) &&& (255 : Int32)) = b1
              show F s₁ (mkF m 86 #[.val (.ref a), .val (.int pv), .val (.int ev), .val (.int ld), .val (.int (4 : Int32)), .unset, .unset, .unset, .unset, .unset] [(.int b1)])
              obtain ⟨kb1, kb1b⟩ : b1.toInt = (own_B g (p' + 1) : Int) ∧ own_B g (p' + 1) < 256 := by rw [← hb1]; exact own_byte g _
              refine hst (fun t₀ k₀ => XS.istore XI.here hx rfl (hb hby d4_86) rfl (l' := #[.val (.ref a), .val (.int pv), .val (.int ev), .val (.int ld), .val (.int (4 : Int32)), .val (.int b1), .unset, .unset, .unset, .unset]) rfl k₀) ?_
              show F s₁ (mkF m 88 #[.val (.ref a), .val (.int pv), .val (.int ev), .val (.int ld), .val (.int (4 : Int32)), .val (.int b1), .unset, .unset, .unset, .unset] [])
              refine hst (fun t₀ k₀ => XS.iload XI.here hx rfl (hb hby d4_88) rfl k₀) ?_
              show F s₁ (mkF m 90 #[.val (.ref a), .val (.int pv), .val (.int ev), .val (.int ld), .val (.int (4 : Int32)), .val (.int b1), .unset, .unset, .unset, .unset] [(.int b1)])
              obtain ⟨v90, T90, Lc90, X90, hQ90, st90⟩ := own_callS XI hx hZ hown (y := (⟨"com/example/leafline/leafline/table/CodePointOrderWellFormedPinLaw", "isCont", "(I)Z"⟩ : MethodName)) (hw _ (List.mem_of_getElem? (i := 15) rfl)) (hw _ (List.mem_of_getElem? (i := 16) rfl)) (hw _ (List.mem_of_getElem? (i := 3) rfl)) (hw _ (List.mem_of_getElem? (i := 17) rfl)) (by decide) eI (rm5 l Z a0 hw [] b1 hI n0 Z0 ) (by decide) (by decide) (g := (mkF m 90 #[.val (.ref a), .val (.int pv), .val (.int ev), .val (.int ld), .val (.int (4 : Int32)), .val (.int b1), .unset, .unset, .unset, .unset] [(.int b1)])) rfl (by rw [hml]; rfl) (argsL := [(.int b1)]) (rest := []) (lenOf pd_0 rfl) rfl rfl (W := 0) (by show 2 * 0 + _ ≤ _; exact Nat.le_of_eq rfl) (hb hby d4_90) (by decide) (by decide)
              obtain ⟨rfl, Nq90, he90⟩ := hQ90
              have N90 := Fr.app NI Nq90
              refine hst st90 ?_
              show F T90 (mkF m 93 #[.val (.ref a), .val (.int pv), .val (.int ev), .val (.int ld), .val (.int (4 : Int32)), .val (.int b1), .unset, .unset, .unset, .unset] [(.int (own_ct b1))])
              by_cases hc93 : (own_ct b1) = (0 : Int32)
              · -- pc 93: not taken
                refine hst (fun t₀ k₀ => XS.ifNo X90.here hx rfl (hb hby d4_93) rfl ((if0 _ _).trans (teq hc93).2) k₀) ?_
                show F T90 (mkF m 96 #[.val (.ref a), .val (.int pv), .val (.int ev), .val (.int ld), .val (.int (4 : Int32)), .val (.int b1), .unset, .unset, .unset, .unset] [])
                refine hst (fun t₀ k₀ => XS.iconst X90.here hx rfl (hb hby d4_96) k₀) ?_
                show F T90 (mkF m 97 #[.val (.ref a), .val (.int pv), .val (.int ev), .val (.int ld), .val (.int (4 : Int32)), .val (.int b1), .unset, .unset, .unset, .unset] [(.int (0 : Int32))])
                rw [hF]
                refine own_retI X90 hx hret hlk (hb hby d4_97) (by decide) (by decide) ?_
                simp only [own_lt32, own_eq32] at hc12 hc21 hc30 hc43 hc56 hc72
                simp only [own_ct0] at hc93
                have hcl : own_cl (own_B g) p' e' = 0 := by
                  unfold own_cl; (repeat' split) <;> omega
                rw [he90]
                exact ⟨(by rw [hcl]; rfl), N90, rfl⟩
              · -- pc 93: taken
                refine hst (fun t₀ k₀ => XS.ifYes X90.here hx rfl (pc0 := 93) (pc' := 98) rfl (hb hby d4_93) rfl ((if0 _ _).trans (feq hc93).2) (by decide) (by decide) k₀) ?_
                show F T90 (mkF m 98 #[.val (.ref a), .val (.int pv), .val (.int ev), .val (.int ld), .val (.int (4 : Int32)), .val (.int b1), .unset, .unset, .unset, .unset] [])
                refine hst (fun t₀ k₀ => XS.iload X90.here hx rfl (hb hby d4_98) rfl k₀) ?_
                show F T90 (mkF m 100 #[.val (.ref a), .val (.int pv), .val (.int ev), .val (.int ld), .val (.int (4 : Int32)), .val (.int b1), .unset, .unset, .unset, .unset] [(.int (4 : Int32))])
                refine hst (fun t₀ k₀ => XS.iconst X90.here hx rfl (hb hby d4_100) k₀) ?_
                show F T90 (mkF m 101 #[.val (.ref a), .val (.int pv), .val (.int ev), .val (.int ld), .val (.int (4 : Int32)), .val (.int b1), .unset, .unset, .unset, .unset] [(.int (2 : Int32)), (.int (4 : Int32))])
                refine hst (fun t₀ k₀ => XS.icmpYes X90.here hx rfl (pc0 := 101) (pc' := 127) rfl (hb hby d4_101) rfl (feq (by decide)).2 (by decide) (by decide) k₀) ?_
                show F T90 (mkF m 127 #[.val (.ref a), .val (.int pv), .val (.int ev), .val (.int ld), .val (.int (4 : Int32)), .val (.int b1), .unset, .unset, .unset, .unset] [])
                refine hst (fun t₀ k₀ => XS.aloadN X90.here hx rfl (hb hby d4_127) rfl rfl k₀) ?_
                show F T90 (mkF m 128 #[.val (.ref a), .val (.int pv), .val (.int ev), .val (.int ld), .val (.int (4 : Int32)), .val (.int b1), .unset, .unset, .unset, .unset] [(.ref a)])
                refine hst (fun t₀ k₀ => XS.iloadN X90.here hx rfl (hb hby d4_128) rfl k₀) ?_
                show F T90 (mkF m 129 #[.val (.ref a), .val (.int pv), .val (.int ev), .val (.int ld), .val (.int (4 : Int32)), .val (.int b1), .unset, .unset, .unset, .unset] [(.int pv), (.ref a)])
                refine hst (fun t₀ k₀ => XS.iconst X90.here hx rfl (hb hby d4_129) k₀) ?_
                show F T90 (mkF m 130 #[.val (.ref a), .val (.int pv), .val (.int ev), .val (.int ld), .val (.int (4 : Int32)), .val (.int b1), .unset, .unset, .unset, .unset] [(.int (2 : Int32)), (.int pv), (.ref a)])
                refine hst (fun t₀ k₀ => XS.iadd X90.here hx rfl (hb hby d4_130) rfl k₀) ?_
                show F T90 (mkF m 131 #[.val (.ref a), .val (.int pv), .val (.int ev), .val (.int ld), .val (.int (4 : Int32)), .val (.int b1), .unset, .unset, .unset, .unset] [(.int (pv + (2 : Int32))), (.ref a)])
                generalize hix2 : (pv + (2 : Int32)) = ix2
                show F T90 (mkF m 131 #[.val (.ref a), .val (.int pv), .val (.int ev), .val (.int ld), .val (.int (4 : Int32)), .val (.int b1), .unset, .unset, .unset, .unset] [(.int ix2), (.ref a)])
                have kix2 : ix2.toInt = ((p' + 2 : Nat) : Int) := by have h1 := c_iadd pv 2; have h2 := rng32 ix2; rw [hix2] at h1; omega
                have ql2 : p' + 2 < e' := by simp only [own_lt32] at hc72; omega
                refine hst (fun t₀ k₀ => own_baload X90 hx hZ he90 Ar (own_idx ix2 6 (by omega) (by omega)) (v := (.int (g (p' + 2)))) (by show Value.int (g ix2.toNatClampNeg) = _; rw [own_clamp ix2 _ kix2]) (g := (mkF m 131 #[.val (.ref a), .val (.int pv), .val (.int ev), .val (.int ld), .val (.int (4 : Int32)), .val (.int b1), .unset, .unset, .unset, .unset] [(.int ix2), (.ref a)])) rfl rfl (hb hby d4_131) t₀ k₀) ?_
                show F T90 (mkF m 132 #[.val (.ref a), .val (.int pv), .val (.int ev), .val (.int ld), .val (.int (4 : Int32)), .val (.int b1), .unset, .unset, .unset, .unset] [(.int (g (p' + 2)))])
                refine hst (fun t₀ k₀ => XS.sipush X90.here hx rfl (hb hby d4_132) k₀) ?_
                show F T90 (mkF m 135 #[.val (.ref a), .val (.int pv), .val (.int ev), .val (.int ld), .val (.int (4 : Int32)), .val (.int b1), .unset, .unset, .unset, .unset] [(.int (255 : Int32)), (.int (g (p' + 2)))])
                refine hst (fun t₀ k₀ => XS.iand X90.here hx rfl (hb hby d4_135) rfl k₀) ?_
                show F T90 (mkF m 136 #[.val (.ref a), .val (.int pv), .val (.int ev), .val (.int ld), .val (.int (4 : Int32)), .val (.int b1), .unset, .unset, .unset, .unset] [(.int ((g (p' + 2)) &&& (255 : Int32)))])
                generalize hb2 : ((g (p' + 2)) &&& (255 : Int32)) = b2
                show F T90 (mkF m 136 #[.val (.ref a), .val (.int pv), .val (.int ev), .val (.int ld), .val (.int (4 : Int32)), .val (.int b1), .unset, .unset, .unset, .unset] [(.int b2)])
                obtain ⟨kb2, kb2b⟩ : b2.toInt = (own_B g (p' + 2) : Int) ∧ own_B g (p' + 2) < 256 := by rw [← hb2]; exact own_byte g _
                refine hst (fun t₀ k₀ => XS.istore X90.here hx rfl (hb hby d4_136) rfl (l' := #[.val (.ref a), .val (.int pv), .val (.int ev), .val (.int ld), .val (.int (4 : Int32)), .val (.int b1), .unset, .unset, .val (.int b2), .unset]) rfl k₀) ?_
                show F T90 (mkF m 138 #[.val (.ref a), .val (.int pv), .val (.int ev), .val (.int ld), .val (.int (4 : Int32)), .val (.int b1), .unset, .unset, .val (.int b2), .unset] [])
                refine hst (fun t₀ k₀ => XS.iload X90.here hx rfl (hb hby d4_138) rfl k₀) ?_
                show F T90 (mkF m 140 #[.val (.ref a), .val (.int pv), .val (.int ev), .val (.int ld), .val (.int (4 : Int32)), .val (.int b1), .unset, .unset, .val (.int b2), .unset] [(.int b2)])
                obtain ⟨v140, T140, Lc140, X140, hQ140, st140⟩ := own_callS X90 hx hZ hown (y := (⟨"com/example/leafline/leafline/table/CodePointOrderWellFormedPinLaw", "isCont", "(I)Z"⟩ : MethodName)) (hw _ (List.mem_of_getElem? (i := 15) rfl)) (hw _ (List.mem_of_getElem? (i := 16) rfl)) (hw _ (List.mem_of_getElem? (i := 3) rfl)) (hw _ (List.mem_of_getElem? (i := 17) rfl)) (by decide) he90 (rm5 l Z a0 hw [] b2 hI n0 Z0 ) (by decide) (by decide) (g := (mkF m 140 #[.val (.ref a), .val (.int pv), .val (.int ev), .val (.int ld), .val (.int (4 : Int32)), .val (.int b1), .unset, .unset, .val (.int b2), .unset] [(.int b2)])) rfl (by rw [hml]; rfl) (argsL := [(.int b2)]) (rest := []) (lenOf pd_0 rfl) rfl rfl (W := 0) (by show 2 * 0 + _ ≤ _; exact Nat.le_of_eq rfl) (hb hby d4_140) (by decide) (by decide)
                obtain ⟨rfl, Nq140, he140⟩ := hQ140
                have N140 := Fr.app N90 Nq140
                refine hst st140 ?_
                show F T140 (mkF m 143 #[.val (.ref a), .val (.int pv), .val (.int ev), .val (.int ld), .val (.int (4 : Int32)), .val (.int b1), .unset, .unset, .val (.int b2), .unset] [(.int (own_ct b2))])
                by_cases hc143 : (own_ct b2) = (0 : Int32)
                · -- pc 143: not taken
                  refine hst (fun t₀ k₀ => XS.ifNo X140.here hx rfl (hb hby d4_143) rfl ((if0 _ _).trans (teq hc143).2) k₀) ?_
                  show F T140 (mkF m 146 #[.val (.ref a), .val (.int pv), .val (.int ev), .val (.int ld), .val (.int (4 : Int32)), .val (.int b1), .unset, .unset, .val (.int b2), .unset] [])
                  refine hst (fun t₀ k₀ => XS.iconst X140.here hx rfl (hb hby d4_146) k₀) ?_
                  show F T140 (mkF m 147 #[.val (.ref a), .val (.int pv), .val (.int ev), .val (.int ld), .val (.int (4 : Int32)), .val (.int b1), .unset, .unset, .val (.int b2), .unset] [(.int (0 : Int32))])
                  rw [hF]
                  refine own_retI X140 hx hret hlk (hb hby d4_147) (by decide) (by decide) ?_
                  simp only [own_lt32, own_eq32] at hc12 hc21 hc30 hc43 hc56 hc72
                  simp only [own_ct0] at hc93 hc143
                  have hcl : own_cl (own_B g) p' e' = 0 := by
                    unfold own_cl; (repeat' split) <;> omega
                  rw [he140]
                  exact ⟨(by rw [hcl]; rfl), N140, rfl⟩
                · -- pc 143: taken
                  refine hst (fun t₀ k₀ => XS.ifYes X140.here hx rfl (pc0 := 143) (pc' := 148) rfl (hb hby d4_143) rfl ((if0 _ _).trans (feq hc143).2) (by decide) (by decide) k₀) ?_
                  show F T140 (mkF m 148 #[.val (.ref a), .val (.int pv), .val (.int ev), .val (.int ld), .val (.int (4 : Int32)), .val (.int b1), .unset, .unset, .val (.int b2), .unset] [])
                  refine hst (fun t₀ k₀ => XS.iload X140.here hx rfl (hb hby d4_148) rfl k₀) ?_
                  show F T140 (mkF m 150 #[.val (.ref a), .val (.int pv), .val (.int ev), .val (.int ld), .val (.int (4 : Int32)), .val (.int b1), .unset, .unset, .val (.int b2), .unset] [(.int (4 : Int32))])
                  refine hst (fun t₀ k₀ => XS.iconst X140.here hx rfl (hb hby d4_150) k₀) ?_
                  show F T140 (mkF m 151 #[.val (.ref a), .val (.int pv), .val (.int ev), .val (.int ld), .val (.int (4 : Int32)), .val (.int b1), .unset, .unset, .val (.int b2), .unset] [(.int (3 : Int32)), (.int (4 : Int32))])
                  refine hst (fun t₀ k₀ => XS.icmpYes X140.here hx rfl (pc0 := 151) (pc' := 186) rfl (hb hby d4_151) rfl (feq (by decide)).2 (by decide) (by decide) k₀) ?_
                  show F T140 (mkF m 186 #[.val (.ref a), .val (.int pv), .val (.int ev), .val (.int ld), .val (.int (4 : Int32)), .val (.int b1), .unset, .unset, .val (.int b2), .unset] [])
                  refine hst (fun t₀ k₀ => XS.aloadN X140.here hx rfl (hb hby d4_186) rfl rfl k₀) ?_
                  show F T140 (mkF m 187 #[.val (.ref a), .val (.int pv), .val (.int ev), .val (.int ld), .val (.int (4 : Int32)), .val (.int b1), .unset, .unset, .val (.int b2), .unset] [(.ref a)])
                  refine hst (fun t₀ k₀ => XS.iloadN X140.here hx rfl (hb hby d4_187) rfl k₀) ?_
                  show F T140 (mkF m 188 #[.val (.ref a), .val (.int pv), .val (.int ev), .val (.int ld), .val (.int (4 : Int32)), .val (.int b1), .unset, .unset, .val (.int b2), .unset] [(.int pv), (.ref a)])
                  refine hst (fun t₀ k₀ => XS.iconst X140.here hx rfl (hb hby d4_188) k₀) ?_
                  show F T140 (mkF m 189 #[.val (.ref a), .val (.int pv), .val (.int ev), .val (.int ld), .val (.int (4 : Int32)), .val (.int b1), .unset, .unset, .val (.int b2), .unset] [(.int (3 : Int32)), (.int pv), (.ref a)])
                  refine hst (fun t₀ k₀ => XS.iadd X140.here hx rfl (hb hby d4_189) rfl k₀) ?_
                  show F T140 (mkF m 190 #[.val (.ref a), .val (.int pv), .val (.int ev), .val (.int ld), .val (.int (4 : Int32)), .val (.int b1), .unset, .unset, .val (.int b2), .unset] [(.int (pv + (3 : Int32))), (.ref a)])
                  generalize hix3 : (pv + (3 : Int32)) = ix3
                  show F T140 (mkF m 190 #[.val (.ref a), .val (.int pv), .val (.int ev), .val (.int ld), .val (.int (4 : Int32)), .val (.int b1), .unset, .unset, .val (.int b2), .unset] [(.int ix3), (.ref a)])
                  have kix3 : ix3.toInt = ((p' + 3 : Nat) : Int) := by have h1 := c_iadd pv 3; have h2 := rng32 ix3; rw [hix3] at h1; omega
                  have ql3 : p' + 3 < e' := by simp only [own_lt32] at hc72; omega
                  refine hst (fun t₀ k₀ => own_baload X140 hx hZ he140 Ar (own_idx ix3 6 (by omega) (by omega)) (v := (.int (g (p' + 3)))) (by show Value.int (g ix3.toNatClampNeg) = _; rw [own_clamp ix3 _ kix3]) (g := (mkF m 190 #[.val (.ref a), .val (.int pv), .val (.int ev), .val (.int ld), .val (.int (4 : Int32)), .val (.int b1), .unset, .unset, .val (.int b2), .unset] [(.int ix3), (.ref a)])) rfl rfl (hb hby d4_190) t₀ k₀) ?_
                  show F T140 (mkF m 191 #[.val (.ref a), .val (.int pv), .val (.int ev), .val (.int ld), .val (.int (4 : Int32)), .val (.int b1), .unset, .unset, .val (.int b2), .unset] [(.int (g (p' + 3)))])
                  refine hst (fun t₀ k₀ => XS.sipush X140.here hx rfl (hb hby d4_191) k₀) ?_
                  show F T140 (mkF m 194 #[.val (.ref a), .val (.int pv), .val (.int ev), .val (.int ld), .val (.int (4 : Int32)), .val (.int b1), .unset, .unset, .val (.int b2), .unset] [(.int (255 : Int32)), (.int (g (p' + 3)))])
                  refine hst (fun t₀ k₀ => XS.iand X140.here hx rfl (hb hby d4_194) rfl k₀) ?_
                  show F T140 (mkF m 195 #[.val (.ref a), .val (.int pv), .val (.int ev), .val (.int ld), .val (.int (4 : Int32)), .val (.int b1), .unset, .unset, .val (.int b2), .unset] [(.int ((g (p' + 3)) &&& (255 : Int32)))])
                  generalize hb3 : ((g (p' + 3)) &&& (255 : Int32)) = b3
                  show F T140 (mkF m 195 #[.val (.ref a), .val (.int pv), .val (.int ev), .val (.int ld), .val (.int (4 : Int32)), .val (.int b1), .unset, .unset, .val (.int b2), .unset] [(.int b3)])
                  obtain ⟨kb3, kb3b⟩ : b3.toInt = (own_B g (p' + 3) : Int) ∧ own_B g (p' + 3) < 256 := by rw [← hb3]; exact own_byte g _
                  refine hst (fun t₀ k₀ => XS.istore X140.here hx rfl (hb hby d4_195) rfl (l' := #[.val (.ref a), .val (.int pv), .val (.int ev), .val (.int ld), .val (.int (4 : Int32)), .val (.int b1), .unset, .unset, .val (.int b2), .val (.int b3)]) rfl k₀) ?_
                  show F T140 (mkF m 197 #[.val (.ref a), .val (.int pv), .val (.int ev), .val (.int ld), .val (.int (4 : Int32)), .val (.int b1), .unset, .unset, .val (.int b2), .val (.int b3)] [])
                  refine hst (fun t₀ k₀ => XS.iload X140.here hx rfl (hb hby d4_197) rfl k₀) ?_
                  show F T140 (mkF m 199 #[.val (.ref a), .val (.int pv), .val (.int ev), .val (.int ld), .val (.int (4 : Int32)), .val (.int b1), .unset, .unset, .val (.int b2), .val (.int b3)] [(.int b3)])
                  obtain ⟨v199, T199, Lc199, X199, hQ199, st199⟩ := own_callS X140 hx hZ hown (y := (⟨"com/example/leafline/leafline/table/CodePointOrderWellFormedPinLaw", "isCont", "(I)Z"⟩ : MethodName)) (hw _ (List.mem_of_getElem? (i := 15) rfl)) (hw _ (List.mem_of_getElem? (i := 16) rfl)) (hw _ (List.mem_of_getElem? (i := 3) rfl)) (hw _ (List.mem_of_getElem? (i := 17) rfl)) (by decide) he140 (rm5 l Z a0 hw [] b3 hI n0 Z0 ) (by decide) (by decide) (g := (mkF m 199 #[.val (.ref a), .val (.int pv), .val (.int ev), .val (.int ld), .val (.int (4 : Int32)), .val (.int b1), .unset, .unset, .val (.int b2), .val (.int b3)] [(.int b3)])) rfl (by rw [hml]; rfl) (argsL := [(.int b3)]) (rest := []) (lenOf pd_0 rfl) rfl rfl (W := 0) (by show 2 * 0 + _ ≤ _; exact Nat.le_of_eq rfl) (hb hby d4_199) (by decide) (by decide)
                  obtain ⟨rfl, Nq199, he199⟩ := hQ199
                  have N199 := Fr.app N140 Nq199
                  refine hst st199 ?_
                  show F T199 (mkF m 202 #[.val (.ref a), .val (.int pv), .val (.int ev), .val (.int ld), .val (.int (4 : Int32)), .val (.int b1), .unset, .unset, .val (.int b2), .val (.int b3)] [(.int (own_ct b3))])
                  by_cases hc202 : (own_ct b3) = (0 : Int32)
                  · -- pc 202: not taken
                    refine hst (fun t₀ k₀ => XS.ifNo X199.here hx rfl (hb hby d4_202) rfl ((if0 _ _).trans (teq hc202).2) k₀) ?_
                    show F T199 (mkF m 205 #[.val (.ref a), .val (.int pv), .val (.int ev), .val (.int ld), .val (.int (4 : Int32)), .val (.int b1), .unset, .unset, .val (.int b2), .val (.int b3)] [])
                    refine hst (fun t₀ k₀ => XS.iconst X199.here hx rfl (hb hby d4_205) k₀) ?_
                    show F T199 (mkF m 206 #[.val (.ref a), .val (.int pv), .val (.int ev), .val (.int ld), .val (.int (4 : Int32)), .val (.int b1), .unset, .unset, .val (.int b2), .val (.int b3)] [(.int (0 : Int32))])
                    rw [hF]
                    refine own_retI X199 hx hret hlk (hb hby d4_206) (by decide) (by decide) ?_
                    simp only [own_lt32, own_eq32] at hc12 hc21 hc30 hc43 hc56 hc72
                    simp only [own_ct0] at hc93 hc143 hc202
                    have hcl : own_cl (own_B g) p' e' = 0 := by
                      unfold own_cl; (repeat' split) <;> omega
                    rw [he199]
                    exact ⟨(by rw [hcl]; rfl), N199, rfl⟩
                  · -- pc 202: taken
                    refine hst (fun t₀ k₀ => XS.ifYes X199.here hx rfl (pc0 := 202) (pc' := 207) rfl (hb hby d4_202) rfl ((if0 _ _).trans (feq hc202).2) (by decide) (by decide) k₀) ?_
                    show F T199 (mkF m 207 #[.val (.ref a), .val (.int pv), .val (.int ev), .val (.int ld), .val (.int (4 : Int32)), .val (.int b1), .unset, .unset, .val (.int b2), .val (.int b3)] [])
                    refine hst (fun t₀ k₀ => XS.iloadN X199.here hx rfl (hb hby d4_207) rfl k₀) ?_
                    show F T199 (mkF m 208 #[.val (.ref a), .val (.int pv), .val (.int ev), .val (.int ld), .val (.int (4 : Int32)), .val (.int b1), .unset, .unset, .val (.int b2), .val (.int b3)] [(.int ld)])
                    refine hst (fun t₀ k₀ => XS.bipush X199.here hx rfl (hb hby d4_208) k₀) ?_
                    show F T199 (mkF m 210 #[.val (.ref a), .val (.int pv), .val (.int ev), .val (.int ld), .val (.int (4 : Int32)), .val (.int b1), .unset, .unset, .val (.int b2), .val (.int b3)] [(.int (7 : Int32)), (.int ld)])
                    refine hst (fun t₀ k₀ => XS.iand X199.here hx rfl (hb hby d4_210) rfl k₀) ?_
                    show F T199 (mkF m 211 #[.val (.ref a), .val (.int pv), .val (.int ev), .val (.int ld), .val (.int (4 : Int32)), .val (.int b1), .unset, .unset, .val (.int b2), .val (.int b3)] [(.int (ld &&& (7 : Int32)))])
                    generalize hl5 : (ld &&& (7 : Int32)) = l5
                    show F T199 (mkF m 211 #[.val (.ref a), .val (.int pv), .val (.int ev), .val (.int ld), .val (.int (4 : Int32)), .val (.int b1), .unset, .unset, .val (.int b2), .val (.int b3)] [(.int l5)])
                    have kl5 : l5.toInt = ld.toInt % 8 := by rw [← hl5]; exact c_mask ld 7 3 (by decide) (by decide)
                    refine hst (fun t₀ k₀ => XS.bipush X199.here hx rfl (hb hby d4_211) k₀) ?_
                    show F T199 (mkF m 213 #[.val (.ref a), .val (.int pv), .val (.int ev), .val (.int ld), .val (.int (4 : Int32)), .val (.int b1), .unset, .unset, .val (.int b2), .val (.int b3)] [(.int (18 : Int32)), (.int l5)])
                    refine hst (fun t₀ k₀ => XS.ishl X199.here hx rfl (hb hby d4_213) rfl k₀) ?_
                    show F T199 (mkF m 214 #[.val (.ref a), .val (.int pv), .val (.int ev), .val (.int ld), .val (.int (4 : Int32)), .val (.int b1), .unset, .unset, .val (.int b2), .val (.int b3)] [(.int (l5 <<< ((18 : Int32) &&& 31)))])
                    generalize hl6 : (l5 <<< ((18 : Int32) &&& 31)) = l6
                    show F T199 (mkF m 214 #[.val (.ref a), .val (.int pv), .val (.int ev), .val (.int ld), .val (.int (4 : Int32)), .val (.int b1), .unset, .unset, .val (.int b2), .val (.int b3)] [(.int l6)])
                    have kl6 : l6.toInt = l5.toInt * 262144 := by have h1 := c_ishl l5 18 18 (by decide); have h2 := rng32 l6; rw [hl6] at h1; omega
                    refine hst (fun t₀ k₀ => XS.iload X199.here hx rfl (hb hby d4_214) rfl k₀) ?_
                    show F T199 (mkF m 216 #[.val (.ref a), .val (.int pv), .val (.int ev), .val (.int ld), .val (.int (4 : Int32)), .val (.int b1), .unset, .unset, .val (.int b2), .val (.int b3)] [(.int b1), (.int l6)])
                    refine hst (fun t₀ k₀ => XS.bipush X199.here hx rfl (hb hby d4_216) k₀) ?_
                    show F T199 (mkF m 218 #[.val (.ref a), .val (.int pv), .val (.int ev), .val (.int ld), .val (.int (4 : Int32)), .val (.int b1), .unset, .unset, .val (.int b2), .val (.int b3)] [(.int (63 : Int32)), (.int b1), (.int l6)])
                    refine hst (fun t₀ k₀ => XS.iand X199.here hx rfl (hb hby d4_218) rfl k₀) ?_
                    show F T199 (mkF m 219 #[.val (.ref a), .val (.int pv), .val (.int ev), .val (.int ld), .val (.int (4 : Int32)), .val (.int b1), .unset, .unset, .val (.int b2), .val (.int b3)] [(.int (b1 &&& (63 : Int32))), (.int l6)])
                    generalize hm1 : (b1 &&& (63 : Int32)) = m1
                    show F T199 (mkF m 219 #[.val (.ref a), .val (.int pv), .val (.int ev), .val (.int ld), .val (.int (4 : Int32)), .val (.int b1), .unset, .unset, .val (.int b2), .val (.int b3)] [(.int m1), (.int l6)])
                    have km1 : m1.toInt = b1.toInt % 64 := by rw [← hm1]; exact c_mask b1 63 6 (by decide) (by decide)
                    refine hst (fun t₀ k₀ => XS.bipush X199.here hx rfl (hb hby d4_219) k₀) ?_
                    show F T199 (mkF m 221 #[.val (.ref a), .val (.int pv), .val (.int ev), .val (.int ld), .val (.int (4 : Int32)), .val (.int b1), .unset, .unset, .val (.int b2), .val (.int b3)] [(.int (12 : Int32)), (.int m1), (.int l6)])
                    refine hst (fun t₀ k₀ => XS.ishl X199.here hx rfl (hb hby d4_221) rfl k₀) ?_
                    show F T199 (mkF m 222 #[.val (.ref a), .val (.int pv), .val (.int ev), .val (.int ld), .val (.int (4 : Int32)), .val (.int b1), .unset, .unset, .val (.int b2), .val (.int b3)] [(.int (m1 <<< ((12 : Int32) &&& 31))), (.int l6)])
                    generalize hm2 : (m1 <<< ((12 : Int32) &&& 31)) = m2
                    show F T199 (mkF m 222 #[.val (.ref a), .val (.int pv), .val (.int ev), .val (.int ld), .val (.int (4 : Int32)), .val (.int b1), .unset, .unset, .val (.int b2), .val (.int b3)] [(.int m2), (.int l6)])
                    have km2 : m2.toInt = m1.toInt * 4096 := by have h1 := c_ishl m1 12 12 (by decide); have h2 := rng32 m2; rw [hm2] at h1; omega
                    refine hst (fun t₀ k₀ => XS.ior X199.here hx rfl (hb hby d4_222) rfl k₀) ?_
                    show F T199 (mkF m 223 #[.val (.ref a), .val (.int pv), .val (.int ev), .val (.int ld), .val (.int (4 : Int32)), .val (.int b1), .unset, .unset, .val (.int b2), .val (.int b3)] [(.int (l6 ||| m2))])
                    generalize hc1 : (l6 ||| m2) = c1
                    show F T199 (mkF m 223 #[.val (.ref a), .val (.int pv), .val (.int ev), .val (.int ld), .val (.int (4 : Int32)), .val (.int b1), .unset, .unset, .val (.int b2), .val (.int b3)] [(.int c1)])
                    have kc1 : c1.toInt = l6.toInt + m2.toInt := by have h1 := c_or l6 m2 18 (by decide) 262144 (by decide) (by omega) (by omega) (by omega); have h2 := rng32 c1; rw [hc1] at h1; omega
                    refine hst (fun t₀ k₀ => XS.iload X199.here hx rfl (hb hby d4_223) rfl k₀) ?_
                    show F T199 (mkF m 225 #[.val (.ref a), .val (.int pv), .val (.int ev), .val (.int ld), .val (.int (4 : Int32)), .val (.int b1), .unset, .unset, .val (.int b2), .val (.int b3)] [(.int b2), (.int c1)])
                    refine hst (fun t₀ k₀ => XS.bipush X199.here hx rfl (hb hby d4_225) k₀) ?_
                    show F T199 (mkF m 227 #[.val (.ref a), .val (.int pv), .val (.int ev), .val (.int ld), .val (.int (4 : Int32)), .val (.int b1), .unset, .unset, .val (.int b2), .val (.int b3)] [(.int (63 : Int32)), (.int b2), (.int c1)])
                    refine hst (fun t₀ k₀ => XS.iand X199.here hx rfl (hb hby d4_227) rfl k₀) ?_
                    show F T199 (mkF m 228 #[.val (.ref a), .val (.int pv), .val (.int ev), .val (.int ld), .val (.int (4 : Int32)), .val (.int b1), .unset, .unset, .val (.int b2), .val (.int b3)] [(.int (b2 &&& (63 : Int32))), (.int c1)])
                    generalize hm3 : (b2 &&& (63 : Int32)) = m3
                    show F T199 (mkF m 228 #[.val (.ref a), .val (.int pv), .val (.int ev), .val (.int ld), .val (.int (4 : Int32)), .val (.int b1), .unset, .unset, .val (.int b2), .val (.int b3)] [(.int m3), (.int c1)])
                    have km3 : m3.toInt = b2.toInt % 64 := by rw [← hm3]; exact c_mask b2 63 6 (by decide) (by decide)
                    refine hst (fun t₀ k₀ => XS.bipush X199.here hx rfl (hb hby d4_228) k₀) ?_
                    show F T199 (mkF m 230 #[.val (.ref a), .val (.int pv), .val (.int ev), .val (.int ld), .val (.int (4 : Int32)), .val (.int b1), .unset, .unset, .val (.int b2), .val (.int b3)] [(.int (6 : Int32)), (.int m3), (.int c1)])
                    refine hst (fun t₀ k₀ => XS.ishl X199.here hx rfl (hb hby d4_230) rfl k₀) ?_
                    show F T199 (mkF m 231 #[.val (.ref a), .val (.int pv), .val (.int ev), .val (.int ld), .val (.int (4 : Int32)), .val (.int b1), .unset, .unset, .val (.int b2), .val (.int b3)] [(.int (m3 <<< ((6 : Int32) &&& 31))), (.int c1)])
                    generalize hm4 : (m3 <<< ((6 : Int32) &&& 31)) = m4
                    show F T199 (mkF m 231 #[.val (.ref a), .val (.int pv), .val (.int ev), .val (.int ld), .val (.int (4 : Int32)), .val (.int b1), .unset, .unset, .val (.int b2), .val (.int b3)] [(.int m4), (.int c1)])
                    have km4 : m4.toInt = m3.toInt * 64 := by have h1 := c_ishl m3 6 6 (by decide); have h2 := rng32 m4; rw [hm4] at h1; omega
                    refine hst (fun t₀ k₀ => XS.ior X199.here hx rfl (hb hby d4_231) rfl k₀) ?_
                    show F T199 (mkF m 232 #[.val (.ref a), .val (.int pv), .val (.int ev), .val (.int ld), .val (.int (4 : Int32)), .val (.int b1), .unset, .unset, .val (.int b2), .val (.int b3)] [(.int (c1 ||| m4))])
                    generalize hc2 : (c1 ||| m4) = c2
                    show F T199 (mkF m 232 #[.val (.ref a), .val (.int pv), .val (.int ev), .val (.int ld), .val (.int (4 : Int32)), .val (.int b1), .unset, .unset, .val (.int b2), .val (.int b3)] [(.int c2)])
                    have kc2 : c2.toInt = c1.toInt + m4.toInt := by have h1 := c_or c1 m4 12 (by decide) 4096 (by decide) (by omega) (by omega) (by omega); have h2 := rng32 c2; rw [hc2] at h1; omega
                    refine hst (fun t₀ k₀ => XS.iload X199.here hx rfl (hb hby d4_232) rfl k₀) ?_
                    show F T199 (mkF m 234 #[.val (.ref a), .val (.int pv), .val (.int ev), .val (.int ld), .val (.int (4 : Int32)), .val (.int b1), .unset, .unset, .val (.int b2), .val (.int b3)] [(.int b3), (.int c2)])
                    refine hst (fun t₀ k₀ => XS.bipush X199.here hx rfl (hb hby d4_234) k₀) ?_
                    show F T199 (mkF m 236 #[.val (.ref a), .val (.int pv), .val (.int ev), .val (.int ld), .val (.int (4 : Int32)), .val (.int b1), .unset, .unset, .val (.int b2), .val (.int b3)] [(.int (63 : Int32)), (.int b3), (.int c2)])
                    refine hst (fun t₀ k₀ => XS.iand X199.here hx rfl (hb hby d4_236) rfl k₀) ?_
                    show F T199 (mkF m 237 #[.val (.ref a), .val (.int pv), .val (.int ev), .val (.int ld), .val (.int (4 : Int32)), .val (.int b1), .unset, .unset, .val (.int b2), .val (.int b3)] [(.int (b3 &&& (63 : Int32))), (.int c2)])
                    generalize hm5 : (b3 &&& (63 : Int32)) = m5
                    show F T199 (mkF m 237 #[.val (.ref a), .val (.int pv), .val (.int ev), .val (.int ld), .val (.int (4 : Int32)), .val (.int b1), .unset, .unset, .val (.int b2), .val (.int b3)] [(.int m5), (.int c2)])
                    have km5 : m5.toInt = b3.toInt % 64 := by rw [← hm5]; exact c_mask b3 63 6 (by decide) (by decide)
                    refine hst (fun t₀ k₀ => XS.ior X199.here hx rfl (hb hby d4_237) rfl k₀) ?_
                    show F T199 (mkF m 238 #[.val (.ref a), .val (.int pv), .val (.int ev), .val (.int ld), .val (.int (4 : Int32)), .val (.int b1), .unset, .unset, .val (.int b2), .val (.int b3)] [(.int (c2 ||| m5))])
                    generalize hcp : (c2 ||| m5) = cp
                    show F T199 (mkF m 238 #[.val (.ref a), .val (.int pv), .val (.int ev), .val (.int ld), .val (.int (4 : Int32)), .val (.int b1), .unset, .unset, .val (.int b2), .val (.int b3)] [(.int cp)])
                    have kcp : cp.toInt = c2.toInt + m5.toInt := by have h1 := c_or c2 m5 6 (by decide) 64 (by decide) (by omega) (by omega) (by omega); have h2 := rng32 cp; rw [hcp] at h1; omega
                    refine hst (fun t₀ k₀ => XS.istore X199.here hx rfl (hb hby d4_238) rfl (l' := #[.val (.ref a), .val (.int pv), .val (.int ev), .val (.int ld), .val (.int (4 : Int32)), .val (.int b1), .val (.int cp), .unset, .val (.int b2), .val (.int b3)]) rfl k₀) ?_
                    show F T199 (mkF m 240 #[.val (.ref a), .val (.int pv), .val (.int ev), .val (.int ld), .val (.int (4 : Int32)), .val (.int b1), .val (.int cp), .unset, .val (.int b2), .val (.int b3)] [])
                    refine hst (fun t₀ k₀ => X199.ldcI hx hown (mvT hZ (hw _ (List.mem_of_getElem? (i := 18) rfl))) (g := (mkF m 240 #[.val (.ref a), .val (.int pv), .val (.int ev), .val (.int ld), .val (.int (4 : Int32)), .val (.int b1), .val (.int cp), .unset, .val (.int b2), .val (.int b3)] [])) rfl (hb hby d4_240) k₀) ?_
                    show F T199 (mkF m 242 #[.val (.ref a), .val (.int pv), .val (.int ev), .val (.int ld), .val (.int (4 : Int32)), .val (.int b1), .val (.int cp), .unset, .val (.int b2), .val (.int b3)] [(.int (65536 : Int32))])
                    refine hst (fun t₀ k₀ => XS.istore X199.here hx rfl (hb hby d4_242) rfl (l' := #[.val (.ref a), .val (.int pv), .val (.int ev), .val (.int ld), .val (.int (4 : Int32)), .val (.int b1), .val (.int cp), .val (.int (65536 : Int32)), .val (.int b2), .val (.int b3)]) rfl k₀) ?_
                    show F T199 (mkF m 244 #[.val (.ref a), .val (.int pv), .val (.int ev), .val (.int ld), .val (.int (4 : Int32)), .val (.int b1), .val (.int cp), .val (.int (65536 : Int32)), .val (.int b2), .val (.int b3)] [])
                    refine hst (fun t₀ k₀ => XS.iload X199.here hx rfl (hb hby d4_244) rfl k₀) ?_
                    show F T199 (mkF m 246 #[.val (.ref a), .val (.int pv), .val (.int ev), .val (.int ld), .val (.int (4 : Int32)), .val (.int b1), .val (.int cp), .val (.int (65536 : Int32)), .val (.int b2), .val (.int b3)] [(.int cp)])
                    refine hst (fun t₀ k₀ => XS.iload X199.here hx rfl (hb hby d4_246) rfl k₀) ?_
                    show F T199 (mkF m 248 #[.val (.ref a), .val (.int pv), .val (.int ev), .val (.int ld), .val (.int (4 : Int32)), .val (.int b1), .val (.int cp), .val (.int (65536 : Int32)), .val (.int b2), .val (.int b3)] [(.int (65536 : Int32)), (.int cp)])
                    by_cases hc248 : cp < (65536 : Int32)
                    · -- pc 248: not taken
                      refine hst (fun t₀ k₀ => XS.icmpNo X199.here hx rfl (hb hby d4_248) rfl (tlt hc248).2.1 k₀) ?_
                      show F T199 (mkF m 251 #[.val (.ref a), .val (.int pv), .val (.int ev), .val (.int ld), .val (.int (4 : Int32)), .val (.int b1), .val (.int cp), .val (.int (65536 : Int32)), .val (.int b2), .val (.int b3)] [])
                      refine hst (fun t₀ k₀ => XS.iconst X199.here hx rfl (hb hby d4_251) k₀) ?_
                      show F T199 (mkF m 252 #[.val (.ref a), .val (.int pv), .val (.int ev), .val (.int ld), .val (.int (4 : Int32)), .val (.int b1), .val (.int cp), .val (.int (65536 : Int32)), .val (.int b2), .val (.int b3)] [(.int (0 : Int32))])
                      rw [hF]
                      refine own_retI X199 hx hret hlk (hb hby d4_252) (by decide) (by decide) ?_
                      simp only [own_lt32, own_eq32] at hc12 hc21 hc30 hc43 hc56 hc72 hc248
                      simp only [own_ct0] at hc93 hc143 hc202
                      have hcl : own_cl (own_B g) p' e' = 0 := by
                        unfold own_cl; (repeat' split) <;> omega
                      rw [he199]
                      exact ⟨(by rw [hcl]; rfl), N199, rfl⟩
                    · -- pc 248: taken
                      refine hst (fun t₀ k₀ => XS.icmpYes X199.here hx rfl (pc0 := 248) (pc' := 253) rfl (hb hby d4_248) rfl (flt hc248).2.1 (by decide) (by decide) k₀) ?_
                      show F T199 (mkF m 253 #[.val (.ref a), .val (.int pv), .val (.int ev), .val (.int ld), .val (.int (4 : Int32)), .val (.int b1), .val (.int cp), .val (.int (65536 : Int32)), .val (.int b2), .val (.int b3)] [])
                      refine hst (fun t₀ k₀ => XS.iload X199.here hx rfl (hb hby d4_253) rfl k₀) ?_
                      show F T199 (mkF m 255 #[.val (.ref a), .val (.int pv), .val (.int ev), .val (.int ld), .val (.int (4 : Int32)), .val (.int b1), .val (.int cp), .val (.int (65536 : Int32)), .val (.int b2), .val (.int b3)] [(.int cp)])
                      refine hst (fun t₀ k₀ => X199.ldcI hx hown (mvT hZ (hw _ (List.mem_of_getElem? (i := 19) rfl))) (g := (mkF m 255 #[.val (.ref a), .val (.int pv), .val (.int ev), .val (.int ld), .val (.int (4 : Int32)), .val (.int b1), .val (.int cp), .val (.int (65536 : Int32)), .val (.int b2), .val (.int b3)] [(.int cp)])) rfl (hb hby d4_255) k₀) ?_
                      show F T199 (mkF m 257 #[.val (.ref a), .val (.int pv), .val (.int ev), .val (.int ld), .val (.int (4 : Int32)), .val (.int b1), .val (.int cp), .val (.int (65536 : Int32)), .val (.int b2), .val (.int b3)] [(.int (1114111 : Int32)), (.int cp)])
                      by_cases hc257 : (1114111 : Int32) < cp
                      · -- pc 257: not taken
                        refine hst (fun t₀ k₀ => XS.icmpNo X199.here hx rfl (hb hby d4_257) rfl (tlt hc257).2.2.2 k₀) ?_
                        show F T199 (mkF m 260 #[.val (.ref a), .val (.int pv), .val (.int ev), .val (.int ld), .val (.int (4 : Int32)), .val (.int b1), .val (.int cp), .val (.int (65536 : Int32)), .val (.int b2), .val (.int b3)] [])
                        refine hst (fun t₀ k₀ => XS.iconst X199.here hx rfl (hb hby d4_260) k₀) ?_
                        show F T199 (mkF m 261 #[.val (.ref a), .val (.int pv), .val (.int ev), .val (.int ld), .val (.int (4 : Int32)), .val (.int b1), .val (.int cp), .val (.int (65536 : Int32)), .val (.int b2), .val (.int b3)] [(.int (0 : Int32))])
                        rw [hF]
                        refine own_retI X199 hx hret hlk (hb hby d4_261) (by decide) (by decide) ?_
                        simp only [own_lt32, own_eq32] at hc12 hc21 hc30 hc43 hc56 hc72 hc248 hc257
                        simp only [own_ct0] at hc93 hc143 hc202
                        have hcl : own_cl (own_B g) p' e' = 0 := by
                          unfold own_cl; (repeat' split) <;> omega
                        rw [he199]
                        exact ⟨(by rw [hcl]; rfl), N199, rfl⟩
                      · -- pc 257: taken
                        refine hst (fun t₀ k₀ => XS.icmpYes X199.here hx rfl (pc0 := 257) (pc' := 262) rfl (hb hby d4_257) rfl (flt hc257).2.2.2 (by decide) (by decide) k₀) ?_
                        show F T199 (mkF m 262 #[.val (.ref a), .val (.int pv), .val (.int ev), .val (.int ld), .val (.int (4 : Int32)), .val (.int b1), .val (.int cp), .val (.int (65536 : Int32)), .val (.int b2), .val (.int b3)] [])
                        refine hst (fun t₀ k₀ => XS.iload X199.here hx rfl (hb hby d4_262) rfl k₀) ?_
                        show F T199 (mkF m 264 #[.val (.ref a), .val (.int pv), .val (.int ev), .val (.int ld), .val (.int (4 : Int32)), .val (.int b1), .val (.int cp), .val (.int (65536 : Int32)), .val (.int b2), .val (.int b3)] [(.int cp)])
                        refine hst (fun t₀ k₀ => X199.ldcI hx hown (mvT hZ (hw _ (List.mem_of_getElem? (i := 20) rfl))) (g := (mkF m 264 #[.val (.ref a), .val (.int pv), .val (.int ev), .val (.int ld), .val (.int (4 : Int32)), .val (.int b1), .val (.int cp), .val (.int (65536 : Int32)), .val (.int b2), .val (.int b3)] [(.int cp)])) rfl (hb hby d4_264) k₀) ?_
                        show F T199 (mkF m 266 #[.val (.ref a), .val (.int pv), .val (.int ev), .val (.int ld), .val (.int (4 : Int32)), .val (.int b1), .val (.int cp), .val (.int (65536 : Int32)), .val (.int b2), .val (.int b3)] [(.int (55296 : Int32)), (.int cp)])
                        by_cases hc266 : cp < (55296 : Int32)
                        · -- pc 266: taken
                          refine hst (fun t₀ k₀ => XS.icmpYes X199.here hx rfl (pc0 := 266) (pc' := 278) rfl (hb hby d4_266) rfl (tlt hc266).1 (by decide) (by decide) k₀) ?_
                          show F T199 (mkF m 278 #[.val (.ref a), .val (.int pv), .val (.int ev), .val (.int ld), .val (.int (4 : Int32)), .val (.int b1), .val (.int cp), .val (.int (65536 : Int32)), .val (.int b2), .val (.int b3)] [])
                          refine hst (fun t₀ k₀ => XS.iload X199.here hx rfl (hb hby d4_278) rfl k₀) ?_
                          show F T199 (mkF m 280 #[.val (.ref a), .val (.int pv), .val (.int ev), .val (.int ld), .val (.int (4 : Int32)), .val (.int b1), .val (.int cp), .val (.int (65536 : Int32)), .val (.int b2), .val (.int b3)] [(.int (4 : Int32))])
                          rw [hF]
                          refine own_retI X199 hx hret hlk (hb hby d4_280) (by decide) (by decide) ?_
                          simp only [own_lt32, own_eq32] at hc12 hc21 hc30 hc43 hc56 hc72 hc248 hc257 hc266
                          simp only [own_ct0] at hc93 hc143 hc202
                          have hcl : own_cl (own_B g) p' e' = 4 := by
                            unfold own_cl; (repeat' split) <;> omega
                          rw [he199]
                          exact ⟨(by rw [hcl]; rfl), N199, rfl⟩
                        · -- pc 266: not taken
                          refine hst (fun t₀ k₀ => XS.icmpNo X199.here hx rfl (hb hby d4_266) rfl (flt hc266).1 k₀) ?_
                          show F T199 (mkF m 269 #[.val (.ref a), .val (.int pv), .val (.int ev), .val (.int ld), .val (.int (4 : Int32)), .val (.int b1), .val (.int cp), .val (.int (65536 : Int32)), .val (.int b2), .val (.int b3)] [])
                          refine hst (fun t₀ k₀ => XS.iload X199.here hx rfl (hb hby d4_269) rfl k₀) ?_
                          show F T199 (mkF m 271 #[.val (.ref a), .val (.int pv), .val (.int ev), .val (.int ld), .val (.int (4 : Int32)), .val (.int b1), .val (.int cp), .val (.int (65536 : Int32)), .val (.int b2), .val (.int b3)] [(.int cp)])
                          refine hst (fun t₀ k₀ => X199.ldcI hx hown (mvT hZ (hw _ (List.mem_of_getElem? (i := 21) rfl))) (g := (mkF m 271 #[.val (.ref a), .val (.int pv), .val (.int ev), .val (.int ld), .val (.int (4 : Int32)), .val (.int b1), .val (.int cp), .val (.int (65536 : Int32)), .val (.int b2), .val (.int b3)] [(.int cp)])) rfl (hb hby d4_271) k₀) ?_
                          show F T199 (mkF m 273 #[.val (.ref a), .val (.int pv), .val (.int ev), .val (.int ld), .val (.int (4 : Int32)), .val (.int b1), .val (.int cp), .val (.int (65536 : Int32)), .val (.int b2), .val (.int b3)] [(.int (57343 : Int32)), (.int cp)])
                          by_cases hc273 : (57343 : Int32) < cp
                          · -- pc 273: taken
                            refine hst (fun t₀ k₀ => XS.icmpYes X199.here hx rfl (pc0 := 273) (pc' := 278) rfl (hb hby d4_273) rfl (tlt hc273).2.2.1 (by decide) (by decide) k₀) ?_
                            show F T199 (mkF m 278 #[.val (.ref a), .val (.int pv), .val (.int ev), .val (.int ld), .val (.int (4 : Int32)), .val (.int b1), .val (.int cp), .val (.int (65536 : Int32)), .val (.int b2), .val (.int b3)] [])
                            refine hst (fun t₀ k₀ => XS.iload X199.here hx rfl (hb hby d4_278) rfl k₀) ?_
                            show F T199 (mkF m 280 #[.val (.ref a), .val (.int pv), .val (.int ev), .val (.int ld), .val (.int (4 : Int32)), .val (.int b1), .val (.int cp), .val (.int (65536 : Int32)), .val (.int b2), .val (.int b3)] [(.int (4 : Int32))])
                            rw [hF]
                            refine own_retI X199 hx hret hlk (hb hby d4_280) (by decide) (by decide) ?_
                            simp only [own_lt32, own_eq32] at hc12 hc21 hc30 hc43 hc56 hc72 hc248 hc257 hc266 hc273
                            simp only [own_ct0] at hc93 hc143 hc202
                            have hcl : own_cl (own_B g) p' e' = 4 := by
                              unfold own_cl; (repeat' split) <;> omega
                            rw [he199]
                            exact ⟨(by rw [hcl]; rfl), N199, rfl⟩
                          · -- pc 273: not taken
                            refine hst (fun t₀ k₀ => XS.icmpNo X199.here hx rfl (hb hby d4_273) rfl (flt hc273).2.2.1 k₀) ?_
                            show F T199 (mkF m 276 #[.val (.ref a), .val (.int pv), .val (.int ev), .val (.int ld), .val (.int (4 : Int32)), .val (.int b1), .val (.int cp), .val (.int (65536 : Int32)), .val (.int b2), .val (.int b3)] [])
                            refine hst (fun t₀ k₀ => XS.iconst X199.here hx rfl (hb hby d4_276) k₀) ?_
                            show F T199 (mkF m 277 #[.val (.ref a), .val (.int pv), .val (.int ev), .val (.int ld), .val (.int (4 : Int32)), .val (.int b1), .val (.int cp), .val (.int (65536 : Int32)), .val (.int b2), .val (.int b3)] [(.int (0 : Int32))])
                            rw [hF]
                            refine own_retI X199 hx hret hlk (hb hby d4_277) (by decide) (by decide) ?_
                            simp only [own_lt32, own_eq32] at hc12 hc21 hc30 hc43 hc56 hc72 hc248 hc257 hc266 hc273
                            simp only [own_ct0] at hc93 hc143 hc202
                            have hcl : own_cl (own_B g) p' e' = 0 := by
                              unfold own_cl; (repeat' split) <;> omega
                            rw [he199]
                            exact ⟨(by rw [hcl]; rfl), N199, rfl⟩
          · -- pc 56: taken
            refine hst (fun t₀ k₀ => XS.icmpYes XI.here hx rfl (pc0 := 56) (pc' := 65) rfl (hb hby d4_56) rfl (flt hc56).2.1 (by decide) (by decide) k₀) ?_
            show F s₁ (mkF m 65 #[.val (.ref a), .val (.int pv), .val (.int ev), .val (.int ld), .unset, .unset, .unset, .unset, .unset, .unset] [])
            refine hst (fun t₀ k₀ => XS.iconst XI.here hx rfl (hb hby d4_65) k₀) ?_
            show F s₁ (mkF m 66 #[.val (.ref a), .val (.int pv), .val (.int ev), .val (.int ld), .unset, .unset, .unset, .unset, .unset, .unset] [(.int (0 : Int32))])
            rw [hF]
            refine own_retI XI hx hret hlk (hb hby d4_66) (by decide) (by decide) ?_
            simp only [own_lt32, own_eq32] at hc12 hc21 hc30 hc43 hc56
            have hcl : own_cl (own_B g) p' e' = 0 := by
              unfold own_cl; (repeat' split) <;> omega
            rw [eI]
            exact ⟨(by rw [hcl]; rfl), NI, rfl⟩
theorem d2_0 : decode method_4_code 0 = .ok (.iload_n 1, 1) := by decide +kernel
theorem d2_1 : decode method_4_code 1 = .ok (.ifCond .lt 8, 3) := by decide +kernel
theorem d2_4 : decode method_4_code 4 = .ok (.iload_n 1, 1) := by decide +kernel
theorem d2_5 : decode method_4_code 5 = .ok (.iload_n 2, 1) := by decide +kernel
theorem d2_6 : decode method_4_code 6 = .ok (.if_icmp .lt 5, 3) := by decide +kernel
theorem d2_9 : decode method_4_code 9 = .ok (.iload_n 1, 1) := by decide +kernel
theorem d2_10 : decode method_4_code 10 = .ok (.ireturn, 1) := by decide +kernel
theorem d2_11 : decode method_4_code 11 = .ok (.aload_n 0, 1) := by decide +kernel
theorem d2_12 : decode method_4_code 12 = .ok (.iload_n 1, 1) := by decide +kernel
theorem d2_13 : decode method_4_code 13 = .ok (.iload_n 2, 1) := by decide +kernel
theorem d2_14 : decode method_4_code 14 = .ok (.invokestatic 23, 3) := by decide +kernel
theorem d2_17 : decode method_4_code 17 = .ok (.istore_n 3, 1) := by decide +kernel
theorem d2_18 : decode method_4_code 18 = .ok (.iload_n 3, 1) := by decide +kernel
theorem d2_19 : decode method_4_code 19 = .ok (.ifCond .ne 7, 3) := by decide +kernel
theorem d2_22 : decode method_4_code 22 = .ok (.iconst (-1), 1) := by decide +kernel
theorem d2_23 : decode method_4_code 23 = .ok (.goto 6, 3) := by decide +kernel
theorem d2_26 : decode method_4_code 26 = .ok (.iload_n 1, 1) := by decide +kernel
theorem d2_27 : decode method_4_code 27 = .ok (.iload_n 3, 1) := by decide +kernel
theorem d2_28 : decode method_4_code 28 = .ok (.iadd, 1) := by decide +kernel
theorem d2_29 : decode method_4_code 29 = .ok (.ireturn, 1) := by decide +kernel
theorem pn_2 : plainFor (⟨"com/example/leafline/leafline/table/CodePointOrderWellFormedPinLaw", "advance", "([BII)I"⟩ : MethodName) = true := plainFor_of_name (by first | (simp [plainName, overriddenIn]; done) | decide +kernel)
theorem pd_2 : parseMethodDescriptor "([BII)I" = some ⟨[(.array .byte), .int, .int], some .int⟩ := by decide +kernel
theorem ef_2 (m : MethodId) (a : Addr) (xv : Int32) (ev : Int32) : entryFrame m #[(.ref a), (.int xv), (.int ev)] 4 = mkF m 0 #[.val (.ref a), .val (.int xv), .val (.int ev), .unset] [] := by first | (simp [entryFrame, mkF, argsToLocals, Value.category]; done) | rfl
def Q2 (Z : State) (a : Addr) (xv : Int32) (ev : Int32) (g : Nat → Int32) (x : Int) (e' : Nat) (hI : Heap) (n0 : Nat) (v : Option Value) (h : Heap) (L : List Loc) : Prop := ∃ (r : Int32), v = some (.int r) ∧ Fr n0 L ∧ h = hI ∧ r.toInt = own_adv (own_B g) e' x
set_option maxRecDepth 65536 in
set_option maxHeartbeats 40000000 in
theorem rm2 (l : Launch) (Z : State) (a0 : Array Value) (hw : ∀ d ∈ tables_1, d.before a0 Z = true) (ws : List Jvm.Cond) (a : Addr) (xv : Int32) (ev : Int32) (g : Nat → Int32) (x : Int) (e' : Nat) (hI : Heap) (n0 : Nat) (Z0 : n0 ≤ hI.size) (Ar : own_A Z hI a .byte 6 (fun i => .int (g i))) (hx' : xv.toInt = x) (he : ev.toInt = e') (he6 : e' ≤ 6) :
    MetFree l (⟨"com/example/leafline/leafline/table/CodePointOrderWellFormedPinLaw", "advance", "([BII)I"⟩ : MethodName) (head1 (Jvm.Cond.code (⟨"com/example/leafline/leafline/table/CodePointOrderWellFormedPinLaw", "advance", "([BII)I"⟩ : MethodName) method_4_code 4 (some .int) :: ws) ({ frames := 2, cells := 0, slots := 0, locals := 33 } : Room)) (fun a₁ U₁ => a₁ = #[(.ref a), (.int xv), (.int ev)] ∧ Z.Warmed39 U₁.vm ∧ U₁.heap = hI) (fun _ _ _ _ _ => True) (fun _ U₁ o₁ U₂ => ∃ v₁ L₁, o₁ = .returned v₁ ∧ Q2 Z a xv ev g x e' hI n0 v₁ U₂.heap L₁ ∧ FrameEnd U₁ o₁ U₂ L₁ ({ frames := 2, cells := 0, slots := 0, locals := 33 } : Room).cells ({ frames := 2, cells := 0, slots := 0, locals := 33 } : Room).slots) := by
  refine own_body pn_2 ?_
  intro p e s m below meth c s₁ hx hby hml hown hnm hret hlk hZ XI eI
  obtain ⟨F, hF⟩ : ∃ F : State → JFrame → Prop, F = own_Fin p.tables e below s ({ frames := 2, cells := 0, slots := 0, locals := 33 } : Room) (Q2 Z a xv ev g x e' hI n0) := ⟨_, rfl⟩
  have hst : ∀ {T T' : State} {g g' : JFrame}, (∀ t, Steps p.tables e below (T'.setTop g') t → Steps p.tables e below (T.setTop g) t) → F T' g' → F T g := by subst hF; exact own_st
  have NI := Fr.nil n0
  show own_Fin p.tables e below s ({ frames := 2, cells := 0, slots := 0, locals := 33 } : Room) (Q2 Z a xv ev g x e' hI n0) s₁ (entryFrame m #[(.ref a), (.int xv), (.int ev)] 4)
  rw [← hF]
  rw [ef_2]
  show F s₁ (mkF m 0 #[.val (.ref a), .val (.int xv), .val (.int ev), .unset] [])
  have k0 : (0 : Int32).toInt = 0 := by decide
  refine hst (fun t₀ k₀ => XS.iloadN XI.here hx rfl (hb hby d2_0) rfl k₀) ?_
  show F s₁ (mkF m 1 #[.val (.ref a), .val (.int xv), .val (.int ev), .unset] [(.int xv)])
  by_cases hc1 : xv < (0 : Int32)
  · -- pc 1: taken
    refine hst (fun t₀ k₀ => XS.ifYes XI.here hx rfl (pc0 := 1) (pc' := 9) rfl (hb hby d2_1) rfl ((if0 _ _).trans (tlt hc1).1) (by decide) (by decide) k₀) ?_
    show F s₁ (mkF m 9 #[.val (.ref a), .val (.int xv), .val (.int ev), .unset] [])
    refine hst (fun t₀ k₀ => XS.iloadN XI.here hx rfl (hb hby d2_9) rfl k₀) ?_
    show F s₁ (mkF m 10 #[.val (.ref a), .val (.int xv), .val (.int ev), .unset] [(.int xv)])
    rw [hF]
    refine own_retI XI hx hret hlk (hb hby d2_10) (by decide) (by decide) ?_
    rw [eI]
    exact ⟨_, rfl, NI, rfl, (by unfold own_adv; rw [if_pos (by first | (simp only [own_lt32] at hc1 hc6; omega) | (simp only [own_lt32] at hc1; omega))]; exact hx')⟩
  · -- pc 1: not taken
    refine hst (fun t₀ k₀ => XS.ifNo XI.here hx rfl (hb hby d2_1) rfl ((if0 _ _).trans (flt hc1).1) k₀) ?_
    show F s₁ (mkF m 4 #[.val (.ref a), .val (.int xv), .val (.int ev), .unset] [])
    refine hst (fun t₀ k₀ => XS.iloadN XI.here hx rfl (hb hby d2_4) rfl k₀) ?_
    show F s₁ (mkF m 5 #[.val (.ref a), .val (.int xv), .val (.int ev), .unset] [(.int xv)])
    refine hst (fun t₀ k₀ => XS.iloadN XI.here hx rfl (hb hby d2_5) rfl k₀) ?_
    show F s₁ (mkF m 6 #[.val (.ref a), .val (.int xv), .val (.int ev), .unset] [(.int ev), (.int xv)])
    by_cases hc6 : xv < ev
    · -- pc 6: taken
      refine hst (fun t₀ k₀ => XS.icmpYes XI.here hx rfl (pc0 := 6) (pc' := 11) rfl (hb hby d2_6) rfl (tlt hc6).1 (by decide) (by decide) k₀) ?_
      show F s₁ (mkF m 11 #[.val (.ref a), .val (.int xv), .val (.int ev), .unset] [])
      refine hst (fun t₀ k₀ => XS.aloadN XI.here hx rfl (hb hby d2_11) rfl rfl k₀) ?_
      show F s₁ (mkF m 12 #[.val (.ref a), .val (.int xv), .val (.int ev), .unset] [(.ref a)])
      refine hst (fun t₀ k₀ => XS.iloadN XI.here hx rfl (hb hby d2_12) rfl k₀) ?_
      show F s₁ (mkF m 13 #[.val (.ref a), .val (.int xv), .val (.int ev), .unset] [(.int xv), (.ref a)])
      refine hst (fun t₀ k₀ => XS.iloadN XI.here hx rfl (hb hby d2_13) rfl k₀) ?_
      show F s₁ (mkF m 14 #[.val (.ref a), .val (.int xv), .val (.int ev), .unset] [(.int ev), (.int xv), (.ref a)])
      have q1 : 0 ≤ x ∧ x < e' := by simp only [own_lt32] at hc1 hc6; omega
      obtain ⟨v14, T14, Lc14, X14, hQ14, st14⟩ := own_callS XI hx hZ hown (y := (⟨"com/example/leafline/leafline/table/CodePointOrderWellFormedPinLaw", "charLength", "([BII)I"⟩ : MethodName)) (hw _ (List.mem_of_getElem? (i := 12) rfl)) (hw _ (List.mem_of_getElem? (i := 13) rfl)) (hw _ (List.mem_of_getElem? (i := 3) rfl)) (hw _ (List.mem_of_getElem? (i := 14) rfl)) (by decide) eI (rm4 l Z a0 hw [] a xv ev g x.toNat e' hI n0 Z0 Ar (by omega) he (by omega) he6) (by decide) (by decide) (g := (mkF m 14 #[.val (.ref a), .val (.int xv), .val (.int ev), .unset] [(.int ev), (.int xv), (.ref a)])) rfl (by rw [hml]; rfl) (argsL := [(.ref a), (.int xv), (.int ev)]) (rest := []) (lenOf pd_2 rfl) rfl rfl (W := 0) (by show 2 * 0 + _ ≤ _; exact Nat.le_of_eq rfl) (hb hby d2_14) (by decide) (by decide)
      obtain ⟨rfl, Nq14, he14⟩ := hQ14
      have N14 := Fr.app NI Nq14
      refine hst st14 ?_
      show F T14 (mkF m 17 #[.val (.ref a), .val (.int xv), .val (.int ev), .unset] [(.int (Int32.ofNat (own_cl (own_B g) x.toNat e')))])
      have hcle := own_cl_le (own_B g) x.toNat e' (by omega)
      generalize hcl : own_cl (own_B g) x.toNat e' = cl at hcle ⊢
      have kcl : (Int32.ofNat cl).toInt = cl := Int32.toInt_ofNat_of_lt (by omega)
      refine hst (fun t₀ k₀ => XS.istoreN X14.here hx rfl (hb hby d2_17) rfl (l' := #[.val (.ref a), .val (.int xv), .val (.int ev), .val (.int (Int32.ofNat cl))]) rfl k₀) ?_
      show F T14 (mkF m 18 #[.val (.ref a), .val (.int xv), .val (.int ev), .val (.int (Int32.ofNat cl))] [])
      refine hst (fun t₀ k₀ => XS.iloadN X14.here hx rfl (hb hby d2_18) rfl k₀) ?_
      show F T14 (mkF m 19 #[.val (.ref a), .val (.int xv), .val (.int ev), .val (.int (Int32.ofNat cl))] [(.int (Int32.ofNat cl))])
      by_cases hc19 : (Int32.ofNat cl) = (0 : Int32)
      · -- pc 19: not taken
        refine hst (fun t₀ k₀ => XS.ifNo X14.here hx rfl (hb hby d2_19) rfl ((if0 _ _).trans (teq hc19).2) k₀) ?_
        show F T14 (mkF m 22 #[.val (.ref a), .val (.int xv), .val (.int ev), .val (.int (Int32.ofNat cl))] [])
        refine hst (fun t₀ k₀ => XS.iconst X14.here hx rfl (hb hby d2_22) k₀) ?_
        show F T14 (mkF m 23 #[.val (.ref a), .val (.int xv), .val (.int ev), .val (.int (Int32.ofNat cl))] [(.int (-1 : Int32))])
        refine hst (fun t₀ k₀ => XS.goto X14.here hx rfl (pc0 := 23) (pc' := 29) rfl (hb hby d2_23) (by decide) (by decide) k₀) ?_
        show F T14 (mkF m 29 #[.val (.ref a), .val (.int xv), .val (.int ev), .val (.int (Int32.ofNat cl))] [(.int (-1 : Int32))])
        rw [hF]
        refine own_retI X14 hx hret hlk (hb hby d2_29) (by decide) (by decide) ?_
        rw [he14]
        exact ⟨_, rfl, N14, rfl, (by unfold own_adv; rw [if_neg (by omega), hcl, if_pos (by simp only [own_eq32] at hc19; omega)]; decide)⟩
      · -- pc 19: taken
        refine hst (fun t₀ k₀ => XS.ifYes X14.here hx rfl (pc0 := 19) (pc' := 26) rfl (hb hby d2_19) rfl ((if0 _ _).trans (feq hc19).2) (by decide) (by decide) k₀) ?_
        show F T14 (mkF m 26 #[.val (.ref a), .val (.int xv), .val (.int ev), .val (.int (Int32.ofNat cl))] [])
        refine hst (fun t₀ k₀ => XS.iloadN X14.here hx rfl (hb hby d2_26) rfl k₀) ?_
        show F T14 (mkF m 27 #[.val (.ref a), .val (.int xv), .val (.int ev), .val (.int (Int32.ofNat cl))] [(.int xv)])
        refine hst (fun t₀ k₀ => XS.iloadN X14.here hx rfl (hb hby d2_27) rfl k₀) ?_
        show F T14 (mkF m 28 #[.val (.ref a), .val (.int xv), .val (.int ev), .val (.int (Int32.ofNat cl))] [(.int (Int32.ofNat cl)), (.int xv)])
        refine hst (fun t₀ k₀ => XS.iadd X14.here hx rfl (hb hby d2_28) rfl k₀) ?_
        show F T14 (mkF m 29 #[.val (.ref a), .val (.int xv), .val (.int ev), .val (.int (Int32.ofNat cl))] [(.int (xv + (Int32.ofNat cl)))])
        rw [hF]
        refine own_retI X14 hx hret hlk (hb hby d2_29) (by decide) (by decide) ?_
        rw [he14]
        exact ⟨_, rfl, N14, rfl, (by unfold own_adv; rw [if_neg (by omega), hcl, if_neg (fun q => hc19 ((own_eq32 _ _).mpr (by omega)))]; have h1 := c_iadd xv (Int32.ofNat cl); have h2 := rng32 (xv + Int32.ofNat cl); omega)⟩
    · -- pc 6: not taken
      refine hst (fun t₀ k₀ => XS.icmpNo XI.here hx rfl (hb hby d2_6) rfl (flt hc6).1 k₀) ?_
      show F s₁ (mkF m 9 #[.val (.ref a), .val (.int xv), .val (.int ev), .unset] [])
      refine hst (fun t₀ k₀ => XS.iloadN XI.here hx rfl (hb hby d2_9) rfl k₀) ?_
      show F s₁ (mkF m 10 #[.val (.ref a), .val (.int xv), .val (.int ev), .unset] [(.int xv)])
      rw [hF]
      refine own_retI XI hx hret hlk (hb hby d2_10) (by decide) (by decide) ?_
      rw [eI]
      exact ⟨_, rfl, NI, rfl, (by unfold own_adv; rw [if_pos (by first | (simp only [own_lt32] at hc1 hc6; omega) | (simp only [own_lt32] at hc1; omega))]; exact hx')⟩
theorem d1_0 : decode method_3_code 0 = .ok (.lload_n 0, 1) := by decide +kernel
theorem d1_1 : decode method_3_code 1 = .ok (.bipush 8, 2) := by decide +kernel
theorem d1_3 : decode method_3_code 3 = .ok (.iload_n 3, 1) := by decide +kernel
theorem d1_4 : decode method_3_code 4 = .ok (.imul, 1) := by decide +kernel
theorem d1_5 : decode method_3_code 5 = .ok (.lushr, 1) := by decide +kernel
theorem d1_6 : decode method_3_code 6 = .ok (.l2i, 1) := by decide +kernel
theorem d1_7 : decode method_3_code 7 = .ok (.sipush 255, 3) := by decide +kernel
theorem d1_10 : decode method_3_code 10 = .ok (.iand, 1) := by decide +kernel
theorem d1_11 : decode method_3_code 11 = .ok (.istore 4, 2) := by decide +kernel
theorem d1_13 : decode method_3_code 13 = .ok (.iload_n 2, 1) := by decide +kernel
theorem d1_14 : decode method_3_code 14 = .ok (.iload_n 3, 1) := by decide +kernel
theorem d1_15 : decode method_3_code 15 = .ok (.iushr, 1) := by decide +kernel
theorem d1_16 : decode method_3_code 16 = .ok (.iconst 1, 1) := by decide +kernel
theorem d1_17 : decode method_3_code 17 = .ok (.iand, 1) := by decide +kernel
theorem d1_18 : decode method_3_code 18 = .ok (.ifCond .eq 14, 3) := by decide +kernel
theorem d1_21 : decode method_3_code 21 = .ok (.sipush 128, 3) := by decide +kernel
theorem d1_24 : decode method_3_code 24 = .ok (.iload 4, 2) := by decide +kernel
theorem d1_26 : decode method_3_code 26 = .ok (.bipush 63, 2) := by decide +kernel
theorem d1_28 : decode method_3_code 28 = .ok (.iand, 1) := by decide +kernel
theorem d1_29 : decode method_3_code 29 = .ok (.ior, 1) := by decide +kernel
theorem d1_30 : decode method_3_code 30 = .ok (.istore 4, 2) := by decide +kernel
theorem d1_32 : decode method_3_code 32 = .ok (.iload 4, 2) := by decide +kernel
theorem d1_34 : decode method_3_code 34 = .ok (.i2b, 1) := by decide +kernel
theorem d1_35 : decode method_3_code 35 = .ok (.ireturn, 1) := by decide +kernel
theorem pn_1 : plainFor (⟨"com/example/leafline/leafline/table/CodePointOrderWellFormedPinLaw", "drawn", "(JII)B"⟩ : MethodName) = true := plainFor_of_name (by first | (simp [plainName, overriddenIn]; done) | decide +kernel)
theorem ef_1 (m : MethodId) (q1 : Int64) (p2 : Int32) (p3 : Int32) : entryFrame m #[(.long q1), (.int p2), (.int p3)] 5 = mkF m 0 #[.val (.long q1), .second, .val (.int p2), .val (.int p3), .unset] [] := by first | (simp [entryFrame, mkF, argsToLocals, Value.category]; done) | rfl
def Q1 (Z : State) (q1 : Int64) (p2 : Int32) (p3 : Int32) (hI : Heap) (n0 : Nat) (v : Option Value) (h : Heap) (L : List Loc) : Prop := ∃ (r : Int32), v = some (.int r) ∧ Fr n0 L ∧ h = hI
set_option maxRecDepth 65536 in
set_option maxHeartbeats 40000000 in
theorem rm1 (l : Launch) (Z : State) (a0 : Array Value) (hw : ∀ d ∈ tables_1, d.before a0 Z = true) (ws : List Jvm.Cond) (q1 : Int64) (p2 : Int32) (p3 : Int32) (hI : Heap) (n0 : Nat) (Z0 : n0 ≤ hI.size) :
    MetFree l (⟨"com/example/leafline/leafline/table/CodePointOrderWellFormedPinLaw", "drawn", "(JII)B"⟩ : MethodName) (head1 (Jvm.Cond.code (⟨"com/example/leafline/leafline/table/CodePointOrderWellFormedPinLaw", "drawn", "(JII)B"⟩ : MethodName) method_3_code 5 (some .byte) :: ws) ({ frames := 0, cells := 0, slots := 0, locals := 0 } : Room)) (fun a₁ U₁ => a₁ = #[(.long q1), (.int p2), (.int p3)] ∧ Z.Warmed39 U₁.vm ∧ U₁.heap = hI) (fun _ _ _ _ _ => True) (fun _ U₁ o₁ U₂ => ∃ v₁ L₁, o₁ = .returned v₁ ∧ Q1 Z q1 p2 p3 hI n0 v₁ U₂.heap L₁ ∧ FrameEnd U₁ o₁ U₂ L₁ ({ frames := 0, cells := 0, slots := 0, locals := 0 } : Room).cells ({ frames := 0, cells := 0, slots := 0, locals := 0 } : Room).slots) := by
  refine own_body pn_1 ?_
  intro p e s m below meth c s₁ hx hby hml hown hnm hret hlk hZ XI eI
  obtain ⟨F, hF⟩ : ∃ F : State → JFrame → Prop, F = own_Fin p.tables e below s ({ frames := 0, cells := 0, slots := 0, locals := 0 } : Room) (Q1 Z q1 p2 p3 hI n0) := ⟨_, rfl⟩
  have hst : ∀ {T T' : State} {g g' : JFrame}, (∀ t, Steps p.tables e below (T'.setTop g') t → Steps p.tables e below (T.setTop g) t) → F T' g' → F T g := by subst hF; exact own_st
  have NI := Fr.nil n0
  show own_Fin p.tables e below s ({ frames := 0, cells := 0, slots := 0, locals := 0 } : Room) (Q1 Z q1 p2 p3 hI n0) s₁ (entryFrame m #[(.long q1), (.int p2), (.int p3)] 5)
  rw [← hF]
  rw [ef_1]
  show F s₁ (mkF m 0 #[.val (.long q1), .second, .val (.int p2), .val (.int p3), .unset] [])
  refine hst (fun t₀ k₀ => XS.lloadN XI.here hx rfl (hb hby d1_0) rfl k₀) ?_
  show F s₁ (mkF m 1 #[.val (.long q1), .second, .val (.int p2), .val (.int p3), .unset] [(.long q1)])
  refine hst (fun t₀ k₀ => XS.bipush XI.here hx rfl (hb hby d1_1) k₀) ?_
  show F s₁ (mkF m 3 #[.val (.long q1), .second, .val (.int p2), .val (.int p3), .unset] [(.int (8 : Int32)), (.long q1)])
  refine hst (fun t₀ k₀ => XS.iloadN XI.here hx rfl (hb hby d1_3) rfl k₀) ?_
  show F s₁ (mkF m 4 #[.val (.long q1), .second, .val (.int p2), .val (.int p3), .unset] [(.int p3), (.int (8 : Int32)), (.long q1)])
  refine hst (fun t₀ k₀ => XS.imul XI.here hx rfl (hb hby d1_4) rfl k₀) ?_
  show F s₁ (mkF m 5 #[.val (.long q1), .second, .val (.int p2), .val (.int p3), .unset] [(.int ((8 : Int32) * p3)), (.long q1)])
  refine hst (fun t₀ k₀ => XS.lushr XI.here hx rfl (hb hby d1_5) rfl k₀) ?_
  show F s₁ (mkF m 6 #[.val (.long q1), .second, .val (.int p2), .val (.int p3), .unset] [(.long ((q1.toUInt64 >>> (((8 : Int32) * p3) &&& 0x3f).toInt64.toUInt64).toInt64))])
  refine hst (fun t₀ k₀ => XS.l2i XI.here hx rfl (hb hby d1_6) rfl k₀) ?_
  show F s₁ (mkF m 7 #[.val (.long q1), .second, .val (.int p2), .val (.int p3), .unset] [(.int (((q1.toUInt64 >>> (((8 : Int32) * p3) &&& 0x3f).toInt64.toUInt64).toInt64).toInt32))])
  refine hst (fun t₀ k₀ => XS.sipush XI.here hx rfl (hb hby d1_7) k₀) ?_
  show F s₁ (mkF m 10 #[.val (.long q1), .second, .val (.int p2), .val (.int p3), .unset] [(.int (255 : Int32)), (.int (((q1.toUInt64 >>> (((8 : Int32) * p3) &&& 0x3f).toInt64.toUInt64).toInt64).toInt32))])
  refine hst (fun t₀ k₀ => XS.iand XI.here hx rfl (hb hby d1_10) rfl k₀) ?_
  show F s₁ (mkF m 11 #[.val (.long q1), .second, .val (.int p2), .val (.int p3), .unset] [(.int ((((q1.toUInt64 >>> (((8 : Int32) * p3) &&& 0x3f).toInt64.toUInt64).toInt64).toInt32) &&& (255 : Int32)))])
  refine hst (fun t₀ k₀ => XS.istore XI.here hx rfl (hb hby d1_11) rfl (l' := #[.val (.long q1), .second, .val (.int p2), .val (.int p3), .val (.int ((((q1.toUInt64 >>> (((8 : Int32) * p3) &&& 0x3f).toInt64.toUInt64).toInt64).toInt32) &&& (255 : Int32)))]) rfl k₀) ?_
  show F s₁ (mkF m 13 #[.val (.long q1), .second, .val (.int p2), .val (.int p3), .val (.int ((((q1.toUInt64 >>> (((8 : Int32) * p3) &&& 0x3f).toInt64.toUInt64).toInt64).toInt32) &&& (255 : Int32)))] [])
  refine hst (fun t₀ k₀ => XS.iloadN XI.here hx rfl (hb hby d1_13) rfl k₀) ?_
  show F s₁ (mkF m 14 #[.val (.long q1), .second, .val (.int p2), .val (.int p3), .val (.int ((((q1.toUInt64 >>> (((8 : Int32) * p3) &&& 0x3f).toInt64.toUInt64).toInt64).toInt32) &&& (255 : Int32)))] [(.int p2)])
  refine hst (fun t₀ k₀ => XS.iloadN XI.here hx rfl (hb hby d1_14) rfl k₀) ?_
  show F s₁ (mkF m 15 #[.val (.long q1), .second, .val (.int p2), .val (.int p3), .val (.int ((((q1.toUInt64 >>> (((8 : Int32) * p3) &&& 0x3f).toInt64.toUInt64).toInt64).toInt32) &&& (255 : Int32)))] [(.int p3), (.int p2)])
  refine hst (fun t₀ k₀ => XS.iushr XI.here hx rfl (hb hby d1_15) rfl k₀) ?_
  show F s₁ (mkF m 16 #[.val (.long q1), .second, .val (.int p2), .val (.int p3), .val (.int ((((q1.toUInt64 >>> (((8 : Int32) * p3) &&& 0x3f).toInt64.toUInt64).toInt64).toInt32) &&& (255 : Int32)))] [(.int ((p2.toUInt32 >>> (p3 &&& 31).toUInt32).toInt32))])
  refine hst (fun t₀ k₀ => XS.iconst XI.here hx rfl (hb hby d1_16) k₀) ?_
  show F s₁ (mkF m 17 #[.val (.long q1), .second, .val (.int p2), .val (.int p3), .val (.int ((((q1.toUInt64 >>> (((8 : Int32) * p3) &&& 0x3f).toInt64.toUInt64).toInt64).toInt32) &&& (255 : Int32)))] [(.int (1 : Int32)), (.int ((p2.toUInt32 >>> (p3 &&& 31).toUInt32).toInt32))])
  refine hst (fun t₀ k₀ => XS.iand XI.here hx rfl (hb hby d1_17) rfl k₀) ?_
  show F s₁ (mkF m 18 #[.val (.long q1), .second, .val (.int p2), .val (.int p3), .val (.int ((((q1.toUInt64 >>> (((8 : Int32) * p3) &&& 0x3f).toInt64.toUInt64).toInt64).toInt32) &&& (255 : Int32)))] [(.int (((p2.toUInt32 >>> (p3 &&& 31).toUInt32).toInt32) &&& (1 : Int32)))])
  by_cases hc18 : (((p2.toUInt32 >>> (p3 &&& 31).toUInt32).toInt32) &&& (1 : Int32)) = (0 : Int32)
  · -- pc 18: taken
    refine hst (fun t₀ k₀ => XS.ifYes XI.here hx rfl (pc0 := 18) (pc' := 32) rfl (hb hby d1_18) rfl ((if0 _ _).trans (teq hc18).1) (by decide) (by decide) k₀) ?_
    show F s₁ (mkF m 32 #[.val (.long q1), .second, .val (.int p2), .val (.int p3), .val (.int ((((q1.toUInt64 >>> (((8 : Int32) * p3) &&& 0x3f).toInt64.toUInt64).toInt64).toInt32) &&& (255 : Int32)))] [])
    refine hst (fun t₀ k₀ => XS.iload XI.here hx rfl (hb hby d1_32) rfl k₀) ?_
    show F s₁ (mkF m 34 #[.val (.long q1), .second, .val (.int p2), .val (.int p3), .val (.int ((((q1.toUInt64 >>> (((8 : Int32) * p3) &&& 0x3f).toInt64.toUInt64).toInt64).toInt32) &&& (255 : Int32)))] [(.int ((((q1.toUInt64 >>> (((8 : Int32) * p3) &&& 0x3f).toInt64.toUInt64).toInt64).toInt32) &&& (255 : Int32)))])
    refine hst (fun t₀ k₀ => XS.i2b XI.here hx rfl (hb hby d1_34) rfl k₀) ?_
    show F s₁ (mkF m 35 #[.val (.long q1), .second, .val (.int p2), .val (.int p3), .val (.int ((((q1.toUInt64 >>> (((8 : Int32) * p3) &&& 0x3f).toInt64.toUInt64).toInt64).toInt32) &&& (255 : Int32)))] [(.int (((((q1.toUInt64 >>> (((8 : Int32) * p3) &&& 0x3f).toInt64.toUInt64).toInt64).toInt32) &&& (255 : Int32)).toInt8.toInt32))])
    rw [hF]
    refine own_retN XI hx hret (by simp) hlk (hb hby d1_35) (by decide) (by decide) ?_
    rw [eI]
    exact ⟨_, rfl, NI, rfl⟩
  · -- pc 18: not taken
    refine hst (fun t₀ k₀ => XS.ifNo XI.here hx rfl (hb hby d1_18) rfl ((if0 _ _).trans (feq hc18).1) k₀) ?_
    show F s₁ (mkF m 21 #[.val (.long q1), .second, .val (.int p2), .val (.int p3), .val (.int ((((q1.toUInt64 >>> (((8 : Int32) * p3) &&& 0x3f).toInt64.toUInt64).toInt64).toInt32) &&& (255 : Int32)))] [])
    refine hst (fun t₀ k₀ => XS.sipush XI.here hx rfl (hb hby d1_21) k₀) ?_
    show F s₁ (mkF m 24 #[.val (.long q1), .second, .val (.int p2), .val (.int p3), .val (.int ((((q1.toUInt64 >>> (((8 : Int32) * p3) &&& 0x3f).toInt64.toUInt64).toInt64).toInt32) &&& (255 : Int32)))] [(.int (128 : Int32))])
    refine hst (fun t₀ k₀ => XS.iload XI.here hx rfl (hb hby d1_24) rfl k₀) ?_
    show F s₁ (mkF m 26 #[.val (.long q1), .second, .val (.int p2), .val (.int p3), .val (.int ((((q1.toUInt64 >>> (((8 : Int32) * p3) &&& 0x3f).toInt64.toUInt64).toInt64).toInt32) &&& (255 : Int32)))] [(.int ((((q1.toUInt64 >>> (((8 : Int32) * p3) &&& 0x3f).toInt64.toUInt64).toInt64).toInt32) &&& (255 : Int32))), (.int (128 : Int32))])
    refine hst (fun t₀ k₀ => XS.bipush XI.here hx rfl (hb hby d1_26) k₀) ?_
    show F s₁ (mkF m 28 #[.val (.long q1), .second, .val (.int p2), .val (.int p3), .val (.int ((((q1.toUInt64 >>> (((8 : Int32) * p3) &&& 0x3f).toInt64.toUInt64).toInt64).toInt32) &&& (255 : Int32)))] [(.int (63 : Int32)), (.int ((((q1.toUInt64 >>> (((8 : Int32) * p3) &&& 0x3f).toInt64.toUInt64).toInt64).toInt32) &&& (255 : Int32))), (.int (128 : Int32))])
    refine hst (fun t₀ k₀ => XS.iand XI.here hx rfl (hb hby d1_28) rfl k₀) ?_
    show F s₁ (mkF m 29 #[.val (.long q1), .second, .val (.int p2), .val (.int p3), .val (.int ((((q1.toUInt64 >>> (((8 : Int32) * p3) &&& 0x3f).toInt64.toUInt64).toInt64).toInt32) &&& (255 : Int32)))] [(.int (((((q1.toUInt64 >>> (((8 : Int32) * p3) &&& 0x3f).toInt64.toUInt64).toInt64).toInt32) &&& (255 : Int32)) &&& (63 : Int32))), (.int (128 : Int32))])
    refine hst (fun t₀ k₀ => XS.ior XI.here hx rfl (hb hby d1_29) rfl k₀) ?_
    show F s₁ (mkF m 30 #[.val (.long q1), .second, .val (.int p2), .val (.int p3), .val (.int ((((q1.toUInt64 >>> (((8 : Int32) * p3) &&& 0x3f).toInt64.toUInt64).toInt64).toInt32) &&& (255 : Int32)))] [(.int ((128 : Int32) ||| (((((q1.toUInt64 >>> (((8 : Int32) * p3) &&& 0x3f).toInt64.toUInt64).toInt64).toInt32) &&& (255 : Int32)) &&& (63 : Int32))))])
    refine hst (fun t₀ k₀ => XS.istore XI.here hx rfl (hb hby d1_30) rfl (l' := #[.val (.long q1), .second, .val (.int p2), .val (.int p3), .val (.int ((128 : Int32) ||| (((((q1.toUInt64 >>> (((8 : Int32) * p3) &&& 0x3f).toInt64.toUInt64).toInt64).toInt32) &&& (255 : Int32)) &&& (63 : Int32))))]) rfl k₀) ?_
    show F s₁ (mkF m 32 #[.val (.long q1), .second, .val (.int p2), .val (.int p3), .val (.int ((128 : Int32) ||| (((((q1.toUInt64 >>> (((8 : Int32) * p3) &&& 0x3f).toInt64.toUInt64).toInt64).toInt32) &&& (255 : Int32)) &&& (63 : Int32))))] [])
    refine hst (fun t₀ k₀ => XS.iload XI.here hx rfl (hb hby d1_32) rfl k₀) ?_
    show F s₁ (mkF m 34 #[.val (.long q1), .second, .val (.int p2), .val (.int p3), .val (.int ((128 : Int32) ||| (((((q1.toUInt64 >>> (((8 : Int32) * p3) &&& 0x3f).toInt64.toUInt64).toInt64).toInt32) &&& (255 : Int32)) &&& (63 : Int32))))] [(.int ((128 : Int32) ||| (((((q1.toUInt64 >>> (((8 : Int32) * p3) &&& 0x3f).toInt64.toUInt64).toInt64).toInt32) &&& (255 : Int32)) &&& (63 : Int32))))])
    refine hst (fun t₀ k₀ => XS.i2b XI.here hx rfl (hb hby d1_34) rfl k₀) ?_
    show F s₁ (mkF m 35 #[.val (.long q1), .second, .val (.int p2), .val (.int p3), .val (.int ((128 : Int32) ||| (((((q1.toUInt64 >>> (((8 : Int32) * p3) &&& 0x3f).toInt64.toUInt64).toInt64).toInt32) &&& (255 : Int32)) &&& (63 : Int32))))] [(.int (((128 : Int32) ||| (((((q1.toUInt64 >>> (((8 : Int32) * p3) &&& 0x3f).toInt64.toUInt64).toInt64).toInt32) &&& (255 : Int32)) &&& (63 : Int32))).toInt8.toInt32))])
    rw [hF]
    refine own_retN XI hx hret (by simp) hlk (hb hby d1_35) (by decide) (by decide) ?_
    rw [eI]
    exact ⟨_, rfl, NI, rfl⟩
/-- what the lead byte L says: formed, how many follow, the bounds of the first that does -/
def own_cls (L : Nat) (fm fw ls ms : Int32) : Prop :=
  (fm = 1 ∧ fw = 0 ∧ ls.toInt = 128 ∧ ms.toInt = 191 ∧ L < 128) ∨ (fm = 1 ∧ fw = 1 ∧ ls.toInt = 128 ∧ ms.toInt = 191 ∧ 194 ≤ L ∧ L < 224)
  ∨ (fm = 1 ∧ fw = 2 ∧ ((L = 224 → ls.toInt = 160) ∧ (¬ L = 224 → ls.toInt = 128)) ∧ ((L = 237 → ms.toInt = 159) ∧ (¬ L = 237 → ms.toInt = 191)) ∧ 224 ≤ L ∧ L < 240)
  ∨ (fm = 1 ∧ fw = 3 ∧ ((L = 240 → ls.toInt = 144) ∧ (¬ L = 240 → ls.toInt = 128)) ∧ ((L = 244 → ms.toInt = 143) ∧ (¬ L = 244 → ms.toInt = 191)) ∧ 240 ≤ L ∧ L < 245)
  ∨ (fm = 0 ∧ fw = 0 ∧ ls.toInt = 128 ∧ ms.toInt = 191 ∧ (128 ≤ L ∧ L < 194 ∨ 245 ≤ L))
theorem d3_0 : decode prog_89_method_4_code 0 = .ok (.iload_n 1, 1) := by decide +kernel
theorem d3_1 : decode prog_89_method_4_code 1 = .ok (.iload_n 2, 1) := by decide +kernel
theorem d3_2 : decode prog_89_method_4_code 2 = .ok (.iadd, 1) := by decide +kernel
theorem d3_3 : decode prog_89_method_4_code 3 = .ok (.istore_n 3, 1) := by decide +kernel
theorem d3_4 : decode prog_89_method_4_code 4 = .ok (.iconst 1, 1) := by decide +kernel
theorem d3_5 : decode prog_89_method_4_code 5 = .ok (.istore 4, 2) := by decide +kernel
theorem d3_7 : decode prog_89_method_4_code 7 = .ok (.iload_n 1, 1) := by decide +kernel
theorem d3_8 : decode prog_89_method_4_code 8 = .ok (.istore 5, 2) := by decide +kernel
theorem d3_10 : decode prog_89_method_4_code 10 = .ok (.iload 4, 2) := by decide +kernel
theorem d3_12 : decode prog_89_method_4_code 12 = .ok (.ifCond .eq 299, 3) := by decide +kernel
theorem d3_15 : decode prog_89_method_4_code 15 = .ok (.iload 5, 2) := by decide +kernel
theorem d3_17 : decode prog_89_method_4_code 17 = .ok (.iload_n 3, 1) := by decide +kernel
theorem d3_18 : decode prog_89_method_4_code 18 = .ok (.if_icmp .ge 293, 3) := by decide +kernel
theorem d3_21 : decode prog_89_method_4_code 21 = .ok (.aload_n 0, 1) := by decide +kernel
theorem d3_22 : decode prog_89_method_4_code 22 = .ok (.iload 5, 2) := by decide +kernel
theorem d3_24 : decode prog_89_method_4_code 24 = .ok (.baload, 1) := by decide +kernel
theorem d3_25 : decode prog_89_method_4_code 25 = .ok (.sipush 255, 3) := by decide +kernel
theorem d3_28 : decode prog_89_method_4_code 28 = .ok (.iand, 1) := by decide +kernel
theorem d3_29 : decode prog_89_method_4_code 29 = .ok (.istore 6, 2) := by decide +kernel
theorem d3_31 : decode prog_89_method_4_code 31 = .ok (.iconst 0, 1) := by decide +kernel
theorem d3_32 : decode prog_89_method_4_code 32 = .ok (.istore 7, 2) := by decide +kernel
theorem d3_34 : decode prog_89_method_4_code 34 = .ok (.sipush 128, 3) := by decide +kernel
theorem d3_37 : decode prog_89_method_4_code 37 = .ok (.istore 8, 2) := by decide +kernel
theorem d3_39 : decode prog_89_method_4_code 39 = .ok (.sipush 191, 3) := by decide +kernel
theorem d3_42 : decode prog_89_method_4_code 42 = .ok (.istore 9, 2) := by decide +kernel
theorem d3_44 : decode prog_89_method_4_code 44 = .ok (.iload 6, 2) := by decide +kernel
theorem d3_46 : decode prog_89_method_4_code 46 = .ok (.sipush 128, 3) := by decide +kernel
theorem d3_49 : decode prog_89_method_4_code 49 = .ok (.if_icmp .ge 9, 3) := by decide +kernel
theorem d3_52 : decode prog_89_method_4_code 52 = .ok (.iconst 0, 1) := by decide +kernel
theorem d3_53 : decode prog_89_method_4_code 53 = .ok (.istore 7, 2) := by decide +kernel
theorem d3_55 : decode prog_89_method_4_code 55 = .ok (.goto 144, 3) := by decide +kernel
theorem d3_58 : decode prog_89_method_4_code 58 = .ok (.iload 6, 2) := by decide +kernel
theorem d3_60 : decode prog_89_method_4_code 60 = .ok (.sipush 194, 3) := by decide +kernel
theorem d3_63 : decode prog_89_method_4_code 63 = .ok (.if_icmp .lt 17, 3) := by decide +kernel
theorem d3_66 : decode prog_89_method_4_code 66 = .ok (.iload 6, 2) := by decide +kernel
theorem d3_68 : decode prog_89_method_4_code 68 = .ok (.sipush 224, 3) := by decide +kernel
theorem d3_71 : decode prog_89_method_4_code 71 = .ok (.if_icmp .ge 9, 3) := by decide +kernel
theorem d3_74 : decode prog_89_method_4_code 74 = .ok (.iconst 1, 1) := by decide +kernel
theorem d3_75 : decode prog_89_method_4_code 75 = .ok (.istore 7, 2) := by decide +kernel
theorem d3_77 : decode prog_89_method_4_code 77 = .ok (.goto 122, 3) := by decide +kernel
theorem d3_80 : decode prog_89_method_4_code 80 = .ok (.iload 6, 2) := by decide +kernel
theorem d3_82 : decode prog_89_method_4_code 82 = .ok (.sipush 224, 3) := by decide +kernel
theorem d3_85 : decode prog_89_method_4_code 85 = .ok (.if_icmp .lt 53, 3) := by decide +kernel
theorem d3_88 : decode prog_89_method_4_code 88 = .ok (.iload 6, 2) := by decide +kernel
theorem d3_90 : decode prog_89_method_4_code 90 = .ok (.sipush 240, 3) := by decide +kernel
theorem d3_93 : decode prog_89_method_4_code 93 = .ok (.if_icmp .ge 45, 3) := by decide +kernel
theorem d3_96 : decode prog_89_method_4_code 96 = .ok (.iconst 2, 1) := by decide +kernel
theorem d3_97 : decode prog_89_method_4_code 97 = .ok (.istore 7, 2) := by decide +kernel
theorem d3_99 : decode prog_89_method_4_code 99 = .ok (.iload 6, 2) := by decide +kernel
theorem d3_101 : decode prog_89_method_4_code 101 = .ok (.sipush 224, 3) := by decide +kernel
theorem d3_104 : decode prog_89_method_4_code 104 = .ok (.if_icmp .ne 9, 3) := by decide +kernel
theorem d3_107 : decode prog_89_method_4_code 107 = .ok (.sipush 160, 3) := by decide +kernel
theorem d3_110 : decode prog_89_method_4_code 110 = .ok (.goto 5, 3) := by decide +kernel
theorem d3_113 : decode prog_89_method_4_code 113 = .ok (.iload 8, 2) := by decide +kernel
theorem d3_115 : decode prog_89_method_4_code 115 = .ok (.istore 8, 2) := by decide +kernel
theorem d3_117 : decode prog_89_method_4_code 117 = .ok (.iload 6, 2) := by decide +kernel
theorem d3_119 : decode prog_89_method_4_code 119 = .ok (.sipush 237, 3) := by decide +kernel
theorem d3_122 : decode prog_89_method_4_code 122 = .ok (.if_icmp .ne 9, 3) := by decide +kernel
theorem d3_125 : decode prog_89_method_4_code 125 = .ok (.sipush 159, 3) := by decide +kernel
theorem d3_128 : decode prog_89_method_4_code 128 = .ok (.goto 5, 3) := by decide +kernel
theorem d3_131 : decode prog_89_method_4_code 131 = .ok (.iload 9, 2) := by decide +kernel
theorem d3_133 : decode prog_89_method_4_code 133 = .ok (.istore 9, 2) := by decide +kernel
theorem d3_135 : decode prog_89_method_4_code 135 = .ok (.goto 64, 3) := by decide +kernel
theorem d3_138 : decode prog_89_method_4_code 138 = .ok (.iload 6, 2) := by decide +kernel
theorem d3_140 : decode prog_89_method_4_code 140 = .ok (.sipush 240, 3) := by decide +kernel
theorem d3_143 : decode prog_89_method_4_code 143 = .ok (.if_icmp .lt 53, 3) := by decide +kernel
theorem d3_146 : decode prog_89_method_4_code 146 = .ok (.iload 6, 2) := by decide +kernel
theorem d3_148 : decode prog_89_method_4_code 148 = .ok (.sipush 245, 3) := by decide +kernel
theorem d3_151 : decode prog_89_method_4_code 151 = .ok (.if_icmp .ge 45, 3) := by decide +kernel
theorem d3_154 : decode prog_89_method_4_code 154 = .ok (.iconst 3, 1) := by decide +kernel
theorem d3_155 : decode prog_89_method_4_code 155 = .ok (.istore 7, 2) := by decide +kernel
theorem d3_157 : decode prog_89_method_4_code 157 = .ok (.iload 6, 2) := by decide +kernel
theorem d3_159 : decode prog_89_method_4_code 159 = .ok (.sipush 240, 3) := by decide +kernel
theorem d3_162 : decode prog_89_method_4_code 162 = .ok (.if_icmp .ne 9, 3) := by decide +kernel
theorem d3_165 : decode prog_89_method_4_code 165 = .ok (.sipush 144, 3) := by decide +kernel
theorem d3_168 : decode prog_89_method_4_code 168 = .ok (.goto 5, 3) := by decide +kernel
theorem d3_171 : decode prog_89_method_4_code 171 = .ok (.iload 8, 2) := by decide +kernel
theorem d3_173 : decode prog_89_method_4_code 173 = .ok (.istore 8, 2) := by decide +kernel
theorem d3_175 : decode prog_89_method_4_code 175 = .ok (.iload 6, 2) := by decide +kernel
theorem d3_177 : decode prog_89_method_4_code 177 = .ok (.sipush 244, 3) := by decide +kernel
theorem d3_180 : decode prog_89_method_4_code 180 = .ok (.if_icmp .ne 9, 3) := by decide +kernel
theorem d3_183 : decode prog_89_method_4_code 183 = .ok (.sipush 143, 3) := by decide +kernel
theorem d3_186 : decode prog_89_method_4_code 186 = .ok (.goto 5, 3) := by decide +kernel
theorem d3_189 : decode prog_89_method_4_code 189 = .ok (.iload 9, 2) := by decide +kernel
theorem d3_191 : decode prog_89_method_4_code 191 = .ok (.istore 9, 2) := by decide +kernel
theorem d3_193 : decode prog_89_method_4_code 193 = .ok (.goto 6, 3) := by decide +kernel
theorem d3_196 : decode prog_89_method_4_code 196 = .ok (.iconst 0, 1) := by decide +kernel
theorem d3_197 : decode prog_89_method_4_code 197 = .ok (.istore 4, 2) := by decide +kernel
theorem d3_199 : decode prog_89_method_4_code 199 = .ok (.iload 4, 2) := by decide +kernel
theorem d3_201 : decode prog_89_method_4_code 201 = .ok (.iload_n 3, 1) := by decide +kernel
theorem d3_202 : decode prog_89_method_4_code 202 = .ok (.iload 5, 2) := by decide +kernel
theorem d3_204 : decode prog_89_method_4_code 204 = .ok (.isub, 1) := by decide +kernel
theorem d3_205 : decode prog_89_method_4_code 205 = .ok (.iload 7, 2) := by decide +kernel
theorem d3_207 : decode prog_89_method_4_code 207 = .ok (.if_icmp .le 7, 3) := by decide +kernel
theorem d3_210 : decode prog_89_method_4_code 210 = .ok (.iconst 1, 1) := by decide +kernel
theorem d3_211 : decode prog_89_method_4_code 211 = .ok (.goto 4, 3) := by decide +kernel
theorem d3_214 : decode prog_89_method_4_code 214 = .ok (.iconst 0, 1) := by decide +kernel
theorem d3_215 : decode prog_89_method_4_code 215 = .ok (.iand, 1) := by decide +kernel
theorem d3_216 : decode prog_89_method_4_code 216 = .ok (.istore 4, 2) := by decide +kernel
theorem d3_218 : decode prog_89_method_4_code 218 = .ok (.iconst 1, 1) := by decide +kernel
theorem d3_219 : decode prog_89_method_4_code 219 = .ok (.istore 10, 2) := by decide +kernel
theorem d3_221 : decode prog_89_method_4_code 221 = .ok (.iload 4, 2) := by decide +kernel
theorem d3_223 : decode prog_89_method_4_code 223 = .ok (.ifCond .eq 76, 3) := by decide +kernel
theorem d3_226 : decode prog_89_method_4_code 226 = .ok (.iload 10, 2) := by decide +kernel
theorem d3_228 : decode prog_89_method_4_code 228 = .ok (.iload 7, 2) := by decide +kernel
theorem d3_230 : decode prog_89_method_4_code 230 = .ok (.if_icmp .gt 69, 3) := by decide +kernel
theorem d3_233 : decode prog_89_method_4_code 233 = .ok (.aload_n 0, 1) := by decide +kernel
theorem d3_234 : decode prog_89_method_4_code 234 = .ok (.iload 5, 2) := by decide +kernel
theorem d3_236 : decode prog_89_method_4_code 236 = .ok (.iload 10, 2) := by decide +kernel
theorem d3_238 : decode prog_89_method_4_code 238 = .ok (.iadd, 1) := by decide +kernel
theorem d3_239 : decode prog_89_method_4_code 239 = .ok (.baload, 1) := by decide +kernel
theorem d3_240 : decode prog_89_method_4_code 240 = .ok (.sipush 255, 3) := by decide +kernel
theorem d3_243 : decode prog_89_method_4_code 243 = .ok (.iand, 1) := by decide +kernel
theorem d3_244 : decode prog_89_method_4_code 244 = .ok (.istore 11, 2) := by decide +kernel
theorem d3_246 : decode prog_89_method_4_code 246 = .ok (.iload 10, 2) := by decide +kernel
theorem d3_248 : decode prog_89_method_4_code 248 = .ok (.iconst 1, 1) := by decide +kernel
theorem d3_249 : decode prog_89_method_4_code 249 = .ok (.if_icmp .ne 25, 3) := by decide +kernel
theorem d3_252 : decode prog_89_method_4_code 252 = .ok (.iload 11, 2) := by decide +kernel
theorem d3_254 : decode prog_89_method_4_code 254 = .ok (.iload 8, 2) := by decide +kernel
theorem d3_256 : decode prog_89_method_4_code 256 = .ok (.if_icmp .lt 14, 3) := by decide +kernel
theorem d3_259 : decode prog_89_method_4_code 259 = .ok (.iload 11, 2) := by decide +kernel
theorem d3_261 : decode prog_89_method_4_code 261 = .ok (.iload 9, 2) := by decide +kernel
theorem d3_263 : decode prog_89_method_4_code 263 = .ok (.if_icmp .gt 7, 3) := by decide +kernel
theorem d3_266 : decode prog_89_method_4_code 266 = .ok (.iconst 1, 1) := by decide +kernel
theorem d3_267 : decode prog_89_method_4_code 267 = .ok (.goto 24, 3) := by decide +kernel
theorem d3_270 : decode prog_89_method_4_code 270 = .ok (.iconst 0, 1) := by decide +kernel
theorem d3_271 : decode prog_89_method_4_code 271 = .ok (.goto 20, 3) := by decide +kernel
theorem d3_274 : decode prog_89_method_4_code 274 = .ok (.iload 11, 2) := by decide +kernel
theorem d3_276 : decode prog_89_method_4_code 276 = .ok (.sipush 192, 3) := by decide +kernel
theorem d3_279 : decode prog_89_method_4_code 279 = .ok (.iand, 1) := by decide +kernel
theorem d3_280 : decode prog_89_method_4_code 280 = .ok (.sipush 128, 3) := by decide +kernel
theorem d3_283 : decode prog_89_method_4_code 283 = .ok (.if_icmp .ne 7, 3) := by decide +kernel
theorem d3_286 : decode prog_89_method_4_code 286 = .ok (.iconst 1, 1) := by decide +kernel
theorem d3_287 : decode prog_89_method_4_code 287 = .ok (.goto 4, 3) := by decide +kernel
theorem d3_290 : decode prog_89_method_4_code 290 = .ok (.iconst 0, 1) := by decide +kernel
theorem d3_291 : decode prog_89_method_4_code 291 = .ok (.istore 4, 2) := by decide +kernel
theorem d3_293 : decode prog_89_method_4_code 293 = .ok (.iinc 10 1, 3) := by decide +kernel
theorem d3_296 : decode prog_89_method_4_code 296 = .ok (.goto (-75), 3) := by decide +kernel
theorem d3_299 : decode prog_89_method_4_code 299 = .ok (.iload 5, 2) := by decide +kernel
theorem d3_301 : decode prog_89_method_4_code 301 = .ok (.iload 7, 2) := by decide +kernel
theorem d3_303 : decode prog_89_method_4_code 303 = .ok (.iconst 1, 1) := by decide +kernel
theorem d3_304 : decode prog_89_method_4_code 304 = .ok (.iadd, 1) := by decide +kernel
theorem d3_305 : decode prog_89_method_4_code 305 = .ok (.iadd, 1) := by decide +kernel
theorem d3_306 : decode prog_89_method_4_code 306 = .ok (.istore 5, 2) := by decide +kernel
theorem d3_308 : decode prog_89_method_4_code 308 = .ok (.goto (-298), 3) := by decide +kernel
theorem d3_311 : decode prog_89_method_4_code 311 = .ok (.iload 4, 2) := by decide +kernel
theorem d3_313 : decode prog_89_method_4_code 313 = .ok (.ireturn, 1) := by decide +kernel
theorem pn_3 : plainFor (⟨"com/example/leafline/leafline/table/CodePointOrder", "wellFormed", "([BII)Z"⟩ : MethodName) = true := plainFor_of_name (by first | (simp [plainName, overriddenIn]; done) | decide +kernel)
theorem ef_3 (m : MethodId) (a : Addr) (fv : Int32) (lv : Int32) : entryFrame m #[(.ref a), (.int fv), (.int lv)] 12 = mkF m 0 #[.val (.ref a), .val (.int fv), .val (.int lv), .unset, .unset, .unset, .unset, .unset, .unset, .unset, .unset, .unset] [] := by first | (simp [entryFrame, mkF, argsToLocals, Value.category]; done) | rfl
def Q3 (Z : State) (a : Addr) (fv : Int32) (lv : Int32) (g : Nat → Int32) (f' : Nat) (e' : Nat) (l' : Nat) (hI : Heap) (n0 : Nat) (v : Option Value) (h : Heap) (L : List Loc) : Prop := v = some (.int (if own_wf (own_B g) e' 7 f' then 1 else 0)) ∧ Fr n0 L ∧ h = hI
set_option maxRecDepth 65536 in
set_option maxHeartbeats 40000000 in
theorem rm3 (l : Launch) (Z : State) (a0 : Array Value) (hw : ∀ d ∈ tables_1, d.before a0 Z = true) (ws : List Jvm.Cond) (a : Addr) (fv : Int32) (lv : Int32) (g : Nat → Int32) (f' : Nat) (e' : Nat) (l' : Nat) (hI : Heap) (n0 : Nat) (Z0 : n0 ≤ hI.size) (Ar : own_A Z hI a .byte 6 (fun i => .int (g i))) (hf : fv.toInt = f') (hl : lv.toInt = l') (hfl : f' + l' = e') (he6 : e' ≤ 6) :
    MetFree l (⟨"com/example/leafline/leafline/table/CodePointOrder", "wellFormed", "([BII)Z"⟩ : MethodName) (head1 (Jvm.Cond.code (⟨"com/example/leafline/leafline/table/CodePointOrder", "wellFormed", "([BII)Z"⟩ : MethodName) prog_89_method_4_code 12 (some .boolean) :: ws) ({ frames := 0, cells := 0, slots := 0, locals := 0 } : Room)) (fun a₁ U₁ => a₁ = #[(.ref a), (.int fv), (.int lv)] ∧ Z.Warmed39 U₁.vm ∧ U₁.heap = hI) (fun _ _ _ _ _ => True) (fun _ U₁ o₁ U₂ => ∃ v₁ L₁, o₁ = .returned v₁ ∧ Q3 Z a fv lv g f' e' l' hI n0 v₁ U₂.heap L₁ ∧ FrameEnd U₁ o₁ U₂ L₁ ({ frames := 0, cells := 0, slots := 0, locals := 0 } : Room).cells ({ frames := 0, cells := 0, slots := 0, locals := 0 } : Room).slots) := by
  refine own_body pn_3 ?_
  intro p e s m below meth c s₁ hx hby hml hown hnm hret hlk hZ XI eI
  obtain ⟨F, hF⟩ : ∃ F : State → JFrame → Prop, F = own_Fin p.tables e below s ({ frames := 0, cells := 0, slots := 0, locals := 0 } : Room) (Q3 Z a fv lv g f' e' l' hI n0) := ⟨_, rfl⟩
  have hst : ∀ {T T' : State} {g g' : JFrame}, (∀ t, Steps p.tables e below (T'.setTop g') t → Steps p.tables e below (T.setTop g) t) → F T' g' → F T g := by subst hF; exact own_st
  have NI := Fr.nil n0
  show own_Fin p.tables e below s ({ frames := 0, cells := 0, slots := 0, locals := 0 } : Room) (Q3 Z a fv lv g f' e' l' hI n0) s₁ (entryFrame m #[(.ref a), (.int fv), (.int lv)] 12)
  rw [← hF]
  rw [ef_3]
  show F s₁ (mkF m 0 #[.val (.ref a), .val (.int fv), .val (.int lv), .unset, .unset, .unset, .unset, .unset, .unset, .unset, .unset, .unset] [])
  have k0 : (0 : Int32).toInt = 0 := by decide
  have k1 : (1 : Int32).toInt = 1 := by decide
  have k2 : (2 : Int32).toInt = 2 := by decide
  have k3 : (3 : Int32).toInt = 3 := by decide
  have k128 : (128 : Int32).toInt = 128 := by decide
  have k191 : (191 : Int32).toInt = 191 := by decide
  have k194 : (194 : Int32).toInt = 194 := by decide
  have k224 : (224 : Int32).toInt = 224 := by decide
  have k240 : (240 : Int32).toInt = 240 := by decide
  have k245 : (245 : Int32).toInt = 245 := by decide
  have k237 : (237 : Int32).toInt = 237 := by decide
  have k244 : (244 : Int32).toInt = 244 := by decide
  have k160 : (160 : Int32).toInt = 160 := by decide
  have k159 : (159 : Int32).toInt = 159 := by decide
  have k144 : (144 : Int32).toInt = 144 := by decide
  have k143 : (143 : Int32).toInt = 143 := by decide
  refine hst (fun t₀ k₀ => XS.iloadN XI.here hx rfl (hb hby d3_0) rfl k₀) ?_
  show F s₁ (mkF m 1 #[.val (.ref a), .val (.int fv), .val (.int lv), .unset, .unset, .unset, .unset, .unset, .unset, .unset, .unset, .unset] [(.int fv)])
  refine hst (fun t₀ k₀ => XS.iloadN XI.here hx rfl (hb hby d3_1) rfl k₀) ?_
  show F s₁ (mkF m 2 #[.val (.ref a), .val (.int fv), .val (.int lv), .unset, .unset, .unset, .unset, .unset, .unset, .unset, .unset, .unset] [(.int lv), (.int fv)])
  refine hst (fun t₀ k₀ => XS.iadd XI.here hx rfl (hb hby d3_2) rfl k₀) ?_
  show F s₁ (mkF m 3 #[.val (.ref a), .val (.int fv), .val (.int lv), .unset, .unset, .unset, .unset, .unset, .unset, .unset, .unset, .unset] [(.int (fv + lv))])
  generalize hev : (fv + lv) = ev
  show F s₁ (mkF m 3 #[.val (.ref a), .val (.int fv), .val (.int lv), .unset, .unset, .unset, .unset, .unset, .unset, .unset, .unset, .unset] [(.int ev)])
  have he : ev.toInt = e' := by have h1 := c_iadd fv lv; have h2 := rng32 ev; rw [hev] at h1; omega
  refine hst (fun t₀ k₀ => XS.istoreN XI.here hx rfl (hb hby d3_3) rfl (l' := #[.val (.ref a), .val (.int fv), .val (.int lv), .val (.int ev), .unset, .unset, .unset, .unset, .unset, .unset, .unset, .unset]) rfl k₀) ?_
  show F s₁ (mkF m 4 #[.val (.ref a), .val (.int fv), .val (.int lv), .val (.int ev), .unset, .unset, .unset, .unset, .unset, .unset, .unset, .unset] [])
  refine hst (fun t₀ k₀ => XS.iconst XI.here hx rfl (hb hby d3_4) k₀) ?_
  show F s₁ (mkF m 5 #[.val (.ref a), .val (.int fv), .val (.int lv), .val (.int ev), .unset, .unset, .unset, .unset, .unset, .unset, .unset, .unset] [(.int (1 : Int32))])
  refine hst (fun t₀ k₀ => XS.istore XI.here hx rfl (hb hby d3_5) rfl (l' := #[.val (.ref a), .val (.int fv), .val (.int lv), .val (.int ev), .val (.int (1 : Int32)), .unset, .unset, .unset, .unset, .unset, .unset, .unset]) rfl k₀) ?_
  show F s₁ (mkF m 7 #[.val (.ref a), .val (.int fv), .val (.int lv), .val (.int ev), .val (.int (1 : Int32)), .unset, .unset, .unset, .unset, .unset, .unset, .unset] [])
  refine hst (fun t₀ k₀ => XS.iloadN XI.here hx rfl (hb hby d3_7) rfl k₀) ?_
  show F s₁ (mkF m 8 #[.val (.ref a), .val (.int fv), .val (.int lv), .val (.int ev), .val (.int (1 : Int32)), .unset, .unset, .unset, .unset, .unset, .unset, .unset] [(.int fv)])
  refine hst (fun t₀ k₀ => XS.istore XI.here hx rfl (hb hby d3_8) rfl (l' := #[.val (.ref a), .val (.int fv), .val (.int lv), .val (.int ev), .val (.int (1 : Int32)), .val (.int fv), .unset, .unset, .unset, .unset, .unset, .unset]) rfl k₀) ?_
  show F s₁ (mkF m 10 #[.val (.ref a), .val (.int fv), .val (.int lv), .val (.int ev), .val (.int (1 : Int32)), .val (.int fv), .unset, .unset, .unset, .unset, .unset, .unset] [])
  have lp : ∀ (k p' : Nat) (av : Int32) (s6 s7 s8 s9 s10 s11 : Slot), One s6 → One s7 → One s8 → One s9 → One s10 → One s11 → av.toInt = (p' : Int) → p' ≤ e' → e' - p' ≤ k → own_wf (own_B g) e' (k + 1) p' = own_wf (own_B g) e' 7 f' → F s₁ (mkF m 10 #[.val (.ref a), .val (.int fv), .val (.int lv), .val (.int ev), .val (.int (1 : Int32)), .val (.int av), s6, s7, s8, s9, s10, s11] []) := by
    intro k
    induction k using Nat.strongRecOn with
    | _ k ih =>
      intro p' av s6 s7 s8 s9 s10 s11 hs6 hs7 hs8 hs9 hs10 hs11 hav hpe hk hw'
      show F s₁ (mkF m 10 #[.val (.ref a), .val (.int fv), .val (.int lv), .val (.int ev), .val (.int (1 : Int32)), .val (.int av), s6, s7, s8, s9, s10, s11] [])
      refine hst (fun t₀ k₀ => XS.iload XI.here hx rfl (hb hby d3_10) rfl k₀) ?_
      show F s₁ (mkF m 12 #[.val (.ref a), .val (.int fv), .val (.int lv), .val (.int ev), .val (.int (1 : Int32)), .val (.int av), s6, s7, s8, s9, s10, s11] [(.int (1 : Int32))])
      refine hst (fun t₀ k₀ => XS.ifNo XI.here hx rfl (hb hby d3_12) rfl ((if0 _ _).trans (feq (by decide)).1) k₀) ?_
      show F s₁ (mkF m 15 #[.val (.ref a), .val (.int fv), .val (.int lv), .val (.int ev), .val (.int (1 : Int32)), .val (.int av), s6, s7, s8, s9, s10, s11] [])
      refine hst (fun t₀ k₀ => XS.iload XI.here hx rfl (hb hby d3_15) rfl k₀) ?_
      show F s₁ (mkF m 17 #[.val (.ref a), .val (.int fv), .val (.int lv), .val (.int ev), .val (.int (1 : Int32)), .val (.int av), s6, s7, s8, s9, s10, s11] [(.int av)])
      refine hst (fun t₀ k₀ => XS.iloadN XI.here hx rfl (hb hby d3_17) rfl k₀) ?_
      show F s₁ (mkF m 18 #[.val (.ref a), .val (.int fv), .val (.int lv), .val (.int ev), .val (.int (1 : Int32)), .val (.int av), s6, s7, s8, s9, s10, s11] [(.int ev), (.int av)])
      by_cases hc18 : av < ev
      · -- pc 18: not taken
        refine hst (fun t₀ k₀ => XS.icmpNo XI.here hx rfl (hb hby d3_18) rfl (tlt hc18).2.1 k₀) ?_
        show F s₁ (mkF m 21 #[.val (.ref a), .val (.int fv), .val (.int lv), .val (.int ev), .val (.int (1 : Int32)), .val (.int av), s6, s7, s8, s9, s10, s11] [])
        have q18 : p' < e' := by rw [own_lt32] at hc18; omega
        refine hst (fun t₀ k₀ => XS.aloadN XI.here hx rfl (hb hby d3_21) rfl rfl k₀) ?_
        show F s₁ (mkF m 22 #[.val (.ref a), .val (.int fv), .val (.int lv), .val (.int ev), .val (.int (1 : Int32)), .val (.int av), s6, s7, s8, s9, s10, s11] [(.ref a)])
        refine hst (fun t₀ k₀ => XS.iload XI.here hx rfl (hb hby d3_22) rfl k₀) ?_
        show F s₁ (mkF m 24 #[.val (.ref a), .val (.int fv), .val (.int lv), .val (.int ev), .val (.int (1 : Int32)), .val (.int av), s6, s7, s8, s9, s10, s11] [(.int av), (.ref a)])
        refine hst (fun t₀ k₀ => own_baload XI hx hZ eI Ar (own_idx av 6 (by omega) (by omega)) (v := (.int (g p'))) (by show Value.int (g av.toNatClampNeg) = _; rw [own_clamp av _ hav]) (g := (mkF m 24 #[.val (.ref a), .val (.int fv), .val (.int lv), .val (.int ev), .val (.int (1 : Int32)), .val (.int av), s6, s7, s8, s9, s10, s11] [(.int av), (.ref a)])) rfl rfl (hb hby d3_24) t₀ k₀) ?_
        show F s₁ (mkF m 25 #[.val (.ref a), .val (.int fv), .val (.int lv), .val (.int ev), .val (.int (1 : Int32)), .val (.int av), s6, s7, s8, s9, s10, s11] [(.int (g p'))])
        refine hst (fun t₀ k₀ => XS.sipush XI.here hx rfl (hb hby d3_25) k₀) ?_
        show F s₁ (mkF m 28 #[.val (.ref a), .val (.int fv), .val (.int lv), .val (.int ev), .val (.int (1 : Int32)), .val (.int av), s6, s7, s8, s9, s10, s11] [(.int (255 : Int32)), (.int (g p'))])
        refine hst (fun t₀ k₀ => XS.iand XI.here hx rfl (hb hby d3_28) rfl k₀) ?_
        show F s₁ (mkF m 29 #[.val (.ref a), .val (.int fv), .val (.int lv), .val (.int ev), .val (.int (1 : Int32)), .val (.int av), s6, s7, s8, s9, s10, s11] [(.int ((g p') &&& (255 : Int32)))])
        generalize hld : ((g p') &&& (255 : Int32)) = ld
        show F s₁ (mkF m 29 #[.val (.ref a), .val (.int fv), .val (.int lv), .val (.int ev), .val (.int (1 : Int32)), .val (.int av), s6, s7, s8, s9, s10, s11] [(.int ld)])
        obtain ⟨kld, kldb⟩ : ld.toInt = (own_B g p' : Int) ∧ own_B g p' < 256 := by rw [← hld]; exact own_byte g _
        refine hst (fun t₀ k₀ => XS.istoreS XI.here hx rfl (hb hby d3_29) rfl rfl hs6 k₀) ?_
        show F s₁ (mkF m 31 #[.val (.ref a), .val (.int fv), .val (.int lv), .val (.int ev), .val (.int (1 : Int32)), .val (.int av), .val (.int ld), s7, s8, s9, s10, s11] [])
        refine hst (fun t₀ k₀ => XS.iconst XI.here hx rfl (hb hby d3_31) k₀) ?_
        show F s₁ (mkF m 32 #[.val (.ref a), .val (.int fv), .val (.int lv), .val (.int ev), .val (.int (1 : Int32)), .val (.int av), .val (.int ld), s7, s8, s9, s10, s11] [(.int (0 : Int32))])
        refine hst (fun t₀ k₀ => XS.istoreS XI.here hx rfl (hb hby d3_32) rfl rfl hs7 k₀) ?_
        show F s₁ (mkF m 34 #[.val (.ref a), .val (.int fv), .val (.int lv), .val (.int ev), .val (.int (1 : Int32)), .val (.int av), .val (.int ld), .val (.int (0 : Int32)), s8, s9, s10, s11] [])
        refine hst (fun t₀ k₀ => XS.sipush XI.here hx rfl (hb hby d3_34) k₀) ?_
        show F s₁ (mkF m 37 #[.val (.ref a), .val (.int fv), .val (.int lv), .val (.int ev), .val (.int (1 : Int32)), .val (.int av), .val (.int ld), .val (.int (0 : Int32)), s8, s9, s10, s11] [(.int (128 : Int32))])
        refine hst (fun t₀ k₀ => XS.istoreS XI.here hx rfl (hb hby d3_37) rfl rfl hs8 k₀) ?_
        show F s₁ (mkF m 39 #[.val (.ref a), .val (.int fv), .val (.int lv), .val (.int ev), .val (.int (1 : Int32)), .val (.int av), .val (.int ld), .val (.int (0 : Int32)), .val (.int (128 : Int32)), s9, s10, s11] [])
        refine hst (fun t₀ k₀ => XS.sipush XI.here hx rfl (hb hby d3_39) k₀) ?_
        show F s₁ (mkF m 42 #[.val (.ref a), .val (.int fv), .val (.int lv), .val (.int ev), .val (.int (1 : Int32)), .val (.int av), .val (.int ld), .val (.int (0 : Int32)), .val (.int (128 : Int32)), s9, s10, s11] [(.int (191 : Int32))])
        refine hst (fun t₀ k₀ => XS.istoreS XI.here hx rfl (hb hby d3_42) rfl rfl hs9 k₀) ?_
        show F s₁ (mkF m 44 #[.val (.ref a), .val (.int fv), .val (.int lv), .val (.int ev), .val (.int (1 : Int32)), .val (.int av), .val (.int ld), .val (.int (0 : Int32)), .val (.int (128 : Int32)), .val (.int (191 : Int32)), s10, s11] [])
        have J199 : ∀ (fm fw ls ms : Int32), own_cls (own_B g p') fm fw ls ms → F s₁ (mkF m 199 #[.val (.ref a), .val (.int fv), .val (.int lv), .val (.int ev), .val (.int fm), .val (.int av), .val (.int ld), .val (.int fw), .val (.int ls), .val (.int ms), s10, s11] []) := by
          intro fm fw ls ms hcase
          rcases hcase with ⟨rfl, rfl, hl, hm, hB⟩ | ⟨rfl, rfl, hl, hm, hB⟩ | ⟨rfl, rfl, hl, hm, hB⟩ | ⟨rfl, rfl, hl, hm, hB⟩ | ⟨rfl, rfl, hl, hm, hB⟩
          · -- follow 0
            show F s₁ (mkF m 199 #[.val (.ref a), .val (.int fv), .val (.int lv), .val (.int ev), .val (.int (1 : Int32)), .val (.int av), .val (.int ld), .val (.int (0 : Int32)), .val (.int ls), .val (.int ms), s10, s11] [])
            refine hst (fun t₀ k₀ => XS.iload XI.here hx rfl (hb hby d3_199) rfl k₀) ?_
            show F s₁ (mkF m 201 #[.val (.ref a), .val (.int fv), .val (.int lv), .val (.int ev), .val (.int (1 : Int32)), .val (.int av), .val (.int ld), .val (.int (0 : Int32)), .val (.int ls), .val (.int ms), s10, s11] [(.int (1 : Int32))])
            refine hst (fun t₀ k₀ => XS.iloadN XI.here hx rfl (hb hby d3_201) rfl k₀) ?_
            show F s₁ (mkF m 202 #[.val (.ref a), .val (.int fv), .val (.int lv), .val (.int ev), .val (.int (1 : Int32)), .val (.int av), .val (.int ld), .val (.int (0 : Int32)), .val (.int ls), .val (.int ms), s10, s11] [(.int ev), (.int (1 : Int32))])
            refine hst (fun t₀ k₀ => XS.iload XI.here hx rfl (hb hby d3_202) rfl k₀) ?_
            show F s₁ (mkF m 204 #[.val (.ref a), .val (.int fv), .val (.int lv), .val (.int ev), .val (.int (1 : Int32)), .val (.int av), .val (.int ld), .val (.int (0 : Int32)), .val (.int ls), .val (.int ms), s10, s11] [(.int av), (.int ev), (.int (1 : Int32))])
            refine hst (fun t₀ k₀ => XS.isub XI.here hx rfl (hb hby d3_204) rfl k₀) ?_
            show F s₁ (mkF m 205 #[.val (.ref a), .val (.int fv), .val (.int lv), .val (.int ev), .val (.int (1 : Int32)), .val (.int av), .val (.int ld), .val (.int (0 : Int32)), .val (.int ls), .val (.int ms), s10, s11] [(.int (ev - av)), (.int (1 : Int32))])
            generalize hdf : (ev - av) = df
            show F s₁ (mkF m 205 #[.val (.ref a), .val (.int fv), .val (.int lv), .val (.int ev), .val (.int (1 : Int32)), .val (.int av), .val (.int ld), .val (.int (0 : Int32)), .val (.int ls), .val (.int ms), s10, s11] [(.int df), (.int (1 : Int32))])
            have kdf : df.toInt = (e' : Int) - p' := by have h1 := c_isub ev av; have h2 := rng32 df; rw [hdf] at h1; omega
            refine hst (fun t₀ k₀ => XS.iload XI.here hx rfl (hb hby d3_205) rfl k₀) ?_
            show F s₁ (mkF m 207 #[.val (.ref a), .val (.int fv), .val (.int lv), .val (.int ev), .val (.int (1 : Int32)), .val (.int av), .val (.int ld), .val (.int (0 : Int32)), .val (.int ls), .val (.int ms), s10, s11] [(.int (0 : Int32)), (.int df), (.int (1 : Int32))])
            by_cases hc207 : (0 : Int32) < df
            · -- pc 207: not taken
              refine hst (fun t₀ k₀ => XS.icmpNo XI.here hx rfl (hb hby d3_207) rfl (tlt hc207).2.2.2 k₀) ?_
              show F s₁ (mkF m 210 #[.val (.ref a), .val (.int fv), .val (.int lv), .val (.int ev), .val (.int (1 : Int32)), .val (.int av), .val (.int ld), .val (.int (0 : Int32)), .val (.int ls), .val (.int ms), s10, s11] [(.int (1 : Int32))])
              refine hst (fun t₀ k₀ => XS.iconst XI.here hx rfl (hb hby d3_210) k₀) ?_
              show F s₁ (mkF m 211 #[.val (.ref a), .val (.int fv), .val (.int lv), .val (.int ev), .val (.int (1 : Int32)), .val (.int av), .val (.int ld), .val (.int (0 : Int32)), .val (.int ls), .val (.int ms), s10, s11] [(.int (1 : Int32)), (.int (1 : Int32))])
              refine hst (fun t₀ k₀ => XS.goto XI.here hx rfl (pc0 := 211) (pc' := 215) rfl (hb hby d3_211) (by decide) (by decide) k₀) ?_
              show F s₁ (mkF m 215 #[.val (.ref a), .val (.int fv), .val (.int lv), .val (.int ev), .val (.int (1 : Int32)), .val (.int av), .val (.int ld), .val (.int (0 : Int32)), .val (.int ls), .val (.int ms), s10, s11] [(.int (1 : Int32)), (.int (1 : Int32))])
              refine hst (fun t₀ k₀ => XS.iand XI.here hx rfl (hb hby d3_215) rfl k₀) ?_
              show F s₁ (mkF m 216 #[.val (.ref a), .val (.int fv), .val (.int lv), .val (.int ev), .val (.int (1 : Int32)), .val (.int av), .val (.int ld), .val (.int (0 : Int32)), .val (.int ls), .val (.int ms), s10, s11] [(.int ((1 : Int32) &&& (1 : Int32)))])
              show F s₁ (mkF m 216 #[.val (.ref a), .val (.int fv), .val (.int lv), .val (.int ev), .val (.int (1 : Int32)), .val (.int av), .val (.int ld), .val (.int (0 : Int32)), .val (.int ls), .val (.int ms), s10, s11] [(.int (1 : Int32))])
              refine hst (fun t₀ k₀ => XS.istore XI.here hx rfl (hb hby d3_216) rfl (l' := #[.val (.ref a), .val (.int fv), .val (.int lv), .val (.int ev), .val (.int (1 : Int32)), .val (.int av), .val (.int ld), .val (.int (0 : Int32)), .val (.int ls), .val (.int ms), s10, s11]) rfl k₀) ?_
              show F s₁ (mkF m 218 #[.val (.ref a), .val (.int fv), .val (.int lv), .val (.int ev), .val (.int (1 : Int32)), .val (.int av), .val (.int ld), .val (.int (0 : Int32)), .val (.int ls), .val (.int ms), s10, s11] [])
              refine hst (fun t₀ k₀ => XS.iconst XI.here hx rfl (hb hby d3_218) k₀) ?_
              show F s₁ (mkF m 219 #[.val (.ref a), .val (.int fv), .val (.int lv), .val (.int ev), .val (.int (1 : Int32)), .val (.int av), .val (.int ld), .val (.int (0 : Int32)), .val (.int ls), .val (.int ms), s10, s11] [(.int (1 : Int32))])
              refine hst (fun t₀ k₀ => XS.istoreS XI.here hx rfl (hb hby d3_219) rfl rfl hs10 k₀) ?_
              show F s₁ (mkF m 221 #[.val (.ref a), .val (.int fv), .val (.int lv), .val (.int ev), .val (.int (1 : Int32)), .val (.int av), .val (.int ld), .val (.int (0 : Int32)), .val (.int ls), .val (.int ms), .val (.int (1 : Int32)), s11] [])
              refine hst (fun t₀ k₀ => XS.iload XI.here hx rfl (hb hby d3_221) rfl k₀) ?_
              show F s₁ (mkF m 223 #[.val (.ref a), .val (.int fv), .val (.int lv), .val (.int ev), .val (.int (1 : Int32)), .val (.int av), .val (.int ld), .val (.int (0 : Int32)), .val (.int ls), .val (.int ms), .val (.int (1 : Int32)), s11] [(.int (1 : Int32))])
              refine hst (fun t₀ k₀ => XS.ifNo XI.here hx rfl (hb hby d3_223) rfl ((if0 _ _).trans (feq (by decide)).1) k₀) ?_
              show F s₁ (mkF m 226 #[.val (.ref a), .val (.int fv), .val (.int lv), .val (.int ev), .val (.int (1 : Int32)), .val (.int av), .val (.int ld), .val (.int (0 : Int32)), .val (.int ls), .val (.int ms), .val (.int (1 : Int32)), s11] [])
              refine hst (fun t₀ k₀ => XS.iload XI.here hx rfl (hb hby d3_226) rfl k₀) ?_
              show F s₁ (mkF m 228 #[.val (.ref a), .val (.int fv), .val (.int lv), .val (.int ev), .val (.int (1 : Int32)), .val (.int av), .val (.int ld), .val (.int (0 : Int32)), .val (.int ls), .val (.int ms), .val (.int (1 : Int32)), s11] [(.int (1 : Int32))])
              refine hst (fun t₀ k₀ => XS.iload XI.here hx rfl (hb hby d3_228) rfl k₀) ?_
              show F s₁ (mkF m 230 #[.val (.ref a), .val (.int fv), .val (.int lv), .val (.int ev), .val (.int (1 : Int32)), .val (.int av), .val (.int ld), .val (.int (0 : Int32)), .val (.int ls), .val (.int ms), .val (.int (1 : Int32)), s11] [(.int (0 : Int32)), (.int (1 : Int32))])
              refine hst (fun t₀ k₀ => XS.icmpYes XI.here hx rfl (pc0 := 230) (pc' := 299) rfl (hb hby d3_230) rfl (tlt (by decide)).2.2.1 (by decide) (by decide) k₀) ?_
              show F s₁ (mkF m 299 #[.val (.ref a), .val (.int fv), .val (.int lv), .val (.int ev), .val (.int (1 : Int32)), .val (.int av), .val (.int ld), .val (.int (0 : Int32)), .val (.int ls), .val (.int ms), .val (.int (1 : Int32)), s11] [])
              refine hst (fun t₀ k₀ => XS.iload XI.here hx rfl (hb hby d3_299) rfl k₀) ?_
              show F s₁ (mkF m 301 #[.val (.ref a), .val (.int fv), .val (.int lv), .val (.int ev), .val (.int (1 : Int32)), .val (.int av), .val (.int ld), .val (.int (0 : Int32)), .val (.int ls), .val (.int ms), .val (.int (1 : Int32)), s11] [(.int av)])
              refine hst (fun t₀ k₀ => XS.iload XI.here hx rfl (hb hby d3_301) rfl k₀) ?_
              show F s₁ (mkF m 303 #[.val (.ref a), .val (.int fv), .val (.int lv), .val (.int ev), .val (.int (1 : Int32)), .val (.int av), .val (.int ld), .val (.int (0 : Int32)), .val (.int ls), .val (.int ms), .val (.int (1 : Int32)), s11] [(.int (0 : Int32)), (.int av)])
              refine hst (fun t₀ k₀ => XS.iconst XI.here hx rfl (hb hby d3_303) k₀) ?_
              show F s₁ (mkF m 304 #[.val (.ref a), .val (.int fv), .val (.int lv), .val (.int ev), .val (.int (1 : Int32)), .val (.int av), .val (.int ld), .val (.int (0 : Int32)), .val (.int ls), .val (.int ms), .val (.int (1 : Int32)), s11] [(.int (1 : Int32)), (.int (0 : Int32)), (.int av)])
              refine hst (fun t₀ k₀ => XS.iadd XI.here hx rfl (hb hby d3_304) rfl k₀) ?_
              show F s₁ (mkF m 305 #[.val (.ref a), .val (.int fv), .val (.int lv), .val (.int ev), .val (.int (1 : Int32)), .val (.int av), .val (.int ld), .val (.int (0 : Int32)), .val (.int ls), .val (.int ms), .val (.int (1 : Int32)), s11] [(.int ((0 : Int32) + (1 : Int32))), (.int av)])
              refine hst (fun t₀ k₀ => XS.iadd XI.here hx rfl (hb hby d3_305) rfl k₀) ?_
              show F s₁ (mkF m 306 #[.val (.ref a), .val (.int fv), .val (.int lv), .val (.int ev), .val (.int (1 : Int32)), .val (.int av), .val (.int ld), .val (.int (0 : Int32)), .val (.int ls), .val (.int ms), .val (.int (1 : Int32)), s11] [(.int (av + ((0 : Int32) + (1 : Int32))))])
              generalize hat' : (av + ((0 : Int32) + (1 : Int32))) = at'
              show F s₁ (mkF m 306 #[.val (.ref a), .val (.int fv), .val (.int lv), .val (.int ev), .val (.int (1 : Int32)), .val (.int av), .val (.int ld), .val (.int (0 : Int32)), .val (.int ls), .val (.int ms), .val (.int (1 : Int32)), s11] [(.int at')])
              have kat : at'.toInt = ((p' + 1 : Nat) : Int) := by have h1 := c_iadd 0 1; have h2 := rng32 (0 + 1); have h3 := c_iadd av (0 + 1); have h4 := rng32 at'; rw [hat'] at h3; omega
              refine hst (fun t₀ k₀ => XS.istore XI.here hx rfl (hb hby d3_306) rfl (l' := #[.val (.ref a), .val (.int fv), .val (.int lv), .val (.int ev), .val (.int (1 : Int32)), .val (.int at'), .val (.int ld), .val (.int (0 : Int32)), .val (.int ls), .val (.int ms), .val (.int (1 : Int32)), s11]) rfl k₀) ?_
              show F s₁ (mkF m 308 #[.val (.ref a), .val (.int fv), .val (.int lv), .val (.int ev), .val (.int (1 : Int32)), .val (.int at'), .val (.int ld), .val (.int (0 : Int32)), .val (.int ls), .val (.int ms), .val (.int (1 : Int32)), s11] [])
              refine hst (fun t₀ k₀ => XS.goto XI.here hx rfl (pc0 := 308) (pc' := 10) rfl (hb hby d3_308) (by decide) (by decide) k₀) ?_
              show F s₁ (mkF m 10 #[.val (.ref a), .val (.int fv), .val (.int lv), .val (.int ev), .val (.int (1 : Int32)), .val (.int at'), .val (.int ld), .val (.int (0 : Int32)), .val (.int ls), .val (.int ms), .val (.int (1 : Int32)), s11] [])
              simp only [own_lt32, own_eq32] at hc207
              have hcl : own_cl (own_B g) p' e' = 1 := by
                unfold own_cl; (repeat' split) <;> omega
              obtain ⟨k', rfl⟩ : ∃ k', k = k' + 1 := ⟨k - 1, by omega⟩
              exact ih k' (by omega) (p' + 1) _ _ _ _ _ _ _ (One.val rfl) (One.val rfl) (One.val rfl) (One.val rfl) (One.val rfl) hs11 (by rw [kat]) (by omega) (by omega) (by rw [← hw', own_wf_step (own_B g) e' _ p' _ q18 hcl (by decide)])
            · -- pc 207: taken
              refine hst (fun t₀ k₀ => XS.icmpYes XI.here hx rfl (pc0 := 207) (pc' := 214) rfl (hb hby d3_207) rfl (flt hc207).2.2.2 (by decide) (by decide) k₀) ?_
              show F s₁ (mkF m 214 #[.val (.ref a), .val (.int fv), .val (.int lv), .val (.int ev), .val (.int (1 : Int32)), .val (.int av), .val (.int ld), .val (.int (0 : Int32)), .val (.int ls), .val (.int ms), s10, s11] [(.int (1 : Int32))])
              refine hst (fun t₀ k₀ => XS.iconst XI.here hx rfl (hb hby d3_214) k₀) ?_
              show F s₁ (mkF m 215 #[.val (.ref a), .val (.int fv), .val (.int lv), .val (.int ev), .val (.int (1 : Int32)), .val (.int av), .val (.int ld), .val (.int (0 : Int32)), .val (.int ls), .val (.int ms), s10, s11] [(.int (0 : Int32)), (.int (1 : Int32))])
              refine hst (fun t₀ k₀ => XS.iand XI.here hx rfl (hb hby d3_215) rfl k₀) ?_
              show F s₁ (mkF m 216 #[.val (.ref a), .val (.int fv), .val (.int lv), .val (.int ev), .val (.int (1 : Int32)), .val (.int av), .val (.int ld), .val (.int (0 : Int32)), .val (.int ls), .val (.int ms), s10, s11] [(.int ((1 : Int32) &&& (0 : Int32)))])
              show F s₁ (mkF m 216 #[.val (.ref a), .val (.int fv), .val (.int lv), .val (.int ev), .val (.int (1 : Int32)), .val (.int av), .val (.int ld), .val (.int (0 : Int32)), .val (.int ls), .val (.int ms), s10, s11] [(.int (0 : Int32))])
              refine hst (fun t₀ k₀ => XS.istore XI.here hx rfl (hb hby d3_216) rfl (l' := #[.val (.ref a), .val (.int fv), .val (.int lv), .val (.int ev), .val (.int (0 : Int32)), .val (.int av), .val (.int ld), .val (.int (0 : Int32)), .val (.int ls), .val (.int ms), s10, s11]) rfl k₀) ?_
              show F s₁ (mkF m 218 #[.val (.ref a), .val (.int fv), .val (.int lv), .val (.int ev), .val (.int (0 : Int32)), .val (.int av), .val (.int ld), .val (.int (0 : Int32)), .val (.int ls), .val (.int ms), s10, s11] [])
              refine hst (fun t₀ k₀ => XS.iconst XI.here hx rfl (hb hby d3_218) k₀) ?_
              show F s₁ (mkF m 219 #[.val (.ref a), .val (.int fv), .val (.int lv), .val (.int ev), .val (.int (0 : Int32)), .val (.int av), .val (.int ld), .val (.int (0 : Int32)), .val (.int ls), .val (.int ms), s10, s11] [(.int (1 : Int32))])
              refine hst (fun t₀ k₀ => XS.istoreS XI.here hx rfl (hb hby d3_219) rfl rfl hs10 k₀) ?_
              show F s₁ (mkF m 221 #[.val (.ref a), .val (.int fv), .val (.int lv), .val (.int ev), .val (.int (0 : Int32)), .val (.int av), .val (.int ld), .val (.int (0 : Int32)), .val (.int ls), .val (.int ms), .val (.int (1 : Int32)), s11] [])
              refine hst (fun t₀ k₀ => XS.iload XI.here hx rfl (hb hby d3_221) rfl k₀) ?_
              show F s₁ (mkF m 223 #[.val (.ref a), .val (.int fv), .val (.int lv), .val (.int ev), .val (.int (0 : Int32)), .val (.int av), .val (.int ld), .val (.int (0 : Int32)), .val (.int ls), .val (.int ms), .val (.int (1 : Int32)), s11] [(.int (0 : Int32))])
              refine hst (fun t₀ k₀ => XS.ifYes XI.here hx rfl (pc0 := 223) (pc' := 299) rfl (hb hby d3_223) rfl ((if0 _ _).trans (teq (by decide)).1) (by decide) (by decide) k₀) ?_
              show F s₁ (mkF m 299 #[.val (.ref a), .val (.int fv), .val (.int lv), .val (.int ev), .val (.int (0 : Int32)), .val (.int av), .val (.int ld), .val (.int (0 : Int32)), .val (.int ls), .val (.int ms), .val (.int (1 : Int32)), s11] [])
              refine hst (fun t₀ k₀ => XS.iload XI.here hx rfl (hb hby d3_299) rfl k₀) ?_
              show F s₁ (mkF m 301 #[.val (.ref a), .val (.int fv), .val (.int lv), .val (.int ev), .val (.int (0 : Int32)), .val (.int av), .val (.int ld), .val (.int (0 : Int32)), .val (.int ls), .val (.int ms), .val (.int (1 : Int32)), s11] [(.int av)])
              refine hst (fun t₀ k₀ => XS.iload XI.here hx rfl (hb hby d3_301) rfl k₀) ?_
              show F s₁ (mkF m 303 #[.val (.ref a), .val (.int fv), .val (.int lv), .val (.int ev), .val (.int (0 : Int32)), .val (.int av), .val (.int ld), .val (.int (0 : Int32)), .val (.int ls), .val (.int ms), .val (.int (1 : Int32)), s11] [(.int (0 : Int32)), (.int av)])
              refine hst (fun t₀ k₀ => XS.iconst XI.here hx rfl (hb hby d3_303) k₀) ?_
              show F s₁ (mkF m 304 #[.val (.ref a), .val (.int fv), .val (.int lv), .val (.int ev), .val (.int (0 : Int32)), .val (.int av), .val (.int ld), .val (.int (0 : Int32)), .val (.int ls), .val (.int ms), .val (.int (1 : Int32)), s11] [(.int (1 : Int32)), (.int (0 : Int32)), (.int av)])
              refine hst (fun t₀ k₀ => XS.iadd XI.here hx rfl (hb hby d3_304) rfl k₀) ?_
              show F s₁ (mkF m 305 #[.val (.ref a), .val (.int fv), .val (.int lv), .val (.int ev), .val (.int (0 : Int32)), .val (.int av), .val (.int ld), .val (.int (0 : Int32)), .val (.int ls), .val (.int ms), .val (.int (1 : Int32)), s11] [(.int ((0 : Int32) + (1 : Int32))), (.int av)])
              refine hst (fun t₀ k₀ => XS.iadd XI.here hx rfl (hb hby d3_305) rfl k₀) ?_
              show F s₁ (mkF m 306 #[.val (.ref a), .val (.int fv), .val (.int lv), .val (.int ev), .val (.int (0 : Int32)), .val (.int av), .val (.int ld), .val (.int (0 : Int32)), .val (.int ls), .val (.int ms), .val (.int (1 : Int32)), s11] [(.int (av + ((0 : Int32) + (1 : Int32))))])
              generalize hat' : (av + ((0 : Int32) + (1 : Int32))) = at'
              show F s₁ (mkF m 306 #[.val (.ref a), .val (.int fv), .val (.int lv), .val (.int ev), .val (.int (0 : Int32)), .val (.int av), .val (.int ld), .val (.int (0 : Int32)), .val (.int ls), .val (.int ms), .val (.int (1 : Int32)), s11] [(.int at')])
              have kat : at'.toInt = ((p' + 1 : Nat) : Int) := by have h1 := c_iadd 0 1; have h2 := rng32 (0 + 1); have h3 := c_iadd av (0 + 1); have h4 := rng32 at'; rw [hat'] at h3; omega
              refine hst (fun t₀ k₀ => XS.istore XI.here hx rfl (hb hby d3_306) rfl (l' := #[.val (.ref a), .val (.int fv), .val (.int lv), .val (.int ev), .val (.int (0 : Int32)), .val (.int at'), .val (.int ld), .val (.int (0 : Int32)), .val (.int ls), .val (.int ms), .val (.int (1 : Int32)), s11]) rfl k₀) ?_
              show F s₁ (mkF m 308 #[.val (.ref a), .val (.int fv), .val (.int lv), .val (.int ev), .val (.int (0 : Int32)), .val (.int at'), .val (.int ld), .val (.int (0 : Int32)), .val (.int ls), .val (.int ms), .val (.int (1 : Int32)), s11] [])
              refine hst (fun t₀ k₀ => XS.goto XI.here hx rfl (pc0 := 308) (pc' := 10) rfl (hb hby d3_308) (by decide) (by decide) k₀) ?_
              show F s₁ (mkF m 10 #[.val (.ref a), .val (.int fv), .val (.int lv), .val (.int ev), .val (.int (0 : Int32)), .val (.int at'), .val (.int ld), .val (.int (0 : Int32)), .val (.int ls), .val (.int ms), .val (.int (1 : Int32)), s11] [])
              show F s₁ (mkF m 10 #[.val (.ref a), .val (.int fv), .val (.int lv), .val (.int ev), .val (.int (0 : Int32)), .val (.int at'), .val (.int ld), .val (.int (0 : Int32)), .val (.int ls), .val (.int ms), .val (.int (1 : Int32)), s11] [])
              refine hst (fun t₀ k₀ => XS.iload XI.here hx rfl (hb hby d3_10) rfl k₀) ?_
              show F s₁ (mkF m 12 #[.val (.ref a), .val (.int fv), .val (.int lv), .val (.int ev), .val (.int (0 : Int32)), .val (.int at'), .val (.int ld), .val (.int (0 : Int32)), .val (.int ls), .val (.int ms), .val (.int (1 : Int32)), s11] [(.int (0 : Int32))])
              refine hst (fun t₀ k₀ => XS.ifYes XI.here hx rfl (pc0 := 12) (pc' := 311) rfl (hb hby d3_12) rfl ((if0 _ _).trans (teq (by decide)).1) (by decide) (by decide) k₀) ?_
              show F s₁ (mkF m 311 #[.val (.ref a), .val (.int fv), .val (.int lv), .val (.int ev), .val (.int (0 : Int32)), .val (.int at'), .val (.int ld), .val (.int (0 : Int32)), .val (.int ls), .val (.int ms), .val (.int (1 : Int32)), s11] [])
              refine hst (fun t₀ k₀ => XS.iload XI.here hx rfl (hb hby d3_311) rfl k₀) ?_
              show F s₁ (mkF m 313 #[.val (.ref a), .val (.int fv), .val (.int lv), .val (.int ev), .val (.int (0 : Int32)), .val (.int at'), .val (.int ld), .val (.int (0 : Int32)), .val (.int ls), .val (.int ms), .val (.int (1 : Int32)), s11] [(.int (0 : Int32))])
              rw [hF]
              refine own_retN XI hx hret (by simp) hlk (hb hby d3_313) (by decide) (by decide) ?_
              simp only [own_lt32, own_eq32] at hc207
              have hcl : own_cl (own_B g) p' e' = 0 := by
                unfold own_cl; (repeat' split) <;> omega
              obtain ⟨k', rfl⟩ : ∃ k', k = k' + 1 := ⟨k - 1, by omega⟩
              rw [eI]
              exact ⟨(by rw [← hw', own_wf_bad (own_B g) e' _ p' q18 hcl]; rfl), NI, rfl⟩
          · -- follow 1
            show F s₁ (mkF m 199 #[.val (.ref a), .val (.int fv), .val (.int lv), .val (.int ev), .val (.int (1 : Int32)), .val (.int av), .val (.int ld), .val (.int (1 : Int32)), .val (.int ls), .val (.int ms), s10, s11] [])
            refine hst (fun t₀ k₀ => XS.iload XI.here hx rfl (hb hby d3_199) rfl k₀) ?_
            show F s₁ (mkF m 201 #[.val (.ref a), .val (.int fv), .val (.int lv), .val (.int ev), .val (.int (1 : Int32)), .val (.int av), .val (.int ld), .val (.int (1 : Int32)), .val (.int ls), .val (.int ms), s10, s11] [(.int (1 : Int32))])
            refine hst (fun t₀ k₀ => XS.iloadN XI.here hx rfl (hb hby d3_201) rfl k₀) ?_
            show F s₁ (mkF m 202 #[.val (.ref a), .val (.int fv), .val (.int lv), .val (.int ev), .val (.int (1 : Int32)), .val (.int av), .val (.int ld), .val (.int (1 : Int32)), .val (.int ls), .val (.int ms), s10, s11] [(.int ev), (.int (1 : Int32))])
            refine hst (fun t₀ k₀ => XS.iload XI.here hx rfl (hb hby d3_202) rfl k₀) ?_
            show F s₁ (mkF m 204 #[.val (.ref a), .val (.int fv), .val (.int lv), .val (.int ev), .val (.int (1 : Int32)), .val (.int av), .val (.int ld), .val (.int (1 : Int32)), .val (.int ls), .val (.int ms), s10, s11] [(.int av), (.int ev), (.int (1 : Int32))])
            refine hst (fun t₀ k₀ => XS.isub XI.here hx rfl (hb hby d3_204) rfl k₀) ?_
            show F s₁ (mkF m 205 #[.val (.ref a), .val (.int fv), .val (.int lv), .val (.int ev), .val (.int (1 : Int32)), .val (.int av), .val (.int ld), .val (.int (1 : Int32)), .val (.int ls), .val (.int ms), s10, s11] [(.int (ev - av)), (.int (1 : Int32))])
            generalize hdf : (ev - av) = df
            show F s₁ (mkF m 205 #[.val (.ref a), .val (.int fv), .val (.int lv), .val (.int ev), .val (.int (1 : Int32)), .val (.int av), .val (.int ld), .val (.int (1 : Int32)), .val (.int ls), .val (.int ms), s10, s11] [(.int df), (.int (1 : Int32))])
            have kdf : df.toInt = (e' : Int) - p' := by have h1 := c_isub ev av; have h2 := rng32 df; rw [hdf] at h1; omega
            refine hst (fun t₀ k₀ => XS.iload XI.here hx rfl (hb hby d3_205) rfl k₀) ?_
            show F s₁ (mkF m 207 #[.val (.ref a), .val (.int fv), .val (.int lv), .val (.int ev), .val (.int (1 : Int32)), .val (.int av), .val (.int ld), .val (.int (1 : Int32)), .val (.int ls), .val (.int ms), s10, s11] [(.int (1 : Int32)), (.int df), (.int (1 : Int32))])
            by_cases hc207 : (1 : Int32) < df
            · -- pc 207: not taken
              refine hst (fun t₀ k₀ => XS.icmpNo XI.here hx rfl (hb hby d3_207) rfl (tlt hc207).2.2.2 k₀) ?_
              show F s₁ (mkF m 210 #[.val (.ref a), .val (.int fv), .val (.int lv), .val (.int ev), .val (.int (1 : Int32)), .val (.int av), .val (.int ld), .val (.int (1 : Int32)), .val (.int ls), .val (.int ms), s10, s11] [(.int (1 : Int32))])
              refine hst (fun t₀ k₀ => XS.iconst XI.here hx rfl (hb hby d3_210) k₀) ?_
              show F s₁ (mkF m 211 #[.val (.ref a), .val (.int fv), .val (.int lv), .val (.int ev), .val (.int (1 : Int32)), .val (.int av), .val (.int ld), .val (.int (1 : Int32)), .val (.int ls), .val (.int ms), s10, s11] [(.int (1 : Int32)), (.int (1 : Int32))])
              refine hst (fun t₀ k₀ => XS.goto XI.here hx rfl (pc0 := 211) (pc' := 215) rfl (hb hby d3_211) (by decide) (by decide) k₀) ?_
              show F s₁ (mkF m 215 #[.val (.ref a), .val (.int fv), .val (.int lv), .val (.int ev), .val (.int (1 : Int32)), .val (.int av), .val (.int ld), .val (.int (1 : Int32)), .val (.int ls), .val (.int ms), s10, s11] [(.int (1 : Int32)), (.int (1 : Int32))])
              refine hst (fun t₀ k₀ => XS.iand XI.here hx rfl (hb hby d3_215) rfl k₀) ?_
              show F s₁ (mkF m 216 #[.val (.ref a), .val (.int fv), .val (.int lv), .val (.int ev), .val (.int (1 : Int32)), .val (.int av), .val (.int ld), .val (.int (1 : Int32)), .val (.int ls), .val (.int ms), s10, s11] [(.int ((1 : Int32) &&& (1 : Int32)))])
              show F s₁ (mkF m 216 #[.val (.ref a), .val (.int fv), .val (.int lv), .val (.int ev), .val (.int (1 : Int32)), .val (.int av), .val (.int ld), .val (.int (1 : Int32)), .val (.int ls), .val (.int ms), s10, s11] [(.int (1 : Int32))])
              refine hst (fun t₀ k₀ => XS.istore XI.here hx rfl (hb hby d3_216) rfl (l' := #[.val (.ref a), .val (.int fv), .val (.int lv), .val (.int ev), .val (.int (1 : Int32)), .val (.int av), .val (.int ld), .val (.int (1 : Int32)), .val (.int ls), .val (.int ms), s10, s11]) rfl k₀) ?_
              show F s₁ (mkF m 218 #[.val (.ref a), .val (.int fv), .val (.int lv), .val (.int ev), .val (.int (1 : Int32)), .val (.int av), .val (.int ld), .val (.int (1 : Int32)), .val (.int ls), .val (.int ms), s10, s11] [])
              refine hst (fun t₀ k₀ => XS.iconst XI.here hx rfl (hb hby d3_218) k₀) ?_
              show F s₁ (mkF m 219 #[.val (.ref a), .val (.int fv), .val (.int lv), .val (.int ev), .val (.int (1 : Int32)), .val (.int av), .val (.int ld), .val (.int (1 : Int32)), .val (.int ls), .val (.int ms), s10, s11] [(.int (1 : Int32))])
              refine hst (fun t₀ k₀ => XS.istoreS XI.here hx rfl (hb hby d3_219) rfl rfl hs10 k₀) ?_
              show F s₁ (mkF m 221 #[.val (.ref a), .val (.int fv), .val (.int lv), .val (.int ev), .val (.int (1 : Int32)), .val (.int av), .val (.int ld), .val (.int (1 : Int32)), .val (.int ls), .val (.int ms), .val (.int (1 : Int32)), s11] [])
              refine hst (fun t₀ k₀ => XS.iload XI.here hx rfl (hb hby d3_221) rfl k₀) ?_
              show F s₁ (mkF m 223 #[.val (.ref a), .val (.int fv), .val (.int lv), .val (.int ev), .val (.int (1 : Int32)), .val (.int av), .val (.int ld), .val (.int (1 : Int32)), .val (.int ls), .val (.int ms), .val (.int (1 : Int32)), s11] [(.int (1 : Int32))])
              refine hst (fun t₀ k₀ => XS.ifNo XI.here hx rfl (hb hby d3_223) rfl ((if0 _ _).trans (feq (by decide)).1) k₀) ?_
              show F s₁ (mkF m 226 #[.val (.ref a), .val (.int fv), .val (.int lv), .val (.int ev), .val (.int (1 : Int32)), .val (.int av), .val (.int ld), .val (.int (1 : Int32)), .val (.int ls), .val (.int ms), .val (.int (1 : Int32)), s11] [])
              refine hst (fun t₀ k₀ => XS.iload XI.here hx rfl (hb hby d3_226) rfl k₀) ?_
              show F s₁ (mkF m 228 #[.val (.ref a), .val (.int fv), .val (.int lv), .val (.int ev), .val (.int (1 : Int32)), .val (.int av), .val (.int ld), .val (.int (1 : Int32)), .val (.int ls), .val (.int ms), .val (.int (1 : Int32)), s11] [(.int (1 : Int32))])
              refine hst (fun t₀ k₀ => XS.iload XI.here hx rfl (hb hby d3_228) rfl k₀) ?_
              show F s₁ (mkF m 230 #[.val (.ref a), .val (.int fv), .val (.int lv), .val (.int ev), .val (.int (1 : Int32)), .val (.int av), .val (.int ld), .val (.int (1 : Int32)), .val (.int ls), .val (.int ms), .val (.int (1 : Int32)), s11] [(.int (1 : Int32)), (.int (1 : Int32))])
              refine hst (fun t₀ k₀ => XS.icmpNo XI.here hx rfl (hb hby d3_230) rfl (flt (by decide)).2.2.1 k₀) ?_
              show F s₁ (mkF m 233 #[.val (.ref a), .val (.int fv), .val (.int lv), .val (.int ev), .val (.int (1 : Int32)), .val (.int av), .val (.int ld), .val (.int (1 : Int32)), .val (.int ls), .val (.int ms), .val (.int (1 : Int32)), s11] [])
              refine hst (fun t₀ k₀ => XS.aloadN XI.here hx rfl (hb hby d3_233) rfl rfl k₀) ?_
              show F s₁ (mkF m 234 #[.val (.ref a), .val (.int fv), .val (.int lv), .val (.int ev), .val (.int (1 : Int32)), .val (.int av), .val (.int ld), .val (.int (1 : Int32)), .val (.int ls), .val (.int ms), .val (.int (1 : Int32)), s11] [(.ref a)])
              refine hst (fun t₀ k₀ => XS.iload XI.here hx rfl (hb hby d3_234) rfl k₀) ?_
              show F s₁ (mkF m 236 #[.val (.ref a), .val (.int fv), .val (.int lv), .val (.int ev), .val (.int (1 : Int32)), .val (.int av), .val (.int ld), .val (.int (1 : Int32)), .val (.int ls), .val (.int ms), .val (.int (1 : Int32)), s11] [(.int av), (.ref a)])
              refine hst (fun t₀ k₀ => XS.iload XI.here hx rfl (hb hby d3_236) rfl k₀) ?_
              show F s₁ (mkF m 238 #[.val (.ref a), .val (.int fv), .val (.int lv), .val (.int ev), .val (.int (1 : Int32)), .val (.int av), .val (.int ld), .val (.int (1 : Int32)), .val (.int ls), .val (.int ms), .val (.int (1 : Int32)), s11] [(.int (1 : Int32)), (.int av), (.ref a)])
              refine hst (fun t₀ k₀ => XS.iadd XI.here hx rfl (hb hby d3_238) rfl k₀) ?_
              show F s₁ (mkF m 239 #[.val (.ref a), .val (.int fv), .val (.int lv), .val (.int ev), .val (.int (1 : Int32)), .val (.int av), .val (.int ld), .val (.int (1 : Int32)), .val (.int ls), .val (.int ms), .val (.int (1 : Int32)), s11] [(.int (av + (1 : Int32))), (.ref a)])
              generalize hix1 : (av + (1 : Int32)) = ix1
              show F s₁ (mkF m 239 #[.val (.ref a), .val (.int fv), .val (.int lv), .val (.int ev), .val (.int (1 : Int32)), .val (.int av), .val (.int ld), .val (.int (1 : Int32)), .val (.int ls), .val (.int ms), .val (.int (1 : Int32)), s11] [(.int ix1), (.ref a)])
              have kix1 : ix1.toInt = ((p' + 1 : Nat) : Int) := by have h1 := c_iadd av 1; have h2 := rng32 ix1; rw [hix1] at h1; omega
              have ql1 : p' + 1 < e' := by simp only [own_lt32] at hc207; omega
              refine hst (fun t₀ k₀ => own_baload XI hx hZ eI Ar (own_idx ix1 6 (by omega) (by omega)) (v := (.int (g (p' + 1)))) (by show Value.int (g ix1.toNatClampNeg) = _; rw [own_clamp ix1 _ kix1]) (g := (mkF m 239 #[.val (.ref a), .val (.int fv), .val (.int lv), .val (.int ev), .val (.int (1 : Int32)), .val (.int av), .val (.int ld), .val (.int (1 : Int32)), .val (.int ls), .val (.int ms), .val (.int (1 : Int32)), s11] [(.int ix1), (.ref a)])) rfl rfl (hb hby d3_239) t₀ k₀) ?_
              show F s₁ (mkF m 240 #[.val (.ref a), .val (.int fv), .val (.int lv), .val (.int ev), .val (.int (1 : Int32)), .val (.int av), .val (.int ld), .val (.int (1 : Int32)), .val (.int ls), .val (.int ms), .val (.int (1 : Int32)), s11] [(.int (g (p' + 1)))])
              refine hst (fun t₀ k₀ => XS.sipush XI.here hx rfl (hb hby d3_240) k₀) ?_
              show F s₁ (mkF m 243 #[.val (.ref a), .val (.int fv), .val (.int lv), .val (.int ev), .val (.int (1 : Int32)), .val (.int av), .val (.int ld), .val (.int (1 : Int32)), .val (.int ls), .val (.int ms), .val (.int (1 : Int32)), s11] [(.int (255 : Int32)), (.int (g (p' + 1)))])
              refine hst (fun t₀ k₀ => XS.iand XI.here hx rfl (hb hby d3_243) rfl k₀) ?_
              show F s₁ (mkF m 244 #[.val (.ref a), .val (.int fv), .val (.int lv), .val (.int ev), .val (.int (1 : Int32)), .val (.int av), .val (.int ld), .val (.int (1 : Int32)), .val (.int ls), .val (.int ms), .val (.int (1 : Int32)), s11] [(.int ((g (p' + 1)) &&& (255 : Int32)))])
              generalize hb1 : ((g (p' + 1)) &&& (255 : Int32)) = b1
              show F s₁ (mkF m 244 #[.val (.ref a), .val (.int fv), .val (.int lv), .val (.int ev), .val (.int (1 : Int32)), .val (.int av), .val (.int ld), .val (.int (1 : Int32)), .val (.int ls), .val (.int ms), .val (.int (1 : Int32)), s11] [(.int b1)])
              obtain ⟨kb1, kb1b⟩ : b1.toInt = (own_B g (p' + 1) : Int) ∧ own_B g (p' + 1) < 256 := by rw [← hb1]; exact own_byte g _
              refine hst (fun t₀ k₀ => XS.istoreS XI.here hx rfl (hb hby d3_244) rfl rfl hs11 k₀) ?_
              show F s₁ (mkF m 246 #[.val (.ref a), .val (.int fv), .val (.int lv), .val (.int ev), .val (.int (1 : Int32)), .val (.int av), .val (.int ld), .val (.int (1 : Int32)), .val (.int ls), .val (.int ms), .val (.int (1 : Int32)), .val (.int b1)] [])
              refine hst (fun t₀ k₀ => XS.iload XI.here hx rfl (hb hby d3_246) rfl k₀) ?_
              show F s₁ (mkF m 248 #[.val (.ref a), .val (.int fv), .val (.int lv), .val (.int ev), .val (.int (1 : Int32)), .val (.int av), .val (.int ld), .val (.int (1 : Int32)), .val (.int ls), .val (.int ms), .val (.int (1 : Int32)), .val (.int b1)] [(.int (1 : Int32))])
              refine hst (fun t₀ k₀ => XS.iconst XI.here hx rfl (hb hby d3_248) k₀) ?_
              show F s₁ (mkF m 249 #[.val (.ref a), .val (.int fv), .val (.int lv), .val (.int ev), .val (.int (1 : Int32)), .val (.int av), .val (.int ld), .val (.int (1 : Int32)), .val (.int ls), .val (.int ms), .val (.int (1 : Int32)), .val (.int b1)] [(.int (1 : Int32)), (.int (1 : Int32))])
              refine hst (fun t₀ k₀ => XS.icmpNo XI.here hx rfl (hb hby d3_249) rfl (teq (by decide)).2 k₀) ?_
              show F s₁ (mkF m 252 #[.val (.ref a), .val (.int fv), .val (.int lv), .val (.int ev), .val (.int (1 : Int32)), .val (.int av), .val (.int ld), .val (.int (1 : Int32)), .val (.int ls), .val (.int ms), .val (.int (1 : Int32)), .val (.int b1)] [])
              refine hst (fun t₀ k₀ => XS.iload XI.here hx rfl (hb hby d3_252) rfl k₀) ?_
              show F s₁ (mkF m 254 #[.val (.ref a), .val (.int fv), .val (.int lv), .val (.int ev), .val (.int (1 : Int32)), .val (.int av), .val (.int ld), .val (.int (1 : Int32)), .val (.int ls), .val (.int ms), .val (.int (1 : Int32)), .val (.int b1)] [(.int b1)])
              refine hst (fun t₀ k₀ => XS.iload XI.here hx rfl (hb hby d3_254) rfl k₀) ?_
              show F s₁ (mkF m 256 #[.val (.ref a), .val (.int fv), .val (.int lv), .val (.int ev), .val (.int (1 : Int32)), .val (.int av), .val (.int ld), .val (.int (1 : Int32)), .val (.int ls), .val (.int ms), .val (.int (1 : Int32)), .val (.int b1)] [(.int ls), (.int b1)])
              by_cases hc256 : b1 < ls
              · -- pc 256: taken
                refine hst (fun t₀ k₀ => XS.icmpYes XI.here hx rfl (pc0 := 256) (pc' := 270) rfl (hb hby d3_256) rfl (tlt hc256).1 (by decide) (by decide) k₀) ?_
                show F s₁ (mkF m 270 #[.val (.ref a), .val (.int fv), .val (.int lv), .val (.int ev), .val (.int (1 : Int32)), .val (.int av), .val (.int ld), .val (.int (1 : Int32)), .val (.int ls), .val (.int ms), .val (.int (1 : Int32)), .val (.int b1)] [])
                refine hst (fun t₀ k₀ => XS.iconst XI.here hx rfl (hb hby d3_270) k₀) ?_
                show F s₁ (mkF m 271 #[.val (.ref a), .val (.int fv), .val (.int lv), .val (.int ev), .val (.int (1 : Int32)), .val (.int av), .val (.int ld), .val (.int (1 : Int32)), .val (.int ls), .val (.int ms), .val (.int (1 : Int32)), .val (.int b1)] [(.int (0 : Int32))])
                refine hst (fun t₀ k₀ => XS.goto XI.here hx rfl (pc0 := 271) (pc' := 291) rfl (hb hby d3_271) (by decide) (by decide) k₀) ?_
                show F s₁ (mkF m 291 #[.val (.ref a), .val (.int fv), .val (.int lv), .val (.int ev), .val (.int (1 : Int32)), .val (.int av), .val (.int ld), .val (.int (1 : Int32)), .val (.int ls), .val (.int ms), .val (.int (1 : Int32)), .val (.int b1)] [(.int (0 : Int32))])
                refine hst (fun t₀ k₀ => XS.istore XI.here hx rfl (hb hby d3_291) rfl (l' := #[.val (.ref a), .val (.int fv), .val (.int lv), .val (.int ev), .val (.int (0 : Int32)), .val (.int av), .val (.int ld), .val (.int (1 : Int32)), .val (.int ls), .val (.int ms), .val (.int (1 : Int32)), .val (.int b1)]) rfl k₀) ?_
                show F s₁ (mkF m 293 #[.val (.ref a), .val (.int fv), .val (.int lv), .val (.int ev), .val (.int (0 : Int32)), .val (.int av), .val (.int ld), .val (.int (1 : Int32)), .val (.int ls), .val (.int ms), .val (.int (1 : Int32)), .val (.int b1)] [])
                refine hst (fun t₀ k₀ => XS.iinc XI.here hx rfl (hb hby d3_293) rfl (l' := #[.val (.ref a), .val (.int fv), .val (.int lv), .val (.int ev), .val (.int (0 : Int32)), .val (.int av), .val (.int ld), .val (.int (1 : Int32)), .val (.int ls), .val (.int ms), .val (.int ((1 : Int32) + (1 : Int32))), .val (.int b1)]) rfl k₀) ?_
                show F s₁ (mkF m 296 #[.val (.ref a), .val (.int fv), .val (.int lv), .val (.int ev), .val (.int (0 : Int32)), .val (.int av), .val (.int ld), .val (.int (1 : Int32)), .val (.int ls), .val (.int ms), .val (.int ((1 : Int32) + (1 : Int32))), .val (.int b1)] [])
                show F s₁ (mkF m 296 #[.val (.ref a), .val (.int fv), .val (.int lv), .val (.int ev), .val (.int (0 : Int32)), .val (.int av), .val (.int ld), .val (.int (1 : Int32)), .val (.int ls), .val (.int ms), .val (.int (2 : Int32)), .val (.int b1)] [])
                refine hst (fun t₀ k₀ => XS.goto XI.here hx rfl (pc0 := 296) (pc' := 221) rfl (hb hby d3_296) (by decide) (by decide) k₀) ?_
                show F s₁ (mkF m 221 #[.val (.ref a), .val (.int fv), .val (.int lv), .val (.int ev), .val (.int (0 : Int32)), .val (.int av), .val (.int ld), .val (.int (1 : Int32)), .val (.int ls), .val (.int ms), .val (.int (2 : Int32)), .val (.int b1)] [])
                refine hst (fun t₀ k₀ => XS.iload XI.here hx rfl (hb hby d3_221) rfl k₀) ?_
                show F s₁ (mkF m 223 #[.val (.ref a), .val (.int fv), .val (.int lv), .val (.int ev), .val (.int (0 : Int32)), .val (.int av), .val (.int ld), .val (.int (1 : Int32)), .val (.int ls), .val (.int ms), .val (.int (2 : Int32)), .val (.int b1)] [(.int (0 : Int32))])
                refine hst (fun t₀ k₀ => XS.ifYes XI.here hx rfl (pc0 := 223) (pc' := 299) rfl (hb hby d3_223) rfl ((if0 _ _).trans (teq (by decide)).1) (by decide) (by decide) k₀) ?_
                show F s₁ (mkF m 299 #[.val (.ref a), .val (.int fv), .val (.int lv), .val (.int ev), .val (.int (0 : Int32)), .val (.int av), .val (.int ld), .val (.int (1 : Int32)), .val (.int ls), .val (.int ms), .val (.int (2 : Int32)), .val (.int b1)] [])
                refine hst (fun t₀ k₀ => XS.iload XI.here hx rfl (hb hby d3_299) rfl k₀) ?_
                show F s₁ (mkF m 301 #[.val (.ref a), .val (.int fv), .val (.int lv), .val (.int ev), .val (.int (0 : Int32)), .val (.int av), .val (.int ld), .val (.int (1 : Int32)), .val (.int ls), .val (.int ms), .val (.int (2 : Int32)), .val (.int b1)] [(.int av)])
                refine hst (fun t₀ k₀ => XS.iload XI.here hx rfl (hb hby d3_301) rfl k₀) ?_
                show F s₁ (mkF m 303 #[.val (.ref a), .val (.int fv), .val (.int lv), .val (.int ev), .val (.int (0 : Int32)), .val (.int av), .val (.int ld), .val (.int (1 : Int32)), .val (.int ls), .val (.int ms), .val (.int (2 : Int32)), .val (.int b1)] [(.int (1 : Int32)), (.int av)])
                refine hst (fun t₀ k₀ => XS.iconst XI.here hx rfl (hb hby d3_303) k₀) ?_
                show F s₁ (mkF m 304 #[.val (.ref a), .val (.int fv), .val (.int lv), .val (.int ev), .val (.int (0 : Int32)), .val (.int av), .val (.int ld), .val (.int (1 : Int32)), .val (.int ls), .val (.int ms), .val (.int (2 : Int32)), .val (.int b1)] [(.int (1 : Int32)), (.int (1 : Int32)), (.int av)])
                refine hst (fun t₀ k₀ => XS.iadd XI.here hx rfl (hb hby d3_304) rfl k₀) ?_
                show F s₁ (mkF m 305 #[.val (.ref a), .val (.int fv), .val (.int lv), .val (.int ev), .val (.int (0 : Int32)), .val (.int av), .val (.int ld), .val (.int (1 : Int32)), .val (.int ls), .val (.int ms), .val (.int (2 : Int32)), .val (.int b1)] [(.int ((1 : Int32) + (1 : Int32))), (.int av)])
                refine hst (fun t₀ k₀ => XS.iadd XI.here hx rfl (hb hby d3_305) rfl k₀) ?_
                show F s₁ (mkF m 306 #[.val (.ref a), .val (.int fv), .val (.int lv), .val (.int ev), .val (.int (0 : Int32)), .val (.int av), .val (.int ld), .val (.int (1 : Int32)), .val (.int ls), .val (.int ms), .val (.int (2 : Int32)), .val (.int b1)] [(.int (av + ((1 : Int32) + (1 : Int32))))])
                generalize hat' : (av + ((1 : Int32) + (1 : Int32))) = at'
                show F s₁ (mkF m 306 #[.val (.ref a), .val (.int fv), .val (.int lv), .val (.int ev), .val (.int (0 : Int32)), .val (.int av), .val (.int ld), .val (.int (1 : Int32)), .val (.int ls), .val (.int ms), .val (.int (2 : Int32)), .val (.int b1)] [(.int at')])
                have kat : at'.toInt = ((p' + 2 : Nat) : Int) := by have h1 := c_iadd 1 1; have h2 := rng32 (1 + 1); have h3 := c_iadd av (1 + 1); have h4 := rng32 at'; rw [hat'] at h3; omega
                refine hst (fun t₀ k₀ => XS.istore XI.here hx rfl (hb hby d3_306) rfl (l' := #[.val (.ref a), .val (.int fv), .val (.int lv), .val (.int ev), .val (.int (0 : Int32)), .val (.int at'), .val (.int ld), .val (.int (1 : Int32)), .val (.int ls), .val (.int ms), .val (.int (2 : Int32)), .val (.int b1)]) rfl k₀) ?_
                show F s₁ (mkF m 308 #[.val (.ref a), .val (.int fv), .val (.int lv), .val (.int ev), .val (.int (0 : Int32)), .val (.int at'), .val (.int ld), .val (.int (1 : Int32)), .val (.int ls), .val (.int ms), .val (.int (2 : Int32)), .val (.int b1)] [])
                refine hst (fun t₀ k₀ => XS.goto XI.here hx rfl (pc0 := 308) (pc' := 10) rfl (hb hby d3_308) (by decide) (by decide) k₀) ?_
                show F s₁ (mkF m 10 #[.val (.ref a), .val (.int fv), .val (.int lv), .val (.int ev), .val (.int (0 : Int32)), .val (.int at'), .val (.int ld), .val (.int (1 : Int32)), .val (.int ls), .val (.int ms), .val (.int (2 : Int32)), .val (.int b1)] [])
                show F s₁ (mkF m 10 #[.val (.ref a), .val (.int fv), .val (.int lv), .val (.int ev), .val (.int (0 : Int32)), .val (.int at'), .val (.int ld), .val (.int (1 : Int32)), .val (.int ls), .val (.int ms), .val (.int (2 : Int32)), .val (.int b1)] [])
                refine hst (fun t₀ k₀ => XS.iload XI.here hx rfl (hb hby d3_10) rfl k₀) ?_
                show F s₁ (mkF m 12 #[.val (.ref a), .val (.int fv), .val (.int lv), .val (.int ev), .val (.int (0 : Int32)), .val (.int at'), .val (.int ld), .val (.int (1 : Int32)), .val (.int ls), .val (.int ms), .val (.int (2 : Int32)), .val (.int b1)] [(.int (0 : Int32))])
                refine hst (fun t₀ k₀ => XS.ifYes XI.here hx rfl (pc0 := 12) (pc' := 311) rfl (hb hby d3_12) rfl ((if0 _ _).trans (teq (by decide)).1) (by decide) (by decide) k₀) ?_
                show F s₁ (mkF m 311 #[.val (.ref a), .val (.int fv), .val (.int lv), .val (.int ev), .val (.int (0 : Int32)), .val (.int at'), .val (.int ld), .val (.int (1 : Int32)), .val (.int ls), .val (.int ms), .val (.int (2 : Int32)), .val (.int b1)] [])
                refine hst (fun t₀ k₀ => XS.iload XI.here hx rfl (hb hby d3_311) rfl k₀) ?_
                show F s₁ (mkF m 313 #[.val (.ref a), .val (.int fv), .val (.int lv), .val (.int ev), .val (.int (0 : Int32)), .val (.int at'), .val (.int ld), .val (.int (1 : Int32)), .val (.int ls), .val (.int ms), .val (.int (2 : Int32)), .val (.int b1)] [(.int (0 : Int32))])
                rw [hF]
                refine own_retN XI hx hret (by simp) hlk (hb hby d3_313) (by decide) (by decide) ?_
                simp only [own_lt32, own_eq32] at hc207 hc256
                have hcl : own_cl (own_B g) p' e' = 0 := by
                  unfold own_cl; (repeat' split) <;> omega
                obtain ⟨k', rfl⟩ : ∃ k', k = k' + 1 := ⟨k - 1, by omega⟩
                rw [eI]
                exact ⟨(by rw [← hw', own_wf_bad (own_B g) e' _ p' q18 hcl]; rfl), NI, rfl⟩
              · -- pc 256: not taken
                refine hst (fun t₀ k₀ => XS.icmpNo XI.here hx rfl (hb hby d3_256) rfl (flt hc256).1 k₀) ?_
                show F s₁ (mkF m 259 #[.val (.ref a), .val (.int fv), .val (.int lv), .val (.int ev), .val (.int (1 : Int32)), .val (.int av), .val (.int ld), .val (.int (1 : Int32)), .val (.int ls), .val (.int ms), .val (.int (1 : Int32)), .val (.int b1)] [])
                refine hst (fun t₀ k₀ => XS.iload XI.here hx rfl (hb hby d3_259) rfl k₀) ?_
                show F s₁ (mkF m 261 #[.val (.ref a), .val (.int fv), .val (.int lv), .val (.int ev), .val (.int (1 : Int32)), .val (.int av), .val (.int ld), .val (.int (1 : Int32)), .val (.int ls), .val (.int ms), .val (.int (1 : Int32)), .val (.int b1)] [(.int b1)])
                refine hst (fun t₀ k₀ => XS.iload XI.here hx rfl (hb hby d3_261) rfl k₀) ?_
                show F s₁ (mkF m 263 #[.val (.ref a), .val (.int fv), .val (.int lv), .val (.int ev), .val (.int (1 : Int32)), .val (.int av), .val (.int ld), .val (.int (1 : Int32)), .val (.int ls), .val (.int ms), .val (.int (1 : Int32)), .val (.int b1)] [(.int ms), (.int b1)])
                by_cases hc263 : ms < b1
                · -- pc 263: taken
                  refine hst (fun t₀ k₀ => XS.icmpYes XI.here hx rfl (pc0 := 263) (pc' := 270) rfl (hb hby d3_263) rfl (tlt hc263).2.2.1 (by decide) (by decide) k₀) ?_
                  show F s₁ (mkF m 270 #[.val (.ref a), .val (.int fv), .val (.int lv), .val (.int ev), .val (.int (1 : Int32)), .val (.int av), .val (.int ld), .val (.int (1 : Int32)), .val (.int ls), .val (.int ms), .val (.int (1 : Int32)), .val (.int b1)] [])
                  refine hst (fun t₀ k₀ => XS.iconst XI.here hx rfl (hb hby d3_270) k₀) ?_
                  show F s₁ (mkF m 271 #[.val (.ref a), .val (.int fv), .val (.int lv), .val (.int ev), .val (.int (1 : Int32)), .val (.int av), .val (.int ld), .val (.int (1 : Int32)), .val (.int ls), .val (.int ms), .val (.int (1 : Int32)), .val (.int b1)] [(.int (0 : Int32))])
                  refine hst (fun t₀ k₀ => XS.goto XI.here hx rfl (pc0 := 271) (pc' := 291) rfl (hb hby d3_271) (by decide) (by decide) k₀) ?_
                  show F s₁ (mkF m 291 #[.val (.ref a), .val (.int fv), .val (.int lv), .val (.int ev), .val (.int (1 : Int32)), .val (.int av), .val (.int ld), .val (.int (1 : Int32)), .val (.int ls), .val (.int ms), .val (.int (1 : Int32)), .val (.int b1)] [(.int (0 : Int32))])
                  refine hst (fun t₀ k₀ => XS.istore XI.here hx rfl (hb hby d3_291) rfl (l' := #[.val (.ref a), .val (.int fv), .val (.int lv), .val (.int ev), .val (.int (0 : Int32)), .val (.int av), .val (.int ld), .val (.int (1 : Int32)), .val (.int ls), .val (.int ms), .val (.int (1 : Int32)), .val (.int b1)]) rfl k₀) ?_
                  show F s₁ (mkF m 293 #[.val (.ref a), .val (.int fv), .val (.int lv), .val (.int ev), .val (.int (0 : Int32)), .val (.int av), .val (.int ld), .val (.int (1 : Int32)), .val (.int ls), .val (.int ms), .val (.int (1 : Int32)), .val (.int b1)] [])
                  refine hst (fun t₀ k₀ => XS.iinc XI.here hx rfl (hb hby d3_293) rfl (l' := #[.val (.ref a), .val (.int fv), .val (.int lv), .val (.int ev), .val (.int (0 : Int32)), .val (.int av), .val (.int ld), .val (.int (1 : Int32)), .val (.int ls), .val (.int ms), .val (.int ((1 : Int32) + (1 : Int32))), .val (.int b1)]) rfl k₀) ?_
                  show F s₁ (mkF m 296 #[.val (.ref a), .val (.int fv), .val (.int lv), .val (.int ev), .val (.int (0 : Int32)), .val (.int av), .val (.int ld), .val (.int (1 : Int32)), .val (.int ls), .val (.int ms), .val (.int ((1 : Int32) + (1 : Int32))), .val (.int b1)] [])
                  show F s₁ (mkF m 296 #[.val (.ref a), .val (.int fv), .val (.int lv), .val (.int ev), .val (.int (0 : Int32)), .val (.int av), .val (.int ld), .val (.int (1 : Int32)), .val (.int ls), .val (.int ms), .val (.int (2 : Int32)), .val (.int b1)] [])
                  refine hst (fun t₀ k₀ => XS.goto XI.here hx rfl (pc0 := 296) (pc' := 221) rfl (hb hby d3_296) (by decide) (by decide) k₀) ?_
                  show F s₁ (mkF m 221 #[.val (.ref a), .val (.int fv), .val (.int lv), .val (.int ev), .val (.int (0 : Int32)), .val (.int av), .val (.int ld), .val (.int (1 : Int32)), .val (.int ls), .val (.int ms), .val (.int (2 : Int32)), .val (.int b1)] [])
                  refine hst (fun t₀ k₀ => XS.iload XI.here hx rfl (hb hby d3_221) rfl k₀) ?_
                  show F s₁ (mkF m 223 #[.val (.ref a), .val (.int fv), .val (.int lv), .val (.int ev), .val (.int (0 : Int32)), .val (.int av), .val (.int ld), .val (.int (1 : Int32)), .val (.int ls), .val (.int ms), .val (.int (2 : Int32)), .val (.int b1)] [(.int (0 : Int32))])
                  refine hst (fun t₀ k₀ => XS.ifYes XI.here hx rfl (pc0 := 223) (pc' := 299) rfl (hb hby d3_223) rfl ((if0 _ _).trans (teq (by decide)).1) (by decide) (by decide) k₀) ?_
                  show F s₁ (mkF m 299 #[.val (.ref a), .val (.int fv), .val (.int lv), .val (.int ev), .val (.int (0 : Int32)), .val (.int av), .val (.int ld), .val (.int (1 : Int32)), .val (.int ls), .val (.int ms), .val (.int (2 : Int32)), .val (.int b1)] [])
                  refine hst (fun t₀ k₀ => XS.iload XI.here hx rfl (hb hby d3_299) rfl k₀) ?_
                  show F s₁ (mkF m 301 #[.val (.ref a), .val (.int fv), .val (.int lv), .val (.int ev), .val (.int (0 : Int32)), .val (.int av), .val (.int ld), .val (.int (1 : Int32)), .val (.int ls), .val (.int ms), .val (.int (2 : Int32)), .val (.int b1)] [(.int av)])
                  refine hst (fun t₀ k₀ => XS.iload XI.here hx rfl (hb hby d3_301) rfl k₀) ?_
                  show F s₁ (mkF m 303 #[.val (.ref a), .val (.int fv), .val (.int lv), .val (.int ev), .val (.int (0 : Int32)), .val (.int av), .val (.int ld), .val (.int (1 : Int32)), .val (.int ls), .val (.int ms), .val (.int (2 : Int32)), .val (.int b1)] [(.int (1 : Int32)), (.int av)])
                  refine hst (fun t₀ k₀ => XS.iconst XI.here hx rfl (hb hby d3_303) k₀) ?_
                  show F s₁ (mkF m 304 #[.val (.ref a), .val (.int fv), .val (.int lv), .val (.int ev), .val (.int (0 : Int32)), .val (.int av), .val (.int ld), .val (.int (1 : Int32)), .val (.int ls), .val (.int ms), .val (.int (2 : Int32)), .val (.int b1)] [(.int (1 : Int32)), (.int (1 : Int32)), (.int av)])
                  refine hst (fun t₀ k₀ => XS.iadd XI.here hx rfl (hb hby d3_304) rfl k₀) ?_
                  show F s₁ (mkF m 305 #[.val (.ref a), .val (.int fv), .val (.int lv), .val (.int ev), .val (.int (0 : Int32)), .val (.int av), .val (.int ld), .val (.int (1 : Int32)), .val (.int ls), .val (.int ms), .val (.int (2 : Int32)), .val (.int b1)] [(.int ((1 : Int32) + (1 : Int32))), (.int av)])
                  refine hst (fun t₀ k₀ => XS.iadd XI.here hx rfl (hb hby d3_305) rfl k₀) ?_
                  show F s₁ (mkF m 306 #[.val (.ref a), .val (.int fv), .val (.int lv), .val (.int ev), .val (.int (0 : Int32)), .val (.int av), .val (.int ld), .val (.int (1 : Int32)), .val (.int ls), .val (.int ms), .val (.int (2 : Int32)), .val (.int b1)] [(.int (av + ((1 : Int32) + (1 : Int32))))])
                  generalize hat' : (av + ((1 : Int32) + (1 : Int32))) = at'
                  show F s₁ (mkF m 306 #[.val (.ref a), .val (.int fv), .val (.int lv), .val (.int ev), .val (.int (0 : Int32)), .val (.int av), .val (.int ld), .val (.int (1 : Int32)), .val (.int ls), .val (.int ms), .val (.int (2 : Int32)), .val (.int b1)] [(.int at')])
                  have kat : at'.toInt = ((p' + 2 : Nat) : Int) := by have h1 := c_iadd 1 1; have h2 := rng32 (1 + 1); have h3 := c_iadd av (1 + 1); have h4 := rng32 at'; rw [hat'] at h3; omega
                  refine hst (fun t₀ k₀ => XS.istore XI.here hx rfl (hb hby d3_306) rfl (l' := #[.val (.ref a), .val (.int fv), .val (.int lv), .val (.int ev), .val (.int (0 : Int32)), .val (.int at'), .val (.int ld), .val (.int (1 : Int32)), .val (.int ls), .val (.int ms), .val (.int (2 : Int32)), .val (.int b1)]) rfl k₀) ?_
                  show F s₁ (mkF m 308 #[.val (.ref a), .val (.int fv), .val (.int lv), .val (.int ev), .val (.int (0 : Int32)), .val (.int at'), .val (.int ld), .val (.int (1 : Int32)), .val (.int ls), .val (.int ms), .val (.int (2 : Int32)), .val (.int b1)] [])
                  refine hst (fun t₀ k₀ => XS.goto XI.here hx rfl (pc0 := 308) (pc' := 10) rfl (hb hby d3_308) (by decide) (by decide) k₀) ?_
                  show F s₁ (mkF m 10 #[.val (.ref a), .val (.int fv), .val (.int lv), .val (.int ev), .val (.int (0 : Int32)), .val (.int at'), .val (.int ld), .val (.int (1 : Int32)), .val (.int ls), .val (.int ms), .val (.int (2 : Int32)), .val (.int b1)] [])
                  show F s₁ (mkF m 10 #[.val (.ref a), .val (.int fv), .val (.int lv), .val (.int ev), .val (.int (0 : Int32)), .val (.int at'), .val (.int ld), .val (.int (1 : Int32)), .val (.int ls), .val (.int ms), .val (.int (2 : Int32)), .val (.int b1)] [])
                  refine hst (fun t₀ k₀ => XS.iload XI.here hx rfl (hb hby d3_10) rfl k₀) ?_
                  show F s₁ (mkF m 12 #[.val (.ref a), .val (.int fv), .val (.int lv), .val (.int ev), .val (.int (0 : Int32)), .val (.int at'), .val (.int ld), .val (.int (1 : Int32)), .val (.int ls), .val (.int ms), .val (.int (2 : Int32)), .val (.int b1)] [(.int (0 : Int32))])
                  refine hst (fun t₀ k₀ => XS.ifYes XI.here hx rfl (pc0 := 12) (pc' := 311) rfl (hb hby d3_12) rfl ((if0 _ _).trans (teq (by decide)).1) (by decide) (by decide) k₀) ?_
                  show F s₁ (mkF m 311 #[.val (.ref a), .val (.int fv), .val (.int lv), .val (.int ev), .val (.int (0 : Int32)), .val (.int at'), .val (.int ld), .val (.int (1 : Int32)), .val (.int ls), .val (.int ms), .val (.int (2 : Int32)), .val (.int b1)] [])
                  refine hst (fun t₀ k₀ => XS.iload XI.here hx rfl (hb hby d3_311) rfl k₀) ?_
                  show F s₁ (mkF m 313 #[.val (.ref a), .val (.int fv), .val (.int lv), .val (.int ev), .val (.int (0 : Int32)), .val (.int at'), .val (.int ld), .val (.int (1 : Int32)), .val (.int ls), .val (.int ms), .val (.int (2 : Int32)), .val (.int b1)] [(.int (0 : Int32))])
                  rw [hF]
                  refine own_retN XI hx hret (by simp) hlk (hb hby d3_313) (by decide) (by decide) ?_
                  simp only [own_lt32, own_eq32] at hc207 hc256 hc263
                  have hcl : own_cl (own_B g) p' e' = 0 := by
                    unfold own_cl; (repeat' split) <;> omega
                  obtain ⟨k', rfl⟩ : ∃ k', k = k' + 1 := ⟨k - 1, by omega⟩
                  rw [eI]
                  exact ⟨(by rw [← hw', own_wf_bad (own_B g) e' _ p' q18 hcl]; rfl), NI, rfl⟩
                · -- pc 263: not taken
                  refine hst (fun t₀ k₀ => XS.icmpNo XI.here hx rfl (hb hby d3_263) rfl (flt hc263).2.2.1 k₀) ?_
                  show F s₁ (mkF m 266 #[.val (.ref a), .val (.int fv), .val (.int lv), .val (.int ev), .val (.int (1 : Int32)), .val (.int av), .val (.int ld), .val (.int (1 : Int32)), .val (.int ls), .val (.int ms), .val (.int (1 : Int32)), .val (.int b1)] [])
                  refine hst (fun t₀ k₀ => XS.iconst XI.here hx rfl (hb hby d3_266) k₀) ?_
                  show F s₁ (mkF m 267 #[.val (.ref a), .val (.int fv), .val (.int lv), .val (.int ev), .val (.int (1 : Int32)), .val (.int av), .val (.int ld), .val (.int (1 : Int32)), .val (.int ls), .val (.int ms), .val (.int (1 : Int32)), .val (.int b1)] [(.int (1 : Int32))])
                  refine hst (fun t₀ k₀ => XS.goto XI.here hx rfl (pc0 := 267) (pc' := 291) rfl (hb hby d3_267) (by decide) (by decide) k₀) ?_
                  show F s₁ (mkF m 291 #[.val (.ref a), .val (.int fv), .val (.int lv), .val (.int ev), .val (.int (1 : Int32)), .val (.int av), .val (.int ld), .val (.int (1 : Int32)), .val (.int ls), .val (.int ms), .val (.int (1 : Int32)), .val (.int b1)] [(.int (1 : Int32))])
                  refine hst (fun t₀ k₀ => XS.istore XI.here hx rfl (hb hby d3_291) rfl (l' := #[.val (.ref a), .val (.int fv), .val (.int lv), .val (.int ev), .val (.int (1 : Int32)), .val (.int av), .val (.int ld), .val (.int (1 : Int32)), .val (.int ls), .val (.int ms), .val (.int (1 : Int32)), .val (.int b1)]) rfl k₀) ?_
                  show F s₁ (mkF m 293 #[.val (.ref a), .val (.int fv), .val (.int lv), .val (.int ev), .val (.int (1 : Int32)), .val (.int av), .val (.int ld), .val (.int (1 : Int32)), .val (.int ls), .val (.int ms), .val (.int (1 : Int32)), .val (.int b1)] [])
                  refine hst (fun t₀ k₀ => XS.iinc XI.here hx rfl (hb hby d3_293) rfl (l' := #[.val (.ref a), .val (.int fv), .val (.int lv), .val (.int ev), .val (.int (1 : Int32)), .val (.int av), .val (.int ld), .val (.int (1 : Int32)), .val (.int ls), .val (.int ms), .val (.int ((1 : Int32) + (1 : Int32))), .val (.int b1)]) rfl k₀) ?_
                  show F s₁ (mkF m 296 #[.val (.ref a), .val (.int fv), .val (.int lv), .val (.int ev), .val (.int (1 : Int32)), .val (.int av), .val (.int ld), .val (.int (1 : Int32)), .val (.int ls), .val (.int ms), .val (.int ((1 : Int32) + (1 : Int32))), .val (.int b1)] [])
                  show F s₁ (mkF m 296 #[.val (.ref a), .val (.int fv), .val (.int lv), .val (.int ev), .val (.int (1 : Int32)), .val (.int av), .val (.int ld), .val (.int (1 : Int32)), .val (.int ls), .val (.int ms), .val (.int (2 : Int32)), .val (.int b1)] [])
                  refine hst (fun t₀ k₀ => XS.goto XI.here hx rfl (pc0 := 296) (pc' := 221) rfl (hb hby d3_296) (by decide) (by decide) k₀) ?_
                  show F s₁ (mkF m 221 #[.val (.ref a), .val (.int fv), .val (.int lv), .val (.int ev), .val (.int (1 : Int32)), .val (.int av), .val (.int ld), .val (.int (1 : Int32)), .val (.int ls), .val (.int ms), .val (.int (2 : Int32)), .val (.int b1)] [])
                  refine hst (fun t₀ k₀ => XS.iload XI.here hx rfl (hb hby d3_221) rfl k₀) ?_
                  show F s₁ (mkF m 223 #[.val (.ref a), .val (.int fv), .val (.int lv), .val (.int ev), .val (.int (1 : Int32)), .val (.int av), .val (.int ld), .val (.int (1 : Int32)), .val (.int ls), .val (.int ms), .val (.int (2 : Int32)), .val (.int b1)] [(.int (1 : Int32))])
                  refine hst (fun t₀ k₀ => XS.ifNo XI.here hx rfl (hb hby d3_223) rfl ((if0 _ _).trans (feq (by decide)).1) k₀) ?_
                  show F s₁ (mkF m 226 #[.val (.ref a), .val (.int fv), .val (.int lv), .val (.int ev), .val (.int (1 : Int32)), .val (.int av), .val (.int ld), .val (.int (1 : Int32)), .val (.int ls), .val (.int ms), .val (.int (2 : Int32)), .val (.int b1)] [])
                  refine hst (fun t₀ k₀ => XS.iload XI.here hx rfl (hb hby d3_226) rfl k₀) ?_
                  show F s₁ (mkF m 228 #[.val (.ref a), .val (.int fv), .val (.int lv), .val (.int ev), .val (.int (1 : Int32)), .val (.int av), .val (.int ld), .val (.int (1 : Int32)), .val (.int ls), .val (.int ms), .val (.int (2 : Int32)), .val (.int b1)] [(.int (2 : Int32))])
                  refine hst (fun t₀ k₀ => XS.iload XI.here hx rfl (hb hby d3_228) rfl k₀) ?_
                  show F s₁ (mkF m 230 #[.val (.ref a), .val (.int fv), .val (.int lv), .val (.int ev), .val (.int (1 : Int32)), .val (.int av), .val (.int ld), .val (.int (1 : Int32)), .val (.int ls), .val (.int ms), .val (.int (2 : Int32)), .val (.int b1)] [(.int (1 : Int32)), (.int (2 : Int32))])
                  refine hst (fun t₀ k₀ => XS.icmpYes XI.here hx rfl (pc0 := 230) (pc' := 299) rfl (hb hby d3_230) rfl (tlt (by decide)).2.2.1 (by decide) (by decide) k₀) ?_
                  show F s₁ (mkF m 299 #[.val (.ref a), .val (.int fv), .val (.int lv), .val (.int ev), .val (.int (1 : Int32)), .val (.int av), .val (.int ld), .val (.int (1 : Int32)), .val (.int ls), .val (.int ms), .val (.int (2 : Int32)), .val (.int b1)] [])
                  refine hst (fun t₀ k₀ => XS.iload XI.here hx rfl (hb hby d3_299) rfl k₀) ?_
                  show F s₁ (mkF m 301 #[.val (.ref a), .val (.int fv), .val (.int lv), .val (.int ev), .val (.int (1 : Int32)), .val (.int av), .val (.int ld), .val (.int (1 : Int32)), .val (.int ls), .val (.int ms), .val (.int (2 : Int32)), .val (.int b1)] [(.int av)])
                  refine hst (fun t₀ k₀ => XS.iload XI.here hx rfl (hb hby d3_301) rfl k₀) ?_
                  show F s₁ (mkF m 303 #[.val (.ref a), .val (.int fv), .val (.int lv), .val (.int ev), .val (.int (1 : Int32)), .val (.int av), .val (.int ld), .val (.int (1 : Int32)), .val (.int ls), .val (.int ms), .val (.int (2 : Int32)), .val (.int b1)] [(.int (1 : Int32)), (.int av)])
                  refine hst (fun t₀ k₀ => XS.iconst XI.here hx rfl (hb hby d3_303) k₀) ?_
                  show F s₁ (mkF m 304 #[.val (.ref a), .val (.int fv), .val (.int lv), .val (.int ev), .val (.int (1 : Int32)), .val (.int av), .val (.int ld), .val (.int (1 : Int32)), .val (.int ls), .val (.int ms), .val (.int (2 : Int32)), .val (.int b1)] [(.int (1 : Int32)), (.int (1 : Int32)), (.int av)])
                  refine hst (fun t₀ k₀ => XS.iadd XI.here hx rfl (hb hby d3_304) rfl k₀) ?_
                  show F s₁ (mkF m 305 #[.val (.ref a), .val (.int fv), .val (.int lv), .val (.int ev), .val (.int (1 : Int32)), .val (.int av), .val (.int ld), .val (.int (1 : Int32)), .val (.int ls), .val (.int ms), .val (.int (2 : Int32)), .val (.int b1)] [(.int ((1 : Int32) + (1 : Int32))), (.int av)])
                  refine hst (fun t₀ k₀ => XS.iadd XI.here hx rfl (hb hby d3_305) rfl k₀) ?_
                  show F s₁ (mkF m 306 #[.val (.ref a), .val (.int fv), .val (.int lv), .val (.int ev), .val (.int (1 : Int32)), .val (.int av), .val (.int ld), .val (.int (1 : Int32)), .val (.int ls), .val (.int ms), .val (.int (2 : Int32)), .val (.int b1)] [(.int (av + ((1 : Int32) + (1 : Int32))))])
                  generalize hat' : (av + ((1 : Int32) + (1 : Int32))) = at'
                  show F s₁ (mkF m 306 #[.val (.ref a), .val (.int fv), .val (.int lv), .val (.int ev), .val (.int (1 : Int32)), .val (.int av), .val (.int ld), .val (.int (1 : Int32)), .val (.int ls), .val (.int ms), .val (.int (2 : Int32)), .val (.int b1)] [(.int at')])
                  have kat : at'.toInt = ((p' + 2 : Nat) : Int) := by have h1 := c_iadd 1 1; have h2 := rng32 (1 + 1); have h3 := c_iadd av (1 + 1); have h4 := rng32 at'; rw [hat'] at h3; omega
                  refine hst (fun t₀ k₀ => XS.istore XI.here hx rfl (hb hby d3_306) rfl (l' := #[.val (.ref a), .val (.int fv), .val (.int lv), .val (.int ev), .val (.int (1 : Int32)), .val (.int at'), .val (.int ld), .val (.int (1 : Int32)), .val (.int ls), .val (.int ms), .val (.int (2 : Int32)), .val (.int b1)]) rfl k₀) ?_
                  show F s₁ (mkF m 308 #[.val (.ref a), .val (.int fv), .val (.int lv), .val (.int ev), .val (.int (1 : Int32)), .val (.int at'), .val (.int ld), .val (.int (1 : Int32)), .val (.int ls), .val (.int ms), .val (.int (2 : Int32)), .val (.int b1)] [])
                  refine hst (fun t₀ k₀ => XS.goto XI.here hx rfl (pc0 := 308) (pc' := 10) rfl (hb hby d3_308) (by decide) (by decide) k₀) ?_
                  show F s₁ (mkF m 10 #[.val (.ref a), .val (.int fv), .val (.int lv), .val (.int ev), .val (.int (1 : Int32)), .val (.int at'), .val (.int ld), .val (.int (1 : Int32)), .val (.int ls), .val (.int ms), .val (.int (2 : Int32)), .val (.int b1)] [])
                  simp only [own_lt32, own_eq32] at hc207 hc256 hc263
                  have hcl : own_cl (own_B g) p' e' = 2 := by
                    unfold own_cl; (repeat' split) <;> omega
                  obtain ⟨k', rfl⟩ : ∃ k', k = k' + 1 := ⟨k - 1, by omega⟩
                  exact ih k' (by omega) (p' + 2) _ _ _ _ _ _ _ (One.val rfl) (One.val rfl) (One.val rfl) (One.val rfl) (One.val rfl) (One.val rfl) (by rw [kat]) (by omega) (by omega) (by rw [← hw', own_wf_step (own_B g) e' _ p' _ q18 hcl (by decide)])
            · -- pc 207: taken
              refine hst (fun t₀ k₀ => XS.icmpYes XI.here hx rfl (pc0 := 207) (pc' := 214) rfl (hb hby d3_207) rfl (flt hc207).2.2.2 (by decide) (by decide) k₀) ?_
              show F s₁ (mkF m 214 #[.val (.ref a), .val (.int fv), .val (.int lv), .val (.int ev), .val (.int (1 : Int32)), .val (.int av), .val (.int ld), .val (.int (1 : Int32)), .val (.int ls), .val (.int ms), s10, s11] [(.int (1 : Int32))])
              refine hst (fun t₀ k₀ => XS.iconst XI.here hx rfl (hb hby d3_214) k₀) ?_
              show F s₁ (mkF m 215 #[.val (.ref a), .val (.int fv), .val (.int lv), .val (.int ev), .val (.int (1 : Int32)), .val (.int av), .val (.int ld), .val (.int (1 : Int32)), .val (.int ls), .val (.int ms), s10, s11] [(.int (0 : Int32)), (.int (1 : Int32))])
              refine hst (fun t₀ k₀ => XS.iand XI.here hx rfl (hb hby d3_215) rfl k₀) ?_
              show F s₁ (mkF m 216 #[.val (.ref a), .val (.int fv), .val (.int lv), .val (.int ev), .val (.int (1 : Int32)), .val (.int av), .val (.int ld), .val (.int (1 : Int32)), .val (.int ls), .val (.int ms), s10, s11] [(.int ((1 : Int32) &&& (0 : Int32)))])
              show F s₁ (mkF m 216 #[.val (.ref a), .val (.int fv), .val (.int lv), .val (.int ev), .val (.int (1 : Int32)), .val (.int av), .val (.int ld), .val (.int (1 : Int32)), .val (.int ls), .val (.int ms), s10, s11] [(.int (0 : Int32))])
              refine hst (fun t₀ k₀ => XS.istore XI.here hx rfl (hb hby d3_216) rfl (l' := #[.val (.ref a), .val (.int fv), .val (.int lv), .val (.int ev), .val (.int (0 : Int32)), .val (.int av), .val (.int ld), .val (.int (1 : Int32)), .val (.int ls), .val (.int ms), s10, s11]) rfl k₀) ?_
              show F s₁ (mkF m 218 #[.val (.ref a), .val (.int fv), .val (.int lv), .val (.int ev), .val (.int (0 : Int32)), .val (.int av), .val (.int ld), .val (.int (1 : Int32)), .val (.int ls), .val (.int ms), s10, s11] [])
              refine hst (fun t₀ k₀ => XS.iconst XI.here hx rfl (hb hby d3_218) k₀) ?_
              show F s₁ (mkF m 219 #[.val (.ref a), .val (.int fv), .val (.int lv), .val (.int ev), .val (.int (0 : Int32)), .val (.int av), .val (.int ld), .val (.int (1 : Int32)), .val (.int ls), .val (.int ms), s10, s11] [(.int (1 : Int32))])
              refine hst (fun t₀ k₀ => XS.istoreS XI.here hx rfl (hb hby d3_219) rfl rfl hs10 k₀) ?_
              show F s₁ (mkF m 221 #[.val (.ref a), .val (.int fv), .val (.int lv), .val (.int ev), .val (.int (0 : Int32)), .val (.int av), .val (.int ld), .val (.int (1 : Int32)), .val (.int ls), .val (.int ms), .val (.int (1 : Int32)), s11] [])
              refine hst (fun t₀ k₀ => XS.iload XI.here hx rfl (hb hby d3_221) rfl k₀) ?_
              show F s₁ (mkF m 223 #[.val (.ref a), .val (.int fv), .val (.int lv), .val (.int ev), .val (.int (0 : Int32)), .val (.int av), .val (.int ld), .val (.int (1 : Int32)), .val (.int ls), .val (.int ms), .val (.int (1 : Int32)), s11] [(.int (0 : Int32))])
              refine hst (fun t₀ k₀ => XS.ifYes XI.here hx rfl (pc0 := 223) (pc' := 299) rfl (hb hby d3_223) rfl ((if0 _ _).trans (teq (by decide)).1) (by decide) (by decide) k₀) ?_
              show F s₁ (mkF m 299 #[.val (.ref a), .val (.int fv), .val (.int lv), .val (.int ev), .val (.int (0 : Int32)), .val (.int av), .val (.int ld), .val (.int (1 : Int32)), .val (.int ls), .val (.int ms), .val (.int (1 : Int32)), s11] [])
              refine hst (fun t₀ k₀ => XS.iload XI.here hx rfl (hb hby d3_299) rfl k₀) ?_
              show F s₁ (mkF m 301 #[.val (.ref a), .val (.int fv), .val (.int lv), .val (.int ev), .val (.int (0 : Int32)), .val (.int av), .val (.int ld), .val (.int (1 : Int32)), .val (.int ls), .val (.int ms), .val (.int (1 : Int32)), s11] [(.int av)])
              refine hst (fun t₀ k₀ => XS.iload XI.here hx rfl (hb hby d3_301) rfl k₀) ?_
              show F s₁ (mkF m 303 #[.val (.ref a), .val (.int fv), .val (.int lv), .val (.int ev), .val (.int (0 : Int32)), .val (.int av), .val (.int ld), .val (.int (1 : Int32)), .val (.int ls), .val (.int ms), .val (.int (1 : Int32)), s11] [(.int (1 : Int32)), (.int av)])
              refine hst (fun t₀ k₀ => XS.iconst XI.here hx rfl (hb hby d3_303) k₀) ?_
              show F s₁ (mkF m 304 #[.val (.ref a), .val (.int fv), .val (.int lv), .val (.int ev), .val (.int (0 : Int32)), .val (.int av), .val (.int ld), .val (.int (1 : Int32)), .val (.int ls), .val (.int ms), .val (.int (1 : Int32)), s11] [(.int (1 : Int32)), (.int (1 : Int32)), (.int av)])
              refine hst (fun t₀ k₀ => XS.iadd XI.here hx rfl (hb hby d3_304) rfl k₀) ?_
              show F s₁ (mkF m 305 #[.val (.ref a), .val (.int fv), .val (.int lv), .val (.int ev), .val (.int (0 : Int32)), .val (.int av), .val (.int ld), .val (.int (1 : Int32)), .val (.int ls), .val (.int ms), .val (.int (1 : Int32)), s11] [(.int ((1 : Int32) + (1 : Int32))), (.int av)])
              refine hst (fun t₀ k₀ => XS.iadd XI.here hx rfl (hb hby d3_305) rfl k₀) ?_
              show F s₁ (mkF m 306 #[.val (.ref a), .val (.int fv), .val (.int lv), .val (.int ev), .val (.int (0 : Int32)), .val (.int av), .val (.int ld), .val (.int (1 : Int32)), .val (.int ls), .val (.int ms), .val (.int (1 : Int32)), s11] [(.int (av + ((1 : Int32) + (1 : Int32))))])
              generalize hat' : (av + ((1 : Int32) + (1 : Int32))) = at'
              show F s₁ (mkF m 306 #[.val (.ref a), .val (.int fv), .val (.int lv), .val (.int ev), .val (.int (0 : Int32)), .val (.int av), .val (.int ld), .val (.int (1 : Int32)), .val (.int ls), .val (.int ms), .val (.int (1 : Int32)), s11] [(.int at')])
              have kat : at'.toInt = ((p' + 2 : Nat) : Int) := by have h1 := c_iadd 1 1; have h2 := rng32 (1 + 1); have h3 := c_iadd av (1 + 1); have h4 := rng32 at'; rw [hat'] at h3; omega
              refine hst (fun t₀ k₀ => XS.istore XI.here hx rfl (hb hby d3_306) rfl (l' := #[.val (.ref a), .val (.int fv), .val (.int lv), .val (.int ev), .val (.int (0 : Int32)), .val (.int at'), .val (.int ld), .val (.int (1 : Int32)), .val (.int ls), .val (.int ms), .val (.int (1 : Int32)), s11]) rfl k₀) ?_
              show F s₁ (mkF m 308 #[.val (.ref a), .val (.int fv), .val (.int lv), .val (.int ev), .val (.int (0 : Int32)), .val (.int at'), .val (.int ld), .val (.int (1 : Int32)), .val (.int ls), .val (.int ms), .val (.int (1 : Int32)), s11] [])
              refine hst (fun t₀ k₀ => XS.goto XI.here hx rfl (pc0 := 308) (pc' := 10) rfl (hb hby d3_308) (by decide) (by decide) k₀) ?_
              show F s₁ (mkF m 10 #[.val (.ref a), .val (.int fv), .val (.int lv), .val (.int ev), .val (.int (0 : Int32)), .val (.int at'), .val (.int ld), .val (.int (1 : Int32)), .val (.int ls), .val (.int ms), .val (.int (1 : Int32)), s11] [])
              show F s₁ (mkF m 10 #[.val (.ref a), .val (.int fv), .val (.int lv), .val (.int ev), .val (.int (0 : Int32)), .val (.int at'), .val (.int ld), .val (.int (1 : Int32)), .val (.int ls), .val (.int ms), .val (.int (1 : Int32)), s11] [])
              refine hst (fun t₀ k₀ => XS.iload XI.here hx rfl (hb hby d3_10) rfl k₀) ?_
              show F s₁ (mkF m 12 #[.val (.ref a), .val (.int fv), .val (.int lv), .val (.int ev), .val (.int (0 : Int32)), .val (.int at'), .val (.int ld), .val (.int (1 : Int32)), .val (.int ls), .val (.int ms), .val (.int (1 : Int32)), s11] [(.int (0 : Int32))])
              refine hst (fun t₀ k₀ => XS.ifYes XI.here hx rfl (pc0 := 12) (pc' := 311) rfl (hb hby d3_12) rfl ((if0 _ _).trans (teq (by decide)).1) (by decide) (by decide) k₀) ?_
              show F s₁ (mkF m 311 #[.val (.ref a), .val (.int fv), .val (.int lv), .val (.int ev), .val (.int (0 : Int32)), .val (.int at'), .val (.int ld), .val (.int (1 : Int32)), .val (.int ls), .val (.int ms), .val (.int (1 : Int32)), s11] [])
              refine hst (fun t₀ k₀ => XS.iload XI.here hx rfl (hb hby d3_311) rfl k₀) ?_
              show F s₁ (mkF m 313 #[.val (.ref a), .val (.int fv), .val (.int lv), .val (.int ev), .val (.int (0 : Int32)), .val (.int at'), .val (.int ld), .val (.int (1 : Int32)), .val (.int ls), .val (.int ms), .val (.int (1 : Int32)), s11] [(.int (0 : Int32))])
              rw [hF]
              refine own_retN XI hx hret (by simp) hlk (hb hby d3_313) (by decide) (by decide) ?_
              simp only [own_lt32, own_eq32] at hc207
              have hcl : own_cl (own_B g) p' e' = 0 := by
                unfold own_cl; (repeat' split) <;> omega
              obtain ⟨k', rfl⟩ : ∃ k', k = k' + 1 := ⟨k - 1, by omega⟩
              rw [eI]
              exact ⟨(by rw [← hw', own_wf_bad (own_B g) e' _ p' q18 hcl]; rfl), NI, rfl⟩
          · -- follow 2
            show F s₁ (mkF m 199 #[.val (.ref a), .val (.int fv), .val (.int lv), .val (.int ev), .val (.int (1 : Int32)), .val (.int av), .val (.int ld), .val (.int (2 : Int32)), .val (.int ls), .val (.int ms), s10, s11] [])
            refine hst (fun t₀ k₀ => XS.iload XI.here hx rfl (hb hby d3_199) rfl k₀) ?_
            show F s₁ (mkF m 201 #[.val (.ref a), .val (.int fv), .val (.int lv), .val (.int ev), .val (.int (1 : Int32)), .val (.int av), .val (.int ld), .val (.int (2 : Int32)), .val (.int ls), .val (.int ms), s10, s11] [(.int (1 : Int32))])
            refine hst (fun t₀ k₀ => XS.iloadN XI.here hx rfl (hb hby d3_201) rfl k₀) ?_
            show F s₁ (mkF m 202 #[.val (.ref a), .val (.int fv), .val (.int lv), .val (.int ev), .val (.int (1 : Int32)), .val (.int av), .val (.int ld), .val (.int (2 : Int32)), .val (.int ls), .val (.int ms), s10, s11] [(.int ev), (.int (1 : Int32))])
            refine hst (fun t₀ k₀ => XS.iload XI.here hx rfl (hb hby d3_202) rfl k₀) ?_
            show F s₁ (mkF m 204 #[.val (.ref a), .val (.int fv), .val (.int lv), .val (.int ev), .val (.int (1 : Int32)), .val (.int av), .val (.int ld), .val (.int (2 : Int32)), .val (.int ls), .val (.int ms), s10, s11] [(.int av), (.int ev), (.int (1 : Int32))])
            refine hst (fun t₀ k₀ => XS.isub XI.here hx rfl (hb hby d3_204) rfl k₀) ?_
            show F s₁ (mkF m 205 #[.val (.ref a), .val (.int fv), .val (.int lv), .val (.int ev), .val (.int (1 : Int32)), .val (.int av), .val (.int ld), .val (.int (2 : Int32)), .val (.int ls), .val (.int ms), s10, s11] [(.int (ev - av)), (.int (1 : Int32))])
            generalize hdf : (ev - av) = df
            show F s₁ (mkF m 205 #[.val (.ref a), .val (.int fv), .val (.int lv), .val (.int ev), .val (.int (1 : Int32)), .val (.int av), .val (.int ld), .val (.int (2 : Int32)), .val (.int ls), .val (.int ms), s10, s11] [(.int df), (.int (1 : Int32))])
            have kdf : df.toInt = (e' : Int) - p' := by have h1 := c_isub ev av; have h2 := rng32 df; rw [hdf] at h1; omega
            refine hst (fun t₀ k₀ => XS.iload XI.here hx rfl (hb hby d3_205) rfl k₀) ?_
            show F s₁ (mkF m 207 #[.val (.ref a), .val (.int fv), .val (.int lv), .val (.int ev), .val (.int (1 : Int32)), .val (.int av), .val (.int ld), .val (.int (2 : Int32)), .val (.int ls), .val (.int ms), s10, s11] [(.int (2 : Int32)), (.int df), (.int (1 : Int32))])
            by_cases hc207 : (2 : Int32) < df
            · -- pc 207: not taken
              refine hst (fun t₀ k₀ => XS.icmpNo XI.here hx rfl (hb hby d3_207) rfl (tlt hc207).2.2.2 k₀) ?_
              show F s₁ (mkF m 210 #[.val (.ref a), .val (.int fv), .val (.int lv), .val (.int ev), .val (.int (1 : Int32)), .val (.int av), .val (.int ld), .val (.int (2 : Int32)), .val (.int ls), .val (.int ms), s10, s11] [(.int (1 : Int32))])
              refine hst (fun t₀ k₀ => XS.iconst XI.here hx rfl (hb hby d3_210) k₀) ?_
              show F s₁ (mkF m 211 #[.val (.ref a), .val (.int fv), .val (.int lv), .val (.int ev), .val (.int (1 : Int32)), .val (.int av), .val (.int ld), .val (.int (2 : Int32)), .val (.int ls), .val (.int ms), s10, s11] [(.int (1 : Int32)), (.int (1 : Int32))])
              refine hst (fun t₀ k₀ => XS.goto XI.here hx rfl (pc0 := 211) (pc' := 215) rfl (hb hby d3_211) (by decide) (by decide) k₀) ?_
              show F s₁ (mkF m 215 #[.val (.ref a), .val (.int fv), .val (.int lv), .val (.int ev), .val (.int (1 : Int32)), .val (.int av), .val (.int ld), .val (.int (2 : Int32)), .val (.int ls), .val (.int ms), s10, s11] [(.int (1 : Int32)), (.int (1 : Int32))])
              refine hst (fun t₀ k₀ => XS.iand XI.here hx rfl (hb hby d3_215) rfl k₀) ?_
              show F s₁ (mkF m 216 #[.val (.ref a), .val (.int fv), .val (.int lv), .val (.int ev), .val (.int (1 : Int32)), .val (.int av), .val (.int ld), .val (.int (2 : Int32)), .val (.int ls), .val (.int ms), s10, s11] [(.int ((1 : Int32) &&& (1 : Int32)))])
              show F s₁ (mkF m 216 #[.val (.ref a), .val (.int fv), .val (.int lv), .val (.int ev), .val (.int (1 : Int32)), .val (.int av), .val (.int ld), .val (.int (2 : Int32)), .val (.int ls), .val (.int ms), s10, s11] [(.int (1 : Int32))])
              refine hst (fun t₀ k₀ => XS.istore XI.here hx rfl (hb hby d3_216) rfl (l' := #[.val (.ref a), .val (.int fv), .val (.int lv), .val (.int ev), .val (.int (1 : Int32)), .val (.int av), .val (.int ld), .val (.int (2 : Int32)), .val (.int ls), .val (.int ms), s10, s11]) rfl k₀) ?_
              show F s₁ (mkF m 218 #[.val (.ref a), .val (.int fv), .val (.int lv), .val (.int ev), .val (.int (1 : Int32)), .val (.int av), .val (.int ld), .val (.int (2 : Int32)), .val (.int ls), .val (.int ms), s10, s11] [])
              refine hst (fun t₀ k₀ => XS.iconst XI.here hx rfl (hb hby d3_218) k₀) ?_
              show F s₁ (mkF m 219 #[.val (.ref a), .val (.int fv), .val (.int lv), .val (.int ev), .val (.int (1 : Int32)), .val (.int av), .val (.int ld), .val (.int (2 : Int32)), .val (.int ls), .val (.int ms), s10, s11] [(.int (1 : Int32))])
              refine hst (fun t₀ k₀ => XS.istoreS XI.here hx rfl (hb hby d3_219) rfl rfl hs10 k₀) ?_
              show F s₁ (mkF m 221 #[.val (.ref a), .val (.int fv), .val (.int lv), .val (.int ev), .val (.int (1 : Int32)), .val (.int av), .val (.int ld), .val (.int (2 : Int32)), .val (.int ls), .val (.int ms), .val (.int (1 : Int32)), s11] [])
              refine hst (fun t₀ k₀ => XS.iload XI.here hx rfl (hb hby d3_221) rfl k₀) ?_
              show F s₁ (mkF m 223 #[.val (.ref a), .val (.int fv), .val (.int lv), .val (.int ev), .val (.int (1 : Int32)), .val (.int av), .val (.int ld), .val (.int (2 : Int32)), .val (.int ls), .val (.int ms), .val (.int (1 : Int32)), s11] [(.int (1 : Int32))])
              refine hst (fun t₀ k₀ => XS.ifNo XI.here hx rfl (hb hby d3_223) rfl ((if0 _ _).trans (feq (by decide)).1) k₀) ?_
              show F s₁ (mkF m 226 #[.val (.ref a), .val (.int fv), .val (.int lv), .val (.int ev), .val (.int (1 : Int32)), .val (.int av), .val (.int ld), .val (.int (2 : Int32)), .val (.int ls), .val (.int ms), .val (.int (1 : Int32)), s11] [])
              refine hst (fun t₀ k₀ => XS.iload XI.here hx rfl (hb hby d3_226) rfl k₀) ?_
              show F s₁ (mkF m 228 #[.val (.ref a), .val (.int fv), .val (.int lv), .val (.int ev), .val (.int (1 : Int32)), .val (.int av), .val (.int ld), .val (.int (2 : Int32)), .val (.int ls), .val (.int ms), .val (.int (1 : Int32)), s11] [(.int (1 : Int32))])
              refine hst (fun t₀ k₀ => XS.iload XI.here hx rfl (hb hby d3_228) rfl k₀) ?_
              show F s₁ (mkF m 230 #[.val (.ref a), .val (.int fv), .val (.int lv), .val (.int ev), .val (.int (1 : Int32)), .val (.int av), .val (.int ld), .val (.int (2 : Int32)), .val (.int ls), .val (.int ms), .val (.int (1 : Int32)), s11] [(.int (2 : Int32)), (.int (1 : Int32))])
              refine hst (fun t₀ k₀ => XS.icmpNo XI.here hx rfl (hb hby d3_230) rfl (flt (by decide)).2.2.1 k₀) ?_
              show F s₁ (mkF m 233 #[.val (.ref a), .val (.int fv), .val (.int lv), .val (.int ev), .val (.int (1 : Int32)), .val (.int av), .val (.int ld), .val (.int (2 : Int32)), .val (.int ls), .val (.int ms), .val (.int (1 : Int32)), s11] [])
              refine hst (fun t₀ k₀ => XS.aloadN XI.here hx rfl (hb hby d3_233) rfl rfl k₀) ?_
              show F s₁ (mkF m 234 #[.val (.ref a), .val (.int fv), .val (.int lv), .val (.int ev), .val (.int (1 : Int32)), .val (.int av), .val (.int ld), .val (.int (2 : Int32)), .val (.int ls), .val (.int ms), .val (.int (1 : Int32)), s11] [(.ref a)])
              refine hst (fun t₀ k₀ => XS.iload XI.here hx rfl (hb hby d3_234) rfl k₀) ?_
              show F s₁ (mkF m 236 #[.val (.ref a), .val (.int fv), .val (.int lv), .val (.int ev), .val (.int (1 : Int32)), .val (.int av), .val (.int ld), .val (.int (2 : Int32)), .val (.int ls), .val (.int ms), .val (.int (1 : Int32)), s11] [(.int av), (.ref a)])
              refine hst (fun t₀ k₀ => XS.iload XI.here hx rfl (hb hby d3_236) rfl k₀) ?_
              show F s₁ (mkF m 238 #[.val (.ref a), .val (.int fv), .val (.int lv), .val (.int ev), .val (.int (1 : Int32)), .val (.int av), .val (.int ld), .val (.int (2 : Int32)), .val (.int ls), .val (.int ms), .val (.int (1 : Int32)), s11] [(.int (1 : Int32)), (.int av), (.ref a)])
              refine hst (fun t₀ k₀ => XS.iadd XI.here hx rfl (hb hby d3_238) rfl k₀) ?_
              show F s₁ (mkF m 239 #[.val (.ref a), .val (.int fv), .val (.int lv), .val (.int ev), .val (.int (1 : Int32)), .val (.int av), .val (.int ld), .val (.int (2 : Int32)), .val (.int ls), .val (.int ms), .val (.int (1 : Int32)), s11] [(.int (av + (1 : Int32))), (.ref a)])
              generalize hix1 : (av + (1 : Int32)) = ix1
              show F s₁ (mkF m 239 #[.val (.ref a), .val (.int fv), .val (.int lv), .val (.int ev), .val (.int (1 : Int32)), .val (.int av), .val (.int ld), .val (.int (2 : Int32)), .val (.int ls), .val (.int ms), .val (.int (1 : Int32)), s11] [(.int ix1), (.ref a)])
              have kix1 : ix1.toInt = ((p' + 1 : Nat) : Int) := by have h1 := c_iadd av 1; have h2 := rng32 ix1; rw [hix1] at h1; omega
              have ql1 : p' + 1 < e' := by simp only [own_lt32] at hc207; omega
              refine hst (fun t₀ k₀ => own_baload XI hx hZ eI Ar (own_idx ix1 6 (by omega) (by omega)) (v := (.int (g (p' + 1)))) (by show Value.int (g ix1.toNatClampNeg) = _; rw [own_clamp ix1 _ kix1]) (g := (mkF m 239 #[.val (.ref a), .val (.int fv), .val (.int lv), .val (.int ev), .val (.int (1 : Int32)), .val (.int av), .val (.int ld), .val (.int (2 : Int32)), .val (.int ls), .val (.int ms), .val (.int (1 : Int32)), s11] [(.int ix1), (.ref a)])) rfl rfl (hb hby d3_239) t₀ k₀) ?_
              show F s₁ (mkF m 240 #[.val (.ref a), .val (.int fv), .val (.int lv), .val (.int ev), .val (.int (1 : Int32)), .val (.int av), .val (.int ld), .val (.int (2 : Int32)), .val (.int ls), .val (.int ms), .val (.int (1 : Int32)), s11] [(.int (g (p' + 1)))])
              refine hst (fun t₀ k₀ => XS.sipush XI.here hx rfl (hb hby d3_240) k₀) ?_
              show F s₁ (mkF m 243 #[.val (.ref a), .val (.int fv), .val (.int lv), .val (.int ev), .val (.int (1 : Int32)), .val (.int av), .val (.int ld), .val (.int (2 : Int32)), .val (.int ls), .val (.int ms), .val (.int (1 : Int32)), s11] [(.int (255 : Int32)), (.int (g (p' + 1)))])
              refine hst (fun t₀ k₀ => XS.iand XI.here hx rfl (hb hby d3_243) rfl k₀) ?_
              show F s₁ (mkF m 244 #[.val (.ref a), .val (.int fv), .val (.int lv), .val (.int ev), .val (.int (1 : Int32)), .val (.int av), .val (.int ld), .val (.int (2 : Int32)), .val (.int ls), .val (.int ms), .val (.int (1 : Int32)), s11] [(.int ((g (p' + 1)) &&& (255 : Int32)))])
              generalize hb1 : ((g (p' + 1)) &&& (255 : Int32)) = b1
              show F s₁ (mkF m 244 #[.val (.ref a), .val (.int fv), .val (.int lv), .val (.int ev), .val (.int (1 : Int32)), .val (.int av), .val (.int ld), .val (.int (2 : Int32)), .val (.int ls), .val (.int ms), .val (.int (1 : Int32)), s11] [(.int b1)])
              obtain ⟨kb1, kb1b⟩ : b1.toInt = (own_B g (p' + 1) : Int) ∧ own_B g (p' + 1) < 256 := by rw [← hb1]; exact own_byte g _
              refine hst (fun t₀ k₀ => XS.istoreS XI.here hx rfl (hb hby d3_244) rfl rfl hs11 k₀) ?_
              show F s₁ (mkF m 246 #[.val (.ref a), .val (.int fv), .val (.int lv), .val (.int ev), .val (.int (1 : Int32)), .val (.int av), .val (.int ld), .val (.int (2 : Int32)), .val (.int ls), .val (.int ms), .val (.int (1 : Int32)), .val (.int b1)] [])
              refine hst (fun t₀ k₀ => XS.iload XI.here hx rfl (hb hby d3_246) rfl k₀) ?_
              show F s₁ (mkF m 248 #[.val (.ref a), .val (.int fv), .val (.int lv), .val (.int ev), .val (.int (1 : Int32)), .val (.int av), .val (.int ld), .val (.int (2 : Int32)), .val (.int ls), .val (.int ms), .val (.int (1 : Int32)), .val (.int b1)] [(.int (1 : Int32))])
              refine hst (fun t₀ k₀ => XS.iconst XI.here hx rfl (hb hby d3_248) k₀) ?_
              show F s₁ (mkF m 249 #[.val (.ref a), .val (.int fv), .val (.int lv), .val (.int ev), .val (.int (1 : Int32)), .val (.int av), .val (.int ld), .val (.int (2 : Int32)), .val (.int ls), .val (.int ms), .val (.int (1 : Int32)), .val (.int b1)] [(.int (1 : Int32)), (.int (1 : Int32))])
              refine hst (fun t₀ k₀ => XS.icmpNo XI.here hx rfl (hb hby d3_249) rfl (teq (by decide)).2 k₀) ?_
              show F s₁ (mkF m 252 #[.val (.ref a), .val (.int fv), .val (.int lv), .val (.int ev), .val (.int (1 : Int32)), .val (.int av), .val (.int ld), .val (.int (2 : Int32)), .val (.int ls), .val (.int ms), .val (.int (1 : Int32)), .val (.int b1)] [])
              refine hst (fun t₀ k₀ => XS.iload XI.here hx rfl (hb hby d3_252) rfl k₀) ?_
              show F s₁ (mkF m 254 #[.val (.ref a), .val (.int fv), .val (.int lv), .val (.int ev), .val (.int (1 : Int32)), .val (.int av), .val (.int ld), .val (.int (2 : Int32)), .val (.int ls), .val (.int ms), .val (.int (1 : Int32)), .val (.int b1)] [(.int b1)])
              refine hst (fun t₀ k₀ => XS.iload XI.here hx rfl (hb hby d3_254) rfl k₀) ?_
              show F s₁ (mkF m 256 #[.val (.ref a), .val (.int fv), .val (.int lv), .val (.int ev), .val (.int (1 : Int32)), .val (.int av), .val (.int ld), .val (.int (2 : Int32)), .val (.int ls), .val (.int ms), .val (.int (1 : Int32)), .val (.int b1)] [(.int ls), (.int b1)])
              by_cases hc256 : b1 < ls
              · -- pc 256: taken
                refine hst (fun t₀ k₀ => XS.icmpYes XI.here hx rfl (pc0 := 256) (pc' := 270) rfl (hb hby d3_256) rfl (tlt hc256).1 (by decide) (by decide) k₀) ?_
                show F s₁ (mkF m 270 #[.val (.ref a), .val (.int fv), .val (.int lv), .val (.int ev), .val (.int (1 : Int32)), .val (.int av), .val (.int ld), .val (.int (2 : Int32)), .val (.int ls), .val (.int ms), .val (.int (1 : Int32)), .val (.int b1)] [])
                refine hst (fun t₀ k₀ => XS.iconst XI.here hx rfl (hb hby d3_270) k₀) ?_
                show F s₁ (mkF m 271 #[.val (.ref a), .val (.int fv), .val (.int lv), .val (.int ev), .val (.int (1 : Int32)), .val (.int av), .val (.int ld), .val (.int (2 : Int32)), .val (.int ls), .val (.int ms), .val (.int (1 : Int32)), .val (.int b1)] [(.int (0 : Int32))])
                refine hst (fun t₀ k₀ => XS.goto XI.here hx rfl (pc0 := 271) (pc' := 291) rfl (hb hby d3_271) (by decide) (by decide) k₀) ?_
                show F s₁ (mkF m 291 #[.val (.ref a), .val (.int fv), .val (.int lv), .val (.int ev), .val (.int (1 : Int32)), .val (.int av), .val (.int ld), .val (.int (2 : Int32)), .val (.int ls), .val (.int ms), .val (.int (1 : Int32)), .val (.int b1)] [(.int (0 : Int32))])
                refine hst (fun t₀ k₀ => XS.istore XI.here hx rfl (hb hby d3_291) rfl (l' := #[.val (.ref a), .val (.int fv), .val (.int lv), .val (.int ev), .val (.int (0 : Int32)), .val (.int av), .val (.int ld), .val (.int (2 : Int32)), .val (.int ls), .val (.int ms), .val (.int (1 : Int32)), .val (.int b1)]) rfl k₀) ?_
                show F s₁ (mkF m 293 #[.val (.ref a), .val (.int fv), .val (.int lv), .val (.int ev), .val (.int (0 : Int32)), .val (.int av), .val (.int ld), .val (.int (2 : Int32)), .val (.int ls), .val (.int ms), .val (.int (1 : Int32)), .val (.int b1)] [])
                refine hst (fun t₀ k₀ => XS.iinc XI.here hx rfl (hb hby d3_293) rfl (l' := #[.val (.ref a), .val (.int fv), .val (.int lv), .val (.int ev), .val (.int (0 : Int32)), .val (.int av), .val (.int ld), .val (.int (2 : Int32)), .val (.int ls), .val (.int ms), .val (.int ((1 : Int32) + (1 : Int32))), .val (.int b1)]) rfl k₀) ?_
                show F s₁ (mkF m 296 #[.val (.ref a), .val (.int fv), .val (.int lv), .val (.int ev), .val (.int (0 : Int32)), .val (.int av), .val (.int ld), .val (.int (2 : Int32)), .val (.int ls), .val (.int ms), .val (.int ((1 : Int32) + (1 : Int32))), .val (.int b1)] [])
                show F s₁ (mkF m 296 #[.val (.ref a), .val (.int fv), .val (.int lv), .val (.int ev), .val (.int (0 : Int32)), .val (.int av), .val (.int ld), .val (.int (2 : Int32)), .val (.int ls), .val (.int ms), .val (.int (2 : Int32)), .val (.int b1)] [])
                refine hst (fun t₀ k₀ => XS.goto XI.here hx rfl (pc0 := 296) (pc' := 221) rfl (hb hby d3_296) (by decide) (by decide) k₀) ?_
                show F s₁ (mkF m 221 #[.val (.ref a), .val (.int fv), .val (.int lv), .val (.int ev), .val (.int (0 : Int32)), .val (.int av), .val (.int ld), .val (.int (2 : Int32)), .val (.int ls), .val (.int ms), .val (.int (2 : Int32)), .val (.int b1)] [])
                refine hst (fun t₀ k₀ => XS.iload XI.here hx rfl (hb hby d3_221) rfl k₀) ?_
                show F s₁ (mkF m 223 #[.val (.ref a), .val (.int fv), .val (.int lv), .val (.int ev), .val (.int (0 : Int32)), .val (.int av), .val (.int ld), .val (.int (2 : Int32)), .val (.int ls), .val (.int ms), .val (.int (2 : Int32)), .val (.int b1)] [(.int (0 : Int32))])
                refine hst (fun t₀ k₀ => XS.ifYes XI.here hx rfl (pc0 := 223) (pc' := 299) rfl (hb hby d3_223) rfl ((if0 _ _).trans (teq (by decide)).1) (by decide) (by decide) k₀) ?_
                show F s₁ (mkF m 299 #[.val (.ref a), .val (.int fv), .val (.int lv), .val (.int ev), .val (.int (0 : Int32)), .val (.int av), .val (.int ld), .val (.int (2 : Int32)), .val (.int ls), .val (.int ms), .val (.int (2 : Int32)), .val (.int b1)] [])
                refine hst (fun t₀ k₀ => XS.iload XI.here hx rfl (hb hby d3_299) rfl k₀) ?_
                show F s₁ (mkF m 301 #[.val (.ref a), .val (.int fv), .val (.int lv), .val (.int ev), .val (.int (0 : Int32)), .val (.int av), .val (.int ld), .val (.int (2 : Int32)), .val (.int ls), .val (.int ms), .val (.int (2 : Int32)), .val (.int b1)] [(.int av)])
                refine hst (fun t₀ k₀ => XS.iload XI.here hx rfl (hb hby d3_301) rfl k₀) ?_
                show F s₁ (mkF m 303 #[.val (.ref a), .val (.int fv), .val (.int lv), .val (.int ev), .val (.int (0 : Int32)), .val (.int av), .val (.int ld), .val (.int (2 : Int32)), .val (.int ls), .val (.int ms), .val (.int (2 : Int32)), .val (.int b1)] [(.int (2 : Int32)), (.int av)])
                refine hst (fun t₀ k₀ => XS.iconst XI.here hx rfl (hb hby d3_303) k₀) ?_
                show F s₁ (mkF m 304 #[.val (.ref a), .val (.int fv), .val (.int lv), .val (.int ev), .val (.int (0 : Int32)), .val (.int av), .val (.int ld), .val (.int (2 : Int32)), .val (.int ls), .val (.int ms), .val (.int (2 : Int32)), .val (.int b1)] [(.int (1 : Int32)), (.int (2 : Int32)), (.int av)])
                refine hst (fun t₀ k₀ => XS.iadd XI.here hx rfl (hb hby d3_304) rfl k₀) ?_
                show F s₁ (mkF m 305 #[.val (.ref a), .val (.int fv), .val (.int lv), .val (.int ev), .val (.int (0 : Int32)), .val (.int av), .val (.int ld), .val (.int (2 : Int32)), .val (.int ls), .val (.int ms), .val (.int (2 : Int32)), .val (.int b1)] [(.int ((2 : Int32) + (1 : Int32))), (.int av)])
                refine hst (fun t₀ k₀ => XS.iadd XI.here hx rfl (hb hby d3_305) rfl k₀) ?_
                show F s₁ (mkF m 306 #[.val (.ref a), .val (.int fv), .val (.int lv), .val (.int ev), .val (.int (0 : Int32)), .val (.int av), .val (.int ld), .val (.int (2 : Int32)), .val (.int ls), .val (.int ms), .val (.int (2 : Int32)), .val (.int b1)] [(.int (av + ((2 : Int32) + (1 : Int32))))])
                generalize hat' : (av + ((2 : Int32) + (1 : Int32))) = at'
                show F s₁ (mkF m 306 #[.val (.ref a), .val (.int fv), .val (.int lv), .val (.int ev), .val (.int (0 : Int32)), .val (.int av), .val (.int ld), .val (.int (2 : Int32)), .val (.int ls), .val (.int ms), .val (.int (2 : Int32)), .val (.int b1)] [(.int at')])
                have kat : at'.toInt = ((p' + 3 : Nat) : Int) := by have h1 := c_iadd 2 1; have h2 := rng32 (2 + 1); have h3 := c_iadd av (2 + 1); have h4 := rng32 at'; rw [hat'] at h3; omega
                refine hst (fun t₀ k₀ => XS.istore XI.here hx rfl (hb hby d3_306) rfl (l' := #[.val (.ref a), .val (.int fv), .val (.int lv), .val (.int ev), .val (.int (0 : Int32)), .val (.int at'), .val (.int ld), .val (.int (2 : Int32)), .val (.int ls), .val (.int ms), .val (.int (2 : Int32)), .val (.int b1)]) rfl k₀) ?_
                show F s₁ (mkF m 308 #[.val (.ref a), .val (.int fv), .val (.int lv), .val (.int ev), .val (.int (0 : Int32)), .val (.int at'), .val (.int ld), .val (.int (2 : Int32)), .val (.int ls), .val (.int ms), .val (.int (2 : Int32)), .val (.int b1)] [])
                refine hst (fun t₀ k₀ => XS.goto XI.here hx rfl (pc0 := 308) (pc' := 10) rfl (hb hby d3_308) (by decide) (by decide) k₀) ?_
                show F s₁ (mkF m 10 #[.val (.ref a), .val (.int fv), .val (.int lv), .val (.int ev), .val (.int (0 : Int32)), .val (.int at'), .val (.int ld), .val (.int (2 : Int32)), .val (.int ls), .val (.int ms), .val (.int (2 : Int32)), .val (.int b1)] [])
                show F s₁ (mkF m 10 #[.val (.ref a), .val (.int fv), .val (.int lv), .val (.int ev), .val (.int (0 : Int32)), .val (.int at'), .val (.int ld), .val (.int (2 : Int32)), .val (.int ls), .val (.int ms), .val (.int (2 : Int32)), .val (.int b1)] [])
                refine hst (fun t₀ k₀ => XS.iload XI.here hx rfl (hb hby d3_10) rfl k₀) ?_
                show F s₁ (mkF m 12 #[.val (.ref a), .val (.int fv), .val (.int lv), .val (.int ev), .val (.int (0 : Int32)), .val (.int at'), .val (.int ld), .val (.int (2 : Int32)), .val (.int ls), .val (.int ms), .val (.int (2 : Int32)), .val (.int b1)] [(.int (0 : Int32))])
                refine hst (fun t₀ k₀ => XS.ifYes XI.here hx rfl (pc0 := 12) (pc' := 311) rfl (hb hby d3_12) rfl ((if0 _ _).trans (teq (by decide)).1) (by decide) (by decide) k₀) ?_
                show F s₁ (mkF m 311 #[.val (.ref a), .val (.int fv), .val (.int lv), .val (.int ev), .val (.int (0 : Int32)), .val (.int at'), .val (.int ld), .val (.int (2 : Int32)), .val (.int ls), .val (.int ms), .val (.int (2 : Int32)), .val (.int b1)] [])
                refine hst (fun t₀ k₀ => XS.iload XI.here hx rfl (hb hby d3_311) rfl k₀) ?_
                show F s₁ (mkF m 313 #[.val (.ref a), .val (.int fv), .val (.int lv), .val (.int ev), .val (.int (0 : Int32)), .val (.int at'), .val (.int ld), .val (.int (2 : Int32)), .val (.int ls), .val (.int ms), .val (.int (2 : Int32)), .val (.int b1)] [(.int (0 : Int32))])
                rw [hF]
                refine own_retN XI hx hret (by simp) hlk (hb hby d3_313) (by decide) (by decide) ?_
                simp only [own_lt32, own_eq32] at hc207 hc256
                have hcl : own_cl (own_B g) p' e' = 0 := by
                  unfold own_cl; (repeat' split) <;> omega
                obtain ⟨k', rfl⟩ : ∃ k', k = k' + 1 := ⟨k - 1, by omega⟩
                rw [eI]
                exact ⟨(by rw [← hw', own_wf_bad (own_B g) e' _ p' q18 hcl]; rfl), NI, rfl⟩
              · -- pc 256: not taken
                refine hst (fun t₀ k₀ => XS.icmpNo XI.here hx rfl (hb hby d3_256) rfl (flt hc256).1 k₀) ?_
                show F s₁ (mkF m 259 #[.val (.ref a), .val (.int fv), .val (.int lv), .val (.int ev), .val (.int (1 : Int32)), .val (.int av), .val (.int ld), .val (.int (2 : Int32)), .val (.int ls), .val (.int ms), .val (.int (1 : Int32)), .val (.int b1)] [])
                refine hst (fun t₀ k₀ => XS.iload XI.here hx rfl (hb hby d3_259) rfl k₀) ?_
                show F s₁ (mkF m 261 #[.val (.ref a), .val (.int fv), .val (.int lv), .val (.int ev), .val (.int (1 : Int32)), .val (.int av), .val (.int ld), .val (.int (2 : Int32)), .val (.int ls), .val (.int ms), .val (.int (1 : Int32)), .val (.int b1)] [(.int b1)])
                refine hst (fun t₀ k₀ => XS.iload XI.here hx rfl (hb hby d3_261) rfl k₀) ?_
                show F s₁ (mkF m 263 #[.val (.ref a), .val (.int fv), .val (.int lv), .val (.int ev), .val (.int (1 : Int32)), .val (.int av), .val (.int ld), .val (.int (2 : Int32)), .val (.int ls), .val (.int ms), .val (.int (1 : Int32)), .val (.int b1)] [(.int ms), (.int b1)])
                by_cases hc263 : ms < b1
                · -- pc 263: taken
                  refine hst (fun t₀ k₀ => XS.icmpYes XI.here hx rfl (pc0 := 263) (pc' := 270) rfl (hb hby d3_263) rfl (tlt hc263).2.2.1 (by decide) (by decide) k₀) ?_
                  show F s₁ (mkF m 270 #[.val (.ref a), .val (.int fv), .val (.int lv), .val (.int ev), .val (.int (1 : Int32)), .val (.int av), .val (.int ld), .val (.int (2 : Int32)), .val (.int ls), .val (.int ms), .val (.int (1 : Int32)), .val (.int b1)] [])
                  refine hst (fun t₀ k₀ => XS.iconst XI.here hx rfl (hb hby d3_270) k₀) ?_
                  show F s₁ (mkF m 271 #[.val (.ref a), .val (.int fv), .val (.int lv), .val (.int ev), .val (.int (1 : Int32)), .val (.int av), .val (.int ld), .val (.int (2 : Int32)), .val (.int ls), .val (.int ms), .val (.int (1 : Int32)), .val (.int b1)] [(.int (0 : Int32))])
                  refine hst (fun t₀ k₀ => XS.goto XI.here hx rfl (pc0 := 271) (pc' := 291) rfl (hb hby d3_271) (by decide) (by decide) k₀) ?_
                  show F s₁ (mkF m 291 #[.val (.ref a), .val (.int fv), .val (.int lv), .val (.int ev), .val (.int (1 : Int32)), .val (.int av), .val (.int ld), .val (.int (2 : Int32)), .val (.int ls), .val (.int ms), .val (.int (1 : Int32)), .val (.int b1)] [(.int (0 : Int32))])
                  refine hst (fun t₀ k₀ => XS.istore XI.here hx rfl (hb hby d3_291) rfl (l' := #[.val (.ref a), .val (.int fv), .val (.int lv), .val (.int ev), .val (.int (0 : Int32)), .val (.int av), .val (.int ld), .val (.int (2 : Int32)), .val (.int ls), .val (.int ms), .val (.int (1 : Int32)), .val (.int b1)]) rfl k₀) ?_
                  show F s₁ (mkF m 293 #[.val (.ref a), .val (.int fv), .val (.int lv), .val (.int ev), .val (.int (0 : Int32)), .val (.int av), .val (.int ld), .val (.int (2 : Int32)), .val (.int ls), .val (.int ms), .val (.int (1 : Int32)), .val (.int b1)] [])
                  refine hst (fun t₀ k₀ => XS.iinc XI.here hx rfl (hb hby d3_293) rfl (l' := #[.val (.ref a), .val (.int fv), .val (.int lv), .val (.int ev), .val (.int (0 : Int32)), .val (.int av), .val (.int ld), .val (.int (2 : Int32)), .val (.int ls), .val (.int ms), .val (.int ((1 : Int32) + (1 : Int32))), .val (.int b1)]) rfl k₀) ?_
                  show F s₁ (mkF m 296 #[.val (.ref a), .val (.int fv), .val (.int lv), .val (.int ev), .val (.int (0 : Int32)), .val (.int av), .val (.int ld), .val (.int (2 : Int32)), .val (.int ls), .val (.int ms), .val (.int ((1 : Int32) + (1 : Int32))), .val (.int b1)] [])
                  show F s₁ (mkF m 296 #[.val (.ref a), .val (.int fv), .val (.int lv), .val (.int ev), .val (.int (0 : Int32)), .val (.int av), .val (.int ld), .val (.int (2 : Int32)), .val (.int ls), .val (.int ms), .val (.int (2 : Int32)), .val (.int b1)] [])
                  refine hst (fun t₀ k₀ => XS.goto XI.here hx rfl (pc0 := 296) (pc' := 221) rfl (hb hby d3_296) (by decide) (by decide) k₀) ?_
                  show F s₁ (mkF m 221 #[.val (.ref a), .val (.int fv), .val (.int lv), .val (.int ev), .val (.int (0 : Int32)), .val (.int av), .val (.int ld), .val (.int (2 : Int32)), .val (.int ls), .val (.int ms), .val (.int (2 : Int32)), .val (.int b1)] [])
                  refine hst (fun t₀ k₀ => XS.iload XI.here hx rfl (hb hby d3_221) rfl k₀) ?_
                  show F s₁ (mkF m 223 #[.val (.ref a), .val (.int fv), .val (.int lv), .val (.int ev), .val (.int (0 : Int32)), .val (.int av), .val (.int ld), .val (.int (2 : Int32)), .val (.int ls), .val (.int ms), .val (.int (2 : Int32)), .val (.int b1)] [(.int (0 : Int32))])
                  refine hst (fun t₀ k₀ => XS.ifYes XI.here hx rfl (pc0 := 223) (pc' := 299) rfl (hb hby d3_223) rfl ((if0 _ _).trans (teq (by decide)).1) (by decide) (by decide) k₀) ?_
                  show F s₁ (mkF m 299 #[.val (.ref a), .val (.int fv), .val (.int lv), .val (.int ev), .val (.int (0 : Int32)), .val (.int av), .val (.int ld), .val (.int (2 : Int32)), .val (.int ls), .val (.int ms), .val (.int (2 : Int32)), .val (.int b1)] [])
                  refine hst (fun t₀ k₀ => XS.iload XI.here hx rfl (hb hby d3_299) rfl k₀) ?_
                  show F s₁ (mkF m 301 #[.val (.ref a), .val (.int fv), .val (.int lv), .val (.int ev), .val (.int (0 : Int32)), .val (.int av), .val (.int ld), .val (.int (2 : Int32)), .val (.int ls), .val (.int ms), .val (.int (2 : Int32)), .val (.int b1)] [(.int av)])
                  refine hst (fun t₀ k₀ => XS.iload XI.here hx rfl (hb hby d3_301) rfl k₀) ?_
                  show F s₁ (mkF m 303 #[.val (.ref a), .val (.int fv), .val (.int lv), .val (.int ev), .val (.int (0 : Int32)), .val (.int av), .val (.int ld), .val (.int (2 : Int32)), .val (.int ls), .val (.int ms), .val (.int (2 : Int32)), .val (.int b1)] [(.int (2 : Int32)), (.int av)])
                  refine hst (fun t₀ k₀ => XS.iconst XI.here hx rfl (hb hby d3_303) k₀) ?_
                  show F s₁ (mkF m 304 #[.val (.ref a), .val (.int fv), .val (.int lv), .val (.int ev), .val (.int (0 : Int32)), .val (.int av), .val (.int ld), .val (.int (2 : Int32)), .val (.int ls), .val (.int ms), .val (.int (2 : Int32)), .val (.int b1)] [(.int (1 : Int32)), (.int (2 : Int32)), (.int av)])
                  refine hst (fun t₀ k₀ => XS.iadd XI.here hx rfl (hb hby d3_304) rfl k₀) ?_
                  show F s₁ (mkF m 305 #[.val (.ref a), .val (.int fv), .val (.int lv), .val (.int ev), .val (.int (0 : Int32)), .val (.int av), .val (.int ld), .val (.int (2 : Int32)), .val (.int ls), .val (.int ms), .val (.int (2 : Int32)), .val (.int b1)] [(.int ((2 : Int32) + (1 : Int32))), (.int av)])
                  refine hst (fun t₀ k₀ => XS.iadd XI.here hx rfl (hb hby d3_305) rfl k₀) ?_
                  show F s₁ (mkF m 306 #[.val (.ref a), .val (.int fv), .val (.int lv), .val (.int ev), .val (.int (0 : Int32)), .val (.int av), .val (.int ld), .val (.int (2 : Int32)), .val (.int ls), .val (.int ms), .val (.int (2 : Int32)), .val (.int b1)] [(.int (av + ((2 : Int32) + (1 : Int32))))])
                  generalize hat' : (av + ((2 : Int32) + (1 : Int32))) = at'
                  show F s₁ (mkF m 306 #[.val (.ref a), .val (.int fv), .val (.int lv), .val (.int ev), .val (.int (0 : Int32)), .val (.int av), .val (.int ld), .val (.int (2 : Int32)), .val (.int ls), .val (.int ms), .val (.int (2 : Int32)), .val (.int b1)] [(.int at')])
                  have kat : at'.toInt = ((p' + 3 : Nat) : Int) := by have h1 := c_iadd 2 1; have h2 := rng32 (2 + 1); have h3 := c_iadd av (2 + 1); have h4 := rng32 at'; rw [hat'] at h3; omega
                  refine hst (fun t₀ k₀ => XS.istore XI.here hx rfl (hb hby d3_306) rfl (l' := #[.val (.ref a), .val (.int fv), .val (.int lv), .val (.int ev), .val (.int (0 : Int32)), .val (.int at'), .val (.int ld), .val (.int (2 : Int32)), .val (.int ls), .val (.int ms), .val (.int (2 : Int32)), .val (.int b1)]) rfl k₀) ?_
                  show F s₁ (mkF m 308 #[.val (.ref a), .val (.int fv), .val (.int lv), .val (.int ev), .val (.int (0 : Int32)), .val (.int at'), .val (.int ld), .val (.int (2 : Int32)), .val (.int ls), .val (.int ms), .val (.int (2 : Int32)), .val (.int b1)] [])
                  refine hst (fun t₀ k₀ => XS.goto XI.here hx rfl (pc0 := 308) (pc' := 10) rfl (hb hby d3_308) (by decide) (by decide) k₀) ?_
                  show F s₁ (mkF m 10 #[.val (.ref a), .val (.int fv), .val (.int lv), .val (.int ev), .val (.int (0 : Int32)), .val (.int at'), .val (.int ld), .val (.int (2 : Int32)), .val (.int ls), .val (.int ms), .val (.int (2 : Int32)), .val (.int b1)] [])
                  show F s₁ (mkF m 10 #[.val (.ref a), .val (.int fv), .val (.int lv), .val (.int ev), .val (.int (0 : Int32)), .val (.int at'), .val (.int ld), .val (.int (2 : Int32)), .val (.int ls), .val (.int ms), .val (.int (2 : Int32)), .val (.int b1)] [])
                  refine hst (fun t₀ k₀ => XS.iload XI.here hx rfl (hb hby d3_10) rfl k₀) ?_
                  show F s₁ (mkF m 12 #[.val (.ref a), .val (.int fv), .val (.int lv), .val (.int ev), .val (.int (0 : Int32)), .val (.int at'), .val (.int ld), .val (.int (2 : Int32)), .val (.int ls), .val (.int ms), .val (.int (2 : Int32)), .val (.int b1)] [(.int (0 : Int32))])
                  refine hst (fun t₀ k₀ => XS.ifYes XI.here hx rfl (pc0 := 12) (pc' := 311) rfl (hb hby d3_12) rfl ((if0 _ _).trans (teq (by decide)).1) (by decide) (by decide) k₀) ?_
                  show F s₁ (mkF m 311 #[.val (.ref a), .val (.int fv), .val (.int lv), .val (.int ev), .val (.int (0 : Int32)), .val (.int at'), .val (.int ld), .val (.int (2 : Int32)), .val (.int ls), .val (.int ms), .val (.int (2 : Int32)), .val (.int b1)] [])
                  refine hst (fun t₀ k₀ => XS.iload XI.here hx rfl (hb hby d3_311) rfl k₀) ?_
                  show F s₁ (mkF m 313 #[.val (.ref a), .val (.int fv), .val (.int lv), .val (.int ev), .val (.int (0 : Int32)), .val (.int at'), .val (.int ld), .val (.int (2 : Int32)), .val (.int ls), .val (.int ms), .val (.int (2 : Int32)), .val (.int b1)] [(.int (0 : Int32))])
                  rw [hF]
                  refine own_retN XI hx hret (by simp) hlk (hb hby d3_313) (by decide) (by decide) ?_
                  simp only [own_lt32, own_eq32] at hc207 hc256 hc263
                  have hcl : own_cl (own_B g) p' e' = 0 := by
                    unfold own_cl; (repeat' split) <;> omega
                  obtain ⟨k', rfl⟩ : ∃ k', k = k' + 1 := ⟨k - 1, by omega⟩
                  rw [eI]
                  exact ⟨(by rw [← hw', own_wf_bad (own_B g) e' _ p' q18 hcl]; rfl), NI, rfl⟩
                · -- pc 263: not taken
                  refine hst (fun t₀ k₀ => XS.icmpNo XI.here hx rfl (hb hby d3_263) rfl (flt hc263).2.2.1 k₀) ?_
                  show F s₁ (mkF m 266 #[.val (.ref a), .val (.int fv), .val (.int lv), .val (.int ev), .val (.int (1 : Int32)), .val (.int av), .val (.int ld), .val (.int (2 : Int32)), .val (.int ls), .val (.int ms), .val (.int (1 : Int32)), .val (.int b1)] [])
                  refine hst (fun t₀ k₀ => XS.iconst XI.here hx rfl (hb hby d3_266) k₀) ?_
                  show F s₁ (mkF m 267 #[.val (.ref a), .val (.int fv), .val (.int lv), .val (.int ev), .val (.int (1 : Int32)), .val (.int av), .val (.int ld), .val (.int (2 : Int32)), .val (.int ls), .val (.int ms), .val (.int (1 : Int32)), .val (.int b1)] [(.int (1 : Int32))])
                  refine hst (fun t₀ k₀ => XS.goto XI.here hx rfl (pc0 := 267) (pc' := 291) rfl (hb hby d3_267) (by decide) (by decide) k₀) ?_
                  show F s₁ (mkF m 291 #[.val (.ref a), .val (.int fv), .val (.int lv), .val (.int ev), .val (.int (1 : Int32)), .val (.int av), .val (.int ld), .val (.int (2 : Int32)), .val (.int ls), .val (.int ms), .val (.int (1 : Int32)), .val (.int b1)] [(.int (1 : Int32))])
                  refine hst (fun t₀ k₀ => XS.istore XI.here hx rfl (hb hby d3_291) rfl (l' := #[.val (.ref a), .val (.int fv), .val (.int lv), .val (.int ev), .val (.int (1 : Int32)), .val (.int av), .val (.int ld), .val (.int (2 : Int32)), .val (.int ls), .val (.int ms), .val (.int (1 : Int32)), .val (.int b1)]) rfl k₀) ?_
                  show F s₁ (mkF m 293 #[.val (.ref a), .val (.int fv), .val (.int lv), .val (.int ev), .val (.int (1 : Int32)), .val (.int av), .val (.int ld), .val (.int (2 : Int32)), .val (.int ls), .val (.int ms), .val (.int (1 : Int32)), .val (.int b1)] [])
                  refine hst (fun t₀ k₀ => XS.iinc XI.here hx rfl (hb hby d3_293) rfl (l' := #[.val (.ref a), .val (.int fv), .val (.int lv), .val (.int ev), .val (.int (1 : Int32)), .val (.int av), .val (.int ld), .val (.int (2 : Int32)), .val (.int ls), .val (.int ms), .val (.int ((1 : Int32) + (1 : Int32))), .val (.int b1)]) rfl k₀) ?_
                  show F s₁ (mkF m 296 #[.val (.ref a), .val (.int fv), .val (.int lv), .val (.int ev), .val (.int (1 : Int32)), .val (.int av), .val (.int ld), .val (.int (2 : Int32)), .val (.int ls), .val (.int ms), .val (.int ((1 : Int32) + (1 : Int32))), .val (.int b1)] [])
                  show F s₁ (mkF m 296 #[.val (.ref a), .val (.int fv), .val (.int lv), .val (.int ev), .val (.int (1 : Int32)), .val (.int av), .val (.int ld), .val (.int (2 : Int32)), .val (.int ls), .val (.int ms), .val (.int (2 : Int32)), .val (.int b1)] [])
                  refine hst (fun t₀ k₀ => XS.goto XI.here hx rfl (pc0 := 296) (pc' := 221) rfl (hb hby d3_296) (by decide) (by decide) k₀) ?_
                  show F s₁ (mkF m 221 #[.val (.ref a), .val (.int fv), .val (.int lv), .val (.int ev), .val (.int (1 : Int32)), .val (.int av), .val (.int ld), .val (.int (2 : Int32)), .val (.int ls), .val (.int ms), .val (.int (2 : Int32)), .val (.int b1)] [])
                  refine hst (fun t₀ k₀ => XS.iload XI.here hx rfl (hb hby d3_221) rfl k₀) ?_
                  show F s₁ (mkF m 223 #[.val (.ref a), .val (.int fv), .val (.int lv), .val (.int ev), .val (.int (1 : Int32)), .val (.int av), .val (.int ld), .val (.int (2 : Int32)), .val (.int ls), .val (.int ms), .val (.int (2 : Int32)), .val (.int b1)] [(.int (1 : Int32))])
                  refine hst (fun t₀ k₀ => XS.ifNo XI.here hx rfl (hb hby d3_223) rfl ((if0 _ _).trans (feq (by decide)).1) k₀) ?_
                  show F s₁ (mkF m 226 #[.val (.ref a), .val (.int fv), .val (.int lv), .val (.int ev), .val (.int (1 : Int32)), .val (.int av), .val (.int ld), .val (.int (2 : Int32)), .val (.int ls), .val (.int ms), .val (.int (2 : Int32)), .val (.int b1)] [])
                  refine hst (fun t₀ k₀ => XS.iload XI.here hx rfl (hb hby d3_226) rfl k₀) ?_
                  show F s₁ (mkF m 228 #[.val (.ref a), .val (.int fv), .val (.int lv), .val (.int ev), .val (.int (1 : Int32)), .val (.int av), .val (.int ld), .val (.int (2 : Int32)), .val (.int ls), .val (.int ms), .val (.int (2 : Int32)), .val (.int b1)] [(.int (2 : Int32))])
                  refine hst (fun t₀ k₀ => XS.iload XI.here hx rfl (hb hby d3_228) rfl k₀) ?_
                  show F s₁ (mkF m 230 #[.val (.ref a), .val (.int fv), .val (.int lv), .val (.int ev), .val (.int (1 : Int32)), .val (.int av), .val (.int ld), .val (.int (2 : Int32)), .val (.int ls), .val (.int ms), .val (.int (2 : Int32)), .val (.int b1)] [(.int (2 : Int32)), (.int (2 : Int32))])
                  refine hst (fun t₀ k₀ => XS.icmpNo XI.here hx rfl (hb hby d3_230) rfl (flt (by decide)).2.2.1 k₀) ?_
                  show F s₁ (mkF m 233 #[.val (.ref a), .val (.int fv), .val (.int lv), .val (.int ev), .val (.int (1 : Int32)), .val (.int av), .val (.int ld), .val (.int (2 : Int32)), .val (.int ls), .val (.int ms), .val (.int (2 : Int32)), .val (.int b1)] [])
                  refine hst (fun t₀ k₀ => XS.aloadN XI.here hx rfl (hb hby d3_233) rfl rfl k₀) ?_
                  show F s₁ (mkF m 234 #[.val (.ref a), .val (.int fv), .val (.int lv), .val (.int ev), .val (.int (1 : Int32)), .val (.int av), .val (.int ld), .val (.int (2 : Int32)), .val (.int ls), .val (.int ms), .val (.int (2 : Int32)), .val (.int b1)] [(.ref a)])
                  refine hst (fun t₀ k₀ => XS.iload XI.here hx rfl (hb hby d3_234) rfl k₀) ?_
                  show F s₁ (mkF m 236 #[.val (.ref a), .val (.int fv), .val (.int lv), .val (.int ev), .val (.int (1 : Int32)), .val (.int av), .val (.int ld), .val (.int (2 : Int32)), .val (.int ls), .val (.int ms), .val (.int (2 : Int32)), .val (.int b1)] [(.int av), (.ref a)])
                  refine hst (fun t₀ k₀ => XS.iload XI.here hx rfl (hb hby d3_236) rfl k₀) ?_
                  show F s₁ (mkF m 238 #[.val (.ref a), .val (.int fv), .val (.int lv), .val (.int ev), .val (.int (1 : Int32)), .val (.int av), .val (.int ld), .val (.int (2 : Int32)), .val (.int ls), .val (.int ms), .val (.int (2 : Int32)), .val (.int b1)] [(.int (2 : Int32)), (.int av), (.ref a)])
                  refine hst (fun t₀ k₀ => XS.iadd XI.here hx rfl (hb hby d3_238) rfl k₀) ?_
                  show F s₁ (mkF m 239 #[.val (.ref a), .val (.int fv), .val (.int lv), .val (.int ev), .val (.int (1 : Int32)), .val (.int av), .val (.int ld), .val (.int (2 : Int32)), .val (.int ls), .val (.int ms), .val (.int (2 : Int32)), .val (.int b1)] [(.int (av + (2 : Int32))), (.ref a)])
                  generalize hix2 : (av + (2 : Int32)) = ix2
                  show F s₁ (mkF m 239 #[.val (.ref a), .val (.int fv), .val (.int lv), .val (.int ev), .val (.int (1 : Int32)), .val (.int av), .val (.int ld), .val (.int (2 : Int32)), .val (.int ls), .val (.int ms), .val (.int (2 : Int32)), .val (.int b1)] [(.int ix2), (.ref a)])
                  have kix2 : ix2.toInt = ((p' + 2 : Nat) : Int) := by have h1 := c_iadd av 2; have h2 := rng32 ix2; rw [hix2] at h1; omega
                  have ql2 : p' + 2 < e' := by simp only [own_lt32] at hc207; omega
                  refine hst (fun t₀ k₀ => own_baload XI hx hZ eI Ar (own_idx ix2 6 (by omega) (by omega)) (v := (.int (g (p' + 2)))) (by show Value.int (g ix2.toNatClampNeg) = _; rw [own_clamp ix2 _ kix2]) (g := (mkF m 239 #[.val (.ref a), .val (.int fv), .val (.int lv), .val (.int ev), .val (.int (1 : Int32)), .val (.int av), .val (.int ld), .val (.int (2 : Int32)), .val (.int ls), .val (.int ms), .val (.int (2 : Int32)), .val (.int b1)] [(.int ix2), (.ref a)])) rfl rfl (hb hby d3_239) t₀ k₀) ?_
                  show F s₁ (mkF m 240 #[.val (.ref a), .val (.int fv), .val (.int lv), .val (.int ev), .val (.int (1 : Int32)), .val (.int av), .val (.int ld), .val (.int (2 : Int32)), .val (.int ls), .val (.int ms), .val (.int (2 : Int32)), .val (.int b1)] [(.int (g (p' + 2)))])
                  refine hst (fun t₀ k₀ => XS.sipush XI.here hx rfl (hb hby d3_240) k₀) ?_
                  show F s₁ (mkF m 243 #[.val (.ref a), .val (.int fv), .val (.int lv), .val (.int ev), .val (.int (1 : Int32)), .val (.int av), .val (.int ld), .val (.int (2 : Int32)), .val (.int ls), .val (.int ms), .val (.int (2 : Int32)), .val (.int b1)] [(.int (255 : Int32)), (.int (g (p' + 2)))])
                  refine hst (fun t₀ k₀ => XS.iand XI.here hx rfl (hb hby d3_243) rfl k₀) ?_
                  show F s₁ (mkF m 244 #[.val (.ref a), .val (.int fv), .val (.int lv), .val (.int ev), .val (.int (1 : Int32)), .val (.int av), .val (.int ld), .val (.int (2 : Int32)), .val (.int ls), .val (.int ms), .val (.int (2 : Int32)), .val (.int b1)] [(.int ((g (p' + 2)) &&& (255 : Int32)))])
                  generalize hb2 : ((g (p' + 2)) &&& (255 : Int32)) = b2
                  show F s₁ (mkF m 244 #[.val (.ref a), .val (.int fv), .val (.int lv), .val (.int ev), .val (.int (1 : Int32)), .val (.int av), .val (.int ld), .val (.int (2 : Int32)), .val (.int ls), .val (.int ms), .val (.int (2 : Int32)), .val (.int b1)] [(.int b2)])
                  obtain ⟨kb2, kb2b⟩ : b2.toInt = (own_B g (p' + 2) : Int) ∧ own_B g (p' + 2) < 256 := by rw [← hb2]; exact own_byte g _
                  refine hst (fun t₀ k₀ => XS.istore XI.here hx rfl (hb hby d3_244) rfl (l' := #[.val (.ref a), .val (.int fv), .val (.int lv), .val (.int ev), .val (.int (1 : Int32)), .val (.int av), .val (.int ld), .val (.int (2 : Int32)), .val (.int ls), .val (.int ms), .val (.int (2 : Int32)), .val (.int b2)]) rfl k₀) ?_
                  show F s₁ (mkF m 246 #[.val (.ref a), .val (.int fv), .val (.int lv), .val (.int ev), .val (.int (1 : Int32)), .val (.int av), .val (.int ld), .val (.int (2 : Int32)), .val (.int ls), .val (.int ms), .val (.int (2 : Int32)), .val (.int b2)] [])
                  refine hst (fun t₀ k₀ => XS.iload XI.here hx rfl (hb hby d3_246) rfl k₀) ?_
                  show F s₁ (mkF m 248 #[.val (.ref a), .val (.int fv), .val (.int lv), .val (.int ev), .val (.int (1 : Int32)), .val (.int av), .val (.int ld), .val (.int (2 : Int32)), .val (.int ls), .val (.int ms), .val (.int (2 : Int32)), .val (.int b2)] [(.int (2 : Int32))])
                  refine hst (fun t₀ k₀ => XS.iconst XI.here hx rfl (hb hby d3_248) k₀) ?_
                  show F s₁ (mkF m 249 #[.val (.ref a), .val (.int fv), .val (.int lv), .val (.int ev), .val (.int (1 : Int32)), .val (.int av), .val (.int ld), .val (.int (2 : Int32)), .val (.int ls), .val (.int ms), .val (.int (2 : Int32)), .val (.int b2)] [(.int (1 : Int32)), (.int (2 : Int32))])
                  refine hst (fun t₀ k₀ => XS.icmpYes XI.here hx rfl (pc0 := 249) (pc' := 274) rfl (hb hby d3_249) rfl (feq (by decide)).2 (by decide) (by decide) k₀) ?_
                  show F s₁ (mkF m 274 #[.val (.ref a), .val (.int fv), .val (.int lv), .val (.int ev), .val (.int (1 : Int32)), .val (.int av), .val (.int ld), .val (.int (2 : Int32)), .val (.int ls), .val (.int ms), .val (.int (2 : Int32)), .val (.int b2)] [])
                  refine hst (fun t₀ k₀ => XS.iload XI.here hx rfl (hb hby d3_274) rfl k₀) ?_
                  show F s₁ (mkF m 276 #[.val (.ref a), .val (.int fv), .val (.int lv), .val (.int ev), .val (.int (1 : Int32)), .val (.int av), .val (.int ld), .val (.int (2 : Int32)), .val (.int ls), .val (.int ms), .val (.int (2 : Int32)), .val (.int b2)] [(.int b2)])
                  refine hst (fun t₀ k₀ => XS.sipush XI.here hx rfl (hb hby d3_276) k₀) ?_
                  show F s₁ (mkF m 279 #[.val (.ref a), .val (.int fv), .val (.int lv), .val (.int ev), .val (.int (1 : Int32)), .val (.int av), .val (.int ld), .val (.int (2 : Int32)), .val (.int ls), .val (.int ms), .val (.int (2 : Int32)), .val (.int b2)] [(.int (192 : Int32)), (.int b2)])
                  refine hst (fun t₀ k₀ => XS.iand XI.here hx rfl (hb hby d3_279) rfl k₀) ?_
                  show F s₁ (mkF m 280 #[.val (.ref a), .val (.int fv), .val (.int lv), .val (.int ev), .val (.int (1 : Int32)), .val (.int av), .val (.int ld), .val (.int (2 : Int32)), .val (.int ls), .val (.int ms), .val (.int (2 : Int32)), .val (.int b2)] [(.int (b2 &&& (192 : Int32)))])
                  refine hst (fun t₀ k₀ => XS.sipush XI.here hx rfl (hb hby d3_280) k₀) ?_
                  show F s₁ (mkF m 283 #[.val (.ref a), .val (.int fv), .val (.int lv), .val (.int ev), .val (.int (1 : Int32)), .val (.int av), .val (.int ld), .val (.int (2 : Int32)), .val (.int ls), .val (.int ms), .val (.int (2 : Int32)), .val (.int b2)] [(.int (128 : Int32)), (.int (b2 &&& (192 : Int32)))])
                  by_cases hc283 : (b2 &&& (192 : Int32)) = (128 : Int32)
                  · -- pc 283: not taken
                    refine hst (fun t₀ k₀ => XS.icmpNo XI.here hx rfl (hb hby d3_283) rfl (teq hc283).2 k₀) ?_
                    show F s₁ (mkF m 286 #[.val (.ref a), .val (.int fv), .val (.int lv), .val (.int ev), .val (.int (1 : Int32)), .val (.int av), .val (.int ld), .val (.int (2 : Int32)), .val (.int ls), .val (.int ms), .val (.int (2 : Int32)), .val (.int b2)] [])
                    have q283_2 := (own_cont b2 _ kb2 kb2b).mp hc283
                    refine hst (fun t₀ k₀ => XS.iconst XI.here hx rfl (hb hby d3_286) k₀) ?_
                    show F s₁ (mkF m 287 #[.val (.ref a), .val (.int fv), .val (.int lv), .val (.int ev), .val (.int (1 : Int32)), .val (.int av), .val (.int ld), .val (.int (2 : Int32)), .val (.int ls), .val (.int ms), .val (.int (2 : Int32)), .val (.int b2)] [(.int (1 : Int32))])
                    refine hst (fun t₀ k₀ => XS.goto XI.here hx rfl (pc0 := 287) (pc' := 291) rfl (hb hby d3_287) (by decide) (by decide) k₀) ?_
                    show F s₁ (mkF m 291 #[.val (.ref a), .val (.int fv), .val (.int lv), .val (.int ev), .val (.int (1 : Int32)), .val (.int av), .val (.int ld), .val (.int (2 : Int32)), .val (.int ls), .val (.int ms), .val (.int (2 : Int32)), .val (.int b2)] [(.int (1 : Int32))])
                    refine hst (fun t₀ k₀ => XS.istore XI.here hx rfl (hb hby d3_291) rfl (l' := #[.val (.ref a), .val (.int fv), .val (.int lv), .val (.int ev), .val (.int (1 : Int32)), .val (.int av), .val (.int ld), .val (.int (2 : Int32)), .val (.int ls), .val (.int ms), .val (.int (2 : Int32)), .val (.int b2)]) rfl k₀) ?_
                    show F s₁ (mkF m 293 #[.val (.ref a), .val (.int fv), .val (.int lv), .val (.int ev), .val (.int (1 : Int32)), .val (.int av), .val (.int ld), .val (.int (2 : Int32)), .val (.int ls), .val (.int ms), .val (.int (2 : Int32)), .val (.int b2)] [])
                    refine hst (fun t₀ k₀ => XS.iinc XI.here hx rfl (hb hby d3_293) rfl (l' := #[.val (.ref a), .val (.int fv), .val (.int lv), .val (.int ev), .val (.int (1 : Int32)), .val (.int av), .val (.int ld), .val (.int (2 : Int32)), .val (.int ls), .val (.int ms), .val (.int ((2 : Int32) + (1 : Int32))), .val (.int b2)]) rfl k₀) ?_
                    show F s₁ (mkF m 296 #[.val (.ref a), .val (.int fv), .val (.int lv), .val (.int ev), .val (.int (1 : Int32)), .val (.int av), .val (.int ld), .val (.int (2 : Int32)), .val (.int ls), .val (.int ms), .val (.int ((2 : Int32) + (1 : Int32))), .val (.int b2)] [])
                    show F s₁ (mkF m 296 #[.val (.ref a), .val (.int fv), .val (.int lv), .val (.int ev), .val (.int (1 : Int32)), .val (.int av), .val (.int ld), .val (.int (2 : Int32)), .val (.int ls), .val (.int ms), .val (.int (3 : Int32)), .val (.int b2)] [])
                    refine hst (fun t₀ k₀ => XS.goto XI.here hx rfl (pc0 := 296) (pc' := 221) rfl (hb hby d3_296) (by decide) (by decide) k₀) ?_
                    show F s₁ (mkF m 221 #[.val (.ref a), .val (.int fv), .val (.int lv), .val (.int ev), .val (.int (1 : Int32)), .val (.int av), .val (.int ld), .val (.int (2 : Int32)), .val (.int ls), .val (.int ms), .val (.int (3 : Int32)), .val (.int b2)] [])
                    refine hst (fun t₀ k₀ => XS.iload XI.here hx rfl (hb hby d3_221) rfl k₀) ?_
                    show F s₁ (mkF m 223 #[.val (.ref a), .val (.int fv), .val (.int lv), .val (.int ev), .val (.int (1 : Int32)), .val (.int av), .val (.int ld), .val (.int (2 : Int32)), .val (.int ls), .val (.int ms), .val (.int (3 : Int32)), .val (.int b2)] [(.int (1 : Int32))])
                    refine hst (fun t₀ k₀ => XS.ifNo XI.here hx rfl (hb hby d3_223) rfl ((if0 _ _).trans (feq (by decide)).1) k₀) ?_
                    show F s₁ (mkF m 226 #[.val (.ref a), .val (.int fv), .val (.int lv), .val (.int ev), .val (.int (1 : Int32)), .val (.int av), .val (.int ld), .val (.int (2 : Int32)), .val (.int ls), .val (.int ms), .val (.int (3 : Int32)), .val (.int b2)] [])
                    refine hst (fun t₀ k₀ => XS.iload XI.here hx rfl (hb hby d3_226) rfl k₀) ?_
                    show F s₁ (mkF m 228 #[.val (.ref a), .val (.int fv), .val (.int lv), .val (.int ev), .val (.int (1 : Int32)), .val (.int av), .val (.int ld), .val (.int (2 : Int32)), .val (.int ls), .val (.int ms), .val (.int (3 : Int32)), .val (.int b2)] [(.int (3 : Int32))])
                    refine hst (fun t₀ k₀ => XS.iload XI.here hx rfl (hb hby d3_228) rfl k₀) ?_
                    show F s₁ (mkF m 230 #[.val (.ref a), .val (.int fv), .val (.int lv), .val (.int ev), .val (.int (1 : Int32)), .val (.int av), .val (.int ld), .val (.int (2 : Int32)), .val (.int ls), .val (.int ms), .val (.int (3 : Int32)), .val (.int b2)] [(.int (2 : Int32)), (.int (3 : Int32))])
                    refine hst (fun t₀ k₀ => XS.icmpYes XI.here hx rfl (pc0 := 230) (pc' := 299) rfl (hb hby d3_230) rfl (tlt (by decide)).2.2.1 (by decide) (by decide) k₀) ?_
                    show F s₁ (mkF m 299 #[.val (.ref a), .val (.int fv), .val (.int lv), .val (.int ev), .val (.int (1 : Int32)), .val (.int av), .val (.int ld), .val (.int (2 : Int32)), .val (.int ls), .val (.int ms), .val (.int (3 : Int32)), .val (.int b2)] [])
                    refine hst (fun t₀ k₀ => XS.iload XI.here hx rfl (hb hby d3_299) rfl k₀) ?_
                    show F s₁ (mkF m 301 #[.val (.ref a), .val (.int fv), .val (.int lv), .val (.int ev), .val (.int (1 : Int32)), .val (.int av), .val (.int ld), .val (.int (2 : Int32)), .val (.int ls), .val (.int ms), .val (.int (3 : Int32)), .val (.int b2)] [(.int av)])
                    refine hst (fun t₀ k₀ => XS.iload XI.here hx rfl (hb hby d3_301) rfl k₀) ?_
                    show F s₁ (mkF m 303 #[.val (.ref a), .val (.int fv), .val (.int lv), .val (.int ev), .val (.int (1 : Int32)), .val (.int av), .val (.int ld), .val (.int (2 : Int32)), .val (.int ls), .val (.int ms), .val (.int (3 : Int32)), .val (.int b2)] [(.int (2 : Int32)), (.int av)])
                    refine hst (fun t₀ k₀ => XS.iconst XI.here hx rfl (hb hby d3_303) k₀) ?_
                    show F s₁ (mkF m 304 #[.val (.ref a), .val (.int fv), .val (.int lv), .val (.int ev), .val (.int (1 : Int32)), .val (.int av), .val (.int ld), .val (.int (2 : Int32)), .val (.int ls), .val (.int ms), .val (.int (3 : Int32)), .val (.int b2)] [(.int (1 : Int32)), (.int (2 : Int32)), (.int av)])
                    refine hst (fun t₀ k₀ => XS.iadd XI.here hx rfl (hb hby d3_304) rfl k₀) ?_
                    show F s₁ (mkF m 305 #[.val (.ref a), .val (.int fv), .val (.int lv), .val (.int ev), .val (.int (1 : Int32)), .val (.int av), .val (.int ld), .val (.int (2 : Int32)), .val (.int ls), .val (.int ms), .val (.int (3 : Int32)), .val (.int b2)] [(.int ((2 : Int32) + (1 : Int32))), (.int av)])
                    refine hst (fun t₀ k₀ => XS.iadd XI.here hx rfl (hb hby d3_305) rfl k₀) ?_
                    show F s₁ (mkF m 306 #[.val (.ref a), .val (.int fv), .val (.int lv), .val (.int ev), .val (.int (1 : Int32)), .val (.int av), .val (.int ld), .val (.int (2 : Int32)), .val (.int ls), .val (.int ms), .val (.int (3 : Int32)), .val (.int b2)] [(.int (av + ((2 : Int32) + (1 : Int32))))])
                    generalize hat' : (av + ((2 : Int32) + (1 : Int32))) = at'
                    show F s₁ (mkF m 306 #[.val (.ref a), .val (.int fv), .val (.int lv), .val (.int ev), .val (.int (1 : Int32)), .val (.int av), .val (.int ld), .val (.int (2 : Int32)), .val (.int ls), .val (.int ms), .val (.int (3 : Int32)), .val (.int b2)] [(.int at')])
                    have kat : at'.toInt = ((p' + 3 : Nat) : Int) := by have h1 := c_iadd 2 1; have h2 := rng32 (2 + 1); have h3 := c_iadd av (2 + 1); have h4 := rng32 at'; rw [hat'] at h3; omega
                    refine hst (fun t₀ k₀ => XS.istore XI.here hx rfl (hb hby d3_306) rfl (l' := #[.val (.ref a), .val (.int fv), .val (.int lv), .val (.int ev), .val (.int (1 : Int32)), .val (.int at'), .val (.int ld), .val (.int (2 : Int32)), .val (.int ls), .val (.int ms), .val (.int (3 : Int32)), .val (.int b2)]) rfl k₀) ?_
                    show F s₁ (mkF m 308 #[.val (.ref a), .val (.int fv), .val (.int lv), .val (.int ev), .val (.int (1 : Int32)), .val (.int at'), .val (.int ld), .val (.int (2 : Int32)), .val (.int ls), .val (.int ms), .val (.int (3 : Int32)), .val (.int b2)] [])
                    refine hst (fun t₀ k₀ => XS.goto XI.here hx rfl (pc0 := 308) (pc' := 10) rfl (hb hby d3_308) (by decide) (by decide) k₀) ?_
                    show F s₁ (mkF m 10 #[.val (.ref a), .val (.int fv), .val (.int lv), .val (.int ev), .val (.int (1 : Int32)), .val (.int at'), .val (.int ld), .val (.int (2 : Int32)), .val (.int ls), .val (.int ms), .val (.int (3 : Int32)), .val (.int b2)] [])
                    simp only [own_lt32, own_eq32] at hc207 hc256 hc263
                    have hcl : own_cl (own_B g) p' e' = 3 := by
                      unfold own_cl; (repeat' split) <;> omega
                    obtain ⟨k', rfl⟩ : ∃ k', k = k' + 1 := ⟨k - 1, by omega⟩
                    exact ih k' (by omega) (p' + 3) _ _ _ _ _ _ _ (One.val rfl) (One.val rfl) (One.val rfl) (One.val rfl) (One.val rfl) (One.val rfl) (by rw [kat]) (by omega) (by omega) (by rw [← hw', own_wf_step (own_B g) e' _ p' _ q18 hcl (by decide)])
                  · -- pc 283: taken
                    refine hst (fun t₀ k₀ => XS.icmpYes XI.here hx rfl (pc0 := 283) (pc' := 290) rfl (hb hby d3_283) rfl (feq hc283).2 (by decide) (by decide) k₀) ?_
                    show F s₁ (mkF m 290 #[.val (.ref a), .val (.int fv), .val (.int lv), .val (.int ev), .val (.int (1 : Int32)), .val (.int av), .val (.int ld), .val (.int (2 : Int32)), .val (.int ls), .val (.int ms), .val (.int (2 : Int32)), .val (.int b2)] [])
                    have q283_2 : ¬ (128 ≤ own_B g (p' + 2) ∧ own_B g (p' + 2) ≤ 191) := fun q => hc283 ((own_cont b2 _ kb2 kb2b).mpr q)
                    refine hst (fun t₀ k₀ => XS.iconst XI.here hx rfl (hb hby d3_290) k₀) ?_
                    show F s₁ (mkF m 291 #[.val (.ref a), .val (.int fv), .val (.int lv), .val (.int ev), .val (.int (1 : Int32)), .val (.int av), .val (.int ld), .val (.int (2 : Int32)), .val (.int ls), .val (.int ms), .val (.int (2 : Int32)), .val (.int b2)] [(.int (0 : Int32))])
                    refine hst (fun t₀ k₀ => XS.istore XI.here hx rfl (hb hby d3_291) rfl (l' := #[.val (.ref a), .val (.int fv), .val (.int lv), .val (.int ev), .val (.int (0 : Int32)), .val (.int av), .val (.int ld), .val (.int (2 : Int32)), .val (.int ls), .val (.int ms), .val (.int (2 : Int32)), .val (.int b2)]) rfl k₀) ?_
                    show F s₁ (mkF m 293 #[.val (.ref a), .val (.int fv), .val (.int lv), .val (.int ev), .val (.int (0 : Int32)), .val (.int av), .val (.int ld), .val (.int (2 : Int32)), .val (.int ls), .val (.int ms), .val (.int (2 : Int32)), .val (.int b2)] [])
                    refine hst (fun t₀ k₀ => XS.iinc XI.here hx rfl (hb hby d3_293) rfl (l' := #[.val (.ref a), .val (.int fv), .val (.int lv), .val (.int ev), .val (.int (0 : Int32)), .val (.int av), .val (.int ld), .val (.int (2 : Int32)), .val (.int ls), .val (.int ms), .val (.int ((2 : Int32) + (1 : Int32))), .val (.int b2)]) rfl k₀) ?_
                    show F s₁ (mkF m 296 #[.val (.ref a), .val (.int fv), .val (.int lv), .val (.int ev), .val (.int (0 : Int32)), .val (.int av), .val (.int ld), .val (.int (2 : Int32)), .val (.int ls), .val (.int ms), .val (.int ((2 : Int32) + (1 : Int32))), .val (.int b2)] [])
                    show F s₁ (mkF m 296 #[.val (.ref a), .val (.int fv), .val (.int lv), .val (.int ev), .val (.int (0 : Int32)), .val (.int av), .val (.int ld), .val (.int (2 : Int32)), .val (.int ls), .val (.int ms), .val (.int (3 : Int32)), .val (.int b2)] [])
                    refine hst (fun t₀ k₀ => XS.goto XI.here hx rfl (pc0 := 296) (pc' := 221) rfl (hb hby d3_296) (by decide) (by decide) k₀) ?_
                    show F s₁ (mkF m 221 #[.val (.ref a), .val (.int fv), .val (.int lv), .val (.int ev), .val (.int (0 : Int32)), .val (.int av), .val (.int ld), .val (.int (2 : Int32)), .val (.int ls), .val (.int ms), .val (.int (3 : Int32)), .val (.int b2)] [])
                    refine hst (fun t₀ k₀ => XS.iload XI.here hx rfl (hb hby d3_221) rfl k₀) ?_
                    show F s₁ (mkF m 223 #[.val (.ref a), .val (.int fv), .val (.int lv), .val (.int ev), .val (.int (0 : Int32)), .val (.int av), .val (.int ld), .val (.int (2 : Int32)), .val (.int ls), .val (.int ms), .val (.int (3 : Int32)), .val (.int b2)] [(.int (0 : Int32))])
                    refine hst (fun t₀ k₀ => XS.ifYes XI.here hx rfl (pc0 := 223) (pc' := 299) rfl (hb hby d3_223) rfl ((if0 _ _).trans (teq (by decide)).1) (by decide) (by decide) k₀) ?_
                    show F s₁ (mkF m 299 #[.val (.ref a), .val (.int fv), .val (.int lv), .val (.int ev), .val (.int (0 : Int32)), .val (.int av), .val (.int ld), .val (.int (2 : Int32)), .val (.int ls), .val (.int ms), .val (.int (3 : Int32)), .val (.int b2)] [])
                    refine hst (fun t₀ k₀ => XS.iload XI.here hx rfl (hb hby d3_299) rfl k₀) ?_
                    show F s₁ (mkF m 301 #[.val (.ref a), .val (.int fv), .val (.int lv), .val (.int ev), .val (.int (0 : Int32)), .val (.int av), .val (.int ld), .val (.int (2 : Int32)), .val (.int ls), .val (.int ms), .val (.int (3 : Int32)), .val (.int b2)] [(.int av)])
                    refine hst (fun t₀ k₀ => XS.iload XI.here hx rfl (hb hby d3_301) rfl k₀) ?_
                    show F s₁ (mkF m 303 #[.val (.ref a), .val (.int fv), .val (.int lv), .val (.int ev), .val (.int (0 : Int32)), .val (.int av), .val (.int ld), .val (.int (2 : Int32)), .val (.int ls), .val (.int ms), .val (.int (3 : Int32)), .val (.int b2)] [(.int (2 : Int32)), (.int av)])
                    refine hst (fun t₀ k₀ => XS.iconst XI.here hx rfl (hb hby d3_303) k₀) ?_
                    show F s₁ (mkF m 304 #[.val (.ref a), .val (.int fv), .val (.int lv), .val (.int ev), .val (.int (0 : Int32)), .val (.int av), .val (.int ld), .val (.int (2 : Int32)), .val (.int ls), .val (.int ms), .val (.int (3 : Int32)), .val (.int b2)] [(.int (1 : Int32)), (.int (2 : Int32)), (.int av)])
                    refine hst (fun t₀ k₀ => XS.iadd XI.here hx rfl (hb hby d3_304) rfl k₀) ?_
                    show F s₁ (mkF m 305 #[.val (.ref a), .val (.int fv), .val (.int lv), .val (.int ev), .val (.int (0 : Int32)), .val (.int av), .val (.int ld), .val (.int (2 : Int32)), .val (.int ls), .val (.int ms), .val (.int (3 : Int32)), .val (.int b2)] [(.int ((2 : Int32) + (1 : Int32))), (.int av)])
                    refine hst (fun t₀ k₀ => XS.iadd XI.here hx rfl (hb hby d3_305) rfl k₀) ?_
                    show F s₁ (mkF m 306 #[.val (.ref a), .val (.int fv), .val (.int lv), .val (.int ev), .val (.int (0 : Int32)), .val (.int av), .val (.int ld), .val (.int (2 : Int32)), .val (.int ls), .val (.int ms), .val (.int (3 : Int32)), .val (.int b2)] [(.int (av + ((2 : Int32) + (1 : Int32))))])
                    generalize hat' : (av + ((2 : Int32) + (1 : Int32))) = at'
                    show F s₁ (mkF m 306 #[.val (.ref a), .val (.int fv), .val (.int lv), .val (.int ev), .val (.int (0 : Int32)), .val (.int av), .val (.int ld), .val (.int (2 : Int32)), .val (.int ls), .val (.int ms), .val (.int (3 : Int32)), .val (.int b2)] [(.int at')])
                    have kat : at'.toInt = ((p' + 3 : Nat) : Int) := by have h1 := c_iadd 2 1; have h2 := rng32 (2 + 1); have h3 := c_iadd av (2 + 1); have h4 := rng32 at'; rw [hat'] at h3; omega
                    refine hst (fun t₀ k₀ => XS.istore XI.here hx rfl (hb hby d3_306) rfl (l' := #[.val (.ref a), .val (.int fv), .val (.int lv), .val (.int ev), .val (.int (0 : Int32)), .val (.int at'), .val (.int ld), .val (.int (2 : Int32)), .val (.int ls), .val (.int ms), .val (.int (3 : Int32)), .val (.int b2)]) rfl k₀) ?_
                    show F s₁ (mkF m 308 #[.val (.ref a), .val (.int fv), .val (.int lv), .val (.int ev), .val (.int (0 : Int32)), .val (.int at'), .val (.int ld), .val (.int (2 : Int32)), .val (.int ls), .val (.int ms), .val (.int (3 : Int32)), .val (.int b2)] [])
                    refine hst (fun t₀ k₀ => XS.goto XI.here hx rfl (pc0 := 308) (pc' := 10) rfl (hb hby d3_308) (by decide) (by decide) k₀) ?_
                    show F s₁ (mkF m 10 #[.val (.ref a), .val (.int fv), .val (.int lv), .val (.int ev), .val (.int (0 : Int32)), .val (.int at'), .val (.int ld), .val (.int (2 : Int32)), .val (.int ls), .val (.int ms), .val (.int (3 : Int32)), .val (.int b2)] [])
                    show F s₁ (mkF m 10 #[.val (.ref a), .val (.int fv), .val (.int lv), .val (.int ev), .val (.int (0 : Int32)), .val (.int at'), .val (.int ld), .val (.int (2 : Int32)), .val (.int ls), .val (.int ms), .val (.int (3 : Int32)), .val (.int b2)] [])
                    refine hst (fun t₀ k₀ => XS.iload XI.here hx rfl (hb hby d3_10) rfl k₀) ?_
                    show F s₁ (mkF m 12 #[.val (.ref a), .val (.int fv), .val (.int lv), .val (.int ev), .val (.int (0 : Int32)), .val (.int at'), .val (.int ld), .val (.int (2 : Int32)), .val (.int ls), .val (.int ms), .val (.int (3 : Int32)), .val (.int b2)] [(.int (0 : Int32))])
                    refine hst (fun t₀ k₀ => XS.ifYes XI.here hx rfl (pc0 := 12) (pc' := 311) rfl (hb hby d3_12) rfl ((if0 _ _).trans (teq (by decide)).1) (by decide) (by decide) k₀) ?_
                    show F s₁ (mkF m 311 #[.val (.ref a), .val (.int fv), .val (.int lv), .val (.int ev), .val (.int (0 : Int32)), .val (.int at'), .val (.int ld), .val (.int (2 : Int32)), .val (.int ls), .val (.int ms), .val (.int (3 : Int32)), .val (.int b2)] [])
                    refine hst (fun t₀ k₀ => XS.iload XI.here hx rfl (hb hby d3_311) rfl k₀) ?_
                    show F s₁ (mkF m 313 #[.val (.ref a), .val (.int fv), .val (.int lv), .val (.int ev), .val (.int (0 : Int32)), .val (.int at'), .val (.int ld), .val (.int (2 : Int32)), .val (.int ls), .val (.int ms), .val (.int (3 : Int32)), .val (.int b2)] [(.int (0 : Int32))])
                    rw [hF]
                    refine own_retN XI hx hret (by simp) hlk (hb hby d3_313) (by decide) (by decide) ?_
                    simp only [own_lt32, own_eq32] at hc207 hc256 hc263
                    have hcl : own_cl (own_B g) p' e' = 0 := by
                      unfold own_cl; (repeat' split) <;> omega
                    obtain ⟨k', rfl⟩ : ∃ k', k = k' + 1 := ⟨k - 1, by omega⟩
                    rw [eI]
                    exact ⟨(by rw [← hw', own_wf_bad (own_B g) e' _ p' q18 hcl]; rfl), NI, rfl⟩
            · -- pc 207: taken
              refine hst (fun t₀ k₀ => XS.icmpYes XI.here hx rfl (pc0 := 207) (pc' := 214) rfl (hb hby d3_207) rfl (flt hc207).2.2.2 (by decide) (by decide) k₀) ?_
              show F s₁ (mkF m 214 #[.val (.ref a), .val (.int fv), .val (.int lv), .val (.int ev), .val (.int (1 : Int32)), .val (.int av), .val (.int ld), .val (.int (2 : Int32)), .val (.int ls), .val (.int ms), s10, s11] [(.int (1 : Int32))])
              refine hst (fun t₀ k₀ => XS.iconst XI.here hx rfl (hb hby d3_214) k₀) ?_
              show F s₁ (mkF m 215 #[.val (.ref a), .val (.int fv), .val (.int lv), .val (.int ev), .val (.int (1 : Int32)), .val (.int av), .val (.int ld), .val (.int (2 : Int32)), .val (.int ls), .val (.int ms), s10, s11] [(.int (0 : Int32)), (.int (1 : Int32))])
              refine hst (fun t₀ k₀ => XS.iand XI.here hx rfl (hb hby d3_215) rfl k₀) ?_
              show F s₁ (mkF m 216 #[.val (.ref a), .val (.int fv), .val (.int lv), .val (.int ev), .val (.int (1 : Int32)), .val (.int av), .val (.int ld), .val (.int (2 : Int32)), .val (.int ls), .val (.int ms), s10, s11] [(.int ((1 : Int32) &&& (0 : Int32)))])
              show F s₁ (mkF m 216 #[.val (.ref a), .val (.int fv), .val (.int lv), .val (.int ev), .val (.int (1 : Int32)), .val (.int av), .val (.int ld), .val (.int (2 : Int32)), .val (.int ls), .val (.int ms), s10, s11] [(.int (0 : Int32))])
              refine hst (fun t₀ k₀ => XS.istore XI.here hx rfl (hb hby d3_216) rfl (l' := #[.val (.ref a), .val (.int fv), .val (.int lv), .val (.int ev), .val (.int (0 : Int32)), .val (.int av), .val (.int ld), .val (.int (2 : Int32)), .val (.int ls), .val (.int ms), s10, s11]) rfl k₀) ?_
              show F s₁ (mkF m 218 #[.val (.ref a), .val (.int fv), .val (.int lv), .val (.int ev), .val (.int (0 : Int32)), .val (.int av), .val (.int ld), .val (.int (2 : Int32)), .val (.int ls), .val (.int ms), s10, s11] [])
              refine hst (fun t₀ k₀ => XS.iconst XI.here hx rfl (hb hby d3_218) k₀) ?_
              show F s₁ (mkF m 219 #[.val (.ref a), .val (.int fv), .val (.int lv), .val (.int ev), .val (.int (0 : Int32)), .val (.int av), .val (.int ld), .val (.int (2 : Int32)), .val (.int ls), .val (.int ms), s10, s11] [(.int (1 : Int32))])
              refine hst (fun t₀ k₀ => XS.istoreS XI.here hx rfl (hb hby d3_219) rfl rfl hs10 k₀) ?_
              show F s₁ (mkF m 221 #[.val (.ref a), .val (.int fv), .val (.int lv), .val (.int ev), .val (.int (0 : Int32)), .val (.int av), .val (.int ld), .val (.int (2 : Int32)), .val (.int ls), .val (.int ms), .val (.int (1 : Int32)), s11] [])
              refine hst (fun t₀ k₀ => XS.iload XI.here hx rfl (hb hby d3_221) rfl k₀) ?_
              show F s₁ (mkF m 223 #[.val (.ref a), .val (.int fv), .val (.int lv), .val (.int ev), .val (.int (0 : Int32)), .val (.int av), .val (.int ld), .val (.int (2 : Int32)), .val (.int ls), .val (.int ms), .val (.int (1 : Int32)), s11] [(.int (0 : Int32))])
              refine hst (fun t₀ k₀ => XS.ifYes XI.here hx rfl (pc0 := 223) (pc' := 299) rfl (hb hby d3_223) rfl ((if0 _ _).trans (teq (by decide)).1) (by decide) (by decide) k₀) ?_
              show F s₁ (mkF m 299 #[.val (.ref a), .val (.int fv), .val (.int lv), .val (.int ev), .val (.int (0 : Int32)), .val (.int av), .val (.int ld), .val (.int (2 : Int32)), .val (.int ls), .val (.int ms), .val (.int (1 : Int32)), s11] [])
              refine hst (fun t₀ k₀ => XS.iload XI.here hx rfl (hb hby d3_299) rfl k₀) ?_
              show F s₁ (mkF m 301 #[.val (.ref a), .val (.int fv), .val (.int lv), .val (.int ev), .val (.int (0 : Int32)), .val (.int av), .val (.int ld), .val (.int (2 : Int32)), .val (.int ls), .val (.int ms), .val (.int (1 : Int32)), s11] [(.int av)])
              refine hst (fun t₀ k₀ => XS.iload XI.here hx rfl (hb hby d3_301) rfl k₀) ?_
              show F s₁ (mkF m 303 #[.val (.ref a), .val (.int fv), .val (.int lv), .val (.int ev), .val (.int (0 : Int32)), .val (.int av), .val (.int ld), .val (.int (2 : Int32)), .val (.int ls), .val (.int ms), .val (.int (1 : Int32)), s11] [(.int (2 : Int32)), (.int av)])
              refine hst (fun t₀ k₀ => XS.iconst XI.here hx rfl (hb hby d3_303) k₀) ?_
              show F s₁ (mkF m 304 #[.val (.ref a), .val (.int fv), .val (.int lv), .val (.int ev), .val (.int (0 : Int32)), .val (.int av), .val (.int ld), .val (.int (2 : Int32)), .val (.int ls), .val (.int ms), .val (.int (1 : Int32)), s11] [(.int (1 : Int32)), (.int (2 : Int32)), (.int av)])
              refine hst (fun t₀ k₀ => XS.iadd XI.here hx rfl (hb hby d3_304) rfl k₀) ?_
              show F s₁ (mkF m 305 #[.val (.ref a), .val (.int fv), .val (.int lv), .val (.int ev), .val (.int (0 : Int32)), .val (.int av), .val (.int ld), .val (.int (2 : Int32)), .val (.int ls), .val (.int ms), .val (.int (1 : Int32)), s11] [(.int ((2 : Int32) + (1 : Int32))), (.int av)])
              refine hst (fun t₀ k₀ => XS.iadd XI.here hx rfl (hb hby d3_305) rfl k₀) ?_
              show F s₁ (mkF m 306 #[.val (.ref a), .val (.int fv), .val (.int lv), .val (.int ev), .val (.int (0 : Int32)), .val (.int av), .val (.int ld), .val (.int (2 : Int32)), .val (.int ls), .val (.int ms), .val (.int (1 : Int32)), s11] [(.int (av + ((2 : Int32) + (1 : Int32))))])
              generalize hat' : (av + ((2 : Int32) + (1 : Int32))) = at'
              show F s₁ (mkF m 306 #[.val (.ref a), .val (.int fv), .val (.int lv), .val (.int ev), .val (.int (0 : Int32)), .val (.int av), .val (.int ld), .val (.int (2 : Int32)), .val (.int ls), .val (.int ms), .val (.int (1 : Int32)), s11] [(.int at')])
              have kat : at'.toInt = ((p' + 3 : Nat) : Int) := by have h1 := c_iadd 2 1; have h2 := rng32 (2 + 1); have h3 := c_iadd av (2 + 1); have h4 := rng32 at'; rw [hat'] at h3; omega
              refine hst (fun t₀ k₀ => XS.istore XI.here hx rfl (hb hby d3_306) rfl (l' := #[.val (.ref a), .val (.int fv), .val (.int lv), .val (.int ev), .val (.int (0 : Int32)), .val (.int at'), .val (.int ld), .val (.int (2 : Int32)), .val (.int ls), .val (.int ms), .val (.int (1 : Int32)), s11]) rfl k₀) ?_
              show F s₁ (mkF m 308 #[.val (.ref a), .val (.int fv), .val (.int lv), .val (.int ev), .val (.int (0 : Int32)), .val (.int at'), .val (.int ld), .val (.int (2 : Int32)), .val (.int ls), .val (.int ms), .val (.int (1 : Int32)), s11] [])
              refine hst (fun t₀ k₀ => XS.goto XI.here hx rfl (pc0 := 308) (pc' := 10) rfl (hb hby d3_308) (by decide) (by decide) k₀) ?_
              show F s₁ (mkF m 10 #[.val (.ref a), .val (.int fv), .val (.int lv), .val (.int ev), .val (.int (0 : Int32)), .val (.int at'), .val (.int ld), .val (.int (2 : Int32)), .val (.int ls), .val (.int ms), .val (.int (1 : Int32)), s11] [])
              show F s₁ (mkF m 10 #[.val (.ref a), .val (.int fv), .val (.int lv), .val (.int ev), .val (.int (0 : Int32)), .val (.int at'), .val (.int ld), .val (.int (2 : Int32)), .val (.int ls), .val (.int ms), .val (.int (1 : Int32)), s11] [])
              refine hst (fun t₀ k₀ => XS.iload XI.here hx rfl (hb hby d3_10) rfl k₀) ?_
              show F s₁ (mkF m 12 #[.val (.ref a), .val (.int fv), .val (.int lv), .val (.int ev), .val (.int (0 : Int32)), .val (.int at'), .val (.int ld), .val (.int (2 : Int32)), .val (.int ls), .val (.int ms), .val (.int (1 : Int32)), s11] [(.int (0 : Int32))])
              refine hst (fun t₀ k₀ => XS.ifYes XI.here hx rfl (pc0 := 12) (pc' := 311) rfl (hb hby d3_12) rfl ((if0 _ _).trans (teq (by decide)).1) (by decide) (by decide) k₀) ?_
              show F s₁ (mkF m 311 #[.val (.ref a), .val (.int fv), .val (.int lv), .val (.int ev), .val (.int (0 : Int32)), .val (.int at'), .val (.int ld), .val (.int (2 : Int32)), .val (.int ls), .val (.int ms), .val (.int (1 : Int32)), s11] [])
              refine hst (fun t₀ k₀ => XS.iload XI.here hx rfl (hb hby d3_311) rfl k₀) ?_
              show F s₁ (mkF m 313 #[.val (.ref a), .val (.int fv), .val (.int lv), .val (.int ev), .val (.int (0 : Int32)), .val (.int at'), .val (.int ld), .val (.int (2 : Int32)), .val (.int ls), .val (.int ms), .val (.int (1 : Int32)), s11] [(.int (0 : Int32))])
              rw [hF]
              refine own_retN XI hx hret (by simp) hlk (hb hby d3_313) (by decide) (by decide) ?_
              simp only [own_lt32, own_eq32] at hc207
              have hcl : own_cl (own_B g) p' e' = 0 := by
                unfold own_cl; (repeat' split) <;> omega
              obtain ⟨k', rfl⟩ : ∃ k', k = k' + 1 := ⟨k - 1, by omega⟩
              rw [eI]
              exact ⟨(by rw [← hw', own_wf_bad (own_B g) e' _ p' q18 hcl]; rfl), NI, rfl⟩
          · -- follow 3
            show F s₁ (mkF m 199 #[.val (.ref a), .val (.int fv), .val (.int lv), .val (.int ev), .val (.int (1 : Int32)), .val (.int av), .val (.int ld), .val (.int (3 : Int32)), .val (.int ls), .val (.int ms), s10, s11] [])
            refine hst (fun t₀ k₀ => XS.iload XI.here hx rfl (hb hby d3_199) rfl k₀) ?_
            show F s₁ (mkF m 201 #[.val (.ref a), .val (.int fv), .val (.int lv), .val (.int ev), .val (.int (1 : Int32)), .val (.int av), .val (.int ld), .val (.int (3 : Int32)), .val (.int ls), .val (.int ms), s10, s11] [(.int (1 : Int32))])
            refine hst (fun t₀ k₀ => XS.iloadN XI.here hx rfl (hb hby d3_201) rfl k₀) ?_
            show F s₁ (mkF m 202 #[.val (.ref a), .val (.int fv), .val (.int lv), .val (.int ev), .val (.int (1 : Int32)), .val (.int av), .val (.int ld), .val (.int (3 : Int32)), .val (.int ls), .val (.int ms), s10, s11] [(.int ev), (.int (1 : Int32))])
            refine hst (fun t₀ k₀ => XS.iload XI.here hx rfl (hb hby d3_202) rfl k₀) ?_
            show F s₁ (mkF m 204 #[.val (.ref a), .val (.int fv), .val (.int lv), .val (.int ev), .val (.int (1 : Int32)), .val (.int av), .val (.int ld), .val (.int (3 : Int32)), .val (.int ls), .val (.int ms), s10, s11] [(.int av), (.int ev), (.int (1 : Int32))])
            refine hst (fun t₀ k₀ => XS.isub XI.here hx rfl (hb hby d3_204) rfl k₀) ?_
            show F s₁ (mkF m 205 #[.val (.ref a), .val (.int fv), .val (.int lv), .val (.int ev), .val (.int (1 : Int32)), .val (.int av), .val (.int ld), .val (.int (3 : Int32)), .val (.int ls), .val (.int ms), s10, s11] [(.int (ev - av)), (.int (1 : Int32))])
            generalize hdf : (ev - av) = df
            show F s₁ (mkF m 205 #[.val (.ref a), .val (.int fv), .val (.int lv), .val (.int ev), .val (.int (1 : Int32)), .val (.int av), .val (.int ld), .val (.int (3 : Int32)), .val (.int ls), .val (.int ms), s10, s11] [(.int df), (.int (1 : Int32))])
            have kdf : df.toInt = (e' : Int) - p' := by have h1 := c_isub ev av; have h2 := rng32 df; rw [hdf] at h1; omega
            refine hst (fun t₀ k₀ => XS.iload XI.here hx rfl (hb hby d3_205) rfl k₀) ?_
            show F s₁ (mkF m 207 #[.val (.ref a), .val (.int fv), .val (.int lv), .val (.int ev), .val (.int (1 : Int32)), .val (.int av), .val (.int ld), .val (.int (3 : Int32)), .val (.int ls), .val (.int ms), s10, s11] [(.int (3 : Int32)), (.int df), (.int (1 : Int32))])
            by_cases hc207 : (3 : Int32) < df
            · -- pc 207: not taken
              refine hst (fun t₀ k₀ => XS.icmpNo XI.here hx rfl (hb hby d3_207) rfl (tlt hc207).2.2.2 k₀) ?_
              show F s₁ (mkF m 210 #[.val (.ref a), .val (.int fv), .val (.int lv), .val (.int ev), .val (.int (1 : Int32)), .val (.int av), .val (.int ld), .val (.int (3 : Int32)), .val (.int ls), .val (.int ms), s10, s11] [(.int (1 : Int32))])
              refine hst (fun t₀ k₀ => XS.iconst XI.here hx rfl (hb hby d3_210) k₀) ?_
              show F s₁ (mkF m 211 #[.val (.ref a), .val (.int fv), .val (.int lv), .val (.int ev), .val (.int (1 : Int32)), .val (.int av), .val (.int ld), .val (.int (3 : Int32)), .val (.int ls), .val (.int ms), s10, s11] [(.int (1 : Int32)), (.int (1 : Int32))])
              refine hst (fun t₀ k₀ => XS.goto XI.here hx rfl (pc0 := 211) (pc' := 215) rfl (hb hby d3_211) (by decide) (by decide) k₀) ?_
              show F s₁ (mkF m 215 #[.val (.ref a), .val (.int fv), .val (.int lv), .val (.int ev), .val (.int (1 : Int32)), .val (.int av), .val (.int ld), .val (.int (3 : Int32)), .val (.int ls), .val (.int ms), s10, s11] [(.int (1 : Int32)), (.int (1 : Int32))])
              refine hst (fun t₀ k₀ => XS.iand XI.here hx rfl (hb hby d3_215) rfl k₀) ?_
              show F s₁ (mkF m 216 #[.val (.ref a), .val (.int fv), .val (.int lv), .val (.int ev), .val (.int (1 : Int32)), .val (.int av), .val (.int ld), .val (.int (3 : Int32)), .val (.int ls), .val (.int ms), s10, s11] [(.int ((1 : Int32) &&& (1 : Int32)))])
              show F s₁ (mkF m 216 #[.val (.ref a), .val (.int fv), .val (.int lv), .val (.int ev), .val (.int (1 : Int32)), .val (.int av), .val (.int ld), .val (.int (3 : Int32)), .val (.int ls), .val (.int ms), s10, s11] [(.int (1 : Int32))])
              refine hst (fun t₀ k₀ => XS.istore XI.here hx rfl (hb hby d3_216) rfl (l' := #[.val (.ref a), .val (.int fv), .val (.int lv), .val (.int ev), .val (.int (1 : Int32)), .val (.int av), .val (.int ld), .val (.int (3 : Int32)), .val (.int ls), .val (.int ms), s10, s11]) rfl k₀) ?_
              show F s₁ (mkF m 218 #[.val (.ref a), .val (.int fv), .val (.int lv), .val (.int ev), .val (.int (1 : Int32)), .val (.int av), .val (.int ld), .val (.int (3 : Int32)), .val (.int ls), .val (.int ms), s10, s11] [])
              refine hst (fun t₀ k₀ => XS.iconst XI.here hx rfl (hb hby d3_218) k₀) ?_
              show F s₁ (mkF m 219 #[.val (.ref a), .val (.int fv), .val (.int lv), .val (.int ev), .val (.int (1 : Int32)), .val (.int av), .val (.int ld), .val (.int (3 : Int32)), .val (.int ls), .val (.int ms), s10, s11] [(.int (1 : Int32))])
              refine hst (fun t₀ k₀ => XS.istoreS XI.here hx rfl (hb hby d3_219) rfl rfl hs10 k₀) ?_
              show F s₁ (mkF m 221 #[.val (.ref a), .val (.int fv), .val (.int lv), .val (.int ev), .val (.int (1 : Int32)), .val (.int av), .val (.int ld), .val (.int (3 : Int32)), .val (.int ls), .val (.int ms), .val (.int (1 : Int32)), s11] [])
              refine hst (fun t₀ k₀ => XS.iload XI.here hx rfl (hb hby d3_221) rfl k₀) ?_
              show F s₁ (mkF m 223 #[.val (.ref a), .val (.int fv), .val (.int lv), .val (.int ev), .val (.int (1 : Int32)), .val (.int av), .val (.int ld), .val (.int (3 : Int32)), .val (.int ls), .val (.int ms), .val (.int (1 : Int32)), s11] [(.int (1 : Int32))])
              refine hst (fun t₀ k₀ => XS.ifNo XI.here hx rfl (hb hby d3_223) rfl ((if0 _ _).trans (feq (by decide)).1) k₀) ?_
              show F s₁ (mkF m 226 #[.val (.ref a), .val (.int fv), .val (.int lv), .val (.int ev), .val (.int (1 : Int32)), .val (.int av), .val (.int ld), .val (.int (3 : Int32)), .val (.int ls), .val (.int ms), .val (.int (1 : Int32)), s11] [])
              refine hst (fun t₀ k₀ => XS.iload XI.here hx rfl (hb hby d3_226) rfl k₀) ?_
              show F s₁ (mkF m 228 #[.val (.ref a), .val (.int fv), .val (.int lv), .val (.int ev), .val (.int (1 : Int32)), .val (.int av), .val (.int ld), .val (.int (3 : Int32)), .val (.int ls), .val (.int ms), .val (.int (1 : Int32)), s11] [(.int (1 : Int32))])
              refine hst (fun t₀ k₀ => XS.iload XI.here hx rfl (hb hby d3_228) rfl k₀) ?_
              show F s₁ (mkF m 230 #[.val (.ref a), .val (.int fv), .val (.int lv), .val (.int ev), .val (.int (1 : Int32)), .val (.int av), .val (.int ld), .val (.int (3 : Int32)), .val (.int ls), .val (.int ms), .val (.int (1 : Int32)), s11] [(.int (3 : Int32)), (.int (1 : Int32))])
              refine hst (fun t₀ k₀ => XS.icmpNo XI.here hx rfl (hb hby d3_230) rfl (flt (by decide)).2.2.1 k₀) ?_
              show F s₁ (mkF m 233 #[.val (.ref a), .val (.int fv), .val (.int lv), .val (.int ev), .val (.int (1 : Int32)), .val (.int av), .val (.int ld), .val (.int (3 : Int32)), .val (.int ls), .val (.int ms), .val (.int (1 : Int32)), s11] [])
              refine hst (fun t₀ k₀ => XS.aloadN XI.here hx rfl (hb hby d3_233) rfl rfl k₀) ?_
              show F s₁ (mkF m 234 #[.val (.ref a), .val (.int fv), .val (.int lv), .val (.int ev), .val (.int (1 : Int32)), .val (.int av), .val (.int ld), .val (.int (3 : Int32)), .val (.int ls), .val (.int ms), .val (.int (1 : Int32)), s11] [(.ref a)])
              refine hst (fun t₀ k₀ => XS.iload XI.here hx rfl (hb hby d3_234) rfl k₀) ?_
              show F s₁ (mkF m 236 #[.val (.ref a), .val (.int fv), .val (.int lv), .val (.int ev), .val (.int (1 : Int32)), .val (.int av), .val (.int ld), .val (.int (3 : Int32)), .val (.int ls), .val (.int ms), .val (.int (1 : Int32)), s11] [(.int av), (.ref a)])
              refine hst (fun t₀ k₀ => XS.iload XI.here hx rfl (hb hby d3_236) rfl k₀) ?_
              show F s₁ (mkF m 238 #[.val (.ref a), .val (.int fv), .val (.int lv), .val (.int ev), .val (.int (1 : Int32)), .val (.int av), .val (.int ld), .val (.int (3 : Int32)), .val (.int ls), .val (.int ms), .val (.int (1 : Int32)), s11] [(.int (1 : Int32)), (.int av), (.ref a)])
              refine hst (fun t₀ k₀ => XS.iadd XI.here hx rfl (hb hby d3_238) rfl k₀) ?_
              show F s₁ (mkF m 239 #[.val (.ref a), .val (.int fv), .val (.int lv), .val (.int ev), .val (.int (1 : Int32)), .val (.int av), .val (.int ld), .val (.int (3 : Int32)), .val (.int ls), .val (.int ms), .val (.int (1 : Int32)), s11] [(.int (av + (1 : Int32))), (.ref a)])
              generalize hix1 : (av + (1 : Int32)) = ix1
              show F s₁ (mkF m 239 #[.val (.ref a), .val (.int fv), .val (.int lv), .val (.int ev), .val (.int (1 : Int32)), .val (.int av), .val (.int ld), .val (.int (3 : Int32)), .val (.int ls), .val (.int ms), .val (.int (1 : Int32)), s11] [(.int ix1), (.ref a)])
              have kix1 : ix1.toInt = ((p' + 1 : Nat) : Int) := by have h1 := c_iadd av 1; have h2 := rng32 ix1; rw [hix1] at h1; omega
              have ql1 : p' + 1 < e' := by simp only [own_lt32] at hc207; omega
              refine hst (fun t₀ k₀ => own_baload XI hx hZ eI Ar (own_idx ix1 6 (by omega) (by omega)) (v := (.int (g (p' + 1)))) (by show Value.int (g ix1.toNatClampNeg) = _; rw [own_clamp ix1 _ kix1]) (g := (mkF m 239 #[.val (.ref a), .val (.int fv), .val (.int lv), .val (.int ev), .val (.int (1 : Int32)), .val (.int av), .val (.int ld), .val (.int (3 : Int32)), .val (.int ls), .val (.int ms), .val (.int (1 : Int32)), s11] [(.int ix1), (.ref a)])) rfl rfl (hb hby d3_239) t₀ k₀) ?_
              show F s₁ (mkF m 240 #[.val (.ref a), .val (.int fv), .val (.int lv), .val (.int ev), .val (.int (1 : Int32)), .val (.int av), .val (.int ld), .val (.int (3 : Int32)), .val (.int ls), .val (.int ms), .val (.int (1 : Int32)), s11] [(.int (g (p' + 1)))])
              refine hst (fun t₀ k₀ => XS.sipush XI.here hx rfl (hb hby d3_240) k₀) ?_
              show F s₁ (mkF m 243 #[.val (.ref a), .val (.int fv), .val (.int lv), .val (.int ev), .val (.int (1 : Int32)), .val (.int av), .val (.int ld), .val (.int (3 : Int32)), .val (.int ls), .val (.int ms), .val (.int (1 : Int32)), s11] [(.int (255 : Int32)), (.int (g (p' + 1)))])
              refine hst (fun t₀ k₀ => XS.iand XI.here hx rfl (hb hby d3_243) rfl k₀) ?_
              show F s₁ (mkF m 244 #[.val (.ref a), .val (.int fv), .val (.int lv), .val (.int ev), .val (.int (1 : Int32)), .val (.int av), .val (.int ld), .val (.int (3 : Int32)), .val (.int ls), .val (.int ms), .val (.int (1 : Int32)), s11] [(.int ((g (p' + 1)) &&& (255 : Int32)))])
              generalize hb1 : ((g (p' + 1)) &&& (255 : Int32)) = b1
              show F s₁ (mkF m 244 #[.val (.ref a), .val (.int fv), .val (.int lv), .val (.int ev), .val (.int (1 : Int32)), .val (.int av), .val (.int ld), .val (.int (3 : Int32)), .val (.int ls), .val (.int ms), .val (.int (1 : Int32)), s11] [(.int b1)])
              obtain ⟨kb1, kb1b⟩ : b1.toInt = (own_B g (p' + 1) : Int) ∧ own_B g (p' + 1) < 256 := by rw [← hb1]; exact own_byte g _
              refine hst (fun t₀ k₀ => XS.istoreS XI.here hx rfl (hb hby d3_244) rfl rfl hs11 k₀) ?_
              show F s₁ (mkF m 246 #[.val (.ref a), .val (.int fv), .val (.int lv), .val (.int ev), .val (.int (1 : Int32)), .val (.int av), .val (.int ld), .val (.int (3 : Int32)), .val (.int ls), .val (.int ms), .val (.int (1 : Int32)), .val (.int b1)] [])
              refine hst (fun t₀ k₀ => XS.iload XI.here hx rfl (hb hby d3_246) rfl k₀) ?_
              show F s₁ (mkF m 248 #[.val (.ref a), .val (.int fv), .val (.int lv), .val (.int ev), .val (.int (1 : Int32)), .val (.int av), .val (.int ld), .val (.int (3 : Int32)), .val (.int ls), .val (.int ms), .val (.int (1 : Int32)), .val (.int b1)] [(.int (1 : Int32))])
              refine hst (fun t₀ k₀ => XS.iconst XI.here hx rfl (hb hby d3_248) k₀) ?_
              show F s₁ (mkF m 249 #[.val (.ref a), .val (.int fv), .val (.int lv), .val (.int ev), .val (.int (1 : Int32)), .val (.int av), .val (.int ld), .val (.int (3 : Int32)), .val (.int ls), .val (.int ms), .val (.int (1 : Int32)), .val (.int b1)] [(.int (1 : Int32)), (.int (1 : Int32))])
              refine hst (fun t₀ k₀ => XS.icmpNo XI.here hx rfl (hb hby d3_249) rfl (teq (by decide)).2 k₀) ?_
              show F s₁ (mkF m 252 #[.val (.ref a), .val (.int fv), .val (.int lv), .val (.int ev), .val (.int (1 : Int32)), .val (.int av), .val (.int ld), .val (.int (3 : Int32)), .val (.int ls), .val (.int ms), .val (.int (1 : Int32)), .val (.int b1)] [])
              refine hst (fun t₀ k₀ => XS.iload XI.here hx rfl (hb hby d3_252) rfl k₀) ?_
              show F s₁ (mkF m 254 #[.val (.ref a), .val (.int fv), .val (.int lv), .val (.int ev), .val (.int (1 : Int32)), .val (.int av), .val (.int ld), .val (.int (3 : Int32)), .val (.int ls), .val (.int ms), .val (.int (1 : Int32)), .val (.int b1)] [(.int b1)])
              refine hst (fun t₀ k₀ => XS.iload XI.here hx rfl (hb hby d3_254) rfl k₀) ?_
              show F s₁ (mkF m 256 #[.val (.ref a), .val (.int fv), .val (.int lv), .val (.int ev), .val (.int (1 : Int32)), .val (.int av), .val (.int ld), .val (.int (3 : Int32)), .val (.int ls), .val (.int ms), .val (.int (1 : Int32)), .val (.int b1)] [(.int ls), (.int b1)])
              by_cases hc256 : b1 < ls
              · -- pc 256: taken
                refine hst (fun t₀ k₀ => XS.icmpYes XI.here hx rfl (pc0 := 256) (pc' := 270) rfl (hb hby d3_256) rfl (tlt hc256).1 (by decide) (by decide) k₀) ?_
                show F s₁ (mkF m 270 #[.val (.ref a), .val (.int fv), .val (.int lv), .val (.int ev), .val (.int (1 : Int32)), .val (.int av), .val (.int ld), .val (.int (3 : Int32)), .val (.int ls), .val (.int ms), .val (.int (1 : Int32)), .val (.int b1)] [])
                refine hst (fun t₀ k₀ => XS.iconst XI.here hx rfl (hb hby d3_270) k₀) ?_
                show F s₁ (mkF m 271 #[.val (.ref a), .val (.int fv), .val (.int lv), .val (.int ev), .val (.int (1 : Int32)), .val (.int av), .val (.int ld), .val (.int (3 : Int32)), .val (.int ls), .val (.int ms), .val (.int (1 : Int32)), .val (.int b1)] [(.int (0 : Int32))])
                refine hst (fun t₀ k₀ => XS.goto XI.here hx rfl (pc0 := 271) (pc' := 291) rfl (hb hby d3_271) (by decide) (by decide) k₀) ?_
                show F s₁ (mkF m 291 #[.val (.ref a), .val (.int fv), .val (.int lv), .val (.int ev), .val (.int (1 : Int32)), .val (.int av), .val (.int ld), .val (.int (3 : Int32)), .val (.int ls), .val (.int ms), .val (.int (1 : Int32)), .val (.int b1)] [(.int (0 : Int32))])
                refine hst (fun t₀ k₀ => XS.istore XI.here hx rfl (hb hby d3_291) rfl (l' := #[.val (.ref a), .val (.int fv), .val (.int lv), .val (.int ev), .val (.int (0 : Int32)), .val (.int av), .val (.int ld), .val (.int (3 : Int32)), .val (.int ls), .val (.int ms), .val (.int (1 : Int32)), .val (.int b1)]) rfl k₀) ?_
                show F s₁ (mkF m 293 #[.val (.ref a), .val (.int fv), .val (.int lv), .val (.int ev), .val (.int (0 : Int32)), .val (.int av), .val (.int ld), .val (.int (3 : Int32)), .val (.int ls), .val (.int ms), .val (.int (1 : Int32)), .val (.int b1)] [])
                refine hst (fun t₀ k₀ => XS.iinc XI.here hx rfl (hb hby d3_293) rfl (l' := #[.val (.ref a), .val (.int fv), .val (.int lv), .val (.int ev), .val (.int (0 : Int32)), .val (.int av), .val (.int ld), .val (.int (3 : Int32)), .val (.int ls), .val (.int ms), .val (.int ((1 : Int32) + (1 : Int32))), .val (.int b1)]) rfl k₀) ?_
                show F s₁ (mkF m 296 #[.val (.ref a), .val (.int fv), .val (.int lv), .val (.int ev), .val (.int (0 : Int32)), .val (.int av), .val (.int ld), .val (.int (3 : Int32)), .val (.int ls), .val (.int ms), .val (.int ((1 : Int32) + (1 : Int32))), .val (.int b1)] [])
                show F s₁ (mkF m 296 #[.val (.ref a), .val (.int fv), .val (.int lv), .val (.int ev), .val (.int (0 : Int32)), .val (.int av), .val (.int ld), .val (.int (3 : Int32)), .val (.int ls), .val (.int ms), .val (.int (2 : Int32)), .val (.int b1)] [])
                refine hst (fun t₀ k₀ => XS.goto XI.here hx rfl (pc0 := 296) (pc' := 221) rfl (hb hby d3_296) (by decide) (by decide) k₀) ?_
                show F s₁ (mkF m 221 #[.val (.ref a), .val (.int fv), .val (.int lv), .val (.int ev), .val (.int (0 : Int32)), .val (.int av), .val (.int ld), .val (.int (3 : Int32)), .val (.int ls), .val (.int ms), .val (.int (2 : Int32)), .val (.int b1)] [])
                refine hst (fun t₀ k₀ => XS.iload XI.here hx rfl (hb hby d3_221) rfl k₀) ?_
                show F s₁ (mkF m 223 #[.val (.ref a), .val (.int fv), .val (.int lv), .val (.int ev), .val (.int (0 : Int32)), .val (.int av), .val (.int ld), .val (.int (3 : Int32)), .val (.int ls), .val (.int ms), .val (.int (2 : Int32)), .val (.int b1)] [(.int (0 : Int32))])
                refine hst (fun t₀ k₀ => XS.ifYes XI.here hx rfl (pc0 := 223) (pc' := 299) rfl (hb hby d3_223) rfl ((if0 _ _).trans (teq (by decide)).1) (by decide) (by decide) k₀) ?_
                show F s₁ (mkF m 299 #[.val (.ref a), .val (.int fv), .val (.int lv), .val (.int ev), .val (.int (0 : Int32)), .val (.int av), .val (.int ld), .val (.int (3 : Int32)), .val (.int ls), .val (.int ms), .val (.int (2 : Int32)), .val (.int b1)] [])
                refine hst (fun t₀ k₀ => XS.iload XI.here hx rfl (hb hby d3_299) rfl k₀) ?_
                show F s₁ (mkF m 301 #[.val (.ref a), .val (.int fv), .val (.int lv), .val (.int ev), .val (.int (0 : Int32)), .val (.int av), .val (.int ld), .val (.int (3 : Int32)), .val (.int ls), .val (.int ms), .val (.int (2 : Int32)), .val (.int b1)] [(.int av)])
                refine hst (fun t₀ k₀ => XS.iload XI.here hx rfl (hb hby d3_301) rfl k₀) ?_
                show F s₁ (mkF m 303 #[.val (.ref a), .val (.int fv), .val (.int lv), .val (.int ev), .val (.int (0 : Int32)), .val (.int av), .val (.int ld), .val (.int (3 : Int32)), .val (.int ls), .val (.int ms), .val (.int (2 : Int32)), .val (.int b1)] [(.int (3 : Int32)), (.int av)])
                refine hst (fun t₀ k₀ => XS.iconst XI.here hx rfl (hb hby d3_303) k₀) ?_
                show F s₁ (mkF m 304 #[.val (.ref a), .val (.int fv), .val (.int lv), .val (.int ev), .val (.int (0 : Int32)), .val (.int av), .val (.int ld), .val (.int (3 : Int32)), .val (.int ls), .val (.int ms), .val (.int (2 : Int32)), .val (.int b1)] [(.int (1 : Int32)), (.int (3 : Int32)), (.int av)])
                refine hst (fun t₀ k₀ => XS.iadd XI.here hx rfl (hb hby d3_304) rfl k₀) ?_
                show F s₁ (mkF m 305 #[.val (.ref a), .val (.int fv), .val (.int lv), .val (.int ev), .val (.int (0 : Int32)), .val (.int av), .val (.int ld), .val (.int (3 : Int32)), .val (.int ls), .val (.int ms), .val (.int (2 : Int32)), .val (.int b1)] [(.int ((3 : Int32) + (1 : Int32))), (.int av)])
                refine hst (fun t₀ k₀ => XS.iadd XI.here hx rfl (hb hby d3_305) rfl k₀) ?_
                show F s₁ (mkF m 306 #[.val (.ref a), .val (.int fv), .val (.int lv), .val (.int ev), .val (.int (0 : Int32)), .val (.int av), .val (.int ld), .val (.int (3 : Int32)), .val (.int ls), .val (.int ms), .val (.int (2 : Int32)), .val (.int b1)] [(.int (av + ((3 : Int32) + (1 : Int32))))])
                generalize hat' : (av + ((3 : Int32) + (1 : Int32))) = at'
                show F s₁ (mkF m 306 #[.val (.ref a), .val (.int fv), .val (.int lv), .val (.int ev), .val (.int (0 : Int32)), .val (.int av), .val (.int ld), .val (.int (3 : Int32)), .val (.int ls), .val (.int ms), .val (.int (2 : Int32)), .val (.int b1)] [(.int at')])
                have kat : at'.toInt = ((p' + 4 : Nat) : Int) := by have h1 := c_iadd 3 1; have h2 := rng32 (3 + 1); have h3 := c_iadd av (3 + 1); have h4 := rng32 at'; rw [hat'] at h3; omega
                refine hst (fun t₀ k₀ => XS.istore XI.here hx rfl (hb hby d3_306) rfl (l' := #[.val (.ref a), .val (.int fv), .val (.int lv), .val (.int ev), .val (.int (0 : Int32)), .val (.int at'), .val (.int ld), .val (.int (3 : Int32)), .val (.int ls), .val (.int ms), .val (.int (2 : Int32)), .val (.int b1)]) rfl k₀) ?_
                show F s₁ (mkF m 308 #[.val (.ref a), .val (.int fv), .val (.int lv), .val (.int ev), .val (.int (0 : Int32)), .val (.int at'), .val (.int ld), .val (.int (3 : Int32)), .val (.int ls), .val (.int ms), .val (.int (2 : Int32)), .val (.int b1)] [])
                refine hst (fun t₀ k₀ => XS.goto XI.here hx rfl (pc0 := 308) (pc' := 10) rfl (hb hby d3_308) (by decide) (by decide) k₀) ?_
                show F s₁ (mkF m 10 #[.val (.ref a), .val (.int fv), .val (.int lv), .val (.int ev), .val (.int (0 : Int32)), .val (.int at'), .val (.int ld), .val (.int (3 : Int32)), .val (.int ls), .val (.int ms), .val (.int (2 : Int32)), .val (.int b1)] [])
                show F s₁ (mkF m 10 #[.val (.ref a), .val (.int fv), .val (.int lv), .val (.int ev), .val (.int (0 : Int32)), .val (.int at'), .val (.int ld), .val (.int (3 : Int32)), .val (.int ls), .val (.int ms), .val (.int (2 : Int32)), .val (.int b1)] [])
                refine hst (fun t₀ k₀ => XS.iload XI.here hx rfl (hb hby d3_10) rfl k₀) ?_
                show F s₁ (mkF m 12 #[.val (.ref a), .val (.int fv), .val (.int lv), .val (.int ev), .val (.int (0 : Int32)), .val (.int at'), .val (.int ld), .val (.int (3 : Int32)), .val (.int ls), .val (.int ms), .val (.int (2 : Int32)), .val (.int b1)] [(.int (0 : Int32))])
                refine hst (fun t₀ k₀ => XS.ifYes XI.here hx rfl (pc0 := 12) (pc' := 311) rfl (hb hby d3_12) rfl ((if0 _ _).trans (teq (by decide)).1) (by decide) (by decide) k₀) ?_
                show F s₁ (mkF m 311 #[.val (.ref a), .val (.int fv), .val (.int lv), .val (.int ev), .val (.int (0 : Int32)), .val (.int at'), .val (.int ld), .val (.int (3 : Int32)), .val (.int ls), .val (.int ms), .val (.int (2 : Int32)), .val (.int b1)] [])
                refine hst (fun t₀ k₀ => XS.iload XI.here hx rfl (hb hby d3_311) rfl k₀) ?_
                show F s₁ (mkF m 313 #[.val (.ref a), .val (.int fv), .val (.int lv), .val (.int ev), .val (.int (0 : Int32)), .val (.int at'), .val (.int ld), .val (.int (3 : Int32)), .val (.int ls), .val (.int ms), .val (.int (2 : Int32)), .val (.int b1)] [(.int (0 : Int32))])
                rw [hF]
                refine own_retN XI hx hret (by simp) hlk (hb hby d3_313) (by decide) (by decide) ?_
                simp only [own_lt32, own_eq32] at hc207 hc256
                have hcl : own_cl (own_B g) p' e' = 0 := by
                  unfold own_cl; (repeat' split) <;> omega
                obtain ⟨k', rfl⟩ : ∃ k', k = k' + 1 := ⟨k - 1, by omega⟩
                rw [eI]
                exact ⟨(by rw [← hw', own_wf_bad (own_B g) e' _ p' q18 hcl]; rfl), NI, rfl⟩
              · -- pc 256: not taken
                refine hst (fun t₀ k₀ => XS.icmpNo XI.here hx rfl (hb hby d3_256) rfl (flt hc256).1 k₀) ?_
                show F s₁ (mkF m 259 #[.val (.ref a), .val (.int fv), .val (.int lv), .val (.int ev), .val (.int (1 : Int32)), .val (.int av), .val (.int ld), .val (.int (3 : Int32)), .val (.int ls), .val (.int ms), .val (.int (1 : Int32)), .val (.int b1)] [])
                refine hst (fun t₀ k₀ => XS.iload XI.here hx rfl (hb hby d3_259) rfl k₀) ?_
                show F s₁ (mkF m 261 #[.val (.ref a), .val (.int fv), .val (.int lv), .val (.int ev), .val (.int (1 : Int32)), .val (.int av), .val (.int ld), .val (.int (3 : Int32)), .val (.int ls), .val (.int ms), .val (.int (1 : Int32)), .val (.int b1)] [(.int b1)])
                refine hst (fun t₀ k₀ => XS.iload XI.here hx rfl (hb hby d3_261) rfl k₀) ?_
                show F s₁ (mkF m 263 #[.val (.ref a), .val (.int fv), .val (.int lv), .val (.int ev), .val (.int (1 : Int32)), .val (.int av), .val (.int ld), .val (.int (3 : Int32)), .val (.int ls), .val (.int ms), .val (.int (1 : Int32)), .val (.int b1)] [(.int ms), (.int b1)])
                by_cases hc263 : ms < b1
                · -- pc 263: taken
                  refine hst (fun t₀ k₀ => XS.icmpYes XI.here hx rfl (pc0 := 263) (pc' := 270) rfl (hb hby d3_263) rfl (tlt hc263).2.2.1 (by decide) (by decide) k₀) ?_
                  show F s₁ (mkF m 270 #[.val (.ref a), .val (.int fv), .val (.int lv), .val (.int ev), .val (.int (1 : Int32)), .val (.int av), .val (.int ld), .val (.int (3 : Int32)), .val (.int ls), .val (.int ms), .val (.int (1 : Int32)), .val (.int b1)] [])
                  refine hst (fun t₀ k₀ => XS.iconst XI.here hx rfl (hb hby d3_270) k₀) ?_
                  show F s₁ (mkF m 271 #[.val (.ref a), .val (.int fv), .val (.int lv), .val (.int ev), .val (.int (1 : Int32)), .val (.int av), .val (.int ld), .val (.int (3 : Int32)), .val (.int ls), .val (.int ms), .val (.int (1 : Int32)), .val (.int b1)] [(.int (0 : Int32))])
                  refine hst (fun t₀ k₀ => XS.goto XI.here hx rfl (pc0 := 271) (pc' := 291) rfl (hb hby d3_271) (by decide) (by decide) k₀) ?_
                  show F s₁ (mkF m 291 #[.val (.ref a), .val (.int fv), .val (.int lv), .val (.int ev), .val (.int (1 : Int32)), .val (.int av), .val (.int ld), .val (.int (3 : Int32)), .val (.int ls), .val (.int ms), .val (.int (1 : Int32)), .val (.int b1)] [(.int (0 : Int32))])
                  refine hst (fun t₀ k₀ => XS.istore XI.here hx rfl (hb hby d3_291) rfl (l' := #[.val (.ref a), .val (.int fv), .val (.int lv), .val (.int ev), .val (.int (0 : Int32)), .val (.int av), .val (.int ld), .val (.int (3 : Int32)), .val (.int ls), .val (.int ms), .val (.int (1 : Int32)), .val (.int b1)]) rfl k₀) ?_
                  show F s₁ (mkF m 293 #[.val (.ref a), .val (.int fv), .val (.int lv), .val (.int ev), .val (.int (0 : Int32)), .val (.int av), .val (.int ld), .val (.int (3 : Int32)), .val (.int ls), .val (.int ms), .val (.int (1 : Int32)), .val (.int b1)] [])
                  refine hst (fun t₀ k₀ => XS.iinc XI.here hx rfl (hb hby d3_293) rfl (l' := #[.val (.ref a), .val (.int fv), .val (.int lv), .val (.int ev), .val (.int (0 : Int32)), .val (.int av), .val (.int ld), .val (.int (3 : Int32)), .val (.int ls), .val (.int ms), .val (.int ((1 : Int32) + (1 : Int32))), .val (.int b1)]) rfl k₀) ?_
                  show F s₁ (mkF m 296 #[.val (.ref a), .val (.int fv), .val (.int lv), .val (.int ev), .val (.int (0 : Int32)), .val (.int av), .val (.int ld), .val (.int (3 : Int32)), .val (.int ls), .val (.int ms), .val (.int ((1 : Int32) + (1 : Int32))), .val (.int b1)] [])
                  show F s₁ (mkF m 296 #[.val (.ref a), .val (.int fv), .val (.int lv), .val (.int ev), .val (.int (0 : Int32)), .val (.int av), .val (.int ld), .val (.int (3 : Int32)), .val (.int ls), .val (.int ms), .val (.int (2 : Int32)), .val (.int b1)] [])
                  refine hst (fun t₀ k₀ => XS.goto XI.here hx rfl (pc0 := 296) (pc' := 221) rfl (hb hby d3_296) (by decide) (by decide) k₀) ?_
                  show F s₁ (mkF m 221 #[.val (.ref a), .val (.int fv), .val (.int lv), .val (.int ev), .val (.int (0 : Int32)), .val (.int av), .val (.int ld), .val (.int (3 : Int32)), .val (.int ls), .val (.int ms), .val (.int (2 : Int32)), .val (.int b1)] [])
                  refine hst (fun t₀ k₀ => XS.iload XI.here hx rfl (hb hby d3_221) rfl k₀) ?_
                  show F s₁ (mkF m 223 #[.val (.ref a), .val (.int fv), .val (.int lv), .val (.int ev), .val (.int (0 : Int32)), .val (.int av), .val (.int ld), .val (.int (3 : Int32)), .val (.int ls), .val (.int ms), .val (.int (2 : Int32)), .val (.int b1)] [(.int (0 : Int32))])
                  refine hst (fun t₀ k₀ => XS.ifYes XI.here hx rfl (pc0 := 223) (pc' := 299) rfl (hb hby d3_223) rfl ((if0 _ _).trans (teq (by decide)).1) (by decide) (by decide) k₀) ?_
                  show F s₁ (mkF m 299 #[.val (.ref a), .val (.int fv), .val (.int lv), .val (.int ev), .val (.int (0 : Int32)), .val (.int av), .val (.int ld), .val (.int (3 : Int32)), .val (.int ls), .val (.int ms), .val (.int (2 : Int32)), .val (.int b1)] [])
                  refine hst (fun t₀ k₀ => XS.iload XI.here hx rfl (hb hby d3_299) rfl k₀) ?_
                  show F s₁ (mkF m 301 #[.val (.ref a), .val (.int fv), .val (.int lv), .val (.int ev), .val (.int (0 : Int32)), .val (.int av), .val (.int ld), .val (.int (3 : Int32)), .val (.int ls), .val (.int ms), .val (.int (2 : Int32)), .val (.int b1)] [(.int av)])
                  refine hst (fun t₀ k₀ => XS.iload XI.here hx rfl (hb hby d3_301) rfl k₀) ?_
                  show F s₁ (mkF m 303 #[.val (.ref a), .val (.int fv), .val (.int lv), .val (.int ev), .val (.int (0 : Int32)), .val (.int av), .val (.int ld), .val (.int (3 : Int32)), .val (.int ls), .val (.int ms), .val (.int (2 : Int32)), .val (.int b1)] [(.int (3 : Int32)), (.int av)])
                  refine hst (fun t₀ k₀ => XS.iconst XI.here hx rfl (hb hby d3_303) k₀) ?_
                  show F s₁ (mkF m 304 #[.val (.ref a), .val (.int fv), .val (.int lv), .val (.int ev), .val (.int (0 : Int32)), .val (.int av), .val (.int ld), .val (.int (3 : Int32)), .val (.int ls), .val (.int ms), .val (.int (2 : Int32)), .val (.int b1)] [(.int (1 : Int32)), (.int (3 : Int32)), (.int av)])
                  refine hst (fun t₀ k₀ => XS.iadd XI.here hx rfl (hb hby d3_304) rfl k₀) ?_
                  show F s₁ (mkF m 305 #[.val (.ref a), .val (.int fv), .val (.int lv), .val (.int ev), .val (.int (0 : Int32)), .val (.int av), .val (.int ld), .val (.int (3 : Int32)), .val (.int ls), .val (.int ms), .val (.int (2 : Int32)), .val (.int b1)] [(.int ((3 : Int32) + (1 : Int32))), (.int av)])
                  refine hst (fun t₀ k₀ => XS.iadd XI.here hx rfl (hb hby d3_305) rfl k₀) ?_
                  show F s₁ (mkF m 306 #[.val (.ref a), .val (.int fv), .val (.int lv), .val (.int ev), .val (.int (0 : Int32)), .val (.int av), .val (.int ld), .val (.int (3 : Int32)), .val (.int ls), .val (.int ms), .val (.int (2 : Int32)), .val (.int b1)] [(.int (av + ((3 : Int32) + (1 : Int32))))])
                  generalize hat' : (av + ((3 : Int32) + (1 : Int32))) = at'
                  show F s₁ (mkF m 306 #[.val (.ref a), .val (.int fv), .val (.int lv), .val (.int ev), .val (.int (0 : Int32)), .val (.int av), .val (.int ld), .val (.int (3 : Int32)), .val (.int ls), .val (.int ms), .val (.int (2 : Int32)), .val (.int b1)] [(.int at')])
                  have kat : at'.toInt = ((p' + 4 : Nat) : Int) := by have h1 := c_iadd 3 1; have h2 := rng32 (3 + 1); have h3 := c_iadd av (3 + 1); have h4 := rng32 at'; rw [hat'] at h3; omega
                  refine hst (fun t₀ k₀ => XS.istore XI.here hx rfl (hb hby d3_306) rfl (l' := #[.val (.ref a), .val (.int fv), .val (.int lv), .val (.int ev), .val (.int (0 : Int32)), .val (.int at'), .val (.int ld), .val (.int (3 : Int32)), .val (.int ls), .val (.int ms), .val (.int (2 : Int32)), .val (.int b1)]) rfl k₀) ?_
                  show F s₁ (mkF m 308 #[.val (.ref a), .val (.int fv), .val (.int lv), .val (.int ev), .val (.int (0 : Int32)), .val (.int at'), .val (.int ld), .val (.int (3 : Int32)), .val (.int ls), .val (.int ms), .val (.int (2 : Int32)), .val (.int b1)] [])
                  refine hst (fun t₀ k₀ => XS.goto XI.here hx rfl (pc0 := 308) (pc' := 10) rfl (hb hby d3_308) (by decide) (by decide) k₀) ?_
                  show F s₁ (mkF m 10 #[.val (.ref a), .val (.int fv), .val (.int lv), .val (.int ev), .val (.int (0 : Int32)), .val (.int at'), .val (.int ld), .val (.int (3 : Int32)), .val (.int ls), .val (.int ms), .val (.int (2 : Int32)), .val (.int b1)] [])
                  show F s₁ (mkF m 10 #[.val (.ref a), .val (.int fv), .val (.int lv), .val (.int ev), .val (.int (0 : Int32)), .val (.int at'), .val (.int ld), .val (.int (3 : Int32)), .val (.int ls), .val (.int ms), .val (.int (2 : Int32)), .val (.int b1)] [])
                  refine hst (fun t₀ k₀ => XS.iload XI.here hx rfl (hb hby d3_10) rfl k₀) ?_
                  show F s₁ (mkF m 12 #[.val (.ref a), .val (.int fv), .val (.int lv), .val (.int ev), .val (.int (0 : Int32)), .val (.int at'), .val (.int ld), .val (.int (3 : Int32)), .val (.int ls), .val (.int ms), .val (.int (2 : Int32)), .val (.int b1)] [(.int (0 : Int32))])
                  refine hst (fun t₀ k₀ => XS.ifYes XI.here hx rfl (pc0 := 12) (pc' := 311) rfl (hb hby d3_12) rfl ((if0 _ _).trans (teq (by decide)).1) (by decide) (by decide) k₀) ?_
                  show F s₁ (mkF m 311 #[.val (.ref a), .val (.int fv), .val (.int lv), .val (.int ev), .val (.int (0 : Int32)), .val (.int at'), .val (.int ld), .val (.int (3 : Int32)), .val (.int ls), .val (.int ms), .val (.int (2 : Int32)), .val (.int b1)] [])
                  refine hst (fun t₀ k₀ => XS.iload XI.here hx rfl (hb hby d3_311) rfl k₀) ?_
                  show F s₁ (mkF m 313 #[.val (.ref a), .val (.int fv), .val (.int lv), .val (.int ev), .val (.int (0 : Int32)), .val (.int at'), .val (.int ld), .val (.int (3 : Int32)), .val (.int ls), .val (.int ms), .val (.int (2 : Int32)), .val (.int b1)] [(.int (0 : Int32))])
                  rw [hF]
                  refine own_retN XI hx hret (by simp) hlk (hb hby d3_313) (by decide) (by decide) ?_
                  simp only [own_lt32, own_eq32] at hc207 hc256 hc263
                  have hcl : own_cl (own_B g) p' e' = 0 := by
                    unfold own_cl; (repeat' split) <;> omega
                  obtain ⟨k', rfl⟩ : ∃ k', k = k' + 1 := ⟨k - 1, by omega⟩
                  rw [eI]
                  exact ⟨(by rw [← hw', own_wf_bad (own_B g) e' _ p' q18 hcl]; rfl), NI, rfl⟩
                · -- pc 263: not taken
                  refine hst (fun t₀ k₀ => XS.icmpNo XI.here hx rfl (hb hby d3_263) rfl (flt hc263).2.2.1 k₀) ?_
                  show F s₁ (mkF m 266 #[.val (.ref a), .val (.int fv), .val (.int lv), .val (.int ev), .val (.int (1 : Int32)), .val (.int av), .val (.int ld), .val (.int (3 : Int32)), .val (.int ls), .val (.int ms), .val (.int (1 : Int32)), .val (.int b1)] [])
                  refine hst (fun t₀ k₀ => XS.iconst XI.here hx rfl (hb hby d3_266) k₀) ?_
                  show F s₁ (mkF m 267 #[.val (.ref a), .val (.int fv), .val (.int lv), .val (.int ev), .val (.int (1 : Int32)), .val (.int av), .val (.int ld), .val (.int (3 : Int32)), .val (.int ls), .val (.int ms), .val (.int (1 : Int32)), .val (.int b1)] [(.int (1 : Int32))])
                  refine hst (fun t₀ k₀ => XS.goto XI.here hx rfl (pc0 := 267) (pc' := 291) rfl (hb hby d3_267) (by decide) (by decide) k₀) ?_
                  show F s₁ (mkF m 291 #[.val (.ref a), .val (.int fv), .val (.int lv), .val (.int ev), .val (.int (1 : Int32)), .val (.int av), .val (.int ld), .val (.int (3 : Int32)), .val (.int ls), .val (.int ms), .val (.int (1 : Int32)), .val (.int b1)] [(.int (1 : Int32))])
                  refine hst (fun t₀ k₀ => XS.istore XI.here hx rfl (hb hby d3_291) rfl (l' := #[.val (.ref a), .val (.int fv), .val (.int lv), .val (.int ev), .val (.int (1 : Int32)), .val (.int av), .val (.int ld), .val (.int (3 : Int32)), .val (.int ls), .val (.int ms), .val (.int (1 : Int32)), .val (.int b1)]) rfl k₀) ?_
                  show F s₁ (mkF m 293 #[.val (.ref a), .val (.int fv), .val (.int lv), .val (.int ev), .val (.int (1 : Int32)), .val (.int av), .val (.int ld), .val (.int (3 : Int32)), .val (.int ls), .val (.int ms), .val (.int (1 : Int32)), .val (.int b1)] [])
                  refine hst (fun t₀ k₀ => XS.iinc XI.here hx rfl (hb hby d3_293) rfl (l' := #[.val (.ref a), .val (.int fv), .val (.int lv), .val (.int ev), .val (.int (1 : Int32)), .val (.int av), .val (.int ld), .val (.int (3 : Int32)), .val (.int ls), .val (.int ms), .val (.int ((1 : Int32) + (1 : Int32))), .val (.int b1)]) rfl k₀) ?_
                  show F s₁ (mkF m 296 #[.val (.ref a), .val (.int fv), .val (.int lv), .val (.int ev), .val (.int (1 : Int32)), .val (.int av), .val (.int ld), .val (.int (3 : Int32)), .val (.int ls), .val (.int ms), .val (.int ((1 : Int32) + (1 : Int32))), .val (.int b1)] [])
                  show F s₁ (mkF m 296 #[.val (.ref a), .val (.int fv), .val (.int lv), .val (.int ev), .val (.int (1 : Int32)), .val (.int av), .val (.int ld), .val (.int (3 : Int32)), .val (.int ls), .val (.int ms), .val (.int (2 : Int32)), .val (.int b1)] [])
                  refine hst (fun t₀ k₀ => XS.goto XI.here hx rfl (pc0 := 296) (pc' := 221) rfl (hb hby d3_296) (by decide) (by decide) k₀) ?_
                  show F s₁ (mkF m 221 #[.val (.ref a), .val (.int fv), .val (.int lv), .val (.int ev), .val (.int (1 : Int32)), .val (.int av), .val (.int ld), .val (.int (3 : Int32)), .val (.int ls), .val (.int ms), .val (.int (2 : Int32)), .val (.int b1)] [])
                  refine hst (fun t₀ k₀ => XS.iload XI.here hx rfl (hb hby d3_221) rfl k₀) ?_
                  show F s₁ (mkF m 223 #[.val (.ref a), .val (.int fv), .val (.int lv), .val (.int ev), .val (.int (1 : Int32)), .val (.int av), .val (.int ld), .val (.int (3 : Int32)), .val (.int ls), .val (.int ms), .val (.int (2 : Int32)), .val (.int b1)] [(.int (1 : Int32))])
                  refine hst (fun t₀ k₀ => XS.ifNo XI.here hx rfl (hb hby d3_223) rfl ((if0 _ _).trans (feq (by decide)).1) k₀) ?_
                  show F s₁ (mkF m 226 #[.val (.ref a), .val (.int fv), .val (.int lv), .val (.int ev), .val (.int (1 : Int32)), .val (.int av), .val (.int ld), .val (.int (3 : Int32)), .val (.int ls), .val (.int ms), .val (.int (2 : Int32)), .val (.int b1)] [])
                  refine hst (fun t₀ k₀ => XS.iload XI.here hx rfl (hb hby d3_226) rfl k₀) ?_
                  show F s₁ (mkF m 228 #[.val (.ref a), .val (.int fv), .val (.int lv), .val (.int ev), .val (.int (1 : Int32)), .val (.int av), .val (.int ld), .val (.int (3 : Int32)), .val (.int ls), .val (.int ms), .val (.int (2 : Int32)), .val (.int b1)] [(.int (2 : Int32))])
                  refine hst (fun t₀ k₀ => XS.iload XI.here hx rfl (hb hby d3_228) rfl k₀) ?_
                  show F s₁ (mkF m 230 #[.val (.ref a), .val (.int fv), .val (.int lv), .val (.int ev), .val (.int (1 : Int32)), .val (.int av), .val (.int ld), .val (.int (3 : Int32)), .val (.int ls), .val (.int ms), .val (.int (2 : Int32)), .val (.int b1)] [(.int (3 : Int32)), (.int (2 : Int32))])
                  refine hst (fun t₀ k₀ => XS.icmpNo XI.here hx rfl (hb hby d3_230) rfl (flt (by decide)).2.2.1 k₀) ?_
                  show F s₁ (mkF m 233 #[.val (.ref a), .val (.int fv), .val (.int lv), .val (.int ev), .val (.int (1 : Int32)), .val (.int av), .val (.int ld), .val (.int (3 : Int32)), .val (.int ls), .val (.int ms), .val (.int (2 : Int32)), .val (.int b1)] [])
                  refine hst (fun t₀ k₀ => XS.aloadN XI.here hx rfl (hb hby d3_233) rfl rfl k₀) ?_
                  show F s₁ (mkF m 234 #[.val (.ref a), .val (.int fv), .val (.int lv), .val (.int ev), .val (.int (1 : Int32)), .val (.int av), .val (.int ld), .val (.int (3 : Int32)), .val (.int ls), .val (.int ms), .val (.int (2 : Int32)), .val (.int b1)] [(.ref a)])
                  refine hst (fun t₀ k₀ => XS.iload XI.here hx rfl (hb hby d3_234) rfl k₀) ?_
                  show F s₁ (mkF m 236 #[.val (.ref a), .val (.int fv), .val (.int lv), .val (.int ev), .val (.int (1 : Int32)), .val (.int av), .val (.int ld), .val (.int (3 : Int32)), .val (.int ls), .val (.int ms), .val (.int (2 : Int32)), .val (.int b1)] [(.int av), (.ref a)])
                  refine hst (fun t₀ k₀ => XS.iload XI.here hx rfl (hb hby d3_236) rfl k₀) ?_
                  show F s₁ (mkF m 238 #[.val (.ref a), .val (.int fv), .val (.int lv), .val (.int ev), .val (.int (1 : Int32)), .val (.int av), .val (.int ld), .val (.int (3 : Int32)), .val (.int ls), .val (.int ms), .val (.int (2 : Int32)), .val (.int b1)] [(.int (2 : Int32)), (.int av), (.ref a)])
                  refine hst (fun t₀ k₀ => XS.iadd XI.here hx rfl (hb hby d3_238) rfl k₀) ?_
                  show F s₁ (mkF m 239 #[.val (.ref a), .val (.int fv), .val (.int lv), .val (.int ev), .val (.int (1 : Int32)), .val (.int av), .val (.int ld), .val (.int (3 : Int32)), .val (.int ls), .val (.int ms), .val (.int (2 : Int32)), .val (.int b1)] [(.int (av + (2 : Int32))), (.ref a)])
                  generalize hix2 : (av + (2 : Int32)) = ix2
                  show F s₁ (mkF m 239 #[.val (.ref a), .val (.int fv), .val (.int lv), .val (.int ev), .val (.int (1 : Int32)), .val (.int av), .val (.int ld), .val (.int (3 : Int32)), .val (.int ls), .val (.int ms), .val (.int (2 : Int32)), .val (.int b1)] [(.int ix2), (.ref a)])
                  have kix2 : ix2.toInt = ((p' + 2 : Nat) : Int) := by have h1 := c_iadd av 2; have h2 := rng32 ix2; rw [hix2] at h1; omega
                  have ql2 : p' + 2 < e' := by simp only [own_lt32] at hc207; omega
                  refine hst (fun t₀ k₀ => own_baload XI hx hZ eI Ar (own_idx ix2 6 (by omega) (by omega)) (v := (.int (g (p' + 2)))) (by show Value.int (g ix2.toNatClampNeg) = _; rw [own_clamp ix2 _ kix2]) (g := (mkF m 239 #[.val (.ref a), .val (.int fv), .val (.int lv), .val (.int ev), .val (.int (1 : Int32)), .val (.int av), .val (.int ld), .val (.int (3 : Int32)), .val (.int ls), .val (.int ms), .val (.int (2 : Int32)), .val (.int b1)] [(.int ix2), (.ref a)])) rfl rfl (hb hby d3_239) t₀ k₀) ?_
                  show F s₁ (mkF m 240 #[.val (.ref a), .val (.int fv), .val (.int lv), .val (.int ev), .val (.int (1 : Int32)), .val (.int av), .val (.int ld), .val (.int (3 : Int32)), .val (.int ls), .val (.int ms), .val (.int (2 : Int32)), .val (.int b1)] [(.int (g (p' + 2)))])
                  refine hst (fun t₀ k₀ => XS.sipush XI.here hx rfl (hb hby d3_240) k₀) ?_
                  show F s₁ (mkF m 243 #[.val (.ref a), .val (.int fv), .val (.int lv), .val (.int ev), .val (.int (1 : Int32)), .val (.int av), .val (.int ld), .val (.int (3 : Int32)), .val (.int ls), .val (.int ms), .val (.int (2 : Int32)), .val (.int b1)] [(.int (255 : Int32)), (.int (g (p' + 2)))])
                  refine hst (fun t₀ k₀ => XS.iand XI.here hx rfl (hb hby d3_243) rfl k₀) ?_
                  show F s₁ (mkF m 244 #[.val (.ref a), .val (.int fv), .val (.int lv), .val (.int ev), .val (.int (1 : Int32)), .val (.int av), .val (.int ld), .val (.int (3 : Int32)), .val (.int ls), .val (.int ms), .val (.int (2 : Int32)), .val (.int b1)] [(.int ((g (p' + 2)) &&& (255 : Int32)))])
                  generalize hb2 : ((g (p' + 2)) &&& (255 : Int32)) = b2
                  show F s₁ (mkF m 244 #[.val (.ref a), .val (.int fv), .val (.int lv), .val (.int ev), .val (.int (1 : Int32)), .val (.int av), .val (.int ld), .val (.int (3 : Int32)), .val (.int ls), .val (.int ms), .val (.int (2 : Int32)), .val (.int b1)] [(.int b2)])
                  obtain ⟨kb2, kb2b⟩ : b2.toInt = (own_B g (p' + 2) : Int) ∧ own_B g (p' + 2) < 256 := by rw [← hb2]; exact own_byte g _
                  refine hst (fun t₀ k₀ => XS.istore XI.here hx rfl (hb hby d3_244) rfl (l' := #[.val (.ref a), .val (.int fv), .val (.int lv), .val (.int ev), .val (.int (1 : Int32)), .val (.int av), .val (.int ld), .val (.int (3 : Int32)), .val (.int ls), .val (.int ms), .val (.int (2 : Int32)), .val (.int b2)]) rfl k₀) ?_
                  show F s₁ (mkF m 246 #[.val (.ref a), .val (.int fv), .val (.int lv), .val (.int ev), .val (.int (1 : Int32)), .val (.int av), .val (.int ld), .val (.int (3 : Int32)), .val (.int ls), .val (.int ms), .val (.int (2 : Int32)), .val (.int b2)] [])
                  refine hst (fun t₀ k₀ => XS.iload XI.here hx rfl (hb hby d3_246) rfl k₀) ?_
                  show F s₁ (mkF m 248 #[.val (.ref a), .val (.int fv), .val (.int lv), .val (.int ev), .val (.int (1 : Int32)), .val (.int av), .val (.int ld), .val (.int (3 : Int32)), .val (.int ls), .val (.int ms), .val (.int (2 : Int32)), .val (.int b2)] [(.int (2 : Int32))])
                  refine hst (fun t₀ k₀ => XS.iconst XI.here hx rfl (hb hby d3_248) k₀) ?_
                  show F s₁ (mkF m 249 #[.val (.ref a), .val (.int fv), .val (.int lv), .val (.int ev), .val (.int (1 : Int32)), .val (.int av), .val (.int ld), .val (.int (3 : Int32)), .val (.int ls), .val (.int ms), .val (.int (2 : Int32)), .val (.int b2)] [(.int (1 : Int32)), (.int (2 : Int32))])
                  refine hst (fun t₀ k₀ => XS.icmpYes XI.here hx rfl (pc0 := 249) (pc' := 274) rfl (hb hby d3_249) rfl (feq (by decide)).2 (by decide) (by decide) k₀) ?_
                  show F s₁ (mkF m 274 #[.val (.ref a), .val (.int fv), .val (.int lv), .val (.int ev), .val (.int (1 : Int32)), .val (.int av), .val (.int ld), .val (.int (3 : Int32)), .val (.int ls), .val (.int ms), .val (.int (2 : Int32)), .val (.int b2)] [])
                  refine hst (fun t₀ k₀ => XS.iload XI.here hx rfl (hb hby d3_274) rfl k₀) ?_
                  show F s₁ (mkF m 276 #[.val (.ref a), .val (.int fv), .val (.int lv), .val (.int ev), .val (.int (1 : Int32)), .val (.int av), .val (.int ld), .val (.int (3 : Int32)), .val (.int ls), .val (.int ms), .val (.int (2 : Int32)), .val (.int b2)] [(.int b2)])
                  refine hst (fun t₀ k₀ => XS.sipush XI.here hx rfl (hb hby d3_276) k₀) ?_
                  show F s₁ (mkF m 279 #[.val (.ref a), .val (.int fv), .val (.int lv), .val (.int ev), .val (.int (1 : Int32)), .val (.int av), .val (.int ld), .val (.int (3 : Int32)), .val (.int ls), .val (.int ms), .val (.int (2 : Int32)), .val (.int b2)] [(.int (192 : Int32)), (.int b2)])
                  refine hst (fun t₀ k₀ => XS.iand XI.here hx rfl (hb hby d3_279) rfl k₀) ?_
                  show F s₁ (mkF m 280 #[.val (.ref a), .val (.int fv), .val (.int lv), .val (.int ev), .val (.int (1 : Int32)), .val (.int av), .val (.int ld), .val (.int (3 : Int32)), .val (.int ls), .val (.int ms), .val (.int (2 : Int32)), .val (.int b2)] [(.int (b2 &&& (192 : Int32)))])
                  refine hst (fun t₀ k₀ => XS.sipush XI.here hx rfl (hb hby d3_280) k₀) ?_
                  show F s₁ (mkF m 283 #[.val (.ref a), .val (.int fv), .val (.int lv), .val (.int ev), .val (.int (1 : Int32)), .val (.int av), .val (.int ld), .val (.int (3 : Int32)), .val (.int ls), .val (.int ms), .val (.int (2 : Int32)), .val (.int b2)] [(.int (128 : Int32)), (.int (b2 &&& (192 : Int32)))])
                  by_cases hc283 : (b2 &&& (192 : Int32)) = (128 : Int32)
                  · -- pc 283: not taken
                    refine hst (fun t₀ k₀ => XS.icmpNo XI.here hx rfl (hb hby d3_283) rfl (teq hc283).2 k₀) ?_
                    show F s₁ (mkF m 286 #[.val (.ref a), .val (.int fv), .val (.int lv), .val (.int ev), .val (.int (1 : Int32)), .val (.int av), .val (.int ld), .val (.int (3 : Int32)), .val (.int ls), .val (.int ms), .val (.int (2 : Int32)), .val (.int b2)] [])
                    have q283_2 := (own_cont b2 _ kb2 kb2b).mp hc283
                    refine hst (fun t₀ k₀ => XS.iconst XI.here hx rfl (hb hby d3_286) k₀) ?_
                    show F s₁ (mkF m 287 #[.val (.ref a), .val (.int fv), .val (.int lv), .val (.int ev), .val (.int (1 : Int32)), .val (.int av), .val (.int ld), .val (.int (3 : Int32)), .val (.int ls), .val (.int ms), .val (.int (2 : Int32)), .val (.int b2)] [(.int (1 : Int32))])
                    refine hst (fun t₀ k₀ => XS.goto XI.here hx rfl (pc0 := 287) (pc' := 291) rfl (hb hby d3_287) (by decide) (by decide) k₀) ?_
                    show F s₁ (mkF m 291 #[.val (.ref a), .val (.int fv), .val (.int lv), .val (.int ev), .val (.int (1 : Int32)), .val (.int av), .val (.int ld), .val (.int (3 : Int32)), .val (.int ls), .val (.int ms), .val (.int (2 : Int32)), .val (.int b2)] [(.int (1 : Int32))])
                    refine hst (fun t₀ k₀ => XS.istore XI.here hx rfl (hb hby d3_291) rfl (l' := #[.val (.ref a), .val (.int fv), .val (.int lv), .val (.int ev), .val (.int (1 : Int32)), .val (.int av), .val (.int ld), .val (.int (3 : Int32)), .val (.int ls), .val (.int ms), .val (.int (2 : Int32)), .val (.int b2)]) rfl k₀) ?_
                    show F s₁ (mkF m 293 #[.val (.ref a), .val (.int fv), .val (.int lv), .val (.int ev), .val (.int (1 : Int32)), .val (.int av), .val (.int ld), .val (.int (3 : Int32)), .val (.int ls), .val (.int ms), .val (.int (2 : Int32)), .val (.int b2)] [])
                    refine hst (fun t₀ k₀ => XS.iinc XI.here hx rfl (hb hby d3_293) rfl (l' := #[.val (.ref a), .val (.int fv), .val (.int lv), .val (.int ev), .val (.int (1 : Int32)), .val (.int av), .val (.int ld), .val (.int (3 : Int32)), .val (.int ls), .val (.int ms), .val (.int ((2 : Int32) + (1 : Int32))), .val (.int b2)]) rfl k₀) ?_
                    show F s₁ (mkF m 296 #[.val (.ref a), .val (.int fv), .val (.int lv), .val (.int ev), .val (.int (1 : Int32)), .val (.int av), .val (.int ld), .val (.int (3 : Int32)), .val (.int ls), .val (.int ms), .val (.int ((2 : Int32) + (1 : Int32))), .val (.int b2)] [])
                    show F s₁ (mkF m 296 #[.val (.ref a), .val (.int fv), .val (.int lv), .val (.int ev), .val (.int (1 : Int32)), .val (.int av), .val (.int ld), .val (.int (3 : Int32)), .val (.int ls), .val (.int ms), .val (.int (3 : Int32)), .val (.int b2)] [])
                    refine hst (fun t₀ k₀ => XS.goto XI.here hx rfl (pc0 := 296) (pc' := 221) rfl (hb hby d3_296) (by decide) (by decide) k₀) ?_
                    show F s₁ (mkF m 221 #[.val (.ref a), .val (.int fv), .val (.int lv), .val (.int ev), .val (.int (1 : Int32)), .val (.int av), .val (.int ld), .val (.int (3 : Int32)), .val (.int ls), .val (.int ms), .val (.int (3 : Int32)), .val (.int b2)] [])
                    refine hst (fun t₀ k₀ => XS.iload XI.here hx rfl (hb hby d3_221) rfl k₀) ?_
                    show F s₁ (mkF m 223 #[.val (.ref a), .val (.int fv), .val (.int lv), .val (.int ev), .val (.int (1 : Int32)), .val (.int av), .val (.int ld), .val (.int (3 : Int32)), .val (.int ls), .val (.int ms), .val (.int (3 : Int32)), .val (.int b2)] [(.int (1 : Int32))])
                    refine hst (fun t₀ k₀ => XS.ifNo XI.here hx rfl (hb hby d3_223) rfl ((if0 _ _).trans (feq (by decide)).1) k₀) ?_
                    show F s₁ (mkF m 226 #[.val (.ref a), .val (.int fv), .val (.int lv), .val (.int ev), .val (.int (1 : Int32)), .val (.int av), .val (.int ld), .val (.int (3 : Int32)), .val (.int ls), .val (.int ms), .val (.int (3 : Int32)), .val (.int b2)] [])
                    refine hst (fun t₀ k₀ => XS.iload XI.here hx rfl (hb hby d3_226) rfl k₀) ?_
                    show F s₁ (mkF m 228 #[.val (.ref a), .val (.int fv), .val (.int lv), .val (.int ev), .val (.int (1 : Int32)), .val (.int av), .val (.int ld), .val (.int (3 : Int32)), .val (.int ls), .val (.int ms), .val (.int (3 : Int32)), .val (.int b2)] [(.int (3 : Int32))])
                    refine hst (fun t₀ k₀ => XS.iload XI.here hx rfl (hb hby d3_228) rfl k₀) ?_
                    show F s₁ (mkF m 230 #[.val (.ref a), .val (.int fv), .val (.int lv), .val (.int ev), .val (.int (1 : Int32)), .val (.int av), .val (.int ld), .val (.int (3 : Int32)), .val (.int ls), .val (.int ms), .val (.int (3 : Int32)), .val (.int b2)] [(.int (3 : Int32)), (.int (3 : Int32))])
                    refine hst (fun t₀ k₀ => XS.icmpNo XI.here hx rfl (hb hby d3_230) rfl (flt (by decide)).2.2.1 k₀) ?_
                    show F s₁ (mkF m 233 #[.val (.ref a), .val (.int fv), .val (.int lv), .val (.int ev), .val (.int (1 : Int32)), .val (.int av), .val (.int ld), .val (.int (3 : Int32)), .val (.int ls), .val (.int ms), .val (.int (3 : Int32)), .val (.int b2)] [])
                    refine hst (fun t₀ k₀ => XS.aloadN XI.here hx rfl (hb hby d3_233) rfl rfl k₀) ?_
                    show F s₁ (mkF m 234 #[.val (.ref a), .val (.int fv), .val (.int lv), .val (.int ev), .val (.int (1 : Int32)), .val (.int av), .val (.int ld), .val (.int (3 : Int32)), .val (.int ls), .val (.int ms), .val (.int (3 : Int32)), .val (.int b2)] [(.ref a)])
                    refine hst (fun t₀ k₀ => XS.iload XI.here hx rfl (hb hby d3_234) rfl k₀) ?_
                    show F s₁ (mkF m 236 #[.val (.ref a), .val (.int fv), .val (.int lv), .val (.int ev), .val (.int (1 : Int32)), .val (.int av), .val (.int ld), .val (.int (3 : Int32)), .val (.int ls), .val (.int ms), .val (.int (3 : Int32)), .val (.int b2)] [(.int av), (.ref a)])
                    refine hst (fun t₀ k₀ => XS.iload XI.here hx rfl (hb hby d3_236) rfl k₀) ?_
                    show F s₁ (mkF m 238 #[.val (.ref a), .val (.int fv), .val (.int lv), .val (.int ev), .val (.int (1 : Int32)), .val (.int av), .val (.int ld), .val (.int (3 : Int32)), .val (.int ls), .val (.int ms), .val (.int (3 : Int32)), .val (.int b2)] [(.int (3 : Int32)), (.int av), (.ref a)])
                    refine hst (fun t₀ k₀ => XS.iadd XI.here hx rfl (hb hby d3_238) rfl k₀) ?_
                    show F s₁ (mkF m 239 #[.val (.ref a), .val (.int fv), .val (.int lv), .val (.int ev), .val (.int (1 : Int32)), .val (.int av), .val (.int ld), .val (.int (3 : Int32)), .val (.int ls), .val (.int ms), .val (.int (3 : Int32)), .val (.int b2)] [(.int (av + (3 : Int32))), (.ref a)])
                    generalize hix3 : (av + (3 : Int32)) = ix3
                    show F s₁ (mkF m 239 #[.val (.ref a), .val (.int fv), .val (.int lv), .val (.int ev), .val (.int (1 : Int32)), .val (.int av), .val (.int ld), .val (.int (3 : Int32)), .val (.int ls), .val (.int ms), .val (.int (3 : Int32)), .val (.int b2)] [(.int ix3), (.ref a)])
                    have kix3 : ix3.toInt = ((p' + 3 : Nat) : Int) := by have h1 := c_iadd av 3; have h2 := rng32 ix3; rw [hix3] at h1; omega
                    have ql3 : p' + 3 < e' := by simp only [own_lt32] at hc207; omega
                    refine hst (fun t₀ k₀ => own_baload XI hx hZ eI Ar (own_idx ix3 6 (by omega) (by omega)) (v := (.int (g (p' + 3)))) (by show Value.int (g ix3.toNatClampNeg) = _; rw [own_clamp ix3 _ kix3]) (g := (mkF m 239 #[.val (.ref a), .val (.int fv), .val (.int lv), .val (.int ev), .val (.int (1 : Int32)), .val (.int av), .val (.int ld), .val (.int (3 : Int32)), .val (.int ls), .val (.int ms), .val (.int (3 : Int32)), .val (.int b2)] [(.int ix3), (.ref a)])) rfl rfl (hb hby d3_239) t₀ k₀) ?_
                    show F s₁ (mkF m 240 #[.val (.ref a), .val (.int fv), .val (.int lv), .val (.int ev), .val (.int (1 : Int32)), .val (.int av), .val (.int ld), .val (.int (3 : Int32)), .val (.int ls), .val (.int ms), .val (.int (3 : Int32)), .val (.int b2)] [(.int (g (p' + 3)))])
                    refine hst (fun t₀ k₀ => XS.sipush XI.here hx rfl (hb hby d3_240) k₀) ?_
                    show F s₁ (mkF m 243 #[.val (.ref a), .val (.int fv), .val (.int lv), .val (.int ev), .val (.int (1 : Int32)), .val (.int av), .val (.int ld), .val (.int (3 : Int32)), .val (.int ls), .val (.int ms), .val (.int (3 : Int32)), .val (.int b2)] [(.int (255 : Int32)), (.int (g (p' + 3)))])
                    refine hst (fun t₀ k₀ => XS.iand XI.here hx rfl (hb hby d3_243) rfl k₀) ?_
                    show F s₁ (mkF m 244 #[.val (.ref a), .val (.int fv), .val (.int lv), .val (.int ev), .val (.int (1 : Int32)), .val (.int av), .val (.int ld), .val (.int (3 : Int32)), .val (.int ls), .val (.int ms), .val (.int (3 : Int32)), .val (.int b2)] [(.int ((g (p' + 3)) &&& (255 : Int32)))])
                    generalize hb3 : ((g (p' + 3)) &&& (255 : Int32)) = b3
                    show F s₁ (mkF m 244 #[.val (.ref a), .val (.int fv), .val (.int lv), .val (.int ev), .val (.int (1 : Int32)), .val (.int av), .val (.int ld), .val (.int (3 : Int32)), .val (.int ls), .val (.int ms), .val (.int (3 : Int32)), .val (.int b2)] [(.int b3)])
                    obtain ⟨kb3, kb3b⟩ : b3.toInt = (own_B g (p' + 3) : Int) ∧ own_B g (p' + 3) < 256 := by rw [← hb3]; exact own_byte g _
                    refine hst (fun t₀ k₀ => XS.istore XI.here hx rfl (hb hby d3_244) rfl (l' := #[.val (.ref a), .val (.int fv), .val (.int lv), .val (.int ev), .val (.int (1 : Int32)), .val (.int av), .val (.int ld), .val (.int (3 : Int32)), .val (.int ls), .val (.int ms), .val (.int (3 : Int32)), .val (.int b3)]) rfl k₀) ?_
                    show F s₁ (mkF m 246 #[.val (.ref a), .val (.int fv), .val (.int lv), .val (.int ev), .val (.int (1 : Int32)), .val (.int av), .val (.int ld), .val (.int (3 : Int32)), .val (.int ls), .val (.int ms), .val (.int (3 : Int32)), .val (.int b3)] [])
                    refine hst (fun t₀ k₀ => XS.iload XI.here hx rfl (hb hby d3_246) rfl k₀) ?_
                    show F s₁ (mkF m 248 #[.val (.ref a), .val (.int fv), .val (.int lv), .val (.int ev), .val (.int (1 : Int32)), .val (.int av), .val (.int ld), .val (.int (3 : Int32)), .val (.int ls), .val (.int ms), .val (.int (3 : Int32)), .val (.int b3)] [(.int (3 : Int32))])
                    refine hst (fun t₀ k₀ => XS.iconst XI.here hx rfl (hb hby d3_248) k₀) ?_
                    show F s₁ (mkF m 249 #[.val (.ref a), .val (.int fv), .val (.int lv), .val (.int ev), .val (.int (1 : Int32)), .val (.int av), .val (.int ld), .val (.int (3 : Int32)), .val (.int ls), .val (.int ms), .val (.int (3 : Int32)), .val (.int b3)] [(.int (1 : Int32)), (.int (3 : Int32))])
                    refine hst (fun t₀ k₀ => XS.icmpYes XI.here hx rfl (pc0 := 249) (pc' := 274) rfl (hb hby d3_249) rfl (feq (by decide)).2 (by decide) (by decide) k₀) ?_
                    show F s₁ (mkF m 274 #[.val (.ref a), .val (.int fv), .val (.int lv), .val (.int ev), .val (.int (1 : Int32)), .val (.int av), .val (.int ld), .val (.int (3 : Int32)), .val (.int ls), .val (.int ms), .val (.int (3 : Int32)), .val (.int b3)] [])
                    refine hst (fun t₀ k₀ => XS.iload XI.here hx rfl (hb hby d3_274) rfl k₀) ?_
                    show F s₁ (mkF m 276 #[.val (.ref a), .val (.int fv), .val (.int lv), .val (.int ev), .val (.int (1 : Int32)), .val (.int av), .val (.int ld), .val (.int (3 : Int32)), .val (.int ls), .val (.int ms), .val (.int (3 : Int32)), .val (.int b3)] [(.int b3)])
                    refine hst (fun t₀ k₀ => XS.sipush XI.here hx rfl (hb hby d3_276) k₀) ?_
                    show F s₁ (mkF m 279 #[.val (.ref a), .val (.int fv), .val (.int lv), .val (.int ev), .val (.int (1 : Int32)), .val (.int av), .val (.int ld), .val (.int (3 : Int32)), .val (.int ls), .val (.int ms), .val (.int (3 : Int32)), .val (.int b3)] [(.int (192 : Int32)), (.int b3)])
                    refine hst (fun t₀ k₀ => XS.iand XI.here hx rfl (hb hby d3_279) rfl k₀) ?_
                    show F s₁ (mkF m 280 #[.val (.ref a), .val (.int fv), .val (.int lv), .val (.int ev), .val (.int (1 : Int32)), .val (.int av), .val (.int ld), .val (.int (3 : Int32)), .val (.int ls), .val (.int ms), .val (.int (3 : Int32)), .val (.int b3)] [(.int (b3 &&& (192 : Int32)))])
                    refine hst (fun t₀ k₀ => XS.sipush XI.here hx rfl (hb hby d3_280) k₀) ?_
                    show F s₁ (mkF m 283 #[.val (.ref a), .val (.int fv), .val (.int lv), .val (.int ev), .val (.int (1 : Int32)), .val (.int av), .val (.int ld), .val (.int (3 : Int32)), .val (.int ls), .val (.int ms), .val (.int (3 : Int32)), .val (.int b3)] [(.int (128 : Int32)), (.int (b3 &&& (192 : Int32)))])
                    by_cases hc283b : (b3 &&& (192 : Int32)) = (128 : Int32)
                    · -- pc 283: not taken
                      refine hst (fun t₀ k₀ => XS.icmpNo XI.here hx rfl (hb hby d3_283) rfl (teq hc283b).2 k₀) ?_
                      show F s₁ (mkF m 286 #[.val (.ref a), .val (.int fv), .val (.int lv), .val (.int ev), .val (.int (1 : Int32)), .val (.int av), .val (.int ld), .val (.int (3 : Int32)), .val (.int ls), .val (.int ms), .val (.int (3 : Int32)), .val (.int b3)] [])
                      have q283_3 := (own_cont b3 _ kb3 kb3b).mp hc283b
                      refine hst (fun t₀ k₀ => XS.iconst XI.here hx rfl (hb hby d3_286) k₀) ?_
                      show F s₁ (mkF m 287 #[.val (.ref a), .val (.int fv), .val (.int lv), .val (.int ev), .val (.int (1 : Int32)), .val (.int av), .val (.int ld), .val (.int (3 : Int32)), .val (.int ls), .val (.int ms), .val (.int (3 : Int32)), .val (.int b3)] [(.int (1 : Int32))])
                      refine hst (fun t₀ k₀ => XS.goto XI.here hx rfl (pc0 := 287) (pc' := 291) rfl (hb hby d3_287) (by decide) (by decide) k₀) ?_
                      show F s₁ (mkF m 291 #[.val (.ref a), .val (.int fv), .val (.int lv), .val (.int ev), .val (.int (1 : Int32)), .val (.int av), .val (.int ld), .val (.int (3 : Int32)), .val (.int ls), .val (.int ms), .val (.int (3 : Int32)), .val (.int b3)] [(.int (1 : Int32))])
                      refine hst (fun t₀ k₀ => XS.istore XI.here hx rfl (hb hby d3_291) rfl (l' := #[.val (.ref a), .val (.int fv), .val (.int lv), .val (.int ev), .val (.int (1 : Int32)), .val (.int av), .val (.int ld), .val (.int (3 : Int32)), .val (.int ls), .val (.int ms), .val (.int (3 : Int32)), .val (.int b3)]) rfl k₀) ?_
                      show F s₁ (mkF m 293 #[.val (.ref a), .val (.int fv), .val (.int lv), .val (.int ev), .val (.int (1 : Int32)), .val (.int av), .val (.int ld), .val (.int (3 : Int32)), .val (.int ls), .val (.int ms), .val (.int (3 : Int32)), .val (.int b3)] [])
                      refine hst (fun t₀ k₀ => XS.iinc XI.here hx rfl (hb hby d3_293) rfl (l' := #[.val (.ref a), .val (.int fv), .val (.int lv), .val (.int ev), .val (.int (1 : Int32)), .val (.int av), .val (.int ld), .val (.int (3 : Int32)), .val (.int ls), .val (.int ms), .val (.int ((3 : Int32) + (1 : Int32))), .val (.int b3)]) rfl k₀) ?_
                      show F s₁ (mkF m 296 #[.val (.ref a), .val (.int fv), .val (.int lv), .val (.int ev), .val (.int (1 : Int32)), .val (.int av), .val (.int ld), .val (.int (3 : Int32)), .val (.int ls), .val (.int ms), .val (.int ((3 : Int32) + (1 : Int32))), .val (.int b3)] [])
                      show F s₁ (mkF m 296 #[.val (.ref a), .val (.int fv), .val (.int lv), .val (.int ev), .val (.int (1 : Int32)), .val (.int av), .val (.int ld), .val (.int (3 : Int32)), .val (.int ls), .val (.int ms), .val (.int (4 : Int32)), .val (.int b3)] [])
                      refine hst (fun t₀ k₀ => XS.goto XI.here hx rfl (pc0 := 296) (pc' := 221) rfl (hb hby d3_296) (by decide) (by decide) k₀) ?_
                      show F s₁ (mkF m 221 #[.val (.ref a), .val (.int fv), .val (.int lv), .val (.int ev), .val (.int (1 : Int32)), .val (.int av), .val (.int ld), .val (.int (3 : Int32)), .val (.int ls), .val (.int ms), .val (.int (4 : Int32)), .val (.int b3)] [])
                      refine hst (fun t₀ k₀ => XS.iload XI.here hx rfl (hb hby d3_221) rfl k₀) ?_
                      show F s₁ (mkF m 223 #[.val (.ref a), .val (.int fv), .val (.int lv), .val (.int ev), .val (.int (1 : Int32)), .val (.int av), .val (.int ld), .val (.int (3 : Int32)), .val (.int ls), .val (.int ms), .val (.int (4 : Int32)), .val (.int b3)] [(.int (1 : Int32))])
                      refine hst (fun t₀ k₀ => XS.ifNo XI.here hx rfl (hb hby d3_223) rfl ((if0 _ _).trans (feq (by decide)).1) k₀) ?_
                      show F s₁ (mkF m 226 #[.val (.ref a), .val (.int fv), .val (.int lv), .val (.int ev), .val (.int (1 : Int32)), .val (.int av), .val (.int ld), .val (.int (3 : Int32)), .val (.int ls), .val (.int ms), .val (.int (4 : Int32)), .val (.int b3)] [])
                      refine hst (fun t₀ k₀ => XS.iload XI.here hx rfl (hb hby d3_226) rfl k₀) ?_
                      show F s₁ (mkF m 228 #[.val (.ref a), .val (.int fv), .val (.int lv), .val (.int ev), .val (.int (1 : Int32)), .val (.int av), .val (.int ld), .val (.int (3 : Int32)), .val (.int ls), .val (.int ms), .val (.int (4 : Int32)), .val (.int b3)] [(.int (4 : Int32))])
                      refine hst (fun t₀ k₀ => XS.iload XI.here hx rfl (hb hby d3_228) rfl k₀) ?_
                      show F s₁ (mkF m 230 #[.val (.ref a), .val (.int fv), .val (.int lv), .val (.int ev), .val (.int (1 : Int32)), .val (.int av), .val (.int ld), .val (.int (3 : Int32)), .val (.int ls), .val (.int ms), .val (.int (4 : Int32)), .val (.int b3)] [(.int (3 : Int32)), (.int (4 : Int32))])
                      refine hst (fun t₀ k₀ => XS.icmpYes XI.here hx rfl (pc0 := 230) (pc' := 299) rfl (hb hby d3_230) rfl (tlt (by decide)).2.2.1 (by decide) (by decide) k₀) ?_
                      show F s₁ (mkF m 299 #[.val (.ref a), .val (.int fv), .val (.int lv), .val (.int ev), .val (.int (1 : Int32)), .val (.int av), .val (.int ld), .val (.int (3 : Int32)), .val (.int ls), .val (.int ms), .val (.int (4 : Int32)), .val (.int b3)] [])
                      refine hst (fun t₀ k₀ => XS.iload XI.here hx rfl (hb hby d3_299) rfl k₀) ?_
                      show F s₁ (mkF m 301 #[.val (.ref a), .val (.int fv), .val (.int lv), .val (.int ev), .val (.int (1 : Int32)), .val (.int av), .val (.int ld), .val (.int (3 : Int32)), .val (.int ls), .val (.int ms), .val (.int (4 : Int32)), .val (.int b3)] [(.int av)])
                      refine hst (fun t₀ k₀ => XS.iload XI.here hx rfl (hb hby d3_301) rfl k₀) ?_
                      show F s₁ (mkF m 303 #[.val (.ref a), .val (.int fv), .val (.int lv), .val (.int ev), .val (.int (1 : Int32)), .val (.int av), .val (.int ld), .val (.int (3 : Int32)), .val (.int ls), .val (.int ms), .val (.int (4 : Int32)), .val (.int b3)] [(.int (3 : Int32)), (.int av)])
                      refine hst (fun t₀ k₀ => XS.iconst XI.here hx rfl (hb hby d3_303) k₀) ?_
                      show F s₁ (mkF m 304 #[.val (.ref a), .val (.int fv), .val (.int lv), .val (.int ev), .val (.int (1 : Int32)), .val (.int av), .val (.int ld), .val (.int (3 : Int32)), .val (.int ls), .val (.int ms), .val (.int (4 : Int32)), .val (.int b3)] [(.int (1 : Int32)), (.int (3 : Int32)), (.int av)])
                      refine hst (fun t₀ k₀ => XS.iadd XI.here hx rfl (hb hby d3_304) rfl k₀) ?_
                      show F s₁ (mkF m 305 #[.val (.ref a), .val (.int fv), .val (.int lv), .val (.int ev), .val (.int (1 : Int32)), .val (.int av), .val (.int ld), .val (.int (3 : Int32)), .val (.int ls), .val (.int ms), .val (.int (4 : Int32)), .val (.int b3)] [(.int ((3 : Int32) + (1 : Int32))), (.int av)])
                      refine hst (fun t₀ k₀ => XS.iadd XI.here hx rfl (hb hby d3_305) rfl k₀) ?_
                      show F s₁ (mkF m 306 #[.val (.ref a), .val (.int fv), .val (.int lv), .val (.int ev), .val (.int (1 : Int32)), .val (.int av), .val (.int ld), .val (.int (3 : Int32)), .val (.int ls), .val (.int ms), .val (.int (4 : Int32)), .val (.int b3)] [(.int (av + ((3 : Int32) + (1 : Int32))))])
                      generalize hat' : (av + ((3 : Int32) + (1 : Int32))) = at'
                      show F s₁ (mkF m 306 #[.val (.ref a), .val (.int fv), .val (.int lv), .val (.int ev), .val (.int (1 : Int32)), .val (.int av), .val (.int ld), .val (.int (3 : Int32)), .val (.int ls), .val (.int ms), .val (.int (4 : Int32)), .val (.int b3)] [(.int at')])
                      have kat : at'.toInt = ((p' + 4 : Nat) : Int) := by have h1 := c_iadd 3 1; have h2 := rng32 (3 + 1); have h3 := c_iadd av (3 + 1); have h4 := rng32 at'; rw [hat'] at h3; omega
                      refine hst (fun t₀ k₀ => XS.istore XI.here hx rfl (hb hby d3_306) rfl (l' := #[.val (.ref a), .val (.int fv), .val (.int lv), .val (.int ev), .val (.int (1 : Int32)), .val (.int at'), .val (.int ld), .val (.int (3 : Int32)), .val (.int ls), .val (.int ms), .val (.int (4 : Int32)), .val (.int b3)]) rfl k₀) ?_
                      show F s₁ (mkF m 308 #[.val (.ref a), .val (.int fv), .val (.int lv), .val (.int ev), .val (.int (1 : Int32)), .val (.int at'), .val (.int ld), .val (.int (3 : Int32)), .val (.int ls), .val (.int ms), .val (.int (4 : Int32)), .val (.int b3)] [])
                      refine hst (fun t₀ k₀ => XS.goto XI.here hx rfl (pc0 := 308) (pc' := 10) rfl (hb hby d3_308) (by decide) (by decide) k₀) ?_
                      show F s₁ (mkF m 10 #[.val (.ref a), .val (.int fv), .val (.int lv), .val (.int ev), .val (.int (1 : Int32)), .val (.int at'), .val (.int ld), .val (.int (3 : Int32)), .val (.int ls), .val (.int ms), .val (.int (4 : Int32)), .val (.int b3)] [])
                      simp only [own_lt32, own_eq32] at hc207 hc256 hc263
                      have hcl : own_cl (own_B g) p' e' = 4 := by
                        unfold own_cl; (repeat' split) <;> omega
                      obtain ⟨k', rfl⟩ : ∃ k', k = k' + 1 := ⟨k - 1, by omega⟩
                      exact ih k' (by omega) (p' + 4) _ _ _ _ _ _ _ (One.val rfl) (One.val rfl) (One.val rfl) (One.val rfl) (One.val rfl) (One.val rfl) (by rw [kat]) (by omega) (by omega) (by rw [← hw', own_wf_step (own_B g) e' _ p' _ q18 hcl (by decide)])
                    · -- pc 283: taken
                      refine hst (fun t₀ k₀ => XS.icmpYes XI.here hx rfl (pc0 := 283) (pc' := 290) rfl (hb hby d3_283) rfl (feq hc283b).2 (by decide) (by decide) k₀) ?_
                      show F s₁ (mkF m 290 #[.val (.ref a), .val (.int fv), .val (.int lv), .val (.int ev), .val (.int (1 : Int32)), .val (.int av), .val (.int ld), .val (.int (3 : Int32)), .val (.int ls), .val (.int ms), .val (.int (3 : Int32)), .val (.int b3)] [])
                      have q283_3 : ¬ (128 ≤ own_B g (p' + 3) ∧ own_B g (p' + 3) ≤ 191) := fun q => hc283b ((own_cont b3 _ kb3 kb3b).mpr q)
                      refine hst (fun t₀ k₀ => XS.iconst XI.here hx rfl (hb hby d3_290) k₀) ?_
                      show F s₁ (mkF m 291 #[.val (.ref a), .val (.int fv), .val (.int lv), .val (.int ev), .val (.int (1 : Int32)), .val (.int av), .val (.int ld), .val (.int (3 : Int32)), .val (.int ls), .val (.int ms), .val (.int (3 : Int32)), .val (.int b3)] [(.int (0 : Int32))])
                      refine hst (fun t₀ k₀ => XS.istore XI.here hx rfl (hb hby d3_291) rfl (l' := #[.val (.ref a), .val (.int fv), .val (.int lv), .val (.int ev), .val (.int (0 : Int32)), .val (.int av), .val (.int ld), .val (.int (3 : Int32)), .val (.int ls), .val (.int ms), .val (.int (3 : Int32)), .val (.int b3)]) rfl k₀) ?_
                      show F s₁ (mkF m 293 #[.val (.ref a), .val (.int fv), .val (.int lv), .val (.int ev), .val (.int (0 : Int32)), .val (.int av), .val (.int ld), .val (.int (3 : Int32)), .val (.int ls), .val (.int ms), .val (.int (3 : Int32)), .val (.int b3)] [])
                      refine hst (fun t₀ k₀ => XS.iinc XI.here hx rfl (hb hby d3_293) rfl (l' := #[.val (.ref a), .val (.int fv), .val (.int lv), .val (.int ev), .val (.int (0 : Int32)), .val (.int av), .val (.int ld), .val (.int (3 : Int32)), .val (.int ls), .val (.int ms), .val (.int ((3 : Int32) + (1 : Int32))), .val (.int b3)]) rfl k₀) ?_
                      show F s₁ (mkF m 296 #[.val (.ref a), .val (.int fv), .val (.int lv), .val (.int ev), .val (.int (0 : Int32)), .val (.int av), .val (.int ld), .val (.int (3 : Int32)), .val (.int ls), .val (.int ms), .val (.int ((3 : Int32) + (1 : Int32))), .val (.int b3)] [])
                      show F s₁ (mkF m 296 #[.val (.ref a), .val (.int fv), .val (.int lv), .val (.int ev), .val (.int (0 : Int32)), .val (.int av), .val (.int ld), .val (.int (3 : Int32)), .val (.int ls), .val (.int ms), .val (.int (4 : Int32)), .val (.int b3)] [])
                      refine hst (fun t₀ k₀ => XS.goto XI.here hx rfl (pc0 := 296) (pc' := 221) rfl (hb hby d3_296) (by decide) (by decide) k₀) ?_
                      show F s₁ (mkF m 221 #[.val (.ref a), .val (.int fv), .val (.int lv), .val (.int ev), .val (.int (0 : Int32)), .val (.int av), .val (.int ld), .val (.int (3 : Int32)), .val (.int ls), .val (.int ms), .val (.int (4 : Int32)), .val (.int b3)] [])
                      refine hst (fun t₀ k₀ => XS.iload XI.here hx rfl (hb hby d3_221) rfl k₀) ?_
                      show F s₁ (mkF m 223 #[.val (.ref a), .val (.int fv), .val (.int lv), .val (.int ev), .val (.int (0 : Int32)), .val (.int av), .val (.int ld), .val (.int (3 : Int32)), .val (.int ls), .val (.int ms), .val (.int (4 : Int32)), .val (.int b3)] [(.int (0 : Int32))])
                      refine hst (fun t₀ k₀ => XS.ifYes XI.here hx rfl (pc0 := 223) (pc' := 299) rfl (hb hby d3_223) rfl ((if0 _ _).trans (teq (by decide)).1) (by decide) (by decide) k₀) ?_
                      show F s₁ (mkF m 299 #[.val (.ref a), .val (.int fv), .val (.int lv), .val (.int ev), .val (.int (0 : Int32)), .val (.int av), .val (.int ld), .val (.int (3 : Int32)), .val (.int ls), .val (.int ms), .val (.int (4 : Int32)), .val (.int b3)] [])
                      refine hst (fun t₀ k₀ => XS.iload XI.here hx rfl (hb hby d3_299) rfl k₀) ?_
                      show F s₁ (mkF m 301 #[.val (.ref a), .val (.int fv), .val (.int lv), .val (.int ev), .val (.int (0 : Int32)), .val (.int av), .val (.int ld), .val (.int (3 : Int32)), .val (.int ls), .val (.int ms), .val (.int (4 : Int32)), .val (.int b3)] [(.int av)])
                      refine hst (fun t₀ k₀ => XS.iload XI.here hx rfl (hb hby d3_301) rfl k₀) ?_
                      show F s₁ (mkF m 303 #[.val (.ref a), .val (.int fv), .val (.int lv), .val (.int ev), .val (.int (0 : Int32)), .val (.int av), .val (.int ld), .val (.int (3 : Int32)), .val (.int ls), .val (.int ms), .val (.int (4 : Int32)), .val (.int b3)] [(.int (3 : Int32)), (.int av)])
                      refine hst (fun t₀ k₀ => XS.iconst XI.here hx rfl (hb hby d3_303) k₀) ?_
                      show F s₁ (mkF m 304 #[.val (.ref a), .val (.int fv), .val (.int lv), .val (.int ev), .val (.int (0 : Int32)), .val (.int av), .val (.int ld), .val (.int (3 : Int32)), .val (.int ls), .val (.int ms), .val (.int (4 : Int32)), .val (.int b3)] [(.int (1 : Int32)), (.int (3 : Int32)), (.int av)])
                      refine hst (fun t₀ k₀ => XS.iadd XI.here hx rfl (hb hby d3_304) rfl k₀) ?_
                      show F s₁ (mkF m 305 #[.val (.ref a), .val (.int fv), .val (.int lv), .val (.int ev), .val (.int (0 : Int32)), .val (.int av), .val (.int ld), .val (.int (3 : Int32)), .val (.int ls), .val (.int ms), .val (.int (4 : Int32)), .val (.int b3)] [(.int ((3 : Int32) + (1 : Int32))), (.int av)])
                      refine hst (fun t₀ k₀ => XS.iadd XI.here hx rfl (hb hby d3_305) rfl k₀) ?_
                      show F s₁ (mkF m 306 #[.val (.ref a), .val (.int fv), .val (.int lv), .val (.int ev), .val (.int (0 : Int32)), .val (.int av), .val (.int ld), .val (.int (3 : Int32)), .val (.int ls), .val (.int ms), .val (.int (4 : Int32)), .val (.int b3)] [(.int (av + ((3 : Int32) + (1 : Int32))))])
                      generalize hat' : (av + ((3 : Int32) + (1 : Int32))) = at'
                      show F s₁ (mkF m 306 #[.val (.ref a), .val (.int fv), .val (.int lv), .val (.int ev), .val (.int (0 : Int32)), .val (.int av), .val (.int ld), .val (.int (3 : Int32)), .val (.int ls), .val (.int ms), .val (.int (4 : Int32)), .val (.int b3)] [(.int at')])
                      have kat : at'.toInt = ((p' + 4 : Nat) : Int) := by have h1 := c_iadd 3 1; have h2 := rng32 (3 + 1); have h3 := c_iadd av (3 + 1); have h4 := rng32 at'; rw [hat'] at h3; omega
                      refine hst (fun t₀ k₀ => XS.istore XI.here hx rfl (hb hby d3_306) rfl (l' := #[.val (.ref a), .val (.int fv), .val (.int lv), .val (.int ev), .val (.int (0 : Int32)), .val (.int at'), .val (.int ld), .val (.int (3 : Int32)), .val (.int ls), .val (.int ms), .val (.int (4 : Int32)), .val (.int b3)]) rfl k₀) ?_
                      show F s₁ (mkF m 308 #[.val (.ref a), .val (.int fv), .val (.int lv), .val (.int ev), .val (.int (0 : Int32)), .val (.int at'), .val (.int ld), .val (.int (3 : Int32)), .val (.int ls), .val (.int ms), .val (.int (4 : Int32)), .val (.int b3)] [])
                      refine hst (fun t₀ k₀ => XS.goto XI.here hx rfl (pc0 := 308) (pc' := 10) rfl (hb hby d3_308) (by decide) (by decide) k₀) ?_
                      show F s₁ (mkF m 10 #[.val (.ref a), .val (.int fv), .val (.int lv), .val (.int ev), .val (.int (0 : Int32)), .val (.int at'), .val (.int ld), .val (.int (3 : Int32)), .val (.int ls), .val (.int ms), .val (.int (4 : Int32)), .val (.int b3)] [])
                      show F s₁ (mkF m 10 #[.val (.ref a), .val (.int fv), .val (.int lv), .val (.int ev), .val (.int (0 : Int32)), .val (.int at'), .val (.int ld), .val (.int (3 : Int32)), .val (.int ls), .val (.int ms), .val (.int (4 : Int32)), .val (.int b3)] [])
                      refine hst (fun t₀ k₀ => XS.iload XI.here hx rfl (hb hby d3_10) rfl k₀) ?_
                      show F s₁ (mkF m 12 #[.val (.ref a), .val (.int fv), .val (.int lv), .val (.int ev), .val (.int (0 : Int32)), .val (.int at'), .val (.int ld), .val (.int (3 : Int32)), .val (.int ls), .val (.int ms), .val (.int (4 : Int32)), .val (.int b3)] [(.int (0 : Int32))])
                      refine hst (fun t₀ k₀ => XS.ifYes XI.here hx rfl (pc0 := 12) (pc' := 311) rfl (hb hby d3_12) rfl ((if0 _ _).trans (teq (by decide)).1) (by decide) (by decide) k₀) ?_
                      show F s₁ (mkF m 311 #[.val (.ref a), .val (.int fv), .val (.int lv), .val (.int ev), .val (.int (0 : Int32)), .val (.int at'), .val (.int ld), .val (.int (3 : Int32)), .val (.int ls), .val (.int ms), .val (.int (4 : Int32)), .val (.int b3)] [])
                      refine hst (fun t₀ k₀ => XS.iload XI.here hx rfl (hb hby d3_311) rfl k₀) ?_
                      show F s₁ (mkF m 313 #[.val (.ref a), .val (.int fv), .val (.int lv), .val (.int ev), .val (.int (0 : Int32)), .val (.int at'), .val (.int ld), .val (.int (3 : Int32)), .val (.int ls), .val (.int ms), .val (.int (4 : Int32)), .val (.int b3)] [(.int (0 : Int32))])
                      rw [hF]
                      refine own_retN XI hx hret (by simp) hlk (hb hby d3_313) (by decide) (by decide) ?_
                      simp only [own_lt32, own_eq32] at hc207 hc256 hc263
                      have hcl : own_cl (own_B g) p' e' = 0 := by
                        unfold own_cl; (repeat' split) <;> omega
                      obtain ⟨k', rfl⟩ : ∃ k', k = k' + 1 := ⟨k - 1, by omega⟩
                      rw [eI]
                      exact ⟨(by rw [← hw', own_wf_bad (own_B g) e' _ p' q18 hcl]; rfl), NI, rfl⟩
                  · -- pc 283: taken
                    refine hst (fun t₀ k₀ => XS.icmpYes XI.here hx rfl (pc0 := 283) (pc' := 290) rfl (hb hby d3_283) rfl (feq hc283).2 (by decide) (by decide) k₀) ?_
                    show F s₁ (mkF m 290 #[.val (.ref a), .val (.int fv), .val (.int lv), .val (.int ev), .val (.int (1 : Int32)), .val (.int av), .val (.int ld), .val (.int (3 : Int32)), .val (.int ls), .val (.int ms), .val (.int (2 : Int32)), .val (.int b2)] [])
                    have q283_2 : ¬ (128 ≤ own_B g (p' + 2) ∧ own_B g (p' + 2) ≤ 191) := fun q => hc283 ((own_cont b2 _ kb2 kb2b).mpr q)
                    refine hst (fun t₀ k₀ => XS.iconst XI.here hx rfl (hb hby d3_290) k₀) ?_
                    show F s₁ (mkF m 291 #[.val (.ref a), .val (.int fv), .val (.int lv), .val (.int ev), .val (.int (1 : Int32)), .val (.int av), .val (.int ld), .val (.int (3 : Int32)), .val (.int ls), .val (.int ms), .val (.int (2 : Int32)), .val (.int b2)] [(.int (0 : Int32))])
                    refine hst (fun t₀ k₀ => XS.istore XI.here hx rfl (hb hby d3_291) rfl (l' := #[.val (.ref a), .val (.int fv), .val (.int lv), .val (.int ev), .val (.int (0 : Int32)), .val (.int av), .val (.int ld), .val (.int (3 : Int32)), .val (.int ls), .val (.int ms), .val (.int (2 : Int32)), .val (.int b2)]) rfl k₀) ?_
                    show F s₁ (mkF m 293 #[.val (.ref a), .val (.int fv), .val (.int lv), .val (.int ev), .val (.int (0 : Int32)), .val (.int av), .val (.int ld), .val (.int (3 : Int32)), .val (.int ls), .val (.int ms), .val (.int (2 : Int32)), .val (.int b2)] [])
                    refine hst (fun t₀ k₀ => XS.iinc XI.here hx rfl (hb hby d3_293) rfl (l' := #[.val (.ref a), .val (.int fv), .val (.int lv), .val (.int ev), .val (.int (0 : Int32)), .val (.int av), .val (.int ld), .val (.int (3 : Int32)), .val (.int ls), .val (.int ms), .val (.int ((2 : Int32) + (1 : Int32))), .val (.int b2)]) rfl k₀) ?_
                    show F s₁ (mkF m 296 #[.val (.ref a), .val (.int fv), .val (.int lv), .val (.int ev), .val (.int (0 : Int32)), .val (.int av), .val (.int ld), .val (.int (3 : Int32)), .val (.int ls), .val (.int ms), .val (.int ((2 : Int32) + (1 : Int32))), .val (.int b2)] [])
                    show F s₁ (mkF m 296 #[.val (.ref a), .val (.int fv), .val (.int lv), .val (.int ev), .val (.int (0 : Int32)), .val (.int av), .val (.int ld), .val (.int (3 : Int32)), .val (.int ls), .val (.int ms), .val (.int (3 : Int32)), .val (.int b2)] [])
                    refine hst (fun t₀ k₀ => XS.goto XI.here hx rfl (pc0 := 296) (pc' := 221) rfl (hb hby d3_296) (by decide) (by decide) k₀) ?_
                    show F s₁ (mkF m 221 #[.val (.ref a), .val (.int fv), .val (.int lv), .val (.int ev), .val (.int (0 : Int32)), .val (.int av), .val (.int ld), .val (.int (3 : Int32)), .val (.int ls), .val (.int ms), .val (.int (3 : Int32)), .val (.int b2)] [])
                    refine hst (fun t₀ k₀ => XS.iload XI.here hx rfl (hb hby d3_221) rfl k₀) ?_
                    show F s₁ (mkF m 223 #[.val (.ref a), .val (.int fv), .val (.int lv), .val (.int ev), .val (.int (0 : Int32)), .val (.int av), .val (.int ld), .val (.int (3 : Int32)), .val (.int ls), .val (.int ms), .val (.int (3 : Int32)), .val (.int b2)] [(.int (0 : Int32))])
                    refine hst (fun t₀ k₀ => XS.ifYes XI.here hx rfl (pc0 := 223) (pc' := 299) rfl (hb hby d3_223) rfl ((if0 _ _).trans (teq (by decide)).1) (by decide) (by decide) k₀) ?_
                    show F s₁ (mkF m 299 #[.val (.ref a), .val (.int fv), .val (.int lv), .val (.int ev), .val (.int (0 : Int32)), .val (.int av), .val (.int ld), .val (.int (3 : Int32)), .val (.int ls), .val (.int ms), .val (.int (3 : Int32)), .val (.int b2)] [])
                    refine hst (fun t₀ k₀ => XS.iload XI.here hx rfl (hb hby d3_299) rfl k₀) ?_
                    show F s₁ (mkF m 301 #[.val (.ref a), .val (.int fv), .val (.int lv), .val (.int ev), .val (.int (0 : Int32)), .val (.int av), .val (.int ld), .val (.int (3 : Int32)), .val (.int ls), .val (.int ms), .val (.int (3 : Int32)), .val (.int b2)] [(.int av)])
                    refine hst (fun t₀ k₀ => XS.iload XI.here hx rfl (hb hby d3_301) rfl k₀) ?_
                    show F s₁ (mkF m 303 #[.val (.ref a), .val (.int fv), .val (.int lv), .val (.int ev), .val (.int (0 : Int32)), .val (.int av), .val (.int ld), .val (.int (3 : Int32)), .val (.int ls), .val (.int ms), .val (.int (3 : Int32)), .val (.int b2)] [(.int (3 : Int32)), (.int av)])
                    refine hst (fun t₀ k₀ => XS.iconst XI.here hx rfl (hb hby d3_303) k₀) ?_
                    show F s₁ (mkF m 304 #[.val (.ref a), .val (.int fv), .val (.int lv), .val (.int ev), .val (.int (0 : Int32)), .val (.int av), .val (.int ld), .val (.int (3 : Int32)), .val (.int ls), .val (.int ms), .val (.int (3 : Int32)), .val (.int b2)] [(.int (1 : Int32)), (.int (3 : Int32)), (.int av)])
                    refine hst (fun t₀ k₀ => XS.iadd XI.here hx rfl (hb hby d3_304) rfl k₀) ?_
                    show F s₁ (mkF m 305 #[.val (.ref a), .val (.int fv), .val (.int lv), .val (.int ev), .val (.int (0 : Int32)), .val (.int av), .val (.int ld), .val (.int (3 : Int32)), .val (.int ls), .val (.int ms), .val (.int (3 : Int32)), .val (.int b2)] [(.int ((3 : Int32) + (1 : Int32))), (.int av)])
                    refine hst (fun t₀ k₀ => XS.iadd XI.here hx rfl (hb hby d3_305) rfl k₀) ?_
                    show F s₁ (mkF m 306 #[.val (.ref a), .val (.int fv), .val (.int lv), .val (.int ev), .val (.int (0 : Int32)), .val (.int av), .val (.int ld), .val (.int (3 : Int32)), .val (.int ls), .val (.int ms), .val (.int (3 : Int32)), .val (.int b2)] [(.int (av + ((3 : Int32) + (1 : Int32))))])
                    generalize hat' : (av + ((3 : Int32) + (1 : Int32))) = at'
                    show F s₁ (mkF m 306 #[.val (.ref a), .val (.int fv), .val (.int lv), .val (.int ev), .val (.int (0 : Int32)), .val (.int av), .val (.int ld), .val (.int (3 : Int32)), .val (.int ls), .val (.int ms), .val (.int (3 : Int32)), .val (.int b2)] [(.int at')])
                    have kat : at'.toInt = ((p' + 4 : Nat) : Int) := by have h1 := c_iadd 3 1; have h2 := rng32 (3 + 1); have h3 := c_iadd av (3 + 1); have h4 := rng32 at'; rw [hat'] at h3; omega
                    refine hst (fun t₀ k₀ => XS.istore XI.here hx rfl (hb hby d3_306) rfl (l' := #[.val (.ref a), .val (.int fv), .val (.int lv), .val (.int ev), .val (.int (0 : Int32)), .val (.int at'), .val (.int ld), .val (.int (3 : Int32)), .val (.int ls), .val (.int ms), .val (.int (3 : Int32)), .val (.int b2)]) rfl k₀) ?_
                    show F s₁ (mkF m 308 #[.val (.ref a), .val (.int fv), .val (.int lv), .val (.int ev), .val (.int (0 : Int32)), .val (.int at'), .val (.int ld), .val (.int (3 : Int32)), .val (.int ls), .val (.int ms), .val (.int (3 : Int32)), .val (.int b2)] [])
                    refine hst (fun t₀ k₀ => XS.goto XI.here hx rfl (pc0 := 308) (pc' := 10) rfl (hb hby d3_308) (by decide) (by decide) k₀) ?_
                    show F s₁ (mkF m 10 #[.val (.ref a), .val (.int fv), .val (.int lv), .val (.int ev), .val (.int (0 : Int32)), .val (.int at'), .val (.int ld), .val (.int (3 : Int32)), .val (.int ls), .val (.int ms), .val (.int (3 : Int32)), .val (.int b2)] [])
                    show F s₁ (mkF m 10 #[.val (.ref a), .val (.int fv), .val (.int lv), .val (.int ev), .val (.int (0 : Int32)), .val (.int at'), .val (.int ld), .val (.int (3 : Int32)), .val (.int ls), .val (.int ms), .val (.int (3 : Int32)), .val (.int b2)] [])
                    refine hst (fun t₀ k₀ => XS.iload XI.here hx rfl (hb hby d3_10) rfl k₀) ?_
                    show F s₁ (mkF m 12 #[.val (.ref a), .val (.int fv), .val (.int lv), .val (.int ev), .val (.int (0 : Int32)), .val (.int at'), .val (.int ld), .val (.int (3 : Int32)), .val (.int ls), .val (.int ms), .val (.int (3 : Int32)), .val (.int b2)] [(.int (0 : Int32))])
                    refine hst (fun t₀ k₀ => XS.ifYes XI.here hx rfl (pc0 := 12) (pc' := 311) rfl (hb hby d3_12) rfl ((if0 _ _).trans (teq (by decide)).1) (by decide) (by decide) k₀) ?_
                    show F s₁ (mkF m 311 #[.val (.ref a), .val (.int fv), .val (.int lv), .val (.int ev), .val (.int (0 : Int32)), .val (.int at'), .val (.int ld), .val (.int (3 : Int32)), .val (.int ls), .val (.int ms), .val (.int (3 : Int32)), .val (.int b2)] [])
                    refine hst (fun t₀ k₀ => XS.iload XI.here hx rfl (hb hby d3_311) rfl k₀) ?_
                    show F s₁ (mkF m 313 #[.val (.ref a), .val (.int fv), .val (.int lv), .val (.int ev), .val (.int (0 : Int32)), .val (.int at'), .val (.int ld), .val (.int (3 : Int32)), .val (.int ls), .val (.int ms), .val (.int (3 : Int32)), .val (.int b2)] [(.int (0 : Int32))])
                    rw [hF]
                    refine own_retN XI hx hret (by simp) hlk (hb hby d3_313) (by decide) (by decide) ?_
                    simp only [own_lt32, own_eq32] at hc207 hc256 hc263
                    have hcl : own_cl (own_B g) p' e' = 0 := by
                      unfold own_cl; (repeat' split) <;> omega
                    obtain ⟨k', rfl⟩ : ∃ k', k = k' + 1 := ⟨k - 1, by omega⟩
                    rw [eI]
                    exact ⟨(by rw [← hw', own_wf_bad (own_B g) e' _ p' q18 hcl]; rfl), NI, rfl⟩
            · -- pc 207: taken
              refine hst (fun t₀ k₀ => XS.icmpYes XI.here hx rfl (pc0 := 207) (pc' := 214) rfl (hb hby d3_207) rfl (flt hc207).2.2.2 (by decide) (by decide) k₀) ?_
              show F s₁ (mkF m 214 #[.val (.ref a), .val (.int fv), .val (.int lv), .val (.int ev), .val (.int (1 : Int32)), .val (.int av), .val (.int ld), .val (.int (3 : Int32)), .val (.int ls), .val (.int ms), s10, s11] [(.int (1 : Int32))])
              refine hst (fun t₀ k₀ => XS.iconst XI.here hx rfl (hb hby d3_214) k₀) ?_
              show F s₁ (mkF m 215 #[.val (.ref a), .val (.int fv), .val (.int lv), .val (.int ev), .val (.int (1 : Int32)), .val (.int av), .val (.int ld), .val (.int (3 : Int32)), .val (.int ls), .val (.int ms), s10, s11] [(.int (0 : Int32)), (.int (1 : Int32))])
              refine hst (fun t₀ k₀ => XS.iand XI.here hx rfl (hb hby d3_215) rfl k₀) ?_
              show F s₁ (mkF m 216 #[.val (.ref a), .val (.int fv), .val (.int lv), .val (.int ev), .val (.int (1 : Int32)), .val (.int av), .val (.int ld), .val (.int (3 : Int32)), .val (.int ls), .val (.int ms), s10, s11] [(.int ((1 : Int32) &&& (0 : Int32)))])
              show F s₁ (mkF m 216 #[.val (.ref a), .val (.int fv), .val (.int lv), .val (.int ev), .val (.int (1 : Int32)), .val (.int av), .val (.int ld), .val (.int (3 : Int32)), .val (.int ls), .val (.int ms), s10, s11] [(.int (0 : Int32))])
              refine hst (fun t₀ k₀ => XS.istore XI.here hx rfl (hb hby d3_216) rfl (l' := #[.val (.ref a), .val (.int fv), .val (.int lv), .val (.int ev), .val (.int (0 : Int32)), .val (.int av), .val (.int ld), .val (.int (3 : Int32)), .val (.int ls), .val (.int ms), s10, s11]) rfl k₀) ?_
              show F s₁ (mkF m 218 #[.val (.ref a), .val (.int fv), .val (.int lv), .val (.int ev), .val (.int (0 : Int32)), .val (.int av), .val (.int ld), .val (.int (3 : Int32)), .val (.int ls), .val (.int ms), s10, s11] [])
              refine hst (fun t₀ k₀ => XS.iconst XI.here hx rfl (hb hby d3_218) k₀) ?_
              show F s₁ (mkF m 219 #[.val (.ref a), .val (.int fv), .val (.int lv), .val (.int ev), .val (.int (0 : Int32)), .val (.int av), .val (.int ld), .val (.int (3 : Int32)), .val (.int ls), .val (.int ms), s10, s11] [(.int (1 : Int32))])
              refine hst (fun t₀ k₀ => XS.istoreS XI.here hx rfl (hb hby d3_219) rfl rfl hs10 k₀) ?_
              show F s₁ (mkF m 221 #[.val (.ref a), .val (.int fv), .val (.int lv), .val (.int ev), .val (.int (0 : Int32)), .val (.int av), .val (.int ld), .val (.int (3 : Int32)), .val (.int ls), .val (.int ms), .val (.int (1 : Int32)), s11] [])
              refine hst (fun t₀ k₀ => XS.iload XI.here hx rfl (hb hby d3_221) rfl k₀) ?_
              show F s₁ (mkF m 223 #[.val (.ref a), .val (.int fv), .val (.int lv), .val (.int ev), .val (.int (0 : Int32)), .val (.int av), .val (.int ld), .val (.int (3 : Int32)), .val (.int ls), .val (.int ms), .val (.int (1 : Int32)), s11] [(.int (0 : Int32))])
              refine hst (fun t₀ k₀ => XS.ifYes XI.here hx rfl (pc0 := 223) (pc' := 299) rfl (hb hby d3_223) rfl ((if0 _ _).trans (teq (by decide)).1) (by decide) (by decide) k₀) ?_
              show F s₁ (mkF m 299 #[.val (.ref a), .val (.int fv), .val (.int lv), .val (.int ev), .val (.int (0 : Int32)), .val (.int av), .val (.int ld), .val (.int (3 : Int32)), .val (.int ls), .val (.int ms), .val (.int (1 : Int32)), s11] [])
              refine hst (fun t₀ k₀ => XS.iload XI.here hx rfl (hb hby d3_299) rfl k₀) ?_
              show F s₁ (mkF m 301 #[.val (.ref a), .val (.int fv), .val (.int lv), .val (.int ev), .val (.int (0 : Int32)), .val (.int av), .val (.int ld), .val (.int (3 : Int32)), .val (.int ls), .val (.int ms), .val (.int (1 : Int32)), s11] [(.int av)])
              refine hst (fun t₀ k₀ => XS.iload XI.here hx rfl (hb hby d3_301) rfl k₀) ?_
              show F s₁ (mkF m 303 #[.val (.ref a), .val (.int fv), .val (.int lv), .val (.int ev), .val (.int (0 : Int32)), .val (.int av), .val (.int ld), .val (.int (3 : Int32)), .val (.int ls), .val (.int ms), .val (.int (1 : Int32)), s11] [(.int (3 : Int32)), (.int av)])
              refine hst (fun t₀ k₀ => XS.iconst XI.here hx rfl (hb hby d3_303) k₀) ?_
              show F s₁ (mkF m 304 #[.val (.ref a), .val (.int fv), .val (.int lv), .val (.int ev), .val (.int (0 : Int32)), .val (.int av), .val (.int ld), .val (.int (3 : Int32)), .val (.int ls), .val (.int ms), .val (.int (1 : Int32)), s11] [(.int (1 : Int32)), (.int (3 : Int32)), (.int av)])
              refine hst (fun t₀ k₀ => XS.iadd XI.here hx rfl (hb hby d3_304) rfl k₀) ?_
              show F s₁ (mkF m 305 #[.val (.ref a), .val (.int fv), .val (.int lv), .val (.int ev), .val (.int (0 : Int32)), .val (.int av), .val (.int ld), .val (.int (3 : Int32)), .val (.int ls), .val (.int ms), .val (.int (1 : Int32)), s11] [(.int ((3 : Int32) + (1 : Int32))), (.int av)])
              refine hst (fun t₀ k₀ => XS.iadd XI.here hx rfl (hb hby d3_305) rfl k₀) ?_
              show F s₁ (mkF m 306 #[.val (.ref a), .val (.int fv), .val (.int lv), .val (.int ev), .val (.int (0 : Int32)), .val (.int av), .val (.int ld), .val (.int (3 : Int32)), .val (.int ls), .val (.int ms), .val (.int (1 : Int32)), s11] [(.int (av + ((3 : Int32) + (1 : Int32))))])
              generalize hat' : (av + ((3 : Int32) + (1 : Int32))) = at'
              show F s₁ (mkF m 306 #[.val (.ref a), .val (.int fv), .val (.int lv), .val (.int ev), .val (.int (0 : Int32)), .val (.int av), .val (.int ld), .val (.int (3 : Int32)), .val (.int ls), .val (.int ms), .val (.int (1 : Int32)), s11] [(.int at')])
              have kat : at'.toInt = ((p' + 4 : Nat) : Int) := by have h1 := c_iadd 3 1; have h2 := rng32 (3 + 1); have h3 := c_iadd av (3 + 1); have h4 := rng32 at'; rw [hat'] at h3; omega
              refine hst (fun t₀ k₀ => XS.istore XI.here hx rfl (hb hby d3_306) rfl (l' := #[.val (.ref a), .val (.int fv), .val (.int lv), .val (.int ev), .val (.int (0 : Int32)), .val (.int at'), .val (.int ld), .val (.int (3 : Int32)), .val (.int ls), .val (.int ms), .val (.int (1 : Int32)), s11]) rfl k₀) ?_
              show F s₁ (mkF m 308 #[.val (.ref a), .val (.int fv), .val (.int lv), .val (.int ev), .val (.int (0 : Int32)), .val (.int at'), .val (.int ld), .val (.int (3 : Int32)), .val (.int ls), .val (.int ms), .val (.int (1 : Int32)), s11] [])
              refine hst (fun t₀ k₀ => XS.goto XI.here hx rfl (pc0 := 308) (pc' := 10) rfl (hb hby d3_308) (by decide) (by decide) k₀) ?_
              show F s₁ (mkF m 10 #[.val (.ref a), .val (.int fv), .val (.int lv), .val (.int ev), .val (.int (0 : Int32)), .val (.int at'), .val (.int ld), .val (.int (3 : Int32)), .val (.int ls), .val (.int ms), .val (.int (1 : Int32)), s11] [])
              show F s₁ (mkF m 10 #[.val (.ref a), .val (.int fv), .val (.int lv), .val (.int ev), .val (.int (0 : Int32)), .val (.int at'), .val (.int ld), .val (.int (3 : Int32)), .val (.int ls), .val (.int ms), .val (.int (1 : Int32)), s11] [])
              refine hst (fun t₀ k₀ => XS.iload XI.here hx rfl (hb hby d3_10) rfl k₀) ?_
              show F s₁ (mkF m 12 #[.val (.ref a), .val (.int fv), .val (.int lv), .val (.int ev), .val (.int (0 : Int32)), .val (.int at'), .val (.int ld), .val (.int (3 : Int32)), .val (.int ls), .val (.int ms), .val (.int (1 : Int32)), s11] [(.int (0 : Int32))])
              refine hst (fun t₀ k₀ => XS.ifYes XI.here hx rfl (pc0 := 12) (pc' := 311) rfl (hb hby d3_12) rfl ((if0 _ _).trans (teq (by decide)).1) (by decide) (by decide) k₀) ?_
              show F s₁ (mkF m 311 #[.val (.ref a), .val (.int fv), .val (.int lv), .val (.int ev), .val (.int (0 : Int32)), .val (.int at'), .val (.int ld), .val (.int (3 : Int32)), .val (.int ls), .val (.int ms), .val (.int (1 : Int32)), s11] [])
              refine hst (fun t₀ k₀ => XS.iload XI.here hx rfl (hb hby d3_311) rfl k₀) ?_
              show F s₁ (mkF m 313 #[.val (.ref a), .val (.int fv), .val (.int lv), .val (.int ev), .val (.int (0 : Int32)), .val (.int at'), .val (.int ld), .val (.int (3 : Int32)), .val (.int ls), .val (.int ms), .val (.int (1 : Int32)), s11] [(.int (0 : Int32))])
              rw [hF]
              refine own_retN XI hx hret (by simp) hlk (hb hby d3_313) (by decide) (by decide) ?_
              simp only [own_lt32, own_eq32] at hc207
              have hcl : own_cl (own_B g) p' e' = 0 := by
                unfold own_cl; (repeat' split) <;> omega
              obtain ⟨k', rfl⟩ : ∃ k', k = k' + 1 := ⟨k - 1, by omega⟩
              rw [eI]
              exact ⟨(by rw [← hw', own_wf_bad (own_B g) e' _ p' q18 hcl]; rfl), NI, rfl⟩
          · -- follow 0
            show F s₁ (mkF m 199 #[.val (.ref a), .val (.int fv), .val (.int lv), .val (.int ev), .val (.int (0 : Int32)), .val (.int av), .val (.int ld), .val (.int (0 : Int32)), .val (.int ls), .val (.int ms), s10, s11] [])
            refine hst (fun t₀ k₀ => XS.iload XI.here hx rfl (hb hby d3_199) rfl k₀) ?_
            show F s₁ (mkF m 201 #[.val (.ref a), .val (.int fv), .val (.int lv), .val (.int ev), .val (.int (0 : Int32)), .val (.int av), .val (.int ld), .val (.int (0 : Int32)), .val (.int ls), .val (.int ms), s10, s11] [(.int (0 : Int32))])
            refine hst (fun t₀ k₀ => XS.iloadN XI.here hx rfl (hb hby d3_201) rfl k₀) ?_
            show F s₁ (mkF m 202 #[.val (.ref a), .val (.int fv), .val (.int lv), .val (.int ev), .val (.int (0 : Int32)), .val (.int av), .val (.int ld), .val (.int (0 : Int32)), .val (.int ls), .val (.int ms), s10, s11] [(.int ev), (.int (0 : Int32))])
            refine hst (fun t₀ k₀ => XS.iload XI.here hx rfl (hb hby d3_202) rfl k₀) ?_
            show F s₁ (mkF m 204 #[.val (.ref a), .val (.int fv), .val (.int lv), .val (.int ev), .val (.int (0 : Int32)), .val (.int av), .val (.int ld), .val (.int (0 : Int32)), .val (.int ls), .val (.int ms), s10, s11] [(.int av), (.int ev), (.int (0 : Int32))])
            refine hst (fun t₀ k₀ => XS.isub XI.here hx rfl (hb hby d3_204) rfl k₀) ?_
            show F s₁ (mkF m 205 #[.val (.ref a), .val (.int fv), .val (.int lv), .val (.int ev), .val (.int (0 : Int32)), .val (.int av), .val (.int ld), .val (.int (0 : Int32)), .val (.int ls), .val (.int ms), s10, s11] [(.int (ev - av)), (.int (0 : Int32))])
            generalize hdf : (ev - av) = df
            show F s₁ (mkF m 205 #[.val (.ref a), .val (.int fv), .val (.int lv), .val (.int ev), .val (.int (0 : Int32)), .val (.int av), .val (.int ld), .val (.int (0 : Int32)), .val (.int ls), .val (.int ms), s10, s11] [(.int df), (.int (0 : Int32))])
            have kdf : df.toInt = (e' : Int) - p' := by have h1 := c_isub ev av; have h2 := rng32 df; rw [hdf] at h1; omega
            refine hst (fun t₀ k₀ => XS.iload XI.here hx rfl (hb hby d3_205) rfl k₀) ?_
            show F s₁ (mkF m 207 #[.val (.ref a), .val (.int fv), .val (.int lv), .val (.int ev), .val (.int (0 : Int32)), .val (.int av), .val (.int ld), .val (.int (0 : Int32)), .val (.int ls), .val (.int ms), s10, s11] [(.int (0 : Int32)), (.int df), (.int (0 : Int32))])
            by_cases hc207 : (0 : Int32) < df
            · -- pc 207: not taken
              refine hst (fun t₀ k₀ => XS.icmpNo XI.here hx rfl (hb hby d3_207) rfl (tlt hc207).2.2.2 k₀) ?_
              show F s₁ (mkF m 210 #[.val (.ref a), .val (.int fv), .val (.int lv), .val (.int ev), .val (.int (0 : Int32)), .val (.int av), .val (.int ld), .val (.int (0 : Int32)), .val (.int ls), .val (.int ms), s10, s11] [(.int (0 : Int32))])
              refine hst (fun t₀ k₀ => XS.iconst XI.here hx rfl (hb hby d3_210) k₀) ?_
              show F s₁ (mkF m 211 #[.val (.ref a), .val (.int fv), .val (.int lv), .val (.int ev), .val (.int (0 : Int32)), .val (.int av), .val (.int ld), .val (.int (0 : Int32)), .val (.int ls), .val (.int ms), s10, s11] [(.int (1 : Int32)), (.int (0 : Int32))])
              refine hst (fun t₀ k₀ => XS.goto XI.here hx rfl (pc0 := 211) (pc' := 215) rfl (hb hby d3_211) (by decide) (by decide) k₀) ?_
              show F s₁ (mkF m 215 #[.val (.ref a), .val (.int fv), .val (.int lv), .val (.int ev), .val (.int (0 : Int32)), .val (.int av), .val (.int ld), .val (.int (0 : Int32)), .val (.int ls), .val (.int ms), s10, s11] [(.int (1 : Int32)), (.int (0 : Int32))])
              refine hst (fun t₀ k₀ => XS.iand XI.here hx rfl (hb hby d3_215) rfl k₀) ?_
              show F s₁ (mkF m 216 #[.val (.ref a), .val (.int fv), .val (.int lv), .val (.int ev), .val (.int (0 : Int32)), .val (.int av), .val (.int ld), .val (.int (0 : Int32)), .val (.int ls), .val (.int ms), s10, s11] [(.int ((0 : Int32) &&& (1 : Int32)))])
              show F s₁ (mkF m 216 #[.val (.ref a), .val (.int fv), .val (.int lv), .val (.int ev), .val (.int (0 : Int32)), .val (.int av), .val (.int ld), .val (.int (0 : Int32)), .val (.int ls), .val (.int ms), s10, s11] [(.int (0 : Int32))])
              refine hst (fun t₀ k₀ => XS.istore XI.here hx rfl (hb hby d3_216) rfl (l' := #[.val (.ref a), .val (.int fv), .val (.int lv), .val (.int ev), .val (.int (0 : Int32)), .val (.int av), .val (.int ld), .val (.int (0 : Int32)), .val (.int ls), .val (.int ms), s10, s11]) rfl k₀) ?_
              show F s₁ (mkF m 218 #[.val (.ref a), .val (.int fv), .val (.int lv), .val (.int ev), .val (.int (0 : Int32)), .val (.int av), .val (.int ld), .val (.int (0 : Int32)), .val (.int ls), .val (.int ms), s10, s11] [])
              refine hst (fun t₀ k₀ => XS.iconst XI.here hx rfl (hb hby d3_218) k₀) ?_
              show F s₁ (mkF m 219 #[.val (.ref a), .val (.int fv), .val (.int lv), .val (.int ev), .val (.int (0 : Int32)), .val (.int av), .val (.int ld), .val (.int (0 : Int32)), .val (.int ls), .val (.int ms), s10, s11] [(.int (1 : Int32))])
              refine hst (fun t₀ k₀ => XS.istoreS XI.here hx rfl (hb hby d3_219) rfl rfl hs10 k₀) ?_
              show F s₁ (mkF m 221 #[.val (.ref a), .val (.int fv), .val (.int lv), .val (.int ev), .val (.int (0 : Int32)), .val (.int av), .val (.int ld), .val (.int (0 : Int32)), .val (.int ls), .val (.int ms), .val (.int (1 : Int32)), s11] [])
              refine hst (fun t₀ k₀ => XS.iload XI.here hx rfl (hb hby d3_221) rfl k₀) ?_
              show F s₁ (mkF m 223 #[.val (.ref a), .val (.int fv), .val (.int lv), .val (.int ev), .val (.int (0 : Int32)), .val (.int av), .val (.int ld), .val (.int (0 : Int32)), .val (.int ls), .val (.int ms), .val (.int (1 : Int32)), s11] [(.int (0 : Int32))])
              refine hst (fun t₀ k₀ => XS.ifYes XI.here hx rfl (pc0 := 223) (pc' := 299) rfl (hb hby d3_223) rfl ((if0 _ _).trans (teq (by decide)).1) (by decide) (by decide) k₀) ?_
              show F s₁ (mkF m 299 #[.val (.ref a), .val (.int fv), .val (.int lv), .val (.int ev), .val (.int (0 : Int32)), .val (.int av), .val (.int ld), .val (.int (0 : Int32)), .val (.int ls), .val (.int ms), .val (.int (1 : Int32)), s11] [])
              refine hst (fun t₀ k₀ => XS.iload XI.here hx rfl (hb hby d3_299) rfl k₀) ?_
              show F s₁ (mkF m 301 #[.val (.ref a), .val (.int fv), .val (.int lv), .val (.int ev), .val (.int (0 : Int32)), .val (.int av), .val (.int ld), .val (.int (0 : Int32)), .val (.int ls), .val (.int ms), .val (.int (1 : Int32)), s11] [(.int av)])
              refine hst (fun t₀ k₀ => XS.iload XI.here hx rfl (hb hby d3_301) rfl k₀) ?_
              show F s₁ (mkF m 303 #[.val (.ref a), .val (.int fv), .val (.int lv), .val (.int ev), .val (.int (0 : Int32)), .val (.int av), .val (.int ld), .val (.int (0 : Int32)), .val (.int ls), .val (.int ms), .val (.int (1 : Int32)), s11] [(.int (0 : Int32)), (.int av)])
              refine hst (fun t₀ k₀ => XS.iconst XI.here hx rfl (hb hby d3_303) k₀) ?_
              show F s₁ (mkF m 304 #[.val (.ref a), .val (.int fv), .val (.int lv), .val (.int ev), .val (.int (0 : Int32)), .val (.int av), .val (.int ld), .val (.int (0 : Int32)), .val (.int ls), .val (.int ms), .val (.int (1 : Int32)), s11] [(.int (1 : Int32)), (.int (0 : Int32)), (.int av)])
              refine hst (fun t₀ k₀ => XS.iadd XI.here hx rfl (hb hby d3_304) rfl k₀) ?_
              show F s₁ (mkF m 305 #[.val (.ref a), .val (.int fv), .val (.int lv), .val (.int ev), .val (.int (0 : Int32)), .val (.int av), .val (.int ld), .val (.int (0 : Int32)), .val (.int ls), .val (.int ms), .val (.int (1 : Int32)), s11] [(.int ((0 : Int32) + (1 : Int32))), (.int av)])
              refine hst (fun t₀ k₀ => XS.iadd XI.here hx rfl (hb hby d3_305) rfl k₀) ?_
              show F s₁ (mkF m 306 #[.val (.ref a), .val (.int fv), .val (.int lv), .val (.int ev), .val (.int (0 : Int32)), .val (.int av), .val (.int ld), .val (.int (0 : Int32)), .val (.int ls), .val (.int ms), .val (.int (1 : Int32)), s11] [(.int (av + ((0 : Int32) + (1 : Int32))))])
              generalize hat' : (av + ((0 : Int32) + (1 : Int32))) = at'
              show F s₁ (mkF m 306 #[.val (.ref a), .val (.int fv), .val (.int lv), .val (.int ev), .val (.int (0 : Int32)), .val (.int av), .val (.int ld), .val (.int (0 : Int32)), .val (.int ls), .val (.int ms), .val (.int (1 : Int32)), s11] [(.int at')])
              have kat : at'.toInt = ((p' + 1 : Nat) : Int) := by have h1 := c_iadd 0 1; have h2 := rng32 (0 + 1); have h3 := c_iadd av (0 + 1); have h4 := rng32 at'; rw [hat'] at h3; omega
              refine hst (fun t₀ k₀ => XS.istore XI.here hx rfl (hb hby d3_306) rfl (l' := #[.val (.ref a), .val (.int fv), .val (.int lv), .val (.int ev), .val (.int (0 : Int32)), .val (.int at'), .val (.int ld), .val (.int (0 : Int32)), .val (.int ls), .val (.int ms), .val (.int (1 : Int32)), s11]) rfl k₀) ?_
              show F s₁ (mkF m 308 #[.val (.ref a), .val (.int fv), .val (.int lv), .val (.int ev), .val (.int (0 : Int32)), .val (.int at'), .val (.int ld), .val (.int (0 : Int32)), .val (.int ls), .val (.int ms), .val (.int (1 : Int32)), s11] [])
              refine hst (fun t₀ k₀ => XS.goto XI.here hx rfl (pc0 := 308) (pc' := 10) rfl (hb hby d3_308) (by decide) (by decide) k₀) ?_
              show F s₁ (mkF m 10 #[.val (.ref a), .val (.int fv), .val (.int lv), .val (.int ev), .val (.int (0 : Int32)), .val (.int at'), .val (.int ld), .val (.int (0 : Int32)), .val (.int ls), .val (.int ms), .val (.int (1 : Int32)), s11] [])
              show F s₁ (mkF m 10 #[.val (.ref a), .val (.int fv), .val (.int lv), .val (.int ev), .val (.int (0 : Int32)), .val (.int at'), .val (.int ld), .val (.int (0 : Int32)), .val (.int ls), .val (.int ms), .val (.int (1 : Int32)), s11] [])
              refine hst (fun t₀ k₀ => XS.iload XI.here hx rfl (hb hby d3_10) rfl k₀) ?_
              show F s₁ (mkF m 12 #[.val (.ref a), .val (.int fv), .val (.int lv), .val (.int ev), .val (.int (0 : Int32)), .val (.int at'), .val (.int ld), .val (.int (0 : Int32)), .val (.int ls), .val (.int ms), .val (.int (1 : Int32)), s11] [(.int (0 : Int32))])
              refine hst (fun t₀ k₀ => XS.ifYes XI.here hx rfl (pc0 := 12) (pc' := 311) rfl (hb hby d3_12) rfl ((if0 _ _).trans (teq (by decide)).1) (by decide) (by decide) k₀) ?_
              show F s₁ (mkF m 311 #[.val (.ref a), .val (.int fv), .val (.int lv), .val (.int ev), .val (.int (0 : Int32)), .val (.int at'), .val (.int ld), .val (.int (0 : Int32)), .val (.int ls), .val (.int ms), .val (.int (1 : Int32)), s11] [])
              refine hst (fun t₀ k₀ => XS.iload XI.here hx rfl (hb hby d3_311) rfl k₀) ?_
              show F s₁ (mkF m 313 #[.val (.ref a), .val (.int fv), .val (.int lv), .val (.int ev), .val (.int (0 : Int32)), .val (.int at'), .val (.int ld), .val (.int (0 : Int32)), .val (.int ls), .val (.int ms), .val (.int (1 : Int32)), s11] [(.int (0 : Int32))])
              rw [hF]
              refine own_retN XI hx hret (by simp) hlk (hb hby d3_313) (by decide) (by decide) ?_
              simp only [own_lt32, own_eq32] at hc207
              have hcl : own_cl (own_B g) p' e' = 0 := by
                unfold own_cl; (repeat' split) <;> omega
              obtain ⟨k', rfl⟩ : ∃ k', k = k' + 1 := ⟨k - 1, by omega⟩
              rw [eI]
              exact ⟨(by rw [← hw', own_wf_bad (own_B g) e' _ p' q18 hcl]; rfl), NI, rfl⟩
            · -- pc 207: taken
              refine hst (fun t₀ k₀ => XS.icmpYes XI.here hx rfl (pc0 := 207) (pc' := 214) rfl (hb hby d3_207) rfl (flt hc207).2.2.2 (by decide) (by decide) k₀) ?_
              show F s₁ (mkF m 214 #[.val (.ref a), .val (.int fv), .val (.int lv), .val (.int ev), .val (.int (0 : Int32)), .val (.int av), .val (.int ld), .val (.int (0 : Int32)), .val (.int ls), .val (.int ms), s10, s11] [(.int (0 : Int32))])
              refine hst (fun t₀ k₀ => XS.iconst XI.here hx rfl (hb hby d3_214) k₀) ?_
              show F s₁ (mkF m 215 #[.val (.ref a), .val (.int fv), .val (.int lv), .val (.int ev), .val (.int (0 : Int32)), .val (.int av), .val (.int ld), .val (.int (0 : Int32)), .val (.int ls), .val (.int ms), s10, s11] [(.int (0 : Int32)), (.int (0 : Int32))])
              refine hst (fun t₀ k₀ => XS.iand XI.here hx rfl (hb hby d3_215) rfl k₀) ?_
              show F s₁ (mkF m 216 #[.val (.ref a), .val (.int fv), .val (.int lv), .val (.int ev), .val (.int (0 : Int32)), .val (.int av), .val (.int ld), .val (.int (0 : Int32)), .val (.int ls), .val (.int ms), s10, s11] [(.int ((0 : Int32) &&& (0 : Int32)))])
              show F s₁ (mkF m 216 #[.val (.ref a), .val (.int fv), .val (.int lv), .val (.int ev), .val (.int (0 : Int32)), .val (.int av), .val (.int ld), .val (.int (0 : Int32)), .val (.int ls), .val (.int ms), s10, s11] [(.int (0 : Int32))])
              refine hst (fun t₀ k₀ => XS.istore XI.here hx rfl (hb hby d3_216) rfl (l' := #[.val (.ref a), .val (.int fv), .val (.int lv), .val (.int ev), .val (.int (0 : Int32)), .val (.int av), .val (.int ld), .val (.int (0 : Int32)), .val (.int ls), .val (.int ms), s10, s11]) rfl k₀) ?_
              show F s₁ (mkF m 218 #[.val (.ref a), .val (.int fv), .val (.int lv), .val (.int ev), .val (.int (0 : Int32)), .val (.int av), .val (.int ld), .val (.int (0 : Int32)), .val (.int ls), .val (.int ms), s10, s11] [])
              refine hst (fun t₀ k₀ => XS.iconst XI.here hx rfl (hb hby d3_218) k₀) ?_
              show F s₁ (mkF m 219 #[.val (.ref a), .val (.int fv), .val (.int lv), .val (.int ev), .val (.int (0 : Int32)), .val (.int av), .val (.int ld), .val (.int (0 : Int32)), .val (.int ls), .val (.int ms), s10, s11] [(.int (1 : Int32))])
              refine hst (fun t₀ k₀ => XS.istoreS XI.here hx rfl (hb hby d3_219) rfl rfl hs10 k₀) ?_
              show F s₁ (mkF m 221 #[.val (.ref a), .val (.int fv), .val (.int lv), .val (.int ev), .val (.int (0 : Int32)), .val (.int av), .val (.int ld), .val (.int (0 : Int32)), .val (.int ls), .val (.int ms), .val (.int (1 : Int32)), s11] [])
              refine hst (fun t₀ k₀ => XS.iload XI.here hx rfl (hb hby d3_221) rfl k₀) ?_
              show F s₁ (mkF m 223 #[.val (.ref a), .val (.int fv), .val (.int lv), .val (.int ev), .val (.int (0 : Int32)), .val (.int av), .val (.int ld), .val (.int (0 : Int32)), .val (.int ls), .val (.int ms), .val (.int (1 : Int32)), s11] [(.int (0 : Int32))])
              refine hst (fun t₀ k₀ => XS.ifYes XI.here hx rfl (pc0 := 223) (pc' := 299) rfl (hb hby d3_223) rfl ((if0 _ _).trans (teq (by decide)).1) (by decide) (by decide) k₀) ?_
              show F s₁ (mkF m 299 #[.val (.ref a), .val (.int fv), .val (.int lv), .val (.int ev), .val (.int (0 : Int32)), .val (.int av), .val (.int ld), .val (.int (0 : Int32)), .val (.int ls), .val (.int ms), .val (.int (1 : Int32)), s11] [])
              refine hst (fun t₀ k₀ => XS.iload XI.here hx rfl (hb hby d3_299) rfl k₀) ?_
              show F s₁ (mkF m 301 #[.val (.ref a), .val (.int fv), .val (.int lv), .val (.int ev), .val (.int (0 : Int32)), .val (.int av), .val (.int ld), .val (.int (0 : Int32)), .val (.int ls), .val (.int ms), .val (.int (1 : Int32)), s11] [(.int av)])
              refine hst (fun t₀ k₀ => XS.iload XI.here hx rfl (hb hby d3_301) rfl k₀) ?_
              show F s₁ (mkF m 303 #[.val (.ref a), .val (.int fv), .val (.int lv), .val (.int ev), .val (.int (0 : Int32)), .val (.int av), .val (.int ld), .val (.int (0 : Int32)), .val (.int ls), .val (.int ms), .val (.int (1 : Int32)), s11] [(.int (0 : Int32)), (.int av)])
              refine hst (fun t₀ k₀ => XS.iconst XI.here hx rfl (hb hby d3_303) k₀) ?_
              show F s₁ (mkF m 304 #[.val (.ref a), .val (.int fv), .val (.int lv), .val (.int ev), .val (.int (0 : Int32)), .val (.int av), .val (.int ld), .val (.int (0 : Int32)), .val (.int ls), .val (.int ms), .val (.int (1 : Int32)), s11] [(.int (1 : Int32)), (.int (0 : Int32)), (.int av)])
              refine hst (fun t₀ k₀ => XS.iadd XI.here hx rfl (hb hby d3_304) rfl k₀) ?_
              show F s₁ (mkF m 305 #[.val (.ref a), .val (.int fv), .val (.int lv), .val (.int ev), .val (.int (0 : Int32)), .val (.int av), .val (.int ld), .val (.int (0 : Int32)), .val (.int ls), .val (.int ms), .val (.int (1 : Int32)), s11] [(.int ((0 : Int32) + (1 : Int32))), (.int av)])
              refine hst (fun t₀ k₀ => XS.iadd XI.here hx rfl (hb hby d3_305) rfl k₀) ?_
              show F s₁ (mkF m 306 #[.val (.ref a), .val (.int fv), .val (.int lv), .val (.int ev), .val (.int (0 : Int32)), .val (.int av), .val (.int ld), .val (.int (0 : Int32)), .val (.int ls), .val (.int ms), .val (.int (1 : Int32)), s11] [(.int (av + ((0 : Int32) + (1 : Int32))))])
              generalize hat' : (av + ((0 : Int32) + (1 : Int32))) = at'
              show F s₁ (mkF m 306 #[.val (.ref a), .val (.int fv), .val (.int lv), .val (.int ev), .val (.int (0 : Int32)), .val (.int av), .val (.int ld), .val (.int (0 : Int32)), .val (.int ls), .val (.int ms), .val (.int (1 : Int32)), s11] [(.int at')])
              have kat : at'.toInt = ((p' + 1 : Nat) : Int) := by have h1 := c_iadd 0 1; have h2 := rng32 (0 + 1); have h3 := c_iadd av (0 + 1); have h4 := rng32 at'; rw [hat'] at h3; omega
              refine hst (fun t₀ k₀ => XS.istore XI.here hx rfl (hb hby d3_306) rfl (l' := #[.val (.ref a), .val (.int fv), .val (.int lv), .val (.int ev), .val (.int (0 : Int32)), .val (.int at'), .val (.int ld), .val (.int (0 : Int32)), .val (.int ls), .val (.int ms), .val (.int (1 : Int32)), s11]) rfl k₀) ?_
              show F s₁ (mkF m 308 #[.val (.ref a), .val (.int fv), .val (.int lv), .val (.int ev), .val (.int (0 : Int32)), .val (.int at'), .val (.int ld), .val (.int (0 : Int32)), .val (.int ls), .val (.int ms), .val (.int (1 : Int32)), s11] [])
              refine hst (fun t₀ k₀ => XS.goto XI.here hx rfl (pc0 := 308) (pc' := 10) rfl (hb hby d3_308) (by decide) (by decide) k₀) ?_
              show F s₁ (mkF m 10 #[.val (.ref a), .val (.int fv), .val (.int lv), .val (.int ev), .val (.int (0 : Int32)), .val (.int at'), .val (.int ld), .val (.int (0 : Int32)), .val (.int ls), .val (.int ms), .val (.int (1 : Int32)), s11] [])
              show F s₁ (mkF m 10 #[.val (.ref a), .val (.int fv), .val (.int lv), .val (.int ev), .val (.int (0 : Int32)), .val (.int at'), .val (.int ld), .val (.int (0 : Int32)), .val (.int ls), .val (.int ms), .val (.int (1 : Int32)), s11] [])
              refine hst (fun t₀ k₀ => XS.iload XI.here hx rfl (hb hby d3_10) rfl k₀) ?_
              show F s₁ (mkF m 12 #[.val (.ref a), .val (.int fv), .val (.int lv), .val (.int ev), .val (.int (0 : Int32)), .val (.int at'), .val (.int ld), .val (.int (0 : Int32)), .val (.int ls), .val (.int ms), .val (.int (1 : Int32)), s11] [(.int (0 : Int32))])
              refine hst (fun t₀ k₀ => XS.ifYes XI.here hx rfl (pc0 := 12) (pc' := 311) rfl (hb hby d3_12) rfl ((if0 _ _).trans (teq (by decide)).1) (by decide) (by decide) k₀) ?_
              show F s₁ (mkF m 311 #[.val (.ref a), .val (.int fv), .val (.int lv), .val (.int ev), .val (.int (0 : Int32)), .val (.int at'), .val (.int ld), .val (.int (0 : Int32)), .val (.int ls), .val (.int ms), .val (.int (1 : Int32)), s11] [])
              refine hst (fun t₀ k₀ => XS.iload XI.here hx rfl (hb hby d3_311) rfl k₀) ?_
              show F s₁ (mkF m 313 #[.val (.ref a), .val (.int fv), .val (.int lv), .val (.int ev), .val (.int (0 : Int32)), .val (.int at'), .val (.int ld), .val (.int (0 : Int32)), .val (.int ls), .val (.int ms), .val (.int (1 : Int32)), s11] [(.int (0 : Int32))])
              rw [hF]
              refine own_retN XI hx hret (by simp) hlk (hb hby d3_313) (by decide) (by decide) ?_
              simp only [own_lt32, own_eq32] at hc207
              have hcl : own_cl (own_B g) p' e' = 0 := by
                unfold own_cl; (repeat' split) <;> omega
              obtain ⟨k', rfl⟩ : ∃ k', k = k' + 1 := ⟨k - 1, by omega⟩
              rw [eI]
              exact ⟨(by rw [← hw', own_wf_bad (own_B g) e' _ p' q18 hcl]; rfl), NI, rfl⟩
        refine hst (fun t₀ k₀ => XS.iload XI.here hx rfl (hb hby d3_44) rfl k₀) ?_
        show F s₁ (mkF m 46 #[.val (.ref a), .val (.int fv), .val (.int lv), .val (.int ev), .val (.int (1 : Int32)), .val (.int av), .val (.int ld), .val (.int (0 : Int32)), .val (.int (128 : Int32)), .val (.int (191 : Int32)), s10, s11] [(.int ld)])
        refine hst (fun t₀ k₀ => XS.sipush XI.here hx rfl (hb hby d3_46) k₀) ?_
        show F s₁ (mkF m 49 #[.val (.ref a), .val (.int fv), .val (.int lv), .val (.int ev), .val (.int (1 : Int32)), .val (.int av), .val (.int ld), .val (.int (0 : Int32)), .val (.int (128 : Int32)), .val (.int (191 : Int32)), s10, s11] [(.int (128 : Int32)), (.int ld)])
        by_cases hc49 : ld < (128 : Int32)
        · -- pc 49: not taken
          refine hst (fun t₀ k₀ => XS.icmpNo XI.here hx rfl (hb hby d3_49) rfl (tlt hc49).2.1 k₀) ?_
          show F s₁ (mkF m 52 #[.val (.ref a), .val (.int fv), .val (.int lv), .val (.int ev), .val (.int (1 : Int32)), .val (.int av), .val (.int ld), .val (.int (0 : Int32)), .val (.int (128 : Int32)), .val (.int (191 : Int32)), s10, s11] [])
          refine hst (fun t₀ k₀ => XS.iconst XI.here hx rfl (hb hby d3_52) k₀) ?_
          show F s₁ (mkF m 53 #[.val (.ref a), .val (.int fv), .val (.int lv), .val (.int ev), .val (.int (1 : Int32)), .val (.int av), .val (.int ld), .val (.int (0 : Int32)), .val (.int (128 : Int32)), .val (.int (191 : Int32)), s10, s11] [(.int (0 : Int32))])
          refine hst (fun t₀ k₀ => XS.istore XI.here hx rfl (hb hby d3_53) rfl (l' := #[.val (.ref a), .val (.int fv), .val (.int lv), .val (.int ev), .val (.int (1 : Int32)), .val (.int av), .val (.int ld), .val (.int (0 : Int32)), .val (.int (128 : Int32)), .val (.int (191 : Int32)), s10, s11]) rfl k₀) ?_
          show F s₁ (mkF m 55 #[.val (.ref a), .val (.int fv), .val (.int lv), .val (.int ev), .val (.int (1 : Int32)), .val (.int av), .val (.int ld), .val (.int (0 : Int32)), .val (.int (128 : Int32)), .val (.int (191 : Int32)), s10, s11] [])
          refine hst (fun t₀ k₀ => XS.goto XI.here hx rfl (pc0 := 55) (pc' := 199) rfl (hb hby d3_55) (by decide) (by decide) k₀) ?_
          show F s₁ (mkF m 199 #[.val (.ref a), .val (.int fv), .val (.int lv), .val (.int ev), .val (.int (1 : Int32)), .val (.int av), .val (.int ld), .val (.int (0 : Int32)), .val (.int (128 : Int32)), .val (.int (191 : Int32)), s10, s11] [])
          simp only [own_lt32, own_eq32] at hc49
          exact J199 _ _ _ _ (Or.inl ⟨rfl, rfl, by decide, by decide, by omega⟩)
        · -- pc 49: taken
          refine hst (fun t₀ k₀ => XS.icmpYes XI.here hx rfl (pc0 := 49) (pc' := 58) rfl (hb hby d3_49) rfl (flt hc49).2.1 (by decide) (by decide) k₀) ?_
          show F s₁ (mkF m 58 #[.val (.ref a), .val (.int fv), .val (.int lv), .val (.int ev), .val (.int (1 : Int32)), .val (.int av), .val (.int ld), .val (.int (0 : Int32)), .val (.int (128 : Int32)), .val (.int (191 : Int32)), s10, s11] [])
          refine hst (fun t₀ k₀ => XS.iload XI.here hx rfl (hb hby d3_58) rfl k₀) ?_
          show F s₁ (mkF m 60 #[.val (.ref a), .val (.int fv), .val (.int lv), .val (.int ev), .val (.int (1 : Int32)), .val (.int av), .val (.int ld), .val (.int (0 : Int32)), .val (.int (128 : Int32)), .val (.int (191 : Int32)), s10, s11] [(.int ld)])
          refine hst (fun t₀ k₀ => XS.sipush XI.here hx rfl (hb hby d3_60) k₀) ?_
          show F s₁ (mkF m 63 #[.val (.ref a), .val (.int fv), .val (.int lv), .val (.int ev), .val (.int (1 : Int32)), .val (.int av), .val (.int ld), .val (.int (0 : Int32)), .val (.int (128 : Int32)), .val (.int (191 : Int32)), s10, s11] [(.int (194 : Int32)), (.int ld)])
          by_cases hc63 : ld < (194 : Int32)
          · -- pc 63: taken
            refine hst (fun t₀ k₀ => XS.icmpYes XI.here hx rfl (pc0 := 63) (pc' := 80) rfl (hb hby d3_63) rfl (tlt hc63).1 (by decide) (by decide) k₀) ?_
            show F s₁ (mkF m 80 #[.val (.ref a), .val (.int fv), .val (.int lv), .val (.int ev), .val (.int (1 : Int32)), .val (.int av), .val (.int ld), .val (.int (0 : Int32)), .val (.int (128 : Int32)), .val (.int (191 : Int32)), s10, s11] [])
            refine hst (fun t₀ k₀ => XS.iload XI.here hx rfl (hb hby d3_80) rfl k₀) ?_
            show F s₁ (mkF m 82 #[.val (.ref a), .val (.int fv), .val (.int lv), .val (.int ev), .val (.int (1 : Int32)), .val (.int av), .val (.int ld), .val (.int (0 : Int32)), .val (.int (128 : Int32)), .val (.int (191 : Int32)), s10, s11] [(.int ld)])
            refine hst (fun t₀ k₀ => XS.sipush XI.here hx rfl (hb hby d3_82) k₀) ?_
            show F s₁ (mkF m 85 #[.val (.ref a), .val (.int fv), .val (.int lv), .val (.int ev), .val (.int (1 : Int32)), .val (.int av), .val (.int ld), .val (.int (0 : Int32)), .val (.int (128 : Int32)), .val (.int (191 : Int32)), s10, s11] [(.int (224 : Int32)), (.int ld)])
            by_cases hc85 : ld < (224 : Int32)
            · -- pc 85: taken
              refine hst (fun t₀ k₀ => XS.icmpYes XI.here hx rfl (pc0 := 85) (pc' := 138) rfl (hb hby d3_85) rfl (tlt hc85).1 (by decide) (by decide) k₀) ?_
              show F s₁ (mkF m 138 #[.val (.ref a), .val (.int fv), .val (.int lv), .val (.int ev), .val (.int (1 : Int32)), .val (.int av), .val (.int ld), .val (.int (0 : Int32)), .val (.int (128 : Int32)), .val (.int (191 : Int32)), s10, s11] [])
              refine hst (fun t₀ k₀ => XS.iload XI.here hx rfl (hb hby d3_138) rfl k₀) ?_
              show F s₁ (mkF m 140 #[.val (.ref a), .val (.int fv), .val (.int lv), .val (.int ev), .val (.int (1 : Int32)), .val (.int av), .val (.int ld), .val (.int (0 : Int32)), .val (.int (128 : Int32)), .val (.int (191 : Int32)), s10, s11] [(.int ld)])
              refine hst (fun t₀ k₀ => XS.sipush XI.here hx rfl (hb hby d3_140) k₀) ?_
              show F s₁ (mkF m 143 #[.val (.ref a), .val (.int fv), .val (.int lv), .val (.int ev), .val (.int (1 : Int32)), .val (.int av), .val (.int ld), .val (.int (0 : Int32)), .val (.int (128 : Int32)), .val (.int (191 : Int32)), s10, s11] [(.int (240 : Int32)), (.int ld)])
              by_cases hc143 : ld < (240 : Int32)
              · -- pc 143: taken
                refine hst (fun t₀ k₀ => XS.icmpYes XI.here hx rfl (pc0 := 143) (pc' := 196) rfl (hb hby d3_143) rfl (tlt hc143).1 (by decide) (by decide) k₀) ?_
                show F s₁ (mkF m 196 #[.val (.ref a), .val (.int fv), .val (.int lv), .val (.int ev), .val (.int (1 : Int32)), .val (.int av), .val (.int ld), .val (.int (0 : Int32)), .val (.int (128 : Int32)), .val (.int (191 : Int32)), s10, s11] [])
                refine hst (fun t₀ k₀ => XS.iconst XI.here hx rfl (hb hby d3_196) k₀) ?_
                show F s₁ (mkF m 197 #[.val (.ref a), .val (.int fv), .val (.int lv), .val (.int ev), .val (.int (1 : Int32)), .val (.int av), .val (.int ld), .val (.int (0 : Int32)), .val (.int (128 : Int32)), .val (.int (191 : Int32)), s10, s11] [(.int (0 : Int32))])
                refine hst (fun t₀ k₀ => XS.istore XI.here hx rfl (hb hby d3_197) rfl (l' := #[.val (.ref a), .val (.int fv), .val (.int lv), .val (.int ev), .val (.int (0 : Int32)), .val (.int av), .val (.int ld), .val (.int (0 : Int32)), .val (.int (128 : Int32)), .val (.int (191 : Int32)), s10, s11]) rfl k₀) ?_
                show F s₁ (mkF m 199 #[.val (.ref a), .val (.int fv), .val (.int lv), .val (.int ev), .val (.int (0 : Int32)), .val (.int av), .val (.int ld), .val (.int (0 : Int32)), .val (.int (128 : Int32)), .val (.int (191 : Int32)), s10, s11] [])
                simp only [own_lt32, own_eq32] at hc49 hc63 hc85 hc143
                exact J199 _ _ _ _ (Or.inr (Or.inr (Or.inr (Or.inr ⟨rfl, rfl, by decide, by decide, by omega⟩))))
              · -- pc 143: not taken
                refine hst (fun t₀ k₀ => XS.icmpNo XI.here hx rfl (hb hby d3_143) rfl (flt hc143).1 k₀) ?_
                show F s₁ (mkF m 146 #[.val (.ref a), .val (.int fv), .val (.int lv), .val (.int ev), .val (.int (1 : Int32)), .val (.int av), .val (.int ld), .val (.int (0 : Int32)), .val (.int (128 : Int32)), .val (.int (191 : Int32)), s10, s11] [])
                refine hst (fun t₀ k₀ => XS.iload XI.here hx rfl (hb hby d3_146) rfl k₀) ?_
                show F s₁ (mkF m 148 #[.val (.ref a), .val (.int fv), .val (.int lv), .val (.int ev), .val (.int (1 : Int32)), .val (.int av), .val (.int ld), .val (.int (0 : Int32)), .val (.int (128 : Int32)), .val (.int (191 : Int32)), s10, s11] [(.int ld)])
                refine hst (fun t₀ k₀ => XS.sipush XI.here hx rfl (hb hby d3_148) k₀) ?_
                show F s₁ (mkF m 151 #[.val (.ref a), .val (.int fv), .val (.int lv), .val (.int ev), .val (.int (1 : Int32)), .val (.int av), .val (.int ld), .val (.int (0 : Int32)), .val (.int (128 : Int32)), .val (.int (191 : Int32)), s10, s11] [(.int (245 : Int32)), (.int ld)])
                by_cases hc151 : ld < (245 : Int32)
                · -- pc 151: not taken
                  refine hst (fun t₀ k₀ => XS.icmpNo XI.here hx rfl (hb hby d3_151) rfl (tlt hc151).2.1 k₀) ?_
                  show F s₁ (mkF m 154 #[.val (.ref a), .val (.int fv), .val (.int lv), .val (.int ev), .val (.int (1 : Int32)), .val (.int av), .val (.int ld), .val (.int (0 : Int32)), .val (.int (128 : Int32)), .val (.int (191 : Int32)), s10, s11] [])
                  refine hst (fun t₀ k₀ => XS.iconst XI.here hx rfl (hb hby d3_154) k₀) ?_
                  show F s₁ (mkF m 155 #[.val (.ref a), .val (.int fv), .val (.int lv), .val (.int ev), .val (.int (1 : Int32)), .val (.int av), .val (.int ld), .val (.int (0 : Int32)), .val (.int (128 : Int32)), .val (.int (191 : Int32)), s10, s11] [(.int (3 : Int32))])
                  refine hst (fun t₀ k₀ => XS.istore XI.here hx rfl (hb hby d3_155) rfl (l' := #[.val (.ref a), .val (.int fv), .val (.int lv), .val (.int ev), .val (.int (1 : Int32)), .val (.int av), .val (.int ld), .val (.int (3 : Int32)), .val (.int (128 : Int32)), .val (.int (191 : Int32)), s10, s11]) rfl k₀) ?_
                  show F s₁ (mkF m 157 #[.val (.ref a), .val (.int fv), .val (.int lv), .val (.int ev), .val (.int (1 : Int32)), .val (.int av), .val (.int ld), .val (.int (3 : Int32)), .val (.int (128 : Int32)), .val (.int (191 : Int32)), s10, s11] [])
                  refine hst (fun t₀ k₀ => XS.iload XI.here hx rfl (hb hby d3_157) rfl k₀) ?_
                  show F s₁ (mkF m 159 #[.val (.ref a), .val (.int fv), .val (.int lv), .val (.int ev), .val (.int (1 : Int32)), .val (.int av), .val (.int ld), .val (.int (3 : Int32)), .val (.int (128 : Int32)), .val (.int (191 : Int32)), s10, s11] [(.int ld)])
                  refine hst (fun t₀ k₀ => XS.sipush XI.here hx rfl (hb hby d3_159) k₀) ?_
                  show F s₁ (mkF m 162 #[.val (.ref a), .val (.int fv), .val (.int lv), .val (.int ev), .val (.int (1 : Int32)), .val (.int av), .val (.int ld), .val (.int (3 : Int32)), .val (.int (128 : Int32)), .val (.int (191 : Int32)), s10, s11] [(.int (240 : Int32)), (.int ld)])
                  by_cases hc162 : ld = (240 : Int32)
                  · -- pc 162: not taken
                    refine hst (fun t₀ k₀ => XS.icmpNo XI.here hx rfl (hb hby d3_162) rfl (teq hc162).2 k₀) ?_
                    show F s₁ (mkF m 165 #[.val (.ref a), .val (.int fv), .val (.int lv), .val (.int ev), .val (.int (1 : Int32)), .val (.int av), .val (.int ld), .val (.int (3 : Int32)), .val (.int (128 : Int32)), .val (.int (191 : Int32)), s10, s11] [])
                    refine hst (fun t₀ k₀ => XS.sipush XI.here hx rfl (hb hby d3_165) k₀) ?_
                    show F s₁ (mkF m 168 #[.val (.ref a), .val (.int fv), .val (.int lv), .val (.int ev), .val (.int (1 : Int32)), .val (.int av), .val (.int ld), .val (.int (3 : Int32)), .val (.int (128 : Int32)), .val (.int (191 : Int32)), s10, s11] [(.int (144 : Int32))])
                    refine hst (fun t₀ k₀ => XS.goto XI.here hx rfl (pc0 := 168) (pc' := 173) rfl (hb hby d3_168) (by decide) (by decide) k₀) ?_
                    show F s₁ (mkF m 173 #[.val (.ref a), .val (.int fv), .val (.int lv), .val (.int ev), .val (.int (1 : Int32)), .val (.int av), .val (.int ld), .val (.int (3 : Int32)), .val (.int (128 : Int32)), .val (.int (191 : Int32)), s10, s11] [(.int (144 : Int32))])
                    refine hst (fun t₀ k₀ => XS.istore XI.here hx rfl (hb hby d3_173) rfl (l' := #[.val (.ref a), .val (.int fv), .val (.int lv), .val (.int ev), .val (.int (1 : Int32)), .val (.int av), .val (.int ld), .val (.int (3 : Int32)), .val (.int (144 : Int32)), .val (.int (191 : Int32)), s10, s11]) rfl k₀) ?_
                    show F s₁ (mkF m 175 #[.val (.ref a), .val (.int fv), .val (.int lv), .val (.int ev), .val (.int (1 : Int32)), .val (.int av), .val (.int ld), .val (.int (3 : Int32)), .val (.int (144 : Int32)), .val (.int (191 : Int32)), s10, s11] [])
                    refine hst (fun t₀ k₀ => XS.iload XI.here hx rfl (hb hby d3_175) rfl k₀) ?_
                    show F s₁ (mkF m 177 #[.val (.ref a), .val (.int fv), .val (.int lv), .val (.int ev), .val (.int (1 : Int32)), .val (.int av), .val (.int ld), .val (.int (3 : Int32)), .val (.int (144 : Int32)), .val (.int (191 : Int32)), s10, s11] [(.int ld)])
                    refine hst (fun t₀ k₀ => XS.sipush XI.here hx rfl (hb hby d3_177) k₀) ?_
                    show F s₁ (mkF m 180 #[.val (.ref a), .val (.int fv), .val (.int lv), .val (.int ev), .val (.int (1 : Int32)), .val (.int av), .val (.int ld), .val (.int (3 : Int32)), .val (.int (144 : Int32)), .val (.int (191 : Int32)), s10, s11] [(.int (244 : Int32)), (.int ld)])
                    by_cases hc180 : ld = (244 : Int32)
                    · -- pc 180: not taken
                      refine hst (fun t₀ k₀ => XS.icmpNo XI.here hx rfl (hb hby d3_180) rfl (teq hc180).2 k₀) ?_
                      show F s₁ (mkF m 183 #[.val (.ref a), .val (.int fv), .val (.int lv), .val (.int ev), .val (.int (1 : Int32)), .val (.int av), .val (.int ld), .val (.int (3 : Int32)), .val (.int (144 : Int32)), .val (.int (191 : Int32)), s10, s11] [])
                      refine hst (fun t₀ k₀ => XS.sipush XI.here hx rfl (hb hby d3_183) k₀) ?_
                      show F s₁ (mkF m 186 #[.val (.ref a), .val (.int fv), .val (.int lv), .val (.int ev), .val (.int (1 : Int32)), .val (.int av), .val (.int ld), .val (.int (3 : Int32)), .val (.int (144 : Int32)), .val (.int (191 : Int32)), s10, s11] [(.int (143 : Int32))])
                      refine hst (fun t₀ k₀ => XS.goto XI.here hx rfl (pc0 := 186) (pc' := 191) rfl (hb hby d3_186) (by decide) (by decide) k₀) ?_
                      show F s₁ (mkF m 191 #[.val (.ref a), .val (.int fv), .val (.int lv), .val (.int ev), .val (.int (1 : Int32)), .val (.int av), .val (.int ld), .val (.int (3 : Int32)), .val (.int (144 : Int32)), .val (.int (191 : Int32)), s10, s11] [(.int (143 : Int32))])
                      refine hst (fun t₀ k₀ => XS.istore XI.here hx rfl (hb hby d3_191) rfl (l' := #[.val (.ref a), .val (.int fv), .val (.int lv), .val (.int ev), .val (.int (1 : Int32)), .val (.int av), .val (.int ld), .val (.int (3 : Int32)), .val (.int (144 : Int32)), .val (.int (143 : Int32)), s10, s11]) rfl k₀) ?_
                      show F s₁ (mkF m 193 #[.val (.ref a), .val (.int fv), .val (.int lv), .val (.int ev), .val (.int (1 : Int32)), .val (.int av), .val (.int ld), .val (.int (3 : Int32)), .val (.int (144 : Int32)), .val (.int (143 : Int32)), s10, s11] [])
                      refine hst (fun t₀ k₀ => XS.goto XI.here hx rfl (pc0 := 193) (pc' := 199) rfl (hb hby d3_193) (by decide) (by decide) k₀) ?_
                      show F s₁ (mkF m 199 #[.val (.ref a), .val (.int fv), .val (.int lv), .val (.int ev), .val (.int (1 : Int32)), .val (.int av), .val (.int ld), .val (.int (3 : Int32)), .val (.int (144 : Int32)), .val (.int (143 : Int32)), s10, s11] [])
                      simp only [own_lt32, own_eq32] at hc49 hc63 hc85 hc143 hc151 hc162 hc180
                      exact J199 _ _ _ _ (Or.inr (Or.inr (Or.inr (Or.inl ⟨rfl, rfl, ⟨fun q => by omega, fun q => by omega⟩, ⟨fun q => by omega, fun q => by omega⟩, by omega, by omega⟩))))
                    · -- pc 180: taken
                      refine hst (fun t₀ k₀ => XS.icmpYes XI.here hx rfl (pc0 := 180) (pc' := 189) rfl (hb hby d3_180) rfl (feq hc180).2 (by decide) (by decide) k₀) ?_
                      show F s₁ (mkF m 189 #[.val (.ref a), .val (.int fv), .val (.int lv), .val (.int ev), .val (.int (1 : Int32)), .val (.int av), .val (.int ld), .val (.int (3 : Int32)), .val (.int (144 : Int32)), .val (.int (191 : Int32)), s10, s11] [])
                      refine hst (fun t₀ k₀ => XS.iload XI.here hx rfl (hb hby d3_189) rfl k₀) ?_
                      show F s₁ (mkF m 191 #[.val (.ref a), .val (.int fv), .val (.int lv), .val (.int ev), .val (.int (1 : Int32)), .val (.int av), .val (.int ld), .val (.int (3 : Int32)), .val (.int (144 : Int32)), .val (.int (191 : Int32)), s10, s11] [(.int (191 : Int32))])
                      refine hst (fun t₀ k₀ => XS.istore XI.here hx rfl (hb hby d3_191) rfl (l' := #[.val (.ref a), .val (.int fv), .val (.int lv), .val (.int ev), .val (.int (1 : Int32)), .val (.int av), .val (.int ld), .val (.int (3 : Int32)), .val (.int (144 : Int32)), .val (.int (191 : Int32)), s10, s11]) rfl k₀) ?_
                      show F s₁ (mkF m 193 #[.val (.ref a), .val (.int fv), .val (.int lv), .val (.int ev), .val (.int (1 : Int32)), .val (.int av), .val (.int ld), .val (.int (3 : Int32)), .val (.int (144 : Int32)), .val (.int (191 : Int32)), s10, s11] [])
                      refine hst (fun t₀ k₀ => XS.goto XI.here hx rfl (pc0 := 193) (pc' := 199) rfl (hb hby d3_193) (by decide) (by decide) k₀) ?_
                      show F s₁ (mkF m 199 #[.val (.ref a), .val (.int fv), .val (.int lv), .val (.int ev), .val (.int (1 : Int32)), .val (.int av), .val (.int ld), .val (.int (3 : Int32)), .val (.int (144 : Int32)), .val (.int (191 : Int32)), s10, s11] [])
                      simp only [own_lt32, own_eq32] at hc49 hc63 hc85 hc143 hc151 hc162 hc180
                      exact J199 _ _ _ _ (Or.inr (Or.inr (Or.inr (Or.inl ⟨rfl, rfl, ⟨fun q => by omega, fun q => by omega⟩, ⟨fun q => by omega, fun q => by omega⟩, by omega, by omega⟩))))
                  · -- pc 162: taken
                    refine hst (fun t₀ k₀ => XS.icmpYes XI.here hx rfl (pc0 := 162) (pc' := 171) rfl (hb hby d3_162) rfl (feq hc162).2 (by decide) (by decide) k₀) ?_
                    show F s₁ (mkF m 171 #[.val (.ref a), .val (.int fv), .val (.int lv), .val (.int ev), .val (.int (1 : Int32)), .val (.int av), .val (.int ld), .val (.int (3 : Int32)), .val (.int (128 : Int32)), .val (.int (191 : Int32)), s10, s11] [])
                    refine hst (fun t₀ k₀ => XS.iload XI.here hx rfl (hb hby d3_171) rfl k₀) ?_
                    show F s₁ (mkF m 173 #[.val (.ref a), .val (.int fv), .val (.int lv), .val (.int ev), .val (.int (1 : Int32)), .val (.int av), .val (.int ld), .val (.int (3 : Int32)), .val (.int (128 : Int32)), .val (.int (191 : Int32)), s10, s11] [(.int (128 : Int32))])
                    refine hst (fun t₀ k₀ => XS.istore XI.here hx rfl (hb hby d3_173) rfl (l' := #[.val (.ref a), .val (.int fv), .val (.int lv), .val (.int ev), .val (.int (1 : Int32)), .val (.int av), .val (.int ld), .val (.int (3 : Int32)), .val (.int (128 : Int32)), .val (.int (191 : Int32)), s10, s11]) rfl k₀) ?_
                    show F s₁ (mkF m 175 #[.val (.ref a), .val (.int fv), .val (.int lv), .val (.int ev), .val (.int (1 : Int32)), .val (.int av), .val (.int ld), .val (.int (3 : Int32)), .val (.int (128 : Int32)), .val (.int (191 : Int32)), s10, s11] [])
                    refine hst (fun t₀ k₀ => XS.iload XI.here hx rfl (hb hby d3_175) rfl k₀) ?_
                    show F s₁ (mkF m 177 #[.val (.ref a), .val (.int fv), .val (.int lv), .val (.int ev), .val (.int (1 : Int32)), .val (.int av), .val (.int ld), .val (.int (3 : Int32)), .val (.int (128 : Int32)), .val (.int (191 : Int32)), s10, s11] [(.int ld)])
                    refine hst (fun t₀ k₀ => XS.sipush XI.here hx rfl (hb hby d3_177) k₀) ?_
                    show F s₁ (mkF m 180 #[.val (.ref a), .val (.int fv), .val (.int lv), .val (.int ev), .val (.int (1 : Int32)), .val (.int av), .val (.int ld), .val (.int (3 : Int32)), .val (.int (128 : Int32)), .val (.int (191 : Int32)), s10, s11] [(.int (244 : Int32)), (.int ld)])
                    by_cases hc180 : ld = (244 : Int32)
                    · -- pc 180: not taken
                      refine hst (fun t₀ k₀ => XS.icmpNo XI.here hx rfl (hb hby d3_180) rfl (teq hc180).2 k₀) ?_
                      show F s₁ (mkF m 183 #[.val (.ref a), .val (.int fv), .val (.int lv), .val (.int ev), .val (.int (1 : Int32)), .val (.int av), .val (.int ld), .val (.int (3 : Int32)), .val (.int (128 : Int32)), .val (.int (191 : Int32)), s10, s11] [])
                      refine hst (fun t₀ k₀ => XS.sipush XI.here hx rfl (hb hby d3_183) k₀) ?_
                      show F s₁ (mkF m 186 #[.val (.ref a), .val (.int fv), .val (.int lv), .val (.int ev), .val (.int (1 : Int32)), .val (.int av), .val (.int ld), .val (.int (3 : Int32)), .val (.int (128 : Int32)), .val (.int (191 : Int32)), s10, s11] [(.int (143 : Int32))])
                      refine hst (fun t₀ k₀ => XS.goto XI.here hx rfl (pc0 := 186) (pc' := 191) rfl (hb hby d3_186) (by decide) (by decide) k₀) ?_
                      show F s₁ (mkF m 191 #[.val (.ref a), .val (.int fv), .val (.int lv), .val (.int ev), .val (.int (1 : Int32)), .val (.int av), .val (.int ld), .val (.int (3 : Int32)), .val (.int (128 : Int32)), .val (.int (191 : Int32)), s10, s11] [(.int (143 : Int32))])
                      refine hst (fun t₀ k₀ => XS.istore XI.here hx rfl (hb hby d3_191) rfl (l' := #[.val (.ref a), .val (.int fv), .val (.int lv), .val (.int ev), .val (.int (1 : Int32)), .val (.int av), .val (.int ld), .val (.int (3 : Int32)), .val (.int (128 : Int32)), .val (.int (143 : Int32)), s10, s11]) rfl k₀) ?_
                      show F s₁ (mkF m 193 #[.val (.ref a), .val (.int fv), .val (.int lv), .val (.int ev), .val (.int (1 : Int32)), .val (.int av), .val (.int ld), .val (.int (3 : Int32)), .val (.int (128 : Int32)), .val (.int (143 : Int32)), s10, s11] [])
                      refine hst (fun t₀ k₀ => XS.goto XI.here hx rfl (pc0 := 193) (pc' := 199) rfl (hb hby d3_193) (by decide) (by decide) k₀) ?_
                      show F s₁ (mkF m 199 #[.val (.ref a), .val (.int fv), .val (.int lv), .val (.int ev), .val (.int (1 : Int32)), .val (.int av), .val (.int ld), .val (.int (3 : Int32)), .val (.int (128 : Int32)), .val (.int (143 : Int32)), s10, s11] [])
                      simp only [own_lt32, own_eq32] at hc49 hc63 hc85 hc143 hc151 hc162 hc180
                      exact J199 _ _ _ _ (Or.inr (Or.inr (Or.inr (Or.inl ⟨rfl, rfl, ⟨fun q => by omega, fun q => by omega⟩, ⟨fun q => by omega, fun q => by omega⟩, by omega, by omega⟩))))
                    · -- pc 180: taken
                      refine hst (fun t₀ k₀ => XS.icmpYes XI.here hx rfl (pc0 := 180) (pc' := 189) rfl (hb hby d3_180) rfl (feq hc180).2 (by decide) (by decide) k₀) ?_
                      show F s₁ (mkF m 189 #[.val (.ref a), .val (.int fv), .val (.int lv), .val (.int ev), .val (.int (1 : Int32)), .val (.int av), .val (.int ld), .val (.int (3 : Int32)), .val (.int (128 : Int32)), .val (.int (191 : Int32)), s10, s11] [])
                      refine hst (fun t₀ k₀ => XS.iload XI.here hx rfl (hb hby d3_189) rfl k₀) ?_
                      show F s₁ (mkF m 191 #[.val (.ref a), .val (.int fv), .val (.int lv), .val (.int ev), .val (.int (1 : Int32)), .val (.int av), .val (.int ld), .val (.int (3 : Int32)), .val (.int (128 : Int32)), .val (.int (191 : Int32)), s10, s11] [(.int (191 : Int32))])
                      refine hst (fun t₀ k₀ => XS.istore XI.here hx rfl (hb hby d3_191) rfl (l' := #[.val (.ref a), .val (.int fv), .val (.int lv), .val (.int ev), .val (.int (1 : Int32)), .val (.int av), .val (.int ld), .val (.int (3 : Int32)), .val (.int (128 : Int32)), .val (.int (191 : Int32)), s10, s11]) rfl k₀) ?_
                      show F s₁ (mkF m 193 #[.val (.ref a), .val (.int fv), .val (.int lv), .val (.int ev), .val (.int (1 : Int32)), .val (.int av), .val (.int ld), .val (.int (3 : Int32)), .val (.int (128 : Int32)), .val (.int (191 : Int32)), s10, s11] [])
                      refine hst (fun t₀ k₀ => XS.goto XI.here hx rfl (pc0 := 193) (pc' := 199) rfl (hb hby d3_193) (by decide) (by decide) k₀) ?_
                      show F s₁ (mkF m 199 #[.val (.ref a), .val (.int fv), .val (.int lv), .val (.int ev), .val (.int (1 : Int32)), .val (.int av), .val (.int ld), .val (.int (3 : Int32)), .val (.int (128 : Int32)), .val (.int (191 : Int32)), s10, s11] [])
                      simp only [own_lt32, own_eq32] at hc49 hc63 hc85 hc143 hc151 hc162 hc180
                      exact J199 _ _ _ _ (Or.inr (Or.inr (Or.inr (Or.inl ⟨rfl, rfl, ⟨fun q => by omega, fun q => by omega⟩, ⟨fun q => by omega, fun q => by omega⟩, by omega, by omega⟩))))
                · -- pc 151: taken
                  refine hst (fun t₀ k₀ => XS.icmpYes XI.here hx rfl (pc0 := 151) (pc' := 196) rfl (hb hby d3_151) rfl (flt hc151).2.1 (by decide) (by decide) k₀) ?_
                  show F s₁ (mkF m 196 #[.val (.ref a), .val (.int fv), .val (.int lv), .val (.int ev), .val (.int (1 : Int32)), .val (.int av), .val (.int ld), .val (.int (0 : Int32)), .val (.int (128 : Int32)), .val (.int (191 : Int32)), s10, s11] [])
                  refine hst (fun t₀ k₀ => XS.iconst XI.here hx rfl (hb hby d3_196) k₀) ?_
                  show F s₁ (mkF m 197 #[.val (.ref a), .val (.int fv), .val (.int lv), .val (.int ev), .val (.int (1 : Int32)), .val (.int av), .val (.int ld), .val (.int (0 : Int32)), .val (.int (128 : Int32)), .val (.int (191 : Int32)), s10, s11] [(.int (0 : Int32))])
                  refine hst (fun t₀ k₀ => XS.istore XI.here hx rfl (hb hby d3_197) rfl (l' := #[.val (.ref a), .val (.int fv), .val (.int lv), .val (.int ev), .val (.int (0 : Int32)), .val (.int av), .val (.int ld), .val (.int (0 : Int32)), .val (.int (128 : Int32)), .val (.int (191 : Int32)), s10, s11]) rfl k₀) ?_
                  show F s₁ (mkF m 199 #[.val (.ref a), .val (.int fv), .val (.int lv), .val (.int ev), .val (.int (0 : Int32)), .val (.int av), .val (.int ld), .val (.int (0 : Int32)), .val (.int (128 : Int32)), .val (.int (191 : Int32)), s10, s11] [])
                  simp only [own_lt32, own_eq32] at hc49 hc63 hc85 hc143 hc151
                  exact J199 _ _ _ _ (Or.inr (Or.inr (Or.inr (Or.inr ⟨rfl, rfl, by decide, by decide, by omega⟩))))
            · -- pc 85: not taken
              refine hst (fun t₀ k₀ => XS.icmpNo XI.here hx rfl (hb hby d3_85) rfl (flt hc85).1 k₀) ?_
              show F s₁ (mkF m 88 #[.val (.ref a), .val (.int fv), .val (.int lv), .val (.int ev), .val (.int (1 : Int32)), .val (.int av), .val (.int ld), .val (.int (0 : Int32)), .val (.int (128 : Int32)), .val (.int (191 : Int32)), s10, s11] [])
              refine hst (fun t₀ k₀ => XS.iload XI.here hx rfl (hb hby d3_88) rfl k₀) ?_
              show F s₁ (mkF m 90 #[.val (.ref a), .val (.int fv), .val (.int lv), .val (.int ev), .val (.int (1 : Int32)), .val (.int av), .val (.int ld), .val (.int (0 : Int32)), .val (.int (128 : Int32)), .val (.int (191 : Int32)), s10, s11] [(.int ld)])
              refine hst (fun t₀ k₀ => XS.sipush XI.here hx rfl (hb hby d3_90) k₀) ?_
              show F s₁ (mkF m 93 #[.val (.ref a), .val (.int fv), .val (.int lv), .val (.int ev), .val (.int (1 : Int32)), .val (.int av), .val (.int ld), .val (.int (0 : Int32)), .val (.int (128 : Int32)), .val (.int (191 : Int32)), s10, s11] [(.int (240 : Int32)), (.int ld)])
              by_cases hc93 : ld < (240 : Int32)
              · -- pc 93: not taken
                refine hst (fun t₀ k₀ => XS.icmpNo XI.here hx rfl (hb hby d3_93) rfl (tlt hc93).2.1 k₀) ?_
                show F s₁ (mkF m 96 #[.val (.ref a), .val (.int fv), .val (.int lv), .val (.int ev), .val (.int (1 : Int32)), .val (.int av), .val (.int ld), .val (.int (0 : Int32)), .val (.int (128 : Int32)), .val (.int (191 : Int32)), s10, s11] [])
                refine hst (fun t₀ k₀ => XS.iconst XI.here hx rfl (hb hby d3_96) k₀) ?_
                show F s₁ (mkF m 97 #[.val (.ref a), .val (.int fv), .val (.int lv), .val (.int ev), .val (.int (1 : Int32)), .val (.int av), .val (.int ld), .val (.int (0 : Int32)), .val (.int (128 : Int32)), .val (.int (191 : Int32)), s10, s11] [(.int (2 : Int32))])
                refine hst (fun t₀ k₀ => XS.istore XI.here hx rfl (hb hby d3_97) rfl (l' := #[.val (.ref a), .val (.int fv), .val (.int lv), .val (.int ev), .val (.int (1 : Int32)), .val (.int av), .val (.int ld), .val (.int (2 : Int32)), .val (.int (128 : Int32)), .val (.int (191 : Int32)), s10, s11]) rfl k₀) ?_
                show F s₁ (mkF m 99 #[.val (.ref a), .val (.int fv), .val (.int lv), .val (.int ev), .val (.int (1 : Int32)), .val (.int av), .val (.int ld), .val (.int (2 : Int32)), .val (.int (128 : Int32)), .val (.int (191 : Int32)), s10, s11] [])
                refine hst (fun t₀ k₀ => XS.iload XI.here hx rfl (hb hby d3_99) rfl k₀) ?_
                show F s₁ (mkF m 101 #[.val (.ref a), .val (.int fv), .val (.int lv), .val (.int ev), .val (.int (1 : Int32)), .val (.int av), .val (.int ld), .val (.int (2 : Int32)), .val (.int (128 : Int32)), .val (.int (191 : Int32)), s10, s11] [(.int ld)])
                refine hst (fun t₀ k₀ => XS.sipush XI.here hx rfl (hb hby d3_101) k₀) ?_
                show F s₁ (mkF m 104 #[.val (.ref a), .val (.int fv), .val (.int lv), .val (.int ev), .val (.int (1 : Int32)), .val (.int av), .val (.int ld), .val (.int (2 : Int32)), .val (.int (128 : Int32)), .val (.int (191 : Int32)), s10, s11] [(.int (224 : Int32)), (.int ld)])
                by_cases hc104 : ld = (224 : Int32)
                · -- pc 104: not taken
                  refine hst (fun t₀ k₀ => XS.icmpNo XI.here hx rfl (hb hby d3_104) rfl (teq hc104).2 k₀) ?_
                  show F s₁ (mkF m 107 #[.val (.ref a), .val (.int fv), .val (.int lv), .val (.int ev), .val (.int (1 : Int32)), .val (.int av), .val (.int ld), .val (.int (2 : Int32)), .val (.int (128 : Int32)), .val (.int (191 : Int32)), s10, s11] [])
                  refine hst (fun t₀ k₀ => XS.sipush XI.here hx rfl (hb hby d3_107) k₀) ?_
                  show F s₁ (mkF m 110 #[.val (.ref a), .val (.int fv), .val (.int lv), .val (.int ev), .val (.int (1 : Int32)), .val (.int av), .val (.int ld), .val (.int (2 : Int32)), .val (.int (128 : Int32)), .val (.int (191 : Int32)), s10, s11] [(.int (160 : Int32))])
                  refine hst (fun t₀ k₀ => XS.goto XI.here hx rfl (pc0 := 110) (pc' := 115) rfl (hb hby d3_110) (by decide) (by decide) k₀) ?_
                  show F s₁ (mkF m 115 #[.val (.ref a), .val (.int fv), .val (.int lv), .val (.int ev), .val (.int (1 : Int32)), .val (.int av), .val (.int ld), .val (.int (2 : Int32)), .val (.int (128 : Int32)), .val (.int (191 : Int32)), s10, s11] [(.int (160 : Int32))])
                  refine hst (fun t₀ k₀ => XS.istore XI.here hx rfl (hb hby d3_115) rfl (l' := #[.val (.ref a), .val (.int fv), .val (.int lv), .val (.int ev), .val (.int (1 : Int32)), .val (.int av), .val (.int ld), .val (.int (2 : Int32)), .val (.int (160 : Int32)), .val (.int (191 : Int32)), s10, s11]) rfl k₀) ?_
                  show F s₁ (mkF m 117 #[.val (.ref a), .val (.int fv), .val (.int lv), .val (.int ev), .val (.int (1 : Int32)), .val (.int av), .val (.int ld), .val (.int (2 : Int32)), .val (.int (160 : Int32)), .val (.int (191 : Int32)), s10, s11] [])
                  refine hst (fun t₀ k₀ => XS.iload XI.here hx rfl (hb hby d3_117) rfl k₀) ?_
                  show F s₁ (mkF m 119 #[.val (.ref a), .val (.int fv), .val (.int lv), .val (.int ev), .val (.int (1 : Int32)), .val (.int av), .val (.int ld), .val (.int (2 : Int32)), .val (.int (160 : Int32)), .val (.int (191 : Int32)), s10, s11] [(.int ld)])
                  refine hst (fun t₀ k₀ => XS.sipush XI.here hx rfl (hb hby d3_119) k₀) ?_
                  show F s₁ (mkF m 122 #[.val (.ref a), .val (.int fv), .val (.int lv), .val (.int ev), .val (.int (1 : Int32)), .val (.int av), .val (.int ld), .val (.int (2 : Int32)), .val (.int (160 : Int32)), .val (.int (191 : Int32)), s10, s11] [(.int (237 : Int32)), (.int ld)])
                  by_cases hc122 : ld = (237 : Int32)
                  · -- pc 122: not taken
                    refine hst (fun t₀ k₀ => XS.icmpNo XI.here hx rfl (hb hby d3_122) rfl (teq hc122).2 k₀) ?_
                    show F s₁ (mkF m 125 #[.val (.ref a), .val (.int fv), .val (.int lv), .val (.int ev), .val (.int (1 : Int32)), .val (.int av), .val (.int ld), .val (.int (2 : Int32)), .val (.int (160 : Int32)), .val (.int (191 : Int32)), s10, s11] [])
                    refine hst (fun t₀ k₀ => XS.sipush XI.here hx rfl (hb hby d3_125) k₀) ?_
                    show F s₁ (mkF m 128 #[.val (.ref a), .val (.int fv), .val (.int lv), .val (.int ev), .val (.int (1 : Int32)), .val (.int av), .val (.int ld), .val (.int (2 : Int32)), .val (.int (160 : Int32)), .val (.int (191 : Int32)), s10, s11] [(.int (159 : Int32))])
                    refine hst (fun t₀ k₀ => XS.goto XI.here hx rfl (pc0 := 128) (pc' := 133) rfl (hb hby d3_128) (by decide) (by decide) k₀) ?_
                    show F s₁ (mkF m 133 #[.val (.ref a), .val (.int fv), .val (.int lv), .val (.int ev), .val (.int (1 : Int32)), .val (.int av), .val (.int ld), .val (.int (2 : Int32)), .val (.int (160 : Int32)), .val (.int (191 : Int32)), s10, s11] [(.int (159 : Int32))])
                    refine hst (fun t₀ k₀ => XS.istore XI.here hx rfl (hb hby d3_133) rfl (l' := #[.val (.ref a), .val (.int fv), .val (.int lv), .val (.int ev), .val (.int (1 : Int32)), .val (.int av), .val (.int ld), .val (.int (2 : Int32)), .val (.int (160 : Int32)), .val (.int (159 : Int32)), s10, s11]) rfl k₀) ?_
                    show F s₁ (mkF m 135 #[.val (.ref a), .val (.int fv), .val (.int lv), .val (.int ev), .val (.int (1 : Int32)), .val (.int av), .val (.int ld), .val (.int (2 : Int32)), .val (.int (160 : Int32)), .val (.int (159 : Int32)), s10, s11] [])
                    refine hst (fun t₀ k₀ => XS.goto XI.here hx rfl (pc0 := 135) (pc' := 199) rfl (hb hby d3_135) (by decide) (by decide) k₀) ?_
                    show F s₁ (mkF m 199 #[.val (.ref a), .val (.int fv), .val (.int lv), .val (.int ev), .val (.int (1 : Int32)), .val (.int av), .val (.int ld), .val (.int (2 : Int32)), .val (.int (160 : Int32)), .val (.int (159 : Int32)), s10, s11] [])
                    simp only [own_lt32, own_eq32] at hc49 hc63 hc85 hc93 hc104 hc122
                    exact J199 _ _ _ _ (Or.inr (Or.inr (Or.inl ⟨rfl, rfl, ⟨fun q => by omega, fun q => by omega⟩, ⟨fun q => by omega, fun q => by omega⟩, by omega, by omega⟩)))
                  · -- pc 122: taken
                    refine hst (fun t₀ k₀ => XS.icmpYes XI.here hx rfl (pc0 := 122) (pc' := 131) rfl (hb hby d3_122) rfl (feq hc122).2 (by decide) (by decide) k₀) ?_
                    show F s₁ (mkF m 131 #[.val (.ref a), .val (.int fv), .val (.int lv), .val (.int ev), .val (.int (1 : Int32)), .val (.int av), .val (.int ld), .val (.int (2 : Int32)), .val (.int (160 : Int32)), .val (.int (191 : Int32)), s10, s11] [])
                    refine hst (fun t₀ k₀ => XS.iload XI.here hx rfl (hb hby d3_131) rfl k₀) ?_
                    show F s₁ (mkF m 133 #[.val (.ref a), .val (.int fv), .val (.int lv), .val (.int ev), .val (.int (1 : Int32)), .val (.int av), .val (.int ld), .val (.int (2 : Int32)), .val (.int (160 : Int32)), .val (.int (191 : Int32)), s10, s11] [(.int (191 : Int32))])
                    refine hst (fun t₀ k₀ => XS.istore XI.here hx rfl (hb hby d3_133) rfl (l' := #[.val (.ref a), .val (.int fv), .val (.int lv), .val (.int ev), .val (.int (1 : Int32)), .val (.int av), .val (.int ld), .val (.int (2 : Int32)), .val (.int (160 : Int32)), .val (.int (191 : Int32)), s10, s11]) rfl k₀) ?_
                    show F s₁ (mkF m 135 #[.val (.ref a), .val (.int fv), .val (.int lv), .val (.int ev), .val (.int (1 : Int32)), .val (.int av), .val (.int ld), .val (.int (2 : Int32)), .val (.int (160 : Int32)), .val (.int (191 : Int32)), s10, s11] [])
                    refine hst (fun t₀ k₀ => XS.goto XI.here hx rfl (pc0 := 135) (pc' := 199) rfl (hb hby d3_135) (by decide) (by decide) k₀) ?_
                    show F s₁ (mkF m 199 #[.val (.ref a), .val (.int fv), .val (.int lv), .val (.int ev), .val (.int (1 : Int32)), .val (.int av), .val (.int ld), .val (.int (2 : Int32)), .val (.int (160 : Int32)), .val (.int (191 : Int32)), s10, s11] [])
                    simp only [own_lt32, own_eq32] at hc49 hc63 hc85 hc93 hc104 hc122
                    exact J199 _ _ _ _ (Or.inr (Or.inr (Or.inl ⟨rfl, rfl, ⟨fun q => by omega, fun q => by omega⟩, ⟨fun q => by omega, fun q => by omega⟩, by omega, by omega⟩)))
                · -- pc 104: taken
                  refine hst (fun t₀ k₀ => XS.icmpYes XI.here hx rfl (pc0 := 104) (pc' := 113) rfl (hb hby d3_104) rfl (feq hc104).2 (by decide) (by decide) k₀) ?_
                  show F s₁ (mkF m 113 #[.val (.ref a), .val (.int fv), .val (.int lv), .val (.int ev), .val (.int (1 : Int32)), .val (.int av), .val (.int ld), .val (.int (2 : Int32)), .val (.int (128 : Int32)), .val (.int (191 : Int32)), s10, s11] [])
                  refine hst (fun t₀ k₀ => XS.iload XI.here hx rfl (hb hby d3_113) rfl k₀) ?_
                  show F s₁ (mkF m 115 #[.val (.ref a), .val (.int fv), .val (.int lv), .val (.int ev), .val (.int (1 : Int32)), .val (.int av), .val (.int ld), .val (.int (2 : Int32)), .val (.int (128 : Int32)), .val (.int (191 : Int32)), s10, s11] [(.int (128 : Int32))])
                  refine hst (fun t₀ k₀ => XS.istore XI.here hx rfl (hb hby d3_115) rfl (l' := #[.val (.ref a), .val (.int fv), .val (.int lv), .val (.int ev), .val (.int (1 : Int32)), .val (.int av), .val (.int ld), .val (.int (2 : Int32)), .val (.int (128 : Int32)), .val (.int (191 : Int32)), s10, s11]) rfl k₀) ?_
                  show F s₁ (mkF m 117 #[.val (.ref a), .val (.int fv), .val (.int lv), .val (.int ev), .val (.int (1 : Int32)), .val (.int av), .val (.int ld), .val (.int (2 : Int32)), .val (.int (128 : Int32)), .val (.int (191 : Int32)), s10, s11] [])
                  refine hst (fun t₀ k₀ => XS.iload XI.here hx rfl (hb hby d3_117) rfl k₀) ?_
                  show F s₁ (mkF m 119 #[.val (.ref a), .val (.int fv), .val (.int lv), .val (.int ev), .val (.int (1 : Int32)), .val (.int av), .val (.int ld), .val (.int (2 : Int32)), .val (.int (128 : Int32)), .val (.int (191 : Int32)), s10, s11] [(.int ld)])
                  refine hst (fun t₀ k₀ => XS.sipush XI.here hx rfl (hb hby d3_119) k₀) ?_
                  show F s₁ (mkF m 122 #[.val (.ref a), .val (.int fv), .val (.int lv), .val (.int ev), .val (.int (1 : Int32)), .val (.int av), .val (.int ld), .val (.int (2 : Int32)), .val (.int (128 : Int32)), .val (.int (191 : Int32)), s10, s11] [(.int (237 : Int32)), (.int ld)])
                  by_cases hc122 : ld = (237 : Int32)
                  · -- pc 122: not taken
                    refine hst (fun t₀ k₀ => XS.icmpNo XI.here hx rfl (hb hby d3_122) rfl (teq hc122).2 k₀) ?_
                    show F s₁ (mkF m 125 #[.val (.ref a), .val (.int fv), .val (.int lv), .val (.int ev), .val (.int (1 : Int32)), .val (.int av), .val (.int ld), .val (.int (2 : Int32)), .val (.int (128 : Int32)), .val (.int (191 : Int32)), s10, s11] [])
                    refine hst (fun t₀ k₀ => XS.sipush XI.here hx rfl (hb hby d3_125) k₀) ?_
                    show F s₁ (mkF m 128 #[.val (.ref a), .val (.int fv), .val (.int lv), .val (.int ev), .val (.int (1 : Int32)), .val (.int av), .val (.int ld), .val (.int (2 : Int32)), .val (.int (128 : Int32)), .val (.int (191 : Int32)), s10, s11] [(.int (159 : Int32))])
                    refine hst (fun t₀ k₀ => XS.goto XI.here hx rfl (pc0 := 128) (pc' := 133) rfl (hb hby d3_128) (by decide) (by decide) k₀) ?_
                    show F s₁ (mkF m 133 #[.val (.ref a), .val (.int fv), .val (.int lv), .val (.int ev), .val (.int (1 : Int32)), .val (.int av), .val (.int ld), .val (.int (2 : Int32)), .val (.int (128 : Int32)), .val (.int (191 : Int32)), s10, s11] [(.int (159 : Int32))])
                    refine hst (fun t₀ k₀ => XS.istore XI.here hx rfl (hb hby d3_133) rfl (l' := #[.val (.ref a), .val (.int fv), .val (.int lv), .val (.int ev), .val (.int (1 : Int32)), .val (.int av), .val (.int ld), .val (.int (2 : Int32)), .val (.int (128 : Int32)), .val (.int (159 : Int32)), s10, s11]) rfl k₀) ?_
                    show F s₁ (mkF m 135 #[.val (.ref a), .val (.int fv), .val (.int lv), .val (.int ev), .val (.int (1 : Int32)), .val (.int av), .val (.int ld), .val (.int (2 : Int32)), .val (.int (128 : Int32)), .val (.int (159 : Int32)), s10, s11] [])
                    refine hst (fun t₀ k₀ => XS.goto XI.here hx rfl (pc0 := 135) (pc' := 199) rfl (hb hby d3_135) (by decide) (by decide) k₀) ?_
                    show F s₁ (mkF m 199 #[.val (.ref a), .val (.int fv), .val (.int lv), .val (.int ev), .val (.int (1 : Int32)), .val (.int av), .val (.int ld), .val (.int (2 : Int32)), .val (.int (128 : Int32)), .val (.int (159 : Int32)), s10, s11] [])
                    simp only [own_lt32, own_eq32] at hc49 hc63 hc85 hc93 hc104 hc122
                    exact J199 _ _ _ _ (Or.inr (Or.inr (Or.inl ⟨rfl, rfl, ⟨fun q => by omega, fun q => by omega⟩, ⟨fun q => by omega, fun q => by omega⟩, by omega, by omega⟩)))
                  · -- pc 122: taken
                    refine hst (fun t₀ k₀ => XS.icmpYes XI.here hx rfl (pc0 := 122) (pc' := 131) rfl (hb hby d3_122) rfl (feq hc122).2 (by decide) (by decide) k₀) ?_
                    show F s₁ (mkF m 131 #[.val (.ref a), .val (.int fv), .val (.int lv), .val (.int ev), .val (.int (1 : Int32)), .val (.int av), .val (.int ld), .val (.int (2 : Int32)), .val (.int (128 : Int32)), .val (.int (191 : Int32)), s10, s11] [])
                    refine hst (fun t₀ k₀ => XS.iload XI.here hx rfl (hb hby d3_131) rfl k₀) ?_
                    show F s₁ (mkF m 133 #[.val (.ref a), .val (.int fv), .val (.int lv), .val (.int ev), .val (.int (1 : Int32)), .val (.int av), .val (.int ld), .val (.int (2 : Int32)), .val (.int (128 : Int32)), .val (.int (191 : Int32)), s10, s11] [(.int (191 : Int32))])
                    refine hst (fun t₀ k₀ => XS.istore XI.here hx rfl (hb hby d3_133) rfl (l' := #[.val (.ref a), .val (.int fv), .val (.int lv), .val (.int ev), .val (.int (1 : Int32)), .val (.int av), .val (.int ld), .val (.int (2 : Int32)), .val (.int (128 : Int32)), .val (.int (191 : Int32)), s10, s11]) rfl k₀) ?_
                    show F s₁ (mkF m 135 #[.val (.ref a), .val (.int fv), .val (.int lv), .val (.int ev), .val (.int (1 : Int32)), .val (.int av), .val (.int ld), .val (.int (2 : Int32)), .val (.int (128 : Int32)), .val (.int (191 : Int32)), s10, s11] [])
                    refine hst (fun t₀ k₀ => XS.goto XI.here hx rfl (pc0 := 135) (pc' := 199) rfl (hb hby d3_135) (by decide) (by decide) k₀) ?_
                    show F s₁ (mkF m 199 #[.val (.ref a), .val (.int fv), .val (.int lv), .val (.int ev), .val (.int (1 : Int32)), .val (.int av), .val (.int ld), .val (.int (2 : Int32)), .val (.int (128 : Int32)), .val (.int (191 : Int32)), s10, s11] [])
                    simp only [own_lt32, own_eq32] at hc49 hc63 hc85 hc93 hc104 hc122
                    exact J199 _ _ _ _ (Or.inr (Or.inr (Or.inl ⟨rfl, rfl, ⟨fun q => by omega, fun q => by omega⟩, ⟨fun q => by omega, fun q => by omega⟩, by omega, by omega⟩)))
              · -- pc 93: taken
                refine hst (fun t₀ k₀ => XS.icmpYes XI.here hx rfl (pc0 := 93) (pc' := 138) rfl (hb hby d3_93) rfl (flt hc93).2.1 (by decide) (by decide) k₀) ?_
                show F s₁ (mkF m 138 #[.val (.ref a), .val (.int fv), .val (.int lv), .val (.int ev), .val (.int (1 : Int32)), .val (.int av), .val (.int ld), .val (.int (0 : Int32)), .val (.int (128 : Int32)), .val (.int (191 : Int32)), s10, s11] [])
                refine hst (fun t₀ k₀ => XS.iload XI.here hx rfl (hb hby d3_138) rfl k₀) ?_
                show F s₁ (mkF m 140 #[.val (.ref a), .val (.int fv), .val (.int lv), .val (.int ev), .val (.int (1 : Int32)), .val (.int av), .val (.int ld), .val (.int (0 : Int32)), .val (.int (128 : Int32)), .val (.int (191 : Int32)), s10, s11] [(.int ld)])
                refine hst (fun t₀ k₀ => XS.sipush XI.here hx rfl (hb hby d3_140) k₀) ?_
                show F s₁ (mkF m 143 #[.val (.ref a), .val (.int fv), .val (.int lv), .val (.int ev), .val (.int (1 : Int32)), .val (.int av), .val (.int ld), .val (.int (0 : Int32)), .val (.int (128 : Int32)), .val (.int (191 : Int32)), s10, s11] [(.int (240 : Int32)), (.int ld)])
                by_cases hc143 : ld < (240 : Int32)
                · -- pc 143: taken
                  refine hst (fun t₀ k₀ => XS.icmpYes XI.here hx rfl (pc0 := 143) (pc' := 196) rfl (hb hby d3_143) rfl (tlt hc143).1 (by decide) (by decide) k₀) ?_
                  show F s₁ (mkF m 196 #[.val (.ref a), .val (.int fv), .val (.int lv), .val (.int ev), .val (.int (1 : Int32)), .val (.int av), .val (.int ld), .val (.int (0 : Int32)), .val (.int (128 : Int32)), .val (.int (191 : Int32)), s10, s11] [])
                  refine hst (fun t₀ k₀ => XS.iconst XI.here hx rfl (hb hby d3_196) k₀) ?_
                  show F s₁ (mkF m 197 #[.val (.ref a), .val (.int fv), .val (.int lv), .val (.int ev), .val (.int (1 : Int32)), .val (.int av), .val (.int ld), .val (.int (0 : Int32)), .val (.int (128 : Int32)), .val (.int (191 : Int32)), s10, s11] [(.int (0 : Int32))])
                  refine hst (fun t₀ k₀ => XS.istore XI.here hx rfl (hb hby d3_197) rfl (l' := #[.val (.ref a), .val (.int fv), .val (.int lv), .val (.int ev), .val (.int (0 : Int32)), .val (.int av), .val (.int ld), .val (.int (0 : Int32)), .val (.int (128 : Int32)), .val (.int (191 : Int32)), s10, s11]) rfl k₀) ?_
                  show F s₁ (mkF m 199 #[.val (.ref a), .val (.int fv), .val (.int lv), .val (.int ev), .val (.int (0 : Int32)), .val (.int av), .val (.int ld), .val (.int (0 : Int32)), .val (.int (128 : Int32)), .val (.int (191 : Int32)), s10, s11] [])
                  simp only [own_lt32, own_eq32] at hc49 hc63 hc85 hc93 hc143
                  exact J199 _ _ _ _ (Or.inr (Or.inr (Or.inr (Or.inr ⟨rfl, rfl, by decide, by decide, by omega⟩))))
                · -- pc 143: not taken
                  refine hst (fun t₀ k₀ => XS.icmpNo XI.here hx rfl (hb hby d3_143) rfl (flt hc143).1 k₀) ?_
                  show F s₁ (mkF m 146 #[.val (.ref a), .val (.int fv), .val (.int lv), .val (.int ev), .val (.int (1 : Int32)), .val (.int av), .val (.int ld), .val (.int (0 : Int32)), .val (.int (128 : Int32)), .val (.int (191 : Int32)), s10, s11] [])
                  refine hst (fun t₀ k₀ => XS.iload XI.here hx rfl (hb hby d3_146) rfl k₀) ?_
                  show F s₁ (mkF m 148 #[.val (.ref a), .val (.int fv), .val (.int lv), .val (.int ev), .val (.int (1 : Int32)), .val (.int av), .val (.int ld), .val (.int (0 : Int32)), .val (.int (128 : Int32)), .val (.int (191 : Int32)), s10, s11] [(.int ld)])
                  refine hst (fun t₀ k₀ => XS.sipush XI.here hx rfl (hb hby d3_148) k₀) ?_
                  show F s₁ (mkF m 151 #[.val (.ref a), .val (.int fv), .val (.int lv), .val (.int ev), .val (.int (1 : Int32)), .val (.int av), .val (.int ld), .val (.int (0 : Int32)), .val (.int (128 : Int32)), .val (.int (191 : Int32)), s10, s11] [(.int (245 : Int32)), (.int ld)])
                  by_cases hc151 : ld < (245 : Int32)
                  · -- pc 151: not taken
                    refine hst (fun t₀ k₀ => XS.icmpNo XI.here hx rfl (hb hby d3_151) rfl (tlt hc151).2.1 k₀) ?_
                    show F s₁ (mkF m 154 #[.val (.ref a), .val (.int fv), .val (.int lv), .val (.int ev), .val (.int (1 : Int32)), .val (.int av), .val (.int ld), .val (.int (0 : Int32)), .val (.int (128 : Int32)), .val (.int (191 : Int32)), s10, s11] [])
                    refine hst (fun t₀ k₀ => XS.iconst XI.here hx rfl (hb hby d3_154) k₀) ?_
                    show F s₁ (mkF m 155 #[.val (.ref a), .val (.int fv), .val (.int lv), .val (.int ev), .val (.int (1 : Int32)), .val (.int av), .val (.int ld), .val (.int (0 : Int32)), .val (.int (128 : Int32)), .val (.int (191 : Int32)), s10, s11] [(.int (3 : Int32))])
                    refine hst (fun t₀ k₀ => XS.istore XI.here hx rfl (hb hby d3_155) rfl (l' := #[.val (.ref a), .val (.int fv), .val (.int lv), .val (.int ev), .val (.int (1 : Int32)), .val (.int av), .val (.int ld), .val (.int (3 : Int32)), .val (.int (128 : Int32)), .val (.int (191 : Int32)), s10, s11]) rfl k₀) ?_
                    show F s₁ (mkF m 157 #[.val (.ref a), .val (.int fv), .val (.int lv), .val (.int ev), .val (.int (1 : Int32)), .val (.int av), .val (.int ld), .val (.int (3 : Int32)), .val (.int (128 : Int32)), .val (.int (191 : Int32)), s10, s11] [])
                    refine hst (fun t₀ k₀ => XS.iload XI.here hx rfl (hb hby d3_157) rfl k₀) ?_
                    show F s₁ (mkF m 159 #[.val (.ref a), .val (.int fv), .val (.int lv), .val (.int ev), .val (.int (1 : Int32)), .val (.int av), .val (.int ld), .val (.int (3 : Int32)), .val (.int (128 : Int32)), .val (.int (191 : Int32)), s10, s11] [(.int ld)])
                    refine hst (fun t₀ k₀ => XS.sipush XI.here hx rfl (hb hby d3_159) k₀) ?_
                    show F s₁ (mkF m 162 #[.val (.ref a), .val (.int fv), .val (.int lv), .val (.int ev), .val (.int (1 : Int32)), .val (.int av), .val (.int ld), .val (.int (3 : Int32)), .val (.int (128 : Int32)), .val (.int (191 : Int32)), s10, s11] [(.int (240 : Int32)), (.int ld)])
                    by_cases hc162 : ld = (240 : Int32)
                    · -- pc 162: not taken
                      refine hst (fun t₀ k₀ => XS.icmpNo XI.here hx rfl (hb hby d3_162) rfl (teq hc162).2 k₀) ?_
                      show F s₁ (mkF m 165 #[.val (.ref a), .val (.int fv), .val (.int lv), .val (.int ev), .val (.int (1 : Int32)), .val (.int av), .val (.int ld), .val (.int (3 : Int32)), .val (.int (128 : Int32)), .val (.int (191 : Int32)), s10, s11] [])
                      refine hst (fun t₀ k₀ => XS.sipush XI.here hx rfl (hb hby d3_165) k₀) ?_
                      show F s₁ (mkF m 168 #[.val (.ref a), .val (.int fv), .val (.int lv), .val (.int ev), .val (.int (1 : Int32)), .val (.int av), .val (.int ld), .val (.int (3 : Int32)), .val (.int (128 : Int32)), .val (.int (191 : Int32)), s10, s11] [(.int (144 : Int32))])
                      refine hst (fun t₀ k₀ => XS.goto XI.here hx rfl (pc0 := 168) (pc' := 173) rfl (hb hby d3_168) (by decide) (by decide) k₀) ?_
                      show F s₁ (mkF m 173 #[.val (.ref a), .val (.int fv), .val (.int lv), .val (.int ev), .val (.int (1 : Int32)), .val (.int av), .val (.int ld), .val (.int (3 : Int32)), .val (.int (128 : Int32)), .val (.int (191 : Int32)), s10, s11] [(.int (144 : Int32))])
                      refine hst (fun t₀ k₀ => XS.istore XI.here hx rfl (hb hby d3_173) rfl (l' := #[.val (.ref a), .val (.int fv), .val (.int lv), .val (.int ev), .val (.int (1 : Int32)), .val (.int av), .val (.int ld), .val (.int (3 : Int32)), .val (.int (144 : Int32)), .val (.int (191 : Int32)), s10, s11]) rfl k₀) ?_
                      show F s₁ (mkF m 175 #[.val (.ref a), .val (.int fv), .val (.int lv), .val (.int ev), .val (.int (1 : Int32)), .val (.int av), .val (.int ld), .val (.int (3 : Int32)), .val (.int (144 : Int32)), .val (.int (191 : Int32)), s10, s11] [])
                      refine hst (fun t₀ k₀ => XS.iload XI.here hx rfl (hb hby d3_175) rfl k₀) ?_
                      show F s₁ (mkF m 177 #[.val (.ref a), .val (.int fv), .val (.int lv), .val (.int ev), .val (.int (1 : Int32)), .val (.int av), .val (.int ld), .val (.int (3 : Int32)), .val (.int (144 : Int32)), .val (.int (191 : Int32)), s10, s11] [(.int ld)])
                      refine hst (fun t₀ k₀ => XS.sipush XI.here hx rfl (hb hby d3_177) k₀) ?_
                      show F s₁ (mkF m 180 #[.val (.ref a), .val (.int fv), .val (.int lv), .val (.int ev), .val (.int (1 : Int32)), .val (.int av), .val (.int ld), .val (.int (3 : Int32)), .val (.int (144 : Int32)), .val (.int (191 : Int32)), s10, s11] [(.int (244 : Int32)), (.int ld)])
                      by_cases hc180 : ld = (244 : Int32)
                      · -- pc 180: not taken
                        refine hst (fun t₀ k₀ => XS.icmpNo XI.here hx rfl (hb hby d3_180) rfl (teq hc180).2 k₀) ?_
                        show F s₁ (mkF m 183 #[.val (.ref a), .val (.int fv), .val (.int lv), .val (.int ev), .val (.int (1 : Int32)), .val (.int av), .val (.int ld), .val (.int (3 : Int32)), .val (.int (144 : Int32)), .val (.int (191 : Int32)), s10, s11] [])
                        refine hst (fun t₀ k₀ => XS.sipush XI.here hx rfl (hb hby d3_183) k₀) ?_
                        show F s₁ (mkF m 186 #[.val (.ref a), .val (.int fv), .val (.int lv), .val (.int ev), .val (.int (1 : Int32)), .val (.int av), .val (.int ld), .val (.int (3 : Int32)), .val (.int (144 : Int32)), .val (.int (191 : Int32)), s10, s11] [(.int (143 : Int32))])
                        refine hst (fun t₀ k₀ => XS.goto XI.here hx rfl (pc0 := 186) (pc' := 191) rfl (hb hby d3_186) (by decide) (by decide) k₀) ?_
                        show F s₁ (mkF m 191 #[.val (.ref a), .val (.int fv), .val (.int lv), .val (.int ev), .val (.int (1 : Int32)), .val (.int av), .val (.int ld), .val (.int (3 : Int32)), .val (.int (144 : Int32)), .val (.int (191 : Int32)), s10, s11] [(.int (143 : Int32))])
                        refine hst (fun t₀ k₀ => XS.istore XI.here hx rfl (hb hby d3_191) rfl (l' := #[.val (.ref a), .val (.int fv), .val (.int lv), .val (.int ev), .val (.int (1 : Int32)), .val (.int av), .val (.int ld), .val (.int (3 : Int32)), .val (.int (144 : Int32)), .val (.int (143 : Int32)), s10, s11]) rfl k₀) ?_
                        show F s₁ (mkF m 193 #[.val (.ref a), .val (.int fv), .val (.int lv), .val (.int ev), .val (.int (1 : Int32)), .val (.int av), .val (.int ld), .val (.int (3 : Int32)), .val (.int (144 : Int32)), .val (.int (143 : Int32)), s10, s11] [])
                        refine hst (fun t₀ k₀ => XS.goto XI.here hx rfl (pc0 := 193) (pc' := 199) rfl (hb hby d3_193) (by decide) (by decide) k₀) ?_
                        show F s₁ (mkF m 199 #[.val (.ref a), .val (.int fv), .val (.int lv), .val (.int ev), .val (.int (1 : Int32)), .val (.int av), .val (.int ld), .val (.int (3 : Int32)), .val (.int (144 : Int32)), .val (.int (143 : Int32)), s10, s11] [])
                        simp only [own_lt32, own_eq32] at hc49 hc63 hc85 hc93 hc143 hc151 hc162 hc180
                        exact J199 _ _ _ _ (Or.inr (Or.inr (Or.inr (Or.inl ⟨rfl, rfl, ⟨fun q => by omega, fun q => by omega⟩, ⟨fun q => by omega, fun q => by omega⟩, by omega, by omega⟩))))
                      · -- pc 180: taken
                        refine hst (fun t₀ k₀ => XS.icmpYes XI.here hx rfl (pc0 := 180) (pc' := 189) rfl (hb hby d3_180) rfl (feq hc180).2 (by decide) (by decide) k₀) ?_
                        show F s₁ (mkF m 189 #[.val (.ref a), .val (.int fv), .val (.int lv), .val (.int ev), .val (.int (1 : Int32)), .val (.int av), .val (.int ld), .val (.int (3 : Int32)), .val (.int (144 : Int32)), .val (.int (191 : Int32)), s10, s11] [])
                        refine hst (fun t₀ k₀ => XS.iload XI.here hx rfl (hb hby d3_189) rfl k₀) ?_
                        show F s₁ (mkF m 191 #[.val (.ref a), .val (.int fv), .val (.int lv), .val (.int ev), .val (.int (1 : Int32)), .val (.int av), .val (.int ld), .val (.int (3 : Int32)), .val (.int (144 : Int32)), .val (.int (191 : Int32)), s10, s11] [(.int (191 : Int32))])
                        refine hst (fun t₀ k₀ => XS.istore XI.here hx rfl (hb hby d3_191) rfl (l' := #[.val (.ref a), .val (.int fv), .val (.int lv), .val (.int ev), .val (.int (1 : Int32)), .val (.int av), .val (.int ld), .val (.int (3 : Int32)), .val (.int (144 : Int32)), .val (.int (191 : Int32)), s10, s11]) rfl k₀) ?_
                        show F s₁ (mkF m 193 #[.val (.ref a), .val (.int fv), .val (.int lv), .val (.int ev), .val (.int (1 : Int32)), .val (.int av), .val (.int ld), .val (.int (3 : Int32)), .val (.int (144 : Int32)), .val (.int (191 : Int32)), s10, s11] [])
                        refine hst (fun t₀ k₀ => XS.goto XI.here hx rfl (pc0 := 193) (pc' := 199) rfl (hb hby d3_193) (by decide) (by decide) k₀) ?_
                        show F s₁ (mkF m 199 #[.val (.ref a), .val (.int fv), .val (.int lv), .val (.int ev), .val (.int (1 : Int32)), .val (.int av), .val (.int ld), .val (.int (3 : Int32)), .val (.int (144 : Int32)), .val (.int (191 : Int32)), s10, s11] [])
                        simp only [own_lt32, own_eq32] at hc49 hc63 hc85 hc93 hc143 hc151 hc162 hc180
                        exact J199 _ _ _ _ (Or.inr (Or.inr (Or.inr (Or.inl ⟨rfl, rfl, ⟨fun q => by omega, fun q => by omega⟩, ⟨fun q => by omega, fun q => by omega⟩, by omega, by omega⟩))))
                    · -- pc 162: taken
                      refine hst (fun t₀ k₀ => XS.icmpYes XI.here hx rfl (pc0 := 162) (pc' := 171) rfl (hb hby d3_162) rfl (feq hc162).2 (by decide) (by decide) k₀) ?_
                      show F s₁ (mkF m 171 #[.val (.ref a), .val (.int fv), .val (.int lv), .val (.int ev), .val (.int (1 : Int32)), .val (.int av), .val (.int ld), .val (.int (3 : Int32)), .val (.int (128 : Int32)), .val (.int (191 : Int32)), s10, s11] [])
                      refine hst (fun t₀ k₀ => XS.iload XI.here hx rfl (hb hby d3_171) rfl k₀) ?_
                      show F s₁ (mkF m 173 #[.val (.ref a), .val (.int fv), .val (.int lv), .val (.int ev), .val (.int (1 : Int32)), .val (.int av), .val (.int ld), .val (.int (3 : Int32)), .val (.int (128 : Int32)), .val (.int (191 : Int32)), s10, s11] [(.int (128 : Int32))])
                      refine hst (fun t₀ k₀ => XS.istore XI.here hx rfl (hb hby d3_173) rfl (l' := #[.val (.ref a), .val (.int fv), .val (.int lv), .val (.int ev), .val (.int (1 : Int32)), .val (.int av), .val (.int ld), .val (.int (3 : Int32)), .val (.int (128 : Int32)), .val (.int (191 : Int32)), s10, s11]) rfl k₀) ?_
                      show F s₁ (mkF m 175 #[.val (.ref a), .val (.int fv), .val (.int lv), .val (.int ev), .val (.int (1 : Int32)), .val (.int av), .val (.int ld), .val (.int (3 : Int32)), .val (.int (128 : Int32)), .val (.int (191 : Int32)), s10, s11] [])
                      refine hst (fun t₀ k₀ => XS.iload XI.here hx rfl (hb hby d3_175) rfl k₀) ?_
                      show F s₁ (mkF m 177 #[.val (.ref a), .val (.int fv), .val (.int lv), .val (.int ev), .val (.int (1 : Int32)), .val (.int av), .val (.int ld), .val (.int (3 : Int32)), .val (.int (128 : Int32)), .val (.int (191 : Int32)), s10, s11] [(.int ld)])
                      refine hst (fun t₀ k₀ => XS.sipush XI.here hx rfl (hb hby d3_177) k₀) ?_
                      show F s₁ (mkF m 180 #[.val (.ref a), .val (.int fv), .val (.int lv), .val (.int ev), .val (.int (1 : Int32)), .val (.int av), .val (.int ld), .val (.int (3 : Int32)), .val (.int (128 : Int32)), .val (.int (191 : Int32)), s10, s11] [(.int (244 : Int32)), (.int ld)])
                      by_cases hc180 : ld = (244 : Int32)
                      · -- pc 180: not taken
                        refine hst (fun t₀ k₀ => XS.icmpNo XI.here hx rfl (hb hby d3_180) rfl (teq hc180).2 k₀) ?_
                        show F s₁ (mkF m 183 #[.val (.ref a), .val (.int fv), .val (.int lv), .val (.int ev), .val (.int (1 : Int32)), .val (.int av), .val (.int ld), .val (.int (3 : Int32)), .val (.int (128 : Int32)), .val (.int (191 : Int32)), s10, s11] [])
                        refine hst (fun t₀ k₀ => XS.sipush XI.here hx rfl (hb hby d3_183) k₀) ?_
                        show F s₁ (mkF m 186 #[.val (.ref a), .val (.int fv), .val (.int lv), .val (.int ev), .val (.int (1 : Int32)), .val (.int av), .val (.int ld), .val (.int (3 : Int32)), .val (.int (128 : Int32)), .val (.int (191 : Int32)), s10, s11] [(.int (143 : Int32))])
                        refine hst (fun t₀ k₀ => XS.goto XI.here hx rfl (pc0 := 186) (pc' := 191) rfl (hb hby d3_186) (by decide) (by decide) k₀) ?_
                        show F s₁ (mkF m 191 #[.val (.ref a), .val (.int fv), .val (.int lv), .val (.int ev), .val (.int (1 : Int32)), .val (.int av), .val (.int ld), .val (.int (3 : Int32)), .val (.int (128 : Int32)), .val (.int (191 : Int32)), s10, s11] [(.int (143 : Int32))])
                        refine hst (fun t₀ k₀ => XS.istore XI.here hx rfl (hb hby d3_191) rfl (l' := #[.val (.ref a), .val (.int fv), .val (.int lv), .val (.int ev), .val (.int (1 : Int32)), .val (.int av), .val (.int ld), .val (.int (3 : Int32)), .val (.int (128 : Int32)), .val (.int (143 : Int32)), s10, s11]) rfl k₀) ?_
                        show F s₁ (mkF m 193 #[.val (.ref a), .val (.int fv), .val (.int lv), .val (.int ev), .val (.int (1 : Int32)), .val (.int av), .val (.int ld), .val (.int (3 : Int32)), .val (.int (128 : Int32)), .val (.int (143 : Int32)), s10, s11] [])
                        refine hst (fun t₀ k₀ => XS.goto XI.here hx rfl (pc0 := 193) (pc' := 199) rfl (hb hby d3_193) (by decide) (by decide) k₀) ?_
                        show F s₁ (mkF m 199 #[.val (.ref a), .val (.int fv), .val (.int lv), .val (.int ev), .val (.int (1 : Int32)), .val (.int av), .val (.int ld), .val (.int (3 : Int32)), .val (.int (128 : Int32)), .val (.int (143 : Int32)), s10, s11] [])
                        simp only [own_lt32, own_eq32] at hc49 hc63 hc85 hc93 hc143 hc151 hc162 hc180
                        exact J199 _ _ _ _ (Or.inr (Or.inr (Or.inr (Or.inl ⟨rfl, rfl, ⟨fun q => by omega, fun q => by omega⟩, ⟨fun q => by omega, fun q => by omega⟩, by omega, by omega⟩))))
                      · -- pc 180: taken
                        refine hst (fun t₀ k₀ => XS.icmpYes XI.here hx rfl (pc0 := 180) (pc' := 189) rfl (hb hby d3_180) rfl (feq hc180).2 (by decide) (by decide) k₀) ?_
                        show F s₁ (mkF m 189 #[.val (.ref a), .val (.int fv), .val (.int lv), .val (.int ev), .val (.int (1 : Int32)), .val (.int av), .val (.int ld), .val (.int (3 : Int32)), .val (.int (128 : Int32)), .val (.int (191 : Int32)), s10, s11] [])
                        refine hst (fun t₀ k₀ => XS.iload XI.here hx rfl (hb hby d3_189) rfl k₀) ?_
                        show F s₁ (mkF m 191 #[.val (.ref a), .val (.int fv), .val (.int lv), .val (.int ev), .val (.int (1 : Int32)), .val (.int av), .val (.int ld), .val (.int (3 : Int32)), .val (.int (128 : Int32)), .val (.int (191 : Int32)), s10, s11] [(.int (191 : Int32))])
                        refine hst (fun t₀ k₀ => XS.istore XI.here hx rfl (hb hby d3_191) rfl (l' := #[.val (.ref a), .val (.int fv), .val (.int lv), .val (.int ev), .val (.int (1 : Int32)), .val (.int av), .val (.int ld), .val (.int (3 : Int32)), .val (.int (128 : Int32)), .val (.int (191 : Int32)), s10, s11]) rfl k₀) ?_
                        show F s₁ (mkF m 193 #[.val (.ref a), .val (.int fv), .val (.int lv), .val (.int ev), .val (.int (1 : Int32)), .val (.int av), .val (.int ld), .val (.int (3 : Int32)), .val (.int (128 : Int32)), .val (.int (191 : Int32)), s10, s11] [])
                        refine hst (fun t₀ k₀ => XS.goto XI.here hx rfl (pc0 := 193) (pc' := 199) rfl (hb hby d3_193) (by decide) (by decide) k₀) ?_
                        show F s₁ (mkF m 199 #[.val (.ref a), .val (.int fv), .val (.int lv), .val (.int ev), .val (.int (1 : Int32)), .val (.int av), .val (.int ld), .val (.int (3 : Int32)), .val (.int (128 : Int32)), .val (.int (191 : Int32)), s10, s11] [])
                        simp only [own_lt32, own_eq32] at hc49 hc63 hc85 hc93 hc143 hc151 hc162 hc180
                        exact J199 _ _ _ _ (Or.inr (Or.inr (Or.inr (Or.inl ⟨rfl, rfl, ⟨fun q => by omega, fun q => by omega⟩, ⟨fun q => by omega, fun q => by omega⟩, by omega, by omega⟩))))
                  · -- pc 151: taken
                    refine hst (fun t₀ k₀ => XS.icmpYes XI.here hx rfl (pc0 := 151) (pc' := 196) rfl (hb hby d3_151) rfl (flt hc151).2.1 (by decide) (by decide) k₀) ?_
                    show F s₁ (mkF m 196 #[.val (.ref a), .val (.int fv), .val (.int lv), .val (.int ev), .val (.int (1 : Int32)), .val (.int av), .val (.int ld), .val (.int (0 : Int32)), .val (.int (128 : Int32)), .val (.int (191 : Int32)), s10, s11] [])
                    refine hst (fun t₀ k₀ => XS.iconst XI.here hx rfl (hb hby d3_196) k₀) ?_
                    show F s₁ (mkF m 197 #[.val (.ref a), .val (.int fv), .val (.int lv), .val (.int ev), .val (.int (1 : Int32)), .val (.int av), .val (.int ld), .val (.int (0 : Int32)), .val (.int (128 : Int32)), .val (.int (191 : Int32)), s10, s11] [(.int (0 : Int32))])
                    refine hst (fun t₀ k₀ => XS.istore XI.here hx rfl (hb hby d3_197) rfl (l' := #[.val (.ref a), .val (.int fv), .val (.int lv), .val (.int ev), .val (.int (0 : Int32)), .val (.int av), .val (.int ld), .val (.int (0 : Int32)), .val (.int (128 : Int32)), .val (.int (191 : Int32)), s10, s11]) rfl k₀) ?_
                    show F s₁ (mkF m 199 #[.val (.ref a), .val (.int fv), .val (.int lv), .val (.int ev), .val (.int (0 : Int32)), .val (.int av), .val (.int ld), .val (.int (0 : Int32)), .val (.int (128 : Int32)), .val (.int (191 : Int32)), s10, s11] [])
                    simp only [own_lt32, own_eq32] at hc49 hc63 hc85 hc93 hc143 hc151
                    exact J199 _ _ _ _ (Or.inr (Or.inr (Or.inr (Or.inr ⟨rfl, rfl, by decide, by decide, by omega⟩))))
          · -- pc 63: not taken
            refine hst (fun t₀ k₀ => XS.icmpNo XI.here hx rfl (hb hby d3_63) rfl (flt hc63).1 k₀) ?_
            show F s₁ (mkF m 66 #[.val (.ref a), .val (.int fv), .val (.int lv), .val (.int ev), .val (.int (1 : Int32)), .val (.int av), .val (.int ld), .val (.int (0 : Int32)), .val (.int (128 : Int32)), .val (.int (191 : Int32)), s10, s11] [])
            refine hst (fun t₀ k₀ => XS.iload XI.here hx rfl (hb hby d3_66) rfl k₀) ?_
            show F s₁ (mkF m 68 #[.val (.ref a), .val (.int fv), .val (.int lv), .val (.int ev), .val (.int (1 : Int32)), .val (.int av), .val (.int ld), .val (.int (0 : Int32)), .val (.int (128 : Int32)), .val (.int (191 : Int32)), s10, s11] [(.int ld)])
            refine hst (fun t₀ k₀ => XS.sipush XI.here hx rfl (hb hby d3_68) k₀) ?_
            show F s₁ (mkF m 71 #[.val (.ref a), .val (.int fv), .val (.int lv), .val (.int ev), .val (.int (1 : Int32)), .val (.int av), .val (.int ld), .val (.int (0 : Int32)), .val (.int (128 : Int32)), .val (.int (191 : Int32)), s10, s11] [(.int (224 : Int32)), (.int ld)])
            by_cases hc71 : ld < (224 : Int32)
            · -- pc 71: not taken
              refine hst (fun t₀ k₀ => XS.icmpNo XI.here hx rfl (hb hby d3_71) rfl (tlt hc71).2.1 k₀) ?_
              show F s₁ (mkF m 74 #[.val (.ref a), .val (.int fv), .val (.int lv), .val (.int ev), .val (.int (1 : Int32)), .val (.int av), .val (.int ld), .val (.int (0 : Int32)), .val (.int (128 : Int32)), .val (.int (191 : Int32)), s10, s11] [])
              refine hst (fun t₀ k₀ => XS.iconst XI.here hx rfl (hb hby d3_74) k₀) ?_
              show F s₁ (mkF m 75 #[.val (.ref a), .val (.int fv), .val (.int lv), .val (.int ev), .val (.int (1 : Int32)), .val (.int av), .val (.int ld), .val (.int (0 : Int32)), .val (.int (128 : Int32)), .val (.int (191 : Int32)), s10, s11] [(.int (1 : Int32))])
              refine hst (fun t₀ k₀ => XS.istore XI.here hx rfl (hb hby d3_75) rfl (l' := #[.val (.ref a), .val (.int fv), .val (.int lv), .val (.int ev), .val (.int (1 : Int32)), .val (.int av), .val (.int ld), .val (.int (1 : Int32)), .val (.int (128 : Int32)), .val (.int (191 : Int32)), s10, s11]) rfl k₀) ?_
              show F s₁ (mkF m 77 #[.val (.ref a), .val (.int fv), .val (.int lv), .val (.int ev), .val (.int (1 : Int32)), .val (.int av), .val (.int ld), .val (.int (1 : Int32)), .val (.int (128 : Int32)), .val (.int (191 : Int32)), s10, s11] [])
              refine hst (fun t₀ k₀ => XS.goto XI.here hx rfl (pc0 := 77) (pc' := 199) rfl (hb hby d3_77) (by decide) (by decide) k₀) ?_
              show F s₁ (mkF m 199 #[.val (.ref a), .val (.int fv), .val (.int lv), .val (.int ev), .val (.int (1 : Int32)), .val (.int av), .val (.int ld), .val (.int (1 : Int32)), .val (.int (128 : Int32)), .val (.int (191 : Int32)), s10, s11] [])
              simp only [own_lt32, own_eq32] at hc49 hc63 hc71
              exact J199 _ _ _ _ (Or.inr (Or.inl ⟨rfl, rfl, by decide, by decide, by omega, by omega⟩))
            · -- pc 71: taken
              refine hst (fun t₀ k₀ => XS.icmpYes XI.here hx rfl (pc0 := 71) (pc' := 80) rfl (hb hby d3_71) rfl (flt hc71).2.1 (by decide) (by decide) k₀) ?_
              show F s₁ (mkF m 80 #[.val (.ref a), .val (.int fv), .val (.int lv), .val (.int ev), .val (.int (1 : Int32)), .val (.int av), .val (.int ld), .val (.int (0 : Int32)), .val (.int (128 : Int32)), .val (.int (191 : Int32)), s10, s11] [])
              refine hst (fun t₀ k₀ => XS.iload XI.here hx rfl (hb hby d3_80) rfl k₀) ?_
              show F s₁ (mkF m 82 #[.val (.ref a), .val (.int fv), .val (.int lv), .val (.int ev), .val (.int (1 : Int32)), .val (.int av), .val (.int ld), .val (.int (0 : Int32)), .val (.int (128 : Int32)), .val (.int (191 : Int32)), s10, s11] [(.int ld)])
              refine hst (fun t₀ k₀ => XS.sipush XI.here hx rfl (hb hby d3_82) k₀) ?_
              show F s₁ (mkF m 85 #[.val (.ref a), .val (.int fv), .val (.int lv), .val (.int ev), .val (.int (1 : Int32)), .val (.int av), .val (.int ld), .val (.int (0 : Int32)), .val (.int (128 : Int32)), .val (.int (191 : Int32)), s10, s11] [(.int (224 : Int32)), (.int ld)])
              by_cases hc85 : ld < (224 : Int32)
              · -- pc 85: taken
                refine hst (fun t₀ k₀ => XS.icmpYes XI.here hx rfl (pc0 := 85) (pc' := 138) rfl (hb hby d3_85) rfl (tlt hc85).1 (by decide) (by decide) k₀) ?_
                show F s₁ (mkF m 138 #[.val (.ref a), .val (.int fv), .val (.int lv), .val (.int ev), .val (.int (1 : Int32)), .val (.int av), .val (.int ld), .val (.int (0 : Int32)), .val (.int (128 : Int32)), .val (.int (191 : Int32)), s10, s11] [])
                refine hst (fun t₀ k₀ => XS.iload XI.here hx rfl (hb hby d3_138) rfl k₀) ?_
                show F s₁ (mkF m 140 #[.val (.ref a), .val (.int fv), .val (.int lv), .val (.int ev), .val (.int (1 : Int32)), .val (.int av), .val (.int ld), .val (.int (0 : Int32)), .val (.int (128 : Int32)), .val (.int (191 : Int32)), s10, s11] [(.int ld)])
                refine hst (fun t₀ k₀ => XS.sipush XI.here hx rfl (hb hby d3_140) k₀) ?_
                show F s₁ (mkF m 143 #[.val (.ref a), .val (.int fv), .val (.int lv), .val (.int ev), .val (.int (1 : Int32)), .val (.int av), .val (.int ld), .val (.int (0 : Int32)), .val (.int (128 : Int32)), .val (.int (191 : Int32)), s10, s11] [(.int (240 : Int32)), (.int ld)])
                by_cases hc143 : ld < (240 : Int32)
                · -- pc 143: taken
                  refine hst (fun t₀ k₀ => XS.icmpYes XI.here hx rfl (pc0 := 143) (pc' := 196) rfl (hb hby d3_143) rfl (tlt hc143).1 (by decide) (by decide) k₀) ?_
                  show F s₁ (mkF m 196 #[.val (.ref a), .val (.int fv), .val (.int lv), .val (.int ev), .val (.int (1 : Int32)), .val (.int av), .val (.int ld), .val (.int (0 : Int32)), .val (.int (128 : Int32)), .val (.int (191 : Int32)), s10, s11] [])
                  refine hst (fun t₀ k₀ => XS.iconst XI.here hx rfl (hb hby d3_196) k₀) ?_
                  show F s₁ (mkF m 197 #[.val (.ref a), .val (.int fv), .val (.int lv), .val (.int ev), .val (.int (1 : Int32)), .val (.int av), .val (.int ld), .val (.int (0 : Int32)), .val (.int (128 : Int32)), .val (.int (191 : Int32)), s10, s11] [(.int (0 : Int32))])
                  refine hst (fun t₀ k₀ => XS.istore XI.here hx rfl (hb hby d3_197) rfl (l' := #[.val (.ref a), .val (.int fv), .val (.int lv), .val (.int ev), .val (.int (0 : Int32)), .val (.int av), .val (.int ld), .val (.int (0 : Int32)), .val (.int (128 : Int32)), .val (.int (191 : Int32)), s10, s11]) rfl k₀) ?_
                  show F s₁ (mkF m 199 #[.val (.ref a), .val (.int fv), .val (.int lv), .val (.int ev), .val (.int (0 : Int32)), .val (.int av), .val (.int ld), .val (.int (0 : Int32)), .val (.int (128 : Int32)), .val (.int (191 : Int32)), s10, s11] [])
                  simp only [own_lt32, own_eq32] at hc49 hc63 hc71 hc85 hc143
                  exact J199 _ _ _ _ (Or.inr (Or.inr (Or.inr (Or.inr ⟨rfl, rfl, by decide, by decide, by omega⟩))))
                · -- pc 143: not taken
                  refine hst (fun t₀ k₀ => XS.icmpNo XI.here hx rfl (hb hby d3_143) rfl (flt hc143).1 k₀) ?_
                  show F s₁ (mkF m 146 #[.val (.ref a), .val (.int fv), .val (.int lv), .val (.int ev), .val (.int (1 : Int32)), .val (.int av), .val (.int ld), .val (.int (0 : Int32)), .val (.int (128 : Int32)), .val (.int (191 : Int32)), s10, s11] [])
                  refine hst (fun t₀ k₀ => XS.iload XI.here hx rfl (hb hby d3_146) rfl k₀) ?_
                  show F s₁ (mkF m 148 #[.val (.ref a), .val (.int fv), .val (.int lv), .val (.int ev), .val (.int (1 : Int32)), .val (.int av), .val (.int ld), .val (.int (0 : Int32)), .val (.int (128 : Int32)), .val (.int (191 : Int32)), s10, s11] [(.int ld)])
                  refine hst (fun t₀ k₀ => XS.sipush XI.here hx rfl (hb hby d3_148) k₀) ?_
                  show F s₁ (mkF m 151 #[.val (.ref a), .val (.int fv), .val (.int lv), .val (.int ev), .val (.int (1 : Int32)), .val (.int av), .val (.int ld), .val (.int (0 : Int32)), .val (.int (128 : Int32)), .val (.int (191 : Int32)), s10, s11] [(.int (245 : Int32)), (.int ld)])
                  by_cases hc151 : ld < (245 : Int32)
                  · -- pc 151: not taken
                    refine hst (fun t₀ k₀ => XS.icmpNo XI.here hx rfl (hb hby d3_151) rfl (tlt hc151).2.1 k₀) ?_
                    show F s₁ (mkF m 154 #[.val (.ref a), .val (.int fv), .val (.int lv), .val (.int ev), .val (.int (1 : Int32)), .val (.int av), .val (.int ld), .val (.int (0 : Int32)), .val (.int (128 : Int32)), .val (.int (191 : Int32)), s10, s11] [])
                    refine hst (fun t₀ k₀ => XS.iconst XI.here hx rfl (hb hby d3_154) k₀) ?_
                    show F s₁ (mkF m 155 #[.val (.ref a), .val (.int fv), .val (.int lv), .val (.int ev), .val (.int (1 : Int32)), .val (.int av), .val (.int ld), .val (.int (0 : Int32)), .val (.int (128 : Int32)), .val (.int (191 : Int32)), s10, s11] [(.int (3 : Int32))])
                    refine hst (fun t₀ k₀ => XS.istore XI.here hx rfl (hb hby d3_155) rfl (l' := #[.val (.ref a), .val (.int fv), .val (.int lv), .val (.int ev), .val (.int (1 : Int32)), .val (.int av), .val (.int ld), .val (.int (3 : Int32)), .val (.int (128 : Int32)), .val (.int (191 : Int32)), s10, s11]) rfl k₀) ?_
                    show F s₁ (mkF m 157 #[.val (.ref a), .val (.int fv), .val (.int lv), .val (.int ev), .val (.int (1 : Int32)), .val (.int av), .val (.int ld), .val (.int (3 : Int32)), .val (.int (128 : Int32)), .val (.int (191 : Int32)), s10, s11] [])
                    refine hst (fun t₀ k₀ => XS.iload XI.here hx rfl (hb hby d3_157) rfl k₀) ?_
                    show F s₁ (mkF m 159 #[.val (.ref a), .val (.int fv), .val (.int lv), .val (.int ev), .val (.int (1 : Int32)), .val (.int av), .val (.int ld), .val (.int (3 : Int32)), .val (.int (128 : Int32)), .val (.int (191 : Int32)), s10, s11] [(.int ld)])
                    refine hst (fun t₀ k₀ => XS.sipush XI.here hx rfl (hb hby d3_159) k₀) ?_
                    show F s₁ (mkF m 162 #[.val (.ref a), .val (.int fv), .val (.int lv), .val (.int ev), .val (.int (1 : Int32)), .val (.int av), .val (.int ld), .val (.int (3 : Int32)), .val (.int (128 : Int32)), .val (.int (191 : Int32)), s10, s11] [(.int (240 : Int32)), (.int ld)])
                    by_cases hc162 : ld = (240 : Int32)
                    · -- pc 162: not taken
                      refine hst (fun t₀ k₀ => XS.icmpNo XI.here hx rfl (hb hby d3_162) rfl (teq hc162).2 k₀) ?_
                      show F s₁ (mkF m 165 #[.val (.ref a), .val (.int fv), .val (.int lv), .val (.int ev), .val (.int (1 : Int32)), .val (.int av), .val (.int ld), .val (.int (3 : Int32)), .val (.int (128 : Int32)), .val (.int (191 : Int32)), s10, s11] [])
                      refine hst (fun t₀ k₀ => XS.sipush XI.here hx rfl (hb hby d3_165) k₀) ?_
                      show F s₁ (mkF m 168 #[.val (.ref a), .val (.int fv), .val (.int lv), .val (.int ev), .val (.int (1 : Int32)), .val (.int av), .val (.int ld), .val (.int (3 : Int32)), .val (.int (128 : Int32)), .val (.int (191 : Int32)), s10, s11] [(.int (144 : Int32))])
                      refine hst (fun t₀ k₀ => XS.goto XI.here hx rfl (pc0 := 168) (pc' := 173) rfl (hb hby d3_168) (by decide) (by decide) k₀) ?_
                      show F s₁ (mkF m 173 #[.val (.ref a), .val (.int fv), .val (.int lv), .val (.int ev), .val (.int (1 : Int32)), .val (.int av), .val (.int ld), .val (.int (3 : Int32)), .val (.int (128 : Int32)), .val (.int (191 : Int32)), s10, s11] [(.int (144 : Int32))])
                      refine hst (fun t₀ k₀ => XS.istore XI.here hx rfl (hb hby d3_173) rfl (l' := #[.val (.ref a), .val (.int fv), .val (.int lv), .val (.int ev), .val (.int (1 : Int32)), .val (.int av), .val (.int ld), .val (.int (3 : Int32)), .val (.int (144 : Int32)), .val (.int (191 : Int32)), s10, s11]) rfl k₀) ?_
                      show F s₁ (mkF m 175 #[.val (.ref a), .val (.int fv), .val (.int lv), .val (.int ev), .val (.int (1 : Int32)), .val (.int av), .val (.int ld), .val (.int (3 : Int32)), .val (.int (144 : Int32)), .val (.int (191 : Int32)), s10, s11] [])
                      refine hst (fun t₀ k₀ => XS.iload XI.here hx rfl (hb hby d3_175) rfl k₀) ?_
                      show F s₁ (mkF m 177 #[.val (.ref a), .val (.int fv), .val (.int lv), .val (.int ev), .val (.int (1 : Int32)), .val (.int av), .val (.int ld), .val (.int (3 : Int32)), .val (.int (144 : Int32)), .val (.int (191 : Int32)), s10, s11] [(.int ld)])
                      refine hst (fun t₀ k₀ => XS.sipush XI.here hx rfl (hb hby d3_177) k₀) ?_
                      show F s₁ (mkF m 180 #[.val (.ref a), .val (.int fv), .val (.int lv), .val (.int ev), .val (.int (1 : Int32)), .val (.int av), .val (.int ld), .val (.int (3 : Int32)), .val (.int (144 : Int32)), .val (.int (191 : Int32)), s10, s11] [(.int (244 : Int32)), (.int ld)])
                      by_cases hc180 : ld = (244 : Int32)
                      · -- pc 180: not taken
                        refine hst (fun t₀ k₀ => XS.icmpNo XI.here hx rfl (hb hby d3_180) rfl (teq hc180).2 k₀) ?_
                        show F s₁ (mkF m 183 #[.val (.ref a), .val (.int fv), .val (.int lv), .val (.int ev), .val (.int (1 : Int32)), .val (.int av), .val (.int ld), .val (.int (3 : Int32)), .val (.int (144 : Int32)), .val (.int (191 : Int32)), s10, s11] [])
                        refine hst (fun t₀ k₀ => XS.sipush XI.here hx rfl (hb hby d3_183) k₀) ?_
                        show F s₁ (mkF m 186 #[.val (.ref a), .val (.int fv), .val (.int lv), .val (.int ev), .val (.int (1 : Int32)), .val (.int av), .val (.int ld), .val (.int (3 : Int32)), .val (.int (144 : Int32)), .val (.int (191 : Int32)), s10, s11] [(.int (143 : Int32))])
                        refine hst (fun t₀ k₀ => XS.goto XI.here hx rfl (pc0 := 186) (pc' := 191) rfl (hb hby d3_186) (by decide) (by decide) k₀) ?_
                        show F s₁ (mkF m 191 #[.val (.ref a), .val (.int fv), .val (.int lv), .val (.int ev), .val (.int (1 : Int32)), .val (.int av), .val (.int ld), .val (.int (3 : Int32)), .val (.int (144 : Int32)), .val (.int (191 : Int32)), s10, s11] [(.int (143 : Int32))])
                        refine hst (fun t₀ k₀ => XS.istore XI.here hx rfl (hb hby d3_191) rfl (l' := #[.val (.ref a), .val (.int fv), .val (.int lv), .val (.int ev), .val (.int (1 : Int32)), .val (.int av), .val (.int ld), .val (.int (3 : Int32)), .val (.int (144 : Int32)), .val (.int (143 : Int32)), s10, s11]) rfl k₀) ?_
                        show F s₁ (mkF m 193 #[.val (.ref a), .val (.int fv), .val (.int lv), .val (.int ev), .val (.int (1 : Int32)), .val (.int av), .val (.int ld), .val (.int (3 : Int32)), .val (.int (144 : Int32)), .val (.int (143 : Int32)), s10, s11] [])
                        refine hst (fun t₀ k₀ => XS.goto XI.here hx rfl (pc0 := 193) (pc' := 199) rfl (hb hby d3_193) (by decide) (by decide) k₀) ?_
                        show F s₁ (mkF m 199 #[.val (.ref a), .val (.int fv), .val (.int lv), .val (.int ev), .val (.int (1 : Int32)), .val (.int av), .val (.int ld), .val (.int (3 : Int32)), .val (.int (144 : Int32)), .val (.int (143 : Int32)), s10, s11] [])
                        simp only [own_lt32, own_eq32] at hc49 hc63 hc71 hc85 hc143 hc151 hc162 hc180
                        exact J199 _ _ _ _ (Or.inr (Or.inr (Or.inr (Or.inl ⟨rfl, rfl, ⟨fun q => by omega, fun q => by omega⟩, ⟨fun q => by omega, fun q => by omega⟩, by omega, by omega⟩))))
                      · -- pc 180: taken
                        refine hst (fun t₀ k₀ => XS.icmpYes XI.here hx rfl (pc0 := 180) (pc' := 189) rfl (hb hby d3_180) rfl (feq hc180).2 (by decide) (by decide) k₀) ?_
                        show F s₁ (mkF m 189 #[.val (.ref a), .val (.int fv), .val (.int lv), .val (.int ev), .val (.int (1 : Int32)), .val (.int av), .val (.int ld), .val (.int (3 : Int32)), .val (.int (144 : Int32)), .val (.int (191 : Int32)), s10, s11] [])
                        refine hst (fun t₀ k₀ => XS.iload XI.here hx rfl (hb hby d3_189) rfl k₀) ?_
                        show F s₁ (mkF m 191 #[.val (.ref a), .val (.int fv), .val (.int lv), .val (.int ev), .val (.int (1 : Int32)), .val (.int av), .val (.int ld), .val (.int (3 : Int32)), .val (.int (144 : Int32)), .val (.int (191 : Int32)), s10, s11] [(.int (191 : Int32))])
                        refine hst (fun t₀ k₀ => XS.istore XI.here hx rfl (hb hby d3_191) rfl (l' := #[.val (.ref a), .val (.int fv), .val (.int lv), .val (.int ev), .val (.int (1 : Int32)), .val (.int av), .val (.int ld), .val (.int (3 : Int32)), .val (.int (144 : Int32)), .val (.int (191 : Int32)), s10, s11]) rfl k₀) ?_
                        show F s₁ (mkF m 193 #[.val (.ref a), .val (.int fv), .val (.int lv), .val (.int ev), .val (.int (1 : Int32)), .val (.int av), .val (.int ld), .val (.int (3 : Int32)), .val (.int (144 : Int32)), .val (.int (191 : Int32)), s10, s11] [])
                        refine hst (fun t₀ k₀ => XS.goto XI.here hx rfl (pc0 := 193) (pc' := 199) rfl (hb hby d3_193) (by decide) (by decide) k₀) ?_
                        show F s₁ (mkF m 199 #[.val (.ref a), .val (.int fv), .val (.int lv), .val (.int ev), .val (.int (1 : Int32)), .val (.int av), .val (.int ld), .val (.int (3 : Int32)), .val (.int (144 : Int32)), .val (.int (191 : Int32)), s10, s11] [])
                        simp only [own_lt32, own_eq32] at hc49 hc63 hc71 hc85 hc143 hc151 hc162 hc180
                        exact J199 _ _ _ _ (Or.inr (Or.inr (Or.inr (Or.inl ⟨rfl, rfl, ⟨fun q => by omega, fun q => by omega⟩, ⟨fun q => by omega, fun q => by omega⟩, by omega, by omega⟩))))
                    · -- pc 162: taken
                      refine hst (fun t₀ k₀ => XS.icmpYes XI.here hx rfl (pc0 := 162) (pc' := 171) rfl (hb hby d3_162) rfl (feq hc162).2 (by decide) (by decide) k₀) ?_
                      show F s₁ (mkF m 171 #[.val (.ref a), .val (.int fv), .val (.int lv), .val (.int ev), .val (.int (1 : Int32)), .val (.int av), .val (.int ld), .val (.int (3 : Int32)), .val (.int (128 : Int32)), .val (.int (191 : Int32)), s10, s11] [])
                      refine hst (fun t₀ k₀ => XS.iload XI.here hx rfl (hb hby d3_171) rfl k₀) ?_
                      show F s₁ (mkF m 173 #[.val (.ref a), .val (.int fv), .val (.int lv), .val (.int ev), .val (.int (1 : Int32)), .val (.int av), .val (.int ld), .val (.int (3 : Int32)), .val (.int (128 : Int32)), .val (.int (191 : Int32)), s10, s11] [(.int (128 : Int32))])
                      refine hst (fun t₀ k₀ => XS.istore XI.here hx rfl (hb hby d3_173) rfl (l' := #[.val (.ref a), .val (.int fv), .val (.int lv), .val (.int ev), .val (.int (1 : Int32)), .val (.int av), .val (.int ld), .val (.int (3 : Int32)), .val (.int (128 : Int32)), .val (.int (191 : Int32)), s10, s11]) rfl k₀) ?_
                      show F s₁ (mkF m 175 #[.val (.ref a), .val (.int fv), .val (.int lv), .val (.int ev), .val (.int (1 : Int32)), .val (.int av), .val (.int ld), .val (.int (3 : Int32)), .val (.int (128 : Int32)), .val (.int (191 : Int32)), s10, s11] [])
                      refine hst (fun t₀ k₀ => XS.iload XI.here hx rfl (hb hby d3_175) rfl k₀) ?_
                      show F s₁ (mkF m 177 #[.val (.ref a), .val (.int fv), .val (.int lv), .val (.int ev), .val (.int (1 : Int32)), .val (.int av), .val (.int ld), .val (.int (3 : Int32)), .val (.int (128 : Int32)), .val (.int (191 : Int32)), s10, s11] [(.int ld)])
                      refine hst (fun t₀ k₀ => XS.sipush XI.here hx rfl (hb hby d3_177) k₀) ?_
                      show F s₁ (mkF m 180 #[.val (.ref a), .val (.int fv), .val (.int lv), .val (.int ev), .val (.int (1 : Int32)), .val (.int av), .val (.int ld), .val (.int (3 : Int32)), .val (.int (128 : Int32)), .val (.int (191 : Int32)), s10, s11] [(.int (244 : Int32)), (.int ld)])
                      by_cases hc180 : ld = (244 : Int32)
                      · -- pc 180: not taken
                        refine hst (fun t₀ k₀ => XS.icmpNo XI.here hx rfl (hb hby d3_180) rfl (teq hc180).2 k₀) ?_
                        show F s₁ (mkF m 183 #[.val (.ref a), .val (.int fv), .val (.int lv), .val (.int ev), .val (.int (1 : Int32)), .val (.int av), .val (.int ld), .val (.int (3 : Int32)), .val (.int (128 : Int32)), .val (.int (191 : Int32)), s10, s11] [])
                        refine hst (fun t₀ k₀ => XS.sipush XI.here hx rfl (hb hby d3_183) k₀) ?_
                        show F s₁ (mkF m 186 #[.val (.ref a), .val (.int fv), .val (.int lv), .val (.int ev), .val (.int (1 : Int32)), .val (.int av), .val (.int ld), .val (.int (3 : Int32)), .val (.int (128 : Int32)), .val (.int (191 : Int32)), s10, s11] [(.int (143 : Int32))])
                        refine hst (fun t₀ k₀ => XS.goto XI.here hx rfl (pc0 := 186) (pc' := 191) rfl (hb hby d3_186) (by decide) (by decide) k₀) ?_
                        show F s₁ (mkF m 191 #[.val (.ref a), .val (.int fv), .val (.int lv), .val (.int ev), .val (.int (1 : Int32)), .val (.int av), .val (.int ld), .val (.int (3 : Int32)), .val (.int (128 : Int32)), .val (.int (191 : Int32)), s10, s11] [(.int (143 : Int32))])
                        refine hst (fun t₀ k₀ => XS.istore XI.here hx rfl (hb hby d3_191) rfl (l' := #[.val (.ref a), .val (.int fv), .val (.int lv), .val (.int ev), .val (.int (1 : Int32)), .val (.int av), .val (.int ld), .val (.int (3 : Int32)), .val (.int (128 : Int32)), .val (.int (143 : Int32)), s10, s11]) rfl k₀) ?_
                        show F s₁ (mkF m 193 #[.val (.ref a), .val (.int fv), .val (.int lv), .val (.int ev), .val (.int (1 : Int32)), .val (.int av), .val (.int ld), .val (.int (3 : Int32)), .val (.int (128 : Int32)), .val (.int (143 : Int32)), s10, s11] [])
                        refine hst (fun t₀ k₀ => XS.goto XI.here hx rfl (pc0 := 193) (pc' := 199) rfl (hb hby d3_193) (by decide) (by decide) k₀) ?_
                        show F s₁ (mkF m 199 #[.val (.ref a), .val (.int fv), .val (.int lv), .val (.int ev), .val (.int (1 : Int32)), .val (.int av), .val (.int ld), .val (.int (3 : Int32)), .val (.int (128 : Int32)), .val (.int (143 : Int32)), s10, s11] [])
                        simp only [own_lt32, own_eq32] at hc49 hc63 hc71 hc85 hc143 hc151 hc162 hc180
                        exact J199 _ _ _ _ (Or.inr (Or.inr (Or.inr (Or.inl ⟨rfl, rfl, ⟨fun q => by omega, fun q => by omega⟩, ⟨fun q => by omega, fun q => by omega⟩, by omega, by omega⟩))))
                      · -- pc 180: taken
                        refine hst (fun t₀ k₀ => XS.icmpYes XI.here hx rfl (pc0 := 180) (pc' := 189) rfl (hb hby d3_180) rfl (feq hc180).2 (by decide) (by decide) k₀) ?_
                        show F s₁ (mkF m 189 #[.val (.ref a), .val (.int fv), .val (.int lv), .val (.int ev), .val (.int (1 : Int32)), .val (.int av), .val (.int ld), .val (.int (3 : Int32)), .val (.int (128 : Int32)), .val (.int (191 : Int32)), s10, s11] [])
                        refine hst (fun t₀ k₀ => XS.iload XI.here hx rfl (hb hby d3_189) rfl k₀) ?_
                        show F s₁ (mkF m 191 #[.val (.ref a), .val (.int fv), .val (.int lv), .val (.int ev), .val (.int (1 : Int32)), .val (.int av), .val (.int ld), .val (.int (3 : Int32)), .val (.int (128 : Int32)), .val (.int (191 : Int32)), s10, s11] [(.int (191 : Int32))])
                        refine hst (fun t₀ k₀ => XS.istore XI.here hx rfl (hb hby d3_191) rfl (l' := #[.val (.ref a), .val (.int fv), .val (.int lv), .val (.int ev), .val (.int (1 : Int32)), .val (.int av), .val (.int ld), .val (.int (3 : Int32)), .val (.int (128 : Int32)), .val (.int (191 : Int32)), s10, s11]) rfl k₀) ?_
                        show F s₁ (mkF m 193 #[.val (.ref a), .val (.int fv), .val (.int lv), .val (.int ev), .val (.int (1 : Int32)), .val (.int av), .val (.int ld), .val (.int (3 : Int32)), .val (.int (128 : Int32)), .val (.int (191 : Int32)), s10, s11] [])
                        refine hst (fun t₀ k₀ => XS.goto XI.here hx rfl (pc0 := 193) (pc' := 199) rfl (hb hby d3_193) (by decide) (by decide) k₀) ?_
                        show F s₁ (mkF m 199 #[.val (.ref a), .val (.int fv), .val (.int lv), .val (.int ev), .val (.int (1 : Int32)), .val (.int av), .val (.int ld), .val (.int (3 : Int32)), .val (.int (128 : Int32)), .val (.int (191 : Int32)), s10, s11] [])
                        simp only [own_lt32, own_eq32] at hc49 hc63 hc71 hc85 hc143 hc151 hc162 hc180
                        exact J199 _ _ _ _ (Or.inr (Or.inr (Or.inr (Or.inl ⟨rfl, rfl, ⟨fun q => by omega, fun q => by omega⟩, ⟨fun q => by omega, fun q => by omega⟩, by omega, by omega⟩))))
                  · -- pc 151: taken
                    refine hst (fun t₀ k₀ => XS.icmpYes XI.here hx rfl (pc0 := 151) (pc' := 196) rfl (hb hby d3_151) rfl (flt hc151).2.1 (by decide) (by decide) k₀) ?_
                    show F s₁ (mkF m 196 #[.val (.ref a), .val (.int fv), .val (.int lv), .val (.int ev), .val (.int (1 : Int32)), .val (.int av), .val (.int ld), .val (.int (0 : Int32)), .val (.int (128 : Int32)), .val (.int (191 : Int32)), s10, s11] [])
                    refine hst (fun t₀ k₀ => XS.iconst XI.here hx rfl (hb hby d3_196) k₀) ?_
                    show F s₁ (mkF m 197 #[.val (.ref a), .val (.int fv), .val (.int lv), .val (.int ev), .val (.int (1 : Int32)), .val (.int av), .val (.int ld), .val (.int (0 : Int32)), .val (.int (128 : Int32)), .val (.int (191 : Int32)), s10, s11] [(.int (0 : Int32))])
                    refine hst (fun t₀ k₀ => XS.istore XI.here hx rfl (hb hby d3_197) rfl (l' := #[.val (.ref a), .val (.int fv), .val (.int lv), .val (.int ev), .val (.int (0 : Int32)), .val (.int av), .val (.int ld), .val (.int (0 : Int32)), .val (.int (128 : Int32)), .val (.int (191 : Int32)), s10, s11]) rfl k₀) ?_
                    show F s₁ (mkF m 199 #[.val (.ref a), .val (.int fv), .val (.int lv), .val (.int ev), .val (.int (0 : Int32)), .val (.int av), .val (.int ld), .val (.int (0 : Int32)), .val (.int (128 : Int32)), .val (.int (191 : Int32)), s10, s11] [])
                    simp only [own_lt32, own_eq32] at hc49 hc63 hc71 hc85 hc143 hc151
                    exact J199 _ _ _ _ (Or.inr (Or.inr (Or.inr (Or.inr ⟨rfl, rfl, by decide, by decide, by omega⟩))))
              · -- pc 85: not taken
                refine hst (fun t₀ k₀ => XS.icmpNo XI.here hx rfl (hb hby d3_85) rfl (flt hc85).1 k₀) ?_
                show F s₁ (mkF m 88 #[.val (.ref a), .val (.int fv), .val (.int lv), .val (.int ev), .val (.int (1 : Int32)), .val (.int av), .val (.int ld), .val (.int (0 : Int32)), .val (.int (128 : Int32)), .val (.int (191 : Int32)), s10, s11] [])
                refine hst (fun t₀ k₀ => XS.iload XI.here hx rfl (hb hby d3_88) rfl k₀) ?_
                show F s₁ (mkF m 90 #[.val (.ref a), .val (.int fv), .val (.int lv), .val (.int ev), .val (.int (1 : Int32)), .val (.int av), .val (.int ld), .val (.int (0 : Int32)), .val (.int (128 : Int32)), .val (.int (191 : Int32)), s10, s11] [(.int ld)])
                refine hst (fun t₀ k₀ => XS.sipush XI.here hx rfl (hb hby d3_90) k₀) ?_
                show F s₁ (mkF m 93 #[.val (.ref a), .val (.int fv), .val (.int lv), .val (.int ev), .val (.int (1 : Int32)), .val (.int av), .val (.int ld), .val (.int (0 : Int32)), .val (.int (128 : Int32)), .val (.int (191 : Int32)), s10, s11] [(.int (240 : Int32)), (.int ld)])
                by_cases hc93 : ld < (240 : Int32)
                · -- pc 93: not taken
                  refine hst (fun t₀ k₀ => XS.icmpNo XI.here hx rfl (hb hby d3_93) rfl (tlt hc93).2.1 k₀) ?_
                  show F s₁ (mkF m 96 #[.val (.ref a), .val (.int fv), .val (.int lv), .val (.int ev), .val (.int (1 : Int32)), .val (.int av), .val (.int ld), .val (.int (0 : Int32)), .val (.int (128 : Int32)), .val (.int (191 : Int32)), s10, s11] [])
                  refine hst (fun t₀ k₀ => XS.iconst XI.here hx rfl (hb hby d3_96) k₀) ?_
                  show F s₁ (mkF m 97 #[.val (.ref a), .val (.int fv), .val (.int lv), .val (.int ev), .val (.int (1 : Int32)), .val (.int av), .val (.int ld), .val (.int (0 : Int32)), .val (.int (128 : Int32)), .val (.int (191 : Int32)), s10, s11] [(.int (2 : Int32))])
                  refine hst (fun t₀ k₀ => XS.istore XI.here hx rfl (hb hby d3_97) rfl (l' := #[.val (.ref a), .val (.int fv), .val (.int lv), .val (.int ev), .val (.int (1 : Int32)), .val (.int av), .val (.int ld), .val (.int (2 : Int32)), .val (.int (128 : Int32)), .val (.int (191 : Int32)), s10, s11]) rfl k₀) ?_
                  show F s₁ (mkF m 99 #[.val (.ref a), .val (.int fv), .val (.int lv), .val (.int ev), .val (.int (1 : Int32)), .val (.int av), .val (.int ld), .val (.int (2 : Int32)), .val (.int (128 : Int32)), .val (.int (191 : Int32)), s10, s11] [])
                  refine hst (fun t₀ k₀ => XS.iload XI.here hx rfl (hb hby d3_99) rfl k₀) ?_
                  show F s₁ (mkF m 101 #[.val (.ref a), .val (.int fv), .val (.int lv), .val (.int ev), .val (.int (1 : Int32)), .val (.int av), .val (.int ld), .val (.int (2 : Int32)), .val (.int (128 : Int32)), .val (.int (191 : Int32)), s10, s11] [(.int ld)])
                  refine hst (fun t₀ k₀ => XS.sipush XI.here hx rfl (hb hby d3_101) k₀) ?_
                  show F s₁ (mkF m 104 #[.val (.ref a), .val (.int fv), .val (.int lv), .val (.int ev), .val (.int (1 : Int32)), .val (.int av), .val (.int ld), .val (.int (2 : Int32)), .val (.int (128 : Int32)), .val (.int (191 : Int32)), s10, s11] [(.int (224 : Int32)), (.int ld)])
                  by_cases hc104 : ld = (224 : Int32)
                  · -- pc 104: not taken
                    refine hst (fun t₀ k₀ => XS.icmpNo XI.here hx rfl (hb hby d3_104) rfl (teq hc104).2 k₀) ?_
                    show F s₁ (mkF m 107 #[.val (.ref a), .val (.int fv), .val (.int lv), .val (.int ev), .val (.int (1 : Int32)), .val (.int av), .val (.int ld), .val (.int (2 : Int32)), .val (.int (128 : Int32)), .val (.int (191 : Int32)), s10, s11] [])
                    refine hst (fun t₀ k₀ => XS.sipush XI.here hx rfl (hb hby d3_107) k₀) ?_
                    show F s₁ (mkF m 110 #[.val (.ref a), .val (.int fv), .val (.int lv), .val (.int ev), .val (.int (1 : Int32)), .val (.int av), .val (.int ld), .val (.int (2 : Int32)), .val (.int (128 : Int32)), .val (.int (191 : Int32)), s10, s11] [(.int (160 : Int32))])
                    refine hst (fun t₀ k₀ => XS.goto XI.here hx rfl (pc0 := 110) (pc' := 115) rfl (hb hby d3_110) (by decide) (by decide) k₀) ?_
                    show F s₁ (mkF m 115 #[.val (.ref a), .val (.int fv), .val (.int lv), .val (.int ev), .val (.int (1 : Int32)), .val (.int av), .val (.int ld), .val (.int (2 : Int32)), .val (.int (128 : Int32)), .val (.int (191 : Int32)), s10, s11] [(.int (160 : Int32))])
                    refine hst (fun t₀ k₀ => XS.istore XI.here hx rfl (hb hby d3_115) rfl (l' := #[.val (.ref a), .val (.int fv), .val (.int lv), .val (.int ev), .val (.int (1 : Int32)), .val (.int av), .val (.int ld), .val (.int (2 : Int32)), .val (.int (160 : Int32)), .val (.int (191 : Int32)), s10, s11]) rfl k₀) ?_
                    show F s₁ (mkF m 117 #[.val (.ref a), .val (.int fv), .val (.int lv), .val (.int ev), .val (.int (1 : Int32)), .val (.int av), .val (.int ld), .val (.int (2 : Int32)), .val (.int (160 : Int32)), .val (.int (191 : Int32)), s10, s11] [])
                    refine hst (fun t₀ k₀ => XS.iload XI.here hx rfl (hb hby d3_117) rfl k₀) ?_
                    show F s₁ (mkF m 119 #[.val (.ref a), .val (.int fv), .val (.int lv), .val (.int ev), .val (.int (1 : Int32)), .val (.int av), .val (.int ld), .val (.int (2 : Int32)), .val (.int (160 : Int32)), .val (.int (191 : Int32)), s10, s11] [(.int ld)])
                    refine hst (fun t₀ k₀ => XS.sipush XI.here hx rfl (hb hby d3_119) k₀) ?_
                    show F s₁ (mkF m 122 #[.val (.ref a), .val (.int fv), .val (.int lv), .val (.int ev), .val (.int (1 : Int32)), .val (.int av), .val (.int ld), .val (.int (2 : Int32)), .val (.int (160 : Int32)), .val (.int (191 : Int32)), s10, s11] [(.int (237 : Int32)), (.int ld)])
                    by_cases hc122 : ld = (237 : Int32)
                    · -- pc 122: not taken
                      refine hst (fun t₀ k₀ => XS.icmpNo XI.here hx rfl (hb hby d3_122) rfl (teq hc122).2 k₀) ?_
                      show F s₁ (mkF m 125 #[.val (.ref a), .val (.int fv), .val (.int lv), .val (.int ev), .val (.int (1 : Int32)), .val (.int av), .val (.int ld), .val (.int (2 : Int32)), .val (.int (160 : Int32)), .val (.int (191 : Int32)), s10, s11] [])
                      refine hst (fun t₀ k₀ => XS.sipush XI.here hx rfl (hb hby d3_125) k₀) ?_
                      show F s₁ (mkF m 128 #[.val (.ref a), .val (.int fv), .val (.int lv), .val (.int ev), .val (.int (1 : Int32)), .val (.int av), .val (.int ld), .val (.int (2 : Int32)), .val (.int (160 : Int32)), .val (.int (191 : Int32)), s10, s11] [(.int (159 : Int32))])
                      refine hst (fun t₀ k₀ => XS.goto XI.here hx rfl (pc0 := 128) (pc' := 133) rfl (hb hby d3_128) (by decide) (by decide) k₀) ?_
                      show F s₁ (mkF m 133 #[.val (.ref a), .val (.int fv), .val (.int lv), .val (.int ev), .val (.int (1 : Int32)), .val (.int av), .val (.int ld), .val (.int (2 : Int32)), .val (.int (160 : Int32)), .val (.int (191 : Int32)), s10, s11] [(.int (159 : Int32))])
                      refine hst (fun t₀ k₀ => XS.istore XI.here hx rfl (hb hby d3_133) rfl (l' := #[.val (.ref a), .val (.int fv), .val (.int lv), .val (.int ev), .val (.int (1 : Int32)), .val (.int av), .val (.int ld), .val (.int (2 : Int32)), .val (.int (160 : Int32)), .val (.int (159 : Int32)), s10, s11]) rfl k₀) ?_
                      show F s₁ (mkF m 135 #[.val (.ref a), .val (.int fv), .val (.int lv), .val (.int ev), .val (.int (1 : Int32)), .val (.int av), .val (.int ld), .val (.int (2 : Int32)), .val (.int (160 : Int32)), .val (.int (159 : Int32)), s10, s11] [])
                      refine hst (fun t₀ k₀ => XS.goto XI.here hx rfl (pc0 := 135) (pc' := 199) rfl (hb hby d3_135) (by decide) (by decide) k₀) ?_
                      show F s₁ (mkF m 199 #[.val (.ref a), .val (.int fv), .val (.int lv), .val (.int ev), .val (.int (1 : Int32)), .val (.int av), .val (.int ld), .val (.int (2 : Int32)), .val (.int (160 : Int32)), .val (.int (159 : Int32)), s10, s11] [])
                      simp only [own_lt32, own_eq32] at hc49 hc63 hc71 hc85 hc93 hc104 hc122
                      exact J199 _ _ _ _ (Or.inr (Or.inr (Or.inl ⟨rfl, rfl, ⟨fun q => by omega, fun q => by omega⟩, ⟨fun q => by omega, fun q => by omega⟩, by omega, by omega⟩)))
                    · -- pc 122: taken
                      refine hst (fun t₀ k₀ => XS.icmpYes XI.here hx rfl (pc0 := 122) (pc' := 131) rfl (hb hby d3_122) rfl (feq hc122).2 (by decide) (by decide) k₀) ?_
                      show F s₁ (mkF m 131 #[.val (.ref a), .val (.int fv), .val (.int lv), .val (.int ev), .val (.int (1 : Int32)), .val (.int av), .val (.int ld), .val (.int (2 : Int32)), .val (.int (160 : Int32)), .val (.int (191 : Int32)), s10, s11] [])
                      refine hst (fun t₀ k₀ => XS.iload XI.here hx rfl (hb hby d3_131) rfl k₀) ?_
                      show F s₁ (mkF m 133 #[.val (.ref a), .val (.int fv), .val (.int lv), .val (.int ev), .val (.int (1 : Int32)), .val (.int av), .val (.int ld), .val (.int (2 : Int32)), .val (.int (160 : Int32)), .val (.int (191 : Int32)), s10, s11] [(.int (191 : Int32))])
                      refine hst (fun t₀ k₀ => XS.istore XI.here hx rfl (hb hby d3_133) rfl (l' := #[.val (.ref a), .val (.int fv), .val (.int lv), .val (.int ev), .val (.int (1 : Int32)), .val (.int av), .val (.int ld), .val (.int (2 : Int32)), .val (.int (160 : Int32)), .val (.int (191 : Int32)), s10, s11]) rfl k₀) ?_
                      show F s₁ (mkF m 135 #[.val (.ref a), .val (.int fv), .val (.int lv), .val (.int ev), .val (.int (1 : Int32)), .val (.int av), .val (.int ld), .val (.int (2 : Int32)), .val (.int (160 : Int32)), .val (.int (191 : Int32)), s10, s11] [])
                      refine hst (fun t₀ k₀ => XS.goto XI.here hx rfl (pc0 := 135) (pc' := 199) rfl (hb hby d3_135) (by decide) (by decide) k₀) ?_
                      show F s₁ (mkF m 199 #[.val (.ref a), .val (.int fv), .val (.int lv), .val (.int ev), .val (.int (1 : Int32)), .val (.int av), .val (.int ld), .val (.int (2 : Int32)), .val (.int (160 : Int32)), .val (.int (191 : Int32)), s10, s11] [])
                      simp only [own_lt32, own_eq32] at hc49 hc63 hc71 hc85 hc93 hc104 hc122
                      exact J199 _ _ _ _ (Or.inr (Or.inr (Or.inl ⟨rfl, rfl, ⟨fun q => by omega, fun q => by omega⟩, ⟨fun q => by omega, fun q => by omega⟩, by omega, by omega⟩)))
                  · -- pc 104: taken
                    refine hst (fun t₀ k₀ => XS.icmpYes XI.here hx rfl (pc0 := 104) (pc' := 113) rfl (hb hby d3_104) rfl (feq hc104).2 (by decide) (by decide) k₀) ?_
                    show F s₁ (mkF m 113 #[.val (.ref a), .val (.int fv), .val (.int lv), .val (.int ev), .val (.int (1 : Int32)), .val (.int av), .val (.int ld), .val (.int (2 : Int32)), .val (.int (128 : Int32)), .val (.int (191 : Int32)), s10, s11] [])
                    refine hst (fun t₀ k₀ => XS.iload XI.here hx rfl (hb hby d3_113) rfl k₀) ?_
                    show F s₁ (mkF m 115 #[.val (.ref a), .val (.int fv), .val (.int lv), .val (.int ev), .val (.int (1 : Int32)), .val (.int av), .val (.int ld), .val (.int (2 : Int32)), .val (.int (128 : Int32)), .val (.int (191 : Int32)), s10, s11] [(.int (128 : Int32))])
                    refine hst (fun t₀ k₀ => XS.istore XI.here hx rfl (hb hby d3_115) rfl (l' := #[.val (.ref a), .val (.int fv), .val (.int lv), .val (.int ev), .val (.int (1 : Int32)), .val (.int av), .val (.int ld), .val (.int (2 : Int32)), .val (.int (128 : Int32)), .val (.int (191 : Int32)), s10, s11]) rfl k₀) ?_
                    show F s₁ (mkF m 117 #[.val (.ref a), .val (.int fv), .val (.int lv), .val (.int ev), .val (.int (1 : Int32)), .val (.int av), .val (.int ld), .val (.int (2 : Int32)), .val (.int (128 : Int32)), .val (.int (191 : Int32)), s10, s11] [])
                    refine hst (fun t₀ k₀ => XS.iload XI.here hx rfl (hb hby d3_117) rfl k₀) ?_
                    show F s₁ (mkF m 119 #[.val (.ref a), .val (.int fv), .val (.int lv), .val (.int ev), .val (.int (1 : Int32)), .val (.int av), .val (.int ld), .val (.int (2 : Int32)), .val (.int (128 : Int32)), .val (.int (191 : Int32)), s10, s11] [(.int ld)])
                    refine hst (fun t₀ k₀ => XS.sipush XI.here hx rfl (hb hby d3_119) k₀) ?_
                    show F s₁ (mkF m 122 #[.val (.ref a), .val (.int fv), .val (.int lv), .val (.int ev), .val (.int (1 : Int32)), .val (.int av), .val (.int ld), .val (.int (2 : Int32)), .val (.int (128 : Int32)), .val (.int (191 : Int32)), s10, s11] [(.int (237 : Int32)), (.int ld)])
                    by_cases hc122 : ld = (237 : Int32)
                    · -- pc 122: not taken
                      refine hst (fun t₀ k₀ => XS.icmpNo XI.here hx rfl (hb hby d3_122) rfl (teq hc122).2 k₀) ?_
                      show F s₁ (mkF m 125 #[.val (.ref a), .val (.int fv), .val (.int lv), .val (.int ev), .val (.int (1 : Int32)), .val (.int av), .val (.int ld), .val (.int (2 : Int32)), .val (.int (128 : Int32)), .val (.int (191 : Int32)), s10, s11] [])
                      refine hst (fun t₀ k₀ => XS.sipush XI.here hx rfl (hb hby d3_125) k₀) ?_
                      show F s₁ (mkF m 128 #[.val (.ref a), .val (.int fv), .val (.int lv), .val (.int ev), .val (.int (1 : Int32)), .val (.int av), .val (.int ld), .val (.int (2 : Int32)), .val (.int (128 : Int32)), .val (.int (191 : Int32)), s10, s11] [(.int (159 : Int32))])
                      refine hst (fun t₀ k₀ => XS.goto XI.here hx rfl (pc0 := 128) (pc' := 133) rfl (hb hby d3_128) (by decide) (by decide) k₀) ?_
                      show F s₁ (mkF m 133 #[.val (.ref a), .val (.int fv), .val (.int lv), .val (.int ev), .val (.int (1 : Int32)), .val (.int av), .val (.int ld), .val (.int (2 : Int32)), .val (.int (128 : Int32)), .val (.int (191 : Int32)), s10, s11] [(.int (159 : Int32))])
                      refine hst (fun t₀ k₀ => XS.istore XI.here hx rfl (hb hby d3_133) rfl (l' := #[.val (.ref a), .val (.int fv), .val (.int lv), .val (.int ev), .val (.int (1 : Int32)), .val (.int av), .val (.int ld), .val (.int (2 : Int32)), .val (.int (128 : Int32)), .val (.int (159 : Int32)), s10, s11]) rfl k₀) ?_
                      show F s₁ (mkF m 135 #[.val (.ref a), .val (.int fv), .val (.int lv), .val (.int ev), .val (.int (1 : Int32)), .val (.int av), .val (.int ld), .val (.int (2 : Int32)), .val (.int (128 : Int32)), .val (.int (159 : Int32)), s10, s11] [])
                      refine hst (fun t₀ k₀ => XS.goto XI.here hx rfl (pc0 := 135) (pc' := 199) rfl (hb hby d3_135) (by decide) (by decide) k₀) ?_
                      show F s₁ (mkF m 199 #[.val (.ref a), .val (.int fv), .val (.int lv), .val (.int ev), .val (.int (1 : Int32)), .val (.int av), .val (.int ld), .val (.int (2 : Int32)), .val (.int (128 : Int32)), .val (.int (159 : Int32)), s10, s11] [])
                      simp only [own_lt32, own_eq32] at hc49 hc63 hc71 hc85 hc93 hc104 hc122
                      exact J199 _ _ _ _ (Or.inr (Or.inr (Or.inl ⟨rfl, rfl, ⟨fun q => by omega, fun q => by omega⟩, ⟨fun q => by omega, fun q => by omega⟩, by omega, by omega⟩)))
                    · -- pc 122: taken
                      refine hst (fun t₀ k₀ => XS.icmpYes XI.here hx rfl (pc0 := 122) (pc' := 131) rfl (hb hby d3_122) rfl (feq hc122).2 (by decide) (by decide) k₀) ?_
                      show F s₁ (mkF m 131 #[.val (.ref a), .val (.int fv), .val (.int lv), .val (.int ev), .val (.int (1 : Int32)), .val (.int av), .val (.int ld), .val (.int (2 : Int32)), .val (.int (128 : Int32)), .val (.int (191 : Int32)), s10, s11] [])
                      refine hst (fun t₀ k₀ => XS.iload XI.here hx rfl (hb hby d3_131) rfl k₀) ?_
                      show F s₁ (mkF m 133 #[.val (.ref a), .val (.int fv), .val (.int lv), .val (.int ev), .val (.int (1 : Int32)), .val (.int av), .val (.int ld), .val (.int (2 : Int32)), .val (.int (128 : Int32)), .val (.int (191 : Int32)), s10, s11] [(.int (191 : Int32))])
                      refine hst (fun t₀ k₀ => XS.istore XI.here hx rfl (hb hby d3_133) rfl (l' := #[.val (.ref a), .val (.int fv), .val (.int lv), .val (.int ev), .val (.int (1 : Int32)), .val (.int av), .val (.int ld), .val (.int (2 : Int32)), .val (.int (128 : Int32)), .val (.int (191 : Int32)), s10, s11]) rfl k₀) ?_
                      show F s₁ (mkF m 135 #[.val (.ref a), .val (.int fv), .val (.int lv), .val (.int ev), .val (.int (1 : Int32)), .val (.int av), .val (.int ld), .val (.int (2 : Int32)), .val (.int (128 : Int32)), .val (.int (191 : Int32)), s10, s11] [])
                      refine hst (fun t₀ k₀ => XS.goto XI.here hx rfl (pc0 := 135) (pc' := 199) rfl (hb hby d3_135) (by decide) (by decide) k₀) ?_
                      show F s₁ (mkF m 199 #[.val (.ref a), .val (.int fv), .val (.int lv), .val (.int ev), .val (.int (1 : Int32)), .val (.int av), .val (.int ld), .val (.int (2 : Int32)), .val (.int (128 : Int32)), .val (.int (191 : Int32)), s10, s11] [])
                      simp only [own_lt32, own_eq32] at hc49 hc63 hc71 hc85 hc93 hc104 hc122
                      exact J199 _ _ _ _ (Or.inr (Or.inr (Or.inl ⟨rfl, rfl, ⟨fun q => by omega, fun q => by omega⟩, ⟨fun q => by omega, fun q => by omega⟩, by omega, by omega⟩)))
                · -- pc 93: taken
                  refine hst (fun t₀ k₀ => XS.icmpYes XI.here hx rfl (pc0 := 93) (pc' := 138) rfl (hb hby d3_93) rfl (flt hc93).2.1 (by decide) (by decide) k₀) ?_
                  show F s₁ (mkF m 138 #[.val (.ref a), .val (.int fv), .val (.int lv), .val (.int ev), .val (.int (1 : Int32)), .val (.int av), .val (.int ld), .val (.int (0 : Int32)), .val (.int (128 : Int32)), .val (.int (191 : Int32)), s10, s11] [])
                  refine hst (fun t₀ k₀ => XS.iload XI.here hx rfl (hb hby d3_138) rfl k₀) ?_
                  show F s₁ (mkF m 140 #[.val (.ref a), .val (.int fv), .val (.int lv), .val (.int ev), .val (.int (1 : Int32)), .val (.int av), .val (.int ld), .val (.int (0 : Int32)), .val (.int (128 : Int32)), .val (.int (191 : Int32)), s10, s11] [(.int ld)])
                  refine hst (fun t₀ k₀ => XS.sipush XI.here hx rfl (hb hby d3_140) k₀) ?_
                  show F s₁ (mkF m 143 #[.val (.ref a), .val (.int fv), .val (.int lv), .val (.int ev), .val (.int (1 : Int32)), .val (.int av), .val (.int ld), .val (.int (0 : Int32)), .val (.int (128 : Int32)), .val (.int (191 : Int32)), s10, s11] [(.int (240 : Int32)), (.int ld)])
                  by_cases hc143 : ld < (240 : Int32)
                  · -- pc 143: taken
                    refine hst (fun t₀ k₀ => XS.icmpYes XI.here hx rfl (pc0 := 143) (pc' := 196) rfl (hb hby d3_143) rfl (tlt hc143).1 (by decide) (by decide) k₀) ?_
                    show F s₁ (mkF m 196 #[.val (.ref a), .val (.int fv), .val (.int lv), .val (.int ev), .val (.int (1 : Int32)), .val (.int av), .val (.int ld), .val (.int (0 : Int32)), .val (.int (128 : Int32)), .val (.int (191 : Int32)), s10, s11] [])
                    refine hst (fun t₀ k₀ => XS.iconst XI.here hx rfl (hb hby d3_196) k₀) ?_
                    show F s₁ (mkF m 197 #[.val (.ref a), .val (.int fv), .val (.int lv), .val (.int ev), .val (.int (1 : Int32)), .val (.int av), .val (.int ld), .val (.int (0 : Int32)), .val (.int (128 : Int32)), .val (.int (191 : Int32)), s10, s11] [(.int (0 : Int32))])
                    refine hst (fun t₀ k₀ => XS.istore XI.here hx rfl (hb hby d3_197) rfl (l' := #[.val (.ref a), .val (.int fv), .val (.int lv), .val (.int ev), .val (.int (0 : Int32)), .val (.int av), .val (.int ld), .val (.int (0 : Int32)), .val (.int (128 : Int32)), .val (.int (191 : Int32)), s10, s11]) rfl k₀) ?_
                    show F s₁ (mkF m 199 #[.val (.ref a), .val (.int fv), .val (.int lv), .val (.int ev), .val (.int (0 : Int32)), .val (.int av), .val (.int ld), .val (.int (0 : Int32)), .val (.int (128 : Int32)), .val (.int (191 : Int32)), s10, s11] [])
                    simp only [own_lt32, own_eq32] at hc49 hc63 hc71 hc85 hc93 hc143
                    exact J199 _ _ _ _ (Or.inr (Or.inr (Or.inr (Or.inr ⟨rfl, rfl, by decide, by decide, by omega⟩))))
                  · -- pc 143: not taken
                    refine hst (fun t₀ k₀ => XS.icmpNo XI.here hx rfl (hb hby d3_143) rfl (flt hc143).1 k₀) ?_
                    show F s₁ (mkF m 146 #[.val (.ref a), .val (.int fv), .val (.int lv), .val (.int ev), .val (.int (1 : Int32)), .val (.int av), .val (.int ld), .val (.int (0 : Int32)), .val (.int (128 : Int32)), .val (.int (191 : Int32)), s10, s11] [])
                    refine hst (fun t₀ k₀ => XS.iload XI.here hx rfl (hb hby d3_146) rfl k₀) ?_
                    show F s₁ (mkF m 148 #[.val (.ref a), .val (.int fv), .val (.int lv), .val (.int ev), .val (.int (1 : Int32)), .val (.int av), .val (.int ld), .val (.int (0 : Int32)), .val (.int (128 : Int32)), .val (.int (191 : Int32)), s10, s11] [(.int ld)])
                    refine hst (fun t₀ k₀ => XS.sipush XI.here hx rfl (hb hby d3_148) k₀) ?_
                    show F s₁ (mkF m 151 #[.val (.ref a), .val (.int fv), .val (.int lv), .val (.int ev), .val (.int (1 : Int32)), .val (.int av), .val (.int ld), .val (.int (0 : Int32)), .val (.int (128 : Int32)), .val (.int (191 : Int32)), s10, s11] [(.int (245 : Int32)), (.int ld)])
                    by_cases hc151 : ld < (245 : Int32)
                    · -- pc 151: not taken
                      refine hst (fun t₀ k₀ => XS.icmpNo XI.here hx rfl (hb hby d3_151) rfl (tlt hc151).2.1 k₀) ?_
                      show F s₁ (mkF m 154 #[.val (.ref a), .val (.int fv), .val (.int lv), .val (.int ev), .val (.int (1 : Int32)), .val (.int av), .val (.int ld), .val (.int (0 : Int32)), .val (.int (128 : Int32)), .val (.int (191 : Int32)), s10, s11] [])
                      refine hst (fun t₀ k₀ => XS.iconst XI.here hx rfl (hb hby d3_154) k₀) ?_
                      show F s₁ (mkF m 155 #[.val (.ref a), .val (.int fv), .val (.int lv), .val (.int ev), .val (.int (1 : Int32)), .val (.int av), .val (.int ld), .val (.int (0 : Int32)), .val (.int (128 : Int32)), .val (.int (191 : Int32)), s10, s11] [(.int (3 : Int32))])
                      refine hst (fun t₀ k₀ => XS.istore XI.here hx rfl (hb hby d3_155) rfl (l' := #[.val (.ref a), .val (.int fv), .val (.int lv), .val (.int ev), .val (.int (1 : Int32)), .val (.int av), .val (.int ld), .val (.int (3 : Int32)), .val (.int (128 : Int32)), .val (.int (191 : Int32)), s10, s11]) rfl k₀) ?_
                      show F s₁ (mkF m 157 #[.val (.ref a), .val (.int fv), .val (.int lv), .val (.int ev), .val (.int (1 : Int32)), .val (.int av), .val (.int ld), .val (.int (3 : Int32)), .val (.int (128 : Int32)), .val (.int (191 : Int32)), s10, s11] [])
                      refine hst (fun t₀ k₀ => XS.iload XI.here hx rfl (hb hby d3_157) rfl k₀) ?_
                      show F s₁ (mkF m 159 #[.val (.ref a), .val (.int fv), .val (.int lv), .val (.int ev), .val (.int (1 : Int32)), .val (.int av), .val (.int ld), .val (.int (3 : Int32)), .val (.int (128 : Int32)), .val (.int (191 : Int32)), s10, s11] [(.int ld)])
                      refine hst (fun t₀ k₀ => XS.sipush XI.here hx rfl (hb hby d3_159) k₀) ?_
                      show F s₁ (mkF m 162 #[.val (.ref a), .val (.int fv), .val (.int lv), .val (.int ev), .val (.int (1 : Int32)), .val (.int av), .val (.int ld), .val (.int (3 : Int32)), .val (.int (128 : Int32)), .val (.int (191 : Int32)), s10, s11] [(.int (240 : Int32)), (.int ld)])
                      by_cases hc162 : ld = (240 : Int32)
                      · -- pc 162: not taken
                        refine hst (fun t₀ k₀ => XS.icmpNo XI.here hx rfl (hb hby d3_162) rfl (teq hc162).2 k₀) ?_
                        show F s₁ (mkF m 165 #[.val (.ref a), .val (.int fv), .val (.int lv), .val (.int ev), .val (.int (1 : Int32)), .val (.int av), .val (.int ld), .val (.int (3 : Int32)), .val (.int (128 : Int32)), .val (.int (191 : Int32)), s10, s11] [])
                        refine hst (fun t₀ k₀ => XS.sipush XI.here hx rfl (hb hby d3_165) k₀) ?_
                        show F s₁ (mkF m 168 #[.val (.ref a), .val (.int fv), .val (.int lv), .val (.int ev), .val (.int (1 : Int32)), .val (.int av), .val (.int ld), .val (.int (3 : Int32)), .val (.int (128 : Int32)), .val (.int (191 : Int32)), s10, s11] [(.int (144 : Int32))])
                        refine hst (fun t₀ k₀ => XS.goto XI.here hx rfl (pc0 := 168) (pc' := 173) rfl (hb hby d3_168) (by decide) (by decide) k₀) ?_
                        show F s₁ (mkF m 173 #[.val (.ref a), .val (.int fv), .val (.int lv), .val (.int ev), .val (.int (1 : Int32)), .val (.int av), .val (.int ld), .val (.int (3 : Int32)), .val (.int (128 : Int32)), .val (.int (191 : Int32)), s10, s11] [(.int (144 : Int32))])
                        refine hst (fun t₀ k₀ => XS.istore XI.here hx rfl (hb hby d3_173) rfl (l' := #[.val (.ref a), .val (.int fv), .val (.int lv), .val (.int ev), .val (.int (1 : Int32)), .val (.int av), .val (.int ld), .val (.int (3 : Int32)), .val (.int (144 : Int32)), .val (.int (191 : Int32)), s10, s11]) rfl k₀) ?_
                        show F s₁ (mkF m 175 #[.val (.ref a), .val (.int fv), .val (.int lv), .val (.int ev), .val (.int (1 : Int32)), .val (.int av), .val (.int ld), .val (.int (3 : Int32)), .val (.int (144 : Int32)), .val (.int (191 : Int32)), s10, s11] [])
                        refine hst (fun t₀ k₀ => XS.iload XI.here hx rfl (hb hby d3_175) rfl k₀) ?_
                        show F s₁ (mkF m 177 #[.val (.ref a), .val (.int fv), .val (.int lv), .val (.int ev), .val (.int (1 : Int32)), .val (.int av), .val (.int ld), .val (.int (3 : Int32)), .val (.int (144 : Int32)), .val (.int (191 : Int32)), s10, s11] [(.int ld)])
                        refine hst (fun t₀ k₀ => XS.sipush XI.here hx rfl (hb hby d3_177) k₀) ?_
                        show F s₁ (mkF m 180 #[.val (.ref a), .val (.int fv), .val (.int lv), .val (.int ev), .val (.int (1 : Int32)), .val (.int av), .val (.int ld), .val (.int (3 : Int32)), .val (.int (144 : Int32)), .val (.int (191 : Int32)), s10, s11] [(.int (244 : Int32)), (.int ld)])
                        by_cases hc180 : ld = (244 : Int32)
                        · -- pc 180: not taken
                          refine hst (fun t₀ k₀ => XS.icmpNo XI.here hx rfl (hb hby d3_180) rfl (teq hc180).2 k₀) ?_
                          show F s₁ (mkF m 183 #[.val (.ref a), .val (.int fv), .val (.int lv), .val (.int ev), .val (.int (1 : Int32)), .val (.int av), .val (.int ld), .val (.int (3 : Int32)), .val (.int (144 : Int32)), .val (.int (191 : Int32)), s10, s11] [])
                          refine hst (fun t₀ k₀ => XS.sipush XI.here hx rfl (hb hby d3_183) k₀) ?_
                          show F s₁ (mkF m 186 #[.val (.ref a), .val (.int fv), .val (.int lv), .val (.int ev), .val (.int (1 : Int32)), .val (.int av), .val (.int ld), .val (.int (3 : Int32)), .val (.int (144 : Int32)), .val (.int (191 : Int32)), s10, s11] [(.int (143 : Int32))])
                          refine hst (fun t₀ k₀ => XS.goto XI.here hx rfl (pc0 := 186) (pc' := 191) rfl (hb hby d3_186) (by decide) (by decide) k₀) ?_
                          show F s₁ (mkF m 191 #[.val (.ref a), .val (.int fv), .val (.int lv), .val (.int ev), .val (.int (1 : Int32)), .val (.int av), .val (.int ld), .val (.int (3 : Int32)), .val (.int (144 : Int32)), .val (.int (191 : Int32)), s10, s11] [(.int (143 : Int32))])
                          refine hst (fun t₀ k₀ => XS.istore XI.here hx rfl (hb hby d3_191) rfl (l' := #[.val (.ref a), .val (.int fv), .val (.int lv), .val (.int ev), .val (.int (1 : Int32)), .val (.int av), .val (.int ld), .val (.int (3 : Int32)), .val (.int (144 : Int32)), .val (.int (143 : Int32)), s10, s11]) rfl k₀) ?_
                          show F s₁ (mkF m 193 #[.val (.ref a), .val (.int fv), .val (.int lv), .val (.int ev), .val (.int (1 : Int32)), .val (.int av), .val (.int ld), .val (.int (3 : Int32)), .val (.int (144 : Int32)), .val (.int (143 : Int32)), s10, s11] [])
                          refine hst (fun t₀ k₀ => XS.goto XI.here hx rfl (pc0 := 193) (pc' := 199) rfl (hb hby d3_193) (by decide) (by decide) k₀) ?_
                          show F s₁ (mkF m 199 #[.val (.ref a), .val (.int fv), .val (.int lv), .val (.int ev), .val (.int (1 : Int32)), .val (.int av), .val (.int ld), .val (.int (3 : Int32)), .val (.int (144 : Int32)), .val (.int (143 : Int32)), s10, s11] [])
                          simp only [own_lt32, own_eq32] at hc49 hc63 hc71 hc85 hc93 hc143 hc151 hc162 hc180
                          exact J199 _ _ _ _ (Or.inr (Or.inr (Or.inr (Or.inl ⟨rfl, rfl, ⟨fun q => by omega, fun q => by omega⟩, ⟨fun q => by omega, fun q => by omega⟩, by omega, by omega⟩))))
                        · -- pc 180: taken
                          refine hst (fun t₀ k₀ => XS.icmpYes XI.here hx rfl (pc0 := 180) (pc' := 189) rfl (hb hby d3_180) rfl (feq hc180).2 (by decide) (by decide) k₀) ?_
                          show F s₁ (mkF m 189 #[.val (.ref a), .val (.int fv), .val (.int lv), .val (.int ev), .val (.int (1 : Int32)), .val (.int av), .val (.int ld), .val (.int (3 : Int32)), .val (.int (144 : Int32)), .val (.int (191 : Int32)), s10, s11] [])
                          refine hst (fun t₀ k₀ => XS.iload XI.here hx rfl (hb hby d3_189) rfl k₀) ?_
                          show F s₁ (mkF m 191 #[.val (.ref a), .val (.int fv), .val (.int lv), .val (.int ev), .val (.int (1 : Int32)), .val (.int av), .val (.int ld), .val (.int (3 : Int32)), .val (.int (144 : Int32)), .val (.int (191 : Int32)), s10, s11] [(.int (191 : Int32))])
                          refine hst (fun t₀ k₀ => XS.istore XI.here hx rfl (hb hby d3_191) rfl (l' := #[.val (.ref a), .val (.int fv), .val (.int lv), .val (.int ev), .val (.int (1 : Int32)), .val (.int av), .val (.int ld), .val (.int (3 : Int32)), .val (.int (144 : Int32)), .val (.int (191 : Int32)), s10, s11]) rfl k₀) ?_
                          show F s₁ (mkF m 193 #[.val (.ref a), .val (.int fv), .val (.int lv), .val (.int ev), .val (.int (1 : Int32)), .val (.int av), .val (.int ld), .val (.int (3 : Int32)), .val (.int (144 : Int32)), .val (.int (191 : Int32)), s10, s11] [])
                          refine hst (fun t₀ k₀ => XS.goto XI.here hx rfl (pc0 := 193) (pc' := 199) rfl (hb hby d3_193) (by decide) (by decide) k₀) ?_
                          show F s₁ (mkF m 199 #[.val (.ref a), .val (.int fv), .val (.int lv), .val (.int ev), .val (.int (1 : Int32)), .val (.int av), .val (.int ld), .val (.int (3 : Int32)), .val (.int (144 : Int32)), .val (.int (191 : Int32)), s10, s11] [])
                          simp only [own_lt32, own_eq32] at hc49 hc63 hc71 hc85 hc93 hc143 hc151 hc162 hc180
                          exact J199 _ _ _ _ (Or.inr (Or.inr (Or.inr (Or.inl ⟨rfl, rfl, ⟨fun q => by omega, fun q => by omega⟩, ⟨fun q => by omega, fun q => by omega⟩, by omega, by omega⟩))))
                      · -- pc 162: taken
                        refine hst (fun t₀ k₀ => XS.icmpYes XI.here hx rfl (pc0 := 162) (pc' := 171) rfl (hb hby d3_162) rfl (feq hc162).2 (by decide) (by decide) k₀) ?_
                        show F s₁ (mkF m 171 #[.val (.ref a), .val (.int fv), .val (.int lv), .val (.int ev), .val (.int (1 : Int32)), .val (.int av), .val (.int ld), .val (.int (3 : Int32)), .val (.int (128 : Int32)), .val (.int (191 : Int32)), s10, s11] [])
                        refine hst (fun t₀ k₀ => XS.iload XI.here hx rfl (hb hby d3_171) rfl k₀) ?_
                        show F s₁ (mkF m 173 #[.val (.ref a), .val (.int fv), .val (.int lv), .val (.int ev), .val (.int (1 : Int32)), .val (.int av), .val (.int ld), .val (.int (3 : Int32)), .val (.int (128 : Int32)), .val (.int (191 : Int32)), s10, s11] [(.int (128 : Int32))])
                        refine hst (fun t₀ k₀ => XS.istore XI.here hx rfl (hb hby d3_173) rfl (l' := #[.val (.ref a), .val (.int fv), .val (.int lv), .val (.int ev), .val (.int (1 : Int32)), .val (.int av), .val (.int ld), .val (.int (3 : Int32)), .val (.int (128 : Int32)), .val (.int (191 : Int32)), s10, s11]) rfl k₀) ?_
                        show F s₁ (mkF m 175 #[.val (.ref a), .val (.int fv), .val (.int lv), .val (.int ev), .val (.int (1 : Int32)), .val (.int av), .val (.int ld), .val (.int (3 : Int32)), .val (.int (128 : Int32)), .val (.int (191 : Int32)), s10, s11] [])
                        refine hst (fun t₀ k₀ => XS.iload XI.here hx rfl (hb hby d3_175) rfl k₀) ?_
                        show F s₁ (mkF m 177 #[.val (.ref a), .val (.int fv), .val (.int lv), .val (.int ev), .val (.int (1 : Int32)), .val (.int av), .val (.int ld), .val (.int (3 : Int32)), .val (.int (128 : Int32)), .val (.int (191 : Int32)), s10, s11] [(.int ld)])
                        refine hst (fun t₀ k₀ => XS.sipush XI.here hx rfl (hb hby d3_177) k₀) ?_
                        show F s₁ (mkF m 180 #[.val (.ref a), .val (.int fv), .val (.int lv), .val (.int ev), .val (.int (1 : Int32)), .val (.int av), .val (.int ld), .val (.int (3 : Int32)), .val (.int (128 : Int32)), .val (.int (191 : Int32)), s10, s11] [(.int (244 : Int32)), (.int ld)])
                        by_cases hc180 : ld = (244 : Int32)
                        · -- pc 180: not taken
                          refine hst (fun t₀ k₀ => XS.icmpNo XI.here hx rfl (hb hby d3_180) rfl (teq hc180).2 k₀) ?_
                          show F s₁ (mkF m 183 #[.val (.ref a), .val (.int fv), .val (.int lv), .val (.int ev), .val (.int (1 : Int32)), .val (.int av), .val (.int ld), .val (.int (3 : Int32)), .val (.int (128 : Int32)), .val (.int (191 : Int32)), s10, s11] [])
                          refine hst (fun t₀ k₀ => XS.sipush XI.here hx rfl (hb hby d3_183) k₀) ?_
                          show F s₁ (mkF m 186 #[.val (.ref a), .val (.int fv), .val (.int lv), .val (.int ev), .val (.int (1 : Int32)), .val (.int av), .val (.int ld), .val (.int (3 : Int32)), .val (.int (128 : Int32)), .val (.int (191 : Int32)), s10, s11] [(.int (143 : Int32))])
                          refine hst (fun t₀ k₀ => XS.goto XI.here hx rfl (pc0 := 186) (pc' := 191) rfl (hb hby d3_186) (by decide) (by decide) k₀) ?_
                          show F s₁ (mkF m 191 #[.val (.ref a), .val (.int fv), .val (.int lv), .val (.int ev), .val (.int (1 : Int32)), .val (.int av), .val (.int ld), .val (.int (3 : Int32)), .val (.int (128 : Int32)), .val (.int (191 : Int32)), s10, s11] [(.int (143 : Int32))])
                          refine hst (fun t₀ k₀ => XS.istore XI.here hx rfl (hb hby d3_191) rfl (l' := #[.val (.ref a), .val (.int fv), .val (.int lv), .val (.int ev), .val (.int (1 : Int32)), .val (.int av), .val (.int ld), .val (.int (3 : Int32)), .val (.int (128 : Int32)), .val (.int (143 : Int32)), s10, s11]) rfl k₀) ?_
                          show F s₁ (mkF m 193 #[.val (.ref a), .val (.int fv), .val (.int lv), .val (.int ev), .val (.int (1 : Int32)), .val (.int av), .val (.int ld), .val (.int (3 : Int32)), .val (.int (128 : Int32)), .val (.int (143 : Int32)), s10, s11] [])
                          refine hst (fun t₀ k₀ => XS.goto XI.here hx rfl (pc0 := 193) (pc' := 199) rfl (hb hby d3_193) (by decide) (by decide) k₀) ?_
                          show F s₁ (mkF m 199 #[.val (.ref a), .val (.int fv), .val (.int lv), .val (.int ev), .val (.int (1 : Int32)), .val (.int av), .val (.int ld), .val (.int (3 : Int32)), .val (.int (128 : Int32)), .val (.int (143 : Int32)), s10, s11] [])
                          simp only [own_lt32, own_eq32] at hc49 hc63 hc71 hc85 hc93 hc143 hc151 hc162 hc180
                          exact J199 _ _ _ _ (Or.inr (Or.inr (Or.inr (Or.inl ⟨rfl, rfl, ⟨fun q => by omega, fun q => by omega⟩, ⟨fun q => by omega, fun q => by omega⟩, by omega, by omega⟩))))
                        · -- pc 180: taken
                          refine hst (fun t₀ k₀ => XS.icmpYes XI.here hx rfl (pc0 := 180) (pc' := 189) rfl (hb hby d3_180) rfl (feq hc180).2 (by decide) (by decide) k₀) ?_
                          show F s₁ (mkF m 189 #[.val (.ref a), .val (.int fv), .val (.int lv), .val (.int ev), .val (.int (1 : Int32)), .val (.int av), .val (.int ld), .val (.int (3 : Int32)), .val (.int (128 : Int32)), .val (.int (191 : Int32)), s10, s11] [])
                          refine hst (fun t₀ k₀ => XS.iload XI.here hx rfl (hb hby d3_189) rfl k₀) ?_
                          show F s₁ (mkF m 191 #[.val (.ref a), .val (.int fv), .val (.int lv), .val (.int ev), .val (.int (1 : Int32)), .val (.int av), .val (.int ld), .val (.int (3 : Int32)), .val (.int (128 : Int32)), .val (.int (191 : Int32)), s10, s11] [(.int (191 : Int32))])
                          refine hst (fun t₀ k₀ => XS.istore XI.here hx rfl (hb hby d3_191) rfl (l' := #[.val (.ref a), .val (.int fv), .val (.int lv), .val (.int ev), .val (.int (1 : Int32)), .val (.int av), .val (.int ld), .val (.int (3 : Int32)), .val (.int (128 : Int32)), .val (.int (191 : Int32)), s10, s11]) rfl k₀) ?_
                          show F s₁ (mkF m 193 #[.val (.ref a), .val (.int fv), .val (.int lv), .val (.int ev), .val (.int (1 : Int32)), .val (.int av), .val (.int ld), .val (.int (3 : Int32)), .val (.int (128 : Int32)), .val (.int (191 : Int32)), s10, s11] [])
                          refine hst (fun t₀ k₀ => XS.goto XI.here hx rfl (pc0 := 193) (pc' := 199) rfl (hb hby d3_193) (by decide) (by decide) k₀) ?_
                          show F s₁ (mkF m 199 #[.val (.ref a), .val (.int fv), .val (.int lv), .val (.int ev), .val (.int (1 : Int32)), .val (.int av), .val (.int ld), .val (.int (3 : Int32)), .val (.int (128 : Int32)), .val (.int (191 : Int32)), s10, s11] [])
                          simp only [own_lt32, own_eq32] at hc49 hc63 hc71 hc85 hc93 hc143 hc151 hc162 hc180
                          exact J199 _ _ _ _ (Or.inr (Or.inr (Or.inr (Or.inl ⟨rfl, rfl, ⟨fun q => by omega, fun q => by omega⟩, ⟨fun q => by omega, fun q => by omega⟩, by omega, by omega⟩))))
                    · -- pc 151: taken
                      refine hst (fun t₀ k₀ => XS.icmpYes XI.here hx rfl (pc0 := 151) (pc' := 196) rfl (hb hby d3_151) rfl (flt hc151).2.1 (by decide) (by decide) k₀) ?_
                      show F s₁ (mkF m 196 #[.val (.ref a), .val (.int fv), .val (.int lv), .val (.int ev), .val (.int (1 : Int32)), .val (.int av), .val (.int ld), .val (.int (0 : Int32)), .val (.int (128 : Int32)), .val (.int (191 : Int32)), s10, s11] [])
                      refine hst (fun t₀ k₀ => XS.iconst XI.here hx rfl (hb hby d3_196) k₀) ?_
                      show F s₁ (mkF m 197 #[.val (.ref a), .val (.int fv), .val (.int lv), .val (.int ev), .val (.int (1 : Int32)), .val (.int av), .val (.int ld), .val (.int (0 : Int32)), .val (.int (128 : Int32)), .val (.int (191 : Int32)), s10, s11] [(.int (0 : Int32))])
                      refine hst (fun t₀ k₀ => XS.istore XI.here hx rfl (hb hby d3_197) rfl (l' := #[.val (.ref a), .val (.int fv), .val (.int lv), .val (.int ev), .val (.int (0 : Int32)), .val (.int av), .val (.int ld), .val (.int (0 : Int32)), .val (.int (128 : Int32)), .val (.int (191 : Int32)), s10, s11]) rfl k₀) ?_
                      show F s₁ (mkF m 199 #[.val (.ref a), .val (.int fv), .val (.int lv), .val (.int ev), .val (.int (0 : Int32)), .val (.int av), .val (.int ld), .val (.int (0 : Int32)), .val (.int (128 : Int32)), .val (.int (191 : Int32)), s10, s11] [])
                      simp only [own_lt32, own_eq32] at hc49 hc63 hc71 hc85 hc93 hc143 hc151
                      exact J199 _ _ _ _ (Or.inr (Or.inr (Or.inr (Or.inr ⟨rfl, rfl, by decide, by decide, by omega⟩))))
      · -- pc 18: taken
        refine hst (fun t₀ k₀ => XS.icmpYes XI.here hx rfl (pc0 := 18) (pc' := 311) rfl (hb hby d3_18) rfl (flt hc18).2.1 (by decide) (by decide) k₀) ?_
        show F s₁ (mkF m 311 #[.val (.ref a), .val (.int fv), .val (.int lv), .val (.int ev), .val (.int (1 : Int32)), .val (.int av), s6, s7, s8, s9, s10, s11] [])
        have q18 : ¬ p' < e' := by rw [own_lt32] at hc18; omega
        refine hst (fun t₀ k₀ => XS.iload XI.here hx rfl (hb hby d3_311) rfl k₀) ?_
        show F s₁ (mkF m 313 #[.val (.ref a), .val (.int fv), .val (.int lv), .val (.int ev), .val (.int (1 : Int32)), .val (.int av), s6, s7, s8, s9, s10, s11] [(.int (1 : Int32))])
        rw [hF]
        refine own_retN XI hx hret (by simp) hlk (hb hby d3_313) (by decide) (by decide) ?_
        rw [eI]
        exact ⟨(by rw [← hw', own_wf_end (own_B g) e' _ p' q18]; rfl), NI, rfl⟩
  exact lp 6 f' _ _ _ _ _ _ _ One.u One.u One.u One.u One.u One.u hf (by omega) (by omega) rfl
theorem pn_0 : plainFor x = true := plainFor_of_name (by first | (simp [plainName, overriddenIn]; done) | decide +kernel)
theorem pd_1 : parseMethodDescriptor "(JII)B" = some ⟨[.long, .int, .int], some .byte⟩ := by decide +kernel
theorem pd_3 : parseMethodDescriptor "([BII)Z" = some ⟨[(.array .byte), .int, .int], some .boolean⟩ := by decide +kernel
theorem ef_0 (m : MethodId) (q1 : Int64) (p2 : Int32) (p3 : Int32) : entryFrame m #[(.long q1), (.int p2), (.int p3)] maxLocals = mkF m 0 #[.val (.long q1), .second, .val (.int p2), .val (.int p3), .unset, .unset, .unset, .unset, .unset, .unset] [] := by first | (simp [entryFrame, mkF, argsToLocals, Value.category, maxLocals]; done) | rfl
def Q0 (Z : State) (q1 : Int64) (p2 : Int32) (p3 : Int32) (hI : Heap) (n0 : Nat) (v : Option Value) (h : Heap) (L : List Loc) : Prop := v = some (.int 1) ∧ Fr n0 L
set_option maxRecDepth 65536 in
set_option maxHeartbeats 40000000 in
theorem rm0 (l : Launch) (Z : State) (a0 : Array Value) (hw : ∀ d ∈ tables_1, d.before a0 Z = true) (ws : List Jvm.Cond) (q1 : Int64) (p2 : Int32) (p3 : Int32) (hI : Heap) (n0 : Nat) (Z0 : n0 ≤ hI.size) :
    MetFree l x (head1 (Jvm.Cond.code x code maxLocals ret :: ws) room_1) (fun a₁ U₁ => a₁ = #[(.long q1), (.int p2), (.int p3)] ∧ Z.Warmed39 U₁.vm ∧ U₁.heap = hI) (fun _ _ _ _ _ => True) (fun _ U₁ o₁ U₂ => ∃ v₁ L₁, o₁ = .returned v₁ ∧ Q0 Z q1 p2 p3 hI n0 v₁ U₂.heap L₁ ∧ FrameEnd U₁ o₁ U₂ L₁ room_1.cells room_1.slots) := by
  refine own_body pn_0 ?_
  intro p e s m below meth c s₁ hx hby hml hown hnm hret hlk hZ XI eI
  have hml : c.maxLocals = 10 := hml
  obtain ⟨F, hF⟩ : ∃ F : State → JFrame → Prop, F = own_Fin p.tables e below s room_1 (Q0 Z q1 p2 p3 hI n0) := ⟨_, rfl⟩
  have hst : ∀ {T T' : State} {g g' : JFrame}, (∀ t, Steps p.tables e below (T'.setTop g') t → Steps p.tables e below (T.setTop g) t) → F T' g' → F T g := by subst hF; exact own_st
  have NI := Fr.nil n0
  show own_Fin p.tables e below s room_1 (Q0 Z q1 p2 p3 hI n0) s₁ (entryFrame m #[(.long q1), (.int p2), (.int p3)] maxLocals)
  rw [← hF]
  rw [ef_0]
  show F s₁ (mkF m 0 #[.val (.long q1), .second, .val (.int p2), .val (.int p3), .unset, .unset, .unset, .unset, .unset, .unset] [])
  have k0 : (0 : Int32).toInt = 0 := by decide
  have k1 : (1 : Int32).toInt = 1 := by decide
  have k3 : (3 : Int32).toInt = 3 := by decide
  have k7 : (7 : Int32).toInt = 7 := by decide
  refine hst (fun t₀ k₀ => XS.bipush XI.here hx rfl (hb hby at_0) k₀) ?_
  show F s₁ (mkF m 2 #[.val (.long q1), .second, .val (.int p2), .val (.int p3), .unset, .unset, .unset, .unset, .unset, .unset] [(.int (6 : Int32))])
  obtain ⟨T2, h2, b2, X2, e2, g2, E2, A2, st2⟩ := own_newarr XI hx hZ (hw _ (List.mem_of_getElem? (i := 0) rfl)) eI (g := (mkF m 2 #[.val (.long q1), .second, .val (.int p2), .val (.int p3), .unset, .unset, .unset, .unset, .unset, .unset] [(.int (6 : Int32))])) rfl (hb hby at_2) rfl (by decide) (cap := 6) (by decide) (by decide) (by decide) (by decide)
  have ge_b2 : n0 ≤ b2 := Nat.le_trans Z0 (Nat.le_of_eq g2.symm)
  have Z0_p2 : n0 ≤ h2.size := (Nat.le_trans Z0 E2.1)
  have A_b2 : own_A Z h2 b2 .byte 6 (fun _ => (.int (0 : Int32))) := A2
  refine hst st2 ?_
  show F T2 (mkF m 4 #[.val (.long q1), .second, .val (.int p2), .val (.int p3), .unset, .unset, .unset, .unset, .unset, .unset] [(.ref b2)])
  refine hst (fun t₀ k₀ => XS.astore X2.here hx rfl (hb hby at_4) rfl rfl (l' := #[.val (.long q1), .second, .val (.int p2), .val (.int p3), .val (.ref b2), .unset, .unset, .unset, .unset, .unset]) rfl k₀) ?_
  show F T2 (mkF m 6 #[.val (.long q1), .second, .val (.int p2), .val (.int p3), .val (.ref b2), .unset, .unset, .unset, .unset, .unset] [])
  refine hst (fun t₀ k₀ => XS.aload X2.here hx rfl (hb hby at_6) rfl rfl k₀) ?_
  show F T2 (mkF m 8 #[.val (.long q1), .second, .val (.int p2), .val (.int p3), .val (.ref b2), .unset, .unset, .unset, .unset, .unset] [(.ref b2)])
  refine hst (fun t₀ k₀ => XS.iconst X2.here hx rfl (hb hby at_8) k₀) ?_
  show F T2 (mkF m 9 #[.val (.long q1), .second, .val (.int p2), .val (.int p3), .val (.ref b2), .unset, .unset, .unset, .unset, .unset] [(.int (0 : Int32)), (.ref b2)])
  refine hst (fun t₀ k₀ => XS.lloadN X2.here hx rfl (hb hby at_9) rfl k₀) ?_
  show F T2 (mkF m 10 #[.val (.long q1), .second, .val (.int p2), .val (.int p3), .val (.ref b2), .unset, .unset, .unset, .unset, .unset] [(.long q1), (.int (0 : Int32)), (.ref b2)])
  refine hst (fun t₀ k₀ => XS.iloadN X2.here hx rfl (hb hby at_10) rfl k₀) ?_
  show F T2 (mkF m 11 #[.val (.long q1), .second, .val (.int p2), .val (.int p3), .val (.ref b2), .unset, .unset, .unset, .unset, .unset] [(.int p2), (.long q1), (.int (0 : Int32)), (.ref b2)])
  refine hst (fun t₀ k₀ => XS.iconst X2.here hx rfl (hb hby at_11) k₀) ?_
  show F T2 (mkF m 12 #[.val (.long q1), .second, .val (.int p2), .val (.int p3), .val (.ref b2), .unset, .unset, .unset, .unset, .unset] [(.int (0 : Int32)), (.int p2), (.long q1), (.int (0 : Int32)), (.ref b2)])
  obtain ⟨v12, T12, Lc12, X12, hQ12, st12⟩ := own_callS X2 hx hZ hown (y := (⟨"com/example/leafline/leafline/table/CodePointOrderWellFormedPinLaw", "drawn", "(JII)B"⟩ : MethodName)) (hw _ (List.mem_of_getElem? (i := 1) rfl)) (hw _ (List.mem_of_getElem? (i := 2) rfl)) (hw _ (List.mem_of_getElem? (i := 3) rfl)) (hw _ (List.mem_of_getElem? (i := 4) rfl)) (by decide) e2 (rm1 l Z a0 hw [] q1 p2 (0 : Int32) h2 n0 Z0_p2 ) (by decide) (by decide) (g := (mkF m 12 #[.val (.long q1), .second, .val (.int p2), .val (.int p3), .val (.ref b2), .unset, .unset, .unset, .unset, .unset] [(.int (0 : Int32)), (.int p2), (.long q1), (.int (0 : Int32)), (.ref b2)])) rfl (by rw [hml]; rfl) (argsL := [(.long q1), (.int p2), (.int (0 : Int32))]) (rest := [(.int (0 : Int32)), (.ref b2)]) (lenOf pd_1 rfl) rfl rfl (W := 2) (by show 2 * 0 + _ ≤ _; exact Nat.le_of_eq rfl) (hb hby at_12) (by decide) (by decide)
  obtain ⟨r12, rfl, Nq12, he12⟩ := hQ12
  have N12 := Fr.app NI Nq12
  refine hst st12 ?_
  show F T12 (mkF m 15 #[.val (.long q1), .second, .val (.int p2), .val (.int p3), .val (.ref b2), .unset, .unset, .unset, .unset, .unset] [(.int r12), (.int (0 : Int32)), (.ref b2)])
  obtain ⟨T15, h15, X15, e15, W15, st15⟩ := own_bastore X12 hx hZ he12 A_b2 (by decide) (g := (mkF m 15 #[.val (.long q1), .second, .val (.int p2), .val (.int p3), .val (.ref b2), .unset, .unset, .unset, .unset, .unset] [(.int r12), (.int (0 : Int32)), (.ref b2)])) rfl rfl (hb hby at_15)
  have N15 := Fr.snoc X15 N12 ge_b2
  have A_b2_p15 : own_A Z h15 b2 .byte 6 (fun i => if i = Int32.toNatClampNeg (0 : Int32) then (.int (nar .byte r12)) else (fun _ => (.int (0 : Int32))) i) := A_b2.set W15
  have Z0_p15 : n0 ≤ h15.size := Nat.le_trans Z0_p2 (Keep.of_wr W15).1
  refine hst st15 ?_
  have A_b2_p15c : own_A Z h15 b2 .byte 6 (fun i => .int (if i = 0 then nar .byte r12 else 0)) := own_A.congr A_b2_p15 (fun i hi => by rw [show Int32.toNatClampNeg (0 : Int32) = 0 from rfl]; dsimp only; split <;> rfl)
  show F T15 (mkF m 16 #[.val (.long q1), .second, .val (.int p2), .val (.int p3), .val (.ref b2), .unset, .unset, .unset, .unset, .unset] [])
  refine hst (fun t₀ k₀ => XS.aload X15.here hx rfl (hb hby at_16) rfl rfl k₀) ?_
  show F T15 (mkF m 18 #[.val (.long q1), .second, .val (.int p2), .val (.int p3), .val (.ref b2), .unset, .unset, .unset, .unset, .unset] [(.ref b2)])
  refine hst (fun t₀ k₀ => XS.iconst X15.here hx rfl (hb hby at_18) k₀) ?_
  show F T15 (mkF m 19 #[.val (.long q1), .second, .val (.int p2), .val (.int p3), .val (.ref b2), .unset, .unset, .unset, .unset, .unset] [(.int (1 : Int32)), (.ref b2)])
  refine hst (fun t₀ k₀ => XS.lloadN X15.here hx rfl (hb hby at_19) rfl k₀) ?_
  show F T15 (mkF m 20 #[.val (.long q1), .second, .val (.int p2), .val (.int p3), .val (.ref b2), .unset, .unset, .unset, .unset, .unset] [(.long q1), (.int (1 : Int32)), (.ref b2)])
  refine hst (fun t₀ k₀ => XS.iloadN X15.here hx rfl (hb hby at_20) rfl k₀) ?_
  show F T15 (mkF m 21 #[.val (.long q1), .second, .val (.int p2), .val (.int p3), .val (.ref b2), .unset, .unset, .unset, .unset, .unset] [(.int p2), (.long q1), (.int (1 : Int32)), (.ref b2)])
  refine hst (fun t₀ k₀ => XS.iconst X15.here hx rfl (hb hby at_21) k₀) ?_
  show F T15 (mkF m 22 #[.val (.long q1), .second, .val (.int p2), .val (.int p3), .val (.ref b2), .unset, .unset, .unset, .unset, .unset] [(.int (1 : Int32)), (.int p2), (.long q1), (.int (1 : Int32)), (.ref b2)])
  obtain ⟨v22, T22, Lc22, X22, hQ22, st22⟩ := own_callS X15 hx hZ hown (y := (⟨"com/example/leafline/leafline/table/CodePointOrderWellFormedPinLaw", "drawn", "(JII)B"⟩ : MethodName)) (hw _ (List.mem_of_getElem? (i := 1) rfl)) (hw _ (List.mem_of_getElem? (i := 2) rfl)) (hw _ (List.mem_of_getElem? (i := 3) rfl)) (hw _ (List.mem_of_getElem? (i := 4) rfl)) (by decide) e15 (rm1 l Z a0 hw [] q1 p2 (1 : Int32) h15 n0 Z0_p15 ) (by decide) (by decide) (g := (mkF m 22 #[.val (.long q1), .second, .val (.int p2), .val (.int p3), .val (.ref b2), .unset, .unset, .unset, .unset, .unset] [(.int (1 : Int32)), (.int p2), (.long q1), (.int (1 : Int32)), (.ref b2)])) rfl (by rw [hml]; rfl) (argsL := [(.long q1), (.int p2), (.int (1 : Int32))]) (rest := [(.int (1 : Int32)), (.ref b2)]) (lenOf pd_1 rfl) rfl rfl (W := 2) (by show 2 * 0 + _ ≤ _; exact Nat.le_of_eq rfl) (hb hby at_22) (by decide) (by decide)
  obtain ⟨r22, rfl, Nq22, he22⟩ := hQ22
  have N22 := Fr.app N15 Nq22
  refine hst st22 ?_
  show F T22 (mkF m 25 #[.val (.long q1), .second, .val (.int p2), .val (.int p3), .val (.ref b2), .unset, .unset, .unset, .unset, .unset] [(.int r22), (.int (1 : Int32)), (.ref b2)])
  obtain ⟨T25, h25, X25, e25, W25, st25⟩ := own_bastore X22 hx hZ he22 A_b2_p15c (by decide) (g := (mkF m 25 #[.val (.long q1), .second, .val (.int p2), .val (.int p3), .val (.ref b2), .unset, .unset, .unset, .unset, .unset] [(.int r22), (.int (1 : Int32)), (.ref b2)])) rfl rfl (hb hby at_25)
  have N25 := Fr.snoc X25 N22 ge_b2
  have A_b2_p25 : own_A Z h25 b2 .byte 6 (fun i => if i = Int32.toNatClampNeg (1 : Int32) then (.int (nar .byte r22)) else (fun i => .int (if i = 0 then nar .byte r12 else 0)) i) := A_b2_p15c.set W25
  have Z0_p25 : n0 ≤ h25.size := Nat.le_trans Z0_p15 (Keep.of_wr W25).1
  refine hst st25 ?_
  have A_b2_p25c : own_A Z h25 b2 .byte 6 (fun i => .int (if i = 1 then nar .byte r22 else (if i = 0 then nar .byte r12 else 0))) := own_A.congr A_b2_p25 (fun i hi => by rw [show Int32.toNatClampNeg (1 : Int32) = 1 from rfl]; split <;> rfl)
  show F T25 (mkF m 26 #[.val (.long q1), .second, .val (.int p2), .val (.int p3), .val (.ref b2), .unset, .unset, .unset, .unset, .unset] [])
  refine hst (fun t₀ k₀ => XS.aload X25.here hx rfl (hb hby at_26) rfl rfl k₀) ?_
  show F T25 (mkF m 28 #[.val (.long q1), .second, .val (.int p2), .val (.int p3), .val (.ref b2), .unset, .unset, .unset, .unset, .unset] [(.ref b2)])
  refine hst (fun t₀ k₀ => XS.iconst X25.here hx rfl (hb hby at_28) k₀) ?_
  show F T25 (mkF m 29 #[.val (.long q1), .second, .val (.int p2), .val (.int p3), .val (.ref b2), .unset, .unset, .unset, .unset, .unset] [(.int (2 : Int32)), (.ref b2)])
  refine hst (fun t₀ k₀ => XS.lloadN X25.here hx rfl (hb hby at_29) rfl k₀) ?_
  show F T25 (mkF m 30 #[.val (.long q1), .second, .val (.int p2), .val (.int p3), .val (.ref b2), .unset, .unset, .unset, .unset, .unset] [(.long q1), (.int (2 : Int32)), (.ref b2)])
  refine hst (fun t₀ k₀ => XS.iloadN X25.here hx rfl (hb hby at_30) rfl k₀) ?_
  show F T25 (mkF m 31 #[.val (.long q1), .second, .val (.int p2), .val (.int p3), .val (.ref b2), .unset, .unset, .unset, .unset, .unset] [(.int p2), (.long q1), (.int (2 : Int32)), (.ref b2)])
  refine hst (fun t₀ k₀ => XS.iconst X25.here hx rfl (hb hby at_31) k₀) ?_
  show F T25 (mkF m 32 #[.val (.long q1), .second, .val (.int p2), .val (.int p3), .val (.ref b2), .unset, .unset, .unset, .unset, .unset] [(.int (2 : Int32)), (.int p2), (.long q1), (.int (2 : Int32)), (.ref b2)])
  obtain ⟨v32, T32, Lc32, X32, hQ32, st32⟩ := own_callS X25 hx hZ hown (y := (⟨"com/example/leafline/leafline/table/CodePointOrderWellFormedPinLaw", "drawn", "(JII)B"⟩ : MethodName)) (hw _ (List.mem_of_getElem? (i := 1) rfl)) (hw _ (List.mem_of_getElem? (i := 2) rfl)) (hw _ (List.mem_of_getElem? (i := 3) rfl)) (hw _ (List.mem_of_getElem? (i := 4) rfl)) (by decide) e25 (rm1 l Z a0 hw [] q1 p2 (2 : Int32) h25 n0 Z0_p25 ) (by decide) (by decide) (g := (mkF m 32 #[.val (.long q1), .second, .val (.int p2), .val (.int p3), .val (.ref b2), .unset, .unset, .unset, .unset, .unset] [(.int (2 : Int32)), (.int p2), (.long q1), (.int (2 : Int32)), (.ref b2)])) rfl (by rw [hml]; rfl) (argsL := [(.long q1), (.int p2), (.int (2 : Int32))]) (rest := [(.int (2 : Int32)), (.ref b2)]) (lenOf pd_1 rfl) rfl rfl (W := 2) (by show 2 * 0 + _ ≤ _; exact Nat.le_of_eq rfl) (hb hby at_32) (by decide) (by decide)
  obtain ⟨r32, rfl, Nq32, he32⟩ := hQ32
  have N32 := Fr.app N25 Nq32
  refine hst st32 ?_
  show F T32 (mkF m 35 #[.val (.long q1), .second, .val (.int p2), .val (.int p3), .val (.ref b2), .unset, .unset, .unset, .unset, .unset] [(.int r32), (.int (2 : Int32)), (.ref b2)])
  obtain ⟨T35, h35, X35, e35, W35, st35⟩ := own_bastore X32 hx hZ he32 A_b2_p25c (by decide) (g := (mkF m 35 #[.val (.long q1), .second, .val (.int p2), .val (.int p3), .val (.ref b2), .unset, .unset, .unset, .unset, .unset] [(.int r32), (.int (2 : Int32)), (.ref b2)])) rfl rfl (hb hby at_35)
  have N35 := Fr.snoc X35 N32 ge_b2
  have A_b2_p35 : own_A Z h35 b2 .byte 6 (fun i => if i = Int32.toNatClampNeg (2 : Int32) then (.int (nar .byte r32)) else (fun i => .int (if i = 1 then nar .byte r22 else (if i = 0 then nar .byte r12 else 0))) i) := A_b2_p25c.set W35
  have Z0_p35 : n0 ≤ h35.size := Nat.le_trans Z0_p25 (Keep.of_wr W35).1
  refine hst st35 ?_
  have A_b2_p35c : own_A Z h35 b2 .byte 6 (fun i => .int (if i = 2 then nar .byte r32 else (if i = 1 then nar .byte r22 else (if i = 0 then nar .byte r12 else 0)))) := own_A.congr A_b2_p35 (fun i hi => by rw [show Int32.toNatClampNeg (2 : Int32) = 2 from rfl]; split <;> rfl)
  show F T35 (mkF m 36 #[.val (.long q1), .second, .val (.int p2), .val (.int p3), .val (.ref b2), .unset, .unset, .unset, .unset, .unset] [])
  refine hst (fun t₀ k₀ => XS.aload X35.here hx rfl (hb hby at_36) rfl rfl k₀) ?_
  show F T35 (mkF m 38 #[.val (.long q1), .second, .val (.int p2), .val (.int p3), .val (.ref b2), .unset, .unset, .unset, .unset, .unset] [(.ref b2)])
  refine hst (fun t₀ k₀ => XS.iconst X35.here hx rfl (hb hby at_38) k₀) ?_
  show F T35 (mkF m 39 #[.val (.long q1), .second, .val (.int p2), .val (.int p3), .val (.ref b2), .unset, .unset, .unset, .unset, .unset] [(.int (3 : Int32)), (.ref b2)])
  refine hst (fun t₀ k₀ => XS.lloadN X35.here hx rfl (hb hby at_39) rfl k₀) ?_
  show F T35 (mkF m 40 #[.val (.long q1), .second, .val (.int p2), .val (.int p3), .val (.ref b2), .unset, .unset, .unset, .unset, .unset] [(.long q1), (.int (3 : Int32)), (.ref b2)])
  refine hst (fun t₀ k₀ => XS.iloadN X35.here hx rfl (hb hby at_40) rfl k₀) ?_
  show F T35 (mkF m 41 #[.val (.long q1), .second, .val (.int p2), .val (.int p3), .val (.ref b2), .unset, .unset, .unset, .unset, .unset] [(.int p2), (.long q1), (.int (3 : Int32)), (.ref b2)])
  refine hst (fun t₀ k₀ => XS.iconst X35.here hx rfl (hb hby at_41) k₀) ?_
  show F T35 (mkF m 42 #[.val (.long q1), .second, .val (.int p2), .val (.int p3), .val (.ref b2), .unset, .unset, .unset, .unset, .unset] [(.int (3 : Int32)), (.int p2), (.long q1), (.int (3 : Int32)), (.ref b2)])
  obtain ⟨v42, T42, Lc42, X42, hQ42, st42⟩ := own_callS X35 hx hZ hown (y := (⟨"com/example/leafline/leafline/table/CodePointOrderWellFormedPinLaw", "drawn", "(JII)B"⟩ : MethodName)) (hw _ (List.mem_of_getElem? (i := 1) rfl)) (hw _ (List.mem_of_getElem? (i := 2) rfl)) (hw _ (List.mem_of_getElem? (i := 3) rfl)) (hw _ (List.mem_of_getElem? (i := 4) rfl)) (by decide) e35 (rm1 l Z a0 hw [] q1 p2 (3 : Int32) h35 n0 Z0_p35 ) (by decide) (by decide) (g := (mkF m 42 #[.val (.long q1), .second, .val (.int p2), .val (.int p3), .val (.ref b2), .unset, .unset, .unset, .unset, .unset] [(.int (3 : Int32)), (.int p2), (.long q1), (.int (3 : Int32)), (.ref b2)])) rfl (by rw [hml]; rfl) (argsL := [(.long q1), (.int p2), (.int (3 : Int32))]) (rest := [(.int (3 : Int32)), (.ref b2)]) (lenOf pd_1 rfl) rfl rfl (W := 2) (by show 2 * 0 + _ ≤ _; exact Nat.le_of_eq rfl) (hb hby at_42) (by decide) (by decide)
  obtain ⟨r42, rfl, Nq42, he42⟩ := hQ42
  have N42 := Fr.app N35 Nq42
  refine hst st42 ?_
  show F T42 (mkF m 45 #[.val (.long q1), .second, .val (.int p2), .val (.int p3), .val (.ref b2), .unset, .unset, .unset, .unset, .unset] [(.int r42), (.int (3 : Int32)), (.ref b2)])
  obtain ⟨T45, h45, X45, e45, W45, st45⟩ := own_bastore X42 hx hZ he42 A_b2_p35c (by decide) (g := (mkF m 45 #[.val (.long q1), .second, .val (.int p2), .val (.int p3), .val (.ref b2), .unset, .unset, .unset, .unset, .unset] [(.int r42), (.int (3 : Int32)), (.ref b2)])) rfl rfl (hb hby at_45)
  have N45 := Fr.snoc X45 N42 ge_b2
  have A_b2_p45 : own_A Z h45 b2 .byte 6 (fun i => if i = Int32.toNatClampNeg (3 : Int32) then (.int (nar .byte r42)) else (fun i => .int (if i = 2 then nar .byte r32 else (if i = 1 then nar .byte r22 else (if i = 0 then nar .byte r12 else 0)))) i) := A_b2_p35c.set W45
  have Z0_p45 : n0 ≤ h45.size := Nat.le_trans Z0_p35 (Keep.of_wr W45).1
  refine hst st45 ?_
  have A_b2_p45c : own_A Z h45 b2 .byte 6 (fun i => .int (if i = 3 then nar .byte r42 else (if i = 2 then nar .byte r32 else (if i = 1 then nar .byte r22 else (if i = 0 then nar .byte r12 else 0))))) := own_A.congr A_b2_p45 (fun i hi => by rw [show Int32.toNatClampNeg (3 : Int32) = 3 from rfl]; split <;> rfl)
  show F T45 (mkF m 46 #[.val (.long q1), .second, .val (.int p2), .val (.int p3), .val (.ref b2), .unset, .unset, .unset, .unset, .unset] [])
  refine hst (fun t₀ k₀ => XS.aload X45.here hx rfl (hb hby at_46) rfl rfl k₀) ?_
  show F T45 (mkF m 48 #[.val (.long q1), .second, .val (.int p2), .val (.int p3), .val (.ref b2), .unset, .unset, .unset, .unset, .unset] [(.ref b2)])
  refine hst (fun t₀ k₀ => XS.iconst X45.here hx rfl (hb hby at_48) k₀) ?_
  show F T45 (mkF m 49 #[.val (.long q1), .second, .val (.int p2), .val (.int p3), .val (.ref b2), .unset, .unset, .unset, .unset, .unset] [(.int (4 : Int32)), (.ref b2)])
  refine hst (fun t₀ k₀ => XS.lloadN X45.here hx rfl (hb hby at_49) rfl k₀) ?_
  show F T45 (mkF m 50 #[.val (.long q1), .second, .val (.int p2), .val (.int p3), .val (.ref b2), .unset, .unset, .unset, .unset, .unset] [(.long q1), (.int (4 : Int32)), (.ref b2)])
  refine hst (fun t₀ k₀ => XS.iloadN X45.here hx rfl (hb hby at_50) rfl k₀) ?_
  show F T45 (mkF m 51 #[.val (.long q1), .second, .val (.int p2), .val (.int p3), .val (.ref b2), .unset, .unset, .unset, .unset, .unset] [(.int p2), (.long q1), (.int (4 : Int32)), (.ref b2)])
  refine hst (fun t₀ k₀ => XS.iconst X45.here hx rfl (hb hby at_51) k₀) ?_
  show F T45 (mkF m 52 #[.val (.long q1), .second, .val (.int p2), .val (.int p3), .val (.ref b2), .unset, .unset, .unset, .unset, .unset] [(.int (4 : Int32)), (.int p2), (.long q1), (.int (4 : Int32)), (.ref b2)])
  obtain ⟨v52, T52, Lc52, X52, hQ52, st52⟩ := own_callS X45 hx hZ hown (y := (⟨"com/example/leafline/leafline/table/CodePointOrderWellFormedPinLaw", "drawn", "(JII)B"⟩ : MethodName)) (hw _ (List.mem_of_getElem? (i := 1) rfl)) (hw _ (List.mem_of_getElem? (i := 2) rfl)) (hw _ (List.mem_of_getElem? (i := 3) rfl)) (hw _ (List.mem_of_getElem? (i := 4) rfl)) (by decide) e45 (rm1 l Z a0 hw [] q1 p2 (4 : Int32) h45 n0 Z0_p45 ) (by decide) (by decide) (g := (mkF m 52 #[.val (.long q1), .second, .val (.int p2), .val (.int p3), .val (.ref b2), .unset, .unset, .unset, .unset, .unset] [(.int (4 : Int32)), (.int p2), (.long q1), (.int (4 : Int32)), (.ref b2)])) rfl (by rw [hml]; rfl) (argsL := [(.long q1), (.int p2), (.int (4 : Int32))]) (rest := [(.int (4 : Int32)), (.ref b2)]) (lenOf pd_1 rfl) rfl rfl (W := 2) (by show 2 * 0 + _ ≤ _; exact Nat.le_of_eq rfl) (hb hby at_52) (by decide) (by decide)
  obtain ⟨r52, rfl, Nq52, he52⟩ := hQ52
  have N52 := Fr.app N45 Nq52
  refine hst st52 ?_
  show F T52 (mkF m 55 #[.val (.long q1), .second, .val (.int p2), .val (.int p3), .val (.ref b2), .unset, .unset, .unset, .unset, .unset] [(.int r52), (.int (4 : Int32)), (.ref b2)])
  obtain ⟨T55, h55, X55, e55, W55, st55⟩ := own_bastore X52 hx hZ he52 A_b2_p45c (by decide) (g := (mkF m 55 #[.val (.long q1), .second, .val (.int p2), .val (.int p3), .val (.ref b2), .unset, .unset, .unset, .unset, .unset] [(.int r52), (.int (4 : Int32)), (.ref b2)])) rfl rfl (hb hby at_55)
  have N55 := Fr.snoc X55 N52 ge_b2
  have A_b2_p55 : own_A Z h55 b2 .byte 6 (fun i => if i = Int32.toNatClampNeg (4 : Int32) then (.int (nar .byte r52)) else (fun i => .int (if i = 3 then nar .byte r42 else (if i = 2 then nar .byte r32 else (if i = 1 then nar .byte r22 else (if i = 0 then nar .byte r12 else 0))))) i) := A_b2_p45c.set W55
  have Z0_p55 : n0 ≤ h55.size := Nat.le_trans Z0_p45 (Keep.of_wr W55).1
  refine hst st55 ?_
  have A_b2_p55c : own_A Z h55 b2 .byte 6 (fun i => .int (if i = 4 then nar .byte r52 else (if i = 3 then nar .byte r42 else (if i = 2 then nar .byte r32 else (if i = 1 then nar .byte r22 else (if i = 0 then nar .byte r12 else 0)))))) := own_A.congr A_b2_p55 (fun i hi => by rw [show Int32.toNatClampNeg (4 : Int32) = 4 from rfl]; split <;> rfl)
  show F T55 (mkF m 56 #[.val (.long q1), .second, .val (.int p2), .val (.int p3), .val (.ref b2), .unset, .unset, .unset, .unset, .unset] [])
  refine hst (fun t₀ k₀ => XS.aload X55.here hx rfl (hb hby at_56) rfl rfl k₀) ?_
  show F T55 (mkF m 58 #[.val (.long q1), .second, .val (.int p2), .val (.int p3), .val (.ref b2), .unset, .unset, .unset, .unset, .unset] [(.ref b2)])
  refine hst (fun t₀ k₀ => XS.iconst X55.here hx rfl (hb hby at_58) k₀) ?_
  show F T55 (mkF m 59 #[.val (.long q1), .second, .val (.int p2), .val (.int p3), .val (.ref b2), .unset, .unset, .unset, .unset, .unset] [(.int (5 : Int32)), (.ref b2)])
  refine hst (fun t₀ k₀ => XS.lloadN X55.here hx rfl (hb hby at_59) rfl k₀) ?_
  show F T55 (mkF m 60 #[.val (.long q1), .second, .val (.int p2), .val (.int p3), .val (.ref b2), .unset, .unset, .unset, .unset, .unset] [(.long q1), (.int (5 : Int32)), (.ref b2)])
  refine hst (fun t₀ k₀ => XS.iloadN X55.here hx rfl (hb hby at_60) rfl k₀) ?_
  show F T55 (mkF m 61 #[.val (.long q1), .second, .val (.int p2), .val (.int p3), .val (.ref b2), .unset, .unset, .unset, .unset, .unset] [(.int p2), (.long q1), (.int (5 : Int32)), (.ref b2)])
  refine hst (fun t₀ k₀ => XS.iconst X55.here hx rfl (hb hby at_61) k₀) ?_
  show F T55 (mkF m 62 #[.val (.long q1), .second, .val (.int p2), .val (.int p3), .val (.ref b2), .unset, .unset, .unset, .unset, .unset] [(.int (5 : Int32)), (.int p2), (.long q1), (.int (5 : Int32)), (.ref b2)])
  obtain ⟨v62, T62, Lc62, X62, hQ62, st62⟩ := own_callS X55 hx hZ hown (y := (⟨"com/example/leafline/leafline/table/CodePointOrderWellFormedPinLaw", "drawn", "(JII)B"⟩ : MethodName)) (hw _ (List.mem_of_getElem? (i := 1) rfl)) (hw _ (List.mem_of_getElem? (i := 2) rfl)) (hw _ (List.mem_of_getElem? (i := 3) rfl)) (hw _ (List.mem_of_getElem? (i := 4) rfl)) (by decide) e55 (rm1 l Z a0 hw [] q1 p2 (5 : Int32) h55 n0 Z0_p55 ) (by decide) (by decide) (g := (mkF m 62 #[.val (.long q1), .second, .val (.int p2), .val (.int p3), .val (.ref b2), .unset, .unset, .unset, .unset, .unset] [(.int (5 : Int32)), (.int p2), (.long q1), (.int (5 : Int32)), (.ref b2)])) rfl (by rw [hml]; rfl) (argsL := [(.long q1), (.int p2), (.int (5 : Int32))]) (rest := [(.int (5 : Int32)), (.ref b2)]) (lenOf pd_1 rfl) rfl rfl (W := 2) (by show 2 * 0 + _ ≤ _; exact Nat.le_of_eq rfl) (hb hby at_62) (by decide) (by decide)
  obtain ⟨r62, rfl, Nq62, he62⟩ := hQ62
  have N62 := Fr.app N55 Nq62
  refine hst st62 ?_
  show F T62 (mkF m 65 #[.val (.long q1), .second, .val (.int p2), .val (.int p3), .val (.ref b2), .unset, .unset, .unset, .unset, .unset] [(.int r62), (.int (5 : Int32)), (.ref b2)])
  obtain ⟨T65, h65, X65, e65, W65, st65⟩ := own_bastore X62 hx hZ he62 A_b2_p55c (by decide) (g := (mkF m 65 #[.val (.long q1), .second, .val (.int p2), .val (.int p3), .val (.ref b2), .unset, .unset, .unset, .unset, .unset] [(.int r62), (.int (5 : Int32)), (.ref b2)])) rfl rfl (hb hby at_65)
  have N65 := Fr.snoc X65 N62 ge_b2
  have A_b2_p65 : own_A Z h65 b2 .byte 6 (fun i => if i = Int32.toNatClampNeg (5 : Int32) then (.int (nar .byte r62)) else (fun i => .int (if i = 4 then nar .byte r52 else (if i = 3 then nar .byte r42 else (if i = 2 then nar .byte r32 else (if i = 1 then nar .byte r22 else (if i = 0 then nar .byte r12 else 0)))))) i) := A_b2_p55c.set W65
  have Z0_p65 : n0 ≤ h65.size := Nat.le_trans Z0_p55 (Keep.of_wr W65).1
  refine hst st65 ?_
  have A_b2_p65c : own_A Z h65 b2 .byte 6 (fun i => .int (if i = 5 then nar .byte r62 else (if i = 4 then nar .byte r52 else (if i = 3 then nar .byte r42 else (if i = 2 then nar .byte r32 else (if i = 1 then nar .byte r22 else (if i = 0 then nar .byte r12 else 0))))))) := own_A.congr A_b2_p65 (fun i hi => by rw [show Int32.toNatClampNeg (5 : Int32) = 5 from rfl]; split <;> rfl)
  show F T65 (mkF m 66 #[.val (.long q1), .second, .val (.int p2), .val (.int p3), .val (.ref b2), .unset, .unset, .unset, .unset, .unset] [])
  obtain ⟨g, hg⟩ : ∃ g : Nat → Int32, g = fun i => (if i = 5 then nar .byte r62 else (if i = 4 then nar .byte r52 else (if i = 3 then nar .byte r42 else (if i = 2 then nar .byte r32 else (if i = 1 then nar .byte r22 else (if i = 0 then nar .byte r12 else 0)))))) := ⟨_, rfl⟩
  have Ag : own_A Z h65 b2 .byte 6 (fun i => .int (g i)) := own_A.congr A_b2_p65c (fun i hi => by rw [hg])
  refine hst (fun t₀ k₀ => XS.iloadN X65.here hx rfl (hb hby at_66) rfl k₀) ?_
  show F T65 (mkF m 67 #[.val (.long q1), .second, .val (.int p2), .val (.int p3), .val (.ref b2), .unset, .unset, .unset, .unset, .unset] [(.int p3)])
  refine hst (fun t₀ k₀ => XS.iconst X65.here hx rfl (hb hby at_67) k₀) ?_
  show F T65 (mkF m 68 #[.val (.long q1), .second, .val (.int p2), .val (.int p3), .val (.ref b2), .unset, .unset, .unset, .unset, .unset] [(.int (3 : Int32)), (.int p3)])
  refine hst (fun t₀ k₀ => XS.iand X65.here hx rfl (hb hby at_68) rfl k₀) ?_
  show F T65 (mkF m 69 #[.val (.long q1), .second, .val (.int p2), .val (.int p3), .val (.ref b2), .unset, .unset, .unset, .unset, .unset] [(.int (p3 &&& (3 : Int32)))])
  refine hst (fun t₀ k₀ => XS.iconst X65.here hx rfl (hb hby at_69) k₀) ?_
  show F T65 (mkF m 70 #[.val (.long q1), .second, .val (.int p2), .val (.int p3), .val (.ref b2), .unset, .unset, .unset, .unset, .unset] [(.int (3 : Int32)), (.int (p3 &&& (3 : Int32)))])
  refine hst (fun t₀ k₀ => iremM X65 hx rfl (hb hby at_70) rfl (by decide) k₀) ?_
  show F T65 (mkF m 71 #[.val (.long q1), .second, .val (.int p2), .val (.int p3), .val (.ref b2), .unset, .unset, .unset, .unset, .unset] [(.int ((p3 &&& (3 : Int32)) % (3 : Int32)))])
  generalize hfv : ((p3 &&& (3 : Int32)) % (3 : Int32)) = fv
  show F T65 (mkF m 71 #[.val (.long q1), .second, .val (.int p2), .val (.int p3), .val (.ref b2), .unset, .unset, .unset, .unset, .unset] [(.int fv)])
  obtain ⟨f', hf, hf2⟩ : ∃ f' : Nat, fv.toInt = f' ∧ f' ≤ 2 := by
    have h1 := c_mask p3 3 2 (by decide) (by decide); have h2 := (c_irem (p3 &&& 3) 3 3 (by decide)).1 (by omega); rw [hfv] at h2; exact ⟨fv.toInt.toNat, by omega, by omega⟩
  refine hst (fun t₀ k₀ => XS.istore X65.here hx rfl (hb hby at_71) rfl (l' := #[.val (.long q1), .second, .val (.int p2), .val (.int p3), .val (.ref b2), .val (.int fv), .unset, .unset, .unset, .unset]) rfl k₀) ?_
  show F T65 (mkF m 73 #[.val (.long q1), .second, .val (.int p2), .val (.int p3), .val (.ref b2), .val (.int fv), .unset, .unset, .unset, .unset] [])
  refine hst (fun t₀ k₀ => XS.iloadN X65.here hx rfl (hb hby at_73) rfl k₀) ?_
  show F T65 (mkF m 74 #[.val (.long q1), .second, .val (.int p2), .val (.int p3), .val (.ref b2), .val (.int fv), .unset, .unset, .unset, .unset] [(.int p3)])
  refine hst (fun t₀ k₀ => XS.iconst X65.here hx rfl (hb hby at_74) k₀) ?_
  show F T65 (mkF m 75 #[.val (.long q1), .second, .val (.int p2), .val (.int p3), .val (.ref b2), .val (.int fv), .unset, .unset, .unset, .unset] [(.int (2 : Int32)), (.int p3)])
  refine hst (fun t₀ k₀ => XS.iushr X65.here hx rfl (hb hby at_75) rfl k₀) ?_
  show F T65 (mkF m 76 #[.val (.long q1), .second, .val (.int p2), .val (.int p3), .val (.ref b2), .val (.int fv), .unset, .unset, .unset, .unset] [(.int ((p3.toUInt32 >>> ((2 : Int32) &&& 31).toUInt32).toInt32))])
  generalize hus : ((p3.toUInt32 >>> ((2 : Int32) &&& 31).toUInt32).toInt32) = us
  show F T65 (mkF m 76 #[.val (.long q1), .second, .val (.int p2), .val (.int p3), .val (.ref b2), .val (.int fv), .unset, .unset, .unset, .unset] [(.int us)])
  refine hst (fun t₀ k₀ => XS.bipush X65.here hx rfl (hb hby at_76) k₀) ?_
  show F T65 (mkF m 78 #[.val (.long q1), .second, .val (.int p2), .val (.int p3), .val (.ref b2), .val (.int fv), .unset, .unset, .unset, .unset] [(.int (7 : Int32)), (.int us)])
  refine hst (fun t₀ k₀ => XS.iand X65.here hx rfl (hb hby at_78) rfl k₀) ?_
  show F T65 (mkF m 79 #[.val (.long q1), .second, .val (.int p2), .val (.int p3), .val (.ref b2), .val (.int fv), .unset, .unset, .unset, .unset] [(.int (us &&& (7 : Int32)))])
  generalize hum : (us &&& (7 : Int32)) = um
  show F T65 (mkF m 79 #[.val (.long q1), .second, .val (.int p2), .val (.int p3), .val (.ref b2), .val (.int fv), .unset, .unset, .unset, .unset] [(.int um)])
  have kum := c_mask us 7 3 (by decide) (by decide)
  rw [hum] at kum
  refine hst (fun t₀ k₀ => XS.bipush X65.here hx rfl (hb hby at_79) k₀) ?_
  show F T65 (mkF m 81 #[.val (.long q1), .second, .val (.int p2), .val (.int p3), .val (.ref b2), .val (.int fv), .unset, .unset, .unset, .unset] [(.int (7 : Int32)), (.int um)])
  refine hst (fun t₀ k₀ => XS.iload X65.here hx rfl (hb hby at_81) rfl k₀) ?_
  show F T65 (mkF m 83 #[.val (.long q1), .second, .val (.int p2), .val (.int p3), .val (.ref b2), .val (.int fv), .unset, .unset, .unset, .unset] [(.int fv), (.int (7 : Int32)), (.int um)])
  refine hst (fun t₀ k₀ => XS.isub X65.here hx rfl (hb hby at_83) rfl k₀) ?_
  show F T65 (mkF m 84 #[.val (.long q1), .second, .val (.int p2), .val (.int p3), .val (.ref b2), .val (.int fv), .unset, .unset, .unset, .unset] [(.int ((7 : Int32) - fv)), (.int um)])
  generalize hdv : ((7 : Int32) - fv) = dv
  show F T65 (mkF m 84 #[.val (.long q1), .second, .val (.int p2), .val (.int p3), .val (.ref b2), .val (.int fv), .unset, .unset, .unset, .unset] [(.int dv), (.int um)])
  have kdv : dv.toInt = ((7 - f' : Nat) : Int) := by have h1 := c_isub 7 fv; have h2 := rng32 dv; rw [hdv] at h1; omega
  refine hst (fun t₀ k₀ => iremM X65 hx rfl (hb hby at_84) rfl (fun q => by rw [own_eq32] at q; omega) k₀) ?_
  show F T65 (mkF m 85 #[.val (.long q1), .second, .val (.int p2), .val (.int p3), .val (.ref b2), .val (.int fv), .unset, .unset, .unset, .unset] [(.int (um % dv))])
  generalize hlv : (um % dv) = lv
  show F T65 (mkF m 85 #[.val (.long q1), .second, .val (.int p2), .val (.int p3), .val (.ref b2), .val (.int fv), .unset, .unset, .unset, .unset] [(.int lv)])
  obtain ⟨l', hl, hl2⟩ : ∃ l' : Nat, lv.toInt = l' ∧ f' + l' ≤ 6 := by
    have h2 := (c_iremV um dv).1 (by omega) (by omega); rw [hlv] at h2; exact ⟨lv.toInt.toNat, by omega, by omega⟩
  refine hst (fun t₀ k₀ => XS.istore X65.here hx rfl (hb hby at_85) rfl (l' := #[.val (.long q1), .second, .val (.int p2), .val (.int p3), .val (.ref b2), .val (.int fv), .val (.int lv), .unset, .unset, .unset]) rfl k₀) ?_
  show F T65 (mkF m 87 #[.val (.long q1), .second, .val (.int p2), .val (.int p3), .val (.ref b2), .val (.int fv), .val (.int lv), .unset, .unset, .unset] [])
  refine hst (fun t₀ k₀ => XS.iload X65.here hx rfl (hb hby at_87) rfl k₀) ?_
  show F T65 (mkF m 89 #[.val (.long q1), .second, .val (.int p2), .val (.int p3), .val (.ref b2), .val (.int fv), .val (.int lv), .unset, .unset, .unset] [(.int fv)])
  refine hst (fun t₀ k₀ => XS.iload X65.here hx rfl (hb hby at_89) rfl k₀) ?_
  show F T65 (mkF m 91 #[.val (.long q1), .second, .val (.int p2), .val (.int p3), .val (.ref b2), .val (.int fv), .val (.int lv), .unset, .unset, .unset] [(.int lv), (.int fv)])
  refine hst (fun t₀ k₀ => XS.iadd X65.here hx rfl (hb hby at_91) rfl k₀) ?_
  show F T65 (mkF m 92 #[.val (.long q1), .second, .val (.int p2), .val (.int p3), .val (.ref b2), .val (.int fv), .val (.int lv), .unset, .unset, .unset] [(.int (fv + lv))])
  generalize hev : (fv + lv) = ev
  show F T65 (mkF m 92 #[.val (.long q1), .second, .val (.int p2), .val (.int p3), .val (.ref b2), .val (.int fv), .val (.int lv), .unset, .unset, .unset] [(.int ev)])
  have he : ev.toInt = ((f' + l' : Nat) : Int) := by have h1 := c_iadd fv lv; have h2 := rng32 ev; rw [hev] at h1; omega
  refine hst (fun t₀ k₀ => XS.istore X65.here hx rfl (hb hby at_92) rfl (l' := #[.val (.long q1), .second, .val (.int p2), .val (.int p3), .val (.ref b2), .val (.int fv), .val (.int lv), .val (.int ev), .unset, .unset]) rfl k₀) ?_
  show F T65 (mkF m 94 #[.val (.long q1), .second, .val (.int p2), .val (.int p3), .val (.ref b2), .val (.int fv), .val (.int lv), .val (.int ev), .unset, .unset] [])
  refine hst (fun t₀ k₀ => XS.iload X65.here hx rfl (hb hby at_94) rfl k₀) ?_
  show F T65 (mkF m 96 #[.val (.long q1), .second, .val (.int p2), .val (.int p3), .val (.ref b2), .val (.int fv), .val (.int lv), .val (.int ev), .unset, .unset] [(.int fv)])
  refine hst (fun t₀ k₀ => XS.istore X65.here hx rfl (hb hby at_96) rfl (l' := #[.val (.long q1), .second, .val (.int p2), .val (.int p3), .val (.ref b2), .val (.int fv), .val (.int lv), .val (.int ev), .val (.int fv), .unset]) rfl k₀) ?_
  show F T65 (mkF m 98 #[.val (.long q1), .second, .val (.int p2), .val (.int p3), .val (.ref b2), .val (.int fv), .val (.int lv), .val (.int ev), .val (.int fv), .unset] [])
  refine hst (fun t₀ k₀ => XS.aload X65.here hx rfl (hb hby at_98) rfl rfl k₀) ?_
  show F T65 (mkF m 100 #[.val (.long q1), .second, .val (.int p2), .val (.int p3), .val (.ref b2), .val (.int fv), .val (.int lv), .val (.int ev), .val (.int fv), .unset] [(.ref b2)])
  refine hst (fun t₀ k₀ => XS.iload X65.here hx rfl (hb hby at_100) rfl k₀) ?_
  show F T65 (mkF m 102 #[.val (.long q1), .second, .val (.int p2), .val (.int p3), .val (.ref b2), .val (.int fv), .val (.int lv), .val (.int ev), .val (.int fv), .unset] [(.int fv), (.ref b2)])
  refine hst (fun t₀ k₀ => XS.iload X65.here hx rfl (hb hby at_102) rfl k₀) ?_
  show F T65 (mkF m 104 #[.val (.long q1), .second, .val (.int p2), .val (.int p3), .val (.ref b2), .val (.int fv), .val (.int lv), .val (.int ev), .val (.int fv), .unset] [(.int ev), (.int fv), (.ref b2)])
  obtain ⟨v104, T104, Lc104, X104, hQ104, st104⟩ := own_callS X65 hx hZ hown (y := (⟨"com/example/leafline/leafline/table/CodePointOrderWellFormedPinLaw", "advance", "([BII)I"⟩ : MethodName)) (hw _ (List.mem_of_getElem? (i := 5) rfl)) (hw _ (List.mem_of_getElem? (i := 6) rfl)) (hw _ (List.mem_of_getElem? (i := 3) rfl)) (hw _ (List.mem_of_getElem? (i := 7) rfl)) (by decide) e65 (rm2 l Z a0 hw [] b2 fv ev g (f' : Int) (f' + l') h65 n0 Z0_p65 Ag hf he hl2) (by decide) (by decide) (g := (mkF m 104 #[.val (.long q1), .second, .val (.int p2), .val (.int p3), .val (.ref b2), .val (.int fv), .val (.int lv), .val (.int ev), .val (.int fv), .unset] [(.int ev), (.int fv), (.ref b2)])) rfl (by rw [hml]; rfl) (argsL := [(.ref b2), (.int fv), (.int ev)]) (rest := []) (lenOf pd_2 rfl) rfl rfl (W := 0) (by show 2 * 0 + _ ≤ _; exact Nat.le_of_eq rfl) (hb hby at_104) (by decide) (by decide)
  obtain ⟨r104, rfl, Nq104, he104, hr_104⟩ := hQ104
  have N104 := Fr.app N65 Nq104
  refine hst st104 ?_
  show F T104 (mkF m 107 #[.val (.long q1), .second, .val (.int p2), .val (.int p3), .val (.ref b2), .val (.int fv), .val (.int lv), .val (.int ev), .val (.int fv), .unset] [(.int r104)])
  refine hst (fun t₀ k₀ => XS.istore X104.here hx rfl (hb hby at_107) rfl (l' := #[.val (.long q1), .second, .val (.int p2), .val (.int p3), .val (.ref b2), .val (.int fv), .val (.int lv), .val (.int ev), .val (.int r104), .unset]) rfl k₀) ?_
  show F T104 (mkF m 109 #[.val (.long q1), .second, .val (.int p2), .val (.int p3), .val (.ref b2), .val (.int fv), .val (.int lv), .val (.int ev), .val (.int r104), .unset] [])
  refine hst (fun t₀ k₀ => XS.aload X104.here hx rfl (hb hby at_109) rfl rfl k₀) ?_
  show F T104 (mkF m 111 #[.val (.long q1), .second, .val (.int p2), .val (.int p3), .val (.ref b2), .val (.int fv), .val (.int lv), .val (.int ev), .val (.int r104), .unset] [(.ref b2)])
  refine hst (fun t₀ k₀ => XS.iload X104.here hx rfl (hb hby at_111) rfl k₀) ?_
  show F T104 (mkF m 113 #[.val (.long q1), .second, .val (.int p2), .val (.int p3), .val (.ref b2), .val (.int fv), .val (.int lv), .val (.int ev), .val (.int r104), .unset] [(.int r104), (.ref b2)])
  refine hst (fun t₀ k₀ => XS.iload X104.here hx rfl (hb hby at_113) rfl k₀) ?_
  show F T104 (mkF m 115 #[.val (.long q1), .second, .val (.int p2), .val (.int p3), .val (.ref b2), .val (.int fv), .val (.int lv), .val (.int ev), .val (.int r104), .unset] [(.int ev), (.int r104), (.ref b2)])
  obtain ⟨v115, T115, Lc115, X115, hQ115, st115⟩ := own_callS X104 hx hZ hown (y := (⟨"com/example/leafline/leafline/table/CodePointOrderWellFormedPinLaw", "advance", "([BII)I"⟩ : MethodName)) (hw _ (List.mem_of_getElem? (i := 5) rfl)) (hw _ (List.mem_of_getElem? (i := 6) rfl)) (hw _ (List.mem_of_getElem? (i := 3) rfl)) (hw _ (List.mem_of_getElem? (i := 7) rfl)) (by decide) he104 (rm2 l Z a0 hw [] b2 r104 ev g (own_adv (own_B g) (f' + l') (f' : Int)) (f' + l') h65 n0 Z0_p65 Ag hr_104 he hl2) (by decide) (by decide) (g := (mkF m 115 #[.val (.long q1), .second, .val (.int p2), .val (.int p3), .val (.ref b2), .val (.int fv), .val (.int lv), .val (.int ev), .val (.int r104), .unset] [(.int ev), (.int r104), (.ref b2)])) rfl (by rw [hml]; rfl) (argsL := [(.ref b2), (.int r104), (.int ev)]) (rest := []) (lenOf pd_2 rfl) rfl rfl (W := 0) (by show 2 * 0 + _ ≤ _; exact Nat.le_of_eq rfl) (hb hby at_115) (by decide) (by decide)
  obtain ⟨r115, rfl, Nq115, he115, hr_115⟩ := hQ115
  have N115 := Fr.app N104 Nq115
  refine hst st115 ?_
  show F T115 (mkF m 118 #[.val (.long q1), .second, .val (.int p2), .val (.int p3), .val (.ref b2), .val (.int fv), .val (.int lv), .val (.int ev), .val (.int r104), .unset] [(.int r115)])
  refine hst (fun t₀ k₀ => XS.istore X115.here hx rfl (hb hby at_118) rfl (l' := #[.val (.long q1), .second, .val (.int p2), .val (.int p3), .val (.ref b2), .val (.int fv), .val (.int lv), .val (.int ev), .val (.int r115), .unset]) rfl k₀) ?_
  show F T115 (mkF m 120 #[.val (.long q1), .second, .val (.int p2), .val (.int p3), .val (.ref b2), .val (.int fv), .val (.int lv), .val (.int ev), .val (.int r115), .unset] [])
  refine hst (fun t₀ k₀ => XS.aload X115.here hx rfl (hb hby at_120) rfl rfl k₀) ?_
  show F T115 (mkF m 122 #[.val (.long q1), .second, .val (.int p2), .val (.int p3), .val (.ref b2), .val (.int fv), .val (.int lv), .val (.int ev), .val (.int r115), .unset] [(.ref b2)])
  refine hst (fun t₀ k₀ => XS.iload X115.here hx rfl (hb hby at_122) rfl k₀) ?_
  show F T115 (mkF m 124 #[.val (.long q1), .second, .val (.int p2), .val (.int p3), .val (.ref b2), .val (.int fv), .val (.int lv), .val (.int ev), .val (.int r115), .unset] [(.int r115), (.ref b2)])
  refine hst (fun t₀ k₀ => XS.iload X115.here hx rfl (hb hby at_124) rfl k₀) ?_
  show F T115 (mkF m 126 #[.val (.long q1), .second, .val (.int p2), .val (.int p3), .val (.ref b2), .val (.int fv), .val (.int lv), .val (.int ev), .val (.int r115), .unset] [(.int ev), (.int r115), (.ref b2)])
  obtain ⟨v126, T126, Lc126, X126, hQ126, st126⟩ := own_callS X115 hx hZ hown (y := (⟨"com/example/leafline/leafline/table/CodePointOrderWellFormedPinLaw", "advance", "([BII)I"⟩ : MethodName)) (hw _ (List.mem_of_getElem? (i := 5) rfl)) (hw _ (List.mem_of_getElem? (i := 6) rfl)) (hw _ (List.mem_of_getElem? (i := 3) rfl)) (hw _ (List.mem_of_getElem? (i := 7) rfl)) (by decide) he115 (rm2 l Z a0 hw [] b2 r115 ev g (own_adv (own_B g) (f' + l') (own_adv (own_B g) (f' + l') (f' : Int))) (f' + l') h65 n0 Z0_p65 Ag hr_115 he hl2) (by decide) (by decide) (g := (mkF m 126 #[.val (.long q1), .second, .val (.int p2), .val (.int p3), .val (.ref b2), .val (.int fv), .val (.int lv), .val (.int ev), .val (.int r115), .unset] [(.int ev), (.int r115), (.ref b2)])) rfl (by rw [hml]; rfl) (argsL := [(.ref b2), (.int r115), (.int ev)]) (rest := []) (lenOf pd_2 rfl) rfl rfl (W := 0) (by show 2 * 0 + _ ≤ _; exact Nat.le_of_eq rfl) (hb hby at_126) (by decide) (by decide)
  obtain ⟨r126, rfl, Nq126, he126, hr_126⟩ := hQ126
  have N126 := Fr.app N115 Nq126
  refine hst st126 ?_
  show F T126 (mkF m 129 #[.val (.long q1), .second, .val (.int p2), .val (.int p3), .val (.ref b2), .val (.int fv), .val (.int lv), .val (.int ev), .val (.int r115), .unset] [(.int r126)])
  refine hst (fun t₀ k₀ => XS.istore X126.here hx rfl (hb hby at_129) rfl (l' := #[.val (.long q1), .second, .val (.int p2), .val (.int p3), .val (.ref b2), .val (.int fv), .val (.int lv), .val (.int ev), .val (.int r126), .unset]) rfl k₀) ?_
  show F T126 (mkF m 131 #[.val (.long q1), .second, .val (.int p2), .val (.int p3), .val (.ref b2), .val (.int fv), .val (.int lv), .val (.int ev), .val (.int r126), .unset] [])
  refine hst (fun t₀ k₀ => XS.aload X126.here hx rfl (hb hby at_131) rfl rfl k₀) ?_
  show F T126 (mkF m 133 #[.val (.long q1), .second, .val (.int p2), .val (.int p3), .val (.ref b2), .val (.int fv), .val (.int lv), .val (.int ev), .val (.int r126), .unset] [(.ref b2)])
  refine hst (fun t₀ k₀ => XS.iload X126.here hx rfl (hb hby at_133) rfl k₀) ?_
  show F T126 (mkF m 135 #[.val (.long q1), .second, .val (.int p2), .val (.int p3), .val (.ref b2), .val (.int fv), .val (.int lv), .val (.int ev), .val (.int r126), .unset] [(.int r126), (.ref b2)])
  refine hst (fun t₀ k₀ => XS.iload X126.here hx rfl (hb hby at_135) rfl k₀) ?_
  show F T126 (mkF m 137 #[.val (.long q1), .second, .val (.int p2), .val (.int p3), .val (.ref b2), .val (.int fv), .val (.int lv), .val (.int ev), .val (.int r126), .unset] [(.int ev), (.int r126), (.ref b2)])
  obtain ⟨v137, T137, Lc137, X137, hQ137, st137⟩ := own_callS X126 hx hZ hown (y := (⟨"com/example/leafline/leafline/table/CodePointOrderWellFormedPinLaw", "advance", "([BII)I"⟩ : MethodName)) (hw _ (List.mem_of_getElem? (i := 5) rfl)) (hw _ (List.mem_of_getElem? (i := 6) rfl)) (hw _ (List.mem_of_getElem? (i := 3) rfl)) (hw _ (List.mem_of_getElem? (i := 7) rfl)) (by decide) he126 (rm2 l Z a0 hw [] b2 r126 ev g (own_adv (own_B g) (f' + l') (own_adv (own_B g) (f' + l') (own_adv (own_B g) (f' + l') (f' : Int)))) (f' + l') h65 n0 Z0_p65 Ag hr_126 he hl2) (by decide) (by decide) (g := (mkF m 137 #[.val (.long q1), .second, .val (.int p2), .val (.int p3), .val (.ref b2), .val (.int fv), .val (.int lv), .val (.int ev), .val (.int r126), .unset] [(.int ev), (.int r126), (.ref b2)])) rfl (by rw [hml]; rfl) (argsL := [(.ref b2), (.int r126), (.int ev)]) (rest := []) (lenOf pd_2 rfl) rfl rfl (W := 0) (by show 2 * 0 + _ ≤ _; exact Nat.le_of_eq rfl) (hb hby at_137) (by decide) (by decide)
  obtain ⟨r137, rfl, Nq137, he137, hr_137⟩ := hQ137
  have N137 := Fr.app N126 Nq137
  refine hst st137 ?_
  show F T137 (mkF m 140 #[.val (.long q1), .second, .val (.int p2), .val (.int p3), .val (.ref b2), .val (.int fv), .val (.int lv), .val (.int ev), .val (.int r126), .unset] [(.int r137)])
  refine hst (fun t₀ k₀ => XS.istore X137.here hx rfl (hb hby at_140) rfl (l' := #[.val (.long q1), .second, .val (.int p2), .val (.int p3), .val (.ref b2), .val (.int fv), .val (.int lv), .val (.int ev), .val (.int r137), .unset]) rfl k₀) ?_
  show F T137 (mkF m 142 #[.val (.long q1), .second, .val (.int p2), .val (.int p3), .val (.ref b2), .val (.int fv), .val (.int lv), .val (.int ev), .val (.int r137), .unset] [])
  refine hst (fun t₀ k₀ => XS.aload X137.here hx rfl (hb hby at_142) rfl rfl k₀) ?_
  show F T137 (mkF m 144 #[.val (.long q1), .second, .val (.int p2), .val (.int p3), .val (.ref b2), .val (.int fv), .val (.int lv), .val (.int ev), .val (.int r137), .unset] [(.ref b2)])
  refine hst (fun t₀ k₀ => XS.iload X137.here hx rfl (hb hby at_144) rfl k₀) ?_
  show F T137 (mkF m 146 #[.val (.long q1), .second, .val (.int p2), .val (.int p3), .val (.ref b2), .val (.int fv), .val (.int lv), .val (.int ev), .val (.int r137), .unset] [(.int r137), (.ref b2)])
  refine hst (fun t₀ k₀ => XS.iload X137.here hx rfl (hb hby at_146) rfl k₀) ?_
  show F T137 (mkF m 148 #[.val (.long q1), .second, .val (.int p2), .val (.int p3), .val (.ref b2), .val (.int fv), .val (.int lv), .val (.int ev), .val (.int r137), .unset] [(.int ev), (.int r137), (.ref b2)])
  obtain ⟨v148, T148, Lc148, X148, hQ148, st148⟩ := own_callS X137 hx hZ hown (y := (⟨"com/example/leafline/leafline/table/CodePointOrderWellFormedPinLaw", "advance", "([BII)I"⟩ : MethodName)) (hw _ (List.mem_of_getElem? (i := 5) rfl)) (hw _ (List.mem_of_getElem? (i := 6) rfl)) (hw _ (List.mem_of_getElem? (i := 3) rfl)) (hw _ (List.mem_of_getElem? (i := 7) rfl)) (by decide) he137 (rm2 l Z a0 hw [] b2 r137 ev g (own_adv (own_B g) (f' + l') (own_adv (own_B g) (f' + l') (own_adv (own_B g) (f' + l') (own_adv (own_B g) (f' + l') (f' : Int))))) (f' + l') h65 n0 Z0_p65 Ag hr_137 he hl2) (by decide) (by decide) (g := (mkF m 148 #[.val (.long q1), .second, .val (.int p2), .val (.int p3), .val (.ref b2), .val (.int fv), .val (.int lv), .val (.int ev), .val (.int r137), .unset] [(.int ev), (.int r137), (.ref b2)])) rfl (by rw [hml]; rfl) (argsL := [(.ref b2), (.int r137), (.int ev)]) (rest := []) (lenOf pd_2 rfl) rfl rfl (W := 0) (by show 2 * 0 + _ ≤ _; exact Nat.le_of_eq rfl) (hb hby at_148) (by decide) (by decide)
  obtain ⟨r148, rfl, Nq148, he148, hr_148⟩ := hQ148
  have N148 := Fr.app N137 Nq148
  refine hst st148 ?_
  show F T148 (mkF m 151 #[.val (.long q1), .second, .val (.int p2), .val (.int p3), .val (.ref b2), .val (.int fv), .val (.int lv), .val (.int ev), .val (.int r137), .unset] [(.int r148)])
  refine hst (fun t₀ k₀ => XS.istore X148.here hx rfl (hb hby at_151) rfl (l' := #[.val (.long q1), .second, .val (.int p2), .val (.int p3), .val (.ref b2), .val (.int fv), .val (.int lv), .val (.int ev), .val (.int r148), .unset]) rfl k₀) ?_
  show F T148 (mkF m 153 #[.val (.long q1), .second, .val (.int p2), .val (.int p3), .val (.ref b2), .val (.int fv), .val (.int lv), .val (.int ev), .val (.int r148), .unset] [])
  refine hst (fun t₀ k₀ => XS.aload X148.here hx rfl (hb hby at_153) rfl rfl k₀) ?_
  show F T148 (mkF m 155 #[.val (.long q1), .second, .val (.int p2), .val (.int p3), .val (.ref b2), .val (.int fv), .val (.int lv), .val (.int ev), .val (.int r148), .unset] [(.ref b2)])
  refine hst (fun t₀ k₀ => XS.iload X148.here hx rfl (hb hby at_155) rfl k₀) ?_
  show F T148 (mkF m 157 #[.val (.long q1), .second, .val (.int p2), .val (.int p3), .val (.ref b2), .val (.int fv), .val (.int lv), .val (.int ev), .val (.int r148), .unset] [(.int r148), (.ref b2)])
  refine hst (fun t₀ k₀ => XS.iload X148.here hx rfl (hb hby at_157) rfl k₀) ?_
  show F T148 (mkF m 159 #[.val (.long q1), .second, .val (.int p2), .val (.int p3), .val (.ref b2), .val (.int fv), .val (.int lv), .val (.int ev), .val (.int r148), .unset] [(.int ev), (.int r148), (.ref b2)])
  obtain ⟨v159, T159, Lc159, X159, hQ159, st159⟩ := own_callS X148 hx hZ hown (y := (⟨"com/example/leafline/leafline/table/CodePointOrderWellFormedPinLaw", "advance", "([BII)I"⟩ : MethodName)) (hw _ (List.mem_of_getElem? (i := 5) rfl)) (hw _ (List.mem_of_getElem? (i := 6) rfl)) (hw _ (List.mem_of_getElem? (i := 3) rfl)) (hw _ (List.mem_of_getElem? (i := 7) rfl)) (by decide) he148 (rm2 l Z a0 hw [] b2 r148 ev g (own_adv (own_B g) (f' + l') (own_adv (own_B g) (f' + l') (own_adv (own_B g) (f' + l') (own_adv (own_B g) (f' + l') (own_adv (own_B g) (f' + l') (f' : Int)))))) (f' + l') h65 n0 Z0_p65 Ag hr_148 he hl2) (by decide) (by decide) (g := (mkF m 159 #[.val (.long q1), .second, .val (.int p2), .val (.int p3), .val (.ref b2), .val (.int fv), .val (.int lv), .val (.int ev), .val (.int r148), .unset] [(.int ev), (.int r148), (.ref b2)])) rfl (by rw [hml]; rfl) (argsL := [(.ref b2), (.int r148), (.int ev)]) (rest := []) (lenOf pd_2 rfl) rfl rfl (W := 0) (by show 2 * 0 + _ ≤ _; exact Nat.le_of_eq rfl) (hb hby at_159) (by decide) (by decide)
  obtain ⟨r159, rfl, Nq159, he159, hr_159⟩ := hQ159
  have N159 := Fr.app N148 Nq159
  refine hst st159 ?_
  show F T159 (mkF m 162 #[.val (.long q1), .second, .val (.int p2), .val (.int p3), .val (.ref b2), .val (.int fv), .val (.int lv), .val (.int ev), .val (.int r148), .unset] [(.int r159)])
  refine hst (fun t₀ k₀ => XS.istore X159.here hx rfl (hb hby at_162) rfl (l' := #[.val (.long q1), .second, .val (.int p2), .val (.int p3), .val (.ref b2), .val (.int fv), .val (.int lv), .val (.int ev), .val (.int r159), .unset]) rfl k₀) ?_
  show F T159 (mkF m 164 #[.val (.long q1), .second, .val (.int p2), .val (.int p3), .val (.ref b2), .val (.int fv), .val (.int lv), .val (.int ev), .val (.int r159), .unset] [])
  refine hst (fun t₀ k₀ => XS.iload X159.here hx rfl (hb hby at_164) rfl k₀) ?_
  show F T159 (mkF m 166 #[.val (.long q1), .second, .val (.int p2), .val (.int p3), .val (.ref b2), .val (.int fv), .val (.int lv), .val (.int ev), .val (.int r159), .unset] [(.int r159)])
  refine hst (fun t₀ k₀ => XS.iload X159.here hx rfl (hb hby at_166) rfl k₀) ?_
  show F T159 (mkF m 168 #[.val (.long q1), .second, .val (.int p2), .val (.int p3), .val (.ref b2), .val (.int fv), .val (.int lv), .val (.int ev), .val (.int r159), .unset] [(.int ev), (.int r159)])
  by_cases hc168 : r159 = ev
  · -- pc 168: not taken
    refine hst (fun t₀ k₀ => XS.icmpNo X159.here hx rfl (hb hby at_168) rfl (teq hc168).2 k₀) ?_
    show F T159 (mkF m 171 #[.val (.long q1), .second, .val (.int p2), .val (.int p3), .val (.ref b2), .val (.int fv), .val (.int lv), .val (.int ev), .val (.int r159), .unset] [])
    refine hst (fun t₀ k₀ => XS.iconst X159.here hx rfl (hb hby at_171) k₀) ?_
    show F T159 (mkF m 172 #[.val (.long q1), .second, .val (.int p2), .val (.int p3), .val (.ref b2), .val (.int fv), .val (.int lv), .val (.int ev), .val (.int r159), .unset] [(.int (1 : Int32))])
    refine hst (fun t₀ k₀ => XS.goto X159.here hx rfl (pc0 := 172) (pc' := 176) rfl (hb hby at_172) (by decide) (by decide) k₀) ?_
    show F T159 (mkF m 176 #[.val (.long q1), .second, .val (.int p2), .val (.int p3), .val (.ref b2), .val (.int fv), .val (.int lv), .val (.int ev), .val (.int r159), .unset] [(.int (1 : Int32))])
    refine hst (fun t₀ k₀ => XS.istore X159.here hx rfl (hb hby at_176) rfl (l' := #[.val (.long q1), .second, .val (.int p2), .val (.int p3), .val (.ref b2), .val (.int fv), .val (.int lv), .val (.int ev), .val (.int r159), .val (.int (1 : Int32))]) rfl k₀) ?_
    show F T159 (mkF m 178 #[.val (.long q1), .second, .val (.int p2), .val (.int p3), .val (.ref b2), .val (.int fv), .val (.int lv), .val (.int ev), .val (.int r159), .val (.int (1 : Int32))] [])
    refine hst (fun t₀ k₀ => XS.aload X159.here hx rfl (hb hby at_178) rfl rfl k₀) ?_
    show F T159 (mkF m 180 #[.val (.long q1), .second, .val (.int p2), .val (.int p3), .val (.ref b2), .val (.int fv), .val (.int lv), .val (.int ev), .val (.int r159), .val (.int (1 : Int32))] [(.ref b2)])
    refine hst (fun t₀ k₀ => XS.iload X159.here hx rfl (hb hby at_180) rfl k₀) ?_
    show F T159 (mkF m 182 #[.val (.long q1), .second, .val (.int p2), .val (.int p3), .val (.ref b2), .val (.int fv), .val (.int lv), .val (.int ev), .val (.int r159), .val (.int (1 : Int32))] [(.int fv), (.ref b2)])
    refine hst (fun t₀ k₀ => XS.iload X159.here hx rfl (hb hby at_182) rfl k₀) ?_
    show F T159 (mkF m 184 #[.val (.long q1), .second, .val (.int p2), .val (.int p3), .val (.ref b2), .val (.int fv), .val (.int lv), .val (.int ev), .val (.int r159), .val (.int (1 : Int32))] [(.int lv), (.int fv), (.ref b2)])
    obtain ⟨v184, T184, Lc184, X184, hQ184, st184⟩ := own_callS X159 hx hZ hown (y := (⟨"com/example/leafline/leafline/table/CodePointOrder", "wellFormed", "([BII)Z"⟩ : MethodName)) (hw _ (List.mem_of_getElem? (i := 8) rfl)) (hw _ (List.mem_of_getElem? (i := 9) rfl)) (hw _ (List.mem_of_getElem? (i := 10) rfl)) (hw _ (List.mem_of_getElem? (i := 11) rfl)) (by decide) he159 (rm3 l Z a0 hw [] b2 fv lv g f' (f' + l') l' h65 n0 Z0_p65 Ag hf hl rfl hl2) (by decide) (by decide) (g := (mkF m 184 #[.val (.long q1), .second, .val (.int p2), .val (.int p3), .val (.ref b2), .val (.int fv), .val (.int lv), .val (.int ev), .val (.int r159), .val (.int (1 : Int32))] [(.int lv), (.int fv), (.ref b2)])) rfl (by rw [hml]; rfl) (argsL := [(.ref b2), (.int fv), (.int lv)]) (rest := []) (lenOf pd_3 rfl) rfl rfl (W := 0) (by show 2 * 0 + _ ≤ _; exact Nat.le_of_eq rfl) (hb hby at_184) (by decide) (by decide)
    obtain ⟨rfl, Nq184, he184⟩ := hQ184
    have N184 := Fr.app N159 Nq184
    refine hst st184 ?_
    show F T184 (mkF m 187 #[.val (.long q1), .second, .val (.int p2), .val (.int p3), .val (.ref b2), .val (.int fv), .val (.int lv), .val (.int ev), .val (.int r159), .val (.int (1 : Int32))] [(.int (if own_wf (own_B g) (f' + l') 7 f' then 1 else 0))])
    have hit := own_it_wf (own_B g) (f' + l') 6 f' (by omega) (by omega)
    have h159 : r159.toInt = own_it (own_B g) (f' + l') 6 f' := hr_159
    refine hst (fun t₀ k₀ => XS.iload X184.here hx rfl (hb hby at_187) rfl k₀) ?_
    show F T184 (mkF m 189 #[.val (.long q1), .second, .val (.int p2), .val (.int p3), .val (.ref b2), .val (.int fv), .val (.int lv), .val (.int ev), .val (.int r159), .val (.int (1 : Int32))] [(.int (1 : Int32)), (.int (if own_wf (own_B g) (f' + l') 7 f' then 1 else 0))])
    refine hst (fun t₀ k₀ => XS.icmpNo X184.here hx rfl (hb hby at_189) rfl (teq (by rw [own_eq32, h159, he] at hc168; first | rw [if_pos (hit.mp hc168)] | rw [if_neg (fun q => hc168 (hit.mpr q))])).2 k₀) ?_
    show F T184 (mkF m 192 #[.val (.long q1), .second, .val (.int p2), .val (.int p3), .val (.ref b2), .val (.int fv), .val (.int lv), .val (.int ev), .val (.int r159), .val (.int (1 : Int32))] [])
    refine hst (fun t₀ k₀ => XS.iconst X184.here hx rfl (hb hby at_192) k₀) ?_
    show F T184 (mkF m 193 #[.val (.long q1), .second, .val (.int p2), .val (.int p3), .val (.ref b2), .val (.int fv), .val (.int lv), .val (.int ev), .val (.int r159), .val (.int (1 : Int32))] [(.int (1 : Int32))])
    refine hst (fun t₀ k₀ => XS.goto X184.here hx rfl (pc0 := 193) (pc' := 197) rfl (hb hby at_193) (by decide) (by decide) k₀) ?_
    show F T184 (mkF m 197 #[.val (.long q1), .second, .val (.int p2), .val (.int p3), .val (.ref b2), .val (.int fv), .val (.int lv), .val (.int ev), .val (.int r159), .val (.int (1 : Int32))] [(.int (1 : Int32))])
    rw [hF]
    refine own_retN X184 hx hret (by simp) hlk (hb hby at_197) (by decide) (by decide) ?_
    rw [he184]
    exact ⟨rfl, N184⟩
  · -- pc 168: taken
    refine hst (fun t₀ k₀ => XS.icmpYes X159.here hx rfl (pc0 := 168) (pc' := 175) rfl (hb hby at_168) rfl (feq hc168).2 (by decide) (by decide) k₀) ?_
    show F T159 (mkF m 175 #[.val (.long q1), .second, .val (.int p2), .val (.int p3), .val (.ref b2), .val (.int fv), .val (.int lv), .val (.int ev), .val (.int r159), .unset] [])
    refine hst (fun t₀ k₀ => XS.iconst X159.here hx rfl (hb hby at_175) k₀) ?_
    show F T159 (mkF m 176 #[.val (.long q1), .second, .val (.int p2), .val (.int p3), .val (.ref b2), .val (.int fv), .val (.int lv), .val (.int ev), .val (.int r159), .unset] [(.int (0 : Int32))])
    refine hst (fun t₀ k₀ => XS.istore X159.here hx rfl (hb hby at_176) rfl (l' := #[.val (.long q1), .second, .val (.int p2), .val (.int p3), .val (.ref b2), .val (.int fv), .val (.int lv), .val (.int ev), .val (.int r159), .val (.int (0 : Int32))]) rfl k₀) ?_
    show F T159 (mkF m 178 #[.val (.long q1), .second, .val (.int p2), .val (.int p3), .val (.ref b2), .val (.int fv), .val (.int lv), .val (.int ev), .val (.int r159), .val (.int (0 : Int32))] [])
    refine hst (fun t₀ k₀ => XS.aload X159.here hx rfl (hb hby at_178) rfl rfl k₀) ?_
    show F T159 (mkF m 180 #[.val (.long q1), .second, .val (.int p2), .val (.int p3), .val (.ref b2), .val (.int fv), .val (.int lv), .val (.int ev), .val (.int r159), .val (.int (0 : Int32))] [(.ref b2)])
    refine hst (fun t₀ k₀ => XS.iload X159.here hx rfl (hb hby at_180) rfl k₀) ?_
    show F T159 (mkF m 182 #[.val (.long q1), .second, .val (.int p2), .val (.int p3), .val (.ref b2), .val (.int fv), .val (.int lv), .val (.int ev), .val (.int r159), .val (.int (0 : Int32))] [(.int fv), (.ref b2)])
    refine hst (fun t₀ k₀ => XS.iload X159.here hx rfl (hb hby at_182) rfl k₀) ?_
    show F T159 (mkF m 184 #[.val (.long q1), .second, .val (.int p2), .val (.int p3), .val (.ref b2), .val (.int fv), .val (.int lv), .val (.int ev), .val (.int r159), .val (.int (0 : Int32))] [(.int lv), (.int fv), (.ref b2)])
    obtain ⟨v184, T184, Lc184, X184, hQ184, st184⟩ := own_callS X159 hx hZ hown (y := (⟨"com/example/leafline/leafline/table/CodePointOrder", "wellFormed", "([BII)Z"⟩ : MethodName)) (hw _ (List.mem_of_getElem? (i := 8) rfl)) (hw _ (List.mem_of_getElem? (i := 9) rfl)) (hw _ (List.mem_of_getElem? (i := 10) rfl)) (hw _ (List.mem_of_getElem? (i := 11) rfl)) (by decide) he159 (rm3 l Z a0 hw [] b2 fv lv g f' (f' + l') l' h65 n0 Z0_p65 Ag hf hl rfl hl2) (by decide) (by decide) (g := (mkF m 184 #[.val (.long q1), .second, .val (.int p2), .val (.int p3), .val (.ref b2), .val (.int fv), .val (.int lv), .val (.int ev), .val (.int r159), .val (.int (0 : Int32))] [(.int lv), (.int fv), (.ref b2)])) rfl (by rw [hml]; rfl) (argsL := [(.ref b2), (.int fv), (.int lv)]) (rest := []) (lenOf pd_3 rfl) rfl rfl (W := 0) (by show 2 * 0 + _ ≤ _; exact Nat.le_of_eq rfl) (hb hby at_184) (by decide) (by decide)
    obtain ⟨rfl, Nq184, he184⟩ := hQ184
    have N184 := Fr.app N159 Nq184
    refine hst st184 ?_
    show F T184 (mkF m 187 #[.val (.long q1), .second, .val (.int p2), .val (.int p3), .val (.ref b2), .val (.int fv), .val (.int lv), .val (.int ev), .val (.int r159), .val (.int (0 : Int32))] [(.int (if own_wf (own_B g) (f' + l') 7 f' then 1 else 0))])
    have hit := own_it_wf (own_B g) (f' + l') 6 f' (by omega) (by omega)
    have h159 : r159.toInt = own_it (own_B g) (f' + l') 6 f' := hr_159
    refine hst (fun t₀ k₀ => XS.iload X184.here hx rfl (hb hby at_187) rfl k₀) ?_
    show F T184 (mkF m 189 #[.val (.long q1), .second, .val (.int p2), .val (.int p3), .val (.ref b2), .val (.int fv), .val (.int lv), .val (.int ev), .val (.int r159), .val (.int (0 : Int32))] [(.int (0 : Int32)), (.int (if own_wf (own_B g) (f' + l') 7 f' then 1 else 0))])
    refine hst (fun t₀ k₀ => XS.icmpNo X184.here hx rfl (hb hby at_189) rfl (teq (by rw [own_eq32, h159, he] at hc168; first | rw [if_pos (hit.mp hc168)] | rw [if_neg (fun q => hc168 (hit.mpr q))])).2 k₀) ?_
    show F T184 (mkF m 192 #[.val (.long q1), .second, .val (.int p2), .val (.int p3), .val (.ref b2), .val (.int fv), .val (.int lv), .val (.int ev), .val (.int r159), .val (.int (0 : Int32))] [])
    refine hst (fun t₀ k₀ => XS.iconst X184.here hx rfl (hb hby at_192) k₀) ?_
    show F T184 (mkF m 193 #[.val (.long q1), .second, .val (.int p2), .val (.int p3), .val (.ref b2), .val (.int fv), .val (.int lv), .val (.int ev), .val (.int r159), .val (.int (0 : Int32))] [(.int (1 : Int32))])
    refine hst (fun t₀ k₀ => XS.goto X184.here hx rfl (pc0 := 193) (pc' := 197) rfl (hb hby at_193) (by decide) (by decide) k₀) ?_
    show F T184 (mkF m 197 #[.val (.long q1), .second, .val (.int p2), .val (.int p3), .val (.ref b2), .val (.int fv), .val (.int lv), .val (.int ev), .val (.int r159), .val (.int (0 : Int32))] [(.int (1 : Int32))])
    rw [hF]
    refine own_retN X184 hx hret (by simp) hlk (hb hby at_197) (by decide) (by decide) ?_
    rw [he184]
    exact ⟨rfl, N184⟩
set_option maxRecDepth 65536 in
set_option maxHeartbeats 40000000 in
theorem comes_1 {Post : Tables → Env → Array Value → State → Outcome → State → Prop} (hpost : ∀ tb e args s v u, (limb_1_1.after args s (.returned v) u = true ∧ limb_1_2.after args s (.returned v) u = true ∧ True) → FrameEnd s (.returned v) u (Jvm.fieldLocs frame_1_writes args s ++ Jvm.arrayLocs frame_1_arrays args s ++ Jvm.staticLocs frame_1_statics s) 16 128 → Post tb e args s (.returned v) u) :
    ArmFor flags0 classFile x code maxLocals ret World_1 tables_1 room_1 Calls_1 rest_1 Pre_1 Post := by
  intro l hfl _ _ p e ha hc hk s m args below hf hA hF happ hP
  obtain ⟨hcalls, hrest, hpre⟩ := hP
  obtain ⟨-, -, -, hnamed, -, -, -, hat⟩ := (Spec.applies_iff hf).mp happ
  obtain ⟨hg, hn⟩ := and_e (Cond.before_iff.mp (show (Jvm.Cond.and given_1 narrow_1).before args s = true from hpre))
  obtain ⟨g1, g2⟩ := and_e hg
  obtain ⟨g3, g4⟩ := and_e g2
  obtain ⟨g5, g6⟩ := and_e g4
  obtain ⟨w0, w1, w2, rfl⟩ : ∃ w0 w1 w2 : Value, args = #[w0, w1, w2] := by
    have hs : args.size = 3 := by simpa [Cond.value, given_1] using g1
    obtain ⟨L⟩ := args
    match L, hs with
    | [w0, w1, w2], _ => exact ⟨w0, w1, w2, rfl⟩
  have hw := fun d (hd : d ∈ tables_1) => atoms_spec (ws := Jvm.Cond.code x code maxLocals ret :: tables_1) hat d (List.mem_cons_of_mem _ hd)
  obtain ⟨i0, ei0⟩ := isL_v g3
  obtain rfl : w0 = (.long i0) := Option.some.inj ei0
  obtain ⟨i1, ei1⟩ := is_v g5
  obtain rfl : w1 = (.int i1) := Option.some.inj ei1
  obtain ⟨i2, ei2⟩ := is_v g6
  obtain rfl : w2 = (.int i2) := Option.some.inj ei2
  obtain ⟨n, o, h1, h2, h3, _, L, rfl, ⟨rfl, N⟩, hq⟩ := rm0 l s _ hw tables_1 i0 i1 i2 s.heap s.heap.size (Nat.le_refl _) p e ha hc hk s m _ below hf ((Spec.applies_iff_loose hf).mp happ).1 ⟨rfl, State.Warmed39.refl s, rfl⟩ trivial
  refine ⟨n, _, h1, h2, h3, hpost _ _ _ _ _ _ ⟨Cond.after_iff.mpr rfl, Cond.after_iff.mpr (eq_i res_at (Term.int_eval (1)) rfl), trivial⟩ ⟨hq.1, hq.2.1, (hq.2.2.sift fun y hy => Or.inr (N y hy)).mono (by decide) (by decide)⟩⟩
theorem main_1_1 : Claimed_1_1 := comes_1 fun _ _ _ _ _ _ h hF => ⟨h.1, hF⟩
theorem main_1_2 : Claimed_1_2 := comes_1 fun _ _ _ _ _ _ h hF => ⟨h.2.1, hF⟩
end Jvm.Pilot.@@N@@
namespace Jvm.Pilot.@@N@@
open Jvm Jvm.ClassFile Sem Op Lib Jvm.Free Jvm.Stand Jvm.Pilot.@@N@@.Jvm.D
/-! MADE BY PROGRAM (witnessworld.py) out of the Statement's table words and the real class files: 9 classes; the members and pool entries that the words name. The judged class is class 1, her method 1. -/
namespace start1
open Jvm.ClassFile
def u (s : String) : CpInfo := .utf8 (stringToUtf16 s)
/-- a pool by its gaps: so many unusable entries, then the entry; so many at the end -/
def gap : Nat → List CpInfo → List CpInfo
  | 0, r => r
  | n + 1, r => .unusable :: gap n r
def poolList (es : List (Nat × CpInfo)) (last : Nat) : List CpInfo := es.foldr (fun e r => gap e.1 (e.2 :: r)) (gap last [])
def pool (es : List (Nat × CpInfo)) (last : Nat) : Array CpInfo := ⟨poolList es last⟩
def fileOf (pool : Array CpInfo) (this : Nat) (attrs : Array Attribute := #[]) (ms : Array MethodInfo := #[]) (fl : Nat := 33) (sup : Nat := 0) (ifs : Array Nat := #[]) (fds : Array FieldInfo := #[]) : ClassFile where
  minorVersion := 0
  majorVersion := 65
  constantPool := pool
  accessFlags := fl
  thisClass := this
  superClass := sup
  interfaces := ifs
  fields := fds
  methods := ms
  attributes := attrs
def plain (name : String) (sup : Option ClassId) : Class where
  name := name
  kind := .ordinary
  loader := none
  accessFlags := 33
  super := sup
  interfaces := #[]
  cf := none
  fields := #[]
  methods := #[]
  instanceTypes := #[]
  staticTypes := #[]
  resolved := #[]
  callSites := []
  init := .initialized
  statics := none
  mirror := none

def pool0 : Array CpInfo := pool [(5, u "<init>"), (0, u "()V"), (1, .class_ 10), (1, u "java/lang/Object")] 113

def k0m0 : Method := { name := "<init>", desc := "()V", sig := { parameters := [], returnType := none }, accessFlags := 1, code := none }
/-- java/lang/Object -/
def k0 : Class := { plain "java/lang/Object" none with
  accessFlags := 33
  interfaces := #[]
  cf := some (fileOf pool0 8 #[] #[{ accessFlags := 1, nameIndex := 5, descriptorIndex := 6, attributes := #[] }] 33 0 #[] #[])
  fields := #[]
  methods := #[k0m0]
  instanceTypes := #[]
  staticTypes := #[]
  resolved := Array.replicate 124 none
  statics := none }

def pool1 : Array CpInfo := pool [(2, .class_ 4), (1, u "java/lang/Object"), (0, u "<init>"), (0, u "()V"), (0, .methodref 8 9), (0, .class_ 10), (0, .nameAndType 11 12), (0, u "com/example/leafline/leafline/table/CodePointOrderWellFormedPinLaw"), (0, u "drawn"), (0, u "(JII)B"), (0, .methodref 8 14), (0, .nameAndType 15 16), (0, u "advance"), (0, u "([BII)I"), (0, .methodref 18 19), (0, .class_ 20), (0, .nameAndType 21 22), (0, u "com/example/leafline/leafline/table/CodePointOrder"), (0, u "wellFormed"), (0, u "([BII)Z"), (0, .methodref 8 24), (0, .nameAndType 25 16), (0, u "charLength"), (0, .methodref 8 27), (0, .nameAndType 28 29), (0, u "isCont"), (0, u "(I)Z"), (0, .integer 65536), (0, .integer 1114111), (0, .integer 55296), (0, .integer 57343), (2, u "law"), (0, u "(JII)Z")] 5

def k1m0 : Method := { name := "<init>", desc := "()V", sig := { parameters := [], returnType := none }, accessFlags := 2, code := none }
def k1c1 : Code := { maxStack := 6, maxLocals := 10, code := code, exceptionTable := #[], attributes := #[] }
def k1m1 : Method := { name := "law", desc := "(JII)Z", sig := { parameters := [.long, .int, .int], returnType := some .boolean }, accessFlags := 9, code := some k1c1 }
def k1c2 : Code := { maxStack := 4, maxLocals := 5, code := method_3_code, exceptionTable := #[], attributes := #[] }
def k1m2 : Method := { name := "drawn", desc := "(JII)B", sig := { parameters := [.long, .int, .int], returnType := some .byte }, accessFlags := 10, code := some k1c2 }
def k1c3 : Code := { maxStack := 3, maxLocals := 4, code := method_4_code, exceptionTable := #[], attributes := #[] }
def k1m3 : Method := { name := "advance", desc := "([BII)I", sig := { parameters := [(.array .byte), .int, .int], returnType := some .int }, accessFlags := 10, code := some k1c3 }
def k1c4 : Code := { maxStack := 2, maxLocals := 1, code := method_5_code, exceptionTable := #[], attributes := #[] }
def k1m4 : Method := { name := "isCont", desc := "(I)Z", sig := { parameters := [.int], returnType := some .boolean }, accessFlags := 10, code := some k1c4 }
def k1c5 : Code := { maxStack := 3, maxLocals := 10, code := method_6_code, exceptionTable := #[], attributes := #[] }
def k1m5 : Method := { name := "charLength", desc := "([BII)I", sig := { parameters := [(.array .byte), .int, .int], returnType := some .int }, accessFlags := 10, code := some k1c5 }
/-- com/example/leafline/leafline/table/CodePointOrderWellFormedPinLaw -/
def k1 : Class := { plain "com/example/leafline/leafline/table/CodePointOrderWellFormedPinLaw" (some 0) with
  accessFlags := 49
  interfaces := #[]
  cf := some (fileOf pool1 8 #[] #[{ accessFlags := 2, nameIndex := 5, descriptorIndex := 6, attributes := #[] }, { accessFlags := 9, nameIndex := 36, descriptorIndex := 37, attributes := #[] }, { accessFlags := 10, nameIndex := 11, descriptorIndex := 12, attributes := #[] }, { accessFlags := 10, nameIndex := 15, descriptorIndex := 16, attributes := #[] }, { accessFlags := 10, nameIndex := 28, descriptorIndex := 29, attributes := #[] }, { accessFlags := 10, nameIndex := 25, descriptorIndex := 16, attributes := #[] }] 49 2 #[] #[])
  fields := #[]
  methods := #[k1m0, k1m1, k1m2, k1m3, k1m4, k1m5]
  instanceTypes := #[]
  staticTypes := #[]
  resolved := Array.replicate 43 none
  statics := none }

def pool2 : Array CpInfo := pool [(3, .class_ 4), (0, u "com/example/leafline/leafline/table/CodePointOrder"), (1, .class_ 8), (1, u "java/lang/Object"), (0, u "<init>"), (0, u "()V"), (44, u "UNIT_BITS"), (0, u "I"), (2, u "PREFIX_UNITS"), (8, u "wellFormed"), (0, u "([BII)Z")] 4

def k2m0 : Method := { name := "<init>", desc := "()V", sig := { parameters := [], returnType := none }, accessFlags := 2, code := none }
def k2c1 : Code := { maxStack := 3, maxLocals := 12, code := prog_89_method_4_code, exceptionTable := #[], attributes := #[] }
def k2m1 : Method := { name := "wellFormed", desc := "([BII)Z", sig := { parameters := [(.array .byte), .int, .int], returnType := some .boolean }, accessFlags := 8, code := some k2c1 }
/-- com/example/leafline/leafline/table/CodePointOrder -/
def k2 : Class := { plain "com/example/leafline/leafline/table/CodePointOrder" (some 0) with
  accessFlags := 49
  interfaces := #[]
  cf := some (fileOf pool2 3 #[] #[{ accessFlags := 2, nameIndex := 9, descriptorIndex := 10, attributes := #[] }, { accessFlags := 8, nameIndex := 68, descriptorIndex := 69, attributes := #[] }] 49 6 #[] #[{ accessFlags := 26, nameIndex := 55, descriptorIndex := 56, attributes := #[] }, { accessFlags := 24, nameIndex := 59, descriptorIndex := 56, attributes := #[] }])
  fields := #[{ name := "UNIT_BITS", type := .int, accessFlags := 26, slot := 0, constantValue := 0 }, { name := "PREFIX_UNITS", type := .int, accessFlags := 24, slot := 1, constantValue := 0 }]
  methods := #[k2m0, k2m1]
  instanceTypes := #[]
  staticTypes := #[.int, .int]
  resolved := Array.replicate 74 none
  statics := none }

def pool3 : Array CpInfo := pool [(1, u "java/lang/Cloneable"), (0, .class_ 1), (0, u "java/lang/Object"), (0, .class_ 3)] 3

/-- java/lang/Cloneable -/
def k3 : Class := { plain "java/lang/Cloneable" (some 0) with
  accessFlags := 1537
  interfaces := #[]
  cf := some (fileOf pool3 2 #[] #[] 1537 4 #[] #[])
  fields := #[]
  methods := #[]
  instanceTypes := #[]
  staticTypes := #[]
  resolved := Array.replicate 8 none
  statics := none }

def pool4 : Array CpInfo := pool [(1, u "java/io/Serializable"), (0, .class_ 1), (0, u "java/lang/Object"), (0, .class_ 3)] 3

/-- java/io/Serializable -/
def k4 : Class := { plain "java/io/Serializable" (some 0) with
  accessFlags := 1537
  interfaces := #[]
  cf := some (fileOf pool4 2 #[] #[] 1537 4 #[] #[])
  fields := #[]
  methods := #[]
  instanceTypes := #[]
  staticTypes := #[]
  resolved := Array.replicate 8 none
  statics := none }

/-- the primitive byte -/
def k5 : Class := { plain "byte" none with kind := .primitive 'B', accessFlags := 0x411 }
/-- [B -/
def k6 : Class := { plain "[B" (some 0) with kind := .array 5 .byte, interfaces := #[3, 4], accessFlags := 1041 }

/-- the primitive int -/
def k7 : Class := { plain "int" none with kind := .primitive 'I', accessFlags := 0x411 }
/-- [I -/
def k8 : Class := { plain "[I" (some 0) with kind := .array 7 .int, interfaces := #[3, 4], accessFlags := 1041 }

def heap : Heap := #[]
def classes : Array Class := #[k0, k1, k2, k3, k4, k5, k6, k7, k8]
def interned : List (Array UInt16 × Addr) := []
def slotsUsed : Nat := 0
def theMethod : MethodId := ⟨1, 1⟩
def args0 : Array Value := #[.long 1, .int 2, .int 3]
def aboutOver (below : List Frame) : State where
  vm := { classes := classes, interned := interned.toArray }
  heap := heap
  slotsUsed := slotsUsed
  threads := #[{ frames := .invoking theMethod args0 :: below }]
def below0 : List Frame := [.native { method := ⟨0, 0⟩, args := #[] }]
def about1 : State := aboutOver below0
def p0 : Program := .bare "" "" ""
def e0 : Env := launch0.env 0 0 0
theorem w_frames : about1.frames = Frame.invoking theMethod args0 :: below0 := rfl
set_option maxRecDepth 65536 in
theorem w_args : argsFit about1.vm theMethod args0 = true := by decide +kernel
set_option maxRecDepth 65536 in
theorem w_heap : heapFits about1 = true := by decide +kernel
set_option maxRecDepth 65536 in
theorem w_runnable : about1.curStatus? = some .runnable := by decide +kernel
set_option maxRecDepth 65536 in
theorem w_alone : about1.alone = true := by decide +kernel
set_option maxRecDepth 65536 in
theorem w_named : about1.methodNamed? x = some theMethod := by decide +kernel
set_option maxRecDepth 65536 in
theorem w_hears : about1.hears theMethod below0 = true := by decide +kernel
set_option maxRecDepth 65536 in
theorem w_ripe : about1.ripe theMethod args0 below0 = true := by decide +kernel
theorem w_running : about1.status = .running := rfl
set_option maxRecDepth 65536 in
theorem w_room : about1.hasRoom e0.platform room_1 = true :=
  launch0.hasRoom_least _ room_1 (by decide +kernel) (by decide +kernel) (by decide +kernel) (by decide +kernel) (by decide +kernel) (by decide +kernel)
theorem allAtoms_all (ts : List Jvm.Cond) (a : Array Jvm.Value) (st : Jvm.State) : (allAtoms ts).before a st = ts.all (fun c => c.before a st) := by
  induction ts with
  | nil => rfl
  | cons c t ih =>
    show (Jvm.Cond.and c (allAtoms t)).before a st = _
    rw [Jvm.Cond.before_and, ih, List.all_cons]
def words1 : List Jvm.Cond := Jvm.Cond.code x code maxLocals ret :: tables_1
/-- a 'code' word, met by the world's own term for the bytes: nothing is compared byte by byte -/
theorem code_word {y : MethodName} {bytes : ByteArray} {mx : Nat} {rt : Option FieldType} {a : Array Value} {s : State} {m : MethodId} {meth : Method} {c : Code} (h1 : s.methodNamed? y = some m) (h2 : s.vm.method? m = some meth) (h3 : meth.code = some c) (h4 : c.code = bytes)
    (h5 : (c.maxLocals == mx && c.exceptionTable.isEmpty && decide (c.maxStack ≤ mostOperands) && decide (meth.sig.returnType = rt) && !meth.locks && decide (parseMethodDescriptor y.desc = some meth.sig)) = true) : (Jvm.Cond.code y bytes mx rt).before a s = true := by
  simp only [Bool.and_eq_true, beq_iff_eq, Bool.not_eq_true', decide_eq_true_eq] at h5
  obtain ⟨⟨⟨⟨⟨g1, g2⟩, g3⟩, g4⟩, g5⟩, g6⟩ := h5
  simp [Cond.before, Cond.holds, Cond.value, h1, h2, h3, h4, g1, g2, g3, g4, g5, g6]
def isCode : Jvm.Cond → Bool
  | .code _ _ _ _ => true
  | _ => false
theorem all_split {L : List Jvm.Cond} {P : Jvm.Cond → Bool} (h1 : L.all (fun c => isCode c || P c) = true) (h2 : ∀ c ∈ L.filter isCode, P c = true) : L.all P = true := by
  refine List.all_eq_true.mpr fun c hc => ?_
  have h := List.all_eq_true.mp h1 c hc
  rcases Bool.eq_false_or_eq_true (isCode c) with hi | hi
  · exact h2 c (List.mem_filter.mpr ⟨hc, hi⟩)
  · simpa [hi] using h
set_option maxRecDepth 65536 in
theorem w_c0 : (Jvm.Cond.code x code maxLocals ret).before args0 about1 = true := code_word (m := ⟨1, 1⟩) (meth := k1m1) (c := k1c1) (by decide +kernel) rfl rfl rfl (by decide +kernel)
set_option maxRecDepth 65536 in
theorem w_c1 : (Jvm.Cond.code ({ cls := "com/example/leafline/leafline/table/CodePointOrderWellFormedPinLaw", name := "drawn", desc := "(JII)B" } : Jvm.MethodName) method_3_code (5 : Nat) (Option.some Jvm.ClassFile.FieldType.byte)).before args0 about1 = true := code_word (m := ⟨1, 2⟩) (meth := k1m2) (c := k1c2) (by decide +kernel) rfl rfl rfl (by decide +kernel)
set_option maxRecDepth 65536 in
theorem w_c2 : (Jvm.Cond.code ({ cls := "com/example/leafline/leafline/table/CodePointOrderWellFormedPinLaw", name := "advance", desc := "([BII)I" } : Jvm.MethodName) method_4_code (4 : Nat) (Option.some Jvm.ClassFile.FieldType.int)).before args0 about1 = true := code_word (m := ⟨1, 3⟩) (meth := k1m3) (c := k1c3) (by decide +kernel) rfl rfl rfl (by decide +kernel)
set_option maxRecDepth 65536 in
theorem w_c3 : (Jvm.Cond.code ({ cls := "com/example/leafline/leafline/table/CodePointOrder", name := "wellFormed", desc := "([BII)Z" } : Jvm.MethodName) prog_89_method_4_code (12 : Nat) (Option.some Jvm.ClassFile.FieldType.boolean)).before args0 about1 = true := code_word (m := ⟨2, 1⟩) (meth := k2m1) (c := k2c1) (by decide +kernel) rfl rfl rfl (by decide +kernel)
set_option maxRecDepth 65536 in
theorem w_c4 : (Jvm.Cond.code ({ cls := "com/example/leafline/leafline/table/CodePointOrderWellFormedPinLaw", name := "charLength", desc := "([BII)I" } : Jvm.MethodName) method_6_code (10 : Nat) (Option.some Jvm.ClassFile.FieldType.int)).before args0 about1 = true := code_word (m := ⟨1, 5⟩) (meth := k1m5) (c := k1c5) (by decide +kernel) rfl rfl rfl (by decide +kernel)
set_option maxRecDepth 65536 in
theorem w_c5 : (Jvm.Cond.code ({ cls := "com/example/leafline/leafline/table/CodePointOrderWellFormedPinLaw", name := "isCont", desc := "(I)Z" } : Jvm.MethodName) method_5_code (1 : Nat) (Option.some Jvm.ClassFile.FieldType.boolean)).before args0 about1 = true := code_word (m := ⟨1, 4⟩) (meth := k1m4) (c := k1c4) (by decide +kernel) rfl rfl rfl (by decide +kernel)
def codes1 : List Jvm.Cond := [Jvm.Cond.code x code maxLocals ret, Jvm.Cond.code ({ cls := "com/example/leafline/leafline/table/CodePointOrderWellFormedPinLaw", name := "drawn", desc := "(JII)B" } : Jvm.MethodName) method_3_code (5 : Nat) (Option.some Jvm.ClassFile.FieldType.byte), Jvm.Cond.code ({ cls := "com/example/leafline/leafline/table/CodePointOrderWellFormedPinLaw", name := "advance", desc := "([BII)I" } : Jvm.MethodName) method_4_code (4 : Nat) (Option.some Jvm.ClassFile.FieldType.int), Jvm.Cond.code ({ cls := "com/example/leafline/leafline/table/CodePointOrder", name := "wellFormed", desc := "([BII)Z" } : Jvm.MethodName) prog_89_method_4_code (12 : Nat) (Option.some Jvm.ClassFile.FieldType.boolean), Jvm.Cond.code ({ cls := "com/example/leafline/leafline/table/CodePointOrderWellFormedPinLaw", name := "charLength", desc := "([BII)I" } : Jvm.MethodName) method_6_code (10 : Nat) (Option.some Jvm.ClassFile.FieldType.int), Jvm.Cond.code ({ cls := "com/example/leafline/leafline/table/CodePointOrderWellFormedPinLaw", name := "isCont", desc := "(I)Z" } : Jvm.MethodName) method_5_code (1 : Nat) (Option.some Jvm.ClassFile.FieldType.boolean)]
set_option maxRecDepth 65536 in
theorem codes_eq : words1.filter isCode = codes1 := rfl
theorem w_codes : ∀ c ∈ words1.filter isCode, c.before args0 about1 = true := by
  rw [codes_eq]
  intro c hc
  simp only [codes1, List.mem_cons, List.not_mem_nil, or_false] at hc
  rcases hc with rfl | rfl | rfl | rfl | rfl | rfl
  · exact w_c0
  · exact w_c1
  · exact w_c2
  · exact w_c3
  · exact w_c4
  · exact w_c5
set_option maxRecDepth 65536 in
theorem w_t1 : words1.all (fun c => isCode c || c.before args0 about1) = true := by decide +kernel
theorem w_tables : (allAtoms (Jvm.Cond.code x code maxLocals ret :: tables_1)).before args0 about1 = true := by
  rw [allAtoms_all]
  show words1.all (fun c => c.before args0 about1) = true
  refine all_split ?_ w_codes
  rw [w_t1]
set_option maxRecDepth 65536 in
theorem w_case : (Jvm.Cond.and given_1 narrow_1).before args0 about1 = true := by decide +kernel
theorem w_applies : (headSpec (Jvm.Cond.code x code maxLocals ret :: tables_1) room_1).applies x e0.platform about1 = true :=
  (Spec.applies_iff w_frames).mpr ⟨w_running, w_runnable, w_alone, w_named, w_hears, w_ripe, w_room, w_tables⟩
theorem atStart : AtStart classFile x code maxLocals ret World_1 tables_1 room_1 Calls_1 rest_1 Pre_1 launch0 p0 e0 about1 theMethod args0 below0 :=
  ⟨lists_1, trivial, launch0.admits_env _ _ _, launch0.least_env, fairChoices_fair.cas, fairChoices_fair.clock, w_frames, w_args, w_heap, w_applies, trivial, trivial, w_case⟩
end start1
theorem witness_1 : WitnessClaimed_1 := ⟨start1.p0, start1.e0, start1.about1, start1.theMethod, start1.args0, start1.below0, start1.atStart⟩
end Jvm.Pilot.@@N@@
