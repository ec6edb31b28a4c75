import JvmDerived
import JvmDerived.Pilot.@@N@@Statement
import JvmDerived.Pilot.@@N@@Code
set_option linter.unusedVariables false
set_option linter.unusedSimpArgs false
namespace Jvm.Pilot.@@N@@
open Jvm Jvm.ClassFile Sem Op Lib Jvm.Free Jvm.Stand Jvm.LawKit Jvm.RoadKit Bundle Jvm.Pilot.@@N@@.Jvm.D
/-! ## the walk's own goal: from this frame the method comes to its end, and what it leaves is Q -/
def own_Fin (tb : Tables) (e : Env) (below : List Frame) (s : State) (R : Room) (Q : Option Value → Heap → List Loc → Prop) (T : State) (g : JFrame) : Prop :=
  ∃ s₂ o, Steps tb e below (T.setTop g) s₂ ∧ s₂.status = .running ∧ Ended s₂ below o ∧ ∃ v L, o = .returned v ∧ Q v s₂.heap L ∧ FrameEnd s o s₂ L R.cells R.slots
theorem own_st {tb : Tables} {e : Env} {below : List Frame} {s : State} {R : Room} {Q : Option Value → Heap → List Loc → Prop} {T T' : State} {g g' : JFrame}
    (h : ∀ t, Steps tb e below (T'.setTop g') t → Steps tb e below (T.setTop g) t) (k : own_Fin tb e below s R Q T' g') : own_Fin tb e below s R Q T g := by
  obtain ⟨s₂, o, h1, r⟩ := k
  exact ⟨s₂, o, h _ h1, r⟩
/-- an array: its kind, its length, what lies at each place -/
def own_A (Z : State) (h : Heap) (a : Addr) (ty : FieldType) (n : Nat) (f : Nat → Value) : Prop := ∃ c : Cell, Arr Z h a c ty ∧ c.slots.size = n ∧ ∀ i, i < n → c.slots[i]? = some (f i)
section OwnArr
variable {Z : State} {h h' : Heap} {a b : Addr} {ty : FieldType} {n : Nat} {f : Nat → Value} {ws : List Addr} {sl : Nat} {v : Value}
theorem own_A.lt (F : own_A Z h a ty n f) : a < h.size := by obtain ⟨c, A, -⟩ := F; exact A.lt
theorem own_A.ext (F : own_A Z h a ty n f) (E : Ext h h') : own_A Z h' a ty n f := by obtain ⟨c, A, r⟩ := F; exact ⟨c, A.ext E, r⟩
theorem own_A.other (F : own_A Z h a ty n f) (W : Wr h h' b sl v) (q : a ≠ b) : own_A Z h' a ty n f := by obtain ⟨c, A, r⟩ := F; exact ⟨c, A.other W q, r⟩
theorem own_A.keep (F : own_A Z h a ty n f) (K : Keep h h' ws) (q : a ∉ ws) : own_A Z h' a ty n f := by obtain ⟨c, A, r⟩ := F; exact ⟨c, ⟨K.2.1 a c A.1 q, A.2⟩, r⟩
theorem own_A.congr (F : own_A Z h a ty n f) {f' : Nat → Value} (q : ∀ i, i < n → f i = f' i) : own_A Z h a ty n f' := by
  obtain ⟨c, A, r1, r2⟩ := F
  exact ⟨c, A, r1, fun i hi => by rw [r2 i hi, q i hi]⟩
theorem own_A.new {k : ClassId} {z : Int32} (A : Arr Z h a (newA k ty z) ty) : own_A Z h a ty z.toNatClampNeg (fun _ => defaultValue ty) :=
  ⟨_, A, sz_new _ _ _, fun i hi => by simp [newA, hi]⟩
theorem own_A.set (F : own_A Z h a ty n f) (W : Wr h h' a sl v) : own_A Z h' a ty n (fun i => if i = sl then v else f i) := by
  obtain ⟨c, A, r1, r2⟩ := F
  refine ⟨_, A.same W, by rw [sz_set]; exact r1, fun i hi => ?_⟩
  by_cases q : i = sl
  · subst q; simp [Cell.setSlot, r1, hi]
  · simp only [Cell.setSlot, q, if_false]; rw [Array.getElem?_setIfInBounds_ne (Ne.symm q)]; exact r2 i hi
theorem own_ne_A {c : Nat} {C : String} {a0 : Array Value} (F : Exa Z h b C) (wi : (Jvm.Cond.instantiable C c).before a0 Z = true) (G : own_A Z h a ty n f) : b ≠ a := by
  obtain ⟨cl, A, -⟩ := G; exact ne_arr F wi A
end OwnArr
section OwnStand
variable {p : Program} {l : Launch} {e : Env} {R : Room} {s : State} {m : MethodId} {args : Array Value} {below : List Frame} {meth : Method} {c : Code} {T : State} {locs : List Loc} {cells slots : Nat} {Q : Option Value → Heap → List Loc → Prop} {Z : State} {a0 : Array Value} {h : Heap}
theorem own_ret {v : Option Value} {g : JFrame} (X : Stand p l e R s m args below meth c T locs cells slots) (hv : meth.sig.returnType = none → v = none) (hlocks : meth.locks = false) (hc : cells ≤ R.cells) (hs : slots ≤ R.slots) (hQ : Q v T.heap locs)
    (hstep : ∀ fs, (∀ (f : JFrame) (acts : List Action), f.method = m → f.locked = none → f.entered = [] → (doReturn e (T.setTop f) acts v).1 = T.setFrames fs) → Steps p.tables e below (T.setTop g) (T.setFrames fs)) : own_Fin p.tables e below s R Q T g := by
  obtain ⟨fs, hr, hrun, hended, hW, hsame⟩ := X.leave hv hlocks
  exact ⟨_, _, hstep fs hr, hrun, hended, _, _, rfl, hQ, ⟨_, rfl⟩, hW, hsame.mono hc hs⟩
theorem own_retI {pc : Nat} {Ls : Array Slot} {z : Int32} {rest : List Value} (X : Stand p l e R s m args below meth c T locs cells slots) (hx : p.tables.exec = Jvm.exec) (hret : meth.sig.returnType = some .int) (hlocks : meth.locks = false) (hd : decode c.code pc = .ok (.ireturn, 1))
    (hc : cells ≤ R.cells) (hs : slots ≤ R.slots) (hQ : Q (some (.int z)) T.heap locs) : own_Fin p.tables e below s R Q T (mkF m pc Ls (.int z :: rest)) :=
  own_ret X (fun h => by rw [hret] at h; cases h) hlocks hc hs hQ fun fs hr => retOut X hx hret rfl (Or.inl ⟨rfl, Or.inl rfl, _, rfl⟩) hd hr
theorem own_retJ {pc : Nat} {Ls : Array Slot} {z : Int64} {rest : List Value} (X : Stand p l e R s m args below meth c T locs cells slots) (hx : p.tables.exec = Jvm.exec) (hret : meth.sig.returnType = some .long) (hlocks : meth.locks = false) (hd : decode c.code pc = .ok (.lreturn, 1))
    (hc : cells ≤ R.cells) (hs : slots ≤ R.slots) (hQ : Q (some (.long z)) T.heap locs) : own_Fin p.tables e below s R Q T (mkF m pc Ls (.long z :: rest)) :=
  own_ret X (fun h => by rw [hret] at h; cases h) hlocks hc hs hQ fun fs hr => retOut X hx hret rfl (Or.inr (Or.inl ⟨rfl, rfl, _, rfl⟩)) hd hr
theorem own_retA {pc : Nat} {Ls : Array Slot} {t : FieldType} {b : Addr} {rest : List Value} (X : Stand p l e R s m args below meth c T locs cells slots) (hx : p.tables.exec = Jvm.exec) (hret : meth.sig.returnType = some t) (ht : t.isReference = true) (hn : narrow t (.ref b) = .ref b) (hlocks : meth.locks = false) (hd : decode c.code pc = .ok (.areturn, 1))
    (hc : cells ≤ R.cells) (hs : slots ≤ R.slots) (hQ : Q (some (.ref b)) T.heap locs) : own_Fin p.tables e below s R Q T (mkF m pc Ls (.ref b :: rest)) :=
  own_ret X (fun h => by rw [hret] at h; cases h) hlocks hc hs hQ fun fs hr => retOut X hx hret hn (Or.inr (Or.inr (Or.inr (Or.inr ⟨rfl, ht, rfl⟩)))) hd hr
theorem own_retN {pc : Nat} {Ls : Array Slot} {t : FieldType} {z : Int32} {rest : List Value} (X : Stand p l e R s m args below meth c T locs cells slots) (hx : p.tables.exec = Jvm.exec) (hret : meth.sig.returnType = some t) (ht : t = .boolean ∨ t = .byte ∨ t = .char ∨ t = .short) (hlocks : meth.locks = false) (hd : decode c.code pc = .ok (.ireturn, 1))
    (hc : cells ≤ R.cells) (hs : slots ≤ R.slots) (hQ : Q (some (.int (nar t z))) T.heap locs) : own_Fin p.tables e below s R Q T (mkF m pc Ls (.int z :: rest)) :=
  own_ret X (fun h => by rw [hret] at h; cases h) hlocks hc hs hQ fun fs hr => retN X hx hret ht hd hr
theorem own_retV {pc : Nat} {Ls : Array Slot} (X : Stand p l e R s m args below meth c T locs cells slots) (hx : p.tables.exec = Jvm.exec) (hret : meth.sig.returnType = none) (hlocks : meth.locks = false) (hd : decode c.code pc = .ok (.return_, 1))
    (hc : cells ≤ R.cells) (hs : slots ≤ R.slots) (hQ : Q none T.heap locs) : own_Fin p.tables e below s R Q T (mkF m pc Ls []) :=
  own_ret X (fun _ => rfl) hlocks hc hs hQ fun fs hr => X.returnOut hx hret hd hr
theorem own_iaload {n : Nat} {f : Nat → Value} {a : Addr} {j : Int32} {v : Value} {g : JFrame} {rest : List Value} (X : Stand p l e R s m args below meth c T locs cells slots) (hx : p.tables.exec = Jvm.exec) (hZ : Z.Warmed39 s.vm) (eT : T.heap = h) (F : own_A Z h a .int n f) (hj : ¬ (j < 0 ∨ n ≤ j.toNatClampNeg)) (hv : f j.toNatClampNeg = v)
    (hg : g.method = m) (hs : g.stack = .int j :: .ref a :: rest) (hd : decode c.code g.pc = .ok (.iaload, 1)) (t : State) (k : Steps p.tables e below (T.setTop { g with pc := g.pc + 1, stack := v :: rest }) t) : Steps p.tables e below (T.setTop g) t := by
  obtain ⟨cl, A, r1, r2⟩ := F
  exact X.iaload hx (by rw [eT]; exact A.1) (State.isArrayOf_alike hZ.alike A.2.1) A.2.2 (by rw [r1]; exact hj) (by rw [r2 _ (Nat.lt_of_not_le fun q => hj (Or.inr q)), hv]) hg hs hd t k
theorem own_laload {n : Nat} {f : Nat → Value} {a : Addr} {j : Int32} {v : Value} {g : JFrame} {rest : List Value} (X : Stand p l e R s m args below meth c T locs cells slots) (hx : p.tables.exec = Jvm.exec) (hZ : Z.Warmed39 s.vm) (eT : T.heap = h) (F : own_A Z h a .long n f) (hj : ¬ (j < 0 ∨ n ≤ j.toNatClampNeg)) (hv : f j.toNatClampNeg = v)
    (hg : g.method = m) (hs : g.stack = .int j :: .ref a :: rest) (hd : decode c.code g.pc = .ok (.laload, 1)) (t : State) (k : Steps p.tables e below (T.setTop { g with pc := g.pc + 1, stack := v :: rest }) t) : Steps p.tables e below (T.setTop g) t := by
  obtain ⟨cl, A, r1, r2⟩ := F
  exact X.laload hx (by rw [eT]; exact A.1) (State.isArrayOf_alike hZ.alike A.2.1) A.2.2 (by rw [r1]; exact hj) (by rw [r2 _ (Nat.lt_of_not_le fun q => hj (Or.inr q)), hv]) hg hs hd t k
theorem own_baload {n : Nat} {f : Nat → Value} {a : Addr} {j : Int32} {v : Value} {g : JFrame} {rest : List Value} (X : Stand p l e R s m args below meth c T locs cells slots) (hx : p.tables.exec = Jvm.exec) (hZ : Z.Warmed39 s.vm) (eT : T.heap = h) (F : own_A Z h a .byte n f) (hj : ¬ (j < 0 ∨ n ≤ j.toNatClampNeg)) (hv : f j.toNatClampNeg = v)
    (hg : g.method = m) (hs : g.stack = .int j :: .ref a :: rest) (hd : decode c.code g.pc = .ok (.baload, 1)) (t : State) (k : Steps p.tables e below (T.setTop { g with pc := g.pc + 1, stack := v :: rest }) t) : Steps p.tables e below (T.setTop g) t := by
  obtain ⟨cl, A, r1, r2⟩ := F
  exact X.baloadBytes hx (by rw [eT]; exact A.1) (State.isArrayOf_alike hZ.alike A.2.1) A.2.2 (by rw [r1]; exact hj) (by rw [r2 _ (Nat.lt_of_not_le fun q => hj (Or.inr q)), hv]) hg hs hd t k
theorem own_alen {ty : FieldType} {n : Nat} {f : Nat → Value} {a : Addr} {z : Int32} {g : JFrame} {rest : List Value} (X : Stand p l e R s m args below meth c T locs cells slots) (hx : p.tables.exec = Jvm.exec) (hZ : Z.Warmed39 s.vm) (eT : T.heap = h) (F : own_A Z h a ty n f) (hz : n.toInt32 = z)
    (hg : g.method = m) (hs : g.stack = .ref a :: rest) (hd : decode c.code g.pc = .ok (.arraylength, 1)) (t : State) (k : Steps p.tables e below (T.setTop { g with pc := g.pc + 1, stack := .int z :: rest }) t) : Steps p.tables e below (T.setTop g) t := by
  obtain ⟨cl, A, r1, r2⟩ := F
  subst hz
  exact X.arraylength hx (by rw [eT]; exact A.1) (State.isArrayOf_alike hZ.alike A.2.1) hg hs hd t (by rw [r1]; exact k)
theorem own_iastore {n : Nat} {f : Nat → Value} {a : Addr} {j x : Int32} {g : JFrame} {rest : List Value} (X : Stand p l e R s m args below meth c T locs cells slots) (hx : p.tables.exec = Jvm.exec) (hZ : Z.Warmed39 s.vm) (eT : T.heap = h) (F : own_A Z h a .int n f) (hj : ¬ (j < 0 ∨ n ≤ j.toNatClampNeg))
    (hg : g.method = m) (hs : g.stack = .int x :: .int j :: .ref a :: rest) (hd : decode c.code g.pc = .ok (.iastore, 1)) :
    ∃ T' h', Stand p l e R s m args below meth c T' (locs ++ [⟨a, j.toNatClampNeg⟩]) cells slots ∧ T'.heap = h' ∧ Wr h h' a j.toNatClampNeg (.int x) ∧ ∀ target, Steps p.tables e below (T'.setTop { g with pc := g.pc + 1, stack := rest }) target → Steps p.tables e below (T.setTop g) target := by
  obtain ⟨cl, A, r1, r2⟩ := F
  exact stI X hx hZ eT A (by rw [r1]; exact hj) hg hs hd
theorem own_lastore {n : Nat} {f : Nat → Value} {a : Addr} {j : Int32} {x : Int64} {g : JFrame} {rest : List Value} (X : Stand p l e R s m args below meth c T locs cells slots) (hx : p.tables.exec = Jvm.exec) (hZ : Z.Warmed39 s.vm) (eT : T.heap = h) (F : own_A Z h a .long n f) (hj : ¬ (j < 0 ∨ n ≤ j.toNatClampNeg))
    (hg : g.method = m) (hs : g.stack = .long x :: .int j :: .ref a :: rest) (hd : decode c.code g.pc = .ok (.lastore, 1)) :
    ∃ T' h', Stand p l e R s m args below meth c T' (locs ++ [⟨a, j.toNatClampNeg⟩]) cells slots ∧ T'.heap = h' ∧ Wr h h' a j.toNatClampNeg (.long x) ∧ ∀ target, Steps p.tables e below (T'.setTop { g with pc := g.pc + 1, stack := rest }) target → Steps p.tables e below (T.setTop g) target := by
  obtain ⟨cl, A, r1, r2⟩ := F
  exact stJ X hx hZ eT A (by rw [r1]; exact hj) hg hs hd
theorem own_bastore {n : Nat} {f : Nat → Value} {a : Addr} {j x : Int32} {g : JFrame} {rest : List Value} (X : Stand p l e R s m args below meth c T locs cells slots) (hx : p.tables.exec = Jvm.exec) (hZ : Z.Warmed39 s.vm) (eT : T.heap = h) (F : own_A Z h a .byte n f) (hj : ¬ (j < 0 ∨ n ≤ j.toNatClampNeg))
    (hg : g.method = m) (hs : g.stack = .int x :: .int j :: .ref a :: rest) (hd : decode c.code g.pc = .ok (.bastore, 1)) :
    ∃ T' h', Stand p l e R s m args below meth c T' (locs ++ [⟨a, j.toNatClampNeg⟩]) cells slots ∧ T'.heap = h' ∧ Wr h h' a j.toNatClampNeg (.int (nar .byte x)) ∧ ∀ target, Steps p.tables e below (T'.setTop { g with pc := g.pc + 1, stack := rest }) target → Steps p.tables e below (T.setTop g) target := by
  obtain ⟨cl, A, r1, r2⟩ := F
  exact stB X hx hZ eT A (by rw [r1]; exact hj) hg hs hd
theorem own_newarr {aty : ArrayType} {n : Int32} {rest : List Value} {g : JFrame} (X : Stand p l e R s m args below meth c T locs cells slots) (hx : p.tables.exec = Jvm.exec) (hZ : Z.Warmed39 s.vm) (w : (Jvm.Cond.arrayClass (newarray.typeOf aty)).before a0 Z = true) (eT : T.heap = h) (hg : g.method = m) (hd : decode c.code g.pc = .ok (.newarray aty, 2)) (hs : g.stack = .int n :: rest)
    (hn : ¬ n < 0) {cap : Nat} (hcap : n.toNatClampNeg ≤ cap) (hb : cap * 8 ≤ 536870912) (hc : cells + 1 ≤ R.cells) (hl : slots + cap ≤ R.slots) :
    ∃ T' h' a, Stand p l e R s m args below meth c T' locs (cells + 1) (slots + cap) ∧ T'.heap = h' ∧ a = h.size ∧ Ext h h' ∧ own_A Z h' a (newarray.typeOf aty) n.toNatClampNeg (fun _ => defaultValue (newarray.typeOf aty)) ∧
      ∀ target, Steps p.tables e below (T'.setTop { g with pc := g.pc + 2, stack := .ref a :: rest }) target → Steps p.tables e below (T.setTop g) target := by
  obtain ⟨T', h', cA, X', e', E', A', st⟩ := newP X hx hZ w eT hg hd hs hn hcap hb hc hl
  exact ⟨T', h', _, X', e', rfl, E', own_A.new A', st⟩
theorem own_new {own C : String} {index n : Nat} {g : JFrame} (X : Stand p l e R s m args below meth c T locs cells slots) (hx : p.tables.exec = Jvm.exec) (hZ : Z.Warmed39 s.vm) (hown : s.vm.findClass own = some m.cls) (w : (Jvm.Cond.classLink own index C).before a0 Z = true) (wi : (Jvm.Cond.instantiable C n).before a0 Z = true) (wz : (Jvm.Cond.initialized C).before a0 Z = true) (eT : T.heap = h)
    (hg : g.method = m) (hd : decode c.code g.pc = .ok (.new index, 3)) (hc : cells + 1 ≤ R.cells) (hl : slots + n ≤ R.slots) :
    ∃ T' h' a, Stand p l e R s m args below meth c T' locs (cells + 1) (slots + n) ∧ T'.heap = h' ∧ a = h.size ∧ Ext h h' ∧ Exa Z h' a C ∧ (∀ {O nm d : String} {ty : FieldType}, Laid Z a0 C O nm d → parseFieldDescriptor d = some ty → Fld Z h' a O nm d (defaultValue ty)) ∧
      ∀ target, Steps p.tables e below (T'.setTop { g with pc := g.pc + 3, stack := .ref a :: g.stack }) target → Steps p.tables e below (T.setTop g) target := by
  obtain ⟨T', h', X', e', E', A', D', -, st⟩ := newO X hx hZ hown w wi wz eT hg hd hc hl
  exact ⟨T', h', _, X', e', rfl, E', A', D', st⟩
theorem own_body {y : MethodName} {bytes : ByteArray} {maxL : Nat} {ret : Option FieldType} {ws : List Jvm.Cond} {rm : Room} {as' : Array Value} {h0 : Heap} (hpl : plainFor y = true)
    (body : ∀ (p : Program) (e : Env) (s : State) (m : MethodId) (below : List Frame) (meth : Method) (c : Code) (s₁ : State), p.tables.exec = Jvm.exec → c.code = bytes → c.maxLocals = maxL → s.vm.findClass y.cls = some m.cls → meth.name = y.name → meth.sig.returnType = ret → meth.locks = false → Z.Warmed39 s.vm → Stand p l e rm s m as' below meth c s₁ [] 0 0 → s₁.heap = h0 → own_Fin p.tables e below s rm Q s₁ (entryFrame m as' maxL)) :
    MetFree l y (head1 (Jvm.Cond.code y bytes maxL ret :: ws) rm) (fun a U => a = as' ∧ Z.Warmed39 U.vm ∧ U.heap = h0) (fun _ _ _ _ _ => True) (fun _ U o U' => ∃ v L, o = .returned v ∧ Q v U'.heap L ∧ FrameEnd U o U' L rm.cells rm.slots) := by
  refine MetFree.of_bodySF hpl hisR ?_
  intro p e s m args below meth c s₁ Bd hml0 hP hK
  obtain ⟨rfl, hZ, hh⟩ := hP
  exact body p e s m below meth c s₁ Bd.exec Bd.bytes hml0 (findClass_of_methodNamed Bd.named) (name_of_methodNamed Bd.named Bd.method).1 Bd.returns Bd.notSynchronized hZ (Stand.of_body Bd) (by rw [← hh, Bd.state]; rfl)
theorem own_callS {own : String} {index : Nat} {y : MethodName} {bytes : ByteArray} {maxL W : Nat} {ret : Option FieldType} {rm : Room} {as' : Array Value} {g : JFrame} {argsL rest : List Value}
    (X : Stand p l e R s m args below meth c T locs cells slots) (hx : p.tables.exec = Jvm.exec) (hZ : Z.Warmed39 s.vm) (hown : s.vm.findClass own = some m.cls)
    (w1 : (Jvm.Cond.methodLink own index y).before a0 Z = true) (w2 : (Jvm.Cond.static y).before a0 Z = true) (w3 : (Jvm.Cond.initialized y.cls).before a0 Z = true) (w4 : (Jvm.Cond.code y bytes maxL ret).before a0 Z = true)
    (hy : y.cls ≠ "java/lang/invoke/MethodHandle" ∧ y.cls ≠ "java/lang/invoke/VarHandle") (eT : T.heap = h)
    (hM : MetFree l y (head1 [Jvm.Cond.code y bytes maxL ret] rm) (fun a U => a = as' ∧ Z.Warmed39 U.vm ∧ U.heap = h) (fun _ _ _ _ _ => True) (fun _ U o U' => ∃ v L, o = .returned v ∧ Q v U'.heap L ∧ FrameEnd U o U' L rm.cells rm.slots))
    (hf : rm.frames + 1 ≤ R.frames) (hl : W + (maxL + 11) + rm.locals ≤ R.locals) (hg : g.method = m) (hsize : g.locals.size = c.maxLocals) (hlen : ∀ sig, parseMethodDescriptor y.desc = some sig → argsL.length = sig.parameters.length)
    (hstack : g.stack = argsL.reverse ++ rest) (has : argsL.toArray = as') (hW : 2 * g.monitorRoom + (rest.map fun v => v.category).sum ≤ W) (hdg : decode c.code g.pc = .ok (.invokestatic index, 3)) (hc : cells + rm.cells ≤ R.cells) (hs : slots + rm.slots ≤ R.slots) :
    ∃ (v : Option Value) (T' : State) (L : List Loc), Stand p l e R s m args below meth c T' (locs ++ L) (cells + rm.cells) (slots + rm.slots) ∧ Q v T'.heap L ∧
      ∀ target, Steps p.tables e below (T'.setTop { g with pc := g.pc + 3, stack := v.toList ++ rest }) target → Steps p.tables e below (T.setTop g) target := by
  obtain ⟨v, _, ⟨T', L', k', n'⟩, -, X', ⟨Lc, hQ, l', y', z'⟩, st⟩ := Jvm.LawKit.callS X hx (y := y) hown (mvT hZ w1) (mvT hZ w2) (mvT hZ w3) (mvT hZ w4) hy (backOf (W := W) hM hZ w4 w3 hf hl) hg hsize hlen hstack hW hdg (fun _ _ => ⟨has, eT, hc, hs⟩)
  dsimp only [Pt.U, Pt.locs, Pt.cells, Pt.slots] at X' l' y' z' st hQ
  subst l' y' z'
  exact ⟨v, T', Lc, X', hQ, st⟩
theorem own_callN {own : String} {index : Nat} {y : MethodName} {bytes : ByteArray} {maxL W : Nat} {rm : Room} {as' : Array Value} {g : JFrame} {a : Addr} {argsL rest : List Value}
    (X : Stand p l e R s m args below meth c T locs cells slots) (hx : p.tables.exec = Jvm.exec) (hZ : Z.Warmed39 s.vm) (hy1 : y.name = "<init>") (hown : s.vm.findClass own = some m.cls)
    (w1 : (Jvm.Cond.methodLink own index y).before a0 Z = true) (w2 : (Jvm.Cond.instanceMethod y).before a0 Z = true) (w3 : (Jvm.Cond.initialized y.cls).before a0 Z = true) (w4 : (Jvm.Cond.code y bytes maxL none).before a0 Z = true)
    (hy : y.cls ≠ "java/lang/invoke/MethodHandle" ∧ y.cls ≠ "java/lang/invoke/VarHandle") (eT : T.heap = h)
    (hM : MetFree l y (head1 [Jvm.Cond.code y bytes maxL none] rm) (fun a U => a = as' ∧ Z.Warmed39 U.vm ∧ U.heap = h) (fun _ _ _ _ _ => True) (fun _ U o U' => ∃ v L, o = .returned v ∧ Q v U'.heap L ∧ FrameEnd U o U' L rm.cells rm.slots))
    (hf : rm.frames + 1 ≤ R.frames) (hl : W + (maxL + 11) + rm.locals ≤ R.locals) (hg : g.method = m) (hsize : g.locals.size = c.maxLocals) (hlen : ∀ sig, parseMethodDescriptor y.desc = some sig → argsL.length = sig.parameters.length)
    (hstack : g.stack = argsL.reverse ++ .ref a :: rest) (has : (.ref a :: argsL).toArray = as') (hW : 2 * g.monitorRoom + (rest.map fun v => v.category).sum ≤ W) (hdg : decode c.code g.pc = .ok (.invokespecial index, 3)) (hc : cells + rm.cells ≤ R.cells) (hs : slots + rm.slots ≤ R.slots) :
    ∃ (v : Option Value) (T' : State) (L : List Loc), Stand p l e R s m args below meth c T' (locs ++ L) (cells + rm.cells) (slots + rm.slots) ∧ Q v T'.heap L ∧
      ∀ target, Steps p.tables e below (T'.setTop { g with pc := g.pc + 3, stack := v.toList ++ rest }) target → Steps p.tables e below (T.setTop g) target := by
  obtain ⟨v, _, ⟨T', L', k', n'⟩, -, X', ⟨Lc, hQ, l', y', z'⟩, st⟩ := X.specialBack hx (y := y) hy1 hown (mvT hZ w1) (mvT hZ w2) (mvT hZ w4) hy (backOf (W := W) hM hZ w4 w3 hf hl) hg hsize (Steps.refl _) (a := a) hlen hstack hW hdg (fun _ _ => ⟨has, eT, hc, hs⟩)
  dsimp only [Pt.U, Pt.locs, Pt.cells, Pt.slots] at X' l' y' z' st hQ
  subst l' y' z'
  exact ⟨v, T', Lc, X', hQ, fun _ k => st.trans k⟩
theorem own_callV {own C : String} {index : Nat} {y : MethodName} {bytes : ByteArray} {maxL W : Nat} {ret : Option FieldType} {rm : Room} {as' : Array Value} {g : JFrame} {a : Addr} {argsL rest : List Value}
    (X : Stand p l e R s m args below meth c T locs cells slots) (hx : p.tables.exec = Jvm.exec) (hZ : Z.Warmed39 s.vm) (hown : s.vm.findClass own = some m.cls)
    (w1 : (Jvm.Cond.methodLink own index y).before a0 Z = true) (w2 : (Jvm.Cond.declares y).before a0 Z = true) (w3 : (Jvm.Cond.selects C y y).before a0 Z = true) (w4 : (Jvm.Cond.instanceMethod y).before a0 Z = true) (w5 : (Jvm.Cond.initialized y.cls).before a0 Z = true) (w6 : (Jvm.Cond.code y bytes maxL ret).before a0 Z = true)
    (hy : y.cls ≠ "java/lang/invoke/MethodHandle" ∧ y.cls ≠ "java/lang/invoke/VarHandle") (eT : T.heap = h) (E : Exa Z h a C)
    (hM : MetFree l y (head1 [Jvm.Cond.code y bytes maxL ret] rm) (fun a U => a = as' ∧ Z.Warmed39 U.vm ∧ U.heap = h) (fun _ _ _ _ _ => True) (fun _ U o U' => ∃ v L, o = .returned v ∧ Q v U'.heap L ∧ FrameEnd U o U' L rm.cells rm.slots))
    (hf : rm.frames + 1 ≤ R.frames) (hl : W + (maxL + 11) + rm.locals ≤ R.locals) (hg : g.method = m) (hsize : g.locals.size = c.maxLocals) (hlen : ∀ sig, parseMethodDescriptor y.desc = some sig → argsL.length = sig.parameters.length)
    (hstack : g.stack = argsL.reverse ++ .ref a :: rest) (has : (.ref a :: argsL).toArray = as') (hW : 2 * g.monitorRoom + (rest.map fun v => v.category).sum ≤ W) (hdg : decode c.code g.pc = .ok (.invokevirtual index, 3)) (hc : cells + rm.cells ≤ R.cells) (hs : slots + rm.slots ≤ R.slots) :
    ∃ (v : Option Value) (T' : State) (L : List Loc), Stand p l e R s m args below meth c T' (locs ++ L) (cells + rm.cells) (slots + rm.slots) ∧ Q v T'.heap L ∧
      ∀ target, Steps p.tables e below (T'.setTop { g with pc := g.pc + 3, stack := v.toList ++ rest }) target → Steps p.tables e below (T.setTop g) target := by
  obtain ⟨cq, kq, qa, qb, qc⟩ := isOf hZ eT E
  obtain ⟨v, _, ⟨T', L', k', n'⟩, -, X', ⟨Lc, hQ, l', y', z'⟩, st⟩ := X.virtualBack hx (y := y) (z := y) hown (mvT hZ w1) (mvT hZ w2) (notFace_of_selects (args := args) (mvT hZ w3)) (mvT hZ w3) (mvT hZ w4) hy (backOf (W := W) hM hZ w6 w5 hf hl) qa qc hg hsize (Steps.refl _) hlen hstack hW hdg (fun _ _ => ⟨has, eT, hc, hs⟩)
  dsimp only [Pt.U, Pt.locs, Pt.cells, Pt.slots] at X' l' y' z' st hQ
  subst l' y' z'
  exact ⟨v, T', Lc, X', hQ, fun _ k => st.trans k⟩
end OwnStand
theorem own_idx (j : Int32) (n : Nat) (h0 : 0 ≤ j.toInt) (h1 : j.toInt < n) : ¬ (j < 0 ∨ n ≤ j.toNatClampNeg) := by
  have e : j.toNatClampNeg = j.toInt.toNat := rfl
  intro q
  rcases q with q | q
  · rw [Int32.lt_iff_toInt_lt] at q
    have : (0 : Int32).toInt = 0 := by decide
    omega
  · omega
theorem own_clamp (j : Int32) (k : Nat) (h : j.toInt = k) : j.toNatClampNeg = k := by
  have e : j.toNatClampNeg = j.toInt.toNat := rfl
  omega
theorem own_lt32 (x y : Int32) : x < y ↔ x.toInt < y.toInt := Int32.lt_iff_toInt_lt
theorem own_eq32 (x y : Int32) : x = y ↔ x.toInt = y.toInt := Int32.toInt_inj.symm
/-- the digits from place i on, k of them, over acc -/
def own_dig (g : Nat → Int32) : Nat → Nat → Int64 → Option Int64
  | _, 0, acc => some acc
  | i, k + 1, acc => if g i - 48 < 0 then none else if 9 < g i - 48 then none else own_dig g (i + 1) k (10 * acc + (g i - 48).toInt64)
def own_fin (neg : Int32) : Option Int64 → Int64
  | none => -9223372036854775808
  | some m => if neg = 0 then m else -m
def own_tail (neg : Int32) (g : Nat → Int32) (Fi F1 : Nat) : Int64 := if F1 = Fi then -9223372036854775808 else if 18 < F1 - Fi then -9223372036854775808 else own_fin neg (own_dig g Fi (F1 - Fi) 0)
def own_pp (g : Nat → Int32) (F0 F1 : Nat) : Int64 := if F0 < F1 ∧ g F0 = 45 then own_tail 1 g (F0 + 1) F1 else own_tail 0 g F0 F1
theorem own_nat_mod (D j : Nat) : D % 10 ^ (j + 1) = 10 * (D / 10 % 10 ^ j) + D % 10 := by
  rw [Nat.pow_succ, Nat.mul_comm, Nat.mod_mul]; omega
/-- digits that are all there sum up to the number -/
theorem own_dig_all (g : Nat → Int32) (U n f : Nat) (hn : n ≤ 18) (hg : ∀ k, k < n → (g (f + k)).toInt = ((48 + U / 10 ^ (n - 1 - k) % 10 : Nat) : Int)) :
    ∀ k j acc, k + j = n → acc.toInt = ((U / 10 ^ k % 10 ^ j : Nat) : Int) → ∃ m, own_dig g (f + j) k acc = some m ∧ m.toInt = ((U % 10 ^ n : Nat) : Int) := by
  intro k
  induction k with
  | zero => intro j acc hk ha; exact ⟨acc, rfl, by rw [ha]; simp at hk ⊢; rw [hk]⟩
  | succ k ih =>
    intro j acc hk ha
    have hgj := hg j (by omega)
    have e1 : n - 1 - j = k := by omega
    rw [e1] at hgj
    have k48 : (48 : Int32).toInt = 48 := by decide
    have k9 : (9 : Int32).toInt = 9 := by decide
    have k0 : (0 : Int32).toInt = 0 := by decide
    generalize hD : U / 10 ^ k = D at hgj
    have hd : (g (f + j) - 48).toInt = ((D % 10 : Nat) : Int) := by
      rw [Int32.toInt_sub, hgj, k48, Int.bmod_eq_of_le (by omega) (by omega)]; omega
    have n1 : ¬ g (f + j) - 48 < 0 := by rw [Int32.lt_iff_toInt_lt]; omega
    have n2 : ¬ 9 < g (f + j) - 48 := by rw [Int32.lt_iff_toInt_lt]; omega
    rw [own_dig, if_neg n1, if_neg n2]
    have hp : U / 10 ^ (k + 1) = D / 10 := by rw [Nat.pow_succ, ← Nat.div_div_eq_div_mul, hD]
    rw [hp] at ha
    have hm := own_nat_mod D j
    have hlt : D % 10 ^ (j + 1) < 10 ^ (j + 1) := Nat.mod_lt _ (Nat.pow_pos (by decide))
    have hle : 10 ^ (j + 1) ≤ 10 ^ 18 := Nat.pow_le_pow_right (by decide) (by omega)
    obtain ⟨m, h1, h2⟩ := ih (j + 1) (10 * acc + (g (f + j) - 48).toInt64) (by omega) (by
      rw [Int64.toInt_add, Int64.toInt_mul, Int32.toInt_toInt64, hd, ha]
      have t10 : (10 : Int64).toInt = 10 := by decide
      rw [t10, hD]
      have b1 : (10 * ((D / 10 % 10 ^ j : Nat) : Int)).bmod (2 ^ 64) = 10 * ((D / 10 % 10 ^ j : Nat) : Int) := Int.bmod_eq_of_le (by omega) (by omega)
      rw [b1, Int.bmod_eq_of_le (by omega) (by omega), hm]
      omega)
    exact ⟨m, by rw [← h1, Nat.add_assoc], h2⟩
/-- a place that holds no digit -/
theorem own_dig_bad (g : Nat → Int32) (f : Nat) (p : Nat) (hp : g (f + p) - 48 < 0 ∨ 9 < g (f + p) - 48) : ∀ k j acc, p < j + k → j ≤ p → own_dig g (f + j) k acc = none := by
  intro k
  induction k with
  | zero => intro j acc h1 h2; omega
  | succ k ih =>
    intro j acc h1 h2
    rw [own_dig]
    by_cases e : j = p
    · subst e
      rcases hp with q | q
      · rw [if_pos q]
      · split
        · rfl
        · rfl
    · split
      · rfl
      · split
        · rfl
        · rw [Nat.add_assoc]; exact ih (j + 1) _ (by omega) (by omega)
/-- the two laws' plain side: what parsePlain answers -/
theorem own_pp_tail (g : Nat → Int32) (f s n : Nat) (ng : Int32) (h1 : ng = 1 → s = f + 1 ∧ g f = 45) (h0 : ng = 0 → s = f ∧ (0 < n → g f ≠ 45)) (hng : ng = 0 ∨ ng = 1) : own_pp g f (s + n) = own_tail ng g s (s + n) := by
  unfold own_pp
  rcases hng with e | e
  · obtain ⟨e1, e2⟩ := h0 e
    subst e1
    rw [if_neg (fun q => e2 (by omega) q.2), e]
  · obtain ⟨e1, e2⟩ := h1 e
    subst e1
    rw [if_pos ⟨by omega, e2⟩, e]
theorem own_tail_bad (g : Nat → Int32) (s n p : Nat) (ng : Int32) (h : n = 0 ∨ 18 < n ∨ (p < n ∧ (g (s + p) - 48 < 0 ∨ 9 < g (s + p) - 48))) : own_tail ng g s (s + n) = -9223372036854775808 := by
  unfold own_tail
  by_cases h0 : n = 0
  · rw [if_pos (by omega)]
  · rw [if_neg (by omega)]
    by_cases h1 : 18 < n
    · rw [if_pos (by omega)]
    · rw [if_neg (by omega)]
      rcases h with q | q | ⟨q1, q2⟩
      · exact absurd q h0
      · exact absurd q h1
      · have := own_dig_bad g s p q2 n 0 0 (by omega) (by omega)
        rw [Nat.add_zero] at this
        rw [show s + n - s = n by omega, this]; rfl
theorem own_tail_good (g : Nat → Int32) (s n U : Nat) (ng : Int32) (mv : Int64) (h0 : 0 < n) (hn : n ≤ 18) (hg : ∀ k, k < n → (g (s + k)).toInt = ((48 + U / 10 ^ (n - 1 - k) % 10 : Nat) : Int)) (hm : mv.toInt = ((U % 10 ^ n : Nat) : Int)) : own_tail ng g s (s + n) = if ng = 0 then mv else -mv := by
  unfold own_tail
  rw [if_neg (by omega), if_neg (by omega), show s + n - s = n by omega]
  obtain ⟨m, h1, h2⟩ := own_dig_all g U n s hn hg n 0 0 (by omega) (by rw [Nat.pow_zero, Nat.mod_one]; rfl)
  rw [Nat.add_zero] at h1
  rw [h1]
  have e : m = mv := Int64.toInt_inj.mp (by rw [h2, hm])
  subst e; rfl
/-- an array's first k places -/
def own_pre (G : Nat → Int32) (k i : Nat) : Int32 := if i < k then G i else 0
theorem own_cellmod (x : Int) (y : Int) (h : (x - y) % 256 = 0) (h1 : -128 ≤ x) (h2 : x < 128) (h3 : -128 ≤ y) (h4 : y < 128) : x = y := by omega
/-- what the law's cell i holds -/
def own_cellv (i f s t n U q : Nat) (cv rv pv : Int32) : Int32 := if i < f then pv else if ¬ i < t then pv else if i < s then 45 else if rv = 0 ∨ ¬ i - s = q then Int32.ofNat (48 + U / 10 ^ (n - 1 - (i - s)) % 10) else cv

theorem d3_0 : decode prog_158_method_3_code 0 = .ok (.iload_n 1, 1) := by decide +kernel
theorem d3_1 : decode prog_158_method_3_code 1 = .ok (.iload_n 2, 1) := by decide +kernel
theorem d3_2 : decode prog_158_method_3_code 2 = .ok (.if_icmp .ge 15, 3) := by decide +kernel
theorem d3_5 : decode prog_158_method_3_code 5 = .ok (.aload_n 0, 1) := by decide +kernel
theorem d3_6 : decode prog_158_method_3_code 6 = .ok (.iload_n 1, 1) := by decide +kernel
theorem d3_7 : decode prog_158_method_3_code 7 = .ok (.baload, 1) := by decide +kernel
theorem d3_8 : decode prog_158_method_3_code 8 = .ok (.bipush 45, 2) := by decide +kernel
theorem d3_10 : decode prog_158_method_3_code 10 = .ok (.if_icmp .ne 7, 3) := by decide +kernel
theorem d3_13 : decode prog_158_method_3_code 13 = .ok (.iconst 1, 1) := by decide +kernel
theorem d3_14 : decode prog_158_method_3_code 14 = .ok (.goto 4, 3) := by decide +kernel
theorem d3_17 : decode prog_158_method_3_code 17 = .ok (.iconst 0, 1) := by decide +kernel
theorem d3_18 : decode prog_158_method_3_code 18 = .ok (.istore_n 3, 1) := by decide +kernel
theorem d3_19 : decode prog_158_method_3_code 19 = .ok (.iload_n 3, 1) := by decide +kernel
theorem d3_20 : decode prog_158_method_3_code 20 = .ok (.ifCond .eq 9, 3) := by decide +kernel
theorem d3_23 : decode prog_158_method_3_code 23 = .ok (.iload_n 1, 1) := by decide +kernel
theorem d3_24 : decode prog_158_method_3_code 24 = .ok (.iconst 1, 1) := by decide +kernel
theorem d3_25 : decode prog_158_method_3_code 25 = .ok (.iadd, 1) := by decide +kernel
theorem d3_26 : decode prog_158_method_3_code 26 = .ok (.goto 4, 3) := by decide +kernel
theorem d3_29 : decode prog_158_method_3_code 29 = .ok (.iload_n 1, 1) := by decide +kernel
theorem d3_30 : decode prog_158_method_3_code 30 = .ok (.istore 4, 2) := by decide +kernel
theorem d3_32 : decode prog_158_method_3_code 32 = .ok (.iload_n 2, 1) := by decide +kernel
theorem d3_33 : decode prog_158_method_3_code 33 = .ok (.iload 4, 2) := by decide +kernel
theorem d3_35 : decode prog_158_method_3_code 35 = .ok (.if_icmp .eq 12, 3) := by decide +kernel
theorem d3_38 : decode prog_158_method_3_code 38 = .ok (.iload_n 2, 1) := by decide +kernel
theorem d3_39 : decode prog_158_method_3_code 39 = .ok (.iload 4, 2) := by decide +kernel
theorem d3_41 : decode prog_158_method_3_code 41 = .ok (.isub, 1) := by decide +kernel
theorem d3_42 : decode prog_158_method_3_code 42 = .ok (.bipush 18, 2) := by decide +kernel
theorem d3_44 : decode prog_158_method_3_code 44 = .ok (.if_icmp .le 7, 3) := by decide +kernel
theorem d3_47 : decode prog_158_method_3_code 47 = .ok (.ldc2_w 54, 3) := by decide +kernel
theorem d3_50 : decode prog_158_method_3_code 50 = .ok (.lreturn, 1) := by decide +kernel
theorem d3_51 : decode prog_158_method_3_code 51 = .ok (.lconst 0, 1) := by decide +kernel
theorem d3_52 : decode prog_158_method_3_code 52 = .ok (.lstore 5, 2) := by decide +kernel
theorem d3_54 : decode prog_158_method_3_code 54 = .ok (.iload 4, 2) := by decide +kernel
theorem d3_56 : decode prog_158_method_3_code 56 = .ok (.istore 7, 2) := by decide +kernel
theorem d3_58 : decode prog_158_method_3_code 58 = .ok (.iload 7, 2) := by decide +kernel
theorem d3_60 : decode prog_158_method_3_code 60 = .ok (.iload_n 2, 1) := by decide +kernel
theorem d3_61 : decode prog_158_method_3_code 61 = .ok (.if_icmp .ge 46, 3) := by decide +kernel
theorem d3_64 : decode prog_158_method_3_code 64 = .ok (.aload_n 0, 1) := by decide +kernel
theorem d3_65 : decode prog_158_method_3_code 65 = .ok (.iload 7, 2) := by decide +kernel
theorem d3_67 : decode prog_158_method_3_code 67 = .ok (.baload, 1) := by decide +kernel
theorem d3_68 : decode prog_158_method_3_code 68 = .ok (.bipush 48, 2) := by decide +kernel
theorem d3_70 : decode prog_158_method_3_code 70 = .ok (.isub, 1) := by decide +kernel
theorem d3_71 : decode prog_158_method_3_code 71 = .ok (.istore 8, 2) := by decide +kernel
theorem d3_73 : decode prog_158_method_3_code 73 = .ok (.iload 8, 2) := by decide +kernel
theorem d3_75 : decode prog_158_method_3_code 75 = .ok (.ifCond .lt 10, 3) := by decide +kernel
theorem d3_78 : decode prog_158_method_3_code 78 = .ok (.iload 8, 2) := by decide +kernel
theorem d3_80 : decode prog_158_method_3_code 80 = .ok (.bipush 9, 2) := by decide +kernel
theorem d3_82 : decode prog_158_method_3_code 82 = .ok (.if_icmp .le 7, 3) := by decide +kernel
theorem d3_85 : decode prog_158_method_3_code 85 = .ok (.ldc2_w 54, 3) := by decide +kernel
theorem d3_88 : decode prog_158_method_3_code 88 = .ok (.lreturn, 1) := by decide +kernel
theorem d3_89 : decode prog_158_method_3_code 89 = .ok (.ldc2_w 52, 3) := by decide +kernel
theorem d3_92 : decode prog_158_method_3_code 92 = .ok (.lload 5, 2) := by decide +kernel
theorem d3_94 : decode prog_158_method_3_code 94 = .ok (.lmul, 1) := by decide +kernel
theorem d3_95 : decode prog_158_method_3_code 95 = .ok (.iload 8, 2) := by decide +kernel
theorem d3_97 : decode prog_158_method_3_code 97 = .ok (.i2l, 1) := by decide +kernel
theorem d3_98 : decode prog_158_method_3_code 98 = .ok (.ladd, 1) := by decide +kernel
theorem d3_99 : decode prog_158_method_3_code 99 = .ok (.lstore 5, 2) := by decide +kernel
theorem d3_101 : decode prog_158_method_3_code 101 = .ok (.iinc 7 1, 3) := by decide +kernel
theorem d3_104 : decode prog_158_method_3_code 104 = .ok (.goto (-46), 3) := by decide +kernel
theorem d3_107 : decode prog_158_method_3_code 107 = .ok (.iload_n 3, 1) := by decide +kernel
theorem d3_108 : decode prog_158_method_3_code 108 = .ok (.ifCond .eq 9, 3) := by decide +kernel
theorem d3_111 : decode prog_158_method_3_code 111 = .ok (.lload 5, 2) := by decide +kernel
theorem d3_113 : decode prog_158_method_3_code 113 = .ok (.lneg, 1) := by decide +kernel
theorem d3_114 : decode prog_158_method_3_code 114 = .ok (.goto 5, 3) := by decide +kernel
theorem d3_117 : decode prog_158_method_3_code 117 = .ok (.lload 5, 2) := by decide +kernel
theorem d3_119 : decode prog_158_method_3_code 119 = .ok (.lreturn, 1) := by decide +kernel
theorem pn_3 : plainFor (⟨"com/example/leafline/leafline/table/IntegerValue", "parsePlain", "([BII)J"⟩ : MethodName) = true := plainFor_of_name (by first | (simp [plainName, overriddenIn]; done) | decide +kernel)
theorem ef_3 (m : MethodId) (a : Addr) (fv : Int32) (tv : Int32) : entryFrame m #[(.ref a), (.int fv), (.int tv)] 9 = mkF m 0 #[.val (.ref a), .val (.int fv), .val (.int tv), .unset, .unset, .unset, .unset, .unset, .unset] [] := by first | (simp [entryFrame, mkF, argsToLocals, Value.category]; done) | rfl
def Q3 (Z : State) (a : Addr) (fv : Int32) (tv : Int32) (g : Nat → Int32) (n : Nat) (F0 : Nat) (F1 : Nat) (hI : Heap) (n0 : Nat) (v : Option Value) (h : Heap) (L : List Loc) : Prop := v = some (.long (own_pp g F0 F1)) ∧ Fr n0 L ∧ h = hI
set_option maxRecDepth 65536 in
set_option maxHeartbeats 40000000 in
theorem rm3 (l : Launch) (Z : State) (a0 : Array Value) (hw : ∀ d ∈ tables_1, d.before a0 Z = true) (ws : List Jvm.Cond) (a : Addr) (fv : Int32) (tv : Int32) (g : Nat → Int32) (n : Nat) (F0 : Nat) (F1 : Nat) (hI : Heap) (n0 : Nat) (Z0 : n0 ≤ hI.size) (Ar : own_A Z hI a .byte n (fun i => .int (g i))) (hF0 : fv.toInt = F0) (hF1 : tv.toInt = F1) (h01 : F0 ≤ F1) (h1n : F1 ≤ n) (hn : n < 1000) :
    MetFree l (⟨"com/example/leafline/leafline/table/IntegerValue", "parsePlain", "([BII)J"⟩ : MethodName) (head1 (Jvm.Cond.code (⟨"com/example/leafline/leafline/table/IntegerValue", "parsePlain", "([BII)J"⟩ : MethodName) prog_158_method_3_code 9 (some .long) :: ws) ({ frames := 0, cells := 0, slots := 0, locals := 0 } : Room)) (fun xa xU => xa = #[(.ref a), (.int fv), (.int tv)] ∧ Z.Warmed39 xU.vm ∧ xU.heap = hI) (fun _ _ _ _ _ => True) (fun _ xU xo xU' => ∃ xv xL, xo = .returned xv ∧ Q3 Z a fv tv g n F0 F1 hI n0 xv xU'.heap xL ∧ FrameEnd xU xo xU' xL ({ frames := 0, cells := 0, slots := 0, locals := 0 } : Room).cells ({ frames := 0, cells := 0, slots := 0, locals := 0 } : Room).slots) := by
  refine own_body pn_3 ?_
  intro p e s m below meth c s₁ hx hby hml hown hnm hret hlk hZ XI eI
  obtain ⟨F, hF⟩ : ∃ F : State → JFrame → Prop, F = own_Fin p.tables e below s ({ frames := 0, cells := 0, slots := 0, locals := 0 } : Room) (Q3 Z a fv tv g n F0 F1 hI n0) := ⟨_, rfl⟩
  have hst : ∀ {T T' : State} {g g' : JFrame}, (∀ t, Steps p.tables e below (T'.setTop g') t → Steps p.tables e below (T.setTop g) t) → F T' g' → F T g := by subst hF; exact own_st
  have NI := Fr.nil n0
  show own_Fin p.tables e below s ({ frames := 0, cells := 0, slots := 0, locals := 0 } : Room) (Q3 Z a fv tv g n F0 F1 hI n0) s₁ (entryFrame m #[(.ref a), (.int fv), (.int tv)] 9)
  rw [← hF]
  rw [ef_3]
  show F s₁ (mkF m 0 #[.val (.ref a), .val (.int fv), .val (.int tv), .unset, .unset, .unset, .unset, .unset, .unset] [])
  have k0 : (0 : Int32).toInt = 0 := by decide
  have k1 : (1 : Int32).toInt = 1 := by decide
  have k9 : (9 : Int32).toInt = 9 := by decide
  have k18 : (18 : Int32).toInt = 18 := by decide
  have J32 : ∀ (ng fi : Int32) (Fi : Nat), fi.toInt = Fi → Fi ≤ F1 → own_tail ng g Fi F1 = own_pp g F0 F1 → F s₁ (mkF m 32 #[.val (.ref a), .val (.int fv), .val (.int tv), .val (.int ng), .val (.int fi), .unset, .unset, .unset, .unset] []) := by
    intro ng fi Fi hFi hFi1 ht
    show F s₁ (mkF m 32 #[.val (.ref a), .val (.int fv), .val (.int tv), .val (.int ng), .val (.int fi), .unset, .unset, .unset, .unset] [])
    refine hst (fun t₀ k₀ => XS.iloadN XI.here hx rfl (hb hby d3_32) rfl k₀) ?_
    show F s₁ (mkF m 33 #[.val (.ref a), .val (.int fv), .val (.int tv), .val (.int ng), .val (.int fi), .unset, .unset, .unset, .unset] [(.int tv)])
    refine hst (fun t₀ k₀ => XS.iload XI.here hx rfl (hb hby d3_33) rfl k₀) ?_
    show F s₁ (mkF m 35 #[.val (.ref a), .val (.int fv), .val (.int tv), .val (.int ng), .val (.int fi), .unset, .unset, .unset, .unset] [(.int fi), (.int tv)])
    by_cases hc35 : tv = fi
    · -- pc 35: taken
      refine hst (fun t₀ k₀ => XS.icmpYes XI.here hx rfl (pc0 := 35) (pc' := 47) rfl (hb hby d3_35) rfl (teq hc35).1 (by decide) (by decide) k₀) ?_
      show F s₁ (mkF m 47 #[.val (.ref a), .val (.int fv), .val (.int tv), .val (.int ng), .val (.int fi), .unset, .unset, .unset, .unset] [])
      have q35 : F1 = Fi := by rw [own_eq32] at hc35; omega
      refine hst (fun t₀ k₀ => XI.ldc2J hx hown (mvT hZ (hw _ (List.mem_of_getElem? (i := 35) rfl))) (g := (mkF m 47 #[.val (.ref a), .val (.int fv), .val (.int tv), .val (.int ng), .val (.int fi), .unset, .unset, .unset, .unset] [])) rfl (hb hby d3_47) k₀) ?_
      show F s₁ (mkF m 50 #[.val (.ref a), .val (.int fv), .val (.int tv), .val (.int ng), .val (.int fi), .unset, .unset, .unset, .unset] [(.long (-9223372036854775808 : Int64))])
      rw [hF]
      refine own_retJ XI hx hret hlk (hb hby d3_50) (by decide) (by decide) ?_
      rw [eI]
      exact ⟨(by rw [← ht]; unfold own_tail; first | rw [if_pos q35] | rw [if_neg q35, if_pos q44]), NI, rfl⟩
    · -- pc 35: not taken
      refine hst (fun t₀ k₀ => XS.icmpNo XI.here hx rfl (hb hby d3_35) rfl (feq hc35).1 k₀) ?_
      show F s₁ (mkF m 38 #[.val (.ref a), .val (.int fv), .val (.int tv), .val (.int ng), .val (.int fi), .unset, .unset, .unset, .unset] [])
      have q35 : ¬ F1 = Fi := fun q => hc35 ((own_eq32 _ _).mpr (by omega))
      refine hst (fun t₀ k₀ => XS.iloadN XI.here hx rfl (hb hby d3_38) rfl k₀) ?_
      show F s₁ (mkF m 39 #[.val (.ref a), .val (.int fv), .val (.int tv), .val (.int ng), .val (.int fi), .unset, .unset, .unset, .unset] [(.int tv)])
      refine hst (fun t₀ k₀ => XS.iload XI.here hx rfl (hb hby d3_39) rfl k₀) ?_
      show F s₁ (mkF m 41 #[.val (.ref a), .val (.int fv), .val (.int tv), .val (.int ng), .val (.int fi), .unset, .unset, .unset, .unset] [(.int fi), (.int tv)])
      refine hst (fun t₀ k₀ => XS.isub XI.here hx rfl (hb hby d3_41) rfl k₀) ?_
      show F s₁ (mkF m 42 #[.val (.ref a), .val (.int fv), .val (.int tv), .val (.int ng), .val (.int fi), .unset, .unset, .unset, .unset] [(.int (tv - fi))])
      generalize hdf : (tv - fi) = df
      show F s₁ (mkF m 42 #[.val (.ref a), .val (.int fv), .val (.int tv), .val (.int ng), .val (.int fi), .unset, .unset, .unset, .unset] [(.int df)])
      have kdf : df.toInt = ((F1 - Fi : Nat) : Int) := by have h1 := c_isub tv fi; have h2 := rng32 df; rw [hdf] at h1; omega
      refine hst (fun t₀ k₀ => XS.bipush XI.here hx rfl (hb hby d3_42) k₀) ?_
      show F s₁ (mkF m 44 #[.val (.ref a), .val (.int fv), .val (.int tv), .val (.int ng), .val (.int fi), .unset, .unset, .unset, .unset] [(.int (18 : Int32)), (.int df)])
      by_cases hc44 : (18 : Int32) < df
      · -- pc 44: not taken
        refine hst (fun t₀ k₀ => XS.icmpNo XI.here hx rfl (hb hby d3_44) rfl (tlt hc44).2.2.2 k₀) ?_
        show F s₁ (mkF m 47 #[.val (.ref a), .val (.int fv), .val (.int tv), .val (.int ng), .val (.int fi), .unset, .unset, .unset, .unset] [])
        have q44 : 18 < F1 - Fi := by rw [own_lt32] at hc44; omega
        refine hst (fun t₀ k₀ => XI.ldc2J hx hown (mvT hZ (hw _ (List.mem_of_getElem? (i := 35) rfl))) (g := (mkF m 47 #[.val (.ref a), .val (.int fv), .val (.int tv), .val (.int ng), .val (.int fi), .unset, .unset, .unset, .unset] [])) rfl (hb hby d3_47) k₀) ?_
        show F s₁ (mkF m 50 #[.val (.ref a), .val (.int fv), .val (.int tv), .val (.int ng), .val (.int fi), .unset, .unset, .unset, .unset] [(.long (-9223372036854775808 : Int64))])
        rw [hF]
        refine own_retJ XI hx hret hlk (hb hby d3_50) (by decide) (by decide) ?_
        rw [eI]
        exact ⟨(by rw [← ht]; unfold own_tail; first | rw [if_pos q35] | rw [if_neg q35, if_pos q44]), NI, rfl⟩
      · -- pc 44: taken
        refine hst (fun t₀ k₀ => XS.icmpYes XI.here hx rfl (pc0 := 44) (pc' := 51) rfl (hb hby d3_44) rfl (flt hc44).2.2.2 (by decide) (by decide) k₀) ?_
        show F s₁ (mkF m 51 #[.val (.ref a), .val (.int fv), .val (.int tv), .val (.int ng), .val (.int fi), .unset, .unset, .unset, .unset] [])
        have q44 : ¬ 18 < F1 - Fi := by rw [own_lt32] at hc44; omega
        refine hst (fun t₀ k₀ => XS.lconst XI.here hx rfl (hb hby d3_51) k₀) ?_
        show F s₁ (mkF m 52 #[.val (.ref a), .val (.int fv), .val (.int tv), .val (.int ng), .val (.int fi), .unset, .unset, .unset, .unset] [(.long (0 : Int64))])
        refine hst (fun t₀ k₀ => XS.lstore XI.here hx rfl (hb hby d3_52) rfl (l' := #[.val (.ref a), .val (.int fv), .val (.int tv), .val (.int ng), .val (.int fi), .val (.long (0 : Int64)), .second, .unset, .unset]) rfl k₀) ?_
        show F s₁ (mkF m 54 #[.val (.ref a), .val (.int fv), .val (.int tv), .val (.int ng), .val (.int fi), .val (.long (0 : Int64)), .second, .unset, .unset] [])
        refine hst (fun t₀ k₀ => XS.iload XI.here hx rfl (hb hby d3_54) rfl k₀) ?_
        show F s₁ (mkF m 56 #[.val (.ref a), .val (.int fv), .val (.int tv), .val (.int ng), .val (.int fi), .val (.long (0 : Int64)), .second, .unset, .unset] [(.int fi)])
        refine hst (fun t₀ k₀ => XS.istore XI.here hx rfl (hb hby d3_56) rfl (l' := #[.val (.ref a), .val (.int fv), .val (.int tv), .val (.int ng), .val (.int fi), .val (.long (0 : Int64)), .second, .val (.int fi), .unset]) rfl k₀) ?_
        show F s₁ (mkF m 58 #[.val (.ref a), .val (.int fv), .val (.int tv), .val (.int ng), .val (.int fi), .val (.long (0 : Int64)), .second, .val (.int fi), .unset] [])
        have lp : ∀ (k : Nat) (iv : Int32) (acc : Int64) (s8 : Slot), One s8 → k ≤ F1 → iv.toInt = ((F1 - k : Nat) : Int) → own_dig g (F1 - k) k acc = own_dig g Fi (F1 - Fi) 0 → F s₁ (mkF m 58 #[.val (.ref a), .val (.int fv), .val (.int tv), .val (.int ng), .val (.int fi), .val (.long acc), .second, .val (.int iv), s8] []) := by
          intro k
          induction k using Nat.strongRecOn with
          | _ k ih =>
            intro iv acc s8 hs8 hk hiv hd
            show F s₁ (mkF m 58 #[.val (.ref a), .val (.int fv), .val (.int tv), .val (.int ng), .val (.int fi), .val (.long acc), .second, .val (.int iv), s8] [])
            refine hst (fun t₀ k₀ => XS.iload XI.here hx rfl (hb hby d3_58) rfl k₀) ?_
            show F s₁ (mkF m 60 #[.val (.ref a), .val (.int fv), .val (.int tv), .val (.int ng), .val (.int fi), .val (.long acc), .second, .val (.int iv), s8] [(.int iv)])
            refine hst (fun t₀ k₀ => XS.iloadN XI.here hx rfl (hb hby d3_60) rfl k₀) ?_
            show F s₁ (mkF m 61 #[.val (.ref a), .val (.int fv), .val (.int tv), .val (.int ng), .val (.int fi), .val (.long acc), .second, .val (.int iv), s8] [(.int tv), (.int iv)])
            by_cases hc61 : iv < tv
            · -- pc 61: not taken
              refine hst (fun t₀ k₀ => XS.icmpNo XI.here hx rfl (hb hby d3_61) rfl (tlt hc61).2.1 k₀) ?_
              show F s₁ (mkF m 64 #[.val (.ref a), .val (.int fv), .val (.int tv), .val (.int ng), .val (.int fi), .val (.long acc), .second, .val (.int iv), s8] [])
              obtain ⟨k', rfl⟩ : ∃ k', k = k' + 1 := ⟨k - 1, by rw [own_lt32] at hc61; omega⟩
              refine hst (fun t₀ k₀ => XS.aloadN XI.here hx rfl (hb hby d3_64) rfl rfl k₀) ?_
              show F s₁ (mkF m 65 #[.val (.ref a), .val (.int fv), .val (.int tv), .val (.int ng), .val (.int fi), .val (.long acc), .second, .val (.int iv), s8] [(.ref a)])
              refine hst (fun t₀ k₀ => XS.iload XI.here hx rfl (hb hby d3_65) rfl k₀) ?_
              show F s₁ (mkF m 67 #[.val (.ref a), .val (.int fv), .val (.int tv), .val (.int ng), .val (.int fi), .val (.long acc), .second, .val (.int iv), s8] [(.int iv), (.ref a)])
              refine hst (fun t₀ k₀ => own_baload XI hx hZ eI Ar (own_idx iv n (by omega) (by omega)) (v := (.int (g (F1 - (k' + 1))))) (by show Value.int (g iv.toNatClampNeg) = _; rw [own_clamp iv _ hiv]) (g := (mkF m 67 #[.val (.ref a), .val (.int fv), .val (.int tv), .val (.int ng), .val (.int fi), .val (.long acc), .second, .val (.int iv), s8] [(.int iv), (.ref a)])) rfl rfl (hb hby d3_67) t₀ k₀) ?_
              show F s₁ (mkF m 68 #[.val (.ref a), .val (.int fv), .val (.int tv), .val (.int ng), .val (.int fi), .val (.long acc), .second, .val (.int iv), s8] [(.int (g (F1 - (k' + 1))))])
              refine hst (fun t₀ k₀ => XS.bipush XI.here hx rfl (hb hby d3_68) k₀) ?_
              show F s₁ (mkF m 70 #[.val (.ref a), .val (.int fv), .val (.int tv), .val (.int ng), .val (.int fi), .val (.long acc), .second, .val (.int iv), s8] [(.int (48 : Int32)), (.int (g (F1 - (k' + 1))))])
              refine hst (fun t₀ k₀ => XS.isub XI.here hx rfl (hb hby d3_70) rfl k₀) ?_
              show F s₁ (mkF m 71 #[.val (.ref a), .val (.int fv), .val (.int tv), .val (.int ng), .val (.int fi), .val (.long acc), .second, .val (.int iv), s8] [(.int ((g (F1 - (k' + 1))) - (48 : Int32)))])
              generalize hdg : ((g (F1 - (k' + 1))) - (48 : Int32)) = dg
              show F s₁ (mkF m 71 #[.val (.ref a), .val (.int fv), .val (.int tv), .val (.int ng), .val (.int fi), .val (.long acc), .second, .val (.int iv), s8] [(.int dg)])
              refine hst (fun t₀ k₀ => XS.istoreS XI.here hx rfl (hb hby d3_71) rfl rfl hs8 k₀) ?_
              show F s₁ (mkF m 73 #[.val (.ref a), .val (.int fv), .val (.int tv), .val (.int ng), .val (.int fi), .val (.long acc), .second, .val (.int iv), .val (.int dg)] [])
              refine hst (fun t₀ k₀ => XS.iload XI.here hx rfl (hb hby d3_73) rfl k₀) ?_
              show F s₁ (mkF m 75 #[.val (.ref a), .val (.int fv), .val (.int tv), .val (.int ng), .val (.int fi), .val (.long acc), .second, .val (.int iv), .val (.int dg)] [(.int dg)])
              by_cases hc75 : dg < (0 : Int32)
              · -- pc 75: taken
                refine hst (fun t₀ k₀ => XS.ifYes XI.here hx rfl (pc0 := 75) (pc' := 85) rfl (hb hby d3_75) rfl ((if0 _ _).trans (tlt hc75).1) (by decide) (by decide) k₀) ?_
                show F s₁ (mkF m 85 #[.val (.ref a), .val (.int fv), .val (.int tv), .val (.int ng), .val (.int fi), .val (.long acc), .second, .val (.int iv), .val (.int dg)] [])
                refine hst (fun t₀ k₀ => XI.ldc2J hx hown (mvT hZ (hw _ (List.mem_of_getElem? (i := 35) rfl))) (g := (mkF m 85 #[.val (.ref a), .val (.int fv), .val (.int tv), .val (.int ng), .val (.int fi), .val (.long acc), .second, .val (.int iv), .val (.int dg)] [])) rfl (hb hby d3_85) k₀) ?_
                show F s₁ (mkF m 88 #[.val (.ref a), .val (.int fv), .val (.int tv), .val (.int ng), .val (.int fi), .val (.long acc), .second, .val (.int iv), .val (.int dg)] [(.long (-9223372036854775808 : Int64))])
                rw [hF]
                refine own_retJ XI hx hret hlk (hb hby d3_88) (by decide) (by decide) ?_
                rw [eI]
                exact ⟨(by rw [← ht]; unfold own_tail; rw [if_neg q35, if_neg q44, ← hd, own_dig]; first | (rw [hdg, if_pos hc75]; rfl) | (rw [hdg, if_neg hc75, if_pos hc82]; rfl)), NI, rfl⟩
              · -- pc 75: not taken
                refine hst (fun t₀ k₀ => XS.ifNo XI.here hx rfl (hb hby d3_75) rfl ((if0 _ _).trans (flt hc75).1) k₀) ?_
                show F s₁ (mkF m 78 #[.val (.ref a), .val (.int fv), .val (.int tv), .val (.int ng), .val (.int fi), .val (.long acc), .second, .val (.int iv), .val (.int dg)] [])
                refine hst (fun t₀ k₀ => XS.iload XI.here hx rfl (hb hby d3_78) rfl k₀) ?_
                show F s₁ (mkF m 80 #[.val (.ref a), .val (.int fv), .val (.int tv), .val (.int ng), .val (.int fi), .val (.long acc), .second, .val (.int iv), .val (.int dg)] [(.int dg)])
                refine hst (fun t₀ k₀ => XS.bipush XI.here hx rfl (hb hby d3_80) k₀) ?_
                show F s₁ (mkF m 82 #[.val (.ref a), .val (.int fv), .val (.int tv), .val (.int ng), .val (.int fi), .val (.long acc), .second, .val (.int iv), .val (.int dg)] [(.int (9 : Int32)), (.int dg)])
                by_cases hc82 : (9 : Int32) < dg
                · -- pc 82: not taken
                  refine hst (fun t₀ k₀ => XS.icmpNo XI.here hx rfl (hb hby d3_82) rfl (tlt hc82).2.2.2 k₀) ?_
                  show F s₁ (mkF m 85 #[.val (.ref a), .val (.int fv), .val (.int tv), .val (.int ng), .val (.int fi), .val (.long acc), .second, .val (.int iv), .val (.int dg)] [])
                  refine hst (fun t₀ k₀ => XI.ldc2J hx hown (mvT hZ (hw _ (List.mem_of_getElem? (i := 35) rfl))) (g := (mkF m 85 #[.val (.ref a), .val (.int fv), .val (.int tv), .val (.int ng), .val (.int fi), .val (.long acc), .second, .val (.int iv), .val (.int dg)] [])) rfl (hb hby d3_85) k₀) ?_
                  show F s₁ (mkF m 88 #[.val (.ref a), .val (.int fv), .val (.int tv), .val (.int ng), .val (.int fi), .val (.long acc), .second, .val (.int iv), .val (.int dg)] [(.long (-9223372036854775808 : Int64))])
                  rw [hF]
                  refine own_retJ XI hx hret hlk (hb hby d3_88) (by decide) (by decide) ?_
                  rw [eI]
                  exact ⟨(by rw [← ht]; unfold own_tail; rw [if_neg q35, if_neg q44, ← hd, own_dig]; first | (rw [hdg, if_pos hc75]; rfl) | (rw [hdg, if_neg hc75, if_pos hc82]; rfl)), NI, rfl⟩
                · -- pc 82: taken
                  refine hst (fun t₀ k₀ => XS.icmpYes XI.here hx rfl (pc0 := 82) (pc' := 89) rfl (hb hby d3_82) rfl (flt hc82).2.2.2 (by decide) (by decide) k₀) ?_
                  show F s₁ (mkF m 89 #[.val (.ref a), .val (.int fv), .val (.int tv), .val (.int ng), .val (.int fi), .val (.long acc), .second, .val (.int iv), .val (.int dg)] [])
                  refine hst (fun t₀ k₀ => XI.ldc2J hx hown (mvT hZ (hw _ (List.mem_of_getElem? (i := 33) rfl))) (g := (mkF m 89 #[.val (.ref a), .val (.int fv), .val (.int tv), .val (.int ng), .val (.int fi), .val (.long acc), .second, .val (.int iv), .val (.int dg)] [])) rfl (hb hby d3_89) k₀) ?_
                  show F s₁ (mkF m 92 #[.val (.ref a), .val (.int fv), .val (.int tv), .val (.int ng), .val (.int fi), .val (.long acc), .second, .val (.int iv), .val (.int dg)] [(.long (10 : Int64))])
                  refine hst (fun t₀ k₀ => XS.lload XI.here hx rfl (hb hby d3_92) rfl k₀) ?_
                  show F s₁ (mkF m 94 #[.val (.ref a), .val (.int fv), .val (.int tv), .val (.int ng), .val (.int fi), .val (.long acc), .second, .val (.int iv), .val (.int dg)] [(.long acc), (.long (10 : Int64))])
                  refine hst (fun t₀ k₀ => XS.lmul XI.here hx rfl (hb hby d3_94) rfl k₀) ?_
                  show F s₁ (mkF m 95 #[.val (.ref a), .val (.int fv), .val (.int tv), .val (.int ng), .val (.int fi), .val (.long acc), .second, .val (.int iv), .val (.int dg)] [(.long ((10 : Int64) * acc))])
                  refine hst (fun t₀ k₀ => XS.iload XI.here hx rfl (hb hby d3_95) rfl k₀) ?_
                  show F s₁ (mkF m 97 #[.val (.ref a), .val (.int fv), .val (.int tv), .val (.int ng), .val (.int fi), .val (.long acc), .second, .val (.int iv), .val (.int dg)] [(.int dg), (.long ((10 : Int64) * acc))])
                  refine hst (fun t₀ k₀ => XS.i2l XI.here hx rfl (hb hby d3_97) rfl k₀) ?_
                  show F s₁ (mkF m 98 #[.val (.ref a), .val (.int fv), .val (.int tv), .val (.int ng), .val (.int fi), .val (.long acc), .second, .val (.int iv), .val (.int dg)] [(.long (dg.toInt64)), (.long ((10 : Int64) * acc))])
                  refine hst (fun t₀ k₀ => XS.ladd XI.here hx rfl (hb hby d3_98) rfl k₀) ?_
                  show F s₁ (mkF m 99 #[.val (.ref a), .val (.int fv), .val (.int tv), .val (.int ng), .val (.int fi), .val (.long acc), .second, .val (.int iv), .val (.int dg)] [(.long (((10 : Int64) * acc) + (dg.toInt64)))])
                  refine hst (fun t₀ k₀ => XS.lstore XI.here hx rfl (hb hby d3_99) rfl (l' := #[.val (.ref a), .val (.int fv), .val (.int tv), .val (.int ng), .val (.int fi), .val (.long (((10 : Int64) * acc) + (dg.toInt64))), .second, .val (.int iv), .val (.int dg)]) rfl k₀) ?_
                  show F s₁ (mkF m 101 #[.val (.ref a), .val (.int fv), .val (.int tv), .val (.int ng), .val (.int fi), .val (.long (((10 : Int64) * acc) + (dg.toInt64))), .second, .val (.int iv), .val (.int dg)] [])
                  refine hst (fun t₀ k₀ => XS.iinc XI.here hx rfl (hb hby d3_101) rfl (l' := #[.val (.ref a), .val (.int fv), .val (.int tv), .val (.int ng), .val (.int fi), .val (.long (((10 : Int64) * acc) + (dg.toInt64))), .second, .val (.int (iv + (1 : Int32))), .val (.int dg)]) rfl k₀) ?_
                  show F s₁ (mkF m 104 #[.val (.ref a), .val (.int fv), .val (.int tv), .val (.int ng), .val (.int fi), .val (.long (((10 : Int64) * acc) + (dg.toInt64))), .second, .val (.int (iv + (1 : Int32))), .val (.int dg)] [])
                  refine hst (fun t₀ k₀ => XS.goto XI.here hx rfl (pc0 := 104) (pc' := 58) rfl (hb hby d3_104) (by decide) (by decide) k₀) ?_
                  show F s₁ (mkF m 58 #[.val (.ref a), .val (.int fv), .val (.int tv), .val (.int ng), .val (.int fi), .val (.long (((10 : Int64) * acc) + (dg.toInt64))), .second, .val (.int (iv + (1 : Int32))), .val (.int dg)] [])
                  exact ih k' (by omega) _ _ _ (One.val rfl) (by omega) (by have h1 := c_iadd iv 1; have h2 := rng32 (iv + 1); omega) (by rw [← hd, own_dig, hdg, if_neg hc75, if_neg hc82, show F1 - (k' + 1) + 1 = F1 - k' by omega])
            · -- pc 61: taken
              refine hst (fun t₀ k₀ => XS.icmpYes XI.here hx rfl (pc0 := 61) (pc' := 107) rfl (hb hby d3_61) rfl (flt hc61).2.1 (by decide) (by decide) k₀) ?_
              show F s₁ (mkF m 107 #[.val (.ref a), .val (.int fv), .val (.int tv), .val (.int ng), .val (.int fi), .val (.long acc), .second, .val (.int iv), s8] [])
              have q61 : k = 0 := by rw [own_lt32] at hc61; omega
              subst q61
              refine hst (fun t₀ k₀ => XS.iloadN XI.here hx rfl (hb hby d3_107) rfl k₀) ?_
              show F s₁ (mkF m 108 #[.val (.ref a), .val (.int fv), .val (.int tv), .val (.int ng), .val (.int fi), .val (.long acc), .second, .val (.int iv), s8] [(.int ng)])
              by_cases hc108 : ng = (0 : Int32)
              · -- pc 108: taken
                refine hst (fun t₀ k₀ => XS.ifYes XI.here hx rfl (pc0 := 108) (pc' := 117) rfl (hb hby d3_108) rfl ((if0 _ _).trans (teq hc108).1) (by decide) (by decide) k₀) ?_
                show F s₁ (mkF m 117 #[.val (.ref a), .val (.int fv), .val (.int tv), .val (.int ng), .val (.int fi), .val (.long acc), .second, .val (.int iv), s8] [])
                refine hst (fun t₀ k₀ => XS.lload XI.here hx rfl (hb hby d3_117) rfl k₀) ?_
                show F s₁ (mkF m 119 #[.val (.ref a), .val (.int fv), .val (.int tv), .val (.int ng), .val (.int fi), .val (.long acc), .second, .val (.int iv), s8] [(.long acc)])
                rw [hF]
                refine own_retJ XI hx hret hlk (hb hby d3_119) (by decide) (by decide) ?_
                rw [eI]
                exact ⟨(by rw [← ht]; unfold own_tail; rw [if_neg q35, if_neg q44, ← hd]; show _ = some (Value.long (if ng = 0 then acc else -acc)); first | rw [if_pos hc108] | rw [if_neg hc108]), NI, rfl⟩
              · -- pc 108: not taken
                refine hst (fun t₀ k₀ => XS.ifNo XI.here hx rfl (hb hby d3_108) rfl ((if0 _ _).trans (feq hc108).1) k₀) ?_
                show F s₁ (mkF m 111 #[.val (.ref a), .val (.int fv), .val (.int tv), .val (.int ng), .val (.int fi), .val (.long acc), .second, .val (.int iv), s8] [])
                refine hst (fun t₀ k₀ => XS.lload XI.here hx rfl (hb hby d3_111) rfl k₀) ?_
                show F s₁ (mkF m 113 #[.val (.ref a), .val (.int fv), .val (.int tv), .val (.int ng), .val (.int fi), .val (.long acc), .second, .val (.int iv), s8] [(.long acc)])
                refine hst (fun t₀ k₀ => XS.lneg XI.here hx rfl (hb hby d3_113) rfl k₀) ?_
                show F s₁ (mkF m 114 #[.val (.ref a), .val (.int fv), .val (.int tv), .val (.int ng), .val (.int fi), .val (.long acc), .second, .val (.int iv), s8] [(.long (-acc))])
                refine hst (fun t₀ k₀ => XS.goto XI.here hx rfl (pc0 := 114) (pc' := 119) rfl (hb hby d3_114) (by decide) (by decide) k₀) ?_
                show F s₁ (mkF m 119 #[.val (.ref a), .val (.int fv), .val (.int tv), .val (.int ng), .val (.int fi), .val (.long acc), .second, .val (.int iv), s8] [(.long (-acc))])
                rw [hF]
                refine own_retJ XI hx hret hlk (hb hby d3_119) (by decide) (by decide) ?_
                rw [eI]
                exact ⟨(by rw [← ht]; unfold own_tail; rw [if_neg q35, if_neg q44, ← hd]; show _ = some (Value.long (if ng = 0 then acc else -acc)); first | rw [if_pos hc108] | rw [if_neg hc108]), NI, rfl⟩
        exact lp (F1 - Fi) _ _ _ One.u (by omega) (by rw [hFi]; omega) (by rw [show F1 - (F1 - Fi) = Fi by omega])
  refine hst (fun t₀ k₀ => XS.iloadN XI.here hx rfl (hb hby d3_0) rfl k₀) ?_
  show F s₁ (mkF m 1 #[.val (.ref a), .val (.int fv), .val (.int tv), .unset, .unset, .unset, .unset, .unset, .unset] [(.int fv)])
  refine hst (fun t₀ k₀ => XS.iloadN XI.here hx rfl (hb hby d3_1) rfl k₀) ?_
  show F s₁ (mkF m 2 #[.val (.ref a), .val (.int fv), .val (.int tv), .unset, .unset, .unset, .unset, .unset, .unset] [(.int tv), (.int fv)])
  by_cases hc2 : fv < tv
  · -- pc 2: not taken
    refine hst (fun t₀ k₀ => XS.icmpNo XI.here hx rfl (hb hby d3_2) rfl (tlt hc2).2.1 k₀) ?_
    show F s₁ (mkF m 5 #[.val (.ref a), .val (.int fv), .val (.int tv), .unset, .unset, .unset, .unset, .unset, .unset] [])
    have q2 : F0 < F1 := by rw [own_lt32] at hc2; omega
    refine hst (fun t₀ k₀ => XS.aloadN XI.here hx rfl (hb hby d3_5) rfl rfl k₀) ?_
    show F s₁ (mkF m 6 #[.val (.ref a), .val (.int fv), .val (.int tv), .unset, .unset, .unset, .unset, .unset, .unset] [(.ref a)])
    refine hst (fun t₀ k₀ => XS.iloadN XI.here hx rfl (hb hby d3_6) rfl k₀) ?_
    show F s₁ (mkF m 7 #[.val (.ref a), .val (.int fv), .val (.int tv), .unset, .unset, .unset, .unset, .unset, .unset] [(.int fv), (.ref a)])
    refine hst (fun t₀ k₀ => own_baload XI hx hZ eI Ar (own_idx fv n (by omega) (by omega)) (v := (.int (g F0))) (by show Value.int (g fv.toNatClampNeg) = _; rw [own_clamp fv F0 hF0]) (g := (mkF m 7 #[.val (.ref a), .val (.int fv), .val (.int tv), .unset, .unset, .unset, .unset, .unset, .unset] [(.int fv), (.ref a)])) rfl rfl (hb hby d3_7) t₀ k₀) ?_
    show F s₁ (mkF m 8 #[.val (.ref a), .val (.int fv), .val (.int tv), .unset, .unset, .unset, .unset, .unset, .unset] [(.int (g F0))])
    refine hst (fun t₀ k₀ => XS.bipush XI.here hx rfl (hb hby d3_8) k₀) ?_
    show F s₁ (mkF m 10 #[.val (.ref a), .val (.int fv), .val (.int tv), .unset, .unset, .unset, .unset, .unset, .unset] [(.int (45 : Int32)), (.int (g F0))])
    by_cases hc10 : (g F0) = (45 : Int32)
    · -- pc 10: not taken
      refine hst (fun t₀ k₀ => XS.icmpNo XI.here hx rfl (hb hby d3_10) rfl (teq hc10).2 k₀) ?_
      show F s₁ (mkF m 13 #[.val (.ref a), .val (.int fv), .val (.int tv), .unset, .unset, .unset, .unset, .unset, .unset] [])
      refine hst (fun t₀ k₀ => XS.iconst XI.here hx rfl (hb hby d3_13) k₀) ?_
      show F s₁ (mkF m 14 #[.val (.ref a), .val (.int fv), .val (.int tv), .unset, .unset, .unset, .unset, .unset, .unset] [(.int (1 : Int32))])
      refine hst (fun t₀ k₀ => XS.goto XI.here hx rfl (pc0 := 14) (pc' := 18) rfl (hb hby d3_14) (by decide) (by decide) k₀) ?_
      show F s₁ (mkF m 18 #[.val (.ref a), .val (.int fv), .val (.int tv), .unset, .unset, .unset, .unset, .unset, .unset] [(.int (1 : Int32))])
      refine hst (fun t₀ k₀ => XS.istoreN XI.here hx rfl (hb hby d3_18) rfl (l' := #[.val (.ref a), .val (.int fv), .val (.int tv), .val (.int (1 : Int32)), .unset, .unset, .unset, .unset, .unset]) rfl k₀) ?_
      show F s₁ (mkF m 19 #[.val (.ref a), .val (.int fv), .val (.int tv), .val (.int (1 : Int32)), .unset, .unset, .unset, .unset, .unset] [])
      refine hst (fun t₀ k₀ => XS.iloadN XI.here hx rfl (hb hby d3_19) rfl k₀) ?_
      show F s₁ (mkF m 20 #[.val (.ref a), .val (.int fv), .val (.int tv), .val (.int (1 : Int32)), .unset, .unset, .unset, .unset, .unset] [(.int (1 : Int32))])
      refine hst (fun t₀ k₀ => XS.ifNo XI.here hx rfl (hb hby d3_20) rfl ((if0 _ _).trans (feq (by decide)).1) k₀) ?_
      show F s₁ (mkF m 23 #[.val (.ref a), .val (.int fv), .val (.int tv), .val (.int (1 : Int32)), .unset, .unset, .unset, .unset, .unset] [])
      refine hst (fun t₀ k₀ => XS.iloadN XI.here hx rfl (hb hby d3_23) rfl k₀) ?_
      show F s₁ (mkF m 24 #[.val (.ref a), .val (.int fv), .val (.int tv), .val (.int (1 : Int32)), .unset, .unset, .unset, .unset, .unset] [(.int fv)])
      refine hst (fun t₀ k₀ => XS.iconst XI.here hx rfl (hb hby d3_24) k₀) ?_
      show F s₁ (mkF m 25 #[.val (.ref a), .val (.int fv), .val (.int tv), .val (.int (1 : Int32)), .unset, .unset, .unset, .unset, .unset] [(.int (1 : Int32)), (.int fv)])
      refine hst (fun t₀ k₀ => XS.iadd XI.here hx rfl (hb hby d3_25) rfl k₀) ?_
      show F s₁ (mkF m 26 #[.val (.ref a), .val (.int fv), .val (.int tv), .val (.int (1 : Int32)), .unset, .unset, .unset, .unset, .unset] [(.int (fv + (1 : Int32)))])
      refine hst (fun t₀ k₀ => XS.goto XI.here hx rfl (pc0 := 26) (pc' := 30) rfl (hb hby d3_26) (by decide) (by decide) k₀) ?_
      show F s₁ (mkF m 30 #[.val (.ref a), .val (.int fv), .val (.int tv), .val (.int (1 : Int32)), .unset, .unset, .unset, .unset, .unset] [(.int (fv + (1 : Int32)))])
      refine hst (fun t₀ k₀ => XS.istore XI.here hx rfl (hb hby d3_30) rfl (l' := #[.val (.ref a), .val (.int fv), .val (.int tv), .val (.int (1 : Int32)), .val (.int (fv + (1 : Int32))), .unset, .unset, .unset, .unset]) rfl k₀) ?_
      show F s₁ (mkF m 32 #[.val (.ref a), .val (.int fv), .val (.int tv), .val (.int (1 : Int32)), .val (.int (fv + (1 : Int32))), .unset, .unset, .unset, .unset] [])
      exact J32 _ _ (F0 + 1) (by have h1 := c_iadd fv 1; have h2 := rng32 (fv + 1); omega) (by omega) (by unfold own_pp; rw [if_pos ⟨q2, hc10⟩])
    · -- pc 10: taken
      refine hst (fun t₀ k₀ => XS.icmpYes XI.here hx rfl (pc0 := 10) (pc' := 17) rfl (hb hby d3_10) rfl (feq hc10).2 (by decide) (by decide) k₀) ?_
      show F s₁ (mkF m 17 #[.val (.ref a), .val (.int fv), .val (.int tv), .unset, .unset, .unset, .unset, .unset, .unset] [])
      refine hst (fun t₀ k₀ => XS.iconst XI.here hx rfl (hb hby d3_17) k₀) ?_
      show F s₁ (mkF m 18 #[.val (.ref a), .val (.int fv), .val (.int tv), .unset, .unset, .unset, .unset, .unset, .unset] [(.int (0 : Int32))])
      refine hst (fun t₀ k₀ => XS.istoreN XI.here hx rfl (hb hby d3_18) rfl (l' := #[.val (.ref a), .val (.int fv), .val (.int tv), .val (.int (0 : Int32)), .unset, .unset, .unset, .unset, .unset]) rfl k₀) ?_
      show F s₁ (mkF m 19 #[.val (.ref a), .val (.int fv), .val (.int tv), .val (.int (0 : Int32)), .unset, .unset, .unset, .unset, .unset] [])
      refine hst (fun t₀ k₀ => XS.iloadN XI.here hx rfl (hb hby d3_19) rfl k₀) ?_
      show F s₁ (mkF m 20 #[.val (.ref a), .val (.int fv), .val (.int tv), .val (.int (0 : Int32)), .unset, .unset, .unset, .unset, .unset] [(.int (0 : Int32))])
      refine hst (fun t₀ k₀ => XS.ifYes XI.here hx rfl (pc0 := 20) (pc' := 29) rfl (hb hby d3_20) rfl ((if0 _ _).trans (teq (by decide)).1) (by decide) (by decide) k₀) ?_
      show F s₁ (mkF m 29 #[.val (.ref a), .val (.int fv), .val (.int tv), .val (.int (0 : Int32)), .unset, .unset, .unset, .unset, .unset] [])
      refine hst (fun t₀ k₀ => XS.iloadN XI.here hx rfl (hb hby d3_29) rfl k₀) ?_
      show F s₁ (mkF m 30 #[.val (.ref a), .val (.int fv), .val (.int tv), .val (.int (0 : Int32)), .unset, .unset, .unset, .unset, .unset] [(.int fv)])
      refine hst (fun t₀ k₀ => XS.istore XI.here hx rfl (hb hby d3_30) rfl (l' := #[.val (.ref a), .val (.int fv), .val (.int tv), .val (.int (0 : Int32)), .val (.int fv), .unset, .unset, .unset, .unset]) rfl k₀) ?_
      show F s₁ (mkF m 32 #[.val (.ref a), .val (.int fv), .val (.int tv), .val (.int (0 : Int32)), .val (.int fv), .unset, .unset, .unset, .unset] [])
      exact J32 _ _ F0 hF0 h01 (by unfold own_pp; rw [if_neg (fun q => hc10 q.2)])
  · -- pc 2: taken
    refine hst (fun t₀ k₀ => XS.icmpYes XI.here hx rfl (pc0 := 2) (pc' := 17) rfl (hb hby d3_2) rfl (flt hc2).2.1 (by decide) (by decide) k₀) ?_
    show F s₁ (mkF m 17 #[.val (.ref a), .val (.int fv), .val (.int tv), .unset, .unset, .unset, .unset, .unset, .unset] [])
    have q2 : ¬ F0 < F1 := by rw [own_lt32] at hc2; omega
    refine hst (fun t₀ k₀ => XS.iconst XI.here hx rfl (hb hby d3_17) k₀) ?_
    show F s₁ (mkF m 18 #[.val (.ref a), .val (.int fv), .val (.int tv), .unset, .unset, .unset, .unset, .unset, .unset] [(.int (0 : Int32))])
    refine hst (fun t₀ k₀ => XS.istoreN XI.here hx rfl (hb hby d3_18) rfl (l' := #[.val (.ref a), .val (.int fv), .val (.int tv), .val (.int (0 : Int32)), .unset, .unset, .unset, .unset, .unset]) rfl k₀) ?_
    show F s₁ (mkF m 19 #[.val (.ref a), .val (.int fv), .val (.int tv), .val (.int (0 : Int32)), .unset, .unset, .unset, .unset, .unset] [])
    refine hst (fun t₀ k₀ => XS.iloadN XI.here hx rfl (hb hby d3_19) rfl k₀) ?_
    show F s₁ (mkF m 20 #[.val (.ref a), .val (.int fv), .val (.int tv), .val (.int (0 : Int32)), .unset, .unset, .unset, .unset, .unset] [(.int (0 : Int32))])
    refine hst (fun t₀ k₀ => XS.ifYes XI.here hx rfl (pc0 := 20) (pc' := 29) rfl (hb hby d3_20) rfl ((if0 _ _).trans (teq (by decide)).1) (by decide) (by decide) k₀) ?_
    show F s₁ (mkF m 29 #[.val (.ref a), .val (.int fv), .val (.int tv), .val (.int (0 : Int32)), .unset, .unset, .unset, .unset, .unset] [])
    refine hst (fun t₀ k₀ => XS.iloadN XI.here hx rfl (hb hby d3_29) rfl k₀) ?_
    show F s₁ (mkF m 30 #[.val (.ref a), .val (.int fv), .val (.int tv), .val (.int (0 : Int32)), .unset, .unset, .unset, .unset, .unset] [(.int fv)])
    refine hst (fun t₀ k₀ => XS.istore XI.here hx rfl (hb hby d3_30) rfl (l' := #[.val (.ref a), .val (.int fv), .val (.int tv), .val (.int (0 : Int32)), .val (.int fv), .unset, .unset, .unset, .unset]) rfl k₀) ?_
    show F s₁ (mkF m 32 #[.val (.ref a), .val (.int fv), .val (.int tv), .val (.int (0 : Int32)), .val (.int fv), .unset, .unset, .unset, .unset] [])
    exact J32 _ _ F0 hF0 h01 (by unfold own_pp; rw [if_neg (fun q => q2 q.1)])
theorem own_pow (E : Nat) (h : E ≤ 18) : (Int64.ofNat (10 ^ E)).toInt = ((10 ^ E : Nat) : Int) := by
  have : ∀ k : Fin 19, (Int64.ofNat (10 ^ k.1)).toInt = ((10 ^ k.1 : Nat) : Int) := by decide
  exact this ⟨E, by omega⟩
def own_pt (k i : Nat) : Int64 := if i < k then Int64.ofNat (10 ^ i) else 0
theorem own_pt_step (k i : Nat) (v : Int64) (hv : Int64.ofNat (10 ^ k) = v) : (if i = k then Value.long v else Value.long (own_pt k i)) = Value.long (own_pt (k + 1) i) := by
  unfold own_pt
  by_cases h : i = k
  · subst h; rw [if_pos rfl, if_pos (by omega), hv]
  · rw [if_neg h]
    by_cases g : i < k
    · rw [if_pos g, if_pos (by omega)]
    · rw [if_neg g, if_neg (by omega)]
theorem own_pt0 (i : Nat) : (Value.long (0 : Int64)) = Value.long (own_pt 0 i) := by unfold own_pt; rw [if_neg (by omega)]
theorem d2_0 : decode method_4_code 0 = .ok (.bipush 19, 2) := by decide +kernel
theorem d2_2 : decode method_4_code 2 = .ok (.newarray .long, 2) := by decide +kernel
theorem d2_4 : decode method_4_code 4 = .ok (.dup, 1) := by decide +kernel
theorem d2_5 : decode method_4_code 5 = .ok (.iconst 0, 1) := by decide +kernel
theorem d2_6 : decode method_4_code 6 = .ok (.lconst 1, 1) := by decide +kernel
theorem d2_7 : decode method_4_code 7 = .ok (.lastore, 1) := by decide +kernel
theorem d2_8 : decode method_4_code 8 = .ok (.dup, 1) := by decide +kernel
theorem d2_9 : decode method_4_code 9 = .ok (.iconst 1, 1) := by decide +kernel
theorem d2_10 : decode method_4_code 10 = .ok (.ldc2_w 30, 3) := by decide +kernel
theorem d2_13 : decode method_4_code 13 = .ok (.lastore, 1) := by decide +kernel
theorem d2_14 : decode method_4_code 14 = .ok (.dup, 1) := by decide +kernel
theorem d2_15 : decode method_4_code 15 = .ok (.iconst 2, 1) := by decide +kernel
theorem d2_16 : decode method_4_code 16 = .ok (.ldc2_w 32, 3) := by decide +kernel
theorem d2_19 : decode method_4_code 19 = .ok (.lastore, 1) := by decide +kernel
theorem d2_20 : decode method_4_code 20 = .ok (.dup, 1) := by decide +kernel
theorem d2_21 : decode method_4_code 21 = .ok (.iconst 3, 1) := by decide +kernel
theorem d2_22 : decode method_4_code 22 = .ok (.ldc2_w 34, 3) := by decide +kernel
theorem d2_25 : decode method_4_code 25 = .ok (.lastore, 1) := by decide +kernel
theorem d2_26 : decode method_4_code 26 = .ok (.dup, 1) := by decide +kernel
theorem d2_27 : decode method_4_code 27 = .ok (.iconst 4, 1) := by decide +kernel
theorem d2_28 : decode method_4_code 28 = .ok (.ldc2_w 36, 3) := by decide +kernel
theorem d2_31 : decode method_4_code 31 = .ok (.lastore, 1) := by decide +kernel
theorem d2_32 : decode method_4_code 32 = .ok (.dup, 1) := by decide +kernel
theorem d2_33 : decode method_4_code 33 = .ok (.iconst 5, 1) := by decide +kernel
theorem d2_34 : decode method_4_code 34 = .ok (.ldc2_w 38, 3) := by decide +kernel
theorem d2_37 : decode method_4_code 37 = .ok (.lastore, 1) := by decide +kernel
theorem d2_38 : decode method_4_code 38 = .ok (.dup, 1) := by decide +kernel
theorem d2_39 : decode method_4_code 39 = .ok (.bipush 6, 2) := by decide +kernel
theorem d2_41 : decode method_4_code 41 = .ok (.ldc2_w 40, 3) := by decide +kernel
theorem d2_44 : decode method_4_code 44 = .ok (.lastore, 1) := by decide +kernel
theorem d2_45 : decode method_4_code 45 = .ok (.dup, 1) := by decide +kernel
theorem d2_46 : decode method_4_code 46 = .ok (.bipush 7, 2) := by decide +kernel
theorem d2_48 : decode method_4_code 48 = .ok (.ldc2_w 42, 3) := by decide +kernel
theorem d2_51 : decode method_4_code 51 = .ok (.lastore, 1) := by decide +kernel
theorem d2_52 : decode method_4_code 52 = .ok (.dup, 1) := by decide +kernel
theorem d2_53 : decode method_4_code 53 = .ok (.bipush 8, 2) := by decide +kernel
theorem d2_55 : decode method_4_code 55 = .ok (.ldc2_w 44, 3) := by decide +kernel
theorem d2_58 : decode method_4_code 58 = .ok (.lastore, 1) := by decide +kernel
theorem d2_59 : decode method_4_code 59 = .ok (.dup, 1) := by decide +kernel
theorem d2_60 : decode method_4_code 60 = .ok (.bipush 9, 2) := by decide +kernel
theorem d2_62 : decode method_4_code 62 = .ok (.ldc2_w 46, 3) := by decide +kernel
theorem d2_65 : decode method_4_code 65 = .ok (.lastore, 1) := by decide +kernel
theorem d2_66 : decode method_4_code 66 = .ok (.dup, 1) := by decide +kernel
theorem d2_67 : decode method_4_code 67 = .ok (.bipush 10, 2) := by decide +kernel
theorem d2_69 : decode method_4_code 69 = .ok (.ldc2_w 48, 3) := by decide +kernel
theorem d2_72 : decode method_4_code 72 = .ok (.lastore, 1) := by decide +kernel
theorem d2_73 : decode method_4_code 73 = .ok (.dup, 1) := by decide +kernel
theorem d2_74 : decode method_4_code 74 = .ok (.bipush 11, 2) := by decide +kernel
theorem d2_76 : decode method_4_code 76 = .ok (.ldc2_w 50, 3) := by decide +kernel
theorem d2_79 : decode method_4_code 79 = .ok (.lastore, 1) := by decide +kernel
theorem d2_80 : decode method_4_code 80 = .ok (.dup, 1) := by decide +kernel
theorem d2_81 : decode method_4_code 81 = .ok (.bipush 12, 2) := by decide +kernel
theorem d2_83 : decode method_4_code 83 = .ok (.ldc2_w 52, 3) := by decide +kernel
theorem d2_86 : decode method_4_code 86 = .ok (.lastore, 1) := by decide +kernel
theorem d2_87 : decode method_4_code 87 = .ok (.dup, 1) := by decide +kernel
theorem d2_88 : decode method_4_code 88 = .ok (.bipush 13, 2) := by decide +kernel
theorem d2_90 : decode method_4_code 90 = .ok (.ldc2_w 54, 3) := by decide +kernel
theorem d2_93 : decode method_4_code 93 = .ok (.lastore, 1) := by decide +kernel
theorem d2_94 : decode method_4_code 94 = .ok (.dup, 1) := by decide +kernel
theorem d2_95 : decode method_4_code 95 = .ok (.bipush 14, 2) := by decide +kernel
theorem d2_97 : decode method_4_code 97 = .ok (.ldc2_w 56, 3) := by decide +kernel
theorem d2_100 : decode method_4_code 100 = .ok (.lastore, 1) := by decide +kernel
theorem d2_101 : decode method_4_code 101 = .ok (.dup, 1) := by decide +kernel
theorem d2_102 : decode method_4_code 102 = .ok (.bipush 15, 2) := by decide +kernel
theorem d2_104 : decode method_4_code 104 = .ok (.ldc2_w 58, 3) := by decide +kernel
theorem d2_107 : decode method_4_code 107 = .ok (.lastore, 1) := by decide +kernel
theorem d2_108 : decode method_4_code 108 = .ok (.dup, 1) := by decide +kernel
theorem d2_109 : decode method_4_code 109 = .ok (.bipush 16, 2) := by decide +kernel
theorem d2_111 : decode method_4_code 111 = .ok (.ldc2_w 60, 3) := by decide +kernel
theorem d2_114 : decode method_4_code 114 = .ok (.lastore, 1) := by decide +kernel
theorem d2_115 : decode method_4_code 115 = .ok (.dup, 1) := by decide +kernel
theorem d2_116 : decode method_4_code 116 = .ok (.bipush 17, 2) := by decide +kernel
theorem d2_118 : decode method_4_code 118 = .ok (.ldc2_w 62, 3) := by decide +kernel
theorem d2_121 : decode method_4_code 121 = .ok (.lastore, 1) := by decide +kernel
theorem d2_122 : decode method_4_code 122 = .ok (.dup, 1) := by decide +kernel
theorem d2_123 : decode method_4_code 123 = .ok (.bipush 18, 2) := by decide +kernel
theorem d2_125 : decode method_4_code 125 = .ok (.ldc2_w 64, 3) := by decide +kernel
theorem d2_128 : decode method_4_code 128 = .ok (.lastore, 1) := by decide +kernel
theorem d2_129 : decode method_4_code 129 = .ok (.astore_n 1, 1) := by decide +kernel
theorem d2_130 : decode method_4_code 130 = .ok (.aload_n 1, 1) := by decide +kernel
theorem d2_131 : decode method_4_code 131 = .ok (.iload_n 0, 1) := by decide +kernel
theorem d2_132 : decode method_4_code 132 = .ok (.laload, 1) := by decide +kernel
theorem d2_133 : decode method_4_code 133 = .ok (.lreturn, 1) := by decide +kernel
theorem pn_2 : plainFor (⟨"com/example/leafline/leafline/table/IntegerValueParsePlainPinLaw", "pow10", "(I)J"⟩ : MethodName) = true := plainFor_of_name (by first | (simp [plainName, overriddenIn]; done) | decide +kernel)
theorem ef_2 (m : MethodId) (p1 : Int32) : entryFrame m #[(.int p1)] 2 = mkF m 0 #[.val (.int p1), .unset] [] := by first | (simp [entryFrame, mkF, argsToLocals, Value.category]; done) | rfl
def Q2 (Z : State) (p1 : Int32) (E : Nat) (hI : Heap) (n0 : Nat) (v : Option Value) (h : Heap) (L : List Loc) : Prop := v = some (.long (Int64.ofNat (10 ^ E))) ∧ Fr n0 L ∧ Keep hI h []
set_option maxRecDepth 65536 in
set_option maxHeartbeats 40000000 in
theorem rm2 (l : Launch) (Z : State) (a0 : Array Value) (hw : ∀ d ∈ tables_1, d.before a0 Z = true) (ws : List Jvm.Cond) (p1 : Int32) (E : Nat) (hI : Heap) (n0 : Nat) (Z0 : n0 ≤ hI.size) (hE : p1.toInt = E) (hE2 : E ≤ 18) :
    MetFree l (⟨"com/example/leafline/leafline/table/IntegerValueParsePlainPinLaw", "pow10", "(I)J"⟩ : MethodName) (head1 (Jvm.Cond.code (⟨"com/example/leafline/leafline/table/IntegerValueParsePlainPinLaw", "pow10", "(I)J"⟩ : MethodName) method_4_code 2 (some .long) :: ws) ({ frames := 0, cells := 1, slots := 19, locals := 0 } : Room)) (fun xa xU => xa = #[(.int p1)] ∧ Z.Warmed39 xU.vm ∧ xU.heap = hI) (fun _ _ _ _ _ => True) (fun _ xU xo xU' => ∃ xv xL, xo = .returned xv ∧ Q2 Z p1 E hI n0 xv xU'.heap xL ∧ FrameEnd xU xo xU' xL ({ frames := 0, cells := 1, slots := 19, locals := 0 } : Room).cells ({ frames := 0, cells := 1, slots := 19, locals := 0 } : Room).slots) := by
  refine own_body pn_2 ?_
  intro p e s m below meth c s₁ hx hby hml hown hnm hret hlk hZ XI eI
  obtain ⟨F, hF⟩ : ∃ F : State → JFrame → Prop, F = own_Fin p.tables e below s ({ frames := 0, cells := 1, slots := 19, locals := 0 } : Room) (Q2 Z p1 E hI n0) := ⟨_, rfl⟩
  have hst : ∀ {T T' : State} {g g' : JFrame}, (∀ t, Steps p.tables e below (T'.setTop g') t → Steps p.tables e below (T.setTop g) t) → F T' g' → F T g := by subst hF; exact own_st
  have NI := Fr.nil n0
  show own_Fin p.tables e below s ({ frames := 0, cells := 1, slots := 19, locals := 0 } : Room) (Q2 Z p1 E hI n0) s₁ (entryFrame m #[(.int p1)] 2)
  rw [← hF]
  rw [ef_2]
  show F s₁ (mkF m 0 #[.val (.int p1), .unset] [])
  refine hst (fun t₀ k₀ => XS.bipush XI.here hx rfl (hb hby d2_0) k₀) ?_
  show F s₁ (mkF m 2 #[.val (.int p1), .unset] [(.int (19 : Int32))])
  obtain ⟨T2, h2, b2, X2, e2, g2, E2, A2, st2⟩ := own_newarr XI hx hZ (hw _ (List.mem_of_getElem? (i := 10) rfl)) eI (g := (mkF m 2 #[.val (.int p1), .unset] [(.int (19 : Int32))])) rfl (hb hby d2_2) rfl (by decide) (cap := 19) (by decide) (by decide) (by decide) (by decide)
  have ge_b2 : n0 ≤ b2 := Nat.le_trans Z0 (Nat.le_of_eq g2.symm)
  have sz_b2 : hI.size ≤ b2 := Nat.le_trans (Keep.refl hI []).1 (Nat.le_of_eq g2.symm)
  have Z0_p2 : n0 ≤ h2.size := (Nat.le_trans Z0 E2.1)
  have K_p2 : Keep hI h2 [] := (Keep.refl hI []).ext E2
  have A_b2 : own_A Z h2 b2 .long 19 (fun _ => (.long (0 : Int64))) := A2
  refine hst st2 ?_
  show F T2 (mkF m 4 #[.val (.int p1), .unset] [(.ref b2)])
  refine hst (fun t₀ k₀ => XS.dup X2.here hx rfl (hb hby d2_4) rfl rfl k₀) ?_
  show F T2 (mkF m 5 #[.val (.int p1), .unset] [(.ref b2), (.ref b2)])
  refine hst (fun t₀ k₀ => XS.iconst X2.here hx rfl (hb hby d2_5) k₀) ?_
  show F T2 (mkF m 6 #[.val (.int p1), .unset] [(.int (0 : Int32)), (.ref b2), (.ref b2)])
  refine hst (fun t₀ k₀ => XS.lconst X2.here hx rfl (hb hby d2_6) k₀) ?_
  show F T2 (mkF m 7 #[.val (.int p1), .unset] [(.long (1 : Int64)), (.int (0 : Int32)), (.ref b2), (.ref b2)])
  obtain ⟨T7, h7, X7, e7, W7, st7⟩ := own_lastore X2 hx hZ e2 A_b2 (by decide) (g := (mkF m 7 #[.val (.int p1), .unset] [(.long (1 : Int64)), (.int (0 : Int32)), (.ref b2), (.ref b2)])) rfl rfl (hb hby d2_7)
  have N7 := Fr.snoc X7 NI ge_b2
  have A_b2_p7 : own_A Z h7 b2 .long 19 (fun i => if i = Int32.toNatClampNeg (0 : Int32) then (.long (1 : Int64)) else (fun _ => (.long (0 : Int64))) i) := A_b2.set W7
  have Z0_p7 : n0 ≤ h7.size := Nat.le_trans Z0_p2 (Keep.of_wr W7).1
  have K_p7 : Keep hI h7 [] := K_p2.wr W7 (Or.inr sz_b2)
  refine hst st7 ?_
  have A_b2_p7c : own_A Z h7 b2 .long 19 (fun i => .long (own_pt 1 i)) := own_A.congr A_b2_p7 (fun i hi => by rw [show Int32.toNatClampNeg (0 : Int32) = 0 from rfl]; dsimp only; rw [own_pt0 i]; exact own_pt_step 0 i _ (by decide))
  show F T7 (mkF m 8 #[.val (.int p1), .unset] [(.ref b2)])
  refine hst (fun t₀ k₀ => XS.dup X7.here hx rfl (hb hby d2_8) rfl rfl k₀) ?_
  show F T7 (mkF m 9 #[.val (.int p1), .unset] [(.ref b2), (.ref b2)])
  refine hst (fun t₀ k₀ => XS.iconst X7.here hx rfl (hb hby d2_9) k₀) ?_
  show F T7 (mkF m 10 #[.val (.int p1), .unset] [(.int (1 : Int32)), (.ref b2), (.ref b2)])
  refine hst (fun t₀ k₀ => X7.ldc2J hx hown (mvT hZ (hw _ (List.mem_of_getElem? (i := 11) rfl))) (g := (mkF m 10 #[.val (.int p1), .unset] [(.int (1 : Int32)), (.ref b2), (.ref b2)])) rfl (hb hby d2_10) k₀) ?_
  show F T7 (mkF m 13 #[.val (.int p1), .unset] [(.long (10 : Int64)), (.int (1 : Int32)), (.ref b2), (.ref b2)])
  obtain ⟨T13, h13, X13, e13, W13, st13⟩ := own_lastore X7 hx hZ e7 A_b2_p7c (by decide) (g := (mkF m 13 #[.val (.int p1), .unset] [(.long (10 : Int64)), (.int (1 : Int32)), (.ref b2), (.ref b2)])) rfl rfl (hb hby d2_13)
  have N13 := Fr.snoc X13 N7 ge_b2
  have A_b2_p13 : own_A Z h13 b2 .long 19 (fun i => if i = Int32.toNatClampNeg (1 : Int32) then (.long (10 : Int64)) else (fun i => .long (own_pt 1 i)) i) := A_b2_p7c.set W13
  have Z0_p13 : n0 ≤ h13.size := Nat.le_trans Z0_p7 (Keep.of_wr W13).1
  have K_p13 : Keep hI h13 [] := K_p7.wr W13 (Or.inr sz_b2)
  refine hst st13 ?_
  have A_b2_p13c : own_A Z h13 b2 .long 19 (fun i => .long (own_pt 2 i)) := own_A.congr A_b2_p13 (fun i hi => by rw [show Int32.toNatClampNeg (1 : Int32) = 1 from rfl]; exact own_pt_step 1 i _ (by decide))
  show F T13 (mkF m 14 #[.val (.int p1), .unset] [(.ref b2)])
  refine hst (fun t₀ k₀ => XS.dup X13.here hx rfl (hb hby d2_14) rfl rfl k₀) ?_
  show F T13 (mkF m 15 #[.val (.int p1), .unset] [(.ref b2), (.ref b2)])
  refine hst (fun t₀ k₀ => XS.iconst X13.here hx rfl (hb hby d2_15) k₀) ?_
  show F T13 (mkF m 16 #[.val (.int p1), .unset] [(.int (2 : Int32)), (.ref b2), (.ref b2)])
  refine hst (fun t₀ k₀ => X13.ldc2J hx hown (mvT hZ (hw _ (List.mem_of_getElem? (i := 12) rfl))) (g := (mkF m 16 #[.val (.int p1), .unset] [(.int (2 : Int32)), (.ref b2), (.ref b2)])) rfl (hb hby d2_16) k₀) ?_
  show F T13 (mkF m 19 #[.val (.int p1), .unset] [(.long (100 : Int64)), (.int (2 : Int32)), (.ref b2), (.ref b2)])
  obtain ⟨T19, h19, X19, e19, W19, st19⟩ := own_lastore X13 hx hZ e13 A_b2_p13c (by decide) (g := (mkF m 19 #[.val (.int p1), .unset] [(.long (100 : Int64)), (.int (2 : Int32)), (.ref b2), (.ref b2)])) rfl rfl (hb hby d2_19)
  have N19 := Fr.snoc X19 N13 ge_b2
  have A_b2_p19 : own_A Z h19 b2 .long 19 (fun i => if i = Int32.toNatClampNeg (2 : Int32) then (.long (100 : Int64)) else (fun i => .long (own_pt 2 i)) i) := A_b2_p13c.set W19
  have Z0_p19 : n0 ≤ h19.size := Nat.le_trans Z0_p13 (Keep.of_wr W19).1
  have K_p19 : Keep hI h19 [] := K_p13.wr W19 (Or.inr sz_b2)
  refine hst st19 ?_
  have A_b2_p19c : own_A Z h19 b2 .long 19 (fun i => .long (own_pt 3 i)) := own_A.congr A_b2_p19 (fun i hi => by rw [show Int32.toNatClampNeg (2 : Int32) = 2 from rfl]; exact own_pt_step 2 i _ (by decide))
  show F T19 (mkF m 20 #[.val (.int p1), .unset] [(.ref b2)])
  refine hst (fun t₀ k₀ => XS.dup X19.here hx rfl (hb hby d2_20) rfl rfl k₀) ?_
  show F T19 (mkF m 21 #[.val (.int p1), .unset] [(.ref b2), (.ref b2)])
  refine hst (fun t₀ k₀ => XS.iconst X19.here hx rfl (hb hby d2_21) k₀) ?_
  show F T19 (mkF m 22 #[.val (.int p1), .unset] [(.int (3 : Int32)), (.ref b2), (.ref b2)])
  refine hst (fun t₀ k₀ => X19.ldc2J hx hown (mvT hZ (hw _ (List.mem_of_getElem? (i := 13) rfl))) (g := (mkF m 22 #[.val (.int p1), .unset] [(.int (3 : Int32)), (.ref b2), (.ref b2)])) rfl (hb hby d2_22) k₀) ?_
  show F T19 (mkF m 25 #[.val (.int p1), .unset] [(.long (1000 : Int64)), (.int (3 : Int32)), (.ref b2), (.ref b2)])
  obtain ⟨T25, h25, X25, e25, W25, st25⟩ := own_lastore X19 hx hZ e19 A_b2_p19c (by decide) (g := (mkF m 25 #[.val (.int p1), .unset] [(.long (1000 : Int64)), (.int (3 : Int32)), (.ref b2), (.ref b2)])) rfl rfl (hb hby d2_25)
  have N25 := Fr.snoc X25 N19 ge_b2
  have A_b2_p25 : own_A Z h25 b2 .long 19 (fun i => if i = Int32.toNatClampNeg (3 : Int32) then (.long (1000 : Int64)) else (fun i => .long (own_pt 3 i)) i) := A_b2_p19c.set W25
  have Z0_p25 : n0 ≤ h25.size := Nat.le_trans Z0_p19 (Keep.of_wr W25).1
  have K_p25 : Keep hI h25 [] := K_p19.wr W25 (Or.inr sz_b2)
  refine hst st25 ?_
  have A_b2_p25c : own_A Z h25 b2 .long 19 (fun i => .long (own_pt 4 i)) := own_A.congr A_b2_p25 (fun i hi => by rw [show Int32.toNatClampNeg (3 : Int32) = 3 from rfl]; exact own_pt_step 3 i _ (by decide))
  show F T25 (mkF m 26 #[.val (.int p1), .unset] [(.ref b2)])
  refine hst (fun t₀ k₀ => XS.dup X25.here hx rfl (hb hby d2_26) rfl rfl k₀) ?_
  show F T25 (mkF m 27 #[.val (.int p1), .unset] [(.ref b2), (.ref b2)])
  refine hst (fun t₀ k₀ => XS.iconst X25.here hx rfl (hb hby d2_27) k₀) ?_
  show F T25 (mkF m 28 #[.val (.int p1), .unset] [(.int (4 : Int32)), (.ref b2), (.ref b2)])
  refine hst (fun t₀ k₀ => X25.ldc2J hx hown (mvT hZ (hw _ (List.mem_of_getElem? (i := 14) rfl))) (g := (mkF m 28 #[.val (.int p1), .unset] [(.int (4 : Int32)), (.ref b2), (.ref b2)])) rfl (hb hby d2_28) k₀) ?_
  show F T25 (mkF m 31 #[.val (.int p1), .unset] [(.long (10000 : Int64)), (.int (4 : Int32)), (.ref b2), (.ref b2)])
  obtain ⟨T31, h31, X31, e31, W31, st31⟩ := own_lastore X25 hx hZ e25 A_b2_p25c (by decide) (g := (mkF m 31 #[.val (.int p1), .unset] [(.long (10000 : Int64)), (.int (4 : Int32)), (.ref b2), (.ref b2)])) rfl rfl (hb hby d2_31)
  have N31 := Fr.snoc X31 N25 ge_b2
  have A_b2_p31 : own_A Z h31 b2 .long 19 (fun i => if i = Int32.toNatClampNeg (4 : Int32) then (.long (10000 : Int64)) else (fun i => .long (own_pt 4 i)) i) := A_b2_p25c.set W31
  have Z0_p31 : n0 ≤ h31.size := Nat.le_trans Z0_p25 (Keep.of_wr W31).1
  have K_p31 : Keep hI h31 [] := K_p25.wr W31 (Or.inr sz_b2)
  refine hst st31 ?_
  have A_b2_p31c : own_A Z h31 b2 .long 19 (fun i => .long (own_pt 5 i)) := own_A.congr A_b2_p31 (fun i hi => by rw [show Int32.toNatClampNeg (4 : Int32) = 4 from rfl]; exact own_pt_step 4 i _ (by decide))
  show F T31 (mkF m 32 #[.val (.int p1), .unset] [(.ref b2)])
  refine hst (fun t₀ k₀ => XS.dup X31.here hx rfl (hb hby d2_32) rfl rfl k₀) ?_
  show F T31 (mkF m 33 #[.val (.int p1), .unset] [(.ref b2), (.ref b2)])
  refine hst (fun t₀ k₀ => XS.iconst X31.here hx rfl (hb hby d2_33) k₀) ?_
  show F T31 (mkF m 34 #[.val (.int p1), .unset] [(.int (5 : Int32)), (.ref b2), (.ref b2)])
  refine hst (fun t₀ k₀ => X31.ldc2J hx hown (mvT hZ (hw _ (List.mem_of_getElem? (i := 15) rfl))) (g := (mkF m 34 #[.val (.int p1), .unset] [(.int (5 : Int32)), (.ref b2), (.ref b2)])) rfl (hb hby d2_34) k₀) ?_
  show F T31 (mkF m 37 #[.val (.int p1), .unset] [(.long (100000 : Int64)), (.int (5 : Int32)), (.ref b2), (.ref b2)])
  obtain ⟨T37, h37, X37, e37, W37, st37⟩ := own_lastore X31 hx hZ e31 A_b2_p31c (by decide) (g := (mkF m 37 #[.val (.int p1), .unset] [(.long (100000 : Int64)), (.int (5 : Int32)), (.ref b2), (.ref b2)])) rfl rfl (hb hby d2_37)
  have N37 := Fr.snoc X37 N31 ge_b2
  have A_b2_p37 : own_A Z h37 b2 .long 19 (fun i => if i = Int32.toNatClampNeg (5 : Int32) then (.long (100000 : Int64)) else (fun i => .long (own_pt 5 i)) i) := A_b2_p31c.set W37
  have Z0_p37 : n0 ≤ h37.size := Nat.le_trans Z0_p31 (Keep.of_wr W37).1
  have K_p37 : Keep hI h37 [] := K_p31.wr W37 (Or.inr sz_b2)
  refine hst st37 ?_
  have A_b2_p37c : own_A Z h37 b2 .long 19 (fun i => .long (own_pt 6 i)) := own_A.congr A_b2_p37 (fun i hi => by rw [show Int32.toNatClampNeg (5 : Int32) = 5 from rfl]; exact own_pt_step 5 i _ (by decide))
  show F T37 (mkF m 38 #[.val (.int p1), .unset] [(.ref b2)])
  refine hst (fun t₀ k₀ => XS.dup X37.here hx rfl (hb hby d2_38) rfl rfl k₀) ?_
  show F T37 (mkF m 39 #[.val (.int p1), .unset] [(.ref b2), (.ref b2)])
  refine hst (fun t₀ k₀ => XS.bipush X37.here hx rfl (hb hby d2_39) k₀) ?_
  show F T37 (mkF m 41 #[.val (.int p1), .unset] [(.int (6 : Int32)), (.ref b2), (.ref b2)])
  refine hst (fun t₀ k₀ => X37.ldc2J hx hown (mvT hZ (hw _ (List.mem_of_getElem? (i := 16) rfl))) (g := (mkF m 41 #[.val (.int p1), .unset] [(.int (6 : Int32)), (.ref b2), (.ref b2)])) rfl (hb hby d2_41) k₀) ?_
  show F T37 (mkF m 44 #[.val (.int p1), .unset] [(.long (1000000 : Int64)), (.int (6 : Int32)), (.ref b2), (.ref b2)])
  obtain ⟨T44, h44, X44, e44, W44, st44⟩ := own_lastore X37 hx hZ e37 A_b2_p37c (by decide) (g := (mkF m 44 #[.val (.int p1), .unset] [(.long (1000000 : Int64)), (.int (6 : Int32)), (.ref b2), (.ref b2)])) rfl rfl (hb hby d2_44)
  have N44 := Fr.snoc X44 N37 ge_b2
  have A_b2_p44 : own_A Z h44 b2 .long 19 (fun i => if i = Int32.toNatClampNeg (6 : Int32) then (.long (1000000 : Int64)) else (fun i => .long (own_pt 6 i)) i) := A_b2_p37c.set W44
  have Z0_p44 : n0 ≤ h44.size := Nat.le_trans Z0_p37 (Keep.of_wr W44).1
  have K_p44 : Keep hI h44 [] := K_p37.wr W44 (Or.inr sz_b2)
  refine hst st44 ?_
  have A_b2_p44c : own_A Z h44 b2 .long 19 (fun i => .long (own_pt 7 i)) := own_A.congr A_b2_p44 (fun i hi => by rw [show Int32.toNatClampNeg (6 : Int32) = 6 from rfl]; exact own_pt_step 6 i _ (by decide))
  show F T44 (mkF m 45 #[.val (.int p1), .unset] [(.ref b2)])
  refine hst (fun t₀ k₀ => XS.dup X44.here hx rfl (hb hby d2_45) rfl rfl k₀) ?_
  show F T44 (mkF m 46 #[.val (.int p1), .unset] [(.ref b2), (.ref b2)])
  refine hst (fun t₀ k₀ => XS.bipush X44.here hx rfl (hb hby d2_46) k₀) ?_
  show F T44 (mkF m 48 #[.val (.int p1), .unset] [(.int (7 : Int32)), (.ref b2), (.ref b2)])
  refine hst (fun t₀ k₀ => X44.ldc2J hx hown (mvT hZ (hw _ (List.mem_of_getElem? (i := 17) rfl))) (g := (mkF m 48 #[.val (.int p1), .unset] [(.int (7 : Int32)), (.ref b2), (.ref b2)])) rfl (hb hby d2_48) k₀) ?_
  show F T44 (mkF m 51 #[.val (.int p1), .unset] [(.long (10000000 : Int64)), (.int (7 : Int32)), (.ref b2), (.ref b2)])
  obtain ⟨T51, h51, X51, e51, W51, st51⟩ := own_lastore X44 hx hZ e44 A_b2_p44c (by decide) (g := (mkF m 51 #[.val (.int p1), .unset] [(.long (10000000 : Int64)), (.int (7 : Int32)), (.ref b2), (.ref b2)])) rfl rfl (hb hby d2_51)
  have N51 := Fr.snoc X51 N44 ge_b2
  have A_b2_p51 : own_A Z h51 b2 .long 19 (fun i => if i = Int32.toNatClampNeg (7 : Int32) then (.long (10000000 : Int64)) else (fun i => .long (own_pt 7 i)) i) := A_b2_p44c.set W51
  have Z0_p51 : n0 ≤ h51.size := Nat.le_trans Z0_p44 (Keep.of_wr W51).1
  have K_p51 : Keep hI h51 [] := K_p44.wr W51 (Or.inr sz_b2)
  refine hst st51 ?_
  have A_b2_p51c : own_A Z h51 b2 .long 19 (fun i => .long (own_pt 8 i)) := own_A.congr A_b2_p51 (fun i hi => by rw [show Int32.toNatClampNeg (7 : Int32) = 7 from rfl]; exact own_pt_step 7 i _ (by decide))
  show F T51 (mkF m 52 #[.val (.int p1), .unset] [(.ref b2)])
  refine hst (fun t₀ k₀ => XS.dup X51.here hx rfl (hb hby d2_52) rfl rfl k₀) ?_
  show F T51 (mkF m 53 #[.val (.int p1), .unset] [(.ref b2), (.ref b2)])
  refine hst (fun t₀ k₀ => XS.bipush X51.here hx rfl (hb hby d2_53) k₀) ?_
  show F T51 (mkF m 55 #[.val (.int p1), .unset] [(.int (8 : Int32)), (.ref b2), (.ref b2)])
  refine hst (fun t₀ k₀ => X51.ldc2J hx hown (mvT hZ (hw _ (List.mem_of_getElem? (i := 18) rfl))) (g := (mkF m 55 #[.val (.int p1), .unset] [(.int (8 : Int32)), (.ref b2), (.ref b2)])) rfl (hb hby d2_55) k₀) ?_
  show F T51 (mkF m 58 #[.val (.int p1), .unset] [(.long (100000000 : Int64)), (.int (8 : Int32)), (.ref b2), (.ref b2)])
  obtain ⟨T58, h58, X58, e58, W58, st58⟩ := own_lastore X51 hx hZ e51 A_b2_p51c (by decide) (g := (mkF m 58 #[.val (.int p1), .unset] [(.long (100000000 : Int64)), (.int (8 : Int32)), (.ref b2), (.ref b2)])) rfl rfl (hb hby d2_58)
  have N58 := Fr.snoc X58 N51 ge_b2
  have A_b2_p58 : own_A Z h58 b2 .long 19 (fun i => if i = Int32.toNatClampNeg (8 : Int32) then (.long (100000000 : Int64)) else (fun i => .long (own_pt 8 i)) i) := A_b2_p51c.set W58
  have Z0_p58 : n0 ≤ h58.size := Nat.le_trans Z0_p51 (Keep.of_wr W58).1
  have K_p58 : Keep hI h58 [] := K_p51.wr W58 (Or.inr sz_b2)
  refine hst st58 ?_
  have A_b2_p58c : own_A Z h58 b2 .long 19 (fun i => .long (own_pt 9 i)) := own_A.congr A_b2_p58 (fun i hi => by rw [show Int32.toNatClampNeg (8 : Int32) = 8 from rfl]; exact own_pt_step 8 i _ (by decide))
  show F T58 (mkF m 59 #[.val (.int p1), .unset] [(.ref b2)])
  refine hst (fun t₀ k₀ => XS.dup X58.here hx rfl (hb hby d2_59) rfl rfl k₀) ?_
  show F T58 (mkF m 60 #[.val (.int p1), .unset] [(.ref b2), (.ref b2)])
  refine hst (fun t₀ k₀ => XS.bipush X58.here hx rfl (hb hby d2_60) k₀) ?_
  show F T58 (mkF m 62 #[.val (.int p1), .unset] [(.int (9 : Int32)), (.ref b2), (.ref b2)])
  refine hst (fun t₀ k₀ => X58.ldc2J hx hown (mvT hZ (hw _ (List.mem_of_getElem? (i := 19) rfl))) (g := (mkF m 62 #[.val (.int p1), .unset] [(.int (9 : Int32)), (.ref b2), (.ref b2)])) rfl (hb hby d2_62) k₀) ?_
  show F T58 (mkF m 65 #[.val (.int p1), .unset] [(.long (1000000000 : Int64)), (.int (9 : Int32)), (.ref b2), (.ref b2)])
  obtain ⟨T65, h65, X65, e65, W65, st65⟩ := own_lastore X58 hx hZ e58 A_b2_p58c (by decide) (g := (mkF m 65 #[.val (.int p1), .unset] [(.long (1000000000 : Int64)), (.int (9 : Int32)), (.ref b2), (.ref b2)])) rfl rfl (hb hby d2_65)
  have N65 := Fr.snoc X65 N58 ge_b2
  have A_b2_p65 : own_A Z h65 b2 .long 19 (fun i => if i = Int32.toNatClampNeg (9 : Int32) then (.long (1000000000 : Int64)) else (fun i => .long (own_pt 9 i)) i) := A_b2_p58c.set W65
  have Z0_p65 : n0 ≤ h65.size := Nat.le_trans Z0_p58 (Keep.of_wr W65).1
  have K_p65 : Keep hI h65 [] := K_p58.wr W65 (Or.inr sz_b2)
  refine hst st65 ?_
  have A_b2_p65c : own_A Z h65 b2 .long 19 (fun i => .long (own_pt 10 i)) := own_A.congr A_b2_p65 (fun i hi => by rw [show Int32.toNatClampNeg (9 : Int32) = 9 from rfl]; exact own_pt_step 9 i _ (by decide))
  show F T65 (mkF m 66 #[.val (.int p1), .unset] [(.ref b2)])
  refine hst (fun t₀ k₀ => XS.dup X65.here hx rfl (hb hby d2_66) rfl rfl k₀) ?_
  show F T65 (mkF m 67 #[.val (.int p1), .unset] [(.ref b2), (.ref b2)])
  refine hst (fun t₀ k₀ => XS.bipush X65.here hx rfl (hb hby d2_67) k₀) ?_
  show F T65 (mkF m 69 #[.val (.int p1), .unset] [(.int (10 : Int32)), (.ref b2), (.ref b2)])
  refine hst (fun t₀ k₀ => X65.ldc2J hx hown (mvT hZ (hw _ (List.mem_of_getElem? (i := 20) rfl))) (g := (mkF m 69 #[.val (.int p1), .unset] [(.int (10 : Int32)), (.ref b2), (.ref b2)])) rfl (hb hby d2_69) k₀) ?_
  show F T65 (mkF m 72 #[.val (.int p1), .unset] [(.long (10000000000 : Int64)), (.int (10 : Int32)), (.ref b2), (.ref b2)])
  obtain ⟨T72, h72, X72, e72, W72, st72⟩ := own_lastore X65 hx hZ e65 A_b2_p65c (by decide) (g := (mkF m 72 #[.val (.int p1), .unset] [(.long (10000000000 : Int64)), (.int (10 : Int32)), (.ref b2), (.ref b2)])) rfl rfl (hb hby d2_72)
  have N72 := Fr.snoc X72 N65 ge_b2
  have A_b2_p72 : own_A Z h72 b2 .long 19 (fun i => if i = Int32.toNatClampNeg (10 : Int32) then (.long (10000000000 : Int64)) else (fun i => .long (own_pt 10 i)) i) := A_b2_p65c.set W72
  have Z0_p72 : n0 ≤ h72.size := Nat.le_trans Z0_p65 (Keep.of_wr W72).1
  have K_p72 : Keep hI h72 [] := K_p65.wr W72 (Or.inr sz_b2)
  refine hst st72 ?_
  have A_b2_p72c : own_A Z h72 b2 .long 19 (fun i => .long (own_pt 11 i)) := own_A.congr A_b2_p72 (fun i hi => by rw [show Int32.toNatClampNeg (10 : Int32) = 10 from rfl]; exact own_pt_step 10 i _ (by decide))
  show F T72 (mkF m 73 #[.val (.int p1), .unset] [(.ref b2)])
  refine hst (fun t₀ k₀ => XS.dup X72.here hx rfl (hb hby d2_73) rfl rfl k₀) ?_
  show F T72 (mkF m 74 #[.val (.int p1), .unset] [(.ref b2), (.ref b2)])
  refine hst (fun t₀ k₀ => XS.bipush X72.here hx rfl (hb hby d2_74) k₀) ?_
  show F T72 (mkF m 76 #[.val (.int p1), .unset] [(.int (11 : Int32)), (.ref b2), (.ref b2)])
  refine hst (fun t₀ k₀ => X72.ldc2J hx hown (mvT hZ (hw _ (List.mem_of_getElem? (i := 21) rfl))) (g := (mkF m 76 #[.val (.int p1), .unset] [(.int (11 : Int32)), (.ref b2), (.ref b2)])) rfl (hb hby d2_76) k₀) ?_
  show F T72 (mkF m 79 #[.val (.int p1), .unset] [(.long (100000000000 : Int64)), (.int (11 : Int32)), (.ref b2), (.ref b2)])
  obtain ⟨T79, h79, X79, e79, W79, st79⟩ := own_lastore X72 hx hZ e72 A_b2_p72c (by decide) (g := (mkF m 79 #[.val (.int p1), .unset] [(.long (100000000000 : Int64)), (.int (11 : Int32)), (.ref b2), (.ref b2)])) rfl rfl (hb hby d2_79)
  have N79 := Fr.snoc X79 N72 ge_b2
  have A_b2_p79 : own_A Z h79 b2 .long 19 (fun i => if i = Int32.toNatClampNeg (11 : Int32) then (.long (100000000000 : Int64)) else (fun i => .long (own_pt 11 i)) i) := A_b2_p72c.set W79
  have Z0_p79 : n0 ≤ h79.size := Nat.le_trans Z0_p72 (Keep.of_wr W79).1
  have K_p79 : Keep hI h79 [] := K_p72.wr W79 (Or.inr sz_b2)
  refine hst st79 ?_
  have A_b2_p79c : own_A Z h79 b2 .long 19 (fun i => .long (own_pt 12 i)) := own_A.congr A_b2_p79 (fun i hi => by rw [show Int32.toNatClampNeg (11 : Int32) = 11 from rfl]; exact own_pt_step 11 i _ (by decide))
  show F T79 (mkF m 80 #[.val (.int p1), .unset] [(.ref b2)])
  refine hst (fun t₀ k₀ => XS.dup X79.here hx rfl (hb hby d2_80) rfl rfl k₀) ?_
  show F T79 (mkF m 81 #[.val (.int p1), .unset] [(.ref b2), (.ref b2)])
  refine hst (fun t₀ k₀ => XS.bipush X79.here hx rfl (hb hby d2_81) k₀) ?_
  show F T79 (mkF m 83 #[.val (.int p1), .unset] [(.int (12 : Int32)), (.ref b2), (.ref b2)])
  refine hst (fun t₀ k₀ => X79.ldc2J hx hown (mvT hZ (hw _ (List.mem_of_getElem? (i := 22) rfl))) (g := (mkF m 83 #[.val (.int p1), .unset] [(.int (12 : Int32)), (.ref b2), (.ref b2)])) rfl (hb hby d2_83) k₀) ?_
  show F T79 (mkF m 86 #[.val (.int p1), .unset] [(.long (1000000000000 : Int64)), (.int (12 : Int32)), (.ref b2), (.ref b2)])
  obtain ⟨T86, h86, X86, e86, W86, st86⟩ := own_lastore X79 hx hZ e79 A_b2_p79c (by decide) (g := (mkF m 86 #[.val (.int p1), .unset] [(.long (1000000000000 : Int64)), (.int (12 : Int32)), (.ref b2), (.ref b2)])) rfl rfl (hb hby d2_86)
  have N86 := Fr.snoc X86 N79 ge_b2
  have A_b2_p86 : own_A Z h86 b2 .long 19 (fun i => if i = Int32.toNatClampNeg (12 : Int32) then (.long (1000000000000 : Int64)) else (fun i => .long (own_pt 12 i)) i) := A_b2_p79c.set W86
  have Z0_p86 : n0 ≤ h86.size := Nat.le_trans Z0_p79 (Keep.of_wr W86).1
  have K_p86 : Keep hI h86 [] := K_p79.wr W86 (Or.inr sz_b2)
  refine hst st86 ?_
  have A_b2_p86c : own_A Z h86 b2 .long 19 (fun i => .long (own_pt 13 i)) := own_A.congr A_b2_p86 (fun i hi => by rw [show Int32.toNatClampNeg (12 : Int32) = 12 from rfl]; exact own_pt_step 12 i _ (by decide))
  show F T86 (mkF m 87 #[.val (.int p1), .unset] [(.ref b2)])
  refine hst (fun t₀ k₀ => XS.dup X86.here hx rfl (hb hby d2_87) rfl rfl k₀) ?_
  show F T86 (mkF m 88 #[.val (.int p1), .unset] [(.ref b2), (.ref b2)])
  refine hst (fun t₀ k₀ => XS.bipush X86.here hx rfl (hb hby d2_88) k₀) ?_
  show F T86 (mkF m 90 #[.val (.int p1), .unset] [(.int (13 : Int32)), (.ref b2), (.ref b2)])
  refine hst (fun t₀ k₀ => X86.ldc2J hx hown (mvT hZ (hw _ (List.mem_of_getElem? (i := 23) rfl))) (g := (mkF m 90 #[.val (.int p1), .unset] [(.int (13 : Int32)), (.ref b2), (.ref b2)])) rfl (hb hby d2_90) k₀) ?_
  show F T86 (mkF m 93 #[.val (.int p1), .unset] [(.long (10000000000000 : Int64)), (.int (13 : Int32)), (.ref b2), (.ref b2)])
  obtain ⟨T93, h93, X93, e93, W93, st93⟩ := own_lastore X86 hx hZ e86 A_b2_p86c (by decide) (g := (mkF m 93 #[.val (.int p1), .unset] [(.long (10000000000000 : Int64)), (.int (13 : Int32)), (.ref b2), (.ref b2)])) rfl rfl (hb hby d2_93)
  have N93 := Fr.snoc X93 N86 ge_b2
  have A_b2_p93 : own_A Z h93 b2 .long 19 (fun i => if i = Int32.toNatClampNeg (13 : Int32) then (.long (10000000000000 : Int64)) else (fun i => .long (own_pt 13 i)) i) := A_b2_p86c.set W93
  have Z0_p93 : n0 ≤ h93.size := Nat.le_trans Z0_p86 (Keep.of_wr W93).1
  have K_p93 : Keep hI h93 [] := K_p86.wr W93 (Or.inr sz_b2)
  refine hst st93 ?_
  have A_b2_p93c : own_A Z h93 b2 .long 19 (fun i => .long (own_pt 14 i)) := own_A.congr A_b2_p93 (fun i hi => by rw [show Int32.toNatClampNeg (13 : Int32) = 13 from rfl]; exact own_pt_step 13 i _ (by decide))
  show F T93 (mkF m 94 #[.val (.int p1), .unset] [(.ref b2)])
  refine hst (fun t₀ k₀ => XS.dup X93.here hx rfl (hb hby d2_94) rfl rfl k₀) ?_
  show F T93 (mkF m 95 #[.val (.int p1), .unset] [(.ref b2), (.ref b2)])
  refine hst (fun t₀ k₀ => XS.bipush X93.here hx rfl (hb hby d2_95) k₀) ?_
  show F T93 (mkF m 97 #[.val (.int p1), .unset] [(.int (14 : Int32)), (.ref b2), (.ref b2)])
  refine hst (fun t₀ k₀ => X93.ldc2J hx hown (mvT hZ (hw _ (List.mem_of_getElem? (i := 24) rfl))) (g := (mkF m 97 #[.val (.int p1), .unset] [(.int (14 : Int32)), (.ref b2), (.ref b2)])) rfl (hb hby d2_97) k₀) ?_
  show F T93 (mkF m 100 #[.val (.int p1), .unset] [(.long (100000000000000 : Int64)), (.int (14 : Int32)), (.ref b2), (.ref b2)])
  obtain ⟨T100, h100, X100, e100, W100, st100⟩ := own_lastore X93 hx hZ e93 A_b2_p93c (by decide) (g := (mkF m 100 #[.val (.int p1), .unset] [(.long (100000000000000 : Int64)), (.int (14 : Int32)), (.ref b2), (.ref b2)])) rfl rfl (hb hby d2_100)
  have N100 := Fr.snoc X100 N93 ge_b2
  have A_b2_p100 : own_A Z h100 b2 .long 19 (fun i => if i = Int32.toNatClampNeg (14 : Int32) then (.long (100000000000000 : Int64)) else (fun i => .long (own_pt 14 i)) i) := A_b2_p93c.set W100
  have Z0_p100 : n0 ≤ h100.size := Nat.le_trans Z0_p93 (Keep.of_wr W100).1
  have K_p100 : Keep hI h100 [] := K_p93.wr W100 (Or.inr sz_b2)
  refine hst st100 ?_
  have A_b2_p100c : own_A Z h100 b2 .long 19 (fun i => .long (own_pt 15 i)) := own_A.congr A_b2_p100 (fun i hi => by rw [show Int32.toNatClampNeg (14 : Int32) = 14 from rfl]; exact own_pt_step 14 i _ (by decide))
  show F T100 (mkF m 101 #[.val (.int p1), .unset] [(.ref b2)])
  refine hst (fun t₀ k₀ => XS.dup X100.here hx rfl (hb hby d2_101) rfl rfl k₀) ?_
  show F T100 (mkF m 102 #[.val (.int p1), .unset] [(.ref b2), (.ref b2)])
  refine hst (fun t₀ k₀ => XS.bipush X100.here hx rfl (hb hby d2_102) k₀) ?_
  show F T100 (mkF m 104 #[.val (.int p1), .unset] [(.int (15 : Int32)), (.ref b2), (.ref b2)])
  refine hst (fun t₀ k₀ => X100.ldc2J hx hown (mvT hZ (hw _ (List.mem_of_getElem? (i := 25) rfl))) (g := (mkF m 104 #[.val (.int p1), .unset] [(.int (15 : Int32)), (.ref b2), (.ref b2)])) rfl (hb hby d2_104) k₀) ?_
  show F T100 (mkF m 107 #[.val (.int p1), .unset] [(.long (1000000000000000 : Int64)), (.int (15 : Int32)), (.ref b2), (.ref b2)])
  obtain ⟨T107, h107, X107, e107, W107, st107⟩ := own_lastore X100 hx hZ e100 A_b2_p100c (by decide) (g := (mkF m 107 #[.val (.int p1), .unset] [(.long (1000000000000000 : Int64)), (.int (15 : Int32)), (.ref b2), (.ref b2)])) rfl rfl (hb hby d2_107)
  have N107 := Fr.snoc X107 N100 ge_b2
  have A_b2_p107 : own_A Z h107 b2 .long 19 (fun i => if i = Int32.toNatClampNeg (15 : Int32) then (.long (1000000000000000 : Int64)) else (fun i => .long (own_pt 15 i)) i) := A_b2_p100c.set W107
  have Z0_p107 : n0 ≤ h107.size := Nat.le_trans Z0_p100 (Keep.of_wr W107).1
  have K_p107 : Keep hI h107 [] := K_p100.wr W107 (Or.inr sz_b2)
  refine hst st107 ?_
  have A_b2_p107c : own_A Z h107 b2 .long 19 (fun i => .long (own_pt 16 i)) := own_A.congr A_b2_p107 (fun i hi => by rw [show Int32.toNatClampNeg (15 : Int32) = 15 from rfl]; exact own_pt_step 15 i _ (by decide))
  show F T107 (mkF m 108 #[.val (.int p1), .unset] [(.ref b2)])
  refine hst (fun t₀ k₀ => XS.dup X107.here hx rfl (hb hby d2_108) rfl rfl k₀) ?_
  show F T107 (mkF m 109 #[.val (.int p1), .unset] [(.ref b2), (.ref b2)])
  refine hst (fun t₀ k₀ => XS.bipush X107.here hx rfl (hb hby d2_109) k₀) ?_
  show F T107 (mkF m 111 #[.val (.int p1), .unset] [(.int (16 : Int32)), (.ref b2), (.ref b2)])
  refine hst (fun t₀ k₀ => X107.ldc2J hx hown (mvT hZ (hw _ (List.mem_of_getElem? (i := 26) rfl))) (g := (mkF m 111 #[.val (.int p1), .unset] [(.int (16 : Int32)), (.ref b2), (.ref b2)])) rfl (hb hby d2_111) k₀) ?_
  show F T107 (mkF m 114 #[.val (.int p1), .unset] [(.long (10000000000000000 : Int64)), (.int (16 : Int32)), (.ref b2), (.ref b2)])
  obtain ⟨T114, h114, X114, e114, W114, st114⟩ := own_lastore X107 hx hZ e107 A_b2_p107c (by decide) (g := (mkF m 114 #[.val (.int p1), .unset] [(.long (10000000000000000 : Int64)), (.int (16 : Int32)), (.ref b2), (.ref b2)])) rfl rfl (hb hby d2_114)
  have N114 := Fr.snoc X114 N107 ge_b2
  have A_b2_p114 : own_A Z h114 b2 .long 19 (fun i => if i = Int32.toNatClampNeg (16 : Int32) then (.long (10000000000000000 : Int64)) else (fun i => .long (own_pt 16 i)) i) := A_b2_p107c.set W114
  have Z0_p114 : n0 ≤ h114.size := Nat.le_trans Z0_p107 (Keep.of_wr W114).1
  have K_p114 : Keep hI h114 [] := K_p107.wr W114 (Or.inr sz_b2)
  refine hst st114 ?_
  have A_b2_p114c : own_A Z h114 b2 .long 19 (fun i => .long (own_pt 17 i)) := own_A.congr A_b2_p114 (fun i hi => by rw [show Int32.toNatClampNeg (16 : Int32) = 16 from rfl]; exact own_pt_step 16 i _ (by decide))
  show F T114 (mkF m 115 #[.val (.int p1), .unset] [(.ref b2)])
  refine hst (fun t₀ k₀ => XS.dup X114.here hx rfl (hb hby d2_115) rfl rfl k₀) ?_
  show F T114 (mkF m 116 #[.val (.int p1), .unset] [(.ref b2), (.ref b2)])
  refine hst (fun t₀ k₀ => XS.bipush X114.here hx rfl (hb hby d2_116) k₀) ?_
  show F T114 (mkF m 118 #[.val (.int p1), .unset] [(.int (17 : Int32)), (.ref b2), (.ref b2)])
  refine hst (fun t₀ k₀ => X114.ldc2J hx hown (mvT hZ (hw _ (List.mem_of_getElem? (i := 27) rfl))) (g := (mkF m 118 #[.val (.int p1), .unset] [(.int (17 : Int32)), (.ref b2), (.ref b2)])) rfl (hb hby d2_118) k₀) ?_
  show F T114 (mkF m 121 #[.val (.int p1), .unset] [(.long (100000000000000000 : Int64)), (.int (17 : Int32)), (.ref b2), (.ref b2)])
  obtain ⟨T121, h121, X121, e121, W121, st121⟩ := own_lastore X114 hx hZ e114 A_b2_p114c (by decide) (g := (mkF m 121 #[.val (.int p1), .unset] [(.long (100000000000000000 : Int64)), (.int (17 : Int32)), (.ref b2), (.ref b2)])) rfl rfl (hb hby d2_121)
  have N121 := Fr.snoc X121 N114 ge_b2
  have A_b2_p121 : own_A Z h121 b2 .long 19 (fun i => if i = Int32.toNatClampNeg (17 : Int32) then (.long (100000000000000000 : Int64)) else (fun i => .long (own_pt 17 i)) i) := A_b2_p114c.set W121
  have Z0_p121 : n0 ≤ h121.size := Nat.le_trans Z0_p114 (Keep.of_wr W121).1
  have K_p121 : Keep hI h121 [] := K_p114.wr W121 (Or.inr sz_b2)
  refine hst st121 ?_
  have A_b2_p121c : own_A Z h121 b2 .long 19 (fun i => .long (own_pt 18 i)) := own_A.congr A_b2_p121 (fun i hi => by rw [show Int32.toNatClampNeg (17 : Int32) = 17 from rfl]; exact own_pt_step 17 i _ (by decide))
  show F T121 (mkF m 122 #[.val (.int p1), .unset] [(.ref b2)])
  refine hst (fun t₀ k₀ => XS.dup X121.here hx rfl (hb hby d2_122) rfl rfl k₀) ?_
  show F T121 (mkF m 123 #[.val (.int p1), .unset] [(.ref b2), (.ref b2)])
  refine hst (fun t₀ k₀ => XS.bipush X121.here hx rfl (hb hby d2_123) k₀) ?_
  show F T121 (mkF m 125 #[.val (.int p1), .unset] [(.int (18 : Int32)), (.ref b2), (.ref b2)])
  refine hst (fun t₀ k₀ => X121.ldc2J hx hown (mvT hZ (hw _ (List.mem_of_getElem? (i := 28) rfl))) (g := (mkF m 125 #[.val (.int p1), .unset] [(.int (18 : Int32)), (.ref b2), (.ref b2)])) rfl (hb hby d2_125) k₀) ?_
  show F T121 (mkF m 128 #[.val (.int p1), .unset] [(.long (1000000000000000000 : Int64)), (.int (18 : Int32)), (.ref b2), (.ref b2)])
  obtain ⟨T128, h128, X128, e128, W128, st128⟩ := own_lastore X121 hx hZ e121 A_b2_p121c (by decide) (g := (mkF m 128 #[.val (.int p1), .unset] [(.long (1000000000000000000 : Int64)), (.int (18 : Int32)), (.ref b2), (.ref b2)])) rfl rfl (hb hby d2_128)
  have N128 := Fr.snoc X128 N121 ge_b2
  have A_b2_p128 : own_A Z h128 b2 .long 19 (fun i => if i = Int32.toNatClampNeg (18 : Int32) then (.long (1000000000000000000 : Int64)) else (fun i => .long (own_pt 18 i)) i) := A_b2_p121c.set W128
  have Z0_p128 : n0 ≤ h128.size := Nat.le_trans Z0_p121 (Keep.of_wr W128).1
  have K_p128 : Keep hI h128 [] := K_p121.wr W128 (Or.inr sz_b2)
  refine hst st128 ?_
  have A_b2_p128c : own_A Z h128 b2 .long 19 (fun i => .long (own_pt 19 i)) := own_A.congr A_b2_p128 (fun i hi => by rw [show Int32.toNatClampNeg (18 : Int32) = 18 from rfl]; exact own_pt_step 18 i _ (by decide))
  show F T128 (mkF m 129 #[.val (.int p1), .unset] [(.ref b2)])
  refine hst (fun t₀ k₀ => XS.astoreN X128.here hx rfl (hb hby d2_129) rfl rfl (l' := #[.val (.int p1), .val (.ref b2)]) rfl k₀) ?_
  show F T128 (mkF m 130 #[.val (.int p1), .val (.ref b2)] [])
  refine hst (fun t₀ k₀ => XS.aloadN X128.here hx rfl (hb hby d2_130) rfl rfl k₀) ?_
  show F T128 (mkF m 131 #[.val (.int p1), .val (.ref b2)] [(.ref b2)])
  refine hst (fun t₀ k₀ => XS.iloadN X128.here hx rfl (hb hby d2_131) rfl k₀) ?_
  show F T128 (mkF m 132 #[.val (.int p1), .val (.ref b2)] [(.int p1), (.ref b2)])
  refine hst (fun t₀ k₀ => own_laload X128 hx hZ e128 A_b2_p128c (own_idx p1 19 (by omega) (by omega)) (v := (.long (Int64.ofNat (10 ^ E)))) (by show Value.long (own_pt 19 p1.toNatClampNeg) = _; rw [own_clamp p1 E hE]; unfold own_pt; rw [if_pos (by omega)]) (g := (mkF m 132 #[.val (.int p1), .val (.ref b2)] [(.int p1), (.ref b2)])) rfl rfl (hb hby d2_132) t₀ k₀) ?_
  show F T128 (mkF m 133 #[.val (.int p1), .val (.ref b2)] [(.long (Int64.ofNat (10 ^ E)))])
  rw [hF]
  refine own_retJ X128 hx hret hlk (hb hby d2_133) (by decide) (by decide) ?_
  rw [e128]
  exact ⟨rfl, N128, K_p128⟩
theorem own_nar (x : Int32) (h1 : -128 ≤ x.toInt) (h2 : x.toInt < 128) : nar .byte x = x := by
  have h := c_i2b x
  apply Int32.toInt_inj.mp
  show x.toInt8.toInt32.toInt = x.toInt
  omega
theorem own_pre_step (G : Nat → Int32) (k i : Nat) (v : Int32) (hv : G k = v) : (if i = k then Value.int v else Value.int (own_pre G k i)) = Value.int (own_pre G (k + 1) i) := by
  unfold own_pre
  by_cases h : i = k
  · subst h; rw [if_pos rfl, if_pos (by omega), hv]
  · rw [if_neg h]
    by_cases g : i < k
    · rw [if_pos g, if_pos (by omega)]
    · rw [if_neg g, if_neg (by omega)]
theorem own_pre0 (G : Nat → Int32) (i : Nat) : (Value.int (0 : Int32)) = Value.int (own_pre G 0 i) := by unfold own_pre; rw [if_neg (by omega)]
theorem own_ofNat (n : Nat) (h : n < 2147483648) : (Int32.ofNat n).toInt = n := Int32.toInt_ofNat_of_lt h
theorem own_p0 (E : Nat) (h : E ≤ 18) : Int64.ofNat (10 ^ E) ≠ 0 := fun q => by
  have h1 := own_pow E h
  have h2 : 0 < 10 ^ E := Nat.pow_pos (by decide)
  rw [q, show (0 : Int64).toInt = 0 by decide] at h1
  generalize 10 ^ E = P at h1 h2
  omega
theorem own_pm (E : Nat) (h : E ≤ 18) : Int64.ofNat (10 ^ E) ≠ -1 := fun q => by
  have h1 := own_pow E h
  rw [q, show (-1 : Int64).toInt = -1 by decide] at h1
  generalize 10 ^ E = P at h1
  omega
theorem own_udiv (u : Int64) (U E : Nat) (hu : u.toInt = U) (h : E ≤ 18) : (u / Int64.ofNat (10 ^ E)).toInt = ((U / 10 ^ E : Nat) : Int) := by
  rw [(c_ldiv u _ _ (own_pow E h) (own_pm E h)).1 (by omega), hu]; exact (Int.natCast_ediv U (10 ^ E)).symm
theorem own_umod (u : Int64) (U E : Nat) (hu : u.toInt = U) (h : E ≤ 18) : (u - (u / Int64.ofNat (10 ^ E)) * Int64.ofNat (10 ^ E)).toInt = ((U % 10 ^ E : Nat) : Int) := by
  rw [(c_lrem u _ _ (own_pow E h)).1 (by omega), hu]; exact (Int.natCast_emod U (10 ^ E)).symm
theorem d1_0 : decode method_3_code 0 = .ok (.iload_n 0, 1) := by decide +kernel
theorem d1_1 : decode method_3_code 1 = .ok (.iload_n 1, 1) := by decide +kernel
theorem d1_2 : decode method_3_code 2 = .ok (.if_icmp .lt 8, 3) := by decide +kernel
theorem d1_5 : decode method_3_code 5 = .ok (.iload_n 0, 1) := by decide +kernel
theorem d1_6 : decode method_3_code 6 = .ok (.iload_n 3, 1) := by decide +kernel
theorem d1_7 : decode method_3_code 7 = .ok (.if_icmp .lt 6, 3) := by decide +kernel
theorem d1_10 : decode method_3_code 10 = .ok (.iload 10, 2) := by decide +kernel
theorem d1_12 : decode method_3_code 12 = .ok (.ireturn, 1) := by decide +kernel
theorem d1_13 : decode method_3_code 13 = .ok (.iload_n 0, 1) := by decide +kernel
theorem d1_14 : decode method_3_code 14 = .ok (.iload_n 2, 1) := by decide +kernel
theorem d1_15 : decode method_3_code 15 = .ok (.if_icmp .ge 6, 3) := by decide +kernel
theorem d1_18 : decode method_3_code 18 = .ok (.bipush 45, 2) := by decide +kernel
theorem d1_20 : decode method_3_code 20 = .ok (.ireturn, 1) := by decide +kernel
theorem d1_21 : decode method_3_code 21 = .ok (.iload_n 0, 1) := by decide +kernel
theorem d1_22 : decode method_3_code 22 = .ok (.iload_n 2, 1) := by decide +kernel
theorem d1_23 : decode method_3_code 23 = .ok (.isub, 1) := by decide +kernel
theorem d1_24 : decode method_3_code 24 = .ok (.istore 11, 2) := by decide +kernel
theorem d1_26 : decode method_3_code 26 = .ok (.iload 9, 2) := by decide +kernel
theorem d1_28 : decode method_3_code 28 = .ok (.ifCond .eq 13, 3) := by decide +kernel
theorem d1_31 : decode method_3_code 31 = .ok (.iload 11, 2) := by decide +kernel
theorem d1_33 : decode method_3_code 33 = .ok (.iload 7, 2) := by decide +kernel
theorem d1_35 : decode method_3_code 35 = .ok (.if_icmp .ne 6, 3) := by decide +kernel
theorem d1_38 : decode method_3_code 38 = .ok (.iload 8, 2) := by decide +kernel
theorem d1_40 : decode method_3_code 40 = .ok (.ireturn, 1) := by decide +kernel
theorem d1_41 : decode method_3_code 41 = .ok (.bipush 48, 2) := by decide +kernel
theorem d1_43 : decode method_3_code 43 = .ok (.lload 5, 2) := by decide +kernel
theorem d1_45 : decode method_3_code 45 = .ok (.iload 4, 2) := by decide +kernel
theorem d1_47 : decode method_3_code 47 = .ok (.iconst 1, 1) := by decide +kernel
theorem d1_48 : decode method_3_code 48 = .ok (.isub, 1) := by decide +kernel
theorem d1_49 : decode method_3_code 49 = .ok (.iload 11, 2) := by decide +kernel
theorem d1_51 : decode method_3_code 51 = .ok (.isub, 1) := by decide +kernel
theorem d1_52 : decode method_3_code 52 = .ok (.invokestatic 22, 3) := by decide +kernel
theorem d1_55 : decode method_3_code 55 = .ok (.ldiv, 1) := by decide +kernel
theorem d1_56 : decode method_3_code 56 = .ok (.ldc2_w 30, 3) := by decide +kernel
theorem d1_59 : decode method_3_code 59 = .ok (.lrem, 1) := by decide +kernel
theorem d1_60 : decode method_3_code 60 = .ok (.l2i, 1) := by decide +kernel
theorem d1_61 : decode method_3_code 61 = .ok (.iadd, 1) := by decide +kernel
theorem d1_62 : decode method_3_code 62 = .ok (.i2b, 1) := by decide +kernel
theorem d1_63 : decode method_3_code 63 = .ok (.ireturn, 1) := by decide +kernel
theorem pn_1 : plainFor (⟨"com/example/leafline/leafline/table/IntegerValueParsePlainPinLaw", "cell", "(IIIIIJIBZB)B"⟩ : MethodName) = true := plainFor_of_name (by first | (simp [plainName, overriddenIn]; done) | decide +kernel)
theorem pd_0 : parseMethodDescriptor "(I)J" = some ⟨[.int], some .long⟩ := by decide +kernel
theorem ef_1 (m : MethodId) (iv : Int32) (fv : Int32) (sv : Int32) (tv : Int32) (nv : Int32) (uq : Int64) (qv : Int32) (cv : Int32) (rv : Int32) (pv : Int32) : entryFrame m #[(.int iv), (.int fv), (.int sv), (.int tv), (.int nv), (.long uq), (.int qv), (.int cv), (.int rv), (.int pv)] 12 = mkF m 0 #[.val (.int iv), .val (.int fv), .val (.int sv), .val (.int tv), .val (.int nv), .val (.long uq), .second, .val (.int qv), .val (.int cv), .val (.int rv), .val (.int pv), .unset] [] := by first | (simp [entryFrame, mkF, argsToLocals, Value.category]; done) | rfl
def Q1 (Z : State) (iv : Int32) (fv : Int32) (sv : Int32) (tv : Int32) (nv : Int32) (uq : Int64) (qv : Int32) (cv : Int32) (rv : Int32) (pv : Int32) (i : Nat) (f : Nat) (sn : Nat) (t : Nat) (n : Nat) (Un : Nat) (q : Nat) (hI : Heap) (n0 : Nat) (v : Option Value) (h : Heap) (L : List Loc) : Prop := v = some (.int (nar .byte (own_cellv i f sn t n Un q cv rv pv))) ∧ Fr n0 L ∧ Keep hI h []
set_option maxRecDepth 65536 in
set_option maxHeartbeats 40000000 in
theorem rm1 (l : Launch) (Z : State) (a0 : Array Value) (hw : ∀ d ∈ tables_1, d.before a0 Z = true) (ws : List Jvm.Cond) (iv : Int32) (fv : Int32) (sv : Int32) (tv : Int32) (nv : Int32) (uq : Int64) (qv : Int32) (cv : Int32) (rv : Int32) (pv : Int32) (i : Nat) (f : Nat) (sn : Nat) (t : Nat) (n : Nat) (Un : Nat) (q : Nat) (hI : Heap) (n0 : Nat) (Z0 : n0 ≤ hI.size) (hi : iv.toInt = i) (hf : fv.toInt = f) (hs : sv.toInt = sn) (ht : tv.toInt = t) (hn : nv.toInt = n) (hU : uq.toInt = Un) (hq : qv.toInt = q) (hts : t = sn + n) (hn2 : n < 20) (hs2 : sn ≤ 2) :
    MetFree l (⟨"com/example/leafline/leafline/table/IntegerValueParsePlainPinLaw", "cell", "(IIIIIJIBZB)B"⟩ : MethodName) (head1 (Jvm.Cond.code (⟨"com/example/leafline/leafline/table/IntegerValueParsePlainPinLaw", "cell", "(IIIIIJIBZB)B"⟩ : MethodName) method_3_code 12 (some .byte) :: ws) ({ frames := 1, cells := 1, slots := 19, locals := 16 } : Room)) (fun xa xU => xa = #[(.int iv), (.int fv), (.int sv), (.int tv), (.int nv), (.long uq), (.int qv), (.int cv), (.int rv), (.int pv)] ∧ Z.Warmed39 xU.vm ∧ xU.heap = hI) (fun _ _ _ _ _ => True) (fun _ xU xo xU' => ∃ xv xL, xo = .returned xv ∧ Q1 Z iv fv sv tv nv uq qv cv rv pv i f sn t n Un q hI n0 xv xU'.heap xL ∧ FrameEnd xU xo xU' xL ({ frames := 1, cells := 1, slots := 19, locals := 16 } : Room).cells ({ frames := 1, cells := 1, slots := 19, locals := 16 } : Room).slots) := by
  refine own_body pn_1 ?_
  intro p e s m below meth c s₁ hx hby hml hown hnm hret hlk hZ XI eI
  obtain ⟨F, hF⟩ : ∃ F : State → JFrame → Prop, F = own_Fin p.tables e below s ({ frames := 1, cells := 1, slots := 19, locals := 16 } : Room) (Q1 Z iv fv sv tv nv uq qv cv rv pv i f sn t n Un q hI n0) := ⟨_, rfl⟩
  have hst : ∀ {T T' : State} {g g' : JFrame}, (∀ t, Steps p.tables e below (T'.setTop g') t → Steps p.tables e below (T.setTop g) t) → F T' g' → F T g := by subst hF; exact own_st
  have NI := Fr.nil n0
  show own_Fin p.tables e below s ({ frames := 1, cells := 1, slots := 19, locals := 16 } : Room) (Q1 Z iv fv sv tv nv uq qv cv rv pv i f sn t n Un q hI n0) s₁ (entryFrame m #[(.int iv), (.int fv), (.int sv), (.int tv), (.int nv), (.long uq), (.int qv), (.int cv), (.int rv), (.int pv)] 12)
  rw [← hF]
  rw [ef_1]
  show F s₁ (mkF m 0 #[.val (.int iv), .val (.int fv), .val (.int sv), .val (.int tv), .val (.int nv), .val (.long uq), .second, .val (.int qv), .val (.int cv), .val (.int rv), .val (.int pv), .unset] [])
  have k0 : (0 : Int32).toInt = 0 := by decide
  have k1 : (1 : Int32).toInt = 1 := by decide
  have k48 : (48 : Int32).toInt = 48 := by decide
  have k10 : (10 : Int32).toInt = 10 := by decide
  refine hst (fun t₀ k₀ => XS.iloadN XI.here hx rfl (hb hby d1_0) rfl k₀) ?_
  show F s₁ (mkF m 1 #[.val (.int iv), .val (.int fv), .val (.int sv), .val (.int tv), .val (.int nv), .val (.long uq), .second, .val (.int qv), .val (.int cv), .val (.int rv), .val (.int pv), .unset] [(.int iv)])
  refine hst (fun t₀ k₀ => XS.iloadN XI.here hx rfl (hb hby d1_1) rfl k₀) ?_
  show F s₁ (mkF m 2 #[.val (.int iv), .val (.int fv), .val (.int sv), .val (.int tv), .val (.int nv), .val (.long uq), .second, .val (.int qv), .val (.int cv), .val (.int rv), .val (.int pv), .unset] [(.int fv), (.int iv)])
  by_cases hc2 : iv < fv
  · -- pc 2: taken
    refine hst (fun t₀ k₀ => XS.icmpYes XI.here hx rfl (pc0 := 2) (pc' := 10) rfl (hb hby d1_2) rfl (tlt hc2).1 (by decide) (by decide) k₀) ?_
    show F s₁ (mkF m 10 #[.val (.int iv), .val (.int fv), .val (.int sv), .val (.int tv), .val (.int nv), .val (.long uq), .second, .val (.int qv), .val (.int cv), .val (.int rv), .val (.int pv), .unset] [])
    have q2 : i < f := by rw [own_lt32] at hc2; omega
    refine hst (fun t₀ k₀ => XS.iload XI.here hx rfl (hb hby d1_10) rfl k₀) ?_
    show F s₁ (mkF m 12 #[.val (.int iv), .val (.int fv), .val (.int sv), .val (.int tv), .val (.int nv), .val (.long uq), .second, .val (.int qv), .val (.int cv), .val (.int rv), .val (.int pv), .unset] [(.int pv)])
    rw [hF]
    refine own_retN XI hx hret (by simp) hlk (hb hby d1_12) (by decide) (by decide) ?_
    rw [eI]
    exact ⟨(by unfold own_cellv; first | rw [if_pos q2] | rw [if_neg q2, if_pos q7]), NI, (Keep.refl hI [])⟩
  · -- pc 2: not taken
    refine hst (fun t₀ k₀ => XS.icmpNo XI.here hx rfl (hb hby d1_2) rfl (flt hc2).1 k₀) ?_
    show F s₁ (mkF m 5 #[.val (.int iv), .val (.int fv), .val (.int sv), .val (.int tv), .val (.int nv), .val (.long uq), .second, .val (.int qv), .val (.int cv), .val (.int rv), .val (.int pv), .unset] [])
    have q2 : ¬ i < f := by rw [own_lt32] at hc2; omega
    refine hst (fun t₀ k₀ => XS.iloadN XI.here hx rfl (hb hby d1_5) rfl k₀) ?_
    show F s₁ (mkF m 6 #[.val (.int iv), .val (.int fv), .val (.int sv), .val (.int tv), .val (.int nv), .val (.long uq), .second, .val (.int qv), .val (.int cv), .val (.int rv), .val (.int pv), .unset] [(.int iv)])
    refine hst (fun t₀ k₀ => XS.iloadN XI.here hx rfl (hb hby d1_6) rfl k₀) ?_
    show F s₁ (mkF m 7 #[.val (.int iv), .val (.int fv), .val (.int sv), .val (.int tv), .val (.int nv), .val (.long uq), .second, .val (.int qv), .val (.int cv), .val (.int rv), .val (.int pv), .unset] [(.int tv), (.int iv)])
    by_cases hc7 : iv < tv
    · -- pc 7: taken
      refine hst (fun t₀ k₀ => XS.icmpYes XI.here hx rfl (pc0 := 7) (pc' := 13) rfl (hb hby d1_7) rfl (tlt hc7).1 (by decide) (by decide) k₀) ?_
      show F s₁ (mkF m 13 #[.val (.int iv), .val (.int fv), .val (.int sv), .val (.int tv), .val (.int nv), .val (.long uq), .second, .val (.int qv), .val (.int cv), .val (.int rv), .val (.int pv), .unset] [])
      have q7 : i < t := by rw [own_lt32] at hc7; omega
      refine hst (fun t₀ k₀ => XS.iloadN XI.here hx rfl (hb hby d1_13) rfl k₀) ?_
      show F s₁ (mkF m 14 #[.val (.int iv), .val (.int fv), .val (.int sv), .val (.int tv), .val (.int nv), .val (.long uq), .second, .val (.int qv), .val (.int cv), .val (.int rv), .val (.int pv), .unset] [(.int iv)])
      refine hst (fun t₀ k₀ => XS.iloadN XI.here hx rfl (hb hby d1_14) rfl k₀) ?_
      show F s₁ (mkF m 15 #[.val (.int iv), .val (.int fv), .val (.int sv), .val (.int tv), .val (.int nv), .val (.long uq), .second, .val (.int qv), .val (.int cv), .val (.int rv), .val (.int pv), .unset] [(.int sv), (.int iv)])
      by_cases hc15 : iv < sv
      · -- pc 15: not taken
        refine hst (fun t₀ k₀ => XS.icmpNo XI.here hx rfl (hb hby d1_15) rfl (tlt hc15).2.1 k₀) ?_
        show F s₁ (mkF m 18 #[.val (.int iv), .val (.int fv), .val (.int sv), .val (.int tv), .val (.int nv), .val (.long uq), .second, .val (.int qv), .val (.int cv), .val (.int rv), .val (.int pv), .unset] [])
        have q15 : i < sn := by rw [own_lt32] at hc15; omega
        refine hst (fun t₀ k₀ => XS.bipush XI.here hx rfl (hb hby d1_18) k₀) ?_
        show F s₁ (mkF m 20 #[.val (.int iv), .val (.int fv), .val (.int sv), .val (.int tv), .val (.int nv), .val (.long uq), .second, .val (.int qv), .val (.int cv), .val (.int rv), .val (.int pv), .unset] [(.int (45 : Int32))])
        rw [hF]
        refine own_retN XI hx hret (by simp) hlk (hb hby d1_20) (by decide) (by decide) ?_
        rw [eI]
        exact ⟨(by unfold own_cellv; rw [if_neg q2, if_neg (not_not_intro q7), if_pos q15]), NI, (Keep.refl hI [])⟩
      · -- pc 15: taken
        refine hst (fun t₀ k₀ => XS.icmpYes XI.here hx rfl (pc0 := 15) (pc' := 21) rfl (hb hby d1_15) rfl (flt hc15).2.1 (by decide) (by decide) k₀) ?_
        show F s₁ (mkF m 21 #[.val (.int iv), .val (.int fv), .val (.int sv), .val (.int tv), .val (.int nv), .val (.long uq), .second, .val (.int qv), .val (.int cv), .val (.int rv), .val (.int pv), .unset] [])
        have q15 : ¬ i < sn := by rw [own_lt32] at hc15; omega
        refine hst (fun t₀ k₀ => XS.iloadN XI.here hx rfl (hb hby d1_21) rfl k₀) ?_
        show F s₁ (mkF m 22 #[.val (.int iv), .val (.int fv), .val (.int sv), .val (.int tv), .val (.int nv), .val (.long uq), .second, .val (.int qv), .val (.int cv), .val (.int rv), .val (.int pv), .unset] [(.int iv)])
        refine hst (fun t₀ k₀ => XS.iloadN XI.here hx rfl (hb hby d1_22) rfl k₀) ?_
        show F s₁ (mkF m 23 #[.val (.int iv), .val (.int fv), .val (.int sv), .val (.int tv), .val (.int nv), .val (.long uq), .second, .val (.int qv), .val (.int cv), .val (.int rv), .val (.int pv), .unset] [(.int sv), (.int iv)])
        refine hst (fun t₀ k₀ => XS.isub XI.here hx rfl (hb hby d1_23) rfl k₀) ?_
        show F s₁ (mkF m 24 #[.val (.int iv), .val (.int fv), .val (.int sv), .val (.int tv), .val (.int nv), .val (.long uq), .second, .val (.int qv), .val (.int cv), .val (.int rv), .val (.int pv), .unset] [(.int (iv - sv))])
        generalize hkv : (iv - sv) = kv
        show F s₁ (mkF m 24 #[.val (.int iv), .val (.int fv), .val (.int sv), .val (.int tv), .val (.int nv), .val (.long uq), .second, .val (.int qv), .val (.int cv), .val (.int rv), .val (.int pv), .unset] [(.int kv)])
        have kkv : kv.toInt = ((i - sn : Nat) : Int) := by have h1 := c_isub iv sv; have h2 := rng32 kv; rw [hkv] at h1; omega
        refine hst (fun t₀ k₀ => XS.istore XI.here hx rfl (hb hby d1_24) rfl (l' := #[.val (.int iv), .val (.int fv), .val (.int sv), .val (.int tv), .val (.int nv), .val (.long uq), .second, .val (.int qv), .val (.int cv), .val (.int rv), .val (.int pv), .val (.int kv)]) rfl k₀) ?_
        show F s₁ (mkF m 26 #[.val (.int iv), .val (.int fv), .val (.int sv), .val (.int tv), .val (.int nv), .val (.long uq), .second, .val (.int qv), .val (.int cv), .val (.int rv), .val (.int pv), .val (.int kv)] [])
        refine hst (fun t₀ k₀ => XS.iload XI.here hx rfl (hb hby d1_26) rfl k₀) ?_
        show F s₁ (mkF m 28 #[.val (.int iv), .val (.int fv), .val (.int sv), .val (.int tv), .val (.int nv), .val (.long uq), .second, .val (.int qv), .val (.int cv), .val (.int rv), .val (.int pv), .val (.int kv)] [(.int rv)])
        by_cases hc28 : rv = (0 : Int32)
        · -- pc 28: taken
          refine hst (fun t₀ k₀ => XS.ifYes XI.here hx rfl (pc0 := 28) (pc' := 41) rfl (hb hby d1_28) rfl ((if0 _ _).trans (teq hc28).1) (by decide) (by decide) k₀) ?_
          show F s₁ (mkF m 41 #[.val (.int iv), .val (.int fv), .val (.int sv), .val (.int tv), .val (.int nv), .val (.long uq), .second, .val (.int qv), .val (.int cv), .val (.int rv), .val (.int pv), .val (.int kv)] [])
          have q35 : rv = 0 ∨ ¬ i - sn = q := Or.inl hc28
          refine hst (fun t₀ k₀ => XS.bipush XI.here hx rfl (hb hby d1_41) k₀) ?_
          show F s₁ (mkF m 43 #[.val (.int iv), .val (.int fv), .val (.int sv), .val (.int tv), .val (.int nv), .val (.long uq), .second, .val (.int qv), .val (.int cv), .val (.int rv), .val (.int pv), .val (.int kv)] [(.int (48 : Int32))])
          refine hst (fun t₀ k₀ => XS.lload XI.here hx rfl (hb hby d1_43) rfl k₀) ?_
          show F s₁ (mkF m 45 #[.val (.int iv), .val (.int fv), .val (.int sv), .val (.int tv), .val (.int nv), .val (.long uq), .second, .val (.int qv), .val (.int cv), .val (.int rv), .val (.int pv), .val (.int kv)] [(.long uq), (.int (48 : Int32))])
          refine hst (fun t₀ k₀ => XS.iload XI.here hx rfl (hb hby d1_45) rfl k₀) ?_
          show F s₁ (mkF m 47 #[.val (.int iv), .val (.int fv), .val (.int sv), .val (.int tv), .val (.int nv), .val (.long uq), .second, .val (.int qv), .val (.int cv), .val (.int rv), .val (.int pv), .val (.int kv)] [(.int nv), (.long uq), (.int (48 : Int32))])
          refine hst (fun t₀ k₀ => XS.iconst XI.here hx rfl (hb hby d1_47) k₀) ?_
          show F s₁ (mkF m 48 #[.val (.int iv), .val (.int fv), .val (.int sv), .val (.int tv), .val (.int nv), .val (.long uq), .second, .val (.int qv), .val (.int cv), .val (.int rv), .val (.int pv), .val (.int kv)] [(.int (1 : Int32)), (.int nv), (.long uq), (.int (48 : Int32))])
          refine hst (fun t₀ k₀ => XS.isub XI.here hx rfl (hb hby d1_48) rfl k₀) ?_
          show F s₁ (mkF m 49 #[.val (.int iv), .val (.int fv), .val (.int sv), .val (.int tv), .val (.int nv), .val (.long uq), .second, .val (.int qv), .val (.int cv), .val (.int rv), .val (.int pv), .val (.int kv)] [(.int (nv - (1 : Int32))), (.long uq), (.int (48 : Int32))])
          refine hst (fun t₀ k₀ => XS.iload XI.here hx rfl (hb hby d1_49) rfl k₀) ?_
          show F s₁ (mkF m 51 #[.val (.int iv), .val (.int fv), .val (.int sv), .val (.int tv), .val (.int nv), .val (.long uq), .second, .val (.int qv), .val (.int cv), .val (.int rv), .val (.int pv), .val (.int kv)] [(.int kv), (.int (nv - (1 : Int32))), (.long uq), (.int (48 : Int32))])
          refine hst (fun t₀ k₀ => XS.isub XI.here hx rfl (hb hby d1_51) rfl k₀) ?_
          show F s₁ (mkF m 52 #[.val (.int iv), .val (.int fv), .val (.int sv), .val (.int tv), .val (.int nv), .val (.long uq), .second, .val (.int qv), .val (.int cv), .val (.int rv), .val (.int pv), .val (.int kv)] [(.int ((nv - (1 : Int32)) - kv)), (.long uq), (.int (48 : Int32))])
          generalize hev : ((nv - (1 : Int32)) - kv) = ev
          show F s₁ (mkF m 52 #[.val (.int iv), .val (.int fv), .val (.int sv), .val (.int tv), .val (.int nv), .val (.long uq), .second, .val (.int qv), .val (.int cv), .val (.int rv), .val (.int pv), .val (.int kv)] [(.int ev), (.long uq), (.int (48 : Int32))])
          have kev : ev.toInt = ((n - 1 - (i - sn) : Nat) : Int) := by have h1 := c_isub nv 1; have h2 := rng32 (nv - 1); have h3 := c_isub (nv - 1) kv; have h4 := rng32 ev; rw [hev] at h3; omega
          obtain ⟨v52, T52, Lc52, X52, hQ52, st52⟩ := own_callS XI hx hZ hown (y := (⟨"com/example/leafline/leafline/table/IntegerValueParsePlainPinLaw", "pow10", "(I)J"⟩ : MethodName)) (hw _ (List.mem_of_getElem? (i := 7) rfl)) (hw _ (List.mem_of_getElem? (i := 8) rfl)) (hw _ (List.mem_of_getElem? (i := 5) rfl)) (hw _ (List.mem_of_getElem? (i := 9) rfl)) (by decide) eI (rm2 l Z a0 hw [] ev (n - 1 - (i - sn)) hI n0 Z0 kev (by omega)) (by decide) (by decide) (g := (mkF m 52 #[.val (.int iv), .val (.int fv), .val (.int sv), .val (.int tv), .val (.int nv), .val (.long uq), .second, .val (.int qv), .val (.int cv), .val (.int rv), .val (.int pv), .val (.int kv)] [(.int ev), (.long uq), (.int (48 : Int32))])) rfl (by rw [hml]; rfl) (argsL := [(.int ev)]) (rest := [(.long uq), (.int (48 : Int32))]) (lenOf pd_0 rfl) rfl rfl (W := 3) (by show 2 * 0 + _ ≤ _; exact Nat.le_of_eq rfl) (hb hby d1_52) (by decide) (by decide)
          obtain ⟨rfl, Nq52, K52⟩ := hQ52
          have N52 := Fr.app NI Nq52
          have Z0_p52 : n0 ≤ T52.heap.size := Nat.le_trans Z0 K52.1
          have K_p52 : Keep hI T52.heap [] := (Keep.refl hI []).trans K52 (fun x hx' => absurd hx' List.not_mem_nil)
          refine hst st52 ?_
          show F T52 (mkF m 55 #[.val (.int iv), .val (.int fv), .val (.int sv), .val (.int tv), .val (.int nv), .val (.long uq), .second, .val (.int qv), .val (.int cv), .val (.int rv), .val (.int pv), .val (.int kv)] [(.long (Int64.ofNat (10 ^ (n - 1 - (i - sn))))), (.long uq), (.int (48 : Int32))])
          refine hst (fun t₀ k₀ => XS.ldiv X52.here hx rfl (hb hby d1_55) rfl (own_p0 _ (by omega)) k₀) ?_
          show F T52 (mkF m 56 #[.val (.int iv), .val (.int fv), .val (.int sv), .val (.int tv), .val (.int nv), .val (.long uq), .second, .val (.int qv), .val (.int cv), .val (.int rv), .val (.int pv), .val (.int kv)] [(.long (uq / (Int64.ofNat (10 ^ (n - 1 - (i - sn)))))), (.int (48 : Int32))])
          generalize hdq : (uq / (Int64.ofNat (10 ^ (n - 1 - (i - sn))))) = dq
          show F T52 (mkF m 56 #[.val (.int iv), .val (.int fv), .val (.int sv), .val (.int tv), .val (.int nv), .val (.long uq), .second, .val (.int qv), .val (.int cv), .val (.int rv), .val (.int pv), .val (.int kv)] [(.long dq), (.int (48 : Int32))])
          have kdq : dq.toInt = ((Un / 10 ^ (n - 1 - (i - sn)) : Nat) : Int) := by rw [← hdq]; exact own_udiv uq Un _ hU (by omega)
          generalize hD : Un / 10 ^ (n - 1 - (i - sn)) = D at kdq
          refine hst (fun t₀ k₀ => X52.ldc2J hx hown (mvT hZ (hw _ (List.mem_of_getElem? (i := 11) rfl))) (g := (mkF m 56 #[.val (.int iv), .val (.int fv), .val (.int sv), .val (.int tv), .val (.int nv), .val (.long uq), .second, .val (.int qv), .val (.int cv), .val (.int rv), .val (.int pv), .val (.int kv)] [(.long dq), (.int (48 : Int32))])) rfl (hb hby d1_56) k₀) ?_
          show F T52 (mkF m 59 #[.val (.int iv), .val (.int fv), .val (.int sv), .val (.int tv), .val (.int nv), .val (.long uq), .second, .val (.int qv), .val (.int cv), .val (.int rv), .val (.int pv), .val (.int kv)] [(.long (10 : Int64)), (.long dq), (.int (48 : Int32))])
          refine hst (fun t₀ k₀ => XS.lrem X52.here hx rfl (hb hby d1_59) rfl (by decide) k₀) ?_
          show F T52 (mkF m 60 #[.val (.int iv), .val (.int fv), .val (.int sv), .val (.int tv), .val (.int nv), .val (.long uq), .second, .val (.int qv), .val (.int cv), .val (.int rv), .val (.int pv), .val (.int kv)] [(.long (dq - (dq / (10 : Int64)) * (10 : Int64))), (.int (48 : Int32))])
          generalize hrm : (dq - (dq / (10 : Int64)) * (10 : Int64)) = rm
          show F T52 (mkF m 60 #[.val (.int iv), .val (.int fv), .val (.int sv), .val (.int tv), .val (.int nv), .val (.long uq), .second, .val (.int qv), .val (.int cv), .val (.int rv), .val (.int pv), .val (.int kv)] [(.long rm), (.int (48 : Int32))])
          have krm : rm.toInt = ((D % 10 : Nat) : Int) := by rw [← hrm, (c_lrem dq 10 10 (by decide)).1 (by omega), kdq]; first | done | rfl | omega
          refine hst (fun t₀ k₀ => XS.l2i X52.here hx rfl (hb hby d1_60) rfl k₀) ?_
          show F T52 (mkF m 61 #[.val (.int iv), .val (.int fv), .val (.int sv), .val (.int tv), .val (.int nv), .val (.long uq), .second, .val (.int qv), .val (.int cv), .val (.int rv), .val (.int pv), .val (.int kv)] [(.int (rm.toInt32)), (.int (48 : Int32))])
          generalize hdi : (rm.toInt32) = di
          show F T52 (mkF m 61 #[.val (.int iv), .val (.int fv), .val (.int sv), .val (.int tv), .val (.int nv), .val (.long uq), .second, .val (.int qv), .val (.int cv), .val (.int rv), .val (.int pv), .val (.int kv)] [(.int di), (.int (48 : Int32))])
          have kdi : di.toInt = ((D % 10 : Nat) : Int) := by have h1 := c_l2i rm; have h2 := rng32 di; rw [hdi] at h1; omega
          refine hst (fun t₀ k₀ => XS.iadd X52.here hx rfl (hb hby d1_61) rfl k₀) ?_
          show F T52 (mkF m 62 #[.val (.int iv), .val (.int fv), .val (.int sv), .val (.int tv), .val (.int nv), .val (.long uq), .second, .val (.int qv), .val (.int cv), .val (.int rv), .val (.int pv), .val (.int kv)] [(.int ((48 : Int32) + di))])
          generalize hbv : ((48 : Int32) + di) = bv
          show F T52 (mkF m 62 #[.val (.int iv), .val (.int fv), .val (.int sv), .val (.int tv), .val (.int nv), .val (.long uq), .second, .val (.int qv), .val (.int cv), .val (.int rv), .val (.int pv), .val (.int kv)] [(.int bv)])
          have kbv : bv.toInt = ((48 + D % 10 : Nat) : Int) := by have h1 := c_iadd 48 di; have h2 := rng32 bv; rw [hbv] at h1; omega
          refine hst (fun t₀ k₀ => XS.i2b X52.here hx rfl (hb hby d1_62) rfl k₀) ?_
          show F T52 (mkF m 63 #[.val (.int iv), .val (.int fv), .val (.int sv), .val (.int tv), .val (.int nv), .val (.long uq), .second, .val (.int qv), .val (.int cv), .val (.int rv), .val (.int pv), .val (.int kv)] [(.int (bv.toInt8.toInt32))])
          generalize hcb : (bv.toInt8.toInt32) = cb
          show F T52 (mkF m 63 #[.val (.int iv), .val (.int fv), .val (.int sv), .val (.int tv), .val (.int nv), .val (.long uq), .second, .val (.int qv), .val (.int cv), .val (.int rv), .val (.int pv), .val (.int kv)] [(.int cb)])
          have kcb : cb = Int32.ofNat (48 + D % 10) := by
            apply Int32.toInt_inj.mp; rw [own_ofNat _ (by omega)]
            have h1 := c_i2b bv; rw [hcb] at h1; omega
          rw [hF]
          refine own_retN X52 hx hret (by simp) hlk (hb hby d1_63) (by decide) (by decide) ?_
          exact ⟨(by unfold own_cellv; rw [if_neg q2, if_neg (not_not_intro q7), if_neg q15, if_pos q35, hD, kcb]), N52, K_p52⟩
        · -- pc 28: not taken
          refine hst (fun t₀ k₀ => XS.ifNo XI.here hx rfl (hb hby d1_28) rfl ((if0 _ _).trans (feq hc28).1) k₀) ?_
          show F s₁ (mkF m 31 #[.val (.int iv), .val (.int fv), .val (.int sv), .val (.int tv), .val (.int nv), .val (.long uq), .second, .val (.int qv), .val (.int cv), .val (.int rv), .val (.int pv), .val (.int kv)] [])
          refine hst (fun t₀ k₀ => XS.iload XI.here hx rfl (hb hby d1_31) rfl k₀) ?_
          show F s₁ (mkF m 33 #[.val (.int iv), .val (.int fv), .val (.int sv), .val (.int tv), .val (.int nv), .val (.long uq), .second, .val (.int qv), .val (.int cv), .val (.int rv), .val (.int pv), .val (.int kv)] [(.int kv)])
          refine hst (fun t₀ k₀ => XS.iload XI.here hx rfl (hb hby d1_33) rfl k₀) ?_
          show F s₁ (mkF m 35 #[.val (.int iv), .val (.int fv), .val (.int sv), .val (.int tv), .val (.int nv), .val (.long uq), .second, .val (.int qv), .val (.int cv), .val (.int rv), .val (.int pv), .val (.int kv)] [(.int qv), (.int kv)])
          by_cases hc35 : kv = qv
          · -- pc 35: not taken
            refine hst (fun t₀ k₀ => XS.icmpNo XI.here hx rfl (hb hby d1_35) rfl (teq hc35).2 k₀) ?_
            show F s₁ (mkF m 38 #[.val (.int iv), .val (.int fv), .val (.int sv), .val (.int tv), .val (.int nv), .val (.long uq), .second, .val (.int qv), .val (.int cv), .val (.int rv), .val (.int pv), .val (.int kv)] [])
            have q35 : ¬ (rv = 0 ∨ ¬ i - sn = q) := by
              rw [own_eq32] at hc35; rintro (q' | q')
              · exact hc28 q'
              · omega
            refine hst (fun t₀ k₀ => XS.iload XI.here hx rfl (hb hby d1_38) rfl k₀) ?_
            show F s₁ (mkF m 40 #[.val (.int iv), .val (.int fv), .val (.int sv), .val (.int tv), .val (.int nv), .val (.long uq), .second, .val (.int qv), .val (.int cv), .val (.int rv), .val (.int pv), .val (.int kv)] [(.int cv)])
            rw [hF]
            refine own_retN XI hx hret (by simp) hlk (hb hby d1_40) (by decide) (by decide) ?_
            rw [eI]
            exact ⟨(by unfold own_cellv; rw [if_neg q2, if_neg (not_not_intro q7), if_neg q15, if_neg q35]), NI, (Keep.refl hI [])⟩
          · -- pc 35: taken
            refine hst (fun t₀ k₀ => XS.icmpYes XI.here hx rfl (pc0 := 35) (pc' := 41) rfl (hb hby d1_35) rfl (feq hc35).2 (by decide) (by decide) k₀) ?_
            show F s₁ (mkF m 41 #[.val (.int iv), .val (.int fv), .val (.int sv), .val (.int tv), .val (.int nv), .val (.long uq), .second, .val (.int qv), .val (.int cv), .val (.int rv), .val (.int pv), .val (.int kv)] [])
            have q35 : rv = 0 ∨ ¬ i - sn = q := Or.inr (fun q' => hc35 ((own_eq32 _ _).mpr (by omega)))
            refine hst (fun t₀ k₀ => XS.bipush XI.here hx rfl (hb hby d1_41) k₀) ?_
            show F s₁ (mkF m 43 #[.val (.int iv), .val (.int fv), .val (.int sv), .val (.int tv), .val (.int nv), .val (.long uq), .second, .val (.int qv), .val (.int cv), .val (.int rv), .val (.int pv), .val (.int kv)] [(.int (48 : Int32))])
            refine hst (fun t₀ k₀ => XS.lload XI.here hx rfl (hb hby d1_43) rfl k₀) ?_
            show F s₁ (mkF m 45 #[.val (.int iv), .val (.int fv), .val (.int sv), .val (.int tv), .val (.int nv), .val (.long uq), .second, .val (.int qv), .val (.int cv), .val (.int rv), .val (.int pv), .val (.int kv)] [(.long uq), (.int (48 : Int32))])
            refine hst (fun t₀ k₀ => XS.iload XI.here hx rfl (hb hby d1_45) rfl k₀) ?_
            show F s₁ (mkF m 47 #[.val (.int iv), .val (.int fv), .val (.int sv), .val (.int tv), .val (.int nv), .val (.long uq), .second, .val (.int qv), .val (.int cv), .val (.int rv), .val (.int pv), .val (.int kv)] [(.int nv), (.long uq), (.int (48 : Int32))])
            refine hst (fun t₀ k₀ => XS.iconst XI.here hx rfl (hb hby d1_47) k₀) ?_
            show F s₁ (mkF m 48 #[.val (.int iv), .val (.int fv), .val (.int sv), .val (.int tv), .val (.int nv), .val (.long uq), .second, .val (.int qv), .val (.int cv), .val (.int rv), .val (.int pv), .val (.int kv)] [(.int (1 : Int32)), (.int nv), (.long uq), (.int (48 : Int32))])
            refine hst (fun t₀ k₀ => XS.isub XI.here hx rfl (hb hby d1_48) rfl k₀) ?_
            show F s₁ (mkF m 49 #[.val (.int iv), .val (.int fv), .val (.int sv), .val (.int tv), .val (.int nv), .val (.long uq), .second, .val (.int qv), .val (.int cv), .val (.int rv), .val (.int pv), .val (.int kv)] [(.int (nv - (1 : Int32))), (.long uq), (.int (48 : Int32))])
            refine hst (fun t₀ k₀ => XS.iload XI.here hx rfl (hb hby d1_49) rfl k₀) ?_
            show F s₁ (mkF m 51 #[.val (.int iv), .val (.int fv), .val (.int sv), .val (.int tv), .val (.int nv), .val (.long uq), .second, .val (.int qv), .val (.int cv), .val (.int rv), .val (.int pv), .val (.int kv)] [(.int kv), (.int (nv - (1 : Int32))), (.long uq), (.int (48 : Int32))])
            refine hst (fun t₀ k₀ => XS.isub XI.here hx rfl (hb hby d1_51) rfl k₀) ?_
            show F s₁ (mkF m 52 #[.val (.int iv), .val (.int fv), .val (.int sv), .val (.int tv), .val (.int nv), .val (.long uq), .second, .val (.int qv), .val (.int cv), .val (.int rv), .val (.int pv), .val (.int kv)] [(.int ((nv - (1 : Int32)) - kv)), (.long uq), (.int (48 : Int32))])
            generalize hev : ((nv - (1 : Int32)) - kv) = ev
            show F s₁ (mkF m 52 #[.val (.int iv), .val (.int fv), .val (.int sv), .val (.int tv), .val (.int nv), .val (.long uq), .second, .val (.int qv), .val (.int cv), .val (.int rv), .val (.int pv), .val (.int kv)] [(.int ev), (.long uq), (.int (48 : Int32))])
            have kev : ev.toInt = ((n - 1 - (i - sn) : Nat) : Int) := by have h1 := c_isub nv 1; have h2 := rng32 (nv - 1); have h3 := c_isub (nv - 1) kv; have h4 := rng32 ev; rw [hev] at h3; omega
            obtain ⟨v52, T52, Lc52, X52, hQ52, st52⟩ := own_callS XI hx hZ hown (y := (⟨"com/example/leafline/leafline/table/IntegerValueParsePlainPinLaw", "pow10", "(I)J"⟩ : MethodName)) (hw _ (List.mem_of_getElem? (i := 7) rfl)) (hw _ (List.mem_of_getElem? (i := 8) rfl)) (hw _ (List.mem_of_getElem? (i := 5) rfl)) (hw _ (List.mem_of_getElem? (i := 9) rfl)) (by decide) eI (rm2 l Z a0 hw [] ev (n - 1 - (i - sn)) hI n0 Z0 kev (by omega)) (by decide) (by decide) (g := (mkF m 52 #[.val (.int iv), .val (.int fv), .val (.int sv), .val (.int tv), .val (.int nv), .val (.long uq), .second, .val (.int qv), .val (.int cv), .val (.int rv), .val (.int pv), .val (.int kv)] [(.int ev), (.long uq), (.int (48 : Int32))])) rfl (by rw [hml]; rfl) (argsL := [(.int ev)]) (rest := [(.long uq), (.int (48 : Int32))]) (lenOf pd_0 rfl) rfl rfl (W := 3) (by show 2 * 0 + _ ≤ _; exact Nat.le_of_eq rfl) (hb hby d1_52) (by decide) (by decide)
            obtain ⟨rfl, Nq52, K52⟩ := hQ52
            have N52 := Fr.app NI Nq52
            have Z0_p52 : n0 ≤ T52.heap.size := Nat.le_trans Z0 K52.1
            have K_p52 : Keep hI T52.heap [] := (Keep.refl hI []).trans K52 (fun x hx' => absurd hx' List.not_mem_nil)
            refine hst st52 ?_
            show F T52 (mkF m 55 #[.val (.int iv), .val (.int fv), .val (.int sv), .val (.int tv), .val (.int nv), .val (.long uq), .second, .val (.int qv), .val (.int cv), .val (.int rv), .val (.int pv), .val (.int kv)] [(.long (Int64.ofNat (10 ^ (n - 1 - (i - sn))))), (.long uq), (.int (48 : Int32))])
            refine hst (fun t₀ k₀ => XS.ldiv X52.here hx rfl (hb hby d1_55) rfl (own_p0 _ (by omega)) k₀) ?_
            show F T52 (mkF m 56 #[.val (.int iv), .val (.int fv), .val (.int sv), .val (.int tv), .val (.int nv), .val (.long uq), .second, .val (.int qv), .val (.int cv), .val (.int rv), .val (.int pv), .val (.int kv)] [(.long (uq / (Int64.ofNat (10 ^ (n - 1 - (i - sn)))))), (.int (48 : Int32))])
            generalize hdq : (uq / (Int64.ofNat (10 ^ (n - 1 - (i - sn))))) = dq
            show F T52 (mkF m 56 #[.val (.int iv), .val (.int fv), .val (.int sv), .val (.int tv), .val (.int nv), .val (.long uq), .second, .val (.int qv), .val (.int cv), .val (.int rv), .val (.int pv), .val (.int kv)] [(.long dq), (.int (48 : Int32))])
            have kdq : dq.toInt = ((Un / 10 ^ (n - 1 - (i - sn)) : Nat) : Int) := by rw [← hdq]; exact own_udiv uq Un _ hU (by omega)
            generalize hD : Un / 10 ^ (n - 1 - (i - sn)) = D at kdq
            refine hst (fun t₀ k₀ => X52.ldc2J hx hown (mvT hZ (hw _ (List.mem_of_getElem? (i := 11) rfl))) (g := (mkF m 56 #[.val (.int iv), .val (.int fv), .val (.int sv), .val (.int tv), .val (.int nv), .val (.long uq), .second, .val (.int qv), .val (.int cv), .val (.int rv), .val (.int pv), .val (.int kv)] [(.long dq), (.int (48 : Int32))])) rfl (hb hby d1_56) k₀) ?_
            show F T52 (mkF m 59 #[.val (.int iv), .val (.int fv), .val (.int sv), .val (.int tv), .val (.int nv), .val (.long uq), .second, .val (.int qv), .val (.int cv), .val (.int rv), .val (.int pv), .val (.int kv)] [(.long (10 : Int64)), (.long dq), (.int (48 : Int32))])
            refine hst (fun t₀ k₀ => XS.lrem X52.here hx rfl (hb hby d1_59) rfl (by decide) k₀) ?_
            show F T52 (mkF m 60 #[.val (.int iv), .val (.int fv), .val (.int sv), .val (.int tv), .val (.int nv), .val (.long uq), .second, .val (.int qv), .val (.int cv), .val (.int rv), .val (.int pv), .val (.int kv)] [(.long (dq - (dq / (10 : Int64)) * (10 : Int64))), (.int (48 : Int32))])
            generalize hrm : (dq - (dq / (10 : Int64)) * (10 : Int64)) = rm
            show F T52 (mkF m 60 #[.val (.int iv), .val (.int fv), .val (.int sv), .val (.int tv), .val (.int nv), .val (.long uq), .second, .val (.int qv), .val (.int cv), .val (.int rv), .val (.int pv), .val (.int kv)] [(.long rm), (.int (48 : Int32))])
            have krm : rm.toInt = ((D % 10 : Nat) : Int) := by rw [← hrm, (c_lrem dq 10 10 (by decide)).1 (by omega), kdq]; first | done | rfl | omega
            refine hst (fun t₀ k₀ => XS.l2i X52.here hx rfl (hb hby d1_60) rfl k₀) ?_
            show F T52 (mkF m 61 #[.val (.int iv), .val (.int fv), .val (.int sv), .val (.int tv), .val (.int nv), .val (.long uq), .second, .val (.int qv), .val (.int cv), .val (.int rv), .val (.int pv), .val (.int kv)] [(.int (rm.toInt32)), (.int (48 : Int32))])
            generalize hdi : (rm.toInt32) = di
            show F T52 (mkF m 61 #[.val (.int iv), .val (.int fv), .val (.int sv), .val (.int tv), .val (.int nv), .val (.long uq), .second, .val (.int qv), .val (.int cv), .val (.int rv), .val (.int pv), .val (.int kv)] [(.int di), (.int (48 : Int32))])
            have kdi : di.toInt = ((D % 10 : Nat) : Int) := by have h1 := c_l2i rm; have h2 := rng32 di; rw [hdi] at h1; omega
            refine hst (fun t₀ k₀ => XS.iadd X52.here hx rfl (hb hby d1_61) rfl k₀) ?_
            show F T52 (mkF m 62 #[.val (.int iv), .val (.int fv), .val (.int sv), .val (.int tv), .val (.int nv), .val (.long uq), .second, .val (.int qv), .val (.int cv), .val (.int rv), .val (.int pv), .val (.int kv)] [(.int ((48 : Int32) + di))])
            generalize hbv : ((48 : Int32) + di) = bv
            show F T52 (mkF m 62 #[.val (.int iv), .val (.int fv), .val (.int sv), .val (.int tv), .val (.int nv), .val (.long uq), .second, .val (.int qv), .val (.int cv), .val (.int rv), .val (.int pv), .val (.int kv)] [(.int bv)])
            have kbv : bv.toInt = ((48 + D % 10 : Nat) : Int) := by have h1 := c_iadd 48 di; have h2 := rng32 bv; rw [hbv] at h1; omega
            refine hst (fun t₀ k₀ => XS.i2b X52.here hx rfl (hb hby d1_62) rfl k₀) ?_
            show F T52 (mkF m 63 #[.val (.int iv), .val (.int fv), .val (.int sv), .val (.int tv), .val (.int nv), .val (.long uq), .second, .val (.int qv), .val (.int cv), .val (.int rv), .val (.int pv), .val (.int kv)] [(.int (bv.toInt8.toInt32))])
            generalize hcb : (bv.toInt8.toInt32) = cb
            show F T52 (mkF m 63 #[.val (.int iv), .val (.int fv), .val (.int sv), .val (.int tv), .val (.int nv), .val (.long uq), .second, .val (.int qv), .val (.int cv), .val (.int rv), .val (.int pv), .val (.int kv)] [(.int cb)])
            have kcb : cb = Int32.ofNat (48 + D % 10) := by
              apply Int32.toInt_inj.mp; rw [own_ofNat _ (by omega)]
              have h1 := c_i2b bv; rw [hcb] at h1; omega
            rw [hF]
            refine own_retN X52 hx hret (by simp) hlk (hb hby d1_63) (by decide) (by decide) ?_
            exact ⟨(by unfold own_cellv; rw [if_neg q2, if_neg (not_not_intro q7), if_neg q15, if_pos q35, hD, kcb]), N52, K_p52⟩
    · -- pc 7: not taken
      refine hst (fun t₀ k₀ => XS.icmpNo XI.here hx rfl (hb hby d1_7) rfl (flt hc7).1 k₀) ?_
      show F s₁ (mkF m 10 #[.val (.int iv), .val (.int fv), .val (.int sv), .val (.int tv), .val (.int nv), .val (.long uq), .second, .val (.int qv), .val (.int cv), .val (.int rv), .val (.int pv), .unset] [])
      have q7 : ¬ i < t := by rw [own_lt32] at hc7; omega
      refine hst (fun t₀ k₀ => XS.iload XI.here hx rfl (hb hby d1_10) rfl k₀) ?_
      show F s₁ (mkF m 12 #[.val (.int iv), .val (.int fv), .val (.int sv), .val (.int tv), .val (.int nv), .val (.long uq), .second, .val (.int qv), .val (.int cv), .val (.int rv), .val (.int pv), .unset] [(.int pv)])
      rw [hF]
      refine own_retN XI hx hret (by simp) hlk (hb hby d1_12) (by decide) (by decide) ?_
      rw [eI]
      exact ⟨(by unfold own_cellv; first | rw [if_pos q2] | rw [if_neg q2, if_pos q7]), NI, (Keep.refl hI [])⟩
theorem own_G (f s n U Q : Nat) (cv rp pv : Int32) (G : Nat → Int32) (hG : G = (fun i => nar .byte (nar .byte (own_cellv i f s (s + n) n U Q cv rp pv)))) (hc1 : -128 ≤ cv.toInt) (hc2 : cv.toInt < 128) (hp1 : -128 ≤ pv.toInt) (hp2 : pv.toInt < 128) (i : Nat) (hi : i < 22) : own_pre G 22 i = own_cellv i f s (s + n) n U Q cv rp pv := by
  have h : -128 ≤ (own_cellv i f s (s + n) n U Q cv rp pv).toInt ∧ (own_cellv i f s (s + n) n U Q cv rp pv).toInt < 128 := by
    have k45 : (45 : Int32).toInt = 45 := by decide
    unfold own_cellv
    split
    · exact ⟨hp1, hp2⟩
    · split
      · exact ⟨hp1, hp2⟩
      · split
        · omega
        · split
          · rw [own_ofNat _ (by omega)]; omega
          · exact ⟨hc1, hc2⟩
  unfold own_pre
  rw [if_pos hi, hG]
  dsimp only
  rw [own_nar _ h.1 h.2, own_nar _ h.1 h.2]
theorem own_law (g : Nat → Int32) (f s n U Q : Nat) (cv rp pv ng : Int32) (hg : ∀ i, i < 22 → g i = own_cellv i f s (s + n) n U Q cv rp pv) (hf : f ≤ 1) (hn : n < 20) (hs : (ng = 0 ∧ s = f) ∨ (ng = 1 ∧ s = f + 1)) (hQ : 0 < n → Q < n)
    (hr : rp = 0 ∨ (rp = 1 ∧ 0 < n ∧ ¬ (48 ≤ cv.toInt ∧ cv.toInt ≤ 57) ∧ ¬ (Q = 0 ∧ ng = 0 ∧ cv.toInt = 45))) (hc1 : -128 ≤ cv.toInt) (hc2 : cv.toInt < 128) :
    (n = 0 ∨ 18 < n ∨ rp = 1 → own_pp g f (s + n) = -9223372036854775808) ∧ (∀ mv : Int64, 0 < n → n ≤ 18 → rp = 0 → mv.toInt = ((U % 10 ^ n : Nat) : Int) → own_pp g f (s + n) = if ng = 0 then mv else -mv) := by
  have k45 : (45 : Int32).toInt = 45 := by decide
  have k48 : (48 : Int32).toInt = 48 := by decide
  have k9 : (9 : Int32).toInt = 9 := by decide
  have k0 : (0 : Int32).toInt = 0 := by decide
  have n10 : ¬ (1 : Int32) = 0 := by decide
  have hdig : ∀ k, k < n → (rp = 0 ∨ ¬ k = Q) → (g (s + k)).toInt = ((48 + U / 10 ^ (n - 1 - k) % 10 : Nat) : Int) := by
    intro k hk h
    rw [hg _ (by omega)]
    unfold own_cellv
    rw [if_neg (by omega), if_neg (by omega), if_neg (by omega), show s + k - s = k by omega, if_pos h, own_ofNat _ (by omega)]
  have hq : rp = 1 → Q < n → g (s + Q) = cv := by
    intro h hk
    rw [hg _ (by omega)]
    unfold own_cellv
    rw [if_neg (by omega), if_neg (by omega), if_neg (by omega), if_neg]
    rintro (q | q)
    · rw [h] at q; exact n10 q
    · omega
  have ht : own_pp g f (s + n) = own_tail ng g s (s + n) := by
    refine own_pp_tail g f s n ng (fun h => ?_) (fun h => ?_) (hs.imp And.left And.left)
    · have e : s = f + 1 := by
        rcases hs with q | q
        · rw [h] at q; exact absurd q.1 n10
        · exact q.2
      refine ⟨e, ?_⟩
      rw [hg f (by omega)]
      unfold own_cellv
      rw [if_neg (by omega), if_neg (by omega), if_pos (by omega)]
    · have e : s = f := by
        rcases hs with q | q
        · exact q.2
        · rw [h] at q; exact absurd q.1.symm n10
      refine ⟨e, fun h0 => ?_⟩
      subst e
      rcases hr with r | ⟨r1, r2, r3, r4⟩
      · have := hdig 0 h0 (Or.inl r)
        rw [Nat.add_zero] at this
        intro q; rw [q, k45] at this; omega
      · by_cases e : Q = 0
        · have := hq r1 (by omega)
          rw [e, Nat.add_zero] at this
          rw [this]; intro q; rw [q] at r4; exact r4 ⟨e, h, k45⟩
        · have := hdig 0 h0 (Or.inr (fun q => e q.symm))
          rw [Nat.add_zero] at this
          intro q; rw [q, k45] at this; omega
  rw [ht]
  refine ⟨fun h => ?_, fun mv h0 h18 h1 hm => own_tail_good g s n U ng mv h0 h18 (fun k hk => hdig k hk (Or.inl h1)) hm⟩
  apply own_tail_bad g s n Q ng
  rcases h with h | h | h
  · exact Or.inl h
  · exact Or.inr (Or.inl h)
  · rcases hr with r | ⟨r1, r2, r3, r4⟩
    · rw [h] at r; exact absurd r n10
    · refine Or.inr (Or.inr ⟨hQ r2, ?_⟩)
      rw [hq h (hQ r2)]
      have h1 := c_isub cv 48
      have h2 := rng32 (cv - 48)
      simp only [own_lt32]
      omega
theorem pn_0 : plainFor x = true := plainFor_of_name (by first | (simp [plainName, overriddenIn]; done) | decide +kernel)
theorem pd_1 : parseMethodDescriptor "(IIIIIJIBZB)B" = some ⟨[.int, .int, .int, .int, .int, .long, .int, .byte, .boolean, .byte], some .byte⟩ := by decide +kernel
theorem pd_2 : parseMethodDescriptor "([BII)J" = some ⟨[(.array .byte), .int, .int], some .long⟩ := by decide +kernel
theorem ef_0 (m : MethodId) (q1 : Int64) (p2 : Int32) (p3 : Int32) (p4 : Int32) (p5 : Int32) (p6 : Int32) : entryFrame m #[(.long q1), (.int p2), (.int p3), (.int p4), (.int p5), (.int p6)] maxLocals = mkF m 0 #[.val (.long q1), .second, .val (.int p2), .val (.int p3), .val (.int p4), .val (.int p5), .val (.int p6), .unset, .unset, .unset, .unset, .unset, .unset, .unset, .unset, .unset, .unset, .unset, .unset, .unset, .unset, .unset, .unset, .unset, .unset] [] := by first | (simp [entryFrame, mkF, argsToLocals, Value.category, maxLocals]; done) | rfl
def Q0 (Z : State) (q1 : Int64) (p2 : Int32) (p3 : Int32) (p4 : Int32) (p5 : Int32) (p6 : Int32) (hI : Heap) (n0 : Nat) (v : Option Value) (h : Heap) (L : List Loc) : Prop := v = some (.int 1) ∧ Fr n0 L
set_option maxRecDepth 65536 in
set_option maxHeartbeats 40000000 in
theorem rm0 (l : Launch) (Z : State) (a0 : Array Value) (hw : ∀ d ∈ tables_1, d.before a0 Z = true) (ws : List Jvm.Cond) (q1 : Int64) (p2 : Int32) (p3 : Int32) (p4 : Int32) (p5 : Int32) (p6 : Int32) (hI : Heap) (n0 : Nat) (Z0 : n0 ≤ hI.size) :
    MetFree l x (head1 (Jvm.Cond.code x code maxLocals ret :: ws) room_1) (fun xa xU => xa = #[(.long q1), (.int p2), (.int p3), (.int p4), (.int p5), (.int p6)] ∧ Z.Warmed39 xU.vm ∧ xU.heap = hI) (fun _ _ _ _ _ => True) (fun _ xU xo xU' => ∃ xv xL, xo = .returned xv ∧ Q0 Z q1 p2 p3 p4 p5 p6 hI n0 xv xU'.heap xL ∧ FrameEnd xU xo xU' xL room_1.cells room_1.slots) := by
  refine own_body pn_0 ?_
  intro p e s m below meth c s₁ hx hby hml hown hnm hret hlk hZ XI eI
  have hml : c.maxLocals = 25 := hml
  obtain ⟨F, hF⟩ : ∃ F : State → JFrame → Prop, F = own_Fin p.tables e below s room_1 (Q0 Z q1 p2 p3 p4 p5 p6 hI n0) := ⟨_, rfl⟩
  have hst : ∀ {T T' : State} {g g' : JFrame}, (∀ t, Steps p.tables e below (T'.setTop g') t → Steps p.tables e below (T.setTop g) t) → F T' g' → F T g := by subst hF; exact own_st
  have NI := Fr.nil n0
  show own_Fin p.tables e below s room_1 (Q0 Z q1 p2 p3 p4 p5 p6 hI n0) s₁ (entryFrame m #[(.long q1), (.int p2), (.int p3), (.int p4), (.int p5), (.int p6)] maxLocals)
  rw [← hF]
  rw [ef_0]
  show F s₁ (mkF m 0 #[.val (.long q1), .second, .val (.int p2), .val (.int p3), .val (.int p4), .val (.int p5), .val (.int p6), .unset, .unset, .unset, .unset, .unset, .unset, .unset, .unset, .unset, .unset, .unset, .unset, .unset, .unset, .unset, .unset, .unset, .unset] [])
  have k0 : (0 : Int32).toInt = 0 := by decide
  have k1 : (1 : Int32).toInt = 1 := by decide
  have k48 : (48 : Int32).toInt = 48 := by decide
  have k57 : (57 : Int32).toInt = 57 := by decide
  have k18 : (18 : Int32).toInt = 18 := by decide
  have k45 : (45 : Int32).toInt = 45 := by decide
  have n10 : ¬ (1 : Int32) = 0 := by decide
  refine hst (fun t₀ k₀ => XS.lloadN XI.here hx rfl (hb hby at_0) rfl k₀) ?_
  show F s₁ (mkF m 1 #[.val (.long q1), .second, .val (.int p2), .val (.int p3), .val (.int p4), .val (.int p5), .val (.int p6), .unset, .unset, .unset, .unset, .unset, .unset, .unset, .unset, .unset, .unset, .unset, .unset, .unset, .unset, .unset, .unset, .unset, .unset] [(.long q1)])
  refine hst (fun t₀ k₀ => XI.ldc2J hx hown (mvT hZ (hw _ (List.mem_of_getElem? (i := 0) rfl))) (g := (mkF m 1 #[.val (.long q1), .second, .val (.int p2), .val (.int p3), .val (.int p4), .val (.int p5), .val (.int p6), .unset, .unset, .unset, .unset, .unset, .unset, .unset, .unset, .unset, .unset, .unset, .unset, .unset, .unset, .unset, .unset, .unset, .unset] [(.long q1)])) rfl (hb hby at_1) k₀) ?_
  show F s₁ (mkF m 4 #[.val (.long q1), .second, .val (.int p2), .val (.int p3), .val (.int p4), .val (.int p5), .val (.int p6), .unset, .unset, .unset, .unset, .unset, .unset, .unset, .unset, .unset, .unset, .unset, .unset, .unset, .unset, .unset, .unset, .unset, .unset] [(.long (9223372036854775807 : Int64)), (.long q1)])
  refine hst (fun t₀ k₀ => XS.land XI.here hx rfl (hb hby at_4) rfl k₀) ?_
  show F s₁ (mkF m 5 #[.val (.long q1), .second, .val (.int p2), .val (.int p3), .val (.int p4), .val (.int p5), .val (.int p6), .unset, .unset, .unset, .unset, .unset, .unset, .unset, .unset, .unset, .unset, .unset, .unset, .unset, .unset, .unset, .unset, .unset, .unset] [(.long (q1 &&& (9223372036854775807 : Int64)))])
  generalize hu : (q1 &&& (9223372036854775807 : Int64)) = u
  show F s₁ (mkF m 5 #[.val (.long q1), .second, .val (.int p2), .val (.int p3), .val (.int p4), .val (.int p5), .val (.int p6), .unset, .unset, .unset, .unset, .unset, .unset, .unset, .unset, .unset, .unset, .unset, .unset, .unset, .unset, .unset, .unset, .unset, .unset] [(.long u)])
  obtain ⟨U, hU⟩ : ∃ U : Nat, u.toInt = U := by
    have h1 := c_maskL q1 9223372036854775807 63 (by decide) (by decide); rw [hu] at h1; exact ⟨u.toInt.toNat, by omega⟩
  refine hst (fun t₀ k₀ => XS.lstore XI.here hx rfl (hb hby at_5) rfl (l' := #[.val (.long q1), .second, .val (.int p2), .val (.int p3), .val (.int p4), .val (.int p5), .val (.int p6), .val (.long u), .second, .unset, .unset, .unset, .unset, .unset, .unset, .unset, .unset, .unset, .unset, .unset, .unset, .unset, .unset, .unset, .unset]) rfl k₀) ?_
  show F s₁ (mkF m 7 #[.val (.long q1), .second, .val (.int p2), .val (.int p3), .val (.int p4), .val (.int p5), .val (.int p6), .val (.long u), .second, .unset, .unset, .unset, .unset, .unset, .unset, .unset, .unset, .unset, .unset, .unset, .unset, .unset, .unset, .unset, .unset] [])
  refine hst (fun t₀ k₀ => XS.iloadN XI.here hx rfl (hb hby at_7) rfl k₀) ?_
  show F s₁ (mkF m 8 #[.val (.long q1), .second, .val (.int p2), .val (.int p3), .val (.int p4), .val (.int p5), .val (.int p6), .val (.long u), .second, .unset, .unset, .unset, .unset, .unset, .unset, .unset, .unset, .unset, .unset, .unset, .unset, .unset, .unset, .unset, .unset] [(.int p2)])
  refine hst (fun t₀ k₀ => XI.ldcI hx hown (mvT hZ (hw _ (List.mem_of_getElem? (i := 1) rfl))) (g := (mkF m 8 #[.val (.long q1), .second, .val (.int p2), .val (.int p3), .val (.int p4), .val (.int p5), .val (.int p6), .val (.long u), .second, .unset, .unset, .unset, .unset, .unset, .unset, .unset, .unset, .unset, .unset, .unset, .unset, .unset, .unset, .unset, .unset] [(.int p2)])) rfl (hb hby at_8) k₀) ?_
  show F s₁ (mkF m 10 #[.val (.long q1), .second, .val (.int p2), .val (.int p3), .val (.int p4), .val (.int p5), .val (.int p6), .val (.long u), .second, .unset, .unset, .unset, .unset, .unset, .unset, .unset, .unset, .unset, .unset, .unset, .unset, .unset, .unset, .unset, .unset] [(.int (2147483647 : Int32)), (.int p2)])
  refine hst (fun t₀ k₀ => XS.iand XI.here hx rfl (hb hby at_10) rfl k₀) ?_
  show F s₁ (mkF m 11 #[.val (.long q1), .second, .val (.int p2), .val (.int p3), .val (.int p4), .val (.int p5), .val (.int p6), .val (.long u), .second, .unset, .unset, .unset, .unset, .unset, .unset, .unset, .unset, .unset, .unset, .unset, .unset, .unset, .unset, .unset, .unset] [(.int (p2 &&& (2147483647 : Int32)))])
  refine hst (fun t₀ k₀ => XS.bipush XI.here hx rfl (hb hby at_11) k₀) ?_
  show F s₁ (mkF m 13 #[.val (.long q1), .second, .val (.int p2), .val (.int p3), .val (.int p4), .val (.int p5), .val (.int p6), .val (.long u), .second, .unset, .unset, .unset, .unset, .unset, .unset, .unset, .unset, .unset, .unset, .unset, .unset, .unset, .unset, .unset, .unset] [(.int (20 : Int32)), (.int (p2 &&& (2147483647 : Int32)))])
  refine hst (fun t₀ k₀ => iremM XI hx rfl (hb hby at_13) rfl (by decide) k₀) ?_
  show F s₁ (mkF m 14 #[.val (.long q1), .second, .val (.int p2), .val (.int p3), .val (.int p4), .val (.int p5), .val (.int p6), .val (.long u), .second, .unset, .unset, .unset, .unset, .unset, .unset, .unset, .unset, .unset, .unset, .unset, .unset, .unset, .unset, .unset, .unset] [(.int ((p2 &&& (2147483647 : Int32)) % (20 : Int32)))])
  generalize hnv : ((p2 &&& (2147483647 : Int32)) % (20 : Int32)) = nv
  show F s₁ (mkF m 14 #[.val (.long q1), .second, .val (.int p2), .val (.int p3), .val (.int p4), .val (.int p5), .val (.int p6), .val (.long u), .second, .unset, .unset, .unset, .unset, .unset, .unset, .unset, .unset, .unset, .unset, .unset, .unset, .unset, .unset, .unset, .unset] [(.int nv)])
  obtain ⟨n, hn, hn2⟩ : ∃ n : Nat, nv.toInt = n ∧ n < 20 := by
    have h1 := c_mask p2 2147483647 31 (by decide) (by decide); have h2 := (c_irem (p2 &&& 2147483647) 20 20 (by decide)).1 (by omega); rw [hnv] at h2; exact ⟨nv.toInt.toNat, by omega, by omega⟩
  refine hst (fun t₀ k₀ => XS.istore XI.here hx rfl (hb hby at_14) rfl (l' := #[.val (.long q1), .second, .val (.int p2), .val (.int p3), .val (.int p4), .val (.int p5), .val (.int p6), .val (.long u), .second, .val (.int nv), .unset, .unset, .unset, .unset, .unset, .unset, .unset, .unset, .unset, .unset, .unset, .unset, .unset, .unset, .unset]) rfl k₀) ?_
  show F s₁ (mkF m 16 #[.val (.long q1), .second, .val (.int p2), .val (.int p3), .val (.int p4), .val (.int p5), .val (.int p6), .val (.long u), .second, .val (.int nv), .unset, .unset, .unset, .unset, .unset, .unset, .unset, .unset, .unset, .unset, .unset, .unset, .unset, .unset, .unset] [])
  refine hst (fun t₀ k₀ => XS.iloadN XI.here hx rfl (hb hby at_16) rfl k₀) ?_
  show F s₁ (mkF m 17 #[.val (.long q1), .second, .val (.int p2), .val (.int p3), .val (.int p4), .val (.int p5), .val (.int p6), .val (.long u), .second, .val (.int nv), .unset, .unset, .unset, .unset, .unset, .unset, .unset, .unset, .unset, .unset, .unset, .unset, .unset, .unset, .unset] [(.int p3)])
  refine hst (fun t₀ k₀ => XS.iconst XI.here hx rfl (hb hby at_17) k₀) ?_
  show F s₁ (mkF m 18 #[.val (.long q1), .second, .val (.int p2), .val (.int p3), .val (.int p4), .val (.int p5), .val (.int p6), .val (.long u), .second, .val (.int nv), .unset, .unset, .unset, .unset, .unset, .unset, .unset, .unset, .unset, .unset, .unset, .unset, .unset, .unset, .unset] [(.int (1 : Int32)), (.int p3)])
  refine hst (fun t₀ k₀ => XS.iand XI.here hx rfl (hb hby at_18) rfl k₀) ?_
  show F s₁ (mkF m 19 #[.val (.long q1), .second, .val (.int p2), .val (.int p3), .val (.int p4), .val (.int p5), .val (.int p6), .val (.long u), .second, .val (.int nv), .unset, .unset, .unset, .unset, .unset, .unset, .unset, .unset, .unset, .unset, .unset, .unset, .unset, .unset, .unset] [(.int (p3 &&& (1 : Int32)))])
  have J29 : ∀ ng : Int32, (ng = 0 ∨ ng = 1) → F s₁ (mkF m 29 #[.val (.long q1), .second, .val (.int p2), .val (.int p3), .val (.int p4), .val (.int p5), .val (.int p6), .val (.long u), .second, .val (.int nv), .val (.int ng), .unset, .unset, .unset, .unset, .unset, .unset, .unset, .unset, .unset, .unset, .unset, .unset, .unset, .unset] []) := by
    intro ng hng
    show F s₁ (mkF m 29 #[.val (.long q1), .second, .val (.int p2), .val (.int p3), .val (.int p4), .val (.int p5), .val (.int p6), .val (.long u), .second, .val (.int nv), .val (.int ng), .unset, .unset, .unset, .unset, .unset, .unset, .unset, .unset, .unset, .unset, .unset, .unset, .unset, .unset] [])
    refine hst (fun t₀ k₀ => XS.iloadN XI.here hx rfl (hb hby at_29) rfl k₀) ?_
    show F s₁ (mkF m 30 #[.val (.long q1), .second, .val (.int p2), .val (.int p3), .val (.int p4), .val (.int p5), .val (.int p6), .val (.long u), .second, .val (.int nv), .val (.int ng), .unset, .unset, .unset, .unset, .unset, .unset, .unset, .unset, .unset, .unset, .unset, .unset, .unset, .unset] [(.int p3)])
    refine hst (fun t₀ k₀ => XS.iconst XI.here hx rfl (hb hby at_30) k₀) ?_
    show F s₁ (mkF m 31 #[.val (.long q1), .second, .val (.int p2), .val (.int p3), .val (.int p4), .val (.int p5), .val (.int p6), .val (.long u), .second, .val (.int nv), .val (.int ng), .unset, .unset, .unset, .unset, .unset, .unset, .unset, .unset, .unset, .unset, .unset, .unset, .unset, .unset] [(.int (1 : Int32)), (.int p3)])
    refine hst (fun t₀ k₀ => XS.ishr XI.here hx rfl (hb hby at_31) rfl k₀) ?_
    show F s₁ (mkF m 32 #[.val (.long q1), .second, .val (.int p2), .val (.int p3), .val (.int p4), .val (.int p5), .val (.int p6), .val (.long u), .second, .val (.int nv), .val (.int ng), .unset, .unset, .unset, .unset, .unset, .unset, .unset, .unset, .unset, .unset, .unset, .unset, .unset, .unset] [(.int (p3 >>> ((1 : Int32) &&& 31)))])
    refine hst (fun t₀ k₀ => XS.iconst XI.here hx rfl (hb hby at_32) k₀) ?_
    show F s₁ (mkF m 33 #[.val (.long q1), .second, .val (.int p2), .val (.int p3), .val (.int p4), .val (.int p5), .val (.int p6), .val (.long u), .second, .val (.int nv), .val (.int ng), .unset, .unset, .unset, .unset, .unset, .unset, .unset, .unset, .unset, .unset, .unset, .unset, .unset, .unset] [(.int (1 : Int32)), (.int (p3 >>> ((1 : Int32) &&& 31)))])
    refine hst (fun t₀ k₀ => XS.iand XI.here hx rfl (hb hby at_33) rfl k₀) ?_
    show F s₁ (mkF m 34 #[.val (.long q1), .second, .val (.int p2), .val (.int p3), .val (.int p4), .val (.int p5), .val (.int p6), .val (.long u), .second, .val (.int nv), .val (.int ng), .unset, .unset, .unset, .unset, .unset, .unset, .unset, .unset, .unset, .unset, .unset, .unset, .unset, .unset] [(.int ((p3 >>> ((1 : Int32) &&& 31)) &&& (1 : Int32)))])
    generalize hfv : ((p3 >>> ((1 : Int32) &&& 31)) &&& (1 : Int32)) = fv
    show F s₁ (mkF m 34 #[.val (.long q1), .second, .val (.int p2), .val (.int p3), .val (.int p4), .val (.int p5), .val (.int p6), .val (.long u), .second, .val (.int nv), .val (.int ng), .unset, .unset, .unset, .unset, .unset, .unset, .unset, .unset, .unset, .unset, .unset, .unset, .unset, .unset] [(.int fv)])
    obtain ⟨f, hf, hf2⟩ : ∃ f : Nat, fv.toInt = f ∧ f ≤ 1 := by
      have h1 := c_mask (p3 >>> ((1 : Int32) &&& 31)) 1 1 (by decide) (by decide); rw [hfv] at h1; exact ⟨fv.toInt.toNat, by omega, by omega⟩
    refine hst (fun t₀ k₀ => XS.istore XI.here hx rfl (hb hby at_34) rfl (l' := #[.val (.long q1), .second, .val (.int p2), .val (.int p3), .val (.int p4), .val (.int p5), .val (.int p6), .val (.long u), .second, .val (.int nv), .val (.int ng), .val (.int fv), .unset, .unset, .unset, .unset, .unset, .unset, .unset, .unset, .unset, .unset, .unset, .unset, .unset]) rfl k₀) ?_
    show F s₁ (mkF m 36 #[.val (.long q1), .second, .val (.int p2), .val (.int p3), .val (.int p4), .val (.int p5), .val (.int p6), .val (.long u), .second, .val (.int nv), .val (.int ng), .val (.int fv), .unset, .unset, .unset, .unset, .unset, .unset, .unset, .unset, .unset, .unset, .unset, .unset, .unset] [])
    refine hst (fun t₀ k₀ => XS.iloadN XI.here hx rfl (hb hby at_36) rfl k₀) ?_
    show F s₁ (mkF m 37 #[.val (.long q1), .second, .val (.int p2), .val (.int p3), .val (.int p4), .val (.int p5), .val (.int p6), .val (.long u), .second, .val (.int nv), .val (.int ng), .val (.int fv), .unset, .unset, .unset, .unset, .unset, .unset, .unset, .unset, .unset, .unset, .unset, .unset, .unset] [(.int p3)])
    refine hst (fun t₀ k₀ => XS.iconst XI.here hx rfl (hb hby at_37) k₀) ?_
    show F s₁ (mkF m 38 #[.val (.long q1), .second, .val (.int p2), .val (.int p3), .val (.int p4), .val (.int p5), .val (.int p6), .val (.long u), .second, .val (.int nv), .val (.int ng), .val (.int fv), .unset, .unset, .unset, .unset, .unset, .unset, .unset, .unset, .unset, .unset, .unset, .unset, .unset] [(.int (2 : Int32)), (.int p3)])
    refine hst (fun t₀ k₀ => XS.ishr XI.here hx rfl (hb hby at_38) rfl k₀) ?_
    show F s₁ (mkF m 39 #[.val (.long q1), .second, .val (.int p2), .val (.int p3), .val (.int p4), .val (.int p5), .val (.int p6), .val (.long u), .second, .val (.int nv), .val (.int ng), .val (.int fv), .unset, .unset, .unset, .unset, .unset, .unset, .unset, .unset, .unset, .unset, .unset, .unset, .unset] [(.int (p3 >>> ((2 : Int32) &&& 31)))])
    refine hst (fun t₀ k₀ => XS.iconst XI.here hx rfl (hb hby at_39) k₀) ?_
    show F s₁ (mkF m 40 #[.val (.long q1), .second, .val (.int p2), .val (.int p3), .val (.int p4), .val (.int p5), .val (.int p6), .val (.long u), .second, .val (.int nv), .val (.int ng), .val (.int fv), .unset, .unset, .unset, .unset, .unset, .unset, .unset, .unset, .unset, .unset, .unset, .unset, .unset] [(.int (1 : Int32)), (.int (p3 >>> ((2 : Int32) &&& 31)))])
    refine hst (fun t₀ k₀ => XS.iand XI.here hx rfl (hb hby at_40) rfl k₀) ?_
    show F s₁ (mkF m 41 #[.val (.long q1), .second, .val (.int p2), .val (.int p3), .val (.int p4), .val (.int p5), .val (.int p6), .val (.long u), .second, .val (.int nv), .val (.int ng), .val (.int fv), .unset, .unset, .unset, .unset, .unset, .unset, .unset, .unset, .unset, .unset, .unset, .unset, .unset] [(.int ((p3 >>> ((2 : Int32) &&& 31)) &&& (1 : Int32)))])
    have J51 : ∀ rf : Int32, (True) → F s₁ (mkF m 51 #[.val (.long q1), .second, .val (.int p2), .val (.int p3), .val (.int p4), .val (.int p5), .val (.int p6), .val (.long u), .second, .val (.int nv), .val (.int ng), .val (.int fv), .val (.int rf), .unset, .unset, .unset, .unset, .unset, .unset, .unset, .unset, .unset, .unset, .unset, .unset] []) := by
      intro rf hrf
      show F s₁ (mkF m 51 #[.val (.long q1), .second, .val (.int p2), .val (.int p3), .val (.int p4), .val (.int p5), .val (.int p6), .val (.long u), .second, .val (.int nv), .val (.int ng), .val (.int fv), .val (.int rf), .unset, .unset, .unset, .unset, .unset, .unset, .unset, .unset, .unset, .unset, .unset, .unset] [])
      refine hst (fun t₀ k₀ => XS.iload XI.here hx rfl (hb hby at_51) rfl k₀) ?_
      show F s₁ (mkF m 53 #[.val (.long q1), .second, .val (.int p2), .val (.int p3), .val (.int p4), .val (.int p5), .val (.int p6), .val (.long u), .second, .val (.int nv), .val (.int ng), .val (.int fv), .val (.int rf), .unset, .unset, .unset, .unset, .unset, .unset, .unset, .unset, .unset, .unset, .unset, .unset] [(.int nv)])
      have J70 : ∀ qv : Int32, (∃ Q : Nat, qv.toInt = Q ∧ (0 < n → Q < n)) → F s₁ (mkF m 70 #[.val (.long q1), .second, .val (.int p2), .val (.int p3), .val (.int p4), .val (.int p5), .val (.int p6), .val (.long u), .second, .val (.int nv), .val (.int ng), .val (.int fv), .val (.int rf), .val (.int qv), .unset, .unset, .unset, .unset, .unset, .unset, .unset, .unset, .unset, .unset, .unset] []) := by
        intro qv hqv
        show F s₁ (mkF m 70 #[.val (.long q1), .second, .val (.int p2), .val (.int p3), .val (.int p4), .val (.int p5), .val (.int p6), .val (.long u), .second, .val (.int nv), .val (.int ng), .val (.int fv), .val (.int rf), .val (.int qv), .unset, .unset, .unset, .unset, .unset, .unset, .unset, .unset, .unset, .unset, .unset] [])
        obtain ⟨Q, hq, hQ⟩ := hqv
        refine hst (fun t₀ k₀ => XS.iload XI.here hx rfl (hb hby at_70) rfl k₀) ?_
        show F s₁ (mkF m 72 #[.val (.long q1), .second, .val (.int p2), .val (.int p3), .val (.int p4), .val (.int p5), .val (.int p6), .val (.long u), .second, .val (.int nv), .val (.int ng), .val (.int fv), .val (.int rf), .val (.int qv), .unset, .unset, .unset, .unset, .unset, .unset, .unset, .unset, .unset, .unset, .unset] [(.int p5)])
        refine hst (fun t₀ k₀ => XS.i2b XI.here hx rfl (hb hby at_72) rfl k₀) ?_
        show F s₁ (mkF m 73 #[.val (.long q1), .second, .val (.int p2), .val (.int p3), .val (.int p4), .val (.int p5), .val (.int p6), .val (.long u), .second, .val (.int nv), .val (.int ng), .val (.int fv), .val (.int rf), .val (.int qv), .unset, .unset, .unset, .unset, .unset, .unset, .unset, .unset, .unset, .unset, .unset] [(.int (p5.toInt8.toInt32))])
        generalize hcv : (p5.toInt8.toInt32) = cv
        show F s₁ (mkF m 73 #[.val (.long q1), .second, .val (.int p2), .val (.int p3), .val (.int p4), .val (.int p5), .val (.int p6), .val (.long u), .second, .val (.int nv), .val (.int ng), .val (.int fv), .val (.int rf), .val (.int qv), .unset, .unset, .unset, .unset, .unset, .unset, .unset, .unset, .unset, .unset, .unset] [(.int cv)])
        obtain ⟨hcv1, hcv2⟩ : -128 ≤ cv.toInt ∧ cv.toInt < 128 := by have h1 := c_i2b p5; rw [hcv] at h1; omega
        refine hst (fun t₀ k₀ => XS.istore XI.here hx rfl (hb hby at_73) rfl (l' := #[.val (.long q1), .second, .val (.int p2), .val (.int p3), .val (.int p4), .val (.int p5), .val (.int p6), .val (.long u), .second, .val (.int nv), .val (.int ng), .val (.int fv), .val (.int rf), .val (.int qv), .val (.int cv), .unset, .unset, .unset, .unset, .unset, .unset, .unset, .unset, .unset, .unset]) rfl k₀) ?_
        show F s₁ (mkF m 75 #[.val (.long q1), .second, .val (.int p2), .val (.int p3), .val (.int p4), .val (.int p5), .val (.int p6), .val (.long u), .second, .val (.int nv), .val (.int ng), .val (.int fv), .val (.int rf), .val (.int qv), .val (.int cv), .unset, .unset, .unset, .unset, .unset, .unset, .unset, .unset, .unset, .unset] [])
        refine hst (fun t₀ k₀ => XS.iload XI.here hx rfl (hb hby at_75) rfl k₀) ?_
        show F s₁ (mkF m 77 #[.val (.long q1), .second, .val (.int p2), .val (.int p3), .val (.int p4), .val (.int p5), .val (.int p6), .val (.long u), .second, .val (.int nv), .val (.int ng), .val (.int fv), .val (.int rf), .val (.int qv), .val (.int cv), .unset, .unset, .unset, .unset, .unset, .unset, .unset, .unset, .unset, .unset] [(.int p6)])
        refine hst (fun t₀ k₀ => XS.i2b XI.here hx rfl (hb hby at_77) rfl k₀) ?_
        show F s₁ (mkF m 78 #[.val (.long q1), .second, .val (.int p2), .val (.int p3), .val (.int p4), .val (.int p5), .val (.int p6), .val (.long u), .second, .val (.int nv), .val (.int ng), .val (.int fv), .val (.int rf), .val (.int qv), .val (.int cv), .unset, .unset, .unset, .unset, .unset, .unset, .unset, .unset, .unset, .unset] [(.int (p6.toInt8.toInt32))])
        generalize hpv : (p6.toInt8.toInt32) = pv
        show F s₁ (mkF m 78 #[.val (.long q1), .second, .val (.int p2), .val (.int p3), .val (.int p4), .val (.int p5), .val (.int p6), .val (.long u), .second, .val (.int nv), .val (.int ng), .val (.int fv), .val (.int rf), .val (.int qv), .val (.int cv), .unset, .unset, .unset, .unset, .unset, .unset, .unset, .unset, .unset, .unset] [(.int pv)])
        obtain ⟨hpv1, hpv2⟩ : -128 ≤ pv.toInt ∧ pv.toInt < 128 := by have h1 := c_i2b p6; rw [hpv] at h1; omega
        refine hst (fun t₀ k₀ => XS.istore XI.here hx rfl (hb hby at_78) rfl (l' := #[.val (.long q1), .second, .val (.int p2), .val (.int p3), .val (.int p4), .val (.int p5), .val (.int p6), .val (.long u), .second, .val (.int nv), .val (.int ng), .val (.int fv), .val (.int rf), .val (.int qv), .val (.int cv), .val (.int pv), .unset, .unset, .unset, .unset, .unset, .unset, .unset, .unset, .unset]) rfl k₀) ?_
        show F s₁ (mkF m 80 #[.val (.long q1), .second, .val (.int p2), .val (.int p3), .val (.int p4), .val (.int p5), .val (.int p6), .val (.long u), .second, .val (.int nv), .val (.int ng), .val (.int fv), .val (.int rf), .val (.int qv), .val (.int cv), .val (.int pv), .unset, .unset, .unset, .unset, .unset, .unset, .unset, .unset, .unset] [])
        have J101 : ∀ cd : Int32, (cd = 0 → ¬ (48 ≤ cv.toInt ∧ cv.toInt ≤ 57)) → F s₁ (mkF m 101 #[.val (.long q1), .second, .val (.int p2), .val (.int p3), .val (.int p4), .val (.int p5), .val (.int p6), .val (.long u), .second, .val (.int nv), .val (.int ng), .val (.int fv), .val (.int rf), .val (.int qv), .val (.int cv), .val (.int pv), .val (.int cd), .unset, .unset, .unset, .unset, .unset, .unset, .unset, .unset] []) := by
          intro cd hcd
          show F s₁ (mkF m 101 #[.val (.long q1), .second, .val (.int p2), .val (.int p3), .val (.int p4), .val (.int p5), .val (.int p6), .val (.long u), .second, .val (.int nv), .val (.int ng), .val (.int fv), .val (.int rf), .val (.int qv), .val (.int cv), .val (.int pv), .val (.int cd), .unset, .unset, .unset, .unset, .unset, .unset, .unset, .unset] [])
          have J140 : ∀ rp : Int32, (rp = 0 ∨ (rp = 1 ∧ 0 < n ∧ ¬ (48 ≤ cv.toInt ∧ cv.toInt ≤ 57) ∧ ¬ (Q = 0 ∧ ng = 0 ∧ cv.toInt = 45))) → F s₁ (mkF m 140 #[.val (.long q1), .second, .val (.int p2), .val (.int p3), .val (.int p4), .val (.int p5), .val (.int p6), .val (.long u), .second, .val (.int nv), .val (.int ng), .val (.int fv), .val (.int rf), .val (.int qv), .val (.int cv), .val (.int pv), .val (.int cd), .val (.int rp), .unset, .unset, .unset, .unset, .unset, .unset, .unset] []) := by
            intro rp hrp
            show F s₁ (mkF m 140 #[.val (.long q1), .second, .val (.int p2), .val (.int p3), .val (.int p4), .val (.int p5), .val (.int p6), .val (.long u), .second, .val (.int nv), .val (.int ng), .val (.int fv), .val (.int rf), .val (.int qv), .val (.int cv), .val (.int pv), .val (.int cd), .val (.int rp), .unset, .unset, .unset, .unset, .unset, .unset, .unset] [])
            have J156 : ∀ sv : Int32, (∃ s : Nat, sv.toInt = s ∧ ((ng = 0 ∧ s = f) ∨ (ng = 1 ∧ s = f + 1))) → F s₁ (mkF m 156 #[.val (.long q1), .second, .val (.int p2), .val (.int p3), .val (.int p4), .val (.int p5), .val (.int p6), .val (.long u), .second, .val (.int nv), .val (.int ng), .val (.int fv), .val (.int rf), .val (.int qv), .val (.int cv), .val (.int pv), .val (.int cd), .val (.int rp), .val (.int sv), .unset, .unset, .unset, .unset, .unset, .unset] []) := by
              intro sv hsv
              show F s₁ (mkF m 156 #[.val (.long q1), .second, .val (.int p2), .val (.int p3), .val (.int p4), .val (.int p5), .val (.int p6), .val (.long u), .second, .val (.int nv), .val (.int ng), .val (.int fv), .val (.int rf), .val (.int qv), .val (.int cv), .val (.int pv), .val (.int cd), .val (.int rp), .val (.int sv), .unset, .unset, .unset, .unset, .unset, .unset] [])
              obtain ⟨s', hs, hs1⟩ := hsv
              refine hst (fun t₀ k₀ => XS.iload XI.here hx rfl (hb hby at_156) rfl k₀) ?_
              show F s₁ (mkF m 158 #[.val (.long q1), .second, .val (.int p2), .val (.int p3), .val (.int p4), .val (.int p5), .val (.int p6), .val (.long u), .second, .val (.int nv), .val (.int ng), .val (.int fv), .val (.int rf), .val (.int qv), .val (.int cv), .val (.int pv), .val (.int cd), .val (.int rp), .val (.int sv), .unset, .unset, .unset, .unset, .unset, .unset] [(.int sv)])
              refine hst (fun t₀ k₀ => XS.iload XI.here hx rfl (hb hby at_158) rfl k₀) ?_
              show F s₁ (mkF m 160 #[.val (.long q1), .second, .val (.int p2), .val (.int p3), .val (.int p4), .val (.int p5), .val (.int p6), .val (.long u), .second, .val (.int nv), .val (.int ng), .val (.int fv), .val (.int rf), .val (.int qv), .val (.int cv), .val (.int pv), .val (.int cd), .val (.int rp), .val (.int sv), .unset, .unset, .unset, .unset, .unset, .unset] [(.int nv), (.int sv)])
              refine hst (fun t₀ k₀ => XS.iadd XI.here hx rfl (hb hby at_160) rfl k₀) ?_
              show F s₁ (mkF m 161 #[.val (.long q1), .second, .val (.int p2), .val (.int p3), .val (.int p4), .val (.int p5), .val (.int p6), .val (.long u), .second, .val (.int nv), .val (.int ng), .val (.int fv), .val (.int rf), .val (.int qv), .val (.int cv), .val (.int pv), .val (.int cd), .val (.int rp), .val (.int sv), .unset, .unset, .unset, .unset, .unset, .unset] [(.int (sv + nv))])
              generalize htv : (sv + nv) = tv
              show F s₁ (mkF m 161 #[.val (.long q1), .second, .val (.int p2), .val (.int p3), .val (.int p4), .val (.int p5), .val (.int p6), .val (.long u), .second, .val (.int nv), .val (.int ng), .val (.int fv), .val (.int rf), .val (.int qv), .val (.int cv), .val (.int pv), .val (.int cd), .val (.int rp), .val (.int sv), .unset, .unset, .unset, .unset, .unset, .unset] [(.int tv)])
              have ktv : tv.toInt = ((s' + n : Nat) : Int) := by have h1 := c_iadd sv nv; have h2 := rng32 tv; rw [htv] at h1; omega
              obtain ⟨G, hG⟩ : ∃ G : Nat → Int32, G = (fun i => nar .byte (nar .byte (own_cellv i f s' (s' + n) n U Q cv rp pv))) := ⟨_, rfl⟩
              have hs2 : s' ≤ 2 := by omega
              refine hst (fun t₀ k₀ => XS.istore XI.here hx rfl (hb hby at_161) rfl (l' := #[.val (.long q1), .second, .val (.int p2), .val (.int p3), .val (.int p4), .val (.int p5), .val (.int p6), .val (.long u), .second, .val (.int nv), .val (.int ng), .val (.int fv), .val (.int rf), .val (.int qv), .val (.int cv), .val (.int pv), .val (.int cd), .val (.int rp), .val (.int sv), .val (.int tv), .unset, .unset, .unset, .unset, .unset]) rfl k₀) ?_
              show F s₁ (mkF m 163 #[.val (.long q1), .second, .val (.int p2), .val (.int p3), .val (.int p4), .val (.int p5), .val (.int p6), .val (.long u), .second, .val (.int nv), .val (.int ng), .val (.int fv), .val (.int rf), .val (.int qv), .val (.int cv), .val (.int pv), .val (.int cd), .val (.int rp), .val (.int sv), .val (.int tv), .unset, .unset, .unset, .unset, .unset] [])
              refine hst (fun t₀ k₀ => XS.bipush XI.here hx rfl (hb hby at_163) k₀) ?_
              show F s₁ (mkF m 165 #[.val (.long q1), .second, .val (.int p2), .val (.int p3), .val (.int p4), .val (.int p5), .val (.int p6), .val (.long u), .second, .val (.int nv), .val (.int ng), .val (.int fv), .val (.int rf), .val (.int qv), .val (.int cv), .val (.int pv), .val (.int cd), .val (.int rp), .val (.int sv), .val (.int tv), .unset, .unset, .unset, .unset, .unset] [(.int (22 : Int32))])
              obtain ⟨T165, h165, b165, X165, e165, g165, E165, A165, st165⟩ := own_newarr XI hx hZ (hw _ (List.mem_of_getElem? (i := 2) rfl)) eI (g := (mkF m 165 #[.val (.long q1), .second, .val (.int p2), .val (.int p3), .val (.int p4), .val (.int p5), .val (.int p6), .val (.long u), .second, .val (.int nv), .val (.int ng), .val (.int fv), .val (.int rf), .val (.int qv), .val (.int cv), .val (.int pv), .val (.int cd), .val (.int rp), .val (.int sv), .val (.int tv), .unset, .unset, .unset, .unset, .unset] [(.int (22 : Int32))])) rfl (hb hby at_165) rfl (by decide) (cap := 22) (by decide) (by decide) (by decide) (by decide)
              have ge_b165 : n0 ≤ b165 := Nat.le_trans Z0 (Nat.le_of_eq g165.symm)
              have Z0_p165 : n0 ≤ h165.size := (Nat.le_trans Z0 E165.1)
              have A_b165 : own_A Z h165 b165 .byte 22 (fun _ => (.int (0 : Int32))) := A165
              refine hst st165 ?_
              show F T165 (mkF m 167 #[.val (.long q1), .second, .val (.int p2), .val (.int p3), .val (.int p4), .val (.int p5), .val (.int p6), .val (.long u), .second, .val (.int nv), .val (.int ng), .val (.int fv), .val (.int rf), .val (.int qv), .val (.int cv), .val (.int pv), .val (.int cd), .val (.int rp), .val (.int sv), .val (.int tv), .unset, .unset, .unset, .unset, .unset] [(.ref b165)])
              refine hst (fun t₀ k₀ => XS.dup X165.here hx rfl (hb hby at_167) rfl rfl k₀) ?_
              show F T165 (mkF m 168 #[.val (.long q1), .second, .val (.int p2), .val (.int p3), .val (.int p4), .val (.int p5), .val (.int p6), .val (.long u), .second, .val (.int nv), .val (.int ng), .val (.int fv), .val (.int rf), .val (.int qv), .val (.int cv), .val (.int pv), .val (.int cd), .val (.int rp), .val (.int sv), .val (.int tv), .unset, .unset, .unset, .unset, .unset] [(.ref b165), (.ref b165)])
              refine hst (fun t₀ k₀ => XS.iconst X165.here hx rfl (hb hby at_168) k₀) ?_
              show F T165 (mkF m 169 #[.val (.long q1), .second, .val (.int p2), .val (.int p3), .val (.int p4), .val (.int p5), .val (.int p6), .val (.long u), .second, .val (.int nv), .val (.int ng), .val (.int fv), .val (.int rf), .val (.int qv), .val (.int cv), .val (.int pv), .val (.int cd), .val (.int rp), .val (.int sv), .val (.int tv), .unset, .unset, .unset, .unset, .unset] [(.int (0 : Int32)), (.ref b165), (.ref b165)])
              refine hst (fun t₀ k₀ => XS.iconst X165.here hx rfl (hb hby at_169) k₀) ?_
              show F T165 (mkF m 170 #[.val (.long q1), .second, .val (.int p2), .val (.int p3), .val (.int p4), .val (.int p5), .val (.int p6), .val (.long u), .second, .val (.int nv), .val (.int ng), .val (.int fv), .val (.int rf), .val (.int qv), .val (.int cv), .val (.int pv), .val (.int cd), .val (.int rp), .val (.int sv), .val (.int tv), .unset, .unset, .unset, .unset, .unset] [(.int (0 : Int32)), (.int (0 : Int32)), (.ref b165), (.ref b165)])
              refine hst (fun t₀ k₀ => XS.iload X165.here hx rfl (hb hby at_170) rfl k₀) ?_
              show F T165 (mkF m 172 #[.val (.long q1), .second, .val (.int p2), .val (.int p3), .val (.int p4), .val (.int p5), .val (.int p6), .val (.long u), .second, .val (.int nv), .val (.int ng), .val (.int fv), .val (.int rf), .val (.int qv), .val (.int cv), .val (.int pv), .val (.int cd), .val (.int rp), .val (.int sv), .val (.int tv), .unset, .unset, .unset, .unset, .unset] [(.int fv), (.int (0 : Int32)), (.int (0 : Int32)), (.ref b165), (.ref b165)])
              refine hst (fun t₀ k₀ => XS.iload X165.here hx rfl (hb hby at_172) rfl k₀) ?_
              show F T165 (mkF m 174 #[.val (.long q1), .second, .val (.int p2), .val (.int p3), .val (.int p4), .val (.int p5), .val (.int p6), .val (.long u), .second, .val (.int nv), .val (.int ng), .val (.int fv), .val (.int rf), .val (.int qv), .val (.int cv), .val (.int pv), .val (.int cd), .val (.int rp), .val (.int sv), .val (.int tv), .unset, .unset, .unset, .unset, .unset] [(.int sv), (.int fv), (.int (0 : Int32)), (.int (0 : Int32)), (.ref b165), (.ref b165)])
              refine hst (fun t₀ k₀ => XS.iload X165.here hx rfl (hb hby at_174) rfl k₀) ?_
              show F T165 (mkF m 176 #[.val (.long q1), .second, .val (.int p2), .val (.int p3), .val (.int p4), .val (.int p5), .val (.int p6), .val (.long u), .second, .val (.int nv), .val (.int ng), .val (.int fv), .val (.int rf), .val (.int qv), .val (.int cv), .val (.int pv), .val (.int cd), .val (.int rp), .val (.int sv), .val (.int tv), .unset, .unset, .unset, .unset, .unset] [(.int tv), (.int sv), (.int fv), (.int (0 : Int32)), (.int (0 : Int32)), (.ref b165), (.ref b165)])
              refine hst (fun t₀ k₀ => XS.iload X165.here hx rfl (hb hby at_176) rfl k₀) ?_
              show F T165 (mkF m 178 #[.val (.long q1), .second, .val (.int p2), .val (.int p3), .val (.int p4), .val (.int p5), .val (.int p6), .val (.long u), .second, .val (.int nv), .val (.int ng), .val (.int fv), .val (.int rf), .val (.int qv), .val (.int cv), .val (.int pv), .val (.int cd), .val (.int rp), .val (.int sv), .val (.int tv), .unset, .unset, .unset, .unset, .unset] [(.int nv), (.int tv), (.int sv), (.int fv), (.int (0 : Int32)), (.int (0 : Int32)), (.ref b165), (.ref b165)])
              refine hst (fun t₀ k₀ => XS.lload X165.here hx rfl (hb hby at_178) rfl k₀) ?_
              show F T165 (mkF m 180 #[.val (.long q1), .second, .val (.int p2), .val (.int p3), .val (.int p4), .val (.int p5), .val (.int p6), .val (.long u), .second, .val (.int nv), .val (.int ng), .val (.int fv), .val (.int rf), .val (.int qv), .val (.int cv), .val (.int pv), .val (.int cd), .val (.int rp), .val (.int sv), .val (.int tv), .unset, .unset, .unset, .unset, .unset] [(.long u), (.int nv), (.int tv), (.int sv), (.int fv), (.int (0 : Int32)), (.int (0 : Int32)), (.ref b165), (.ref b165)])
              refine hst (fun t₀ k₀ => XS.iload X165.here hx rfl (hb hby at_180) rfl k₀) ?_
              show F T165 (mkF m 182 #[.val (.long q1), .second, .val (.int p2), .val (.int p3), .val (.int p4), .val (.int p5), .val (.int p6), .val (.long u), .second, .val (.int nv), .val (.int ng), .val (.int fv), .val (.int rf), .val (.int qv), .val (.int cv), .val (.int pv), .val (.int cd), .val (.int rp), .val (.int sv), .val (.int tv), .unset, .unset, .unset, .unset, .unset] [(.int qv), (.long u), (.int nv), (.int tv), (.int sv), (.int fv), (.int (0 : Int32)), (.int (0 : Int32)), (.ref b165), (.ref b165)])
              refine hst (fun t₀ k₀ => XS.iload X165.here hx rfl (hb hby at_182) rfl k₀) ?_
              show F T165 (mkF m 184 #[.val (.long q1), .second, .val (.int p2), .val (.int p3), .val (.int p4), .val (.int p5), .val (.int p6), .val (.long u), .second, .val (.int nv), .val (.int ng), .val (.int fv), .val (.int rf), .val (.int qv), .val (.int cv), .val (.int pv), .val (.int cd), .val (.int rp), .val (.int sv), .val (.int tv), .unset, .unset, .unset, .unset, .unset] [(.int cv), (.int qv), (.long u), (.int nv), (.int tv), (.int sv), (.int fv), (.int (0 : Int32)), (.int (0 : Int32)), (.ref b165), (.ref b165)])
              refine hst (fun t₀ k₀ => XS.iload X165.here hx rfl (hb hby at_184) rfl k₀) ?_
              show F T165 (mkF m 186 #[.val (.long q1), .second, .val (.int p2), .val (.int p3), .val (.int p4), .val (.int p5), .val (.int p6), .val (.long u), .second, .val (.int nv), .val (.int ng), .val (.int fv), .val (.int rf), .val (.int qv), .val (.int cv), .val (.int pv), .val (.int cd), .val (.int rp), .val (.int sv), .val (.int tv), .unset, .unset, .unset, .unset, .unset] [(.int rp), (.int cv), (.int qv), (.long u), (.int nv), (.int tv), (.int sv), (.int fv), (.int (0 : Int32)), (.int (0 : Int32)), (.ref b165), (.ref b165)])
              refine hst (fun t₀ k₀ => XS.iload X165.here hx rfl (hb hby at_186) rfl k₀) ?_
              show F T165 (mkF m 188 #[.val (.long q1), .second, .val (.int p2), .val (.int p3), .val (.int p4), .val (.int p5), .val (.int p6), .val (.long u), .second, .val (.int nv), .val (.int ng), .val (.int fv), .val (.int rf), .val (.int qv), .val (.int cv), .val (.int pv), .val (.int cd), .val (.int rp), .val (.int sv), .val (.int tv), .unset, .unset, .unset, .unset, .unset] [(.int pv), (.int rp), (.int cv), (.int qv), (.long u), (.int nv), (.int tv), (.int sv), (.int fv), (.int (0 : Int32)), (.int (0 : Int32)), (.ref b165), (.ref b165)])
              obtain ⟨v188, T188, Lc188, X188, hQ188, st188⟩ := own_callS X165 hx hZ hown (y := (⟨"com/example/leafline/leafline/table/IntegerValueParsePlainPinLaw", "cell", "(IIIIIJIBZB)B"⟩ : MethodName)) (hw _ (List.mem_of_getElem? (i := 3) rfl)) (hw _ (List.mem_of_getElem? (i := 4) rfl)) (hw _ (List.mem_of_getElem? (i := 5) rfl)) (hw _ (List.mem_of_getElem? (i := 6) rfl)) (by decide) e165 (rm1 l Z a0 hw [] (0 : Int32) fv sv tv nv u qv cv rp pv 0 f s' (s' + n) n U Q h165 n0 Z0_p165 (by decide) hf hs ktv hn hU hq rfl hn2 hs2) (by decide) (by decide) (g := (mkF m 188 #[.val (.long q1), .second, .val (.int p2), .val (.int p3), .val (.int p4), .val (.int p5), .val (.int p6), .val (.long u), .second, .val (.int nv), .val (.int ng), .val (.int fv), .val (.int rf), .val (.int qv), .val (.int cv), .val (.int pv), .val (.int cd), .val (.int rp), .val (.int sv), .val (.int tv), .unset, .unset, .unset, .unset, .unset] [(.int pv), (.int rp), (.int cv), (.int qv), (.long u), (.int nv), (.int tv), (.int sv), (.int fv), (.int (0 : Int32)), (.int (0 : Int32)), (.ref b165), (.ref b165)])) rfl (by rw [hml]; rfl) (argsL := [(.int (0 : Int32)), (.int fv), (.int sv), (.int tv), (.int nv), (.long u), (.int qv), (.int cv), (.int rp), (.int pv)]) (rest := [(.int (0 : Int32)), (.ref b165), (.ref b165)]) (lenOf pd_1 rfl) rfl rfl (W := 3) (by show 2 * 0 + _ ≤ _; exact Nat.le_of_eq rfl) (hb hby at_188) (by decide) (by decide)
              obtain ⟨rfl, Nq188, K188⟩ := hQ188
              have N188 := Fr.app NI Nq188
              have A_b165_p188 : own_A Z T188.heap b165 .byte 22 (fun _ => (.int (0 : Int32))) := A_b165.keep K188 (List.not_mem_nil)
              have Z0_p188 : n0 ≤ T188.heap.size := Nat.le_trans Z0_p165 K188.1
              refine hst st188 ?_
              show F T188 (mkF m 191 #[.val (.long q1), .second, .val (.int p2), .val (.int p3), .val (.int p4), .val (.int p5), .val (.int p6), .val (.long u), .second, .val (.int nv), .val (.int ng), .val (.int fv), .val (.int rf), .val (.int qv), .val (.int cv), .val (.int pv), .val (.int cd), .val (.int rp), .val (.int sv), .val (.int tv), .unset, .unset, .unset, .unset, .unset] [(.int (nar .byte (own_cellv 0 f s' (s' + n) n U Q cv rp pv))), (.int (0 : Int32)), (.ref b165), (.ref b165)])
              obtain ⟨T191, h191, X191, e191, W191, st191⟩ := own_bastore X188 hx hZ rfl A_b165_p188 (by decide) (g := (mkF m 191 #[.val (.long q1), .second, .val (.int p2), .val (.int p3), .val (.int p4), .val (.int p5), .val (.int p6), .val (.long u), .second, .val (.int nv), .val (.int ng), .val (.int fv), .val (.int rf), .val (.int qv), .val (.int cv), .val (.int pv), .val (.int cd), .val (.int rp), .val (.int sv), .val (.int tv), .unset, .unset, .unset, .unset, .unset] [(.int (nar .byte (own_cellv 0 f s' (s' + n) n U Q cv rp pv))), (.int (0 : Int32)), (.ref b165), (.ref b165)])) rfl rfl (hb hby at_191)
              have N191 := Fr.snoc X191 N188 ge_b165
              have A_b165_p191 : own_A Z h191 b165 .byte 22 (fun i => if i = Int32.toNatClampNeg (0 : Int32) then (.int (nar .byte (nar .byte (own_cellv 0 f s' (s' + n) n U Q cv rp pv)))) else (fun _ => (.int (0 : Int32))) i) := A_b165_p188.set W191
              have Z0_p191 : n0 ≤ h191.size := Nat.le_trans Z0_p188 (Keep.of_wr W191).1
              refine hst st191 ?_
              have A_b165_p191c : own_A Z h191 b165 .byte 22 (fun i => .int (own_pre G 1 i)) := own_A.congr A_b165_p191 (fun i hi => by rw [show Int32.toNatClampNeg (0 : Int32) = 0 from rfl]; dsimp only; rw [own_pre0 G i]; exact own_pre_step G 0 i _ (by rw [hG]))
              show F T191 (mkF m 192 #[.val (.long q1), .second, .val (.int p2), .val (.int p3), .val (.int p4), .val (.int p5), .val (.int p6), .val (.long u), .second, .val (.int nv), .val (.int ng), .val (.int fv), .val (.int rf), .val (.int qv), .val (.int cv), .val (.int pv), .val (.int cd), .val (.int rp), .val (.int sv), .val (.int tv), .unset, .unset, .unset, .unset, .unset] [(.ref b165)])
              refine hst (fun t₀ k₀ => XS.dup X191.here hx rfl (hb hby at_192) rfl rfl k₀) ?_
              show F T191 (mkF m 193 #[.val (.long q1), .second, .val (.int p2), .val (.int p3), .val (.int p4), .val (.int p5), .val (.int p6), .val (.long u), .second, .val (.int nv), .val (.int ng), .val (.int fv), .val (.int rf), .val (.int qv), .val (.int cv), .val (.int pv), .val (.int cd), .val (.int rp), .val (.int sv), .val (.int tv), .unset, .unset, .unset, .unset, .unset] [(.ref b165), (.ref b165)])
              refine hst (fun t₀ k₀ => XS.iconst X191.here hx rfl (hb hby at_193) k₀) ?_
              show F T191 (mkF m 194 #[.val (.long q1), .second, .val (.int p2), .val (.int p3), .val (.int p4), .val (.int p5), .val (.int p6), .val (.long u), .second, .val (.int nv), .val (.int ng), .val (.int fv), .val (.int rf), .val (.int qv), .val (.int cv), .val (.int pv), .val (.int cd), .val (.int rp), .val (.int sv), .val (.int tv), .unset, .unset, .unset, .unset, .unset] [(.int (1 : Int32)), (.ref b165), (.ref b165)])
              refine hst (fun t₀ k₀ => XS.iconst X191.here hx rfl (hb hby at_194) k₀) ?_
              show F T191 (mkF m 195 #[.val (.long q1), .second, .val (.int p2), .val (.int p3), .val (.int p4), .val (.int p5), .val (.int p6), .val (.long u), .second, .val (.int nv), .val (.int ng), .val (.int fv), .val (.int rf), .val (.int qv), .val (.int cv), .val (.int pv), .val (.int cd), .val (.int rp), .val (.int sv), .val (.int tv), .unset, .unset, .unset, .unset, .unset] [(.int (1 : Int32)), (.int (1 : Int32)), (.ref b165), (.ref b165)])
              refine hst (fun t₀ k₀ => XS.iload X191.here hx rfl (hb hby at_195) rfl k₀) ?_
              show F T191 (mkF m 197 #[.val (.long q1), .second, .val (.int p2), .val (.int p3), .val (.int p4), .val (.int p5), .val (.int p6), .val (.long u), .second, .val (.int nv), .val (.int ng), .val (.int fv), .val (.int rf), .val (.int qv), .val (.int cv), .val (.int pv), .val (.int cd), .val (.int rp), .val (.int sv), .val (.int tv), .unset, .unset, .unset, .unset, .unset] [(.int fv), (.int (1 : Int32)), (.int (1 : Int32)), (.ref b165), (.ref b165)])
              refine hst (fun t₀ k₀ => XS.iload X191.here hx rfl (hb hby at_197) rfl k₀) ?_
              show F T191 (mkF m 199 #[.val (.long q1), .second, .val (.int p2), .val (.int p3), .val (.int p4), .val (.int p5), .val (.int p6), .val (.long u), .second, .val (.int nv), .val (.int ng), .val (.int fv), .val (.int rf), .val (.int qv), .val (.int cv), .val (.int pv), .val (.int cd), .val (.int rp), .val (.int sv), .val (.int tv), .unset, .unset, .unset, .unset, .unset] [(.int sv), (.int fv), (.int (1 : Int32)), (.int (1 : Int32)), (.ref b165), (.ref b165)])
              refine hst (fun t₀ k₀ => XS.iload X191.here hx rfl (hb hby at_199) rfl k₀) ?_
              show F T191 (mkF m 201 #[.val (.long q1), .second, .val (.int p2), .val (.int p3), .val (.int p4), .val (.int p5), .val (.int p6), .val (.long u), .second, .val (.int nv), .val (.int ng), .val (.int fv), .val (.int rf), .val (.int qv), .val (.int cv), .val (.int pv), .val (.int cd), .val (.int rp), .val (.int sv), .val (.int tv), .unset, .unset, .unset, .unset, .unset] [(.int tv), (.int sv), (.int fv), (.int (1 : Int32)), (.int (1 : Int32)), (.ref b165), (.ref b165)])
              refine hst (fun t₀ k₀ => XS.iload X191.here hx rfl (hb hby at_201) rfl k₀) ?_
              show F T191 (mkF m 203 #[.val (.long q1), .second, .val (.int p2), .val (.int p3), .val (.int p4), .val (.int p5), .val (.int p6), .val (.long u), .second, .val (.int nv), .val (.int ng), .val (.int fv), .val (.int rf), .val (.int qv), .val (.int cv), .val (.int pv), .val (.int cd), .val (.int rp), .val (.int sv), .val (.int tv), .unset, .unset, .unset, .unset, .unset] [(.int nv), (.int tv), (.int sv), (.int fv), (.int (1 : Int32)), (.int (1 : Int32)), (.ref b165), (.ref b165)])
              refine hst (fun t₀ k₀ => XS.lload X191.here hx rfl (hb hby at_203) rfl k₀) ?_
              show F T191 (mkF m 205 #[.val (.long q1), .second, .val (.int p2), .val (.int p3), .val (.int p4), .val (.int p5), .val (.int p6), .val (.long u), .second, .val (.int nv), .val (.int ng), .val (.int fv), .val (.int rf), .val (.int qv), .val (.int cv), .val (.int pv), .val (.int cd), .val (.int rp), .val (.int sv), .val (.int tv), .unset, .unset, .unset, .unset, .unset] [(.long u), (.int nv), (.int tv), (.int sv), (.int fv), (.int (1 : Int32)), (.int (1 : Int32)), (.ref b165), (.ref b165)])
              refine hst (fun t₀ k₀ => XS.iload X191.here hx rfl (hb hby at_205) rfl k₀) ?_
              show F T191 (mkF m 207 #[.val (.long q1), .second, .val (.int p2), .val (.int p3), .val (.int p4), .val (.int p5), .val (.int p6), .val (.long u), .second, .val (.int nv), .val (.int ng), .val (.int fv), .val (.int rf), .val (.int qv), .val (.int cv), .val (.int pv), .val (.int cd), .val (.int rp), .val (.int sv), .val (.int tv), .unset, .unset, .unset, .unset, .unset] [(.int qv), (.long u), (.int nv), (.int tv), (.int sv), (.int fv), (.int (1 : Int32)), (.int (1 : Int32)), (.ref b165), (.ref b165)])
              refine hst (fun t₀ k₀ => XS.iload X191.here hx rfl (hb hby at_207) rfl k₀) ?_
              show F T191 (mkF m 209 #[.val (.long q1), .second, .val (.int p2), .val (.int p3), .val (.int p4), .val (.int p5), .val (.int p6), .val (.long u), .second, .val (.int nv), .val (.int ng), .val (.int fv), .val (.int rf), .val (.int qv), .val (.int cv), .val (.int pv), .val (.int cd), .val (.int rp), .val (.int sv), .val (.int tv), .unset, .unset, .unset, .unset, .unset] [(.int cv), (.int qv), (.long u), (.int nv), (.int tv), (.int sv), (.int fv), (.int (1 : Int32)), (.int (1 : Int32)), (.ref b165), (.ref b165)])
              refine hst (fun t₀ k₀ => XS.iload X191.here hx rfl (hb hby at_209) rfl k₀) ?_
              show F T191 (mkF m 211 #[.val (.long q1), .second, .val (.int p2), .val (.int p3), .val (.int p4), .val (.int p5), .val (.int p6), .val (.long u), .second, .val (.int nv), .val (.int ng), .val (.int fv), .val (.int rf), .val (.int qv), .val (.int cv), .val (.int pv), .val (.int cd), .val (.int rp), .val (.int sv), .val (.int tv), .unset, .unset, .unset, .unset, .unset] [(.int rp), (.int cv), (.int qv), (.long u), (.int nv), (.int tv), (.int sv), (.int fv), (.int (1 : Int32)), (.int (1 : Int32)), (.ref b165), (.ref b165)])
              refine hst (fun t₀ k₀ => XS.iload X191.here hx rfl (hb hby at_211) rfl k₀) ?_
              show F T191 (mkF m 213 #[.val (.long q1), .second, .val (.int p2), .val (.int p3), .val (.int p4), .val (.int p5), .val (.int p6), .val (.long u), .second, .val (.int nv), .val (.int ng), .val (.int fv), .val (.int rf), .val (.int qv), .val (.int cv), .val (.int pv), .val (.int cd), .val (.int rp), .val (.int sv), .val (.int tv), .unset, .unset, .unset, .unset, .unset] [(.int pv), (.int rp), (.int cv), (.int qv), (.long u), (.int nv), (.int tv), (.int sv), (.int fv), (.int (1 : Int32)), (.int (1 : Int32)), (.ref b165), (.ref b165)])
              obtain ⟨v213, T213, Lc213, X213, hQ213, st213⟩ := own_callS X191 hx hZ hown (y := (⟨"com/example/leafline/leafline/table/IntegerValueParsePlainPinLaw", "cell", "(IIIIIJIBZB)B"⟩ : MethodName)) (hw _ (List.mem_of_getElem? (i := 3) rfl)) (hw _ (List.mem_of_getElem? (i := 4) rfl)) (hw _ (List.mem_of_getElem? (i := 5) rfl)) (hw _ (List.mem_of_getElem? (i := 6) rfl)) (by decide) e191 (rm1 l Z a0 hw [] (1 : Int32) fv sv tv nv u qv cv rp pv 1 f s' (s' + n) n U Q h191 n0 Z0_p191 (by decide) hf hs ktv hn hU hq rfl hn2 hs2) (by decide) (by decide) (g := (mkF m 213 #[.val (.long q1), .second, .val (.int p2), .val (.int p3), .val (.int p4), .val (.int p5), .val (.int p6), .val (.long u), .second, .val (.int nv), .val (.int ng), .val (.int fv), .val (.int rf), .val (.int qv), .val (.int cv), .val (.int pv), .val (.int cd), .val (.int rp), .val (.int sv), .val (.int tv), .unset, .unset, .unset, .unset, .unset] [(.int pv), (.int rp), (.int cv), (.int qv), (.long u), (.int nv), (.int tv), (.int sv), (.int fv), (.int (1 : Int32)), (.int (1 : Int32)), (.ref b165), (.ref b165)])) rfl (by rw [hml]; rfl) (argsL := [(.int (1 : Int32)), (.int fv), (.int sv), (.int tv), (.int nv), (.long u), (.int qv), (.int cv), (.int rp), (.int pv)]) (rest := [(.int (1 : Int32)), (.ref b165), (.ref b165)]) (lenOf pd_1 rfl) rfl rfl (W := 3) (by show 2 * 0 + _ ≤ _; exact Nat.le_of_eq rfl) (hb hby at_213) (by decide) (by decide)
              obtain ⟨rfl, Nq213, K213⟩ := hQ213
              have N213 := Fr.app N191 Nq213
              have A_b165_p213 : own_A Z T213.heap b165 .byte 22 (fun i => .int (own_pre G 1 i)) := A_b165_p191c.keep K213 (List.not_mem_nil)
              have Z0_p213 : n0 ≤ T213.heap.size := Nat.le_trans Z0_p191 K213.1
              refine hst st213 ?_
              show F T213 (mkF m 216 #[.val (.long q1), .second, .val (.int p2), .val (.int p3), .val (.int p4), .val (.int p5), .val (.int p6), .val (.long u), .second, .val (.int nv), .val (.int ng), .val (.int fv), .val (.int rf), .val (.int qv), .val (.int cv), .val (.int pv), .val (.int cd), .val (.int rp), .val (.int sv), .val (.int tv), .unset, .unset, .unset, .unset, .unset] [(.int (nar .byte (own_cellv 1 f s' (s' + n) n U Q cv rp pv))), (.int (1 : Int32)), (.ref b165), (.ref b165)])
              obtain ⟨T216, h216, X216, e216, W216, st216⟩ := own_bastore X213 hx hZ rfl A_b165_p213 (by decide) (g := (mkF m 216 #[.val (.long q1), .second, .val (.int p2), .val (.int p3), .val (.int p4), .val (.int p5), .val (.int p6), .val (.long u), .second, .val (.int nv), .val (.int ng), .val (.int fv), .val (.int rf), .val (.int qv), .val (.int cv), .val (.int pv), .val (.int cd), .val (.int rp), .val (.int sv), .val (.int tv), .unset, .unset, .unset, .unset, .unset] [(.int (nar .byte (own_cellv 1 f s' (s' + n) n U Q cv rp pv))), (.int (1 : Int32)), (.ref b165), (.ref b165)])) rfl rfl (hb hby at_216)
              have N216 := Fr.snoc X216 N213 ge_b165
              have A_b165_p216 : own_A Z h216 b165 .byte 22 (fun i => if i = Int32.toNatClampNeg (1 : Int32) then (.int (nar .byte (nar .byte (own_cellv 1 f s' (s' + n) n U Q cv rp pv)))) else (fun i => .int (own_pre G 1 i)) i) := A_b165_p213.set W216
              have Z0_p216 : n0 ≤ h216.size := Nat.le_trans Z0_p213 (Keep.of_wr W216).1
              refine hst st216 ?_
              have A_b165_p216c : own_A Z h216 b165 .byte 22 (fun i => .int (own_pre G 2 i)) := own_A.congr A_b165_p216 (fun i hi => by rw [show Int32.toNatClampNeg (1 : Int32) = 1 from rfl]; exact own_pre_step G 1 i _ (by rw [hG]))
              show F T216 (mkF m 217 #[.val (.long q1), .second, .val (.int p2), .val (.int p3), .val (.int p4), .val (.int p5), .val (.int p6), .val (.long u), .second, .val (.int nv), .val (.int ng), .val (.int fv), .val (.int rf), .val (.int qv), .val (.int cv), .val (.int pv), .val (.int cd), .val (.int rp), .val (.int sv), .val (.int tv), .unset, .unset, .unset, .unset, .unset] [(.ref b165)])
              refine hst (fun t₀ k₀ => XS.dup X216.here hx rfl (hb hby at_217) rfl rfl k₀) ?_
              show F T216 (mkF m 218 #[.val (.long q1), .second, .val (.int p2), .val (.int p3), .val (.int p4), .val (.int p5), .val (.int p6), .val (.long u), .second, .val (.int nv), .val (.int ng), .val (.int fv), .val (.int rf), .val (.int qv), .val (.int cv), .val (.int pv), .val (.int cd), .val (.int rp), .val (.int sv), .val (.int tv), .unset, .unset, .unset, .unset, .unset] [(.ref b165), (.ref b165)])
              refine hst (fun t₀ k₀ => XS.iconst X216.here hx rfl (hb hby at_218) k₀) ?_
              show F T216 (mkF m 219 #[.val (.long q1), .second, .val (.int p2), .val (.int p3), .val (.int p4), .val (.int p5), .val (.int p6), .val (.long u), .second, .val (.int nv), .val (.int ng), .val (.int fv), .val (.int rf), .val (.int qv), .val (.int cv), .val (.int pv), .val (.int cd), .val (.int rp), .val (.int sv), .val (.int tv), .unset, .unset, .unset, .unset, .unset] [(.int (2 : Int32)), (.ref b165), (.ref b165)])
              refine hst (fun t₀ k₀ => XS.iconst X216.here hx rfl (hb hby at_219) k₀) ?_
              show F T216 (mkF m 220 #[.val (.long q1), .second, .val (.int p2), .val (.int p3), .val (.int p4), .val (.int p5), .val (.int p6), .val (.long u), .second, .val (.int nv), .val (.int ng), .val (.int fv), .val (.int rf), .val (.int qv), .val (.int cv), .val (.int pv), .val (.int cd), .val (.int rp), .val (.int sv), .val (.int tv), .unset, .unset, .unset, .unset, .unset] [(.int (2 : Int32)), (.int (2 : Int32)), (.ref b165), (.ref b165)])
              refine hst (fun t₀ k₀ => XS.iload X216.here hx rfl (hb hby at_220) rfl k₀) ?_
              show F T216 (mkF m 222 #[.val (.long q1), .second, .val (.int p2), .val (.int p3), .val (.int p4), .val (.int p5), .val (.int p6), .val (.long u), .second, .val (.int nv), .val (.int ng), .val (.int fv), .val (.int rf), .val (.int qv), .val (.int cv), .val (.int pv), .val (.int cd), .val (.int rp), .val (.int sv), .val (.int tv), .unset, .unset, .unset, .unset, .unset] [(.int fv), (.int (2 : Int32)), (.int (2 : Int32)), (.ref b165), (.ref b165)])
              refine hst (fun t₀ k₀ => XS.iload X216.here hx rfl (hb hby at_222) rfl k₀) ?_
              show F T216 (mkF m 224 #[.val (.long q1), .second, .val (.int p2), .val (.int p3), .val (.int p4), .val (.int p5), .val (.int p6), .val (.long u), .second, .val (.int nv), .val (.int ng), .val (.int fv), .val (.int rf), .val (.int qv), .val (.int cv), .val (.int pv), .val (.int cd), .val (.int rp), .val (.int sv), .val (.int tv), .unset, .unset, .unset, .unset, .unset] [(.int sv), (.int fv), (.int (2 : Int32)), (.int (2 : Int32)), (.ref b165), (.ref b165)])
              refine hst (fun t₀ k₀ => XS.iload X216.here hx rfl (hb hby at_224) rfl k₀) ?_
              show F T216 (mkF m 226 #[.val (.long q1), .second, .val (.int p2), .val (.int p3), .val (.int p4), .val (.int p5), .val (.int p6), .val (.long u), .second, .val (.int nv), .val (.int ng), .val (.int fv), .val (.int rf), .val (.int qv), .val (.int cv), .val (.int pv), .val (.int cd), .val (.int rp), .val (.int sv), .val (.int tv), .unset, .unset, .unset, .unset, .unset] [(.int tv), (.int sv), (.int fv), (.int (2 : Int32)), (.int (2 : Int32)), (.ref b165), (.ref b165)])
              refine hst (fun t₀ k₀ => XS.iload X216.here hx rfl (hb hby at_226) rfl k₀) ?_
              show F T216 (mkF m 228 #[.val (.long q1), .second, .val (.int p2), .val (.int p3), .val (.int p4), .val (.int p5), .val (.int p6), .val (.long u), .second, .val (.int nv), .val (.int ng), .val (.int fv), .val (.int rf), .val (.int qv), .val (.int cv), .val (.int pv), .val (.int cd), .val (.int rp), .val (.int sv), .val (.int tv), .unset, .unset, .unset, .unset, .unset] [(.int nv), (.int tv), (.int sv), (.int fv), (.int (2 : Int32)), (.int (2 : Int32)), (.ref b165), (.ref b165)])
              refine hst (fun t₀ k₀ => XS.lload X216.here hx rfl (hb hby at_228) rfl k₀) ?_
              show F T216 (mkF m 230 #[.val (.long q1), .second, .val (.int p2), .val (.int p3), .val (.int p4), .val (.int p5), .val (.int p6), .val (.long u), .second, .val (.int nv), .val (.int ng), .val (.int fv), .val (.int rf), .val (.int qv), .val (.int cv), .val (.int pv), .val (.int cd), .val (.int rp), .val (.int sv), .val (.int tv), .unset, .unset, .unset, .unset, .unset] [(.long u), (.int nv), (.int tv), (.int sv), (.int fv), (.int (2 : Int32)), (.int (2 : Int32)), (.ref b165), (.ref b165)])
              refine hst (fun t₀ k₀ => XS.iload X216.here hx rfl (hb hby at_230) rfl k₀) ?_
              show F T216 (mkF m 232 #[.val (.long q1), .second, .val (.int p2), .val (.int p3), .val (.int p4), .val (.int p5), .val (.int p6), .val (.long u), .second, .val (.int nv), .val (.int ng), .val (.int fv), .val (.int rf), .val (.int qv), .val (.int cv), .val (.int pv), .val (.int cd), .val (.int rp), .val (.int sv), .val (.int tv), .unset, .unset, .unset, .unset, .unset] [(.int qv), (.long u), (.int nv), (.int tv), (.int sv), (.int fv), (.int (2 : Int32)), (.int (2 : Int32)), (.ref b165), (.ref b165)])
              refine hst (fun t₀ k₀ => XS.iload X216.here hx rfl (hb hby at_232) rfl k₀) ?_
              show F T216 (mkF m 234 #[.val (.long q1), .second, .val (.int p2), .val (.int p3), .val (.int p4), .val (.int p5), .val (.int p6), .val (.long u), .second, .val (.int nv), .val (.int ng), .val (.int fv), .val (.int rf), .val (.int qv), .val (.int cv), .val (.int pv), .val (.int cd), .val (.int rp), .val (.int sv), .val (.int tv), .unset, .unset, .unset, .unset, .unset] [(.int cv), (.int qv), (.long u), (.int nv), (.int tv), (.int sv), (.int fv), (.int (2 : Int32)), (.int (2 : Int32)), (.ref b165), (.ref b165)])
              refine hst (fun t₀ k₀ => XS.iload X216.here hx rfl (hb hby at_234) rfl k₀) ?_
              show F T216 (mkF m 236 #[.val (.long q1), .second, .val (.int p2), .val (.int p3), .val (.int p4), .val (.int p5), .val (.int p6), .val (.long u), .second, .val (.int nv), .val (.int ng), .val (.int fv), .val (.int rf), .val (.int qv), .val (.int cv), .val (.int pv), .val (.int cd), .val (.int rp), .val (.int sv), .val (.int tv), .unset, .unset, .unset, .unset, .unset] [(.int rp), (.int cv), (.int qv), (.long u), (.int nv), (.int tv), (.int sv), (.int fv), (.int (2 : Int32)), (.int (2 : Int32)), (.ref b165), (.ref b165)])
              refine hst (fun t₀ k₀ => XS.iload X216.here hx rfl (hb hby at_236) rfl k₀) ?_
              show F T216 (mkF m 238 #[.val (.long q1), .second, .val (.int p2), .val (.int p3), .val (.int p4), .val (.int p5), .val (.int p6), .val (.long u), .second, .val (.int nv), .val (.int ng), .val (.int fv), .val (.int rf), .val (.int qv), .val (.int cv), .val (.int pv), .val (.int cd), .val (.int rp), .val (.int sv), .val (.int tv), .unset, .unset, .unset, .unset, .unset] [(.int pv), (.int rp), (.int cv), (.int qv), (.long u), (.int nv), (.int tv), (.int sv), (.int fv), (.int (2 : Int32)), (.int (2 : Int32)), (.ref b165), (.ref b165)])
              obtain ⟨v238, T238, Lc238, X238, hQ238, st238⟩ := own_callS X216 hx hZ hown (y := (⟨"com/example/leafline/leafline/table/IntegerValueParsePlainPinLaw", "cell", "(IIIIIJIBZB)B"⟩ : MethodName)) (hw _ (List.mem_of_getElem? (i := 3) rfl)) (hw _ (List.mem_of_getElem? (i := 4) rfl)) (hw _ (List.mem_of_getElem? (i := 5) rfl)) (hw _ (List.mem_of_getElem? (i := 6) rfl)) (by decide) e216 (rm1 l Z a0 hw [] (2 : Int32) fv sv tv nv u qv cv rp pv 2 f s' (s' + n) n U Q h216 n0 Z0_p216 (by decide) hf hs ktv hn hU hq rfl hn2 hs2) (by decide) (by decide) (g := (mkF m 238 #[.val (.long q1), .second, .val (.int p2), .val (.int p3), .val (.int p4), .val (.int p5), .val (.int p6), .val (.long u), .second, .val (.int nv), .val (.int ng), .val (.int fv), .val (.int rf), .val (.int qv), .val (.int cv), .val (.int pv), .val (.int cd), .val (.int rp), .val (.int sv), .val (.int tv), .unset, .unset, .unset, .unset, .unset] [(.int pv), (.int rp), (.int cv), (.int qv), (.long u), (.int nv), (.int tv), (.int sv), (.int fv), (.int (2 : Int32)), (.int (2 : Int32)), (.ref b165), (.ref b165)])) rfl (by rw [hml]; rfl) (argsL := [(.int (2 : Int32)), (.int fv), (.int sv), (.int tv), (.int nv), (.long u), (.int qv), (.int cv), (.int rp), (.int pv)]) (rest := [(.int (2 : Int32)), (.ref b165), (.ref b165)]) (lenOf pd_1 rfl) rfl rfl (W := 3) (by show 2 * 0 + _ ≤ _; exact Nat.le_of_eq rfl) (hb hby at_238) (by decide) (by decide)
              obtain ⟨rfl, Nq238, K238⟩ := hQ238
              have N238 := Fr.app N216 Nq238
              have A_b165_p238 : own_A Z T238.heap b165 .byte 22 (fun i => .int (own_pre G 2 i)) := A_b165_p216c.keep K238 (List.not_mem_nil)
              have Z0_p238 : n0 ≤ T238.heap.size := Nat.le_trans Z0_p216 K238.1
              refine hst st238 ?_
              show F T238 (mkF m 241 #[.val (.long q1), .second, .val (.int p2), .val (.int p3), .val (.int p4), .val (.int p5), .val (.int p6), .val (.long u), .second, .val (.int nv), .val (.int ng), .val (.int fv), .val (.int rf), .val (.int qv), .val (.int cv), .val (.int pv), .val (.int cd), .val (.int rp), .val (.int sv), .val (.int tv), .unset, .unset, .unset, .unset, .unset] [(.int (nar .byte (own_cellv 2 f s' (s' + n) n U Q cv rp pv))), (.int (2 : Int32)), (.ref b165), (.ref b165)])
              obtain ⟨T241, h241, X241, e241, W241, st241⟩ := own_bastore X238 hx hZ rfl A_b165_p238 (by decide) (g := (mkF m 241 #[.val (.long q1), .second, .val (.int p2), .val (.int p3), .val (.int p4), .val (.int p5), .val (.int p6), .val (.long u), .second, .val (.int nv), .val (.int ng), .val (.int fv), .val (.int rf), .val (.int qv), .val (.int cv), .val (.int pv), .val (.int cd), .val (.int rp), .val (.int sv), .val (.int tv), .unset, .unset, .unset, .unset, .unset] [(.int (nar .byte (own_cellv 2 f s' (s' + n) n U Q cv rp pv))), (.int (2 : Int32)), (.ref b165), (.ref b165)])) rfl rfl (hb hby at_241)
              have N241 := Fr.snoc X241 N238 ge_b165
              have A_b165_p241 : own_A Z h241 b165 .byte 22 (fun i => if i = Int32.toNatClampNeg (2 : Int32) then (.int (nar .byte (nar .byte (own_cellv 2 f s' (s' + n) n U Q cv rp pv)))) else (fun i => .int (own_pre G 2 i)) i) := A_b165_p238.set W241
              have Z0_p241 : n0 ≤ h241.size := Nat.le_trans Z0_p238 (Keep.of_wr W241).1
              refine hst st241 ?_
              have A_b165_p241c : own_A Z h241 b165 .byte 22 (fun i => .int (own_pre G 3 i)) := own_A.congr A_b165_p241 (fun i hi => by rw [show Int32.toNatClampNeg (2 : Int32) = 2 from rfl]; exact own_pre_step G 2 i _ (by rw [hG]))
              show F T241 (mkF m 242 #[.val (.long q1), .second, .val (.int p2), .val (.int p3), .val (.int p4), .val (.int p5), .val (.int p6), .val (.long u), .second, .val (.int nv), .val (.int ng), .val (.int fv), .val (.int rf), .val (.int qv), .val (.int cv), .val (.int pv), .val (.int cd), .val (.int rp), .val (.int sv), .val (.int tv), .unset, .unset, .unset, .unset, .unset] [(.ref b165)])
              refine hst (fun t₀ k₀ => XS.dup X241.here hx rfl (hb hby at_242) rfl rfl k₀) ?_
              show F T241 (mkF m 243 #[.val (.long q1), .second, .val (.int p2), .val (.int p3), .val (.int p4), .val (.int p5), .val (.int p6), .val (.long u), .second, .val (.int nv), .val (.int ng), .val (.int fv), .val (.int rf), .val (.int qv), .val (.int cv), .val (.int pv), .val (.int cd), .val (.int rp), .val (.int sv), .val (.int tv), .unset, .unset, .unset, .unset, .unset] [(.ref b165), (.ref b165)])
              refine hst (fun t₀ k₀ => XS.iconst X241.here hx rfl (hb hby at_243) k₀) ?_
              show F T241 (mkF m 244 #[.val (.long q1), .second, .val (.int p2), .val (.int p3), .val (.int p4), .val (.int p5), .val (.int p6), .val (.long u), .second, .val (.int nv), .val (.int ng), .val (.int fv), .val (.int rf), .val (.int qv), .val (.int cv), .val (.int pv), .val (.int cd), .val (.int rp), .val (.int sv), .val (.int tv), .unset, .unset, .unset, .unset, .unset] [(.int (3 : Int32)), (.ref b165), (.ref b165)])
              refine hst (fun t₀ k₀ => XS.iconst X241.here hx rfl (hb hby at_244) k₀) ?_
              show F T241 (mkF m 245 #[.val (.long q1), .second, .val (.int p2), .val (.int p3), .val (.int p4), .val (.int p5), .val (.int p6), .val (.long u), .second, .val (.int nv), .val (.int ng), .val (.int fv), .val (.int rf), .val (.int qv), .val (.int cv), .val (.int pv), .val (.int cd), .val (.int rp), .val (.int sv), .val (.int tv), .unset, .unset, .unset, .unset, .unset] [(.int (3 : Int32)), (.int (3 : Int32)), (.ref b165), (.ref b165)])
              refine hst (fun t₀ k₀ => XS.iload X241.here hx rfl (hb hby at_245) rfl k₀) ?_
              show F T241 (mkF m 247 #[.val (.long q1), .second, .val (.int p2), .val (.int p3), .val (.int p4), .val (.int p5), .val (.int p6), .val (.long u), .second, .val (.int nv), .val (.int ng), .val (.int fv), .val (.int rf), .val (.int qv), .val (.int cv), .val (.int pv), .val (.int cd), .val (.int rp), .val (.int sv), .val (.int tv), .unset, .unset, .unset, .unset, .unset] [(.int fv), (.int (3 : Int32)), (.int (3 : Int32)), (.ref b165), (.ref b165)])
              refine hst (fun t₀ k₀ => XS.iload X241.here hx rfl (hb hby at_247) rfl k₀) ?_
              show F T241 (mkF m 249 #[.val (.long q1), .second, .val (.int p2), .val (.int p3), .val (.int p4), .val (.int p5), .val (.int p6), .val (.long u), .second, .val (.int nv), .val (.int ng), .val (.int fv), .val (.int rf), .val (.int qv), .val (.int cv), .val (.int pv), .val (.int cd), .val (.int rp), .val (.int sv), .val (.int tv), .unset, .unset, .unset, .unset, .unset] [(.int sv), (.int fv), (.int (3 : Int32)), (.int (3 : Int32)), (.ref b165), (.ref b165)])
              refine hst (fun t₀ k₀ => XS.iload X241.here hx rfl (hb hby at_249) rfl k₀) ?_
              show F T241 (mkF m 251 #[.val (.long q1), .second, .val (.int p2), .val (.int p3), .val (.int p4), .val (.int p5), .val (.int p6), .val (.long u), .second, .val (.int nv), .val (.int ng), .val (.int fv), .val (.int rf), .val (.int qv), .val (.int cv), .val (.int pv), .val (.int cd), .val (.int rp), .val (.int sv), .val (.int tv), .unset, .unset, .unset, .unset, .unset] [(.int tv), (.int sv), (.int fv), (.int (3 : Int32)), (.int (3 : Int32)), (.ref b165), (.ref b165)])
              refine hst (fun t₀ k₀ => XS.iload X241.here hx rfl (hb hby at_251) rfl k₀) ?_
              show F T241 (mkF m 253 #[.val (.long q1), .second, .val (.int p2), .val (.int p3), .val (.int p4), .val (.int p5), .val (.int p6), .val (.long u), .second, .val (.int nv), .val (.int ng), .val (.int fv), .val (.int rf), .val (.int qv), .val (.int cv), .val (.int pv), .val (.int cd), .val (.int rp), .val (.int sv), .val (.int tv), .unset, .unset, .unset, .unset, .unset] [(.int nv), (.int tv), (.int sv), (.int fv), (.int (3 : Int32)), (.int (3 : Int32)), (.ref b165), (.ref b165)])
              refine hst (fun t₀ k₀ => XS.lload X241.here hx rfl (hb hby at_253) rfl k₀) ?_
              show F T241 (mkF m 255 #[.val (.long q1), .second, .val (.int p2), .val (.int p3), .val (.int p4), .val (.int p5), .val (.int p6), .val (.long u), .second, .val (.int nv), .val (.int ng), .val (.int fv), .val (.int rf), .val (.int qv), .val (.int cv), .val (.int pv), .val (.int cd), .val (.int rp), .val (.int sv), .val (.int tv), .unset, .unset, .unset, .unset, .unset] [(.long u), (.int nv), (.int tv), (.int sv), (.int fv), (.int (3 : Int32)), (.int (3 : Int32)), (.ref b165), (.ref b165)])
              refine hst (fun t₀ k₀ => XS.iload X241.here hx rfl (hb hby at_255) rfl k₀) ?_
              show F T241 (mkF m 257 #[.val (.long q1), .second, .val (.int p2), .val (.int p3), .val (.int p4), .val (.int p5), .val (.int p6), .val (.long u), .second, .val (.int nv), .val (.int ng), .val (.int fv), .val (.int rf), .val (.int qv), .val (.int cv), .val (.int pv), .val (.int cd), .val (.int rp), .val (.int sv), .val (.int tv), .unset, .unset, .unset, .unset, .unset] [(.int qv), (.long u), (.int nv), (.int tv), (.int sv), (.int fv), (.int (3 : Int32)), (.int (3 : Int32)), (.ref b165), (.ref b165)])
              refine hst (fun t₀ k₀ => XS.iload X241.here hx rfl (hb hby at_257) rfl k₀) ?_
              show F T241 (mkF m 259 #[.val (.long q1), .second, .val (.int p2), .val (.int p3), .val (.int p4), .val (.int p5), .val (.int p6), .val (.long u), .second, .val (.int nv), .val (.int ng), .val (.int fv), .val (.int rf), .val (.int qv), .val (.int cv), .val (.int pv), .val (.int cd), .val (.int rp), .val (.int sv), .val (.int tv), .unset, .unset, .unset, .unset, .unset] [(.int cv), (.int qv), (.long u), (.int nv), (.int tv), (.int sv), (.int fv), (.int (3 : Int32)), (.int (3 : Int32)), (.ref b165), (.ref b165)])
              refine hst (fun t₀ k₀ => XS.iload X241.here hx rfl (hb hby at_259) rfl k₀) ?_
              show F T241 (mkF m 261 #[.val (.long q1), .second, .val (.int p2), .val (.int p3), .val (.int p4), .val (.int p5), .val (.int p6), .val (.long u), .second, .val (.int nv), .val (.int ng), .val (.int fv), .val (.int rf), .val (.int qv), .val (.int cv), .val (.int pv), .val (.int cd), .val (.int rp), .val (.int sv), .val (.int tv), .unset, .unset, .unset, .unset, .unset] [(.int rp), (.int cv), (.int qv), (.long u), (.int nv), (.int tv), (.int sv), (.int fv), (.int (3 : Int32)), (.int (3 : Int32)), (.ref b165), (.ref b165)])
              refine hst (fun t₀ k₀ => XS.iload X241.here hx rfl (hb hby at_261) rfl k₀) ?_
              show F T241 (mkF m 263 #[.val (.long q1), .second, .val (.int p2), .val (.int p3), .val (.int p4), .val (.int p5), .val (.int p6), .val (.long u), .second, .val (.int nv), .val (.int ng), .val (.int fv), .val (.int rf), .val (.int qv), .val (.int cv), .val (.int pv), .val (.int cd), .val (.int rp), .val (.int sv), .val (.int tv), .unset, .unset, .unset, .unset, .unset] [(.int pv), (.int rp), (.int cv), (.int qv), (.long u), (.int nv), (.int tv), (.int sv), (.int fv), (.int (3 : Int32)), (.int (3 : Int32)), (.ref b165), (.ref b165)])
              obtain ⟨v263, T263, Lc263, X263, hQ263, st263⟩ := own_callS X241 hx hZ hown (y := (⟨"com/example/leafline/leafline/table/IntegerValueParsePlainPinLaw", "cell", "(IIIIIJIBZB)B"⟩ : MethodName)) (hw _ (List.mem_of_getElem? (i := 3) rfl)) (hw _ (List.mem_of_getElem? (i := 4) rfl)) (hw _ (List.mem_of_getElem? (i := 5) rfl)) (hw _ (List.mem_of_getElem? (i := 6) rfl)) (by decide) e241 (rm1 l Z a0 hw [] (3 : Int32) fv sv tv nv u qv cv rp pv 3 f s' (s' + n) n U Q h241 n0 Z0_p241 (by decide) hf hs ktv hn hU hq rfl hn2 hs2) (by decide) (by decide) (g := (mkF m 263 #[.val (.long q1), .second, .val (.int p2), .val (.int p3), .val (.int p4), .val (.int p5), .val (.int p6), .val (.long u), .second, .val (.int nv), .val (.int ng), .val (.int fv), .val (.int rf), .val (.int qv), .val (.int cv), .val (.int pv), .val (.int cd), .val (.int rp), .val (.int sv), .val (.int tv), .unset, .unset, .unset, .unset, .unset] [(.int pv), (.int rp), (.int cv), (.int qv), (.long u), (.int nv), (.int tv), (.int sv), (.int fv), (.int (3 : Int32)), (.int (3 : Int32)), (.ref b165), (.ref b165)])) rfl (by rw [hml]; rfl) (argsL := [(.int (3 : Int32)), (.int fv), (.int sv), (.int tv), (.int nv), (.long u), (.int qv), (.int cv), (.int rp), (.int pv)]) (rest := [(.int (3 : Int32)), (.ref b165), (.ref b165)]) (lenOf pd_1 rfl) rfl rfl (W := 3) (by show 2 * 0 + _ ≤ _; exact Nat.le_of_eq rfl) (hb hby at_263) (by decide) (by decide)
              obtain ⟨rfl, Nq263, K263⟩ := hQ263
              have N263 := Fr.app N241 Nq263
              have A_b165_p263 : own_A Z T263.heap b165 .byte 22 (fun i => .int (own_pre G 3 i)) := A_b165_p241c.keep K263 (List.not_mem_nil)
              have Z0_p263 : n0 ≤ T263.heap.size := Nat.le_trans Z0_p241 K263.1
              refine hst st263 ?_
              show F T263 (mkF m 266 #[.val (.long q1), .second, .val (.int p2), .val (.int p3), .val (.int p4), .val (.int p5), .val (.int p6), .val (.long u), .second, .val (.int nv), .val (.int ng), .val (.int fv), .val (.int rf), .val (.int qv), .val (.int cv), .val (.int pv), .val (.int cd), .val (.int rp), .val (.int sv), .val (.int tv), .unset, .unset, .unset, .unset, .unset] [(.int (nar .byte (own_cellv 3 f s' (s' + n) n U Q cv rp pv))), (.int (3 : Int32)), (.ref b165), (.ref b165)])
              obtain ⟨T266, h266, X266, e266, W266, st266⟩ := own_bastore X263 hx hZ rfl A_b165_p263 (by decide) (g := (mkF m 266 #[.val (.long q1), .second, .val (.int p2), .val (.int p3), .val (.int p4), .val (.int p5), .val (.int p6), .val (.long u), .second, .val (.int nv), .val (.int ng), .val (.int fv), .val (.int rf), .val (.int qv), .val (.int cv), .val (.int pv), .val (.int cd), .val (.int rp), .val (.int sv), .val (.int tv), .unset, .unset, .unset, .unset, .unset] [(.int (nar .byte (own_cellv 3 f s' (s' + n) n U Q cv rp pv))), (.int (3 : Int32)), (.ref b165), (.ref b165)])) rfl rfl (hb hby at_266)
              have N266 := Fr.snoc X266 N263 ge_b165
              have A_b165_p266 : own_A Z h266 b165 .byte 22 (fun i => if i = Int32.toNatClampNeg (3 : Int32) then (.int (nar .byte (nar .byte (own_cellv 3 f s' (s' + n) n U Q cv rp pv)))) else (fun i => .int (own_pre G 3 i)) i) := A_b165_p263.set W266
              have Z0_p266 : n0 ≤ h266.size := Nat.le_trans Z0_p263 (Keep.of_wr W266).1
              refine hst st266 ?_
              have A_b165_p266c : own_A Z h266 b165 .byte 22 (fun i => .int (own_pre G 4 i)) := own_A.congr A_b165_p266 (fun i hi => by rw [show Int32.toNatClampNeg (3 : Int32) = 3 from rfl]; exact own_pre_step G 3 i _ (by rw [hG]))
              show F T266 (mkF m 267 #[.val (.long q1), .second, .val (.int p2), .val (.int p3), .val (.int p4), .val (.int p5), .val (.int p6), .val (.long u), .second, .val (.int nv), .val (.int ng), .val (.int fv), .val (.int rf), .val (.int qv), .val (.int cv), .val (.int pv), .val (.int cd), .val (.int rp), .val (.int sv), .val (.int tv), .unset, .unset, .unset, .unset, .unset] [(.ref b165)])
              refine hst (fun t₀ k₀ => XS.dup X266.here hx rfl (hb hby at_267) rfl rfl k₀) ?_
              show F T266 (mkF m 268 #[.val (.long q1), .second, .val (.int p2), .val (.int p3), .val (.int p4), .val (.int p5), .val (.int p6), .val (.long u), .second, .val (.int nv), .val (.int ng), .val (.int fv), .val (.int rf), .val (.int qv), .val (.int cv), .val (.int pv), .val (.int cd), .val (.int rp), .val (.int sv), .val (.int tv), .unset, .unset, .unset, .unset, .unset] [(.ref b165), (.ref b165)])
              refine hst (fun t₀ k₀ => XS.iconst X266.here hx rfl (hb hby at_268) k₀) ?_
              show F T266 (mkF m 269 #[.val (.long q1), .second, .val (.int p2), .val (.int p3), .val (.int p4), .val (.int p5), .val (.int p6), .val (.long u), .second, .val (.int nv), .val (.int ng), .val (.int fv), .val (.int rf), .val (.int qv), .val (.int cv), .val (.int pv), .val (.int cd), .val (.int rp), .val (.int sv), .val (.int tv), .unset, .unset, .unset, .unset, .unset] [(.int (4 : Int32)), (.ref b165), (.ref b165)])
              refine hst (fun t₀ k₀ => XS.iconst X266.here hx rfl (hb hby at_269) k₀) ?_
              show F T266 (mkF m 270 #[.val (.long q1), .second, .val (.int p2), .val (.int p3), .val (.int p4), .val (.int p5), .val (.int p6), .val (.long u), .second, .val (.int nv), .val (.int ng), .val (.int fv), .val (.int rf), .val (.int qv), .val (.int cv), .val (.int pv), .val (.int cd), .val (.int rp), .val (.int sv), .val (.int tv), .unset, .unset, .unset, .unset, .unset] [(.int (4 : Int32)), (.int (4 : Int32)), (.ref b165), (.ref b165)])
              refine hst (fun t₀ k₀ => XS.iload X266.here hx rfl (hb hby at_270) rfl k₀) ?_
              show F T266 (mkF m 272 #[.val (.long q1), .second, .val (.int p2), .val (.int p3), .val (.int p4), .val (.int p5), .val (.int p6), .val (.long u), .second, .val (.int nv), .val (.int ng), .val (.int fv), .val (.int rf), .val (.int qv), .val (.int cv), .val (.int pv), .val (.int cd), .val (.int rp), .val (.int sv), .val (.int tv), .unset, .unset, .unset, .unset, .unset] [(.int fv), (.int (4 : Int32)), (.int (4 : Int32)), (.ref b165), (.ref b165)])
              refine hst (fun t₀ k₀ => XS.iload X266.here hx rfl (hb hby at_272) rfl k₀) ?_
              show F T266 (mkF m 274 #[.val (.long q1), .second, .val (.int p2), .val (.int p3), .val (.int p4), .val (.int p5), .val (.int p6), .val (.long u), .second, .val (.int nv), .val (.int ng), .val (.int fv), .val (.int rf), .val (.int qv), .val (.int cv), .val (.int pv), .val (.int cd), .val (.int rp), .val (.int sv), .val (.int tv), .unset, .unset, .unset, .unset, .unset] [(.int sv), (.int fv), (.int (4 : Int32)), (.int (4 : Int32)), (.ref b165), (.ref b165)])
              refine hst (fun t₀ k₀ => XS.iload X266.here hx rfl (hb hby at_274) rfl k₀) ?_
              show F T266 (mkF m 276 #[.val (.long q1), .second, .val (.int p2), .val (.int p3), .val (.int p4), .val (.int p5), .val (.int p6), .val (.long u), .second, .val (.int nv), .val (.int ng), .val (.int fv), .val (.int rf), .val (.int qv), .val (.int cv), .val (.int pv), .val (.int cd), .val (.int rp), .val (.int sv), .val (.int tv), .unset, .unset, .unset, .unset, .unset] [(.int tv), (.int sv), (.int fv), (.int (4 : Int32)), (.int (4 : Int32)), (.ref b165), (.ref b165)])
              refine hst (fun t₀ k₀ => XS.iload X266.here hx rfl (hb hby at_276) rfl k₀) ?_
              show F T266 (mkF m 278 #[.val (.long q1), .second, .val (.int p2), .val (.int p3), .val (.int p4), .val (.int p5), .val (.int p6), .val (.long u), .second, .val (.int nv), .val (.int ng), .val (.int fv), .val (.int rf), .val (.int qv), .val (.int cv), .val (.int pv), .val (.int cd), .val (.int rp), .val (.int sv), .val (.int tv), .unset, .unset, .unset, .unset, .unset] [(.int nv), (.int tv), (.int sv), (.int fv), (.int (4 : Int32)), (.int (4 : Int32)), (.ref b165), (.ref b165)])
              refine hst (fun t₀ k₀ => XS.lload X266.here hx rfl (hb hby at_278) rfl k₀) ?_
              show F T266 (mkF m 280 #[.val (.long q1), .second, .val (.int p2), .val (.int p3), .val (.int p4), .val (.int p5), .val (.int p6), .val (.long u), .second, .val (.int nv), .val (.int ng), .val (.int fv), .val (.int rf), .val (.int qv), .val (.int cv), .val (.int pv), .val (.int cd), .val (.int rp), .val (.int sv), .val (.int tv), .unset, .unset, .unset, .unset, .unset] [(.long u), (.int nv), (.int tv), (.int sv), (.int fv), (.int (4 : Int32)), (.int (4 : Int32)), (.ref b165), (.ref b165)])
              refine hst (fun t₀ k₀ => XS.iload X266.here hx rfl (hb hby at_280) rfl k₀) ?_
              show F T266 (mkF m 282 #[.val (.long q1), .second, .val (.int p2), .val (.int p3), .val (.int p4), .val (.int p5), .val (.int p6), .val (.long u), .second, .val (.int nv), .val (.int ng), .val (.int fv), .val (.int rf), .val (.int qv), .val (.int cv), .val (.int pv), .val (.int cd), .val (.int rp), .val (.int sv), .val (.int tv), .unset, .unset, .unset, .unset, .unset] [(.int qv), (.long u), (.int nv), (.int tv), (.int sv), (.int fv), (.int (4 : Int32)), (.int (4 : Int32)), (.ref b165), (.ref b165)])
              refine hst (fun t₀ k₀ => XS.iload X266.here hx rfl (hb hby at_282) rfl k₀) ?_
              show F T266 (mkF m 284 #[.val (.long q1), .second, .val (.int p2), .val (.int p3), .val (.int p4), .val (.int p5), .val (.int p6), .val (.long u), .second, .val (.int nv), .val (.int ng), .val (.int fv), .val (.int rf), .val (.int qv), .val (.int cv), .val (.int pv), .val (.int cd), .val (.int rp), .val (.int sv), .val (.int tv), .unset, .unset, .unset, .unset, .unset] [(.int cv), (.int qv), (.long u), (.int nv), (.int tv), (.int sv), (.int fv), (.int (4 : Int32)), (.int (4 : Int32)), (.ref b165), (.ref b165)])
              refine hst (fun t₀ k₀ => XS.iload X266.here hx rfl (hb hby at_284) rfl k₀) ?_
              show F T266 (mkF m 286 #[.val (.long q1), .second, .val (.int p2), .val (.int p3), .val (.int p4), .val (.int p5), .val (.int p6), .val (.long u), .second, .val (.int nv), .val (.int ng), .val (.int fv), .val (.int rf), .val (.int qv), .val (.int cv), .val (.int pv), .val (.int cd), .val (.int rp), .val (.int sv), .val (.int tv), .unset, .unset, .unset, .unset, .unset] [(.int rp), (.int cv), (.int qv), (.long u), (.int nv), (.int tv), (.int sv), (.int fv), (.int (4 : Int32)), (.int (4 : Int32)), (.ref b165), (.ref b165)])
              refine hst (fun t₀ k₀ => XS.iload X266.here hx rfl (hb hby at_286) rfl k₀) ?_
              show F T266 (mkF m 288 #[.val (.long q1), .second, .val (.int p2), .val (.int p3), .val (.int p4), .val (.int p5), .val (.int p6), .val (.long u), .second, .val (.int nv), .val (.int ng), .val (.int fv), .val (.int rf), .val (.int qv), .val (.int cv), .val (.int pv), .val (.int cd), .val (.int rp), .val (.int sv), .val (.int tv), .unset, .unset, .unset, .unset, .unset] [(.int pv), (.int rp), (.int cv), (.int qv), (.long u), (.int nv), (.int tv), (.int sv), (.int fv), (.int (4 : Int32)), (.int (4 : Int32)), (.ref b165), (.ref b165)])
              obtain ⟨v288, T288, Lc288, X288, hQ288, st288⟩ := own_callS X266 hx hZ hown (y := (⟨"com/example/leafline/leafline/table/IntegerValueParsePlainPinLaw", "cell", "(IIIIIJIBZB)B"⟩ : MethodName)) (hw _ (List.mem_of_getElem? (i := 3) rfl)) (hw _ (List.mem_of_getElem? (i := 4) rfl)) (hw _ (List.mem_of_getElem? (i := 5) rfl)) (hw _ (List.mem_of_getElem? (i := 6) rfl)) (by decide) e266 (rm1 l Z a0 hw [] (4 : Int32) fv sv tv nv u qv cv rp pv 4 f s' (s' + n) n U Q h266 n0 Z0_p266 (by decide) hf hs ktv hn hU hq rfl hn2 hs2) (by decide) (by decide) (g := (mkF m 288 #[.val (.long q1), .second, .val (.int p2), .val (.int p3), .val (.int p4), .val (.int p5), .val (.int p6), .val (.long u), .second, .val (.int nv), .val (.int ng), .val (.int fv), .val (.int rf), .val (.int qv), .val (.int cv), .val (.int pv), .val (.int cd), .val (.int rp), .val (.int sv), .val (.int tv), .unset, .unset, .unset, .unset, .unset] [(.int pv), (.int rp), (.int cv), (.int qv), (.long u), (.int nv), (.int tv), (.int sv), (.int fv), (.int (4 : Int32)), (.int (4 : Int32)), (.ref b165), (.ref b165)])) rfl (by rw [hml]; rfl) (argsL := [(.int (4 : Int32)), (.int fv), (.int sv), (.int tv), (.int nv), (.long u), (.int qv), (.int cv), (.int rp), (.int pv)]) (rest := [(.int (4 : Int32)), (.ref b165), (.ref b165)]) (lenOf pd_1 rfl) rfl rfl (W := 3) (by show 2 * 0 + _ ≤ _; exact Nat.le_of_eq rfl) (hb hby at_288) (by decide) (by decide)
              obtain ⟨rfl, Nq288, K288⟩ := hQ288
              have N288 := Fr.app N266 Nq288
              have A_b165_p288 : own_A Z T288.heap b165 .byte 22 (fun i => .int (own_pre G 4 i)) := A_b165_p266c.keep K288 (List.not_mem_nil)
              have Z0_p288 : n0 ≤ T288.heap.size := Nat.le_trans Z0_p266 K288.1
              refine hst st288 ?_
              show F T288 (mkF m 291 #[.val (.long q1), .second, .val (.int p2), .val (.int p3), .val (.int p4), .val (.int p5), .val (.int p6), .val (.long u), .second, .val (.int nv), .val (.int ng), .val (.int fv), .val (.int rf), .val (.int qv), .val (.int cv), .val (.int pv), .val (.int cd), .val (.int rp), .val (.int sv), .val (.int tv), .unset, .unset, .unset, .unset, .unset] [(.int (nar .byte (own_cellv 4 f s' (s' + n) n U Q cv rp pv))), (.int (4 : Int32)), (.ref b165), (.ref b165)])
              obtain ⟨T291, h291, X291, e291, W291, st291⟩ := own_bastore X288 hx hZ rfl A_b165_p288 (by decide) (g := (mkF m 291 #[.val (.long q1), .second, .val (.int p2), .val (.int p3), .val (.int p4), .val (.int p5), .val (.int p6), .val (.long u), .second, .val (.int nv), .val (.int ng), .val (.int fv), .val (.int rf), .val (.int qv), .val (.int cv), .val (.int pv), .val (.int cd), .val (.int rp), .val (.int sv), .val (.int tv), .unset, .unset, .unset, .unset, .unset] [(.int (nar .byte (own_cellv 4 f s' (s' + n) n U Q cv rp pv))), (.int (4 : Int32)), (.ref b165), (.ref b165)])) rfl rfl (hb hby at_291)
              have N291 := Fr.snoc X291 N288 ge_b165
              have A_b165_p291 : own_A Z h291 b165 .byte 22 (fun i => if i = Int32.toNatClampNeg (4 : Int32) then (.int (nar .byte (nar .byte (own_cellv 4 f s' (s' + n) n U Q cv rp pv)))) else (fun i => .int (own_pre G 4 i)) i) := A_b165_p288.set W291
              have Z0_p291 : n0 ≤ h291.size := Nat.le_trans Z0_p288 (Keep.of_wr W291).1
              refine hst st291 ?_
              have A_b165_p291c : own_A Z h291 b165 .byte 22 (fun i => .int (own_pre G 5 i)) := own_A.congr A_b165_p291 (fun i hi => by rw [show Int32.toNatClampNeg (4 : Int32) = 4 from rfl]; exact own_pre_step G 4 i _ (by rw [hG]))
              show F T291 (mkF m 292 #[.val (.long q1), .second, .val (.int p2), .val (.int p3), .val (.int p4), .val (.int p5), .val (.int p6), .val (.long u), .second, .val (.int nv), .val (.int ng), .val (.int fv), .val (.int rf), .val (.int qv), .val (.int cv), .val (.int pv), .val (.int cd), .val (.int rp), .val (.int sv), .val (.int tv), .unset, .unset, .unset, .unset, .unset] [(.ref b165)])
              refine hst (fun t₀ k₀ => XS.dup X291.here hx rfl (hb hby at_292) rfl rfl k₀) ?_
              show F T291 (mkF m 293 #[.val (.long q1), .second, .val (.int p2), .val (.int p3), .val (.int p4), .val (.int p5), .val (.int p6), .val (.long u), .second, .val (.int nv), .val (.int ng), .val (.int fv), .val (.int rf), .val (.int qv), .val (.int cv), .val (.int pv), .val (.int cd), .val (.int rp), .val (.int sv), .val (.int tv), .unset, .unset, .unset, .unset, .unset] [(.ref b165), (.ref b165)])
              refine hst (fun t₀ k₀ => XS.iconst X291.here hx rfl (hb hby at_293) k₀) ?_
              show F T291 (mkF m 294 #[.val (.long q1), .second, .val (.int p2), .val (.int p3), .val (.int p4), .val (.int p5), .val (.int p6), .val (.long u), .second, .val (.int nv), .val (.int ng), .val (.int fv), .val (.int rf), .val (.int qv), .val (.int cv), .val (.int pv), .val (.int cd), .val (.int rp), .val (.int sv), .val (.int tv), .unset, .unset, .unset, .unset, .unset] [(.int (5 : Int32)), (.ref b165), (.ref b165)])
              refine hst (fun t₀ k₀ => XS.iconst X291.here hx rfl (hb hby at_294) k₀) ?_
              show F T291 (mkF m 295 #[.val (.long q1), .second, .val (.int p2), .val (.int p3), .val (.int p4), .val (.int p5), .val (.int p6), .val (.long u), .second, .val (.int nv), .val (.int ng), .val (.int fv), .val (.int rf), .val (.int qv), .val (.int cv), .val (.int pv), .val (.int cd), .val (.int rp), .val (.int sv), .val (.int tv), .unset, .unset, .unset, .unset, .unset] [(.int (5 : Int32)), (.int (5 : Int32)), (.ref b165), (.ref b165)])
              refine hst (fun t₀ k₀ => XS.iload X291.here hx rfl (hb hby at_295) rfl k₀) ?_
              show F T291 (mkF m 297 #[.val (.long q1), .second, .val (.int p2), .val (.int p3), .val (.int p4), .val (.int p5), .val (.int p6), .val (.long u), .second, .val (.int nv), .val (.int ng), .val (.int fv), .val (.int rf), .val (.int qv), .val (.int cv), .val (.int pv), .val (.int cd), .val (.int rp), .val (.int sv), .val (.int tv), .unset, .unset, .unset, .unset, .unset] [(.int fv), (.int (5 : Int32)), (.int (5 : Int32)), (.ref b165), (.ref b165)])
              refine hst (fun t₀ k₀ => XS.iload X291.here hx rfl (hb hby at_297) rfl k₀) ?_
              show F T291 (mkF m 299 #[.val (.long q1), .second, .val (.int p2), .val (.int p3), .val (.int p4), .val (.int p5), .val (.int p6), .val (.long u), .second, .val (.int nv), .val (.int ng), .val (.int fv), .val (.int rf), .val (.int qv), .val (.int cv), .val (.int pv), .val (.int cd), .val (.int rp), .val (.int sv), .val (.int tv), .unset, .unset, .unset, .unset, .unset] [(.int sv), (.int fv), (.int (5 : Int32)), (.int (5 : Int32)), (.ref b165), (.ref b165)])
              refine hst (fun t₀ k₀ => XS.iload X291.here hx rfl (hb hby at_299) rfl k₀) ?_
              show F T291 (mkF m 301 #[.val (.long q1), .second, .val (.int p2), .val (.int p3), .val (.int p4), .val (.int p5), .val (.int p6), .val (.long u), .second, .val (.int nv), .val (.int ng), .val (.int fv), .val (.int rf), .val (.int qv), .val (.int cv), .val (.int pv), .val (.int cd), .val (.int rp), .val (.int sv), .val (.int tv), .unset, .unset, .unset, .unset, .unset] [(.int tv), (.int sv), (.int fv), (.int (5 : Int32)), (.int (5 : Int32)), (.ref b165), (.ref b165)])
              refine hst (fun t₀ k₀ => XS.iload X291.here hx rfl (hb hby at_301) rfl k₀) ?_
              show F T291 (mkF m 303 #[.val (.long q1), .second, .val (.int p2), .val (.int p3), .val (.int p4), .val (.int p5), .val (.int p6), .val (.long u), .second, .val (.int nv), .val (.int ng), .val (.int fv), .val (.int rf), .val (.int qv), .val (.int cv), .val (.int pv), .val (.int cd), .val (.int rp), .val (.int sv), .val (.int tv), .unset, .unset, .unset, .unset, .unset] [(.int nv), (.int tv), (.int sv), (.int fv), (.int (5 : Int32)), (.int (5 : Int32)), (.ref b165), (.ref b165)])
              refine hst (fun t₀ k₀ => XS.lload X291.here hx rfl (hb hby at_303) rfl k₀) ?_
              show F T291 (mkF m 305 #[.val (.long q1), .second, .val (.int p2), .val (.int p3), .val (.int p4), .val (.int p5), .val (.int p6), .val (.long u), .second, .val (.int nv), .val (.int ng), .val (.int fv), .val (.int rf), .val (.int qv), .val (.int cv), .val (.int pv), .val (.int cd), .val (.int rp), .val (.int sv), .val (.int tv), .unset, .unset, .unset, .unset, .unset] [(.long u), (.int nv), (.int tv), (.int sv), (.int fv), (.int (5 : Int32)), (.int (5 : Int32)), (.ref b165), (.ref b165)])
              refine hst (fun t₀ k₀ => XS.iload X291.here hx rfl (hb hby at_305) rfl k₀) ?_
              show F T291 (mkF m 307 #[.val (.long q1), .second, .val (.int p2), .val (.int p3), .val (.int p4), .val (.int p5), .val (.int p6), .val (.long u), .second, .val (.int nv), .val (.int ng), .val (.int fv), .val (.int rf), .val (.int qv), .val (.int cv), .val (.int pv), .val (.int cd), .val (.int rp), .val (.int sv), .val (.int tv), .unset, .unset, .unset, .unset, .unset] [(.int qv), (.long u), (.int nv), (.int tv), (.int sv), (.int fv), (.int (5 : Int32)), (.int (5 : Int32)), (.ref b165), (.ref b165)])
              refine hst (fun t₀ k₀ => XS.iload X291.here hx rfl (hb hby at_307) rfl k₀) ?_
              show F T291 (mkF m 309 #[.val (.long q1), .second, .val (.int p2), .val (.int p3), .val (.int p4), .val (.int p5), .val (.int p6), .val (.long u), .second, .val (.int nv), .val (.int ng), .val (.int fv), .val (.int rf), .val (.int qv), .val (.int cv), .val (.int pv), .val (.int cd), .val (.int rp), .val (.int sv), .val (.int tv), .unset, .unset, .unset, .unset, .unset] [(.int cv), (.int qv), (.long u), (.int nv), (.int tv), (.int sv), (.int fv), (.int (5 : Int32)), (.int (5 : Int32)), (.ref b165), (.ref b165)])
              refine hst (fun t₀ k₀ => XS.iload X291.here hx rfl (hb hby at_309) rfl k₀) ?_
              show F T291 (mkF m 311 #[.val (.long q1), .second, .val (.int p2), .val (.int p3), .val (.int p4), .val (.int p5), .val (.int p6), .val (.long u), .second, .val (.int nv), .val (.int ng), .val (.int fv), .val (.int rf), .val (.int qv), .val (.int cv), .val (.int pv), .val (.int cd), .val (.int rp), .val (.int sv), .val (.int tv), .unset, .unset, .unset, .unset, .unset] [(.int rp), (.int cv), (.int qv), (.long u), (.int nv), (.int tv), (.int sv), (.int fv), (.int (5 : Int32)), (.int (5 : Int32)), (.ref b165), (.ref b165)])
              refine hst (fun t₀ k₀ => XS.iload X291.here hx rfl (hb hby at_311) rfl k₀) ?_
              show F T291 (mkF m 313 #[.val (.long q1), .second, .val (.int p2), .val (.int p3), .val (.int p4), .val (.int p5), .val (.int p6), .val (.long u), .second, .val (.int nv), .val (.int ng), .val (.int fv), .val (.int rf), .val (.int qv), .val (.int cv), .val (.int pv), .val (.int cd), .val (.int rp), .val (.int sv), .val (.int tv), .unset, .unset, .unset, .unset, .unset] [(.int pv), (.int rp), (.int cv), (.int qv), (.long u), (.int nv), (.int tv), (.int sv), (.int fv), (.int (5 : Int32)), (.int (5 : Int32)), (.ref b165), (.ref b165)])
              obtain ⟨v313, T313, Lc313, X313, hQ313, st313⟩ := own_callS X291 hx hZ hown (y := (⟨"com/example/leafline/leafline/table/IntegerValueParsePlainPinLaw", "cell", "(IIIIIJIBZB)B"⟩ : MethodName)) (hw _ (List.mem_of_getElem? (i := 3) rfl)) (hw _ (List.mem_of_getElem? (i := 4) rfl)) (hw _ (List.mem_of_getElem? (i := 5) rfl)) (hw _ (List.mem_of_getElem? (i := 6) rfl)) (by decide) e291 (rm1 l Z a0 hw [] (5 : Int32) fv sv tv nv u qv cv rp pv 5 f s' (s' + n) n U Q h291 n0 Z0_p291 (by decide) hf hs ktv hn hU hq rfl hn2 hs2) (by decide) (by decide) (g := (mkF m 313 #[.val (.long q1), .second, .val (.int p2), .val (.int p3), .val (.int p4), .val (.int p5), .val (.int p6), .val (.long u), .second, .val (.int nv), .val (.int ng), .val (.int fv), .val (.int rf), .val (.int qv), .val (.int cv), .val (.int pv), .val (.int cd), .val (.int rp), .val (.int sv), .val (.int tv), .unset, .unset, .unset, .unset, .unset] [(.int pv), (.int rp), (.int cv), (.int qv), (.long u), (.int nv), (.int tv), (.int sv), (.int fv), (.int (5 : Int32)), (.int (5 : Int32)), (.ref b165), (.ref b165)])) rfl (by rw [hml]; rfl) (argsL := [(.int (5 : Int32)), (.int fv), (.int sv), (.int tv), (.int nv), (.long u), (.int qv), (.int cv), (.int rp), (.int pv)]) (rest := [(.int (5 : Int32)), (.ref b165), (.ref b165)]) (lenOf pd_1 rfl) rfl rfl (W := 3) (by show 2 * 0 + _ ≤ _; exact Nat.le_of_eq rfl) (hb hby at_313) (by decide) (by decide)
              obtain ⟨rfl, Nq313, K313⟩ := hQ313
              have N313 := Fr.app N291 Nq313
              have A_b165_p313 : own_A Z T313.heap b165 .byte 22 (fun i => .int (own_pre G 5 i)) := A_b165_p291c.keep K313 (List.not_mem_nil)
              have Z0_p313 : n0 ≤ T313.heap.size := Nat.le_trans Z0_p291 K313.1
              refine hst st313 ?_
              show F T313 (mkF m 316 #[.val (.long q1), .second, .val (.int p2), .val (.int p3), .val (.int p4), .val (.int p5), .val (.int p6), .val (.long u), .second, .val (.int nv), .val (.int ng), .val (.int fv), .val (.int rf), .val (.int qv), .val (.int cv), .val (.int pv), .val (.int cd), .val (.int rp), .val (.int sv), .val (.int tv), .unset, .unset, .unset, .unset, .unset] [(.int (nar .byte (own_cellv 5 f s' (s' + n) n U Q cv rp pv))), (.int (5 : Int32)), (.ref b165), (.ref b165)])
              obtain ⟨T316, h316, X316, e316, W316, st316⟩ := own_bastore X313 hx hZ rfl A_b165_p313 (by decide) (g := (mkF m 316 #[.val (.long q1), .second, .val (.int p2), .val (.int p3), .val (.int p4), .val (.int p5), .val (.int p6), .val (.long u), .second, .val (.int nv), .val (.int ng), .val (.int fv), .val (.int rf), .val (.int qv), .val (.int cv), .val (.int pv), .val (.int cd), .val (.int rp), .val (.int sv), .val (.int tv), .unset, .unset, .unset, .unset, .unset] [(.int (nar .byte (own_cellv 5 f s' (s' + n) n U Q cv rp pv))), (.int (5 : Int32)), (.ref b165), (.ref b165)])) rfl rfl (hb hby at_316)
              have N316 := Fr.snoc X316 N313 ge_b165
              have A_b165_p316 : own_A Z h316 b165 .byte 22 (fun i => if i = Int32.toNatClampNeg (5 : Int32) then (.int (nar .byte (nar .byte (own_cellv 5 f s' (s' + n) n U Q cv rp pv)))) else (fun i => .int (own_pre G 5 i)) i) := A_b165_p313.set W316
              have Z0_p316 : n0 ≤ h316.size := Nat.le_trans Z0_p313 (Keep.of_wr W316).1
              refine hst st316 ?_
              have A_b165_p316c : own_A Z h316 b165 .byte 22 (fun i => .int (own_pre G 6 i)) := own_A.congr A_b165_p316 (fun i hi => by rw [show Int32.toNatClampNeg (5 : Int32) = 5 from rfl]; exact own_pre_step G 5 i _ (by rw [hG]))
              show F T316 (mkF m 317 #[.val (.long q1), .second, .val (.int p2), .val (.int p3), .val (.int p4), .val (.int p5), .val (.int p6), .val (.long u), .second, .val (.int nv), .val (.int ng), .val (.int fv), .val (.int rf), .val (.int qv), .val (.int cv), .val (.int pv), .val (.int cd), .val (.int rp), .val (.int sv), .val (.int tv), .unset, .unset, .unset, .unset, .unset] [(.ref b165)])
              refine hst (fun t₀ k₀ => XS.dup X316.here hx rfl (hb hby at_317) rfl rfl k₀) ?_
              show F T316 (mkF m 318 #[.val (.long q1), .second, .val (.int p2), .val (.int p3), .val (.int p4), .val (.int p5), .val (.int p6), .val (.long u), .second, .val (.int nv), .val (.int ng), .val (.int fv), .val (.int rf), .val (.int qv), .val (.int cv), .val (.int pv), .val (.int cd), .val (.int rp), .val (.int sv), .val (.int tv), .unset, .unset, .unset, .unset, .unset] [(.ref b165), (.ref b165)])
              refine hst (fun t₀ k₀ => XS.bipush X316.here hx rfl (hb hby at_318) k₀) ?_
              show F T316 (mkF m 320 #[.val (.long q1), .second, .val (.int p2), .val (.int p3), .val (.int p4), .val (.int p5), .val (.int p6), .val (.long u), .second, .val (.int nv), .val (.int ng), .val (.int fv), .val (.int rf), .val (.int qv), .val (.int cv), .val (.int pv), .val (.int cd), .val (.int rp), .val (.int sv), .val (.int tv), .unset, .unset, .unset, .unset, .unset] [(.int (6 : Int32)), (.ref b165), (.ref b165)])
              refine hst (fun t₀ k₀ => XS.bipush X316.here hx rfl (hb hby at_320) k₀) ?_
              show F T316 (mkF m 322 #[.val (.long q1), .second, .val (.int p2), .val (.int p3), .val (.int p4), .val (.int p5), .val (.int p6), .val (.long u), .second, .val (.int nv), .val (.int ng), .val (.int fv), .val (.int rf), .val (.int qv), .val (.int cv), .val (.int pv), .val (.int cd), .val (.int rp), .val (.int sv), .val (.int tv), .unset, .unset, .unset, .unset, .unset] [(.int (6 : Int32)), (.int (6 : Int32)), (.ref b165), (.ref b165)])
              refine hst (fun t₀ k₀ => XS.iload X316.here hx rfl (hb hby at_322) rfl k₀) ?_
              show F T316 (mkF m 324 #[.val (.long q1), .second, .val (.int p2), .val (.int p3), .val (.int p4), .val (.int p5), .val (.int p6), .val (.long u), .second, .val (.int nv), .val (.int ng), .val (.int fv), .val (.int rf), .val (.int qv), .val (.int cv), .val (.int pv), .val (.int cd), .val (.int rp), .val (.int sv), .val (.int tv), .unset, .unset, .unset, .unset, .unset] [(.int fv), (.int (6 : Int32)), (.int (6 : Int32)), (.ref b165), (.ref b165)])
              refine hst (fun t₀ k₀ => XS.iload X316.here hx rfl (hb hby at_324) rfl k₀) ?_
              show F T316 (mkF m 326 #[.val (.long q1), .second, .val (.int p2), .val (.int p3), .val (.int p4), .val (.int p5), .val (.int p6), .val (.long u), .second, .val (.int nv), .val (.int ng), .val (.int fv), .val (.int rf), .val (.int qv), .val (.int cv), .val (.int pv), .val (.int cd), .val (.int rp), .val (.int sv), .val (.int tv), .unset, .unset, .unset, .unset, .unset] [(.int sv), (.int fv), (.int (6 : Int32)), (.int (6 : Int32)), (.ref b165), (.ref b165)])
              refine hst (fun t₀ k₀ => XS.iload X316.here hx rfl (hb hby at_326) rfl k₀) ?_
              show F T316 (mkF m 328 #[.val (.long q1), .second, .val (.int p2), .val (.int p3), .val (.int p4), .val (.int p5), .val (.int p6), .val (.long u), .second, .val (.int nv), .val (.int ng), .val (.int fv), .val (.int rf), .val (.int qv), .val (.int cv), .val (.int pv), .val (.int cd), .val (.int rp), .val (.int sv), .val (.int tv), .unset, .unset, .unset, .unset, .unset] [(.int tv), (.int sv), (.int fv), (.int (6 : Int32)), (.int (6 : Int32)), (.ref b165), (.ref b165)])
              refine hst (fun t₀ k₀ => XS.iload X316.here hx rfl (hb hby at_328) rfl k₀) ?_
              show F T316 (mkF m 330 #[.val (.long q1), .second, .val (.int p2), .val (.int p3), .val (.int p4), .val (.int p5), .val (.int p6), .val (.long u), .second, .val (.int nv), .val (.int ng), .val (.int fv), .val (.int rf), .val (.int qv), .val (.int cv), .val (.int pv), .val (.int cd), .val (.int rp), .val (.int sv), .val (.int tv), .unset, .unset, .unset, .unset, .unset] [(.int nv), (.int tv), (.int sv), (.int fv), (.int (6 : Int32)), (.int (6 : Int32)), (.ref b165), (.ref b165)])
              refine hst (fun t₀ k₀ => XS.lload X316.here hx rfl (hb hby at_330) rfl k₀) ?_
              show F T316 (mkF m 332 #[.val (.long q1), .second, .val (.int p2), .val (.int p3), .val (.int p4), .val (.int p5), .val (.int p6), .val (.long u), .second, .val (.int nv), .val (.int ng), .val (.int fv), .val (.int rf), .val (.int qv), .val (.int cv), .val (.int pv), .val (.int cd), .val (.int rp), .val (.int sv), .val (.int tv), .unset, .unset, .unset, .unset, .unset] [(.long u), (.int nv), (.int tv), (.int sv), (.int fv), (.int (6 : Int32)), (.int (6 : Int32)), (.ref b165), (.ref b165)])
              refine hst (fun t₀ k₀ => XS.iload X316.here hx rfl (hb hby at_332) rfl k₀) ?_
              show F T316 (mkF m 334 #[.val (.long q1), .second, .val (.int p2), .val (.int p3), .val (.int p4), .val (.int p5), .val (.int p6), .val (.long u), .second, .val (.int nv), .val (.int ng), .val (.int fv), .val (.int rf), .val (.int qv), .val (.int cv), .val (.int pv), .val (.int cd), .val (.int rp), .val (.int sv), .val (.int tv), .unset, .unset, .unset, .unset, .unset] [(.int qv), (.long u), (.int nv), (.int tv), (.int sv), (.int fv), (.int (6 : Int32)), (.int (6 : Int32)), (.ref b165), (.ref b165)])
              refine hst (fun t₀ k₀ => XS.iload X316.here hx rfl (hb hby at_334) rfl k₀) ?_
              show F T316 (mkF m 336 #[.val (.long q1), .second, .val (.int p2), .val (.int p3), .val (.int p4), .val (.int p5), .val (.int p6), .val (.long u), .second, .val (.int nv), .val (.int ng), .val (.int fv), .val (.int rf), .val (.int qv), .val (.int cv), .val (.int pv), .val (.int cd), .val (.int rp), .val (.int sv), .val (.int tv), .unset, .unset, .unset, .unset, .unset] [(.int cv), (.int qv), (.long u), (.int nv), (.int tv), (.int sv), (.int fv), (.int (6 : Int32)), (.int (6 : Int32)), (.ref b165), (.ref b165)])
              refine hst (fun t₀ k₀ => XS.iload X316.here hx rfl (hb hby at_336) rfl k₀) ?_
              show F T316 (mkF m 338 #[.val (.long q1), .second, .val (.int p2), .val (.int p3), .val (.int p4), .val (.int p5), .val (.int p6), .val (.long u), .second, .val (.int nv), .val (.int ng), .val (.int fv), .val (.int rf), .val (.int qv), .val (.int cv), .val (.int pv), .val (.int cd), .val (.int rp), .val (.int sv), .val (.int tv), .unset, .unset, .unset, .unset, .unset] [(.int rp), (.int cv), (.int qv), (.long u), (.int nv), (.int tv), (.int sv), (.int fv), (.int (6 : Int32)), (.int (6 : Int32)), (.ref b165), (.ref b165)])
              refine hst (fun t₀ k₀ => XS.iload X316.here hx rfl (hb hby at_338) rfl k₀) ?_
              show F T316 (mkF m 340 #[.val (.long q1), .second, .val (.int p2), .val (.int p3), .val (.int p4), .val (.int p5), .val (.int p6), .val (.long u), .second, .val (.int nv), .val (.int ng), .val (.int fv), .val (.int rf), .val (.int qv), .val (.int cv), .val (.int pv), .val (.int cd), .val (.int rp), .val (.int sv), .val (.int tv), .unset, .unset, .unset, .unset, .unset] [(.int pv), (.int rp), (.int cv), (.int qv), (.long u), (.int nv), (.int tv), (.int sv), (.int fv), (.int (6 : Int32)), (.int (6 : Int32)), (.ref b165), (.ref b165)])
              obtain ⟨v340, T340, Lc340, X340, hQ340, st340⟩ := own_callS X316 hx hZ hown (y := (⟨"com/example/leafline/leafline/table/IntegerValueParsePlainPinLaw", "cell", "(IIIIIJIBZB)B"⟩ : MethodName)) (hw _ (List.mem_of_getElem? (i := 3) rfl)) (hw _ (List.mem_of_getElem? (i := 4) rfl)) (hw _ (List.mem_of_getElem? (i := 5) rfl)) (hw _ (List.mem_of_getElem? (i := 6) rfl)) (by decide) e316 (rm1 l Z a0 hw [] (6 : Int32) fv sv tv nv u qv cv rp pv 6 f s' (s' + n) n U Q h316 n0 Z0_p316 (by decide) hf hs ktv hn hU hq rfl hn2 hs2) (by decide) (by decide) (g := (mkF m 340 #[.val (.long q1), .second, .val (.int p2), .val (.int p3), .val (.int p4), .val (.int p5), .val (.int p6), .val (.long u), .second, .val (.int nv), .val (.int ng), .val (.int fv), .val (.int rf), .val (.int qv), .val (.int cv), .val (.int pv), .val (.int cd), .val (.int rp), .val (.int sv), .val (.int tv), .unset, .unset, .unset, .unset, .unset] [(.int pv), (.int rp), (.int cv), (.int qv), (.long u), (.int nv), (.int tv), (.int sv), (.int fv), (.int (6 : Int32)), (.int (6 : Int32)), (.ref b165), (.ref b165)])) rfl (by rw [hml]; rfl) (argsL := [(.int (6 : Int32)), (.int fv), (.int sv), (.int tv), (.int nv), (.long u), (.int qv), (.int cv), (.int rp), (.int pv)]) (rest := [(.int (6 : Int32)), (.ref b165), (.ref b165)]) (lenOf pd_1 rfl) rfl rfl (W := 3) (by show 2 * 0 + _ ≤ _; exact Nat.le_of_eq rfl) (hb hby at_340) (by decide) (by decide)
              obtain ⟨rfl, Nq340, K340⟩ := hQ340
              have N340 := Fr.app N316 Nq340
              have A_b165_p340 : own_A Z T340.heap b165 .byte 22 (fun i => .int (own_pre G 6 i)) := A_b165_p316c.keep K340 (List.not_mem_nil)
              have Z0_p340 : n0 ≤ T340.heap.size := Nat.le_trans Z0_p316 K340.1
              refine hst st340 ?_
              show F T340 (mkF m 343 #[.val (.long q1), .second, .val (.int p2), .val (.int p3), .val (.int p4), .val (.int p5), .val (.int p6), .val (.long u), .second, .val (.int nv), .val (.int ng), .val (.int fv), .val (.int rf), .val (.int qv), .val (.int cv), .val (.int pv), .val (.int cd), .val (.int rp), .val (.int sv), .val (.int tv), .unset, .unset, .unset, .unset, .unset] [(.int (nar .byte (own_cellv 6 f s' (s' + n) n U Q cv rp pv))), (.int (6 : Int32)), (.ref b165), (.ref b165)])
              obtain ⟨T343, h343, X343, e343, W343, st343⟩ := own_bastore X340 hx hZ rfl A_b165_p340 (by decide) (g := (mkF m 343 #[.val (.long q1), .second, .val (.int p2), .val (.int p3), .val (.int p4), .val (.int p5), .val (.int p6), .val (.long u), .second, .val (.int nv), .val (.int ng), .val (.int fv), .val (.int rf), .val (.int qv), .val (.int cv), .val (.int pv), .val (.int cd), .val (.int rp), .val (.int sv), .val (.int tv), .unset, .unset, .unset, .unset, .unset] [(.int (nar .byte (own_cellv 6 f s' (s' + n) n U Q cv rp pv))), (.int (6 : Int32)), (.ref b165), (.ref b165)])) rfl rfl (hb hby at_343)
              have N343 := Fr.snoc X343 N340 ge_b165
              have A_b165_p343 : own_A Z h343 b165 .byte 22 (fun i => if i = Int32.toNatClampNeg (6 : Int32) then (.int (nar .byte (nar .byte (own_cellv 6 f s' (s' + n) n U Q cv rp pv)))) else (fun i => .int (own_pre G 6 i)) i) := A_b165_p340.set W343
              have Z0_p343 : n0 ≤ h343.size := Nat.le_trans Z0_p340 (Keep.of_wr W343).1
              refine hst st343 ?_
              have A_b165_p343c : own_A Z h343 b165 .byte 22 (fun i => .int (own_pre G 7 i)) := own_A.congr A_b165_p343 (fun i hi => by rw [show Int32.toNatClampNeg (6 : Int32) = 6 from rfl]; exact own_pre_step G 6 i _ (by rw [hG]))
              show F T343 (mkF m 344 #[.val (.long q1), .second, .val (.int p2), .val (.int p3), .val (.int p4), .val (.int p5), .val (.int p6), .val (.long u), .second, .val (.int nv), .val (.int ng), .val (.int fv), .val (.int rf), .val (.int qv), .val (.int cv), .val (.int pv), .val (.int cd), .val (.int rp), .val (.int sv), .val (.int tv), .unset, .unset, .unset, .unset, .unset] [(.ref b165)])
              refine hst (fun t₀ k₀ => XS.dup X343.here hx rfl (hb hby at_344) rfl rfl k₀) ?_
              show F T343 (mkF m 345 #[.val (.long q1), .second, .val (.int p2), .val (.int p3), .val (.int p4), .val (.int p5), .val (.int p6), .val (.long u), .second, .val (.int nv), .val (.int ng), .val (.int fv), .val (.int rf), .val (.int qv), .val (.int cv), .val (.int pv), .val (.int cd), .val (.int rp), .val (.int sv), .val (.int tv), .unset, .unset, .unset, .unset, .unset] [(.ref b165), (.ref b165)])
              refine hst (fun t₀ k₀ => XS.bipush X343.here hx rfl (hb hby at_345) k₀) ?_
              show F T343 (mkF m 347 #[.val (.long q1), .second, .val (.int p2), .val (.int p3), .val (.int p4), .val (.int p5), .val (.int p6), .val (.long u), .second, .val (.int nv), .val (.int ng), .val (.int fv), .val (.int rf), .val (.int qv), .val (.int cv), .val (.int pv), .val (.int cd), .val (.int rp), .val (.int sv), .val (.int tv), .unset, .unset, .unset, .unset, .unset] [(.int (7 : Int32)), (.ref b165), (.ref b165)])
              refine hst (fun t₀ k₀ => XS.bipush X343.here hx rfl (hb hby at_347) k₀) ?_
              show F T343 (mkF m 349 #[.val (.long q1), .second, .val (.int p2), .val (.int p3), .val (.int p4), .val (.int p5), .val (.int p6), .val (.long u), .second, .val (.int nv), .val (.int ng), .val (.int fv), .val (.int rf), .val (.int qv), .val (.int cv), .val (.int pv), .val (.int cd), .val (.int rp), .val (.int sv), .val (.int tv), .unset, .unset, .unset, .unset, .unset] [(.int (7 : Int32)), (.int (7 : Int32)), (.ref b165), (.ref b165)])
              refine hst (fun t₀ k₀ => XS.iload X343.here hx rfl (hb hby at_349) rfl k₀) ?_
              show F T343 (mkF m 351 #[.val (.long q1), .second, .val (.int p2), .val (.int p3), .val (.int p4), .val (.int p5), .val (.int p6), .val (.long u), .second, .val (.int nv), .val (.int ng), .val (.int fv), .val (.int rf), .val (.int qv), .val (.int cv), .val (.int pv), .val (.int cd), .val (.int rp), .val (.int sv), .val (.int tv), .unset, .unset, .unset, .unset, .unset] [(.int fv), (.int (7 : Int32)), (.int (7 : Int32)), (.ref b165), (.ref b165)])
              refine hst (fun t₀ k₀ => XS.iload X343.here hx rfl (hb hby at_351) rfl k₀) ?_
              show F T343 (mkF m 353 #[.val (.long q1), .second, .val (.int p2), .val (.int p3), .val (.int p4), .val (.int p5), .val (.int p6), .val (.long u), .second, .val (.int nv), .val (.int ng), .val (.int fv), .val (.int rf), .val (.int qv), .val (.int cv), .val (.int pv), .val (.int cd), .val (.int rp), .val (.int sv), .val (.int tv), .unset, .unset, .unset, .unset, .unset] [(.int sv), (.int fv), (.int (7 : Int32)), (.int (7 : Int32)), (.ref b165), (.ref b165)])
              refine hst (fun t₀ k₀ => XS.iload X343.here hx rfl (hb hby at_353) rfl k₀) ?_
              show F T343 (mkF m 355 #[.val (.long q1), .second, .val (.int p2), .val (.int p3), .val (.int p4), .val (.int p5), .val (.int p6), .val (.long u), .second, .val (.int nv), .val (.int ng), .val (.int fv), .val (.int rf), .val (.int qv), .val (.int cv), .val (.int pv), .val (.int cd), .val (.int rp), .val (.int sv), .val (.int tv), .unset, .unset, .unset, .unset, .unset] [(.int tv), (.int sv), (.int fv), (.int (7 : Int32)), (.int (7 : Int32)), (.ref b165), (.ref b165)])
              refine hst (fun t₀ k₀ => XS.iload X343.here hx rfl (hb hby at_355) rfl k₀) ?_
              show F T343 (mkF m 357 #[.val (.long q1), .second, .val (.int p2), .val (.int p3), .val (.int p4), .val (.int p5), .val (.int p6), .val (.long u), .second, .val (.int nv), .val (.int ng), .val (.int fv), .val (.int rf), .val (.int qv), .val (.int cv), .val (.int pv), .val (.int cd), .val (.int rp), .val (.int sv), .val (.int tv), .unset, .unset, .unset, .unset, .unset] [(.int nv), (.int tv), (.int sv), (.int fv), (.int (7 : Int32)), (.int (7 : Int32)), (.ref b165), (.ref b165)])
              refine hst (fun t₀ k₀ => XS.lload X343.here hx rfl (hb hby at_357) rfl k₀) ?_
              show F T343 (mkF m 359 #[.val (.long q1), .second, .val (.int p2), .val (.int p3), .val (.int p4), .val (.int p5), .val (.int p6), .val (.long u), .second, .val (.int nv), .val (.int ng), .val (.int fv), .val (.int rf), .val (.int qv), .val (.int cv), .val (.int pv), .val (.int cd), .val (.int rp), .val (.int sv), .val (.int tv), .unset, .unset, .unset, .unset, .unset] [(.long u), (.int nv), (.int tv), (.int sv), (.int fv), (.int (7 : Int32)), (.int (7 : Int32)), (.ref b165), (.ref b165)])
              refine hst (fun t₀ k₀ => XS.iload X343.here hx rfl (hb hby at_359) rfl k₀) ?_
              show F T343 (mkF m 361 #[.val (.long q1), .second, .val (.int p2), .val (.int p3), .val (.int p4), .val (.int p5), .val (.int p6), .val (.long u), .second, .val (.int nv), .val (.int ng), .val (.int fv), .val (.int rf), .val (.int qv), .val (.int cv), .val (.int pv), .val (.int cd), .val (.int rp), .val (.int sv), .val (.int tv), .unset, .unset, .unset, .unset, .unset] [(.int qv), (.long u), (.int nv), (.int tv), (.int sv), (.int fv), (.int (7 : Int32)), (.int (7 : Int32)), (.ref b165), (.ref b165)])
              refine hst (fun t₀ k₀ => XS.iload X343.here hx rfl (hb hby at_361) rfl k₀) ?_
              show F T343 (mkF m 363 #[.val (.long q1), .second, .val (.int p2), .val (.int p3), .val (.int p4), .val (.int p5), .val (.int p6), .val (.long u), .second, .val (.int nv), .val (.int ng), .val (.int fv), .val (.int rf), .val (.int qv), .val (.int cv), .val (.int pv), .val (.int cd), .val (.int rp), .val (.int sv), .val (.int tv), .unset, .unset, .unset, .unset, .unset] [(.int cv), (.int qv), (.long u), (.int nv), (.int tv), (.int sv), (.int fv), (.int (7 : Int32)), (.int (7 : Int32)), (.ref b165), (.ref b165)])
              refine hst (fun t₀ k₀ => XS.iload X343.here hx rfl (hb hby at_363) rfl k₀) ?_
              show F T343 (mkF m 365 #[.val (.long q1), .second, .val (.int p2), .val (.int p3), .val (.int p4), .val (.int p5), .val (.int p6), .val (.long u), .second, .val (.int nv), .val (.int ng), .val (.int fv), .val (.int rf), .val (.int qv), .val (.int cv), .val (.int pv), .val (.int cd), .val (.int rp), .val (.int sv), .val (.int tv), .unset, .unset, .unset, .unset, .unset] [(.int rp), (.int cv), (.int qv), (.long u), (.int nv), (.int tv), (.int sv), (.int fv), (.int (7 : Int32)), (.int (7 : Int32)), (.ref b165), (.ref b165)])
              refine hst (fun t₀ k₀ => XS.iload X343.here hx rfl (hb hby at_365) rfl k₀) ?_
              show F T343 (mkF m 367 #[.val (.long q1), .second, .val (.int p2), .val (.int p3), .val (.int p4), .val (.int p5), .val (.int p6), .val (.long u), .second, .val (.int nv), .val (.int ng), .val (.int fv), .val (.int rf), .val (.int qv), .val (.int cv), .val (.int pv), .val (.int cd), .val (.int rp), .val (.int sv), .val (.int tv), .unset, .unset, .unset, .unset, .unset] [(.int pv), (.int rp), (.int cv), (.int qv), (.long u), (.int nv), (.int tv), (.int sv), (.int fv), (.int (7 : Int32)), (.int (7 : Int32)), (.ref b165), (.ref b165)])
              obtain ⟨v367, T367, Lc367, X367, hQ367, st367⟩ := own_callS X343 hx hZ hown (y := (⟨"com/example/leafline/leafline/table/IntegerValueParsePlainPinLaw", "cell", "(IIIIIJIBZB)B"⟩ : MethodName)) (hw _ (List.mem_of_getElem? (i := 3) rfl)) (hw _ (List.mem_of_getElem? (i := 4) rfl)) (hw _ (List.mem_of_getElem? (i := 5) rfl)) (hw _ (List.mem_of_getElem? (i := 6) rfl)) (by decide) e343 (rm1 l Z a0 hw [] (7 : Int32) fv sv tv nv u qv cv rp pv 7 f s' (s' + n) n U Q h343 n0 Z0_p343 (by decide) hf hs ktv hn hU hq rfl hn2 hs2) (by decide) (by decide) (g := (mkF m 367 #[.val (.long q1), .second, .val (.int p2), .val (.int p3), .val (.int p4), .val (.int p5), .val (.int p6), .val (.long u), .second, .val (.int nv), .val (.int ng), .val (.int fv), .val (.int rf), .val (.int qv), .val (.int cv), .val (.int pv), .val (.int cd), .val (.int rp), .val (.int sv), .val (.int tv), .unset, .unset, .unset, .unset, .unset] [(.int pv), (.int rp), (.int cv), (.int qv), (.long u), (.int nv), (.int tv), (.int sv), (.int fv), (.int (7 : Int32)), (.int (7 : Int32)), (.ref b165), (.ref b165)])) rfl (by rw [hml]; rfl) (argsL := [(.int (7 : Int32)), (.int fv), (.int sv), (.int tv), (.int nv), (.long u), (.int qv), (.int cv), (.int rp), (.int pv)]) (rest := [(.int (7 : Int32)), (.ref b165), (.ref b165)]) (lenOf pd_1 rfl) rfl rfl (W := 3) (by show 2 * 0 + _ ≤ _; exact Nat.le_of_eq rfl) (hb hby at_367) (by decide) (by decide)
              obtain ⟨rfl, Nq367, K367⟩ := hQ367
              have N367 := Fr.app N343 Nq367
              have A_b165_p367 : own_A Z T367.heap b165 .byte 22 (fun i => .int (own_pre G 7 i)) := A_b165_p343c.keep K367 (List.not_mem_nil)
              have Z0_p367 : n0 ≤ T367.heap.size := Nat.le_trans Z0_p343 K367.1
              refine hst st367 ?_
              show F T367 (mkF m 370 #[.val (.long q1), .second, .val (.int p2), .val (.int p3), .val (.int p4), .val (.int p5), .val (.int p6), .val (.long u), .second, .val (.int nv), .val (.int ng), .val (.int fv), .val (.int rf), .val (.int qv), .val (.int cv), .val (.int pv), .val (.int cd), .val (.int rp), .val (.int sv), .val (.int tv), .unset, .unset, .unset, .unset, .unset] [(.int (nar .byte (own_cellv 7 f s' (s' + n) n U Q cv rp pv))), (.int (7 : Int32)), (.ref b165), (.ref b165)])
              obtain ⟨T370, h370, X370, e370, W370, st370⟩ := own_bastore X367 hx hZ rfl A_b165_p367 (by decide) (g := (mkF m 370 #[.val (.long q1), .second, .val (.int p2), .val (.int p3), .val (.int p4), .val (.int p5), .val (.int p6), .val (.long u), .second, .val (.int nv), .val (.int ng), .val (.int fv), .val (.int rf), .val (.int qv), .val (.int cv), .val (.int pv), .val (.int cd), .val (.int rp), .val (.int sv), .val (.int tv), .unset, .unset, .unset, .unset, .unset] [(.int (nar .byte (own_cellv 7 f s' (s' + n) n U Q cv rp pv))), (.int (7 : Int32)), (.ref b165), (.ref b165)])) rfl rfl (hb hby at_370)
              have N370 := Fr.snoc X370 N367 ge_b165
              have A_b165_p370 : own_A Z h370 b165 .byte 22 (fun i => if i = Int32.toNatClampNeg (7 : Int32) then (.int (nar .byte (nar .byte (own_cellv 7 f s' (s' + n) n U Q cv rp pv)))) else (fun i => .int (own_pre G 7 i)) i) := A_b165_p367.set W370
              have Z0_p370 : n0 ≤ h370.size := Nat.le_trans Z0_p367 (Keep.of_wr W370).1
              refine hst st370 ?_
              have A_b165_p370c : own_A Z h370 b165 .byte 22 (fun i => .int (own_pre G 8 i)) := own_A.congr A_b165_p370 (fun i hi => by rw [show Int32.toNatClampNeg (7 : Int32) = 7 from rfl]; exact own_pre_step G 7 i _ (by rw [hG]))
              show F T370 (mkF m 371 #[.val (.long q1), .second, .val (.int p2), .val (.int p3), .val (.int p4), .val (.int p5), .val (.int p6), .val (.long u), .second, .val (.int nv), .val (.int ng), .val (.int fv), .val (.int rf), .val (.int qv), .val (.int cv), .val (.int pv), .val (.int cd), .val (.int rp), .val (.int sv), .val (.int tv), .unset, .unset, .unset, .unset, .unset] [(.ref b165)])
              refine hst (fun t₀ k₀ => XS.dup X370.here hx rfl (hb hby at_371) rfl rfl k₀) ?_
              show F T370 (mkF m 372 #[.val (.long q1), .second, .val (.int p2), .val (.int p3), .val (.int p4), .val (.int p5), .val (.int p6), .val (.long u), .second, .val (.int nv), .val (.int ng), .val (.int fv), .val (.int rf), .val (.int qv), .val (.int cv), .val (.int pv), .val (.int cd), .val (.int rp), .val (.int sv), .val (.int tv), .unset, .unset, .unset, .unset, .unset] [(.ref b165), (.ref b165)])
              refine hst (fun t₀ k₀ => XS.bipush X370.here hx rfl (hb hby at_372) k₀) ?_
              show F T370 (mkF m 374 #[.val (.long q1), .second, .val (.int p2), .val (.int p3), .val (.int p4), .val (.int p5), .val (.int p6), .val (.long u), .second, .val (.int nv), .val (.int ng), .val (.int fv), .val (.int rf), .val (.int qv), .val (.int cv), .val (.int pv), .val (.int cd), .val (.int rp), .val (.int sv), .val (.int tv), .unset, .unset, .unset, .unset, .unset] [(.int (8 : Int32)), (.ref b165), (.ref b165)])
              refine hst (fun t₀ k₀ => XS.bipush X370.here hx rfl (hb hby at_374) k₀) ?_
              show F T370 (mkF m 376 #[.val (.long q1), .second, .val (.int p2), .val (.int p3), .val (.int p4), .val (.int p5), .val (.int p6), .val (.long u), .second, .val (.int nv), .val (.int ng), .val (.int fv), .val (.int rf), .val (.int qv), .val (.int cv), .val (.int pv), .val (.int cd), .val (.int rp), .val (.int sv), .val (.int tv), .unset, .unset, .unset, .unset, .unset] [(.int (8 : Int32)), (.int (8 : Int32)), (.ref b165), (.ref b165)])
              refine hst (fun t₀ k₀ => XS.iload X370.here hx rfl (hb hby at_376) rfl k₀) ?_
              show F T370 (mkF m 378 #[.val (.long q1), .second, .val (.int p2), .val (.int p3), .val (.int p4), .val (.int p5), .val (.int p6), .val (.long u), .second, .val (.int nv), .val (.int ng), .val (.int fv), .val (.int rf), .val (.int qv), .val (.int cv), .val (.int pv), .val (.int cd), .val (.int rp), .val (.int sv), .val (.int tv), .unset, .unset, .unset, .unset, .unset] [(.int fv), (.int (8 : Int32)), (.int (8 : Int32)), (.ref b165), (.ref b165)])
              refine hst (fun t₀ k₀ => XS.iload X370.here hx rfl (hb hby at_378) rfl k₀) ?_
              show F T370 (mkF m 380 #[.val (.long q1), .second, .val (.int p2), .val (.int p3), .val (.int p4), .val (.int p5), .val (.int p6), .val (.long u), .second, .val (.int nv), .val (.int ng), .val (.int fv), .val (.int rf), .val (.int qv), .val (.int cv), .val (.int pv), .val (.int cd), .val (.int rp), .val (.int sv), .val (.int tv), .unset, .unset, .unset, .unset, .unset] [(.int sv), (.int fv), (.int (8 : Int32)), (.int (8 : Int32)), (.ref b165), (.ref b165)])
              refine hst (fun t₀ k₀ => XS.iload X370.here hx rfl (hb hby at_380) rfl k₀) ?_
              show F T370 (mkF m 382 #[.val (.long q1), .second, .val (.int p2), .val (.int p3), .val (.int p4), .val (.int p5), .val (.int p6), .val (.long u), .second, .val (.int nv), .val (.int ng), .val (.int fv), .val (.int rf), .val (.int qv), .val (.int cv), .val (.int pv), .val (.int cd), .val (.int rp), .val (.int sv), .val (.int tv), .unset, .unset, .unset, .unset, .unset] [(.int tv), (.int sv), (.int fv), (.int (8 : Int32)), (.int (8 : Int32)), (.ref b165), (.ref b165)])
              refine hst (fun t₀ k₀ => XS.iload X370.here hx rfl (hb hby at_382) rfl k₀) ?_
              show F T370 (mkF m 384 #[.val (.long q1), .second, .val (.int p2), .val (.int p3), .val (.int p4), .val (.int p5), .val (.int p6), .val (.long u), .second, .val (.int nv), .val (.int ng), .val (.int fv), .val (.int rf), .val (.int qv), .val (.int cv), .val (.int pv), .val (.int cd), .val (.int rp), .val (.int sv), .val (.int tv), .unset, .unset, .unset, .unset, .unset] [(.int nv), (.int tv), (.int sv), (.int fv), (.int (8 : Int32)), (.int (8 : Int32)), (.ref b165), (.ref b165)])
              refine hst (fun t₀ k₀ => XS.lload X370.here hx rfl (hb hby at_384) rfl k₀) ?_
              show F T370 (mkF m 386 #[.val (.long q1), .second, .val (.int p2), .val (.int p3), .val (.int p4), .val (.int p5), .val (.int p6), .val (.long u), .second, .val (.int nv), .val (.int ng), .val (.int fv), .val (.int rf), .val (.int qv), .val (.int cv), .val (.int pv), .val (.int cd), .val (.int rp), .val (.int sv), .val (.int tv), .unset, .unset, .unset, .unset, .unset] [(.long u), (.int nv), (.int tv), (.int sv), (.int fv), (.int (8 : Int32)), (.int (8 : Int32)), (.ref b165), (.ref b165)])
              refine hst (fun t₀ k₀ => XS.iload X370.here hx rfl (hb hby at_386) rfl k₀) ?_
              show F T370 (mkF m 388 #[.val (.long q1), .second, .val (.int p2), .val (.int p3), .val (.int p4), .val (.int p5), .val (.int p6), .val (.long u), .second, .val (.int nv), .val (.int ng), .val (.int fv), .val (.int rf), .val (.int qv), .val (.int cv), .val (.int pv), .val (.int cd), .val (.int rp), .val (.int sv), .val (.int tv), .unset, .unset, .unset, .unset, .unset] [(.int qv), (.long u), (.int nv), (.int tv), (.int sv), (.int fv), (.int (8 : Int32)), (.int (8 : Int32)), (.ref b165), (.ref b165)])
              refine hst (fun t₀ k₀ => XS.iload X370.here hx rfl (hb hby at_388) rfl k₀) ?_
              show F T370 (mkF m 390 #[.val (.long q1), .second, .val (.int p2), .val (.int p3), .val (.int p4), .val (.int p5), .val (.int p6), .val (.long u), .second, .val (.int nv), .val (.int ng), .val (.int fv), .val (.int rf), .val (.int qv), .val (.int cv), .val (.int pv), .val (.int cd), .val (.int rp), .val (.int sv), .val (.int tv), .unset, .unset, .unset, .unset, .unset] [(.int cv), (.int qv), (.long u), (.int nv), (.int tv), (.int sv), (.int fv), (.int (8 : Int32)), (.int (8 : Int32)), (.ref b165), (.ref b165)])
              refine hst (fun t₀ k₀ => XS.iload X370.here hx rfl (hb hby at_390) rfl k₀) ?_
              show F T370 (mkF m 392 #[.val (.long q1), .second, .val (.int p2), .val (.int p3), .val (.int p4), .val (.int p5), .val (.int p6), .val (.long u), .second, .val (.int nv), .val (.int ng), .val (.int fv), .val (.int rf), .val (.int qv), .val (.int cv), .val (.int pv), .val (.int cd), .val (.int rp), .val (.int sv), .val (.int tv), .unset, .unset, .unset, .unset, .unset] [(.int rp), (.int cv), (.int qv), (.long u), (.int nv), (.int tv), (.int sv), (.int fv), (.int (8 : Int32)), (.int (8 : Int32)), (.ref b165), (.ref b165)])
              refine hst (fun t₀ k₀ => XS.iload X370.here hx rfl (hb hby at_392) rfl k₀) ?_
              show F T370 (mkF m 394 #[.val (.long q1), .second, .val (.int p2), .val (.int p3), .val (.int p4), .val (.int p5), .val (.int p6), .val (.long u), .second, .val (.int nv), .val (.int ng), .val (.int fv), .val (.int rf), .val (.int qv), .val (.int cv), .val (.int pv), .val (.int cd), .val (.int rp), .val (.int sv), .val (.int tv), .unset, .unset, .unset, .unset, .unset] [(.int pv), (.int rp), (.int cv), (.int qv), (.long u), (.int nv), (.int tv), (.int sv), (.int fv), (.int (8 : Int32)), (.int (8 : Int32)), (.ref b165), (.ref b165)])
              obtain ⟨v394, T394, Lc394, X394, hQ394, st394⟩ := own_callS X370 hx hZ hown (y := (⟨"com/example/leafline/leafline/table/IntegerValueParsePlainPinLaw", "cell", "(IIIIIJIBZB)B"⟩ : MethodName)) (hw _ (List.mem_of_getElem? (i := 3) rfl)) (hw _ (List.mem_of_getElem? (i := 4) rfl)) (hw _ (List.mem_of_getElem? (i := 5) rfl)) (hw _ (List.mem_of_getElem? (i := 6) rfl)) (by decide) e370 (rm1 l Z a0 hw [] (8 : Int32) fv sv tv nv u qv cv rp pv 8 f s' (s' + n) n U Q h370 n0 Z0_p370 (by decide) hf hs ktv hn hU hq rfl hn2 hs2) (by decide) (by decide) (g := (mkF m 394 #[.val (.long q1), .second, .val (.int p2), .val (.int p3), .val (.int p4), .val (.int p5), .val (.int p6), .val (.long u), .second, .val (.int nv), .val (.int ng), .val (.int fv), .val (.int rf), .val (.int qv), .val (.int cv), .val (.int pv), .val (.int cd), .val (.int rp), .val (.int sv), .val (.int tv), .unset, .unset, .unset, .unset, .unset] [(.int pv), (.int rp), (.int cv), (.int qv), (.long u), (.int nv), (.int tv), (.int sv), (.int fv), (.int (8 : Int32)), (.int (8 : Int32)), (.ref b165), (.ref b165)])) rfl (by rw [hml]; rfl) (argsL := [(.int (8 : Int32)), (.int fv), (.int sv), (.int tv), (.int nv), (.long u), (.int qv), (.int cv), (.int rp), (.int pv)]) (rest := [(.int (8 : Int32)), (.ref b165), (.ref b165)]) (lenOf pd_1 rfl) rfl rfl (W := 3) (by show 2 * 0 + _ ≤ _; exact Nat.le_of_eq rfl) (hb hby at_394) (by decide) (by decide)
              obtain ⟨rfl, Nq394, K394⟩ := hQ394
              have N394 := Fr.app N370 Nq394
              have A_b165_p394 : own_A Z T394.heap b165 .byte 22 (fun i => .int (own_pre G 8 i)) := A_b165_p370c.keep K394 (List.not_mem_nil)
              have Z0_p394 : n0 ≤ T394.heap.size := Nat.le_trans Z0_p370 K394.1
              refine hst st394 ?_
              show F T394 (mkF m 397 #[.val (.long q1), .second, .val (.int p2), .val (.int p3), .val (.int p4), .val (.int p5), .val (.int p6), .val (.long u), .second, .val (.int nv), .val (.int ng), .val (.int fv), .val (.int rf), .val (.int qv), .val (.int cv), .val (.int pv), .val (.int cd), .val (.int rp), .val (.int sv), .val (.int tv), .unset, .unset, .unset, .unset, .unset] [(.int (nar .byte (own_cellv 8 f s' (s' + n) n U Q cv rp pv))), (.int (8 : Int32)), (.ref b165), (.ref b165)])
              obtain ⟨T397, h397, X397, e397, W397, st397⟩ := own_bastore X394 hx hZ rfl A_b165_p394 (by decide) (g := (mkF m 397 #[.val (.long q1), .second, .val (.int p2), .val (.int p3), .val (.int p4), .val (.int p5), .val (.int p6), .val (.long u), .second, .val (.int nv), .val (.int ng), .val (.int fv), .val (.int rf), .val (.int qv), .val (.int cv), .val (.int pv), .val (.int cd), .val (.int rp), .val (.int sv), .val (.int tv), .unset, .unset, .unset, .unset, .unset] [(.int (nar .byte (own_cellv 8 f s' (s' + n) n U Q cv rp pv))), (.int (8 : Int32)), (.ref b165), (.ref b165)])) rfl rfl (hb hby at_397)
              have N397 := Fr.snoc X397 N394 ge_b165
              have A_b165_p397 : own_A Z h397 b165 .byte 22 (fun i => if i = Int32.toNatClampNeg (8 : Int32) then (.int (nar .byte (nar .byte (own_cellv 8 f s' (s' + n) n U Q cv rp pv)))) else (fun i => .int (own_pre G 8 i)) i) := A_b165_p394.set W397
              have Z0_p397 : n0 ≤ h397.size := Nat.le_trans Z0_p394 (Keep.of_wr W397).1
              refine hst st397 ?_
              have A_b165_p397c : own_A Z h397 b165 .byte 22 (fun i => .int (own_pre G 9 i)) := own_A.congr A_b165_p397 (fun i hi => by rw [show Int32.toNatClampNeg (8 : Int32) = 8 from rfl]; exact own_pre_step G 8 i _ (by rw [hG]))
              show F T397 (mkF m 398 #[.val (.long q1), .second, .val (.int p2), .val (.int p3), .val (.int p4), .val (.int p5), .val (.int p6), .val (.long u), .second, .val (.int nv), .val (.int ng), .val (.int fv), .val (.int rf), .val (.int qv), .val (.int cv), .val (.int pv), .val (.int cd), .val (.int rp), .val (.int sv), .val (.int tv), .unset, .unset, .unset, .unset, .unset] [(.ref b165)])
              refine hst (fun t₀ k₀ => XS.dup X397.here hx rfl (hb hby at_398) rfl rfl k₀) ?_
              show F T397 (mkF m 399 #[.val (.long q1), .second, .val (.int p2), .val (.int p3), .val (.int p4), .val (.int p5), .val (.int p6), .val (.long u), .second, .val (.int nv), .val (.int ng), .val (.int fv), .val (.int rf), .val (.int qv), .val (.int cv), .val (.int pv), .val (.int cd), .val (.int rp), .val (.int sv), .val (.int tv), .unset, .unset, .unset, .unset, .unset] [(.ref b165), (.ref b165)])
              refine hst (fun t₀ k₀ => XS.bipush X397.here hx rfl (hb hby at_399) k₀) ?_
              show F T397 (mkF m 401 #[.val (.long q1), .second, .val (.int p2), .val (.int p3), .val (.int p4), .val (.int p5), .val (.int p6), .val (.long u), .second, .val (.int nv), .val (.int ng), .val (.int fv), .val (.int rf), .val (.int qv), .val (.int cv), .val (.int pv), .val (.int cd), .val (.int rp), .val (.int sv), .val (.int tv), .unset, .unset, .unset, .unset, .unset] [(.int (9 : Int32)), (.ref b165), (.ref b165)])
              refine hst (fun t₀ k₀ => XS.bipush X397.here hx rfl (hb hby at_401) k₀) ?_
              show F T397 (mkF m 403 #[.val (.long q1), .second, .val (.int p2), .val (.int p3), .val (.int p4), .val (.int p5), .val (.int p6), .val (.long u), .second, .val (.int nv), .val (.int ng), .val (.int fv), .val (.int rf), .val (.int qv), .val (.int cv), .val (.int pv), .val (.int cd), .val (.int rp), .val (.int sv), .val (.int tv), .unset, .unset, .unset, .unset, .unset] [(.int (9 : Int32)), (.int (9 : Int32)), (.ref b165), (.ref b165)])
              refine hst (fun t₀ k₀ => XS.iload X397.here hx rfl (hb hby at_403) rfl k₀) ?_
              show F T397 (mkF m 405 #[.val (.long q1), .second, .val (.int p2), .val (.int p3), .val (.int p4), .val (.int p5), .val (.int p6), .val (.long u), .second, .val (.int nv), .val (.int ng), .val (.int fv), .val (.int rf), .val (.int qv), .val (.int cv), .val (.int pv), .val (.int cd), .val (.int rp), .val (.int sv), .val (.int tv), .unset, .unset, .unset, .unset, .unset] [(.int fv), (.int (9 : Int32)), (.int (9 : Int32)), (.ref b165), (.ref b165)])
              refine hst (fun t₀ k₀ => XS.iload X397.here hx rfl (hb hby at_405) rfl k₀) ?_
              show F T397 (mkF m 407 #[.val (.long q1), .second, .val (.int p2), .val (.int p3), .val (.int p4), .val (.int p5), .val (.int p6), .val (.long u), .second, .val (.int nv), .val (.int ng), .val (.int fv), .val (.int rf), .val (.int qv), .val (.int cv), .val (.int pv), .val (.int cd), .val (.int rp), .val (.int sv), .val (.int tv), .unset, .unset, .unset, .unset, .unset] [(.int sv), (.int fv), (.int (9 : Int32)), (.int (9 : Int32)), (.ref b165), (.ref b165)])
              refine hst (fun t₀ k₀ => XS.iload X397.here hx rfl (hb hby at_407) rfl k₀) ?_
              show F T397 (mkF m 409 #[.val (.long q1), .second, .val (.int p2), .val (.int p3), .val (.int p4), .val (.int p5), .val (.int p6), .val (.long u), .second, .val (.int nv), .val (.int ng), .val (.int fv), .val (.int rf), .val (.int qv), .val (.int cv), .val (.int pv), .val (.int cd), .val (.int rp), .val (.int sv), .val (.int tv), .unset, .unset, .unset, .unset, .unset] [(.int tv), (.int sv), (.int fv), (.int (9 : Int32)), (.int (9 : Int32)), (.ref b165), (.ref b165)])
              refine hst (fun t₀ k₀ => XS.iload X397.here hx rfl (hb hby at_409) rfl k₀) ?_
              show F T397 (mkF m 411 #[.val (.long q1), .second, .val (.int p2), .val (.int p3), .val (.int p4), .val (.int p5), .val (.int p6), .val (.long u), .second, .val (.int nv), .val (.int ng), .val (.int fv), .val (.int rf), .val (.int qv), .val (.int cv), .val (.int pv), .val (.int cd), .val (.int rp), .val (.int sv), .val (.int tv), .unset, .unset, .unset, .unset, .unset] [(.int nv), (.int tv), (.int sv), (.int fv), (.int (9 : Int32)), (.int (9 : Int32)), (.ref b165), (.ref b165)])
              refine hst (fun t₀ k₀ => XS.lload X397.here hx rfl (hb hby at_411) rfl k₀) ?_
              show F T397 (mkF m 413 #[.val (.long q1), .second, .val (.int p2), .val (.int p3), .val (.int p4), .val (.int p5), .val (.int p6), .val (.long u), .second, .val (.int nv), .val (.int ng), .val (.int fv), .val (.int rf), .val (.int qv), .val (.int cv), .val (.int pv), .val (.int cd), .val (.int rp), .val (.int sv), .val (.int tv), .unset, .unset, .unset, .unset, .unset] [(.long u), (.int nv), (.int tv), (.int sv), (.int fv), (.int (9 : Int32)), (.int (9 : Int32)), (.ref b165), (.ref b165)])
              refine hst (fun t₀ k₀ => XS.iload X397.here hx rfl (hb hby at_413) rfl k₀) ?_
              show F T397 (mkF m 415 #[.val (.long q1), .second, .val (.int p2), .val (.int p3), .val (.int p4), .val (.int p5), .val (.int p6), .val (.long u), .second, .val (.int nv), .val (.int ng), .val (.int fv), .val (.int rf), .val (.int qv), .val (.int cv), .val (.int pv), .val (.int cd), .val (.int rp), .val (.int sv), .val (.int tv), .unset, .unset, .unset, .unset, .unset] [(.int qv), (.long u), (.int nv), (.int tv), (.int sv), (.int fv), (.int (9 : Int32)), (.int (9 : Int32)), (.ref b165), (.ref b165)])
              refine hst (fun t₀ k₀ => XS.iload X397.here hx rfl (hb hby at_415) rfl k₀) ?_
              show F T397 (mkF m 417 #[.val (.long q1), .second, .val (.int p2), .val (.int p3), .val (.int p4), .val (.int p5), .val (.int p6), .val (.long u), .second, .val (.int nv), .val (.int ng), .val (.int fv), .val (.int rf), .val (.int qv), .val (.int cv), .val (.int pv), .val (.int cd), .val (.int rp), .val (.int sv), .val (.int tv), .unset, .unset, .unset, .unset, .unset] [(.int cv), (.int qv), (.long u), (.int nv), (.int tv), (.int sv), (.int fv), (.int (9 : Int32)), (.int (9 : Int32)), (.ref b165), (.ref b165)])
              refine hst (fun t₀ k₀ => XS.iload X397.here hx rfl (hb hby at_417) rfl k₀) ?_
              show F T397 (mkF m 419 #[.val (.long q1), .second, .val (.int p2), .val (.int p3), .val (.int p4), .val (.int p5), .val (.int p6), .val (.long u), .second, .val (.int nv), .val (.int ng), .val (.int fv), .val (.int rf), .val (.int qv), .val (.int cv), .val (.int pv), .val (.int cd), .val (.int rp), .val (.int sv), .val (.int tv), .unset, .unset, .unset, .unset, .unset] [(.int rp), (.int cv), (.int qv), (.long u), (.int nv), (.int tv), (.int sv), (.int fv), (.int (9 : Int32)), (.int (9 : Int32)), (.ref b165), (.ref b165)])
              refine hst (fun t₀ k₀ => XS.iload X397.here hx rfl (hb hby at_419) rfl k₀) ?_
              show F T397 (mkF m 421 #[.val (.long q1), .second, .val (.int p2), .val (.int p3), .val (.int p4), .val (.int p5), .val (.int p6), .val (.long u), .second, .val (.int nv), .val (.int ng), .val (.int fv), .val (.int rf), .val (.int qv), .val (.int cv), .val (.int pv), .val (.int cd), .val (.int rp), .val (.int sv), .val (.int tv), .unset, .unset, .unset, .unset, .unset] [(.int pv), (.int rp), (.int cv), (.int qv), (.long u), (.int nv), (.int tv), (.int sv), (.int fv), (.int (9 : Int32)), (.int (9 : Int32)), (.ref b165), (.ref b165)])
              obtain ⟨v421, T421, Lc421, X421, hQ421, st421⟩ := own_callS X397 hx hZ hown (y := (⟨"com/example/leafline/leafline/table/IntegerValueParsePlainPinLaw", "cell", "(IIIIIJIBZB)B"⟩ : MethodName)) (hw _ (List.mem_of_getElem? (i := 3) rfl)) (hw _ (List.mem_of_getElem? (i := 4) rfl)) (hw _ (List.mem_of_getElem? (i := 5) rfl)) (hw _ (List.mem_of_getElem? (i := 6) rfl)) (by decide) e397 (rm1 l Z a0 hw [] (9 : Int32) fv sv tv nv u qv cv rp pv 9 f s' (s' + n) n U Q h397 n0 Z0_p397 (by decide) hf hs ktv hn hU hq rfl hn2 hs2) (by decide) (by decide) (g := (mkF m 421 #[.val (.long q1), .second, .val (.int p2), .val (.int p3), .val (.int p4), .val (.int p5), .val (.int p6), .val (.long u), .second, .val (.int nv), .val (.int ng), .val (.int fv), .val (.int rf), .val (.int qv), .val (.int cv), .val (.int pv), .val (.int cd), .val (.int rp), .val (.int sv), .val (.int tv), .unset, .unset, .unset, .unset, .unset] [(.int pv), (.int rp), (.int cv), (.int qv), (.long u), (.int nv), (.int tv), (.int sv), (.int fv), (.int (9 : Int32)), (.int (9 : Int32)), (.ref b165), (.ref b165)])) rfl (by rw [hml]; rfl) (argsL := [(.int (9 : Int32)), (.int fv), (.int sv), (.int tv), (.int nv), (.long u), (.int qv), (.int cv), (.int rp), (.int pv)]) (rest := [(.int (9 : Int32)), (.ref b165), (.ref b165)]) (lenOf pd_1 rfl) rfl rfl (W := 3) (by show 2 * 0 + _ ≤ _; exact Nat.le_of_eq rfl) (hb hby at_421) (by decide) (by decide)
              obtain ⟨rfl, Nq421, K421⟩ := hQ421
              have N421 := Fr.app N397 Nq421
              have A_b165_p421 : own_A Z T421.heap b165 .byte 22 (fun i => .int (own_pre G 9 i)) := A_b165_p397c.keep K421 (List.not_mem_nil)
              have Z0_p421 : n0 ≤ T421.heap.size := Nat.le_trans Z0_p397 K421.1
              refine hst st421 ?_
              show F T421 (mkF m 424 #[.val (.long q1), .second, .val (.int p2), .val (.int p3), .val (.int p4), .val (.int p5), .val (.int p6), .val (.long u), .second, .val (.int nv), .val (.int ng), .val (.int fv), .val (.int rf), .val (.int qv), .val (.int cv), .val (.int pv), .val (.int cd), .val (.int rp), .val (.int sv), .val (.int tv), .unset, .unset, .unset, .unset, .unset] [(.int (nar .byte (own_cellv 9 f s' (s' + n) n U Q cv rp pv))), (.int (9 : Int32)), (.ref b165), (.ref b165)])
              obtain ⟨T424, h424, X424, e424, W424, st424⟩ := own_bastore X421 hx hZ rfl A_b165_p421 (by decide) (g := (mkF m 424 #[.val (.long q1), .second, .val (.int p2), .val (.int p3), .val (.int p4), .val (.int p5), .val (.int p6), .val (.long u), .second, .val (.int nv), .val (.int ng), .val (.int fv), .val (.int rf), .val (.int qv), .val (.int cv), .val (.int pv), .val (.int cd), .val (.int rp), .val (.int sv), .val (.int tv), .unset, .unset, .unset, .unset, .unset] [(.int (nar .byte (own_cellv 9 f s' (s' + n) n U Q cv rp pv))), (.int (9 : Int32)), (.ref b165), (.ref b165)])) rfl rfl (hb hby at_424)
              have N424 := Fr.snoc X424 N421 ge_b165
              have A_b165_p424 : own_A Z h424 b165 .byte 22 (fun i => if i = Int32.toNatClampNeg (9 : Int32) then (.int (nar .byte (nar .byte (own_cellv 9 f s' (s' + n) n U Q cv rp pv)))) else (fun i => .int (own_pre G 9 i)) i) := A_b165_p421.set W424
              have Z0_p424 : n0 ≤ h424.size := Nat.le_trans Z0_p421 (Keep.of_wr W424).1
              refine hst st424 ?_
              have A_b165_p424c : own_A Z h424 b165 .byte 22 (fun i => .int (own_pre G 10 i)) := own_A.congr A_b165_p424 (fun i hi => by rw [show Int32.toNatClampNeg (9 : Int32) = 9 from rfl]; exact own_pre_step G 9 i _ (by rw [hG]))
              show F T424 (mkF m 425 #[.val (.long q1), .second, .val (.int p2), .val (.int p3), .val (.int p4), .val (.int p5), .val (.int p6), .val (.long u), .second, .val (.int nv), .val (.int ng), .val (.int fv), .val (.int rf), .val (.int qv), .val (.int cv), .val (.int pv), .val (.int cd), .val (.int rp), .val (.int sv), .val (.int tv), .unset, .unset, .unset, .unset, .unset] [(.ref b165)])
              refine hst (fun t₀ k₀ => XS.dup X424.here hx rfl (hb hby at_425) rfl rfl k₀) ?_
              show F T424 (mkF m 426 #[.val (.long q1), .second, .val (.int p2), .val (.int p3), .val (.int p4), .val (.int p5), .val (.int p6), .val (.long u), .second, .val (.int nv), .val (.int ng), .val (.int fv), .val (.int rf), .val (.int qv), .val (.int cv), .val (.int pv), .val (.int cd), .val (.int rp), .val (.int sv), .val (.int tv), .unset, .unset, .unset, .unset, .unset] [(.ref b165), (.ref b165)])
              refine hst (fun t₀ k₀ => XS.bipush X424.here hx rfl (hb hby at_426) k₀) ?_
              show F T424 (mkF m 428 #[.val (.long q1), .second, .val (.int p2), .val (.int p3), .val (.int p4), .val (.int p5), .val (.int p6), .val (.long u), .second, .val (.int nv), .val (.int ng), .val (.int fv), .val (.int rf), .val (.int qv), .val (.int cv), .val (.int pv), .val (.int cd), .val (.int rp), .val (.int sv), .val (.int tv), .unset, .unset, .unset, .unset, .unset] [(.int (10 : Int32)), (.ref b165), (.ref b165)])
              refine hst (fun t₀ k₀ => XS.bipush X424.here hx rfl (hb hby at_428) k₀) ?_
              show F T424 (mkF m 430 #[.val (.long q1), .second, .val (.int p2), .val (.int p3), .val (.int p4), .val (.int p5), .val (.int p6), .val (.long u), .second, .val (.int nv), .val (.int ng), .val (.int fv), .val (.int rf), .val (.int qv), .val (.int cv), .val (.int pv), .val (.int cd), .val (.int rp), .val (.int sv), .val (.int tv), .unset, .unset, .unset, .unset, .unset] [(.int (10 : Int32)), (.int (10 : Int32)), (.ref b165), (.ref b165)])
              refine hst (fun t₀ k₀ => XS.iload X424.here hx rfl (hb hby at_430) rfl k₀) ?_
              show F T424 (mkF m 432 #[.val (.long q1), .second, .val (.int p2), .val (.int p3), .val (.int p4), .val (.int p5), .val (.int p6), .val (.long u), .second, .val (.int nv), .val (.int ng), .val (.int fv), .val (.int rf), .val (.int qv), .val (.int cv), .val (.int pv), .val (.int cd), .val (.int rp), .val (.int sv), .val (.int tv), .unset, .unset, .unset, .unset, .unset] [(.int fv), (.int (10 : Int32)), (.int (10 : Int32)), (.ref b165), (.ref b165)])
              refine hst (fun t₀ k₀ => XS.iload X424.here hx rfl (hb hby at_432) rfl k₀) ?_
              show F T424 (mkF m 434 #[.val (.long q1), .second, .val (.int p2), .val (.int p3), .val (.int p4), .val (.int p5), .val (.int p6), .val (.long u), .second, .val (.int nv), .val (.int ng), .val (.int fv), .val (.int rf), .val (.int qv), .val (.int cv), .val (.int pv), .val (.int cd), .val (.int rp), .val (.int sv), .val (.int tv), .unset, .unset, .unset, .unset, .unset] [(.int sv), (.int fv), (.int (10 : Int32)), (.int (10 : Int32)), (.ref b165), (.ref b165)])
              refine hst (fun t₀ k₀ => XS.iload X424.here hx rfl (hb hby at_434) rfl k₀) ?_
              show F T424 (mkF m 436 #[.val (.long q1), .second, .val (.int p2), .val (.int p3), .val (.int p4), .val (.int p5), .val (.int p6), .val (.long u), .second, .val (.int nv), .val (.int ng), .val (.int fv), .val (.int rf), .val (.int qv), .val (.int cv), .val (.int pv), .val (.int cd), .val (.int rp), .val (.int sv), .val (.int tv), .unset, .unset, .unset, .unset, .unset] [(.int tv), (.int sv), (.int fv), (.int (10 : Int32)), (.int (10 : Int32)), (.ref b165), (.ref b165)])
              refine hst (fun t₀ k₀ => XS.iload X424.here hx rfl (hb hby at_436) rfl k₀) ?_
              show F T424 (mkF m 438 #[.val (.long q1), .second, .val (.int p2), .val (.int p3), .val (.int p4), .val (.int p5), .val (.int p6), .val (.long u), .second, .val (.int nv), .val (.int ng), .val (.int fv), .val (.int rf), .val (.int qv), .val (.int cv), .val (.int pv), .val (.int cd), .val (.int rp), .val (.int sv), .val (.int tv), .unset, .unset, .unset, .unset, .unset] [(.int nv), (.int tv), (.int sv), (.int fv), (.int (10 : Int32)), (.int (10 : Int32)), (.ref b165), (.ref b165)])
              refine hst (fun t₀ k₀ => XS.lload X424.here hx rfl (hb hby at_438) rfl k₀) ?_
              show F T424 (mkF m 440 #[.val (.long q1), .second, .val (.int p2), .val (.int p3), .val (.int p4), .val (.int p5), .val (.int p6), .val (.long u), .second, .val (.int nv), .val (.int ng), .val (.int fv), .val (.int rf), .val (.int qv), .val (.int cv), .val (.int pv), .val (.int cd), .val (.int rp), .val (.int sv), .val (.int tv), .unset, .unset, .unset, .unset, .unset] [(.long u), (.int nv), (.int tv), (.int sv), (.int fv), (.int (10 : Int32)), (.int (10 : Int32)), (.ref b165), (.ref b165)])
              refine hst (fun t₀ k₀ => XS.iload X424.here hx rfl (hb hby at_440) rfl k₀) ?_
              show F T424 (mkF m 442 #[.val (.long q1), .second, .val (.int p2), .val (.int p3), .val (.int p4), .val (.int p5), .val (.int p6), .val (.long u), .second, .val (.int nv), .val (.int ng), .val (.int fv), .val (.int rf), .val (.int qv), .val (.int cv), .val (.int pv), .val (.int cd), .val (.int rp), .val (.int sv), .val (.int tv), .unset, .unset, .unset, .unset, .unset] [(.int qv), (.long u), (.int nv), (.int tv), (.int sv), (.int fv), (.int (10 : Int32)), (.int (10 : Int32)), (.ref b165), (.ref b165)])
              refine hst (fun t₀ k₀ => XS.iload X424.here hx rfl (hb hby at_442) rfl k₀) ?_
              show F T424 (mkF m 444 #[.val (.long q1), .second, .val (.int p2), .val (.int p3), .val (.int p4), .val (.int p5), .val (.int p6), .val (.long u), .second, .val (.int nv), .val (.int ng), .val (.int fv), .val (.int rf), .val (.int qv), .val (.int cv), .val (.int pv), .val (.int cd), .val (.int rp), .val (.int sv), .val (.int tv), .unset, .unset, .unset, .unset, .unset] [(.int cv), (.int qv), (.long u), (.int nv), (.int tv), (.int sv), (.int fv), (.int (10 : Int32)), (.int (10 : Int32)), (.ref b165), (.ref b165)])
              refine hst (fun t₀ k₀ => XS.iload X424.here hx rfl (hb hby at_444) rfl k₀) ?_
              show F T424 (mkF m 446 #[.val (.long q1), .second, .val (.int p2), .val (.int p3), .val (.int p4), .val (.int p5), .val (.int p6), .val (.long u), .second, .val (.int nv), .val (.int ng), .val (.int fv), .val (.int rf), .val (.int qv), .val (.int cv), .val (.int pv), .val (.int cd), .val (.int rp), .val (.int sv), .val (.int tv), .unset, .unset, .unset, .unset, .unset] [(.int rp), (.int cv), (.int qv), (.long u), (.int nv), (.int tv), (.int sv), (.int fv), (.int (10 : Int32)), (.int (10 : Int32)), (.ref b165), (.ref b165)])
              refine hst (fun t₀ k₀ => XS.iload X424.here hx rfl (hb hby at_446) rfl k₀) ?_
              show F T424 (mkF m 448 #[.val (.long q1), .second, .val (.int p2), .val (.int p3), .val (.int p4), .val (.int p5), .val (.int p6), .val (.long u), .second, .val (.int nv), .val (.int ng), .val (.int fv), .val (.int rf), .val (.int qv), .val (.int cv), .val (.int pv), .val (.int cd), .val (.int rp), .val (.int sv), .val (.int tv), .unset, .unset, .unset, .unset, .unset] [(.int pv), (.int rp), (.int cv), (.int qv), (.long u), (.int nv), (.int tv), (.int sv), (.int fv), (.int (10 : Int32)), (.int (10 : Int32)), (.ref b165), (.ref b165)])
              obtain ⟨v448, T448, Lc448, X448, hQ448, st448⟩ := own_callS X424 hx hZ hown (y := (⟨"com/example/leafline/leafline/table/IntegerValueParsePlainPinLaw", "cell", "(IIIIIJIBZB)B"⟩ : MethodName)) (hw _ (List.mem_of_getElem? (i := 3) rfl)) (hw _ (List.mem_of_getElem? (i := 4) rfl)) (hw _ (List.mem_of_getElem? (i := 5) rfl)) (hw _ (List.mem_of_getElem? (i := 6) rfl)) (by decide) e424 (rm1 l Z a0 hw [] (10 : Int32) fv sv tv nv u qv cv rp pv 10 f s' (s' + n) n U Q h424 n0 Z0_p424 (by decide) hf hs ktv hn hU hq rfl hn2 hs2) (by decide) (by decide) (g := (mkF m 448 #[.val (.long q1), .second, .val (.int p2), .val (.int p3), .val (.int p4), .val (.int p5), .val (.int p6), .val (.long u), .second, .val (.int nv), .val (.int ng), .val (.int fv), .val (.int rf), .val (.int qv), .val (.int cv), .val (.int pv), .val (.int cd), .val (.int rp), .val (.int sv), .val (.int tv), .unset, .unset, .unset, .unset, .unset] [(.int pv), (.int rp), (.int cv), (.int qv), (.long u), (.int nv), (.int tv), (.int sv), (.int fv), (.int (10 : Int32)), (.int (10 : Int32)), (.ref b165), (.ref b165)])) rfl (by rw [hml]; rfl) (argsL := [(.int (10 : Int32)), (.int fv), (.int sv), (.int tv), (.int nv), (.long u), (.int qv), (.int cv), (.int rp), (.int pv)]) (rest := [(.int (10 : Int32)), (.ref b165), (.ref b165)]) (lenOf pd_1 rfl) rfl rfl (W := 3) (by show 2 * 0 + _ ≤ _; exact Nat.le_of_eq rfl) (hb hby at_448) (by decide) (by decide)
              obtain ⟨rfl, Nq448, K448⟩ := hQ448
              have N448 := Fr.app N424 Nq448
              have A_b165_p448 : own_A Z T448.heap b165 .byte 22 (fun i => .int (own_pre G 10 i)) := A_b165_p424c.keep K448 (List.not_mem_nil)
              have Z0_p448 : n0 ≤ T448.heap.size := Nat.le_trans Z0_p424 K448.1
              refine hst st448 ?_
              show F T448 (mkF m 451 #[.val (.long q1), .second, .val (.int p2), .val (.int p3), .val (.int p4), .val (.int p5), .val (.int p6), .val (.long u), .second, .val (.int nv), .val (.int ng), .val (.int fv), .val (.int rf), .val (.int qv), .val (.int cv), .val (.int pv), .val (.int cd), .val (.int rp), .val (.int sv), .val (.int tv), .unset, .unset, .unset, .unset, .unset] [(.int (nar .byte (own_cellv 10 f s' (s' + n) n U Q cv rp pv))), (.int (10 : Int32)), (.ref b165), (.ref b165)])
              obtain ⟨T451, h451, X451, e451, W451, st451⟩ := own_bastore X448 hx hZ rfl A_b165_p448 (by decide) (g := (mkF m 451 #[.val (.long q1), .second, .val (.int p2), .val (.int p3), .val (.int p4), .val (.int p5), .val (.int p6), .val (.long u), .second, .val (.int nv), .val (.int ng), .val (.int fv), .val (.int rf), .val (.int qv), .val (.int cv), .val (.int pv), .val (.int cd), .val (.int rp), .val (.int sv), .val (.int tv), .unset, .unset, .unset, .unset, .unset] [(.int (nar .byte (own_cellv 10 f s' (s' + n) n U Q cv rp pv))), (.int (10 : Int32)), (.ref b165), (.ref b165)])) rfl rfl (hb hby at_451)
              have N451 := Fr.snoc X451 N448 ge_b165
              have A_b165_p451 : own_A Z h451 b165 .byte 22 (fun i => if i = Int32.toNatClampNeg (10 : Int32) then (.int (nar .byte (nar .byte (own_cellv 10 f s' (s' + n) n U Q cv rp pv)))) else (fun i => .int (own_pre G 10 i)) i) := A_b165_p448.set W451
              have Z0_p451 : n0 ≤ h451.size := Nat.le_trans Z0_p448 (Keep.of_wr W451).1
              refine hst st451 ?_
              have A_b165_p451c : own_A Z h451 b165 .byte 22 (fun i => .int (own_pre G 11 i)) := own_A.congr A_b165_p451 (fun i hi => by rw [show Int32.toNatClampNeg (10 : Int32) = 10 from rfl]; exact own_pre_step G 10 i _ (by rw [hG]))
              show F T451 (mkF m 452 #[.val (.long q1), .second, .val (.int p2), .val (.int p3), .val (.int p4), .val (.int p5), .val (.int p6), .val (.long u), .second, .val (.int nv), .val (.int ng), .val (.int fv), .val (.int rf), .val (.int qv), .val (.int cv), .val (.int pv), .val (.int cd), .val (.int rp), .val (.int sv), .val (.int tv), .unset, .unset, .unset, .unset, .unset] [(.ref b165)])
              refine hst (fun t₀ k₀ => XS.dup X451.here hx rfl (hb hby at_452) rfl rfl k₀) ?_
              show F T451 (mkF m 453 #[.val (.long q1), .second, .val (.int p2), .val (.int p3), .val (.int p4), .val (.int p5), .val (.int p6), .val (.long u), .second, .val (.int nv), .val (.int ng), .val (.int fv), .val (.int rf), .val (.int qv), .val (.int cv), .val (.int pv), .val (.int cd), .val (.int rp), .val (.int sv), .val (.int tv), .unset, .unset, .unset, .unset, .unset] [(.ref b165), (.ref b165)])
              refine hst (fun t₀ k₀ => XS.bipush X451.here hx rfl (hb hby at_453) k₀) ?_
              show F T451 (mkF m 455 #[.val (.long q1), .second, .val (.int p2), .val (.int p3), .val (.int p4), .val (.int p5), .val (.int p6), .val (.long u), .second, .val (.int nv), .val (.int ng), .val (.int fv), .val (.int rf), .val (.int qv), .val (.int cv), .val (.int pv), .val (.int cd), .val (.int rp), .val (.int sv), .val (.int tv), .unset, .unset, .unset, .unset, .unset] [(.int (11 : Int32)), (.ref b165), (.ref b165)])
              refine hst (fun t₀ k₀ => XS.bipush X451.here hx rfl (hb hby at_455) k₀) ?_
              show F T451 (mkF m 457 #[.val (.long q1), .second, .val (.int p2), .val (.int p3), .val (.int p4), .val (.int p5), .val (.int p6), .val (.long u), .second, .val (.int nv), .val (.int ng), .val (.int fv), .val (.int rf), .val (.int qv), .val (.int cv), .val (.int pv), .val (.int cd), .val (.int rp), .val (.int sv), .val (.int tv), .unset, .unset, .unset, .unset, .unset] [(.int (11 : Int32)), (.int (11 : Int32)), (.ref b165), (.ref b165)])
              refine hst (fun t₀ k₀ => XS.iload X451.here hx rfl (hb hby at_457) rfl k₀) ?_
              show F T451 (mkF m 459 #[.val (.long q1), .second, .val (.int p2), .val (.int p3), .val (.int p4), .val (.int p5), .val (.int p6), .val (.long u), .second, .val (.int nv), .val (.int ng), .val (.int fv), .val (.int rf), .val (.int qv), .val (.int cv), .val (.int pv), .val (.int cd), .val (.int rp), .val (.int sv), .val (.int tv), .unset, .unset, .unset, .unset, .unset] [(.int fv), (.int (11 : Int32)), (.int (11 : Int32)), (.ref b165), (.ref b165)])
              refine hst (fun t₀ k₀ => XS.iload X451.here hx rfl (hb hby at_459) rfl k₀) ?_
              show F T451 (mkF m 461 #[.val (.long q1), .second, .val (.int p2), .val (.int p3), .val (.int p4), .val (.int p5), .val (.int p6), .val (.long u), .second, .val (.int nv), .val (.int ng), .val (.int fv), .val (.int rf), .val (.int qv), .val (.int cv), .val (.int pv), .val (.int cd), .val (.int rp), .val (.int sv), .val (.int tv), .unset, .unset, .unset, .unset, .unset] [(.int sv), (.int fv), (.int (11 : Int32)), (.int (11 : Int32)), (.ref b165), (.ref b165)])
              refine hst (fun t₀ k₀ => XS.iload X451.here hx rfl (hb hby at_461) rfl k₀) ?_
              show F T451 (mkF m 463 #[.val (.long q1), .second, .val (.int p2), .val (.int p3), .val (.int p4), .val (.int p5), .val (.int p6), .val (.long u), .second, .val (.int nv), .val (.int ng), .val (.int fv), .val (.int rf), .val (.int qv), .val (.int cv), .val (.int pv), .val (.int cd), .val (.int rp), .val (.int sv), .val (.int tv), .unset, .unset, .unset, .unset, .unset] [(.int tv), (.int sv), (.int fv), (.int (11 : Int32)), (.int (11 : Int32)), (.ref b165), (.ref b165)])
              refine hst (fun t₀ k₀ => XS.iload X451.here hx rfl (hb hby at_463) rfl k₀) ?_
              show F T451 (mkF m 465 #[.val (.long q1), .second, .val (.int p2), .val (.int p3), .val (.int p4), .val (.int p5), .val (.int p6), .val (.long u), .second, .val (.int nv), .val (.int ng), .val (.int fv), .val (.int rf), .val (.int qv), .val (.int cv), .val (.int pv), .val (.int cd), .val (.int rp), .val (.int sv), .val (.int tv), .unset, .unset, .unset, .unset, .unset] [(.int nv), (.int tv), (.int sv), (.int fv), (.int (11 : Int32)), (.int (11 : Int32)), (.ref b165), (.ref b165)])
              refine hst (fun t₀ k₀ => XS.lload X451.here hx rfl (hb hby at_465) rfl k₀) ?_
              show F T451 (mkF m 467 #[.val (.long q1), .second, .val (.int p2), .val (.int p3), .val (.int p4), .val (.int p5), .val (.int p6), .val (.long u), .second, .val (.int nv), .val (.int ng), .val (.int fv), .val (.int rf), .val (.int qv), .val (.int cv), .val (.int pv), .val (.int cd), .val (.int rp), .val (.int sv), .val (.int tv), .unset, .unset, .unset, .unset, .unset] [(.long u), (.int nv), (.int tv), (.int sv), (.int fv), (.int (11 : Int32)), (.int (11 : Int32)), (.ref b165), (.ref b165)])
              refine hst (fun t₀ k₀ => XS.iload X451.here hx rfl (hb hby at_467) rfl k₀) ?_
              show F T451 (mkF m 469 #[.val (.long q1), .second, .val (.int p2), .val (.int p3), .val (.int p4), .val (.int p5), .val (.int p6), .val (.long u), .second, .val (.int nv), .val (.int ng), .val (.int fv), .val (.int rf), .val (.int qv), .val (.int cv), .val (.int pv), .val (.int cd), .val (.int rp), .val (.int sv), .val (.int tv), .unset, .unset, .unset, .unset, .unset] [(.int qv), (.long u), (.int nv), (.int tv), (.int sv), (.int fv), (.int (11 : Int32)), (.int (11 : Int32)), (.ref b165), (.ref b165)])
              refine hst (fun t₀ k₀ => XS.iload X451.here hx rfl (hb hby at_469) rfl k₀) ?_
              show F T451 (mkF m 471 #[.val (.long q1), .second, .val (.int p2), .val (.int p3), .val (.int p4), .val (.int p5), .val (.int p6), .val (.long u), .second, .val (.int nv), .val (.int ng), .val (.int fv), .val (.int rf), .val (.int qv), .val (.int cv), .val (.int pv), .val (.int cd), .val (.int rp), .val (.int sv), .val (.int tv), .unset, .unset, .unset, .unset, .unset] [(.int cv), (.int qv), (.long u), (.int nv), (.int tv), (.int sv), (.int fv), (.int (11 : Int32)), (.int (11 : Int32)), (.ref b165), (.ref b165)])
              refine hst (fun t₀ k₀ => XS.iload X451.here hx rfl (hb hby at_471) rfl k₀) ?_
              show F T451 (mkF m 473 #[.val (.long q1), .second, .val (.int p2), .val (.int p3), .val (.int p4), .val (.int p5), .val (.int p6), .val (.long u), .second, .val (.int nv), .val (.int ng), .val (.int fv), .val (.int rf), .val (.int qv), .val (.int cv), .val (.int pv), .val (.int cd), .val (.int rp), .val (.int sv), .val (.int tv), .unset, .unset, .unset, .unset, .unset] [(.int rp), (.int cv), (.int qv), (.long u), (.int nv), (.int tv), (.int sv), (.int fv), (.int (11 : Int32)), (.int (11 : Int32)), (.ref b165), (.ref b165)])
              refine hst (fun t₀ k₀ => XS.iload X451.here hx rfl (hb hby at_473) rfl k₀) ?_
              show F T451 (mkF m 475 #[.val (.long q1), .second, .val (.int p2), .val (.int p3), .val (.int p4), .val (.int p5), .val (.int p6), .val (.long u), .second, .val (.int nv), .val (.int ng), .val (.int fv), .val (.int rf), .val (.int qv), .val (.int cv), .val (.int pv), .val (.int cd), .val (.int rp), .val (.int sv), .val (.int tv), .unset, .unset, .unset, .unset, .unset] [(.int pv), (.int rp), (.int cv), (.int qv), (.long u), (.int nv), (.int tv), (.int sv), (.int fv), (.int (11 : Int32)), (.int (11 : Int32)), (.ref b165), (.ref b165)])
              obtain ⟨v475, T475, Lc475, X475, hQ475, st475⟩ := own_callS X451 hx hZ hown (y := (⟨"com/example/leafline/leafline/table/IntegerValueParsePlainPinLaw", "cell", "(IIIIIJIBZB)B"⟩ : MethodName)) (hw _ (List.mem_of_getElem? (i := 3) rfl)) (hw _ (List.mem_of_getElem? (i := 4) rfl)) (hw _ (List.mem_of_getElem? (i := 5) rfl)) (hw _ (List.mem_of_getElem? (i := 6) rfl)) (by decide) e451 (rm1 l Z a0 hw [] (11 : Int32) fv sv tv nv u qv cv rp pv 11 f s' (s' + n) n U Q h451 n0 Z0_p451 (by decide) hf hs ktv hn hU hq rfl hn2 hs2) (by decide) (by decide) (g := (mkF m 475 #[.val (.long q1), .second, .val (.int p2), .val (.int p3), .val (.int p4), .val (.int p5), .val (.int p6), .val (.long u), .second, .val (.int nv), .val (.int ng), .val (.int fv), .val (.int rf), .val (.int qv), .val (.int cv), .val (.int pv), .val (.int cd), .val (.int rp), .val (.int sv), .val (.int tv), .unset, .unset, .unset, .unset, .unset] [(.int pv), (.int rp), (.int cv), (.int qv), (.long u), (.int nv), (.int tv), (.int sv), (.int fv), (.int (11 : Int32)), (.int (11 : Int32)), (.ref b165), (.ref b165)])) rfl (by rw [hml]; rfl) (argsL := [(.int (11 : Int32)), (.int fv), (.int sv), (.int tv), (.int nv), (.long u), (.int qv), (.int cv), (.int rp), (.int pv)]) (rest := [(.int (11 : Int32)), (.ref b165), (.ref b165)]) (lenOf pd_1 rfl) rfl rfl (W := 3) (by show 2 * 0 + _ ≤ _; exact Nat.le_of_eq rfl) (hb hby at_475) (by decide) (by decide)
              obtain ⟨rfl, Nq475, K475⟩ := hQ475
              have N475 := Fr.app N451 Nq475
              have A_b165_p475 : own_A Z T475.heap b165 .byte 22 (fun i => .int (own_pre G 11 i)) := A_b165_p451c.keep K475 (List.not_mem_nil)
              have Z0_p475 : n0 ≤ T475.heap.size := Nat.le_trans Z0_p451 K475.1
              refine hst st475 ?_
              show F T475 (mkF m 478 #[.val (.long q1), .second, .val (.int p2), .val (.int p3), .val (.int p4), .val (.int p5), .val (.int p6), .val (.long u), .second, .val (.int nv), .val (.int ng), .val (.int fv), .val (.int rf), .val (.int qv), .val (.int cv), .val (.int pv), .val (.int cd), .val (.int rp), .val (.int sv), .val (.int tv), .unset, .unset, .unset, .unset, .unset] [(.int (nar .byte (own_cellv 11 f s' (s' + n) n U Q cv rp pv))), (.int (11 : Int32)), (.ref b165), (.ref b165)])
              obtain ⟨T478, h478, X478, e478, W478, st478⟩ := own_bastore X475 hx hZ rfl A_b165_p475 (by decide) (g := (mkF m 478 #[.val (.long q1), .second, .val (.int p2), .val (.int p3), .val (.int p4), .val (.int p5), .val (.int p6), .val (.long u), .second, .val (.int nv), .val (.int ng), .val (.int fv), .val (.int rf), .val (.int qv), .val (.int cv), .val (.int pv), .val (.int cd), .val (.int rp), .val (.int sv), .val (.int tv), .unset, .unset, .unset, .unset, .unset] [(.int (nar .byte (own_cellv 11 f s' (s' + n) n U Q cv rp pv))), (.int (11 : Int32)), (.ref b165), (.ref b165)])) rfl rfl (hb hby at_478)
              have N478 := Fr.snoc X478 N475 ge_b165
              have A_b165_p478 : own_A Z h478 b165 .byte 22 (fun i => if i = Int32.toNatClampNeg (11 : Int32) then (.int (nar .byte (nar .byte (own_cellv 11 f s' (s' + n) n U Q cv rp pv)))) else (fun i => .int (own_pre G 11 i)) i) := A_b165_p475.set W478
              have Z0_p478 : n0 ≤ h478.size := Nat.le_trans Z0_p475 (Keep.of_wr W478).1
              refine hst st478 ?_
              have A_b165_p478c : own_A Z h478 b165 .byte 22 (fun i => .int (own_pre G 12 i)) := own_A.congr A_b165_p478 (fun i hi => by rw [show Int32.toNatClampNeg (11 : Int32) = 11 from rfl]; exact own_pre_step G 11 i _ (by rw [hG]))
              show F T478 (mkF m 479 #[.val (.long q1), .second, .val (.int p2), .val (.int p3), .val (.int p4), .val (.int p5), .val (.int p6), .val (.long u), .second, .val (.int nv), .val (.int ng), .val (.int fv), .val (.int rf), .val (.int qv), .val (.int cv), .val (.int pv), .val (.int cd), .val (.int rp), .val (.int sv), .val (.int tv), .unset, .unset, .unset, .unset, .unset] [(.ref b165)])
              refine hst (fun t₀ k₀ => XS.dup X478.here hx rfl (hb hby at_479) rfl rfl k₀) ?_
              show F T478 (mkF m 480 #[.val (.long q1), .second, .val (.int p2), .val (.int p3), .val (.int p4), .val (.int p5), .val (.int p6), .val (.long u), .second, .val (.int nv), .val (.int ng), .val (.int fv), .val (.int rf), .val (.int qv), .val (.int cv), .val (.int pv), .val (.int cd), .val (.int rp), .val (.int sv), .val (.int tv), .unset, .unset, .unset, .unset, .unset] [(.ref b165), (.ref b165)])
              refine hst (fun t₀ k₀ => XS.bipush X478.here hx rfl (hb hby at_480) k₀) ?_
              show F T478 (mkF m 482 #[.val (.long q1), .second, .val (.int p2), .val (.int p3), .val (.int p4), .val (.int p5), .val (.int p6), .val (.long u), .second, .val (.int nv), .val (.int ng), .val (.int fv), .val (.int rf), .val (.int qv), .val (.int cv), .val (.int pv), .val (.int cd), .val (.int rp), .val (.int sv), .val (.int tv), .unset, .unset, .unset, .unset, .unset] [(.int (12 : Int32)), (.ref b165), (.ref b165)])
              refine hst (fun t₀ k₀ => XS.bipush X478.here hx rfl (hb hby at_482) k₀) ?_
              show F T478 (mkF m 484 #[.val (.long q1), .second, .val (.int p2), .val (.int p3), .val (.int p4), .val (.int p5), .val (.int p6), .val (.long u), .second, .val (.int nv), .val (.int ng), .val (.int fv), .val (.int rf), .val (.int qv), .val (.int cv), .val (.int pv), .val (.int cd), .val (.int rp), .val (.int sv), .val (.int tv), .unset, .unset, .unset, .unset, .unset] [(.int (12 : Int32)), (.int (12 : Int32)), (.ref b165), (.ref b165)])
              refine hst (fun t₀ k₀ => XS.iload X478.here hx rfl (hb hby at_484) rfl k₀) ?_
              show F T478 (mkF m 486 #[.val (.long q1), .second, .val (.int p2), .val (.int p3), .val (.int p4), .val (.int p5), .val (.int p6), .val (.long u), .second, .val (.int nv), .val (.int ng), .val (.int fv), .val (.int rf), .val (.int qv), .val (.int cv), .val (.int pv), .val (.int cd), .val (.int rp), .val (.int sv), .val (.int tv), .unset, .unset, .unset, .unset, .unset] [(.int fv), (.int (12 : Int32)), (.int (12 : Int32)), (.ref b165), (.ref b165)])
              refine hst (fun t₀ k₀ => XS.iload X478.here hx rfl (hb hby at_486) rfl k₀) ?_
              show F T478 (mkF m 488 #[.val (.long q1), .second, .val (.int p2), .val (.int p3), .val (.int p4), .val (.int p5), .val (.int p6), .val (.long u), .second, .val (.int nv), .val (.int ng), .val (.int fv), .val (.int rf), .val (.int qv), .val (.int cv), .val (.int pv), .val (.int cd), .val (.int rp), .val (.int sv), .val (.int tv), .unset, .unset, .unset, .unset, .unset] [(.int sv), (.int fv), (.int (12 : Int32)), (.int (12 : Int32)), (.ref b165), (.ref b165)])
              refine hst (fun t₀ k₀ => XS.iload X478.here hx rfl (hb hby at_488) rfl k₀) ?_
              show F T478 (mkF m 490 #[.val (.long q1), .second, .val (.int p2), .val (.int p3), .val (.int p4), .val (.int p5), .val (.int p6), .val (.long u), .second, .val (.int nv), .val (.int ng), .val (.int fv), .val (.int rf), .val (.int qv), .val (.int cv), .val (.int pv), .val (.int cd), .val (.int rp), .val (.int sv), .val (.int tv), .unset, .unset, .unset, .unset, .unset] [(.int tv), (.int sv), (.int fv), (.int (12 : Int32)), (.int (12 : Int32)), (.ref b165), (.ref b165)])
              refine hst (fun t₀ k₀ => XS.iload X478.here hx rfl (hb hby at_490) rfl k₀) ?_
              show F T478 (mkF m 492 #[.val (.long q1), .second, .val (.int p2), .val (.int p3), .val (.int p4), .val (.int p5), .val (.int p6), .val (.long u), .second, .val (.int nv), .val (.int ng), .val (.int fv), .val (.int rf), .val (.int qv), .val (.int cv), .val (.int pv), .val (.int cd), .val (.int rp), .val (.int sv), .val (.int tv), .unset, .unset, .unset, .unset, .unset] [(.int nv), (.int tv), (.int sv), (.int fv), (.int (12 : Int32)), (.int (12 : Int32)), (.ref b165), (.ref b165)])
              refine hst (fun t₀ k₀ => XS.lload X478.here hx rfl (hb hby at_492) rfl k₀) ?_
              show F T478 (mkF m 494 #[.val (.long q1), .second, .val (.int p2), .val (.int p3), .val (.int p4), .val (.int p5), .val (.int p6), .val (.long u), .second, .val (.int nv), .val (.int ng), .val (.int fv), .val (.int rf), .val (.int qv), .val (.int cv), .val (.int pv), .val (.int cd), .val (.int rp), .val (.int sv), .val (.int tv), .unset, .unset, .unset, .unset, .unset] [(.long u), (.int nv), (.int tv), (.int sv), (.int fv), (.int (12 : Int32)), (.int (12 : Int32)), (.ref b165), (.ref b165)])
              refine hst (fun t₀ k₀ => XS.iload X478.here hx rfl (hb hby at_494) rfl k₀) ?_
              show F T478 (mkF m 496 #[.val (.long q1), .second, .val (.int p2), .val (.int p3), .val (.int p4), .val (.int p5), .val (.int p6), .val (.long u), .second, .val (.int nv), .val (.int ng), .val (.int fv), .val (.int rf), .val (.int qv), .val (.int cv), .val (.int pv), .val (.int cd), .val (.int rp), .val (.int sv), .val (.int tv), .unset, .unset, .unset, .unset, .unset] [(.int qv), (.long u), (.int nv), (.int tv), (.int sv), (.int fv), (.int (12 : Int32)), (.int (12 : Int32)), (.ref b165), (.ref b165)])
              refine hst (fun t₀ k₀ => XS.iload X478.here hx rfl (hb hby at_496) rfl k₀) ?_
              show F T478 (mkF m 498 #[.val (.long q1), .second, .val (.int p2), .val (.int p3), .val (.int p4), .val (.int p5), .val (.int p6), .val (.long u), .second, .val (.int nv), .val (.int ng), .val (.int fv), .val (.int rf), .val (.int qv), .val (.int cv), .val (.int pv), .val (.int cd), .val (.int rp), .val (.int sv), .val (.int tv), .unset, .unset, .unset, .unset, .unset] [(.int cv), (.int qv), (.long u), (.int nv), (.int tv), (.int sv), (.int fv), (.int (12 : Int32)), (.int (12 : Int32)), (.ref b165), (.ref b165)])
              refine hst (fun t₀ k₀ => XS.iload X478.here hx rfl (hb hby at_498) rfl k₀) ?_
              show F T478 (mkF m 500 #[.val (.long q1), .second, .val (.int p2), .val (.int p3), .val (.int p4), .val (.int p5), .val (.int p6), .val (.long u), .second, .val (.int nv), .val (.int ng), .val (.int fv), .val (.int rf), .val (.int qv), .val (.int cv), .val (.int pv), .val (.int cd), .val (.int rp), .val (.int sv), .val (.int tv), .unset, .unset, .unset, .unset, .unset] [(.int rp), (.int cv), (.int qv), (.long u), (.int nv), (.int tv), (.int sv), (.int fv), (.int (12 : Int32)), (.int (12 : Int32)), (.ref b165), (.ref b165)])
              refine hst (fun t₀ k₀ => XS.iload X478.here hx rfl (hb hby at_500) rfl k₀) ?_
              show F T478 (mkF m 502 #[.val (.long q1), .second, .val (.int p2), .val (.int p3), .val (.int p4), .val (.int p5), .val (.int p6), .val (.long u), .second, .val (.int nv), .val (.int ng), .val (.int fv), .val (.int rf), .val (.int qv), .val (.int cv), .val (.int pv), .val (.int cd), .val (.int rp), .val (.int sv), .val (.int tv), .unset, .unset, .unset, .unset, .unset] [(.int pv), (.int rp), (.int cv), (.int qv), (.long u), (.int nv), (.int tv), (.int sv), (.int fv), (.int (12 : Int32)), (.int (12 : Int32)), (.ref b165), (.ref b165)])
              obtain ⟨v502, T502, Lc502, X502, hQ502, st502⟩ := own_callS X478 hx hZ hown (y := (⟨"com/example/leafline/leafline/table/IntegerValueParsePlainPinLaw", "cell", "(IIIIIJIBZB)B"⟩ : MethodName)) (hw _ (List.mem_of_getElem? (i := 3) rfl)) (hw _ (List.mem_of_getElem? (i := 4) rfl)) (hw _ (List.mem_of_getElem? (i := 5) rfl)) (hw _ (List.mem_of_getElem? (i := 6) rfl)) (by decide) e478 (rm1 l Z a0 hw [] (12 : Int32) fv sv tv nv u qv cv rp pv 12 f s' (s' + n) n U Q h478 n0 Z0_p478 (by decide) hf hs ktv hn hU hq rfl hn2 hs2) (by decide) (by decide) (g := (mkF m 502 #[.val (.long q1), .second, .val (.int p2), .val (.int p3), .val (.int p4), .val (.int p5), .val (.int p6), .val (.long u), .second, .val (.int nv), .val (.int ng), .val (.int fv), .val (.int rf), .val (.int qv), .val (.int cv), .val (.int pv), .val (.int cd), .val (.int rp), .val (.int sv), .val (.int tv), .unset, .unset, .unset, .unset, .unset] [(.int pv), (.int rp), (.int cv), (.int qv), (.long u), (.int nv), (.int tv), (.int sv), (.int fv), (.int (12 : Int32)), (.int (12 : Int32)), (.ref b165), (.ref b165)])) rfl (by rw [hml]; rfl) (argsL := [(.int (12 : Int32)), (.int fv), (.int sv), (.int tv), (.int nv), (.long u), (.int qv), (.int cv), (.int rp), (.int pv)]) (rest := [(.int (12 : Int32)), (.ref b165), (.ref b165)]) (lenOf pd_1 rfl) rfl rfl (W := 3) (by show 2 * 0 + _ ≤ _; exact Nat.le_of_eq rfl) (hb hby at_502) (by decide) (by decide)
              obtain ⟨rfl, Nq502, K502⟩ := hQ502
              have N502 := Fr.app N478 Nq502
              have A_b165_p502 : own_A Z T502.heap b165 .byte 22 (fun i => .int (own_pre G 12 i)) := A_b165_p478c.keep K502 (List.not_mem_nil)
              have Z0_p502 : n0 ≤ T502.heap.size := Nat.le_trans Z0_p478 K502.1
              refine hst st502 ?_
              show F T502 (mkF m 505 #[.val (.long q1), .second, .val (.int p2), .val (.int p3), .val (.int p4), .val (.int p5), .val (.int p6), .val (.long u), .second, .val (.int nv), .val (.int ng), .val (.int fv), .val (.int rf), .val (.int qv), .val (.int cv), .val (.int pv), .val (.int cd), .val (.int rp), .val (.int sv), .val (.int tv), .unset, .unset, .unset, .unset, .unset] [(.int (nar .byte (own_cellv 12 f s' (s' + n) n U Q cv rp pv))), (.int (12 : Int32)), (.ref b165), (.ref b165)])
              obtain ⟨T505, h505, X505, e505, W505, st505⟩ := own_bastore X502 hx hZ rfl A_b165_p502 (by decide) (g := (mkF m 505 #[.val (.long q1), .second, .val (.int p2), .val (.int p3), .val (.int p4), .val (.int p5), .val (.int p6), .val (.long u), .second, .val (.int nv), .val (.int ng), .val (.int fv), .val (.int rf), .val (.int qv), .val (.int cv), .val (.int pv), .val (.int cd), .val (.int rp), .val (.int sv), .val (.int tv), .unset, .unset, .unset, .unset, .unset] [(.int (nar .byte (own_cellv 12 f s' (s' + n) n U Q cv rp pv))), (.int (12 : Int32)), (.ref b165), (.ref b165)])) rfl rfl (hb hby at_505)
              have N505 := Fr.snoc X505 N502 ge_b165
              have A_b165_p505 : own_A Z h505 b165 .byte 22 (fun i => if i = Int32.toNatClampNeg (12 : Int32) then (.int (nar .byte (nar .byte (own_cellv 12 f s' (s' + n) n U Q cv rp pv)))) else (fun i => .int (own_pre G 12 i)) i) := A_b165_p502.set W505
              have Z0_p505 : n0 ≤ h505.size := Nat.le_trans Z0_p502 (Keep.of_wr W505).1
              refine hst st505 ?_
              have A_b165_p505c : own_A Z h505 b165 .byte 22 (fun i => .int (own_pre G 13 i)) := own_A.congr A_b165_p505 (fun i hi => by rw [show Int32.toNatClampNeg (12 : Int32) = 12 from rfl]; exact own_pre_step G 12 i _ (by rw [hG]))
              show F T505 (mkF m 506 #[.val (.long q1), .second, .val (.int p2), .val (.int p3), .val (.int p4), .val (.int p5), .val (.int p6), .val (.long u), .second, .val (.int nv), .val (.int ng), .val (.int fv), .val (.int rf), .val (.int qv), .val (.int cv), .val (.int pv), .val (.int cd), .val (.int rp), .val (.int sv), .val (.int tv), .unset, .unset, .unset, .unset, .unset] [(.ref b165)])
              refine hst (fun t₀ k₀ => XS.dup X505.here hx rfl (hb hby at_506) rfl rfl k₀) ?_
              show F T505 (mkF m 507 #[.val (.long q1), .second, .val (.int p2), .val (.int p3), .val (.int p4), .val (.int p5), .val (.int p6), .val (.long u), .second, .val (.int nv), .val (.int ng), .val (.int fv), .val (.int rf), .val (.int qv), .val (.int cv), .val (.int pv), .val (.int cd), .val (.int rp), .val (.int sv), .val (.int tv), .unset, .unset, .unset, .unset, .unset] [(.ref b165), (.ref b165)])
              refine hst (fun t₀ k₀ => XS.bipush X505.here hx rfl (hb hby at_507) k₀) ?_
              show F T505 (mkF m 509 #[.val (.long q1), .second, .val (.int p2), .val (.int p3), .val (.int p4), .val (.int p5), .val (.int p6), .val (.long u), .second, .val (.int nv), .val (.int ng), .val (.int fv), .val (.int rf), .val (.int qv), .val (.int cv), .val (.int pv), .val (.int cd), .val (.int rp), .val (.int sv), .val (.int tv), .unset, .unset, .unset, .unset, .unset] [(.int (13 : Int32)), (.ref b165), (.ref b165)])
              refine hst (fun t₀ k₀ => XS.bipush X505.here hx rfl (hb hby at_509) k₀) ?_
              show F T505 (mkF m 511 #[.val (.long q1), .second, .val (.int p2), .val (.int p3), .val (.int p4), .val (.int p5), .val (.int p6), .val (.long u), .second, .val (.int nv), .val (.int ng), .val (.int fv), .val (.int rf), .val (.int qv), .val (.int cv), .val (.int pv), .val (.int cd), .val (.int rp), .val (.int sv), .val (.int tv), .unset, .unset, .unset, .unset, .unset] [(.int (13 : Int32)), (.int (13 : Int32)), (.ref b165), (.ref b165)])
              refine hst (fun t₀ k₀ => XS.iload X505.here hx rfl (hb hby at_511) rfl k₀) ?_
              show F T505 (mkF m 513 #[.val (.long q1), .second, .val (.int p2), .val (.int p3), .val (.int p4), .val (.int p5), .val (.int p6), .val (.long u), .second, .val (.int nv), .val (.int ng), .val (.int fv), .val (.int rf), .val (.int qv), .val (.int cv), .val (.int pv), .val (.int cd), .val (.int rp), .val (.int sv), .val (.int tv), .unset, .unset, .unset, .unset, .unset] [(.int fv), (.int (13 : Int32)), (.int (13 : Int32)), (.ref b165), (.ref b165)])
              refine hst (fun t₀ k₀ => XS.iload X505.here hx rfl (hb hby at_513) rfl k₀) ?_
              show F T505 (mkF m 515 #[.val (.long q1), .second, .val (.int p2), .val (.int p3), .val (.int p4), .val (.int p5), .val (.int p6), .val (.long u), .second, .val (.int nv), .val (.int ng), .val (.int fv), .val (.int rf), .val (.int qv), .val (.int cv), .val (.int pv), .val (.int cd), .val (.int rp), .val (.int sv), .val (.int tv), .unset, .unset, .unset, .unset, .unset] [(.int sv), (.int fv), (.int (13 : Int32)), (.int (13 : Int32)), (.ref b165), (.ref b165)])
              refine hst (fun t₀ k₀ => XS.iload X505.here hx rfl (hb hby at_515) rfl k₀) ?_
              show F T505 (mkF m 517 #[.val (.long q1), .second, .val (.int p2), .val (.int p3), .val (.int p4), .val (.int p5), .val (.int p6), .val (.long u), .second, .val (.int nv), .val (.int ng), .val (.int fv), .val (.int rf), .val (.int qv), .val (.int cv), .val (.int pv), .val (.int cd), .val (.int rp), .val (.int sv), .val (.int tv), .unset, .unset, .unset, .unset, .unset] [(.int tv), (.int sv), (.int fv), (.int (13 : Int32)), (.int (13 : Int32)), (.ref b165), (.ref b165)])
              refine hst (fun t₀ k₀ => XS.iload X505.here hx rfl (hb hby at_517) rfl k₀) ?_
              show F T505 (mkF m 519 #[.val (.long q1), .second, .val (.int p2), .val (.int p3), .val (.int p4), .val (.int p5), .val (.int p6), .val (.long u), .second, .val (.int nv), .val (.int ng), .val (.int fv), .val (.int rf), .val (.int qv), .val (.int cv), .val (.int pv), .val (.int cd), .val (.int rp), .val (.int sv), .val (.int tv), .unset, .unset, .unset, .unset, .unset] [(.int nv), (.int tv), (.int sv), (.int fv), (.int (13 : Int32)), (.int (13 : Int32)), (.ref b165), (.ref b165)])
              refine hst (fun t₀ k₀ => XS.lload X505.here hx rfl (hb hby at_519) rfl k₀) ?_
              show F T505 (mkF m 521 #[.val (.long q1), .second, .val (.int p2), .val (.int p3), .val (.int p4), .val (.int p5), .val (.int p6), .val (.long u), .second, .val (.int nv), .val (.int ng), .val (.int fv), .val (.int rf), .val (.int qv), .val (.int cv), .val (.int pv), .val (.int cd), .val (.int rp), .val (.int sv), .val (.int tv), .unset, .unset, .unset, .unset, .unset] [(.long u), (.int nv), (.int tv), (.int sv), (.int fv), (.int (13 : Int32)), (.int (13 : Int32)), (.ref b165), (.ref b165)])
              refine hst (fun t₀ k₀ => XS.iload X505.here hx rfl (hb hby at_521) rfl k₀) ?_
              show F T505 (mkF m 523 #[.val (.long q1), .second, .val (.int p2), .val (.int p3), .val (.int p4), .val (.int p5), .val (.int p6), .val (.long u), .second, .val (.int nv), .val (.int ng), .val (.int fv), .val (.int rf), .val (.int qv), .val (.int cv), .val (.int pv), .val (.int cd), .val (.int rp), .val (.int sv), .val (.int tv), .unset, .unset, .unset, .unset, .unset] [(.int qv), (.long u), (.int nv), (.int tv), (.int sv), (.int fv), (.int (13 : Int32)), (.int (13 : Int32)), (.ref b165), (.ref b165)])
              refine hst (fun t₀ k₀ => XS.iload X505.here hx rfl (hb hby at_523) rfl k₀) ?_
              show F T505 (mkF m 525 #[.val (.long q1), .second, .val (.int p2), .val (.int p3), .val (.int p4), .val (.int p5), .val (.int p6), .val (.long u), .second, .val (.int nv), .val (.int ng), .val (.int fv), .val (.int rf), .val (.int qv), .val (.int cv), .val (.int pv), .val (.int cd), .val (.int rp), .val (.int sv), .val (.int tv), .unset, .unset, .unset, .unset, .unset] [(.int cv), (.int qv), (.long u), (.int nv), (.int tv), (.int sv), (.int fv), (.int (13 : Int32)), (.int (13 : Int32)), (.ref b165), (.ref b165)])
              refine hst (fun t₀ k₀ => XS.iload X505.here hx rfl (hb hby at_525) rfl k₀) ?_
              show F T505 (mkF m 527 #[.val (.long q1), .second, .val (.int p2), .val (.int p3), .val (.int p4), .val (.int p5), .val (.int p6), .val (.long u), .second, .val (.int nv), .val (.int ng), .val (.int fv), .val (.int rf), .val (.int qv), .val (.int cv), .val (.int pv), .val (.int cd), .val (.int rp), .val (.int sv), .val (.int tv), .unset, .unset, .unset, .unset, .unset] [(.int rp), (.int cv), (.int qv), (.long u), (.int nv), (.int tv), (.int sv), (.int fv), (.int (13 : Int32)), (.int (13 : Int32)), (.ref b165), (.ref b165)])
              refine hst (fun t₀ k₀ => XS.iload X505.here hx rfl (hb hby at_527) rfl k₀) ?_
              show F T505 (mkF m 529 #[.val (.long q1), .second, .val (.int p2), .val (.int p3), .val (.int p4), .val (.int p5), .val (.int p6), .val (.long u), .second, .val (.int nv), .val (.int ng), .val (.int fv), .val (.int rf), .val (.int qv), .val (.int cv), .val (.int pv), .val (.int cd), .val (.int rp), .val (.int sv), .val (.int tv), .unset, .unset, .unset, .unset, .unset] [(.int pv), (.int rp), (.int cv), (.int qv), (.long u), (.int nv), (.int tv), (.int sv), (.int fv), (.int (13 : Int32)), (.int (13 : Int32)), (.ref b165), (.ref b165)])
              obtain ⟨v529, T529, Lc529, X529, hQ529, st529⟩ := own_callS X505 hx hZ hown (y := (⟨"com/example/leafline/leafline/table/IntegerValueParsePlainPinLaw", "cell", "(IIIIIJIBZB)B"⟩ : MethodName)) (hw _ (List.mem_of_getElem? (i := 3) rfl)) (hw _ (List.mem_of_getElem? (i := 4) rfl)) (hw _ (List.mem_of_getElem? (i := 5) rfl)) (hw _ (List.mem_of_getElem? (i := 6) rfl)) (by decide) e505 (rm1 l Z a0 hw [] (13 : Int32) fv sv tv nv u qv cv rp pv 13 f s' (s' + n) n U Q h505 n0 Z0_p505 (by decide) hf hs ktv hn hU hq rfl hn2 hs2) (by decide) (by decide) (g := (mkF m 529 #[.val (.long q1), .second, .val (.int p2), .val (.int p3), .val (.int p4), .val (.int p5), .val (.int p6), .val (.long u), .second, .val (.int nv), .val (.int ng), .val (.int fv), .val (.int rf), .val (.int qv), .val (.int cv), .val (.int pv), .val (.int cd), .val (.int rp), .val (.int sv), .val (.int tv), .unset, .unset, .unset, .unset, .unset] [(.int pv), (.int rp), (.int cv), (.int qv), (.long u), (.int nv), (.int tv), (.int sv), (.int fv), (.int (13 : Int32)), (.int (13 : Int32)), (.ref b165), (.ref b165)])) rfl (by rw [hml]; rfl) (argsL := [(.int (13 : Int32)), (.int fv), (.int sv), (.int tv), (.int nv), (.long u), (.int qv), (.int cv), (.int rp), (.int pv)]) (rest := [(.int (13 : Int32)), (.ref b165), (.ref b165)]) (lenOf pd_1 rfl) rfl rfl (W := 3) (by show 2 * 0 + _ ≤ _; exact Nat.le_of_eq rfl) (hb hby at_529) (by decide) (by decide)
              obtain ⟨rfl, Nq529, K529⟩ := hQ529
              have N529 := Fr.app N505 Nq529
              have A_b165_p529 : own_A Z T529.heap b165 .byte 22 (fun i => .int (own_pre G 13 i)) := A_b165_p505c.keep K529 (List.not_mem_nil)
              have Z0_p529 : n0 ≤ T529.heap.size := Nat.le_trans Z0_p505 K529.1
              refine hst st529 ?_
              show F T529 (mkF m 532 #[.val (.long q1), .second, .val (.int p2), .val (.int p3), .val (.int p4), .val (.int p5), .val (.int p6), .val (.long u), .second, .val (.int nv), .val (.int ng), .val (.int fv), .val (.int rf), .val (.int qv), .val (.int cv), .val (.int pv), .val (.int cd), .val (.int rp), .val (.int sv), .val (.int tv), .unset, .unset, .unset, .unset, .unset] [(.int (nar .byte (own_cellv 13 f s' (s' + n) n U Q cv rp pv))), (.int (13 : Int32)), (.ref b165), (.ref b165)])
              obtain ⟨T532, h532, X532, e532, W532, st532⟩ := own_bastore X529 hx hZ rfl A_b165_p529 (by decide) (g := (mkF m 532 #[.val (.long q1), .second, .val (.int p2), .val (.int p3), .val (.int p4), .val (.int p5), .val (.int p6), .val (.long u), .second, .val (.int nv), .val (.int ng), .val (.int fv), .val (.int rf), .val (.int qv), .val (.int cv), .val (.int pv), .val (.int cd), .val (.int rp), .val (.int sv), .val (.int tv), .unset, .unset, .unset, .unset, .unset] [(.int (nar .byte (own_cellv 13 f s' (s' + n) n U Q cv rp pv))), (.int (13 : Int32)), (.ref b165), (.ref b165)])) rfl rfl (hb hby at_532)
              have N532 := Fr.snoc X532 N529 ge_b165
              have A_b165_p532 : own_A Z h532 b165 .byte 22 (fun i => if i = Int32.toNatClampNeg (13 : Int32) then (.int (nar .byte (nar .byte (own_cellv 13 f s' (s' + n) n U Q cv rp pv)))) else (fun i => .int (own_pre G 13 i)) i) := A_b165_p529.set W532
              have Z0_p532 : n0 ≤ h532.size := Nat.le_trans Z0_p529 (Keep.of_wr W532).1
              refine hst st532 ?_
              have A_b165_p532c : own_A Z h532 b165 .byte 22 (fun i => .int (own_pre G 14 i)) := own_A.congr A_b165_p532 (fun i hi => by rw [show Int32.toNatClampNeg (13 : Int32) = 13 from rfl]; exact own_pre_step G 13 i _ (by rw [hG]))
              show F T532 (mkF m 533 #[.val (.long q1), .second, .val (.int p2), .val (.int p3), .val (.int p4), .val (.int p5), .val (.int p6), .val (.long u), .second, .val (.int nv), .val (.int ng), .val (.int fv), .val (.int rf), .val (.int qv), .val (.int cv), .val (.int pv), .val (.int cd), .val (.int rp), .val (.int sv), .val (.int tv), .unset, .unset, .unset, .unset, .unset] [(.ref b165)])
              refine hst (fun t₀ k₀ => XS.dup X532.here hx rfl (hb hby at_533) rfl rfl k₀) ?_
              show F T532 (mkF m 534 #[.val (.long q1), .second, .val (.int p2), .val (.int p3), .val (.int p4), .val (.int p5), .val (.int p6), .val (.long u), .second, .val (.int nv), .val (.int ng), .val (.int fv), .val (.int rf), .val (.int qv), .val (.int cv), .val (.int pv), .val (.int cd), .val (.int rp), .val (.int sv), .val (.int tv), .unset, .unset, .unset, .unset, .unset] [(.ref b165), (.ref b165)])
              refine hst (fun t₀ k₀ => XS.bipush X532.here hx rfl (hb hby at_534) k₀) ?_
              show F T532 (mkF m 536 #[.val (.long q1), .second, .val (.int p2), .val (.int p3), .val (.int p4), .val (.int p5), .val (.int p6), .val (.long u), .second, .val (.int nv), .val (.int ng), .val (.int fv), .val (.int rf), .val (.int qv), .val (.int cv), .val (.int pv), .val (.int cd), .val (.int rp), .val (.int sv), .val (.int tv), .unset, .unset, .unset, .unset, .unset] [(.int (14 : Int32)), (.ref b165), (.ref b165)])
              refine hst (fun t₀ k₀ => XS.bipush X532.here hx rfl (hb hby at_536) k₀) ?_
              show F T532 (mkF m 538 #[.val (.long q1), .second, .val (.int p2), .val (.int p3), .val (.int p4), .val (.int p5), .val (.int p6), .val (.long u), .second, .val (.int nv), .val (.int ng), .val (.int fv), .val (.int rf), .val (.int qv), .val (.int cv), .val (.int pv), .val (.int cd), .val (.int rp), .val (.int sv), .val (.int tv), .unset, .unset, .unset, .unset, .unset] [(.int (14 : Int32)), (.int (14 : Int32)), (.ref b165), (.ref b165)])
              refine hst (fun t₀ k₀ => XS.iload X532.here hx rfl (hb hby at_538) rfl k₀) ?_
              show F T532 (mkF m 540 #[.val (.long q1), .second, .val (.int p2), .val (.int p3), .val (.int p4), .val (.int p5), .val (.int p6), .val (.long u), .second, .val (.int nv), .val (.int ng), .val (.int fv), .val (.int rf), .val (.int qv), .val (.int cv), .val (.int pv), .val (.int cd), .val (.int rp), .val (.int sv), .val (.int tv), .unset, .unset, .unset, .unset, .unset] [(.int fv), (.int (14 : Int32)), (.int (14 : Int32)), (.ref b165), (.ref b165)])
              refine hst (fun t₀ k₀ => XS.iload X532.here hx rfl (hb hby at_540) rfl k₀) ?_
              show F T532 (mkF m 542 #[.val (.long q1), .second, .val (.int p2), .val (.int p3), .val (.int p4), .val (.int p5), .val (.int p6), .val (.long u), .second, .val (.int nv), .val (.int ng), .val (.int fv), .val (.int rf), .val (.int qv), .val (.int cv), .val (.int pv), .val (.int cd), .val (.int rp), .val (.int sv), .val (.int tv), .unset, .unset, .unset, .unset, .unset] [(.int sv), (.int fv), (.int (14 : Int32)), (.int (14 : Int32)), (.ref b165), (.ref b165)])
              refine hst (fun t₀ k₀ => XS.iload X532.here hx rfl (hb hby at_542) rfl k₀) ?_
              show F T532 (mkF m 544 #[.val (.long q1), .second, .val (.int p2), .val (.int p3), .val (.int p4), .val (.int p5), .val (.int p6), .val (.long u), .second, .val (.int nv), .val (.int ng), .val (.int fv), .val (.int rf), .val (.int qv), .val (.int cv), .val (.int pv), .val (.int cd), .val (.int rp), .val (.int sv), .val (.int tv), .unset, .unset, .unset, .unset, .unset] [(.int tv), (.int sv), (.int fv), (.int (14 : Int32)), (.int (14 : Int32)), (.ref b165), (.ref b165)])
              refine hst (fun t₀ k₀ => XS.iload X532.here hx rfl (hb hby at_544) rfl k₀) ?_
              show F T532 (mkF m 546 #[.val (.long q1), .second, .val (.int p2), .val (.int p3), .val (.int p4), .val (.int p5), .val (.int p6), .val (.long u), .second, .val (.int nv), .val (.int ng), .val (.int fv), .val (.int rf), .val (.int qv), .val (.int cv), .val (.int pv), .val (.int cd), .val (.int rp), .val (.int sv), .val (.int tv), .unset, .unset, .unset, .unset, .unset] [(.int nv), (.int tv), (.int sv), (.int fv), (.int (14 : Int32)), (.int (14 : Int32)), (.ref b165), (.ref b165)])
              refine hst (fun t₀ k₀ => XS.lload X532.here hx rfl (hb hby at_546) rfl k₀) ?_
              show F T532 (mkF m 548 #[.val (.long q1), .second, .val (.int p2), .val (.int p3), .val (.int p4), .val (.int p5), .val (.int p6), .val (.long u), .second, .val (.int nv), .val (.int ng), .val (.int fv), .val (.int rf), .val (.int qv), .val (.int cv), .val (.int pv), .val (.int cd), .val (.int rp), .val (.int sv), .val (.int tv), .unset, .unset, .unset, .unset, .unset] [(.long u), (.int nv), (.int tv), (.int sv), (.int fv), (.int (14 : Int32)), (.int (14 : Int32)), (.ref b165), (.ref b165)])
              refine hst (fun t₀ k₀ => XS.iload X532.here hx rfl (hb hby at_548) rfl k₀) ?_
              show F T532 (mkF m 550 #[.val (.long q1), .second, .val (.int p2), .val (.int p3), .val (.int p4), .val (.int p5), .val (.int p6), .val (.long u), .second, .val (.int nv), .val (.int ng), .val (.int fv), .val (.int rf), .val (.int qv), .val (.int cv), .val (.int pv), .val (.int cd), .val (.int rp), .val (.int sv), .val (.int tv), .unset, .unset, .unset, .unset, .unset] [(.int qv), (.long u), (.int nv), (.int tv), (.int sv), (.int fv), (.int (14 : Int32)), (.int (14 : Int32)), (.ref b165), (.ref b165)])
              refine hst (fun t₀ k₀ => XS.iload X532.here hx rfl (hb hby at_550) rfl k₀) ?_
              show F T532 (mkF m 552 #[.val (.long q1), .second, .val (.int p2), .val (.int p3), .val (.int p4), .val (.int p5), .val (.int p6), .val (.long u), .second, .val (.int nv), .val (.int ng), .val (.int fv), .val (.int rf), .val (.int qv), .val (.int cv), .val (.int pv), .val (.int cd), .val (.int rp), .val (.int sv), .val (.int tv), .unset, .unset, .unset, .unset, .unset] [(.int cv), (.int qv), (.long u), (.int nv), (.int tv), (.int sv), (.int fv), (.int (14 : Int32)), (.int (14 : Int32)), (.ref b165), (.ref b165)])
              refine hst (fun t₀ k₀ => XS.iload X532.here hx rfl (hb hby at_552) rfl k₀) ?_
              show F T532 (mkF m 554 #[.val (.long q1), .second, .val (.int p2), .val (.int p3), .val (.int p4), .val (.int p5), .val (.int p6), .val (.long u), .second, .val (.int nv), .val (.int ng), .val (.int fv), .val (.int rf), .val (.int qv), .val (.int cv), .val (.int pv), .val (.int cd), .val (.int rp), .val (.int sv), .val (.int tv), .unset, .unset, .unset, .unset, .unset] [(.int rp), (.int cv), (.int qv), (.long u), (.int nv), (.int tv), (.int sv), (.int fv), (.int (14 : Int32)), (.int (14 : Int32)), (.ref b165), (.ref b165)])
              refine hst (fun t₀ k₀ => XS.iload X532.here hx rfl (hb hby at_554) rfl k₀) ?_
              show F T532 (mkF m 556 #[.val (.long q1), .second, .val (.int p2), .val (.int p3), .val (.int p4), .val (.int p5), .val (.int p6), .val (.long u), .second, .val (.int nv), .val (.int ng), .val (.int fv), .val (.int rf), .val (.int qv), .val (.int cv), .val (.int pv), .val (.int cd), .val (.int rp), .val (.int sv), .val (.int tv), .unset, .unset, .unset, .unset, .unset] [(.int pv), (.int rp), (.int cv), (.int qv), (.long u), (.int nv), (.int tv), (.int sv), (.int fv), (.int (14 : Int32)), (.int (14 : Int32)), (.ref b165), (.ref b165)])
              obtain ⟨v556, T556, Lc556, X556, hQ556, st556⟩ := own_callS X532 hx hZ hown (y := (⟨"com/example/leafline/leafline/table/IntegerValueParsePlainPinLaw", "cell", "(IIIIIJIBZB)B"⟩ : MethodName)) (hw _ (List.mem_of_getElem? (i := 3) rfl)) (hw _ (List.mem_of_getElem? (i := 4) rfl)) (hw _ (List.mem_of_getElem? (i := 5) rfl)) (hw _ (List.mem_of_getElem? (i := 6) rfl)) (by decide) e532 (rm1 l Z a0 hw [] (14 : Int32) fv sv tv nv u qv cv rp pv 14 f s' (s' + n) n U Q h532 n0 Z0_p532 (by decide) hf hs ktv hn hU hq rfl hn2 hs2) (by decide) (by decide) (g := (mkF m 556 #[.val (.long q1), .second, .val (.int p2), .val (.int p3), .val (.int p4), .val (.int p5), .val (.int p6), .val (.long u), .second, .val (.int nv), .val (.int ng), .val (.int fv), .val (.int rf), .val (.int qv), .val (.int cv), .val (.int pv), .val (.int cd), .val (.int rp), .val (.int sv), .val (.int tv), .unset, .unset, .unset, .unset, .unset] [(.int pv), (.int rp), (.int cv), (.int qv), (.long u), (.int nv), (.int tv), (.int sv), (.int fv), (.int (14 : Int32)), (.int (14 : Int32)), (.ref b165), (.ref b165)])) rfl (by rw [hml]; rfl) (argsL := [(.int (14 : Int32)), (.int fv), (.int sv), (.int tv), (.int nv), (.long u), (.int qv), (.int cv), (.int rp), (.int pv)]) (rest := [(.int (14 : Int32)), (.ref b165), (.ref b165)]) (lenOf pd_1 rfl) rfl rfl (W := 3) (by show 2 * 0 + _ ≤ _; exact Nat.le_of_eq rfl) (hb hby at_556) (by decide) (by decide)
              obtain ⟨rfl, Nq556, K556⟩ := hQ556
              have N556 := Fr.app N532 Nq556
              have A_b165_p556 : own_A Z T556.heap b165 .byte 22 (fun i => .int (own_pre G 14 i)) := A_b165_p532c.keep K556 (List.not_mem_nil)
              have Z0_p556 : n0 ≤ T556.heap.size := Nat.le_trans Z0_p532 K556.1
              refine hst st556 ?_
              show F T556 (mkF m 559 #[.val (.long q1), .second, .val (.int p2), .val (.int p3), .val (.int p4), .val (.int p5), .val (.int p6), .val (.long u), .second, .val (.int nv), .val (.int ng), .val (.int fv), .val (.int rf), .val (.int qv), .val (.int cv), .val (.int pv), .val (.int cd), .val (.int rp), .val (.int sv), .val (.int tv), .unset, .unset, .unset, .unset, .unset] [(.int (nar .byte (own_cellv 14 f s' (s' + n) n U Q cv rp pv))), (.int (14 : Int32)), (.ref b165), (.ref b165)])
              obtain ⟨T559, h559, X559, e559, W559, st559⟩ := own_bastore X556 hx hZ rfl A_b165_p556 (by decide) (g := (mkF m 559 #[.val (.long q1), .second, .val (.int p2), .val (.int p3), .val (.int p4), .val (.int p5), .val (.int p6), .val (.long u), .second, .val (.int nv), .val (.int ng), .val (.int fv), .val (.int rf), .val (.int qv), .val (.int cv), .val (.int pv), .val (.int cd), .val (.int rp), .val (.int sv), .val (.int tv), .unset, .unset, .unset, .unset, .unset] [(.int (nar .byte (own_cellv 14 f s' (s' + n) n U Q cv rp pv))), (.int (14 : Int32)), (.ref b165), (.ref b165)])) rfl rfl (hb hby at_559)
              have N559 := Fr.snoc X559 N556 ge_b165
              have A_b165_p559 : own_A Z h559 b165 .byte 22 (fun i => if i = Int32.toNatClampNeg (14 : Int32) then (.int (nar .byte (nar .byte (own_cellv 14 f s' (s' + n) n U Q cv rp pv)))) else (fun i => .int (own_pre G 14 i)) i) := A_b165_p556.set W559
              have Z0_p559 : n0 ≤ h559.size := Nat.le_trans Z0_p556 (Keep.of_wr W559).1
              refine hst st559 ?_
              have A_b165_p559c : own_A Z h559 b165 .byte 22 (fun i => .int (own_pre G 15 i)) := own_A.congr A_b165_p559 (fun i hi => by rw [show Int32.toNatClampNeg (14 : Int32) = 14 from rfl]; exact own_pre_step G 14 i _ (by rw [hG]))
              show F T559 (mkF m 560 #[.val (.long q1), .second, .val (.int p2), .val (.int p3), .val (.int p4), .val (.int p5), .val (.int p6), .val (.long u), .second, .val (.int nv), .val (.int ng), .val (.int fv), .val (.int rf), .val (.int qv), .val (.int cv), .val (.int pv), .val (.int cd), .val (.int rp), .val (.int sv), .val (.int tv), .unset, .unset, .unset, .unset, .unset] [(.ref b165)])
              refine hst (fun t₀ k₀ => XS.dup X559.here hx rfl (hb hby at_560) rfl rfl k₀) ?_
              show F T559 (mkF m 561 #[.val (.long q1), .second, .val (.int p2), .val (.int p3), .val (.int p4), .val (.int p5), .val (.int p6), .val (.long u), .second, .val (.int nv), .val (.int ng), .val (.int fv), .val (.int rf), .val (.int qv), .val (.int cv), .val (.int pv), .val (.int cd), .val (.int rp), .val (.int sv), .val (.int tv), .unset, .unset, .unset, .unset, .unset] [(.ref b165), (.ref b165)])
              refine hst (fun t₀ k₀ => XS.bipush X559.here hx rfl (hb hby at_561) k₀) ?_
              show F T559 (mkF m 563 #[.val (.long q1), .second, .val (.int p2), .val (.int p3), .val (.int p4), .val (.int p5), .val (.int p6), .val (.long u), .second, .val (.int nv), .val (.int ng), .val (.int fv), .val (.int rf), .val (.int qv), .val (.int cv), .val (.int pv), .val (.int cd), .val (.int rp), .val (.int sv), .val (.int tv), .unset, .unset, .unset, .unset, .unset] [(.int (15 : Int32)), (.ref b165), (.ref b165)])
              refine hst (fun t₀ k₀ => XS.bipush X559.here hx rfl (hb hby at_563) k₀) ?_
              show F T559 (mkF m 565 #[.val (.long q1), .second, .val (.int p2), .val (.int p3), .val (.int p4), .val (.int p5), .val (.int p6), .val (.long u), .second, .val (.int nv), .val (.int ng), .val (.int fv), .val (.int rf), .val (.int qv), .val (.int cv), .val (.int pv), .val (.int cd), .val (.int rp), .val (.int sv), .val (.int tv), .unset, .unset, .unset, .unset, .unset] [(.int (15 : Int32)), (.int (15 : Int32)), (.ref b165), (.ref b165)])
              refine hst (fun t₀ k₀ => XS.iload X559.here hx rfl (hb hby at_565) rfl k₀) ?_
              show F T559 (mkF m 567 #[.val (.long q1), .second, .val (.int p2), .val (.int p3), .val (.int p4), .val (.int p5), .val (.int p6), .val (.long u), .second, .val (.int nv), .val (.int ng), .val (.int fv), .val (.int rf), .val (.int qv), .val (.int cv), .val (.int pv), .val (.int cd), .val (.int rp), .val (.int sv), .val (.int tv), .unset, .unset, .unset, .unset, .unset] [(.int fv), (.int (15 : Int32)), (.int (15 : Int32)), (.ref b165), (.ref b165)])
              refine hst (fun t₀ k₀ => XS.iload X559.here hx rfl (hb hby at_567) rfl k₀) ?_
              show F T559 (mkF m 569 #[.val (.long q1), .second, .val (.int p2), .val (.int p3), .val (.int p4), .val (.int p5), .val (.int p6), .val (.long u), .second, .val (.int nv), .val (.int ng), .val (.int fv), .val (.int rf), .val (.int qv), .val (.int cv), .val (.int pv), .val (.int cd), .val (.int rp), .val (.int sv), .val (.int tv), .unset, .unset, .unset, .unset, .unset] [(.int sv), (.int fv), (.int (15 : Int32)), (.int (15 : Int32)), (.ref b165), (.ref b165)])
              refine hst (fun t₀ k₀ => XS.iload X559.here hx rfl (hb hby at_569) rfl k₀) ?_
              show F T559 (mkF m 571 #[.val (.long q1), .second, .val (.int p2), .val (.int p3), .val (.int p4), .val (.int p5), .val (.int p6), .val (.long u), .second, .val (.int nv), .val (.int ng), .val (.int fv), .val (.int rf), .val (.int qv), .val (.int cv), .val (.int pv), .val (.int cd), .val (.int rp), .val (.int sv), .val (.int tv), .unset, .unset, .unset, .unset, .unset] [(.int tv), (.int sv), (.int fv), (.int (15 : Int32)), (.int (15 : Int32)), (.ref b165), (.ref b165)])
              refine hst (fun t₀ k₀ => XS.iload X559.here hx rfl (hb hby at_571) rfl k₀) ?_
              show F T559 (mkF m 573 #[.val (.long q1), .second, .val (.int p2), .val (.int p3), .val (.int p4), .val (.int p5), .val (.int p6), .val (.long u), .second, .val (.int nv), .val (.int ng), .val (.int fv), .val (.int rf), .val (.int qv), .val (.int cv), .val (.int pv), .val (.int cd), .val (.int rp), .val (.int sv), .val (.int tv), .unset, .unset, .unset, .unset, .unset] [(.int nv), (.int tv), (.int sv), (.int fv), (.int (15 : Int32)), (.int (15 : Int32)), (.ref b165), (.ref b165)])
              refine hst (fun t₀ k₀ => XS.lload X559.here hx rfl (hb hby at_573) rfl k₀) ?_
              show F T559 (mkF m 575 #[.val (.long q1), .second, .val (.int p2), .val (.int p3), .val (.int p4), .val (.int p5), .val (.int p6), .val (.long u), .second, .val (.int nv), .val (.int ng), .val (.int fv), .val (.int rf), .val (.int qv), .val (.int cv), .val (.int pv), .val (.int cd), .val (.int rp), .val (.int sv), .val (.int tv), .unset, .unset, .unset, .unset, .unset] [(.long u), (.int nv), (.int tv), (.int sv), (.int fv), (.int (15 : Int32)), (.int (15 : Int32)), (.ref b165), (.ref b165)])
              refine hst (fun t₀ k₀ => XS.iload X559.here hx rfl (hb hby at_575) rfl k₀) ?_
              show F T559 (mkF m 577 #[.val (.long q1), .second, .val (.int p2), .val (.int p3), .val (.int p4), .val (.int p5), .val (.int p6), .val (.long u), .second, .val (.int nv), .val (.int ng), .val (.int fv), .val (.int rf), .val (.int qv), .val (.int cv), .val (.int pv), .val (.int cd), .val (.int rp), .val (.int sv), .val (.int tv), .unset, .unset, .unset, .unset, .unset] [(.int qv), (.long u), (.int nv), (.int tv), (.int sv), (.int fv), (.int (15 : Int32)), (.int (15 : Int32)), (.ref b165), (.ref b165)])
              refine hst (fun t₀ k₀ => XS.iload X559.here hx rfl (hb hby at_577) rfl k₀) ?_
              show F T559 (mkF m 579 #[.val (.long q1), .second, .val (.int p2), .val (.int p3), .val (.int p4), .val (.int p5), .val (.int p6), .val (.long u), .second, .val (.int nv), .val (.int ng), .val (.int fv), .val (.int rf), .val (.int qv), .val (.int cv), .val (.int pv), .val (.int cd), .val (.int rp), .val (.int sv), .val (.int tv), .unset, .unset, .unset, .unset, .unset] [(.int cv), (.int qv), (.long u), (.int nv), (.int tv), (.int sv), (.int fv), (.int (15 : Int32)), (.int (15 : Int32)), (.ref b165), (.ref b165)])
              refine hst (fun t₀ k₀ => XS.iload X559.here hx rfl (hb hby at_579) rfl k₀) ?_
              show F T559 (mkF m 581 #[.val (.long q1), .second, .val (.int p2), .val (.int p3), .val (.int p4), .val (.int p5), .val (.int p6), .val (.long u), .second, .val (.int nv), .val (.int ng), .val (.int fv), .val (.int rf), .val (.int qv), .val (.int cv), .val (.int pv), .val (.int cd), .val (.int rp), .val (.int sv), .val (.int tv), .unset, .unset, .unset, .unset, .unset] [(.int rp), (.int cv), (.int qv), (.long u), (.int nv), (.int tv), (.int sv), (.int fv), (.int (15 : Int32)), (.int (15 : Int32)), (.ref b165), (.ref b165)])
              refine hst (fun t₀ k₀ => XS.iload X559.here hx rfl (hb hby at_581) rfl k₀) ?_
              show F T559 (mkF m 583 #[.val (.long q1), .second, .val (.int p2), .val (.int p3), .val (.int p4), .val (.int p5), .val (.int p6), .val (.long u), .second, .val (.int nv), .val (.int ng), .val (.int fv), .val (.int rf), .val (.int qv), .val (.int cv), .val (.int pv), .val (.int cd), .val (.int rp), .val (.int sv), .val (.int tv), .unset, .unset, .unset, .unset, .unset] [(.int pv), (.int rp), (.int cv), (.int qv), (.long u), (.int nv), (.int tv), (.int sv), (.int fv), (.int (15 : Int32)), (.int (15 : Int32)), (.ref b165), (.ref b165)])
              obtain ⟨v583, T583, Lc583, X583, hQ583, st583⟩ := own_callS X559 hx hZ hown (y := (⟨"com/example/leafline/leafline/table/IntegerValueParsePlainPinLaw", "cell", "(IIIIIJIBZB)B"⟩ : MethodName)) (hw _ (List.mem_of_getElem? (i := 3) rfl)) (hw _ (List.mem_of_getElem? (i := 4) rfl)) (hw _ (List.mem_of_getElem? (i := 5) rfl)) (hw _ (List.mem_of_getElem? (i := 6) rfl)) (by decide) e559 (rm1 l Z a0 hw [] (15 : Int32) fv sv tv nv u qv cv rp pv 15 f s' (s' + n) n U Q h559 n0 Z0_p559 (by decide) hf hs ktv hn hU hq rfl hn2 hs2) (by decide) (by decide) (g := (mkF m 583 #[.val (.long q1), .second, .val (.int p2), .val (.int p3), .val (.int p4), .val (.int p5), .val (.int p6), .val (.long u), .second, .val (.int nv), .val (.int ng), .val (.int fv), .val (.int rf), .val (.int qv), .val (.int cv), .val (.int pv), .val (.int cd), .val (.int rp), .val (.int sv), .val (.int tv), .unset, .unset, .unset, .unset, .unset] [(.int pv), (.int rp), (.int cv), (.int qv), (.long u), (.int nv), (.int tv), (.int sv), (.int fv), (.int (15 : Int32)), (.int (15 : Int32)), (.ref b165), (.ref b165)])) rfl (by rw [hml]; rfl) (argsL := [(.int (15 : Int32)), (.int fv), (.int sv), (.int tv), (.int nv), (.long u), (.int qv), (.int cv), (.int rp), (.int pv)]) (rest := [(.int (15 : Int32)), (.ref b165), (.ref b165)]) (lenOf pd_1 rfl) rfl rfl (W := 3) (by show 2 * 0 + _ ≤ _; exact Nat.le_of_eq rfl) (hb hby at_583) (by decide) (by decide)
              obtain ⟨rfl, Nq583, K583⟩ := hQ583
              have N583 := Fr.app N559 Nq583
              have A_b165_p583 : own_A Z T583.heap b165 .byte 22 (fun i => .int (own_pre G 15 i)) := A_b165_p559c.keep K583 (List.not_mem_nil)
              have Z0_p583 : n0 ≤ T583.heap.size := Nat.le_trans Z0_p559 K583.1
              refine hst st583 ?_
              show F T583 (mkF m 586 #[.val (.long q1), .second, .val (.int p2), .val (.int p3), .val (.int p4), .val (.int p5), .val (.int p6), .val (.long u), .second, .val (.int nv), .val (.int ng), .val (.int fv), .val (.int rf), .val (.int qv), .val (.int cv), .val (.int pv), .val (.int cd), .val (.int rp), .val (.int sv), .val (.int tv), .unset, .unset, .unset, .unset, .unset] [(.int (nar .byte (own_cellv 15 f s' (s' + n) n U Q cv rp pv))), (.int (15 : Int32)), (.ref b165), (.ref b165)])
              obtain ⟨T586, h586, X586, e586, W586, st586⟩ := own_bastore X583 hx hZ rfl A_b165_p583 (by decide) (g := (mkF m 586 #[.val (.long q1), .second, .val (.int p2), .val (.int p3), .val (.int p4), .val (.int p5), .val (.int p6), .val (.long u), .second, .val (.int nv), .val (.int ng), .val (.int fv), .val (.int rf), .val (.int qv), .val (.int cv), .val (.int pv), .val (.int cd), .val (.int rp), .val (.int sv), .val (.int tv), .unset, .unset, .unset, .unset, .unset] [(.int (nar .byte (own_cellv 15 f s' (s' + n) n U Q cv rp pv))), (.int (15 : Int32)), (.ref b165), (.ref b165)])) rfl rfl (hb hby at_586)
              have N586 := Fr.snoc X586 N583 ge_b165
              have A_b165_p586 : own_A Z h586 b165 .byte 22 (fun i => if i = Int32.toNatClampNeg (15 : Int32) then (.int (nar .byte (nar .byte (own_cellv 15 f s' (s' + n) n U Q cv rp pv)))) else (fun i => .int (own_pre G 15 i)) i) := A_b165_p583.set W586
              have Z0_p586 : n0 ≤ h586.size := Nat.le_trans Z0_p583 (Keep.of_wr W586).1
              refine hst st586 ?_
              have A_b165_p586c : own_A Z h586 b165 .byte 22 (fun i => .int (own_pre G 16 i)) := own_A.congr A_b165_p586 (fun i hi => by rw [show Int32.toNatClampNeg (15 : Int32) = 15 from rfl]; exact own_pre_step G 15 i _ (by rw [hG]))
              show F T586 (mkF m 587 #[.val (.long q1), .second, .val (.int p2), .val (.int p3), .val (.int p4), .val (.int p5), .val (.int p6), .val (.long u), .second, .val (.int nv), .val (.int ng), .val (.int fv), .val (.int rf), .val (.int qv), .val (.int cv), .val (.int pv), .val (.int cd), .val (.int rp), .val (.int sv), .val (.int tv), .unset, .unset, .unset, .unset, .unset] [(.ref b165)])
              refine hst (fun t₀ k₀ => XS.dup X586.here hx rfl (hb hby at_587) rfl rfl k₀) ?_
              show F T586 (mkF m 588 #[.val (.long q1), .second, .val (.int p2), .val (.int p3), .val (.int p4), .val (.int p5), .val (.int p6), .val (.long u), .second, .val (.int nv), .val (.int ng), .val (.int fv), .val (.int rf), .val (.int qv), .val (.int cv), .val (.int pv), .val (.int cd), .val (.int rp), .val (.int sv), .val (.int tv), .unset, .unset, .unset, .unset, .unset] [(.ref b165), (.ref b165)])
              refine hst (fun t₀ k₀ => XS.bipush X586.here hx rfl (hb hby at_588) k₀) ?_
              show F T586 (mkF m 590 #[.val (.long q1), .second, .val (.int p2), .val (.int p3), .val (.int p4), .val (.int p5), .val (.int p6), .val (.long u), .second, .val (.int nv), .val (.int ng), .val (.int fv), .val (.int rf), .val (.int qv), .val (.int cv), .val (.int pv), .val (.int cd), .val (.int rp), .val (.int sv), .val (.int tv), .unset, .unset, .unset, .unset, .unset] [(.int (16 : Int32)), (.ref b165), (.ref b165)])
              refine hst (fun t₀ k₀ => XS.bipush X586.here hx rfl (hb hby at_590) k₀) ?_
              show F T586 (mkF m 592 #[.val (.long q1), .second, .val (.int p2), .val (.int p3), .val (.int p4), .val (.int p5), .val (.int p6), .val (.long u), .second, .val (.int nv), .val (.int ng), .val (.int fv), .val (.int rf), .val (.int qv), .val (.int cv), .val (.int pv), .val (.int cd), .val (.int rp), .val (.int sv), .val (.int tv), .unset, .unset, .unset, .unset, .unset] [(.int (16 : Int32)), (.int (16 : Int32)), (.ref b165), (.ref b165)])
              refine hst (fun t₀ k₀ => XS.iload X586.here hx rfl (hb hby at_592) rfl k₀) ?_
              show F T586 (mkF m 594 #[.val (.long q1), .second, .val (.int p2), .val (.int p3), .val (.int p4), .val (.int p5), .val (.int p6), .val (.long u), .second, .val (.int nv), .val (.int ng), .val (.int fv), .val (.int rf), .val (.int qv), .val (.int cv), .val (.int pv), .val (.int cd), .val (.int rp), .val (.int sv), .val (.int tv), .unset, .unset, .unset, .unset, .unset] [(.int fv), (.int (16 : Int32)), (.int (16 : Int32)), (.ref b165), (.ref b165)])
              refine hst (fun t₀ k₀ => XS.iload X586.here hx rfl (hb hby at_594) rfl k₀) ?_
              show F T586 (mkF m 596 #[.val (.long q1), .second, .val (.int p2), .val (.int p3), .val (.int p4), .val (.int p5), .val (.int p6), .val (.long u), .second, .val (.int nv), .val (.int ng), .val (.int fv), .val (.int rf), .val (.int qv), .val (.int cv), .val (.int pv), .val (.int cd), .val (.int rp), .val (.int sv), .val (.int tv), .unset, .unset, .unset, .unset, .unset] [(.int sv), (.int fv), (.int (16 : Int32)), (.int (16 : Int32)), (.ref b165), (.ref b165)])
              refine hst (fun t₀ k₀ => XS.iload X586.here hx rfl (hb hby at_596) rfl k₀) ?_
              show F T586 (mkF m 598 #[.val (.long q1), .second, .val (.int p2), .val (.int p3), .val (.int p4), .val (.int p5), .val (.int p6), .val (.long u), .second, .val (.int nv), .val (.int ng), .val (.int fv), .val (.int rf), .val (.int qv), .val (.int cv), .val (.int pv), .val (.int cd), .val (.int rp), .val (.int sv), .val (.int tv), .unset, .unset, .unset, .unset, .unset] [(.int tv), (.int sv), (.int fv), (.int (16 : Int32)), (.int (16 : Int32)), (.ref b165), (.ref b165)])
              refine hst (fun t₀ k₀ => XS.iload X586.here hx rfl (hb hby at_598) rfl k₀) ?_
              show F T586 (mkF m 600 #[.val (.long q1), .second, .val (.int p2), .val (.int p3), .val (.int p4), .val (.int p5), .val (.int p6), .val (.long u), .second, .val (.int nv), .val (.int ng), .val (.int fv), .val (.int rf), .val (.int qv), .val (.int cv), .val (.int pv), .val (.int cd), .val (.int rp), .val (.int sv), .val (.int tv), .unset, .unset, .unset, .unset, .unset] [(.int nv), (.int tv), (.int sv), (.int fv), (.int (16 : Int32)), (.int (16 : Int32)), (.ref b165), (.ref b165)])
              refine hst (fun t₀ k₀ => XS.lload X586.here hx rfl (hb hby at_600) rfl k₀) ?_
              show F T586 (mkF m 602 #[.val (.long q1), .second, .val (.int p2), .val (.int p3), .val (.int p4), .val (.int p5), .val (.int p6), .val (.long u), .second, .val (.int nv), .val (.int ng), .val (.int fv), .val (.int rf), .val (.int qv), .val (.int cv), .val (.int pv), .val (.int cd), .val (.int rp), .val (.int sv), .val (.int tv), .unset, .unset, .unset, .unset, .unset] [(.long u), (.int nv), (.int tv), (.int sv), (.int fv), (.int (16 : Int32)), (.int (16 : Int32)), (.ref b165), (.ref b165)])
              refine hst (fun t₀ k₀ => XS.iload X586.here hx rfl (hb hby at_602) rfl k₀) ?_
              show F T586 (mkF m 604 #[.val (.long q1), .second, .val (.int p2), .val (.int p3), .val (.int p4), .val (.int p5), .val (.int p6), .val (.long u), .second, .val (.int nv), .val (.int ng), .val (.int fv), .val (.int rf), .val (.int qv), .val (.int cv), .val (.int pv), .val (.int cd), .val (.int rp), .val (.int sv), .val (.int tv), .unset, .unset, .unset, .unset, .unset] [(.int qv), (.long u), (.int nv), (.int tv), (.int sv), (.int fv), (.int (16 : Int32)), (.int (16 : Int32)), (.ref b165), (.ref b165)])
              refine hst (fun t₀ k₀ => XS.iload X586.here hx rfl (hb hby at_604) rfl k₀) ?_
              show F T586 (mkF m 606 #[.val (.long q1), .second, .val (.int p2), .val (.int p3), .val (.int p4), .val (.int p5), .val (.int p6), .val (.long u), .second, .val (.int nv), .val (.int ng), .val (.int fv), .val (.int rf), .val (.int qv), .val (.int cv), .val (.int pv), .val (.int cd), .val (.int rp), .val (.int sv), .val (.int tv), .unset, .unset, .unset, .unset, .unset] [(.int cv), (.int qv), (.long u), (.int nv), (.int tv), (.int sv), (.int fv), (.int (16 : Int32)), (.int (16 : Int32)), (.ref b165), (.ref b165)])
              refine hst (fun t₀ k₀ => XS.iload X586.here hx rfl (hb hby at_606) rfl k₀) ?_
              show F T586 (mkF m 608 #[.val (.long q1), .second, .val (.int p2), .val (.int p3), .val (.int p4), .val (.int p5), .val (.int p6), .val (.long u), .second, .val (.int nv), .val (.int ng), .val (.int fv), .val (.int rf), .val (.int qv), .val (.int cv), .val (.int pv), .val (.int cd), .val (.int rp), .val (.int sv), .val (.int tv), .unset, .unset, .unset, .unset, .unset] [(.int rp), (.int cv), (.int qv), (.long u), (.int nv), (.int tv), (.int sv), (.int fv), (.int (16 : Int32)), (.int (16 : Int32)), (.ref b165), (.ref b165)])
              refine hst (fun t₀ k₀ => XS.iload X586.here hx rfl (hb hby at_608) rfl k₀) ?_
              show F T586 (mkF m 610 #[.val (.long q1), .second, .val (.int p2), .val (.int p3), .val (.int p4), .val (.int p5), .val (.int p6), .val (.long u), .second, .val (.int nv), .val (.int ng), .val (.int fv), .val (.int rf), .val (.int qv), .val (.int cv), .val (.int pv), .val (.int cd), .val (.int rp), .val (.int sv), .val (.int tv), .unset, .unset, .unset, .unset, .unset] [(.int pv), (.int rp), (.int cv), (.int qv), (.long u), (.int nv), (.int tv), (.int sv), (.int fv), (.int (16 : Int32)), (.int (16 : Int32)), (.ref b165), (.ref b165)])
              obtain ⟨v610, T610, Lc610, X610, hQ610, st610⟩ := own_callS X586 hx hZ hown (y := (⟨"com/example/leafline/leafline/table/IntegerValueParsePlainPinLaw", "cell", "(IIIIIJIBZB)B"⟩ : MethodName)) (hw _ (List.mem_of_getElem? (i := 3) rfl)) (hw _ (List.mem_of_getElem? (i := 4) rfl)) (hw _ (List.mem_of_getElem? (i := 5) rfl)) (hw _ (List.mem_of_getElem? (i := 6) rfl)) (by decide) e586 (rm1 l Z a0 hw [] (16 : Int32) fv sv tv nv u qv cv rp pv 16 f s' (s' + n) n U Q h586 n0 Z0_p586 (by decide) hf hs ktv hn hU hq rfl hn2 hs2) (by decide) (by decide) (g := (mkF m 610 #[.val (.long q1), .second, .val (.int p2), .val (.int p3), .val (.int p4), .val (.int p5), .val (.int p6), .val (.long u), .second, .val (.int nv), .val (.int ng), .val (.int fv), .val (.int rf), .val (.int qv), .val (.int cv), .val (.int pv), .val (.int cd), .val (.int rp), .val (.int sv), .val (.int tv), .unset, .unset, .unset, .unset, .unset] [(.int pv), (.int rp), (.int cv), (.int qv), (.long u), (.int nv), (.int tv), (.int sv), (.int fv), (.int (16 : Int32)), (.int (16 : Int32)), (.ref b165), (.ref b165)])) rfl (by rw [hml]; rfl) (argsL := [(.int (16 : Int32)), (.int fv), (.int sv), (.int tv), (.int nv), (.long u), (.int qv), (.int cv), (.int rp), (.int pv)]) (rest := [(.int (16 : Int32)), (.ref b165), (.ref b165)]) (lenOf pd_1 rfl) rfl rfl (W := 3) (by show 2 * 0 + _ ≤ _; exact Nat.le_of_eq rfl) (hb hby at_610) (by decide) (by decide)
              obtain ⟨rfl, Nq610, K610⟩ := hQ610
              have N610 := Fr.app N586 Nq610
              have A_b165_p610 : own_A Z T610.heap b165 .byte 22 (fun i => .int (own_pre G 16 i)) := A_b165_p586c.keep K610 (List.not_mem_nil)
              have Z0_p610 : n0 ≤ T610.heap.size := Nat.le_trans Z0_p586 K610.1
              refine hst st610 ?_
              show F T610 (mkF m 613 #[.val (.long q1), .second, .val (.int p2), .val (.int p3), .val (.int p4), .val (.int p5), .val (.int p6), .val (.long u), .second, .val (.int nv), .val (.int ng), .val (.int fv), .val (.int rf), .val (.int qv), .val (.int cv), .val (.int pv), .val (.int cd), .val (.int rp), .val (.int sv), .val (.int tv), .unset, .unset, .unset, .unset, .unset] [(.int (nar .byte (own_cellv 16 f s' (s' + n) n U Q cv rp pv))), (.int (16 : Int32)), (.ref b165), (.ref b165)])
              obtain ⟨T613, h613, X613, e613, W613, st613⟩ := own_bastore X610 hx hZ rfl A_b165_p610 (by decide) (g := (mkF m 613 #[.val (.long q1), .second, .val (.int p2), .val (.int p3), .val (.int p4), .val (.int p5), .val (.int p6), .val (.long u), .second, .val (.int nv), .val (.int ng), .val (.int fv), .val (.int rf), .val (.int qv), .val (.int cv), .val (.int pv), .val (.int cd), .val (.int rp), .val (.int sv), .val (.int tv), .unset, .unset, .unset, .unset, .unset] [(.int (nar .byte (own_cellv 16 f s' (s' + n) n U Q cv rp pv))), (.int (16 : Int32)), (.ref b165), (.ref b165)])) rfl rfl (hb hby at_613)
              have N613 := Fr.snoc X613 N610 ge_b165
              have A_b165_p613 : own_A Z h613 b165 .byte 22 (fun i => if i = Int32.toNatClampNeg (16 : Int32) then (.int (nar .byte (nar .byte (own_cellv 16 f s' (s' + n) n U Q cv rp pv)))) else (fun i => .int (own_pre G 16 i)) i) := A_b165_p610.set W613
              have Z0_p613 : n0 ≤ h613.size := Nat.le_trans Z0_p610 (Keep.of_wr W613).1
              refine hst st613 ?_
              have A_b165_p613c : own_A Z h613 b165 .byte 22 (fun i => .int (own_pre G 17 i)) := own_A.congr A_b165_p613 (fun i hi => by rw [show Int32.toNatClampNeg (16 : Int32) = 16 from rfl]; exact own_pre_step G 16 i _ (by rw [hG]))
              show F T613 (mkF m 614 #[.val (.long q1), .second, .val (.int p2), .val (.int p3), .val (.int p4), .val (.int p5), .val (.int p6), .val (.long u), .second, .val (.int nv), .val (.int ng), .val (.int fv), .val (.int rf), .val (.int qv), .val (.int cv), .val (.int pv), .val (.int cd), .val (.int rp), .val (.int sv), .val (.int tv), .unset, .unset, .unset, .unset, .unset] [(.ref b165)])
              refine hst (fun t₀ k₀ => XS.dup X613.here hx rfl (hb hby at_614) rfl rfl k₀) ?_
              show F T613 (mkF m 615 #[.val (.long q1), .second, .val (.int p2), .val (.int p3), .val (.int p4), .val (.int p5), .val (.int p6), .val (.long u), .second, .val (.int nv), .val (.int ng), .val (.int fv), .val (.int rf), .val (.int qv), .val (.int cv), .val (.int pv), .val (.int cd), .val (.int rp), .val (.int sv), .val (.int tv), .unset, .unset, .unset, .unset, .unset] [(.ref b165), (.ref b165)])
              refine hst (fun t₀ k₀ => XS.bipush X613.here hx rfl (hb hby at_615) k₀) ?_
              show F T613 (mkF m 617 #[.val (.long q1), .second, .val (.int p2), .val (.int p3), .val (.int p4), .val (.int p5), .val (.int p6), .val (.long u), .second, .val (.int nv), .val (.int ng), .val (.int fv), .val (.int rf), .val (.int qv), .val (.int cv), .val (.int pv), .val (.int cd), .val (.int rp), .val (.int sv), .val (.int tv), .unset, .unset, .unset, .unset, .unset] [(.int (17 : Int32)), (.ref b165), (.ref b165)])
              refine hst (fun t₀ k₀ => XS.bipush X613.here hx rfl (hb hby at_617) k₀) ?_
              show F T613 (mkF m 619 #[.val (.long q1), .second, .val (.int p2), .val (.int p3), .val (.int p4), .val (.int p5), .val (.int p6), .val (.long u), .second, .val (.int nv), .val (.int ng), .val (.int fv), .val (.int rf), .val (.int qv), .val (.int cv), .val (.int pv), .val (.int cd), .val (.int rp), .val (.int sv), .val (.int tv), .unset, .unset, .unset, .unset, .unset] [(.int (17 : Int32)), (.int (17 : Int32)), (.ref b165), (.ref b165)])
              refine hst (fun t₀ k₀ => XS.iload X613.here hx rfl (hb hby at_619) rfl k₀) ?_
              show F T613 (mkF m 621 #[.val (.long q1), .second, .val (.int p2), .val (.int p3), .val (.int p4), .val (.int p5), .val (.int p6), .val (.long u), .second, .val (.int nv), .val (.int ng), .val (.int fv), .val (.int rf), .val (.int qv), .val (.int cv), .val (.int pv), .val (.int cd), .val (.int rp), .val (.int sv), .val (.int tv), .unset, .unset, .unset, .unset, .unset] [(.int fv), (.int (17 : Int32)), (.int (17 : Int32)), (.ref b165), (.ref b165)])
              refine hst (fun t₀ k₀ => XS.iload X613.here hx rfl (hb hby at_621) rfl k₀) ?_
              show F T613 (mkF m 623 #[.val (.long q1), .second, .val (.int p2), .val (.int p3), .val (.int p4), .val (.int p5), .val (.int p6), .val (.long u), .second, .val (.int nv), .val (.int ng), .val (.int fv), .val (.int rf), .val (.int qv), .val (.int cv), .val (.int pv), .val (.int cd), .val (.int rp), .val (.int sv), .val (.int tv), .unset, .unset, .unset, .unset, .unset] [(.int sv), (.int fv), (.int (17 : Int32)), (.int (17 : Int32)), (.ref b165), (.ref b165)])
              refine hst (fun t₀ k₀ => XS.iload X613.here hx rfl (hb hby at_623) rfl k₀) ?_
              show F T613 (mkF m 625 #[.val (.long q1), .second, .val (.int p2), .val (.int p3), .val (.int p4), .val (.int p5), .val (.int p6), .val (.long u), .second, .val (.int nv), .val (.int ng), .val (.int fv), .val (.int rf), .val (.int qv), .val (.int cv), .val (.int pv), .val (.int cd), .val (.int rp), .val (.int sv), .val (.int tv), .unset, .unset, .unset, .unset, .unset] [(.int tv), (.int sv), (.int fv), (.int (17 : Int32)), (.int (17 : Int32)), (.ref b165), (.ref b165)])
              refine hst (fun t₀ k₀ => XS.iload X613.here hx rfl (hb hby at_625) rfl k₀) ?_
              show F T613 (mkF m 627 #[.val (.long q1), .second, .val (.int p2), .val (.int p3), .val (.int p4), .val (.int p5), .val (.int p6), .val (.long u), .second, .val (.int nv), .val (.int ng), .val (.int fv), .val (.int rf), .val (.int qv), .val (.int cv), .val (.int pv), .val (.int cd), .val (.int rp), .val (.int sv), .val (.int tv), .unset, .unset, .unset, .unset, .unset] [(.int nv), (.int tv), (.int sv), (.int fv), (.int (17 : Int32)), (.int (17 : Int32)), (.ref b165), (.ref b165)])
              refine hst (fun t₀ k₀ => XS.lload X613.here hx rfl (hb hby at_627) rfl k₀) ?_
              show F T613 (mkF m 629 #[.val (.long q1), .second, .val (.int p2), .val (.int p3), .val (.int p4), .val (.int p5), .val (.int p6), .val (.long u), .second, .val (.int nv), .val (.int ng), .val (.int fv), .val (.int rf), .val (.int qv), .val (.int cv), .val (.int pv), .val (.int cd), .val (.int rp), .val (.int sv), .val (.int tv), .unset, .unset, .unset, .unset, .unset] [(.long u), (.int nv), (.int tv), (.int sv), (.int fv), (.int (17 : Int32)), (.int (17 : Int32)), (.ref b165), (.ref b165)])
              refine hst (fun t₀ k₀ => XS.iload X613.here hx rfl (hb hby at_629) rfl k₀) ?_
              show F T613 (mkF m 631 #[.val (.long q1), .second, .val (.int p2), .val (.int p3), .val (.int p4), .val (.int p5), .val (.int p6), .val (.long u), .second, .val (.int nv), .val (.int ng), .val (.int fv), .val (.int rf), .val (.int qv), .val (.int cv), .val (.int pv), .val (.int cd), .val (.int rp), .val (.int sv), .val (.int tv), .unset, .unset, .unset, .unset, .unset] [(.int qv), (.long u), (.int nv), (.int tv), (.int sv), (.int fv), (.int (17 : Int32)), (.int (17 : Int32)), (.ref b165), (.ref b165)])
              refine hst (fun t₀ k₀ => XS.iload X613.here hx rfl (hb hby at_631) rfl k₀) ?_
              show F T613 (mkF m 633 #[.val (.long q1), .second, .val (.int p2), .val (.int p3), .val (.int p4), .val (.int p5), .val (.int p6), .val (.long u), .second, .val (.int nv), .val (.int ng), .val (.int fv), .val (.int rf), .val (.int qv), .val (.int cv), .val (.int pv), .val (.int cd), .val (.int rp), .val (.int sv), .val (.int tv), .unset, .unset, .unset, .unset, .unset] [(.int cv), (.int qv), (.long u), (.int nv), (.int tv), (.int sv), (.int fv), (.int (17 : Int32)), (.int (17 : Int32)), (.ref b165), (.ref b165)])
              refine hst (fun t₀ k₀ => XS.iload X613.here hx rfl (hb hby at_633) rfl k₀) ?_
              show F T613 (mkF m 635 #[.val (.long q1), .second, .val (.int p2), .val (.int p3), .val (.int p4), .val (.int p5), .val (.int p6), .val (.long u), .second, .val (.int nv), .val (.int ng), .val (.int fv), .val (.int rf), .val (.int qv), .val (.int cv), .val (.int pv), .val (.int cd), .val (.int rp), .val (.int sv), .val (.int tv), .unset, .unset, .unset, .unset, .unset] [(.int rp), (.int cv), (.int qv), (.long u), (.int nv), (.int tv), (.int sv), (.int fv), (.int (17 : Int32)), (.int (17 : Int32)), (.ref b165), (.ref b165)])
              refine hst (fun t₀ k₀ => XS.iload X613.here hx rfl (hb hby at_635) rfl k₀) ?_
              show F T613 (mkF m 637 #[.val (.long q1), .second, .val (.int p2), .val (.int p3), .val (.int p4), .val (.int p5), .val (.int p6), .val (.long u), .second, .val (.int nv), .val (.int ng), .val (.int fv), .val (.int rf), .val (.int qv), .val (.int cv), .val (.int pv), .val (.int cd), .val (.int rp), .val (.int sv), .val (.int tv), .unset, .unset, .unset, .unset, .unset] [(.int pv), (.int rp), (.int cv), (.int qv), (.long u), (.int nv), (.int tv), (.int sv), (.int fv), (.int (17 : Int32)), (.int (17 : Int32)), (.ref b165), (.ref b165)])
              obtain ⟨v637, T637, Lc637, X637, hQ637, st637⟩ := own_callS X613 hx hZ hown (y := (⟨"com/example/leafline/leafline/table/IntegerValueParsePlainPinLaw", "cell", "(IIIIIJIBZB)B"⟩ : MethodName)) (hw _ (List.mem_of_getElem? (i := 3) rfl)) (hw _ (List.mem_of_getElem? (i := 4) rfl)) (hw _ (List.mem_of_getElem? (i := 5) rfl)) (hw _ (List.mem_of_getElem? (i := 6) rfl)) (by decide) e613 (rm1 l Z a0 hw [] (17 : Int32) fv sv tv nv u qv cv rp pv 17 f s' (s' + n) n U Q h613 n0 Z0_p613 (by decide) hf hs ktv hn hU hq rfl hn2 hs2) (by decide) (by decide) (g := (mkF m 637 #[.val (.long q1), .second, .val (.int p2), .val (.int p3), .val (.int p4), .val (.int p5), .val (.int p6), .val (.long u), .second, .val (.int nv), .val (.int ng), .val (.int fv), .val (.int rf), .val (.int qv), .val (.int cv), .val (.int pv), .val (.int cd), .val (.int rp), .val (.int sv), .val (.int tv), .unset, .unset, .unset, .unset, .unset] [(.int pv), (.int rp), (.int cv), (.int qv), (.long u), (.int nv), (.int tv), (.int sv), (.int fv), (.int (17 : Int32)), (.int (17 : Int32)), (.ref b165), (.ref b165)])) rfl (by rw [hml]; rfl) (argsL := [(.int (17 : Int32)), (.int fv), (.int sv), (.int tv), (.int nv), (.long u), (.int qv), (.int cv), (.int rp), (.int pv)]) (rest := [(.int (17 : Int32)), (.ref b165), (.ref b165)]) (lenOf pd_1 rfl) rfl rfl (W := 3) (by show 2 * 0 + _ ≤ _; exact Nat.le_of_eq rfl) (hb hby at_637) (by decide) (by decide)
              obtain ⟨rfl, Nq637, K637⟩ := hQ637
              have N637 := Fr.app N613 Nq637
              have A_b165_p637 : own_A Z T637.heap b165 .byte 22 (fun i => .int (own_pre G 17 i)) := A_b165_p613c.keep K637 (List.not_mem_nil)
              have Z0_p637 : n0 ≤ T637.heap.size := Nat.le_trans Z0_p613 K637.1
              refine hst st637 ?_
              show F T637 (mkF m 640 #[.val (.long q1), .second, .val (.int p2), .val (.int p3), .val (.int p4), .val (.int p5), .val (.int p6), .val (.long u), .second, .val (.int nv), .val (.int ng), .val (.int fv), .val (.int rf), .val (.int qv), .val (.int cv), .val (.int pv), .val (.int cd), .val (.int rp), .val (.int sv), .val (.int tv), .unset, .unset, .unset, .unset, .unset] [(.int (nar .byte (own_cellv 17 f s' (s' + n) n U Q cv rp pv))), (.int (17 : Int32)), (.ref b165), (.ref b165)])
              obtain ⟨T640, h640, X640, e640, W640, st640⟩ := own_bastore X637 hx hZ rfl A_b165_p637 (by decide) (g := (mkF m 640 #[.val (.long q1), .second, .val (.int p2), .val (.int p3), .val (.int p4), .val (.int p5), .val (.int p6), .val (.long u), .second, .val (.int nv), .val (.int ng), .val (.int fv), .val (.int rf), .val (.int qv), .val (.int cv), .val (.int pv), .val (.int cd), .val (.int rp), .val (.int sv), .val (.int tv), .unset, .unset, .unset, .unset, .unset] [(.int (nar .byte (own_cellv 17 f s' (s' + n) n U Q cv rp pv))), (.int (17 : Int32)), (.ref b165), (.ref b165)])) rfl rfl (hb hby at_640)
              have N640 := Fr.snoc X640 N637 ge_b165
              have A_b165_p640 : own_A Z h640 b165 .byte 22 (fun i => if i = Int32.toNatClampNeg (17 : Int32) then (.int (nar .byte (nar .byte (own_cellv 17 f s' (s' + n) n U Q cv rp pv)))) else (fun i => .int (own_pre G 17 i)) i) := A_b165_p637.set W640
              have Z0_p640 : n0 ≤ h640.size := Nat.le_trans Z0_p637 (Keep.of_wr W640).1
              refine hst st640 ?_
              have A_b165_p640c : own_A Z h640 b165 .byte 22 (fun i => .int (own_pre G 18 i)) := own_A.congr A_b165_p640 (fun i hi => by rw [show Int32.toNatClampNeg (17 : Int32) = 17 from rfl]; exact own_pre_step G 17 i _ (by rw [hG]))
              show F T640 (mkF m 641 #[.val (.long q1), .second, .val (.int p2), .val (.int p3), .val (.int p4), .val (.int p5), .val (.int p6), .val (.long u), .second, .val (.int nv), .val (.int ng), .val (.int fv), .val (.int rf), .val (.int qv), .val (.int cv), .val (.int pv), .val (.int cd), .val (.int rp), .val (.int sv), .val (.int tv), .unset, .unset, .unset, .unset, .unset] [(.ref b165)])
              refine hst (fun t₀ k₀ => XS.dup X640.here hx rfl (hb hby at_641) rfl rfl k₀) ?_
              show F T640 (mkF m 642 #[.val (.long q1), .second, .val (.int p2), .val (.int p3), .val (.int p4), .val (.int p5), .val (.int p6), .val (.long u), .second, .val (.int nv), .val (.int ng), .val (.int fv), .val (.int rf), .val (.int qv), .val (.int cv), .val (.int pv), .val (.int cd), .val (.int rp), .val (.int sv), .val (.int tv), .unset, .unset, .unset, .unset, .unset] [(.ref b165), (.ref b165)])
              refine hst (fun t₀ k₀ => XS.bipush X640.here hx rfl (hb hby at_642) k₀) ?_
              show F T640 (mkF m 644 #[.val (.long q1), .second, .val (.int p2), .val (.int p3), .val (.int p4), .val (.int p5), .val (.int p6), .val (.long u), .second, .val (.int nv), .val (.int ng), .val (.int fv), .val (.int rf), .val (.int qv), .val (.int cv), .val (.int pv), .val (.int cd), .val (.int rp), .val (.int sv), .val (.int tv), .unset, .unset, .unset, .unset, .unset] [(.int (18 : Int32)), (.ref b165), (.ref b165)])
              refine hst (fun t₀ k₀ => XS.bipush X640.here hx rfl (hb hby at_644) k₀) ?_
              show F T640 (mkF m 646 #[.val (.long q1), .second, .val (.int p2), .val (.int p3), .val (.int p4), .val (.int p5), .val (.int p6), .val (.long u), .second, .val (.int nv), .val (.int ng), .val (.int fv), .val (.int rf), .val (.int qv), .val (.int cv), .val (.int pv), .val (.int cd), .val (.int rp), .val (.int sv), .val (.int tv), .unset, .unset, .unset, .unset, .unset] [(.int (18 : Int32)), (.int (18 : Int32)), (.ref b165), (.ref b165)])
              refine hst (fun t₀ k₀ => XS.iload X640.here hx rfl (hb hby at_646) rfl k₀) ?_
              show F T640 (mkF m 648 #[.val (.long q1), .second, .val (.int p2), .val (.int p3), .val (.int p4), .val (.int p5), .val (.int p6), .val (.long u), .second, .val (.int nv), .val (.int ng), .val (.int fv), .val (.int rf), .val (.int qv), .val (.int cv), .val (.int pv), .val (.int cd), .val (.int rp), .val (.int sv), .val (.int tv), .unset, .unset, .unset, .unset, .unset] [(.int fv), (.int (18 : Int32)), (.int (18 : Int32)), (.ref b165), (.ref b165)])
              refine hst (fun t₀ k₀ => XS.iload X640.here hx rfl (hb hby at_648) rfl k₀) ?_
              show F T640 (mkF m 650 #[.val (.long q1), .second, .val (.int p2), .val (.int p3), .val (.int p4), .val (.int p5), .val (.int p6), .val (.long u), .second, .val (.int nv), .val (.int ng), .val (.int fv), .val (.int rf), .val (.int qv), .val (.int cv), .val (.int pv), .val (.int cd), .val (.int rp), .val (.int sv), .val (.int tv), .unset, .unset, .unset, .unset, .unset] [(.int sv), (.int fv), (.int (18 : Int32)), (.int (18 : Int32)), (.ref b165), (.ref b165)])
              refine hst (fun t₀ k₀ => XS.iload X640.here hx rfl (hb hby at_650) rfl k₀) ?_
              show F T640 (mkF m 652 #[.val (.long q1), .second, .val (.int p2), .val (.int p3), .val (.int p4), .val (.int p5), .val (.int p6), .val (.long u), .second, .val (.int nv), .val (.int ng), .val (.int fv), .val (.int rf), .val (.int qv), .val (.int cv), .val (.int pv), .val (.int cd), .val (.int rp), .val (.int sv), .val (.int tv), .unset, .unset, .unset, .unset, .unset] [(.int tv), (.int sv), (.int fv), (.int (18 : Int32)), (.int (18 : Int32)), (.ref b165), (.ref b165)])
              refine hst (fun t₀ k₀ => XS.iload X640.here hx rfl (hb hby at_652) rfl k₀) ?_
              show F T640 (mkF m 654 #[.val (.long q1), .second, .val (.int p2), .val (.int p3), .val (.int p4), .val (.int p5), .val (.int p6), .val (.long u), .second, .val (.int nv), .val (.int ng), .val (.int fv), .val (.int rf), .val (.int qv), .val (.int cv), .val (.int pv), .val (.int cd), .val (.int rp), .val (.int sv), .val (.int tv), .unset, .unset, .unset, .unset, .unset] [(.int nv), (.int tv), (.int sv), (.int fv), (.int (18 : Int32)), (.int (18 : Int32)), (.ref b165), (.ref b165)])
              refine hst (fun t₀ k₀ => XS.lload X640.here hx rfl (hb hby at_654) rfl k₀) ?_
              show F T640 (mkF m 656 #[.val (.long q1), .second, .val (.int p2), .val (.int p3), .val (.int p4), .val (.int p5), .val (.int p6), .val (.long u), .second, .val (.int nv), .val (.int ng), .val (.int fv), .val (.int rf), .val (.int qv), .val (.int cv), .val (.int pv), .val (.int cd), .val (.int rp), .val (.int sv), .val (.int tv), .unset, .unset, .unset, .unset, .unset] [(.long u), (.int nv), (.int tv), (.int sv), (.int fv), (.int (18 : Int32)), (.int (18 : Int32)), (.ref b165), (.ref b165)])
              refine hst (fun t₀ k₀ => XS.iload X640.here hx rfl (hb hby at_656) rfl k₀) ?_
              show F T640 (mkF m 658 #[.val (.long q1), .second, .val (.int p2), .val (.int p3), .val (.int p4), .val (.int p5), .val (.int p6), .val (.long u), .second, .val (.int nv), .val (.int ng), .val (.int fv), .val (.int rf), .val (.int qv), .val (.int cv), .val (.int pv), .val (.int cd), .val (.int rp), .val (.int sv), .val (.int tv), .unset, .unset, .unset, .unset, .unset] [(.int qv), (.long u), (.int nv), (.int tv), (.int sv), (.int fv), (.int (18 : Int32)), (.int (18 : Int32)), (.ref b165), (.ref b165)])
              refine hst (fun t₀ k₀ => XS.iload X640.here hx rfl (hb hby at_658) rfl k₀) ?_
              show F T640 (mkF m 660 #[.val (.long q1), .second, .val (.int p2), .val (.int p3), .val (.int p4), .val (.int p5), .val (.int p6), .val (.long u), .second, .val (.int nv), .val (.int ng), .val (.int fv), .val (.int rf), .val (.int qv), .val (.int cv), .val (.int pv), .val (.int cd), .val (.int rp), .val (.int sv), .val (.int tv), .unset, .unset, .unset, .unset, .unset] [(.int cv), (.int qv), (.long u), (.int nv), (.int tv), (.int sv), (.int fv), (.int (18 : Int32)), (.int (18 : Int32)), (.ref b165), (.ref b165)])
              refine hst (fun t₀ k₀ => XS.iload X640.here hx rfl (hb hby at_660) rfl k₀) ?_
              show F T640 (mkF m 662 #[.val (.long q1), .second, .val (.int p2), .val (.int p3), .val (.int p4), .val (.int p5), .val (.int p6), .val (.long u), .second, .val (.int nv), .val (.int ng), .val (.int fv), .val (.int rf), .val (.int qv), .val (.int cv), .val (.int pv), .val (.int cd), .val (.int rp), .val (.int sv), .val (.int tv), .unset, .unset, .unset, .unset, .unset] [(.int rp), (.int cv), (.int qv), (.long u), (.int nv), (.int tv), (.int sv), (.int fv), (.int (18 : Int32)), (.int (18 : Int32)), (.ref b165), (.ref b165)])
              refine hst (fun t₀ k₀ => XS.iload X640.here hx rfl (hb hby at_662) rfl k₀) ?_
              show F T640 (mkF m 664 #[.val (.long q1), .second, .val (.int p2), .val (.int p3), .val (.int p4), .val (.int p5), .val (.int p6), .val (.long u), .second, .val (.int nv), .val (.int ng), .val (.int fv), .val (.int rf), .val (.int qv), .val (.int cv), .val (.int pv), .val (.int cd), .val (.int rp), .val (.int sv), .val (.int tv), .unset, .unset, .unset, .unset, .unset] [(.int pv), (.int rp), (.int cv), (.int qv), (.long u), (.int nv), (.int tv), (.int sv), (.int fv), (.int (18 : Int32)), (.int (18 : Int32)), (.ref b165), (.ref b165)])
              obtain ⟨v664, T664, Lc664, X664, hQ664, st664⟩ := own_callS X640 hx hZ hown (y := (⟨"com/example/leafline/leafline/table/IntegerValueParsePlainPinLaw", "cell", "(IIIIIJIBZB)B"⟩ : MethodName)) (hw _ (List.mem_of_getElem? (i := 3) rfl)) (hw _ (List.mem_of_getElem? (i := 4) rfl)) (hw _ (List.mem_of_getElem? (i := 5) rfl)) (hw _ (List.mem_of_getElem? (i := 6) rfl)) (by decide) e640 (rm1 l Z a0 hw [] (18 : Int32) fv sv tv nv u qv cv rp pv 18 f s' (s' + n) n U Q h640 n0 Z0_p640 (by decide) hf hs ktv hn hU hq rfl hn2 hs2) (by decide) (by decide) (g := (mkF m 664 #[.val (.long q1), .second, .val (.int p2), .val (.int p3), .val (.int p4), .val (.int p5), .val (.int p6), .val (.long u), .second, .val (.int nv), .val (.int ng), .val (.int fv), .val (.int rf), .val (.int qv), .val (.int cv), .val (.int pv), .val (.int cd), .val (.int rp), .val (.int sv), .val (.int tv), .unset, .unset, .unset, .unset, .unset] [(.int pv), (.int rp), (.int cv), (.int qv), (.long u), (.int nv), (.int tv), (.int sv), (.int fv), (.int (18 : Int32)), (.int (18 : Int32)), (.ref b165), (.ref b165)])) rfl (by rw [hml]; rfl) (argsL := [(.int (18 : Int32)), (.int fv), (.int sv), (.int tv), (.int nv), (.long u), (.int qv), (.int cv), (.int rp), (.int pv)]) (rest := [(.int (18 : Int32)), (.ref b165), (.ref b165)]) (lenOf pd_1 rfl) rfl rfl (W := 3) (by show 2 * 0 + _ ≤ _; exact Nat.le_of_eq rfl) (hb hby at_664) (by decide) (by decide)
              obtain ⟨rfl, Nq664, K664⟩ := hQ664
              have N664 := Fr.app N640 Nq664
              have A_b165_p664 : own_A Z T664.heap b165 .byte 22 (fun i => .int (own_pre G 18 i)) := A_b165_p640c.keep K664 (List.not_mem_nil)
              have Z0_p664 : n0 ≤ T664.heap.size := Nat.le_trans Z0_p640 K664.1
              refine hst st664 ?_
              show F T664 (mkF m 667 #[.val (.long q1), .second, .val (.int p2), .val (.int p3), .val (.int p4), .val (.int p5), .val (.int p6), .val (.long u), .second, .val (.int nv), .val (.int ng), .val (.int fv), .val (.int rf), .val (.int qv), .val (.int cv), .val (.int pv), .val (.int cd), .val (.int rp), .val (.int sv), .val (.int tv), .unset, .unset, .unset, .unset, .unset] [(.int (nar .byte (own_cellv 18 f s' (s' + n) n U Q cv rp pv))), (.int (18 : Int32)), (.ref b165), (.ref b165)])
              obtain ⟨T667, h667, X667, e667, W667, st667⟩ := own_bastore X664 hx hZ rfl A_b165_p664 (by decide) (g := (mkF m 667 #[.val (.long q1), .second, .val (.int p2), .val (.int p3), .val (.int p4), .val (.int p5), .val (.int p6), .val (.long u), .second, .val (.int nv), .val (.int ng), .val (.int fv), .val (.int rf), .val (.int qv), .val (.int cv), .val (.int pv), .val (.int cd), .val (.int rp), .val (.int sv), .val (.int tv), .unset, .unset, .unset, .unset, .unset] [(.int (nar .byte (own_cellv 18 f s' (s' + n) n U Q cv rp pv))), (.int (18 : Int32)), (.ref b165), (.ref b165)])) rfl rfl (hb hby at_667)
              have N667 := Fr.snoc X667 N664 ge_b165
              have A_b165_p667 : own_A Z h667 b165 .byte 22 (fun i => if i = Int32.toNatClampNeg (18 : Int32) then (.int (nar .byte (nar .byte (own_cellv 18 f s' (s' + n) n U Q cv rp pv)))) else (fun i => .int (own_pre G 18 i)) i) := A_b165_p664.set W667
              have Z0_p667 : n0 ≤ h667.size := Nat.le_trans Z0_p664 (Keep.of_wr W667).1
              refine hst st667 ?_
              have A_b165_p667c : own_A Z h667 b165 .byte 22 (fun i => .int (own_pre G 19 i)) := own_A.congr A_b165_p667 (fun i hi => by rw [show Int32.toNatClampNeg (18 : Int32) = 18 from rfl]; exact own_pre_step G 18 i _ (by rw [hG]))
              show F T667 (mkF m 668 #[.val (.long q1), .second, .val (.int p2), .val (.int p3), .val (.int p4), .val (.int p5), .val (.int p6), .val (.long u), .second, .val (.int nv), .val (.int ng), .val (.int fv), .val (.int rf), .val (.int qv), .val (.int cv), .val (.int pv), .val (.int cd), .val (.int rp), .val (.int sv), .val (.int tv), .unset, .unset, .unset, .unset, .unset] [(.ref b165)])
              refine hst (fun t₀ k₀ => XS.dup X667.here hx rfl (hb hby at_668) rfl rfl k₀) ?_
              show F T667 (mkF m 669 #[.val (.long q1), .second, .val (.int p2), .val (.int p3), .val (.int p4), .val (.int p5), .val (.int p6), .val (.long u), .second, .val (.int nv), .val (.int ng), .val (.int fv), .val (.int rf), .val (.int qv), .val (.int cv), .val (.int pv), .val (.int cd), .val (.int rp), .val (.int sv), .val (.int tv), .unset, .unset, .unset, .unset, .unset] [(.ref b165), (.ref b165)])
              refine hst (fun t₀ k₀ => XS.bipush X667.here hx rfl (hb hby at_669) k₀) ?_
              show F T667 (mkF m 671 #[.val (.long q1), .second, .val (.int p2), .val (.int p3), .val (.int p4), .val (.int p5), .val (.int p6), .val (.long u), .second, .val (.int nv), .val (.int ng), .val (.int fv), .val (.int rf), .val (.int qv), .val (.int cv), .val (.int pv), .val (.int cd), .val (.int rp), .val (.int sv), .val (.int tv), .unset, .unset, .unset, .unset, .unset] [(.int (19 : Int32)), (.ref b165), (.ref b165)])
              refine hst (fun t₀ k₀ => XS.bipush X667.here hx rfl (hb hby at_671) k₀) ?_
              show F T667 (mkF m 673 #[.val (.long q1), .second, .val (.int p2), .val (.int p3), .val (.int p4), .val (.int p5), .val (.int p6), .val (.long u), .second, .val (.int nv), .val (.int ng), .val (.int fv), .val (.int rf), .val (.int qv), .val (.int cv), .val (.int pv), .val (.int cd), .val (.int rp), .val (.int sv), .val (.int tv), .unset, .unset, .unset, .unset, .unset] [(.int (19 : Int32)), (.int (19 : Int32)), (.ref b165), (.ref b165)])
              refine hst (fun t₀ k₀ => XS.iload X667.here hx rfl (hb hby at_673) rfl k₀) ?_
              show F T667 (mkF m 675 #[.val (.long q1), .second, .val (.int p2), .val (.int p3), .val (.int p4), .val (.int p5), .val (.int p6), .val (.long u), .second, .val (.int nv), .val (.int ng), .val (.int fv), .val (.int rf), .val (.int qv), .val (.int cv), .val (.int pv), .val (.int cd), .val (.int rp), .val (.int sv), .val (.int tv), .unset, .unset, .unset, .unset, .unset] [(.int fv), (.int (19 : Int32)), (.int (19 : Int32)), (.ref b165), (.ref b165)])
              refine hst (fun t₀ k₀ => XS.iload X667.here hx rfl (hb hby at_675) rfl k₀) ?_
              show F T667 (mkF m 677 #[.val (.long q1), .second, .val (.int p2), .val (.int p3), .val (.int p4), .val (.int p5), .val (.int p6), .val (.long u), .second, .val (.int nv), .val (.int ng), .val (.int fv), .val (.int rf), .val (.int qv), .val (.int cv), .val (.int pv), .val (.int cd), .val (.int rp), .val (.int sv), .val (.int tv), .unset, .unset, .unset, .unset, .unset] [(.int sv), (.int fv), (.int (19 : Int32)), (.int (19 : Int32)), (.ref b165), (.ref b165)])
              refine hst (fun t₀ k₀ => XS.iload X667.here hx rfl (hb hby at_677) rfl k₀) ?_
              show F T667 (mkF m 679 #[.val (.long q1), .second, .val (.int p2), .val (.int p3), .val (.int p4), .val (.int p5), .val (.int p6), .val (.long u), .second, .val (.int nv), .val (.int ng), .val (.int fv), .val (.int rf), .val (.int qv), .val (.int cv), .val (.int pv), .val (.int cd), .val (.int rp), .val (.int sv), .val (.int tv), .unset, .unset, .unset, .unset, .unset] [(.int tv), (.int sv), (.int fv), (.int (19 : Int32)), (.int (19 : Int32)), (.ref b165), (.ref b165)])
              refine hst (fun t₀ k₀ => XS.iload X667.here hx rfl (hb hby at_679) rfl k₀) ?_
              show F T667 (mkF m 681 #[.val (.long q1), .second, .val (.int p2), .val (.int p3), .val (.int p4), .val (.int p5), .val (.int p6), .val (.long u), .second, .val (.int nv), .val (.int ng), .val (.int fv), .val (.int rf), .val (.int qv), .val (.int cv), .val (.int pv), .val (.int cd), .val (.int rp), .val (.int sv), .val (.int tv), .unset, .unset, .unset, .unset, .unset] [(.int nv), (.int tv), (.int sv), (.int fv), (.int (19 : Int32)), (.int (19 : Int32)), (.ref b165), (.ref b165)])
              refine hst (fun t₀ k₀ => XS.lload X667.here hx rfl (hb hby at_681) rfl k₀) ?_
              show F T667 (mkF m 683 #[.val (.long q1), .second, .val (.int p2), .val (.int p3), .val (.int p4), .val (.int p5), .val (.int p6), .val (.long u), .second, .val (.int nv), .val (.int ng), .val (.int fv), .val (.int rf), .val (.int qv), .val (.int cv), .val (.int pv), .val (.int cd), .val (.int rp), .val (.int sv), .val (.int tv), .unset, .unset, .unset, .unset, .unset] [(.long u), (.int nv), (.int tv), (.int sv), (.int fv), (.int (19 : Int32)), (.int (19 : Int32)), (.ref b165), (.ref b165)])
              refine hst (fun t₀ k₀ => XS.iload X667.here hx rfl (hb hby at_683) rfl k₀) ?_
              show F T667 (mkF m 685 #[.val (.long q1), .second, .val (.int p2), .val (.int p3), .val (.int p4), .val (.int p5), .val (.int p6), .val (.long u), .second, .val (.int nv), .val (.int ng), .val (.int fv), .val (.int rf), .val (.int qv), .val (.int cv), .val (.int pv), .val (.int cd), .val (.int rp), .val (.int sv), .val (.int tv), .unset, .unset, .unset, .unset, .unset] [(.int qv), (.long u), (.int nv), (.int tv), (.int sv), (.int fv), (.int (19 : Int32)), (.int (19 : Int32)), (.ref b165), (.ref b165)])
              refine hst (fun t₀ k₀ => XS.iload X667.here hx rfl (hb hby at_685) rfl k₀) ?_
              show F T667 (mkF m 687 #[.val (.long q1), .second, .val (.int p2), .val (.int p3), .val (.int p4), .val (.int p5), .val (.int p6), .val (.long u), .second, .val (.int nv), .val (.int ng), .val (.int fv), .val (.int rf), .val (.int qv), .val (.int cv), .val (.int pv), .val (.int cd), .val (.int rp), .val (.int sv), .val (.int tv), .unset, .unset, .unset, .unset, .unset] [(.int cv), (.int qv), (.long u), (.int nv), (.int tv), (.int sv), (.int fv), (.int (19 : Int32)), (.int (19 : Int32)), (.ref b165), (.ref b165)])
              refine hst (fun t₀ k₀ => XS.iload X667.here hx rfl (hb hby at_687) rfl k₀) ?_
              show F T667 (mkF m 689 #[.val (.long q1), .second, .val (.int p2), .val (.int p3), .val (.int p4), .val (.int p5), .val (.int p6), .val (.long u), .second, .val (.int nv), .val (.int ng), .val (.int fv), .val (.int rf), .val (.int qv), .val (.int cv), .val (.int pv), .val (.int cd), .val (.int rp), .val (.int sv), .val (.int tv), .unset, .unset, .unset, .unset, .unset] [(.int rp), (.int cv), (.int qv), (.long u), (.int nv), (.int tv), (.int sv), (.int fv), (.int (19 : Int32)), (.int (19 : Int32)), (.ref b165), (.ref b165)])
              refine hst (fun t₀ k₀ => XS.iload X667.here hx rfl (hb hby at_689) rfl k₀) ?_
              show F T667 (mkF m 691 #[.val (.long q1), .second, .val (.int p2), .val (.int p3), .val (.int p4), .val (.int p5), .val (.int p6), .val (.long u), .second, .val (.int nv), .val (.int ng), .val (.int fv), .val (.int rf), .val (.int qv), .val (.int cv), .val (.int pv), .val (.int cd), .val (.int rp), .val (.int sv), .val (.int tv), .unset, .unset, .unset, .unset, .unset] [(.int pv), (.int rp), (.int cv), (.int qv), (.long u), (.int nv), (.int tv), (.int sv), (.int fv), (.int (19 : Int32)), (.int (19 : Int32)), (.ref b165), (.ref b165)])
              obtain ⟨v691, T691, Lc691, X691, hQ691, st691⟩ := own_callS X667 hx hZ hown (y := (⟨"com/example/leafline/leafline/table/IntegerValueParsePlainPinLaw", "cell", "(IIIIIJIBZB)B"⟩ : MethodName)) (hw _ (List.mem_of_getElem? (i := 3) rfl)) (hw _ (List.mem_of_getElem? (i := 4) rfl)) (hw _ (List.mem_of_getElem? (i := 5) rfl)) (hw _ (List.mem_of_getElem? (i := 6) rfl)) (by decide) e667 (rm1 l Z a0 hw [] (19 : Int32) fv sv tv nv u qv cv rp pv 19 f s' (s' + n) n U Q h667 n0 Z0_p667 (by decide) hf hs ktv hn hU hq rfl hn2 hs2) (by decide) (by decide) (g := (mkF m 691 #[.val (.long q1), .second, .val (.int p2), .val (.int p3), .val (.int p4), .val (.int p5), .val (.int p6), .val (.long u), .second, .val (.int nv), .val (.int ng), .val (.int fv), .val (.int rf), .val (.int qv), .val (.int cv), .val (.int pv), .val (.int cd), .val (.int rp), .val (.int sv), .val (.int tv), .unset, .unset, .unset, .unset, .unset] [(.int pv), (.int rp), (.int cv), (.int qv), (.long u), (.int nv), (.int tv), (.int sv), (.int fv), (.int (19 : Int32)), (.int (19 : Int32)), (.ref b165), (.ref b165)])) rfl (by rw [hml]; rfl) (argsL := [(.int (19 : Int32)), (.int fv), (.int sv), (.int tv), (.int nv), (.long u), (.int qv), (.int cv), (.int rp), (.int pv)]) (rest := [(.int (19 : Int32)), (.ref b165), (.ref b165)]) (lenOf pd_1 rfl) rfl rfl (W := 3) (by show 2 * 0 + _ ≤ _; exact Nat.le_of_eq rfl) (hb hby at_691) (by decide) (by decide)
              obtain ⟨rfl, Nq691, K691⟩ := hQ691
              have N691 := Fr.app N667 Nq691
              have A_b165_p691 : own_A Z T691.heap b165 .byte 22 (fun i => .int (own_pre G 19 i)) := A_b165_p667c.keep K691 (List.not_mem_nil)
              have Z0_p691 : n0 ≤ T691.heap.size := Nat.le_trans Z0_p667 K691.1
              refine hst st691 ?_
              show F T691 (mkF m 694 #[.val (.long q1), .second, .val (.int p2), .val (.int p3), .val (.int p4), .val (.int p5), .val (.int p6), .val (.long u), .second, .val (.int nv), .val (.int ng), .val (.int fv), .val (.int rf), .val (.int qv), .val (.int cv), .val (.int pv), .val (.int cd), .val (.int rp), .val (.int sv), .val (.int tv), .unset, .unset, .unset, .unset, .unset] [(.int (nar .byte (own_cellv 19 f s' (s' + n) n U Q cv rp pv))), (.int (19 : Int32)), (.ref b165), (.ref b165)])
              obtain ⟨T694, h694, X694, e694, W694, st694⟩ := own_bastore X691 hx hZ rfl A_b165_p691 (by decide) (g := (mkF m 694 #[.val (.long q1), .second, .val (.int p2), .val (.int p3), .val (.int p4), .val (.int p5), .val (.int p6), .val (.long u), .second, .val (.int nv), .val (.int ng), .val (.int fv), .val (.int rf), .val (.int qv), .val (.int cv), .val (.int pv), .val (.int cd), .val (.int rp), .val (.int sv), .val (.int tv), .unset, .unset, .unset, .unset, .unset] [(.int (nar .byte (own_cellv 19 f s' (s' + n) n U Q cv rp pv))), (.int (19 : Int32)), (.ref b165), (.ref b165)])) rfl rfl (hb hby at_694)
              have N694 := Fr.snoc X694 N691 ge_b165
              have A_b165_p694 : own_A Z h694 b165 .byte 22 (fun i => if i = Int32.toNatClampNeg (19 : Int32) then (.int (nar .byte (nar .byte (own_cellv 19 f s' (s' + n) n U Q cv rp pv)))) else (fun i => .int (own_pre G 19 i)) i) := A_b165_p691.set W694
              have Z0_p694 : n0 ≤ h694.size := Nat.le_trans Z0_p691 (Keep.of_wr W694).1
              refine hst st694 ?_
              have A_b165_p694c : own_A Z h694 b165 .byte 22 (fun i => .int (own_pre G 20 i)) := own_A.congr A_b165_p694 (fun i hi => by rw [show Int32.toNatClampNeg (19 : Int32) = 19 from rfl]; exact own_pre_step G 19 i _ (by rw [hG]))
              show F T694 (mkF m 695 #[.val (.long q1), .second, .val (.int p2), .val (.int p3), .val (.int p4), .val (.int p5), .val (.int p6), .val (.long u), .second, .val (.int nv), .val (.int ng), .val (.int fv), .val (.int rf), .val (.int qv), .val (.int cv), .val (.int pv), .val (.int cd), .val (.int rp), .val (.int sv), .val (.int tv), .unset, .unset, .unset, .unset, .unset] [(.ref b165)])
              refine hst (fun t₀ k₀ => XS.dup X694.here hx rfl (hb hby at_695) rfl rfl k₀) ?_
              show F T694 (mkF m 696 #[.val (.long q1), .second, .val (.int p2), .val (.int p3), .val (.int p4), .val (.int p5), .val (.int p6), .val (.long u), .second, .val (.int nv), .val (.int ng), .val (.int fv), .val (.int rf), .val (.int qv), .val (.int cv), .val (.int pv), .val (.int cd), .val (.int rp), .val (.int sv), .val (.int tv), .unset, .unset, .unset, .unset, .unset] [(.ref b165), (.ref b165)])
              refine hst (fun t₀ k₀ => XS.bipush X694.here hx rfl (hb hby at_696) k₀) ?_
              show F T694 (mkF m 698 #[.val (.long q1), .second, .val (.int p2), .val (.int p3), .val (.int p4), .val (.int p5), .val (.int p6), .val (.long u), .second, .val (.int nv), .val (.int ng), .val (.int fv), .val (.int rf), .val (.int qv), .val (.int cv), .val (.int pv), .val (.int cd), .val (.int rp), .val (.int sv), .val (.int tv), .unset, .unset, .unset, .unset, .unset] [(.int (20 : Int32)), (.ref b165), (.ref b165)])
              refine hst (fun t₀ k₀ => XS.bipush X694.here hx rfl (hb hby at_698) k₀) ?_
              show F T694 (mkF m 700 #[.val (.long q1), .second, .val (.int p2), .val (.int p3), .val (.int p4), .val (.int p5), .val (.int p6), .val (.long u), .second, .val (.int nv), .val (.int ng), .val (.int fv), .val (.int rf), .val (.int qv), .val (.int cv), .val (.int pv), .val (.int cd), .val (.int rp), .val (.int sv), .val (.int tv), .unset, .unset, .unset, .unset, .unset] [(.int (20 : Int32)), (.int (20 : Int32)), (.ref b165), (.ref b165)])
              refine hst (fun t₀ k₀ => XS.iload X694.here hx rfl (hb hby at_700) rfl k₀) ?_
              show F T694 (mkF m 702 #[.val (.long q1), .second, .val (.int p2), .val (.int p3), .val (.int p4), .val (.int p5), .val (.int p6), .val (.long u), .second, .val (.int nv), .val (.int ng), .val (.int fv), .val (.int rf), .val (.int qv), .val (.int cv), .val (.int pv), .val (.int cd), .val (.int rp), .val (.int sv), .val (.int tv), .unset, .unset, .unset, .unset, .unset] [(.int fv), (.int (20 : Int32)), (.int (20 : Int32)), (.ref b165), (.ref b165)])
              refine hst (fun t₀ k₀ => XS.iload X694.here hx rfl (hb hby at_702) rfl k₀) ?_
              show F T694 (mkF m 704 #[.val (.long q1), .second, .val (.int p2), .val (.int p3), .val (.int p4), .val (.int p5), .val (.int p6), .val (.long u), .second, .val (.int nv), .val (.int ng), .val (.int fv), .val (.int rf), .val (.int qv), .val (.int cv), .val (.int pv), .val (.int cd), .val (.int rp), .val (.int sv), .val (.int tv), .unset, .unset, .unset, .unset, .unset] [(.int sv), (.int fv), (.int (20 : Int32)), (.int (20 : Int32)), (.ref b165), (.ref b165)])
              refine hst (fun t₀ k₀ => XS.iload X694.here hx rfl (hb hby at_704) rfl k₀) ?_
              show F T694 (mkF m 706 #[.val (.long q1), .second, .val (.int p2), .val (.int p3), .val (.int p4), .val (.int p5), .val (.int p6), .val (.long u), .second, .val (.int nv), .val (.int ng), .val (.int fv), .val (.int rf), .val (.int qv), .val (.int cv), .val (.int pv), .val (.int cd), .val (.int rp), .val (.int sv), .val (.int tv), .unset, .unset, .unset, .unset, .unset] [(.int tv), (.int sv), (.int fv), (.int (20 : Int32)), (.int (20 : Int32)), (.ref b165), (.ref b165)])
              refine hst (fun t₀ k₀ => XS.iload X694.here hx rfl (hb hby at_706) rfl k₀) ?_
              show F T694 (mkF m 708 #[.val (.long q1), .second, .val (.int p2), .val (.int p3), .val (.int p4), .val (.int p5), .val (.int p6), .val (.long u), .second, .val (.int nv), .val (.int ng), .val (.int fv), .val (.int rf), .val (.int qv), .val (.int cv), .val (.int pv), .val (.int cd), .val (.int rp), .val (.int sv), .val (.int tv), .unset, .unset, .unset, .unset, .unset] [(.int nv), (.int tv), (.int sv), (.int fv), (.int (20 : Int32)), (.int (20 : Int32)), (.ref b165), (.ref b165)])
              refine hst (fun t₀ k₀ => XS.lload X694.here hx rfl (hb hby at_708) rfl k₀) ?_
              show F T694 (mkF m 710 #[.val (.long q1), .second, .val (.int p2), .val (.int p3), .val (.int p4), .val (.int p5), .val (.int p6), .val (.long u), .second, .val (.int nv), .val (.int ng), .val (.int fv), .val (.int rf), .val (.int qv), .val (.int cv), .val (.int pv), .val (.int cd), .val (.int rp), .val (.int sv), .val (.int tv), .unset, .unset, .unset, .unset, .unset] [(.long u), (.int nv), (.int tv), (.int sv), (.int fv), (.int (20 : Int32)), (.int (20 : Int32)), (.ref b165), (.ref b165)])
              refine hst (fun t₀ k₀ => XS.iload X694.here hx rfl (hb hby at_710) rfl k₀) ?_
              show F T694 (mkF m 712 #[.val (.long q1), .second, .val (.int p2), .val (.int p3), .val (.int p4), .val (.int p5), .val (.int p6), .val (.long u), .second, .val (.int nv), .val (.int ng), .val (.int fv), .val (.int rf), .val (.int qv), .val (.int cv), .val (.int pv), .val (.int cd), .val (.int rp), .val (.int sv), .val (.int tv), .unset, .unset, .unset, .unset, .unset] [(.int qv), (.long u), (.int nv), (.int tv), (.int sv), (.int fv), (.int (20 : Int32)), (.int (20 : Int32)), (.ref b165), (.ref b165)])
              refine hst (fun t₀ k₀ => XS.iload X694.here hx rfl (hb hby at_712) rfl k₀) ?_
              show F T694 (mkF m 714 #[.val (.long q1), .second, .val (.int p2), .val (.int p3), .val (.int p4), .val (.int p5), .val (.int p6), .val (.long u), .second, .val (.int nv), .val (.int ng), .val (.int fv), .val (.int rf), .val (.int qv), .val (.int cv), .val (.int pv), .val (.int cd), .val (.int rp), .val (.int sv), .val (.int tv), .unset, .unset, .unset, .unset, .unset] [(.int cv), (.int qv), (.long u), (.int nv), (.int tv), (.int sv), (.int fv), (.int (20 : Int32)), (.int (20 : Int32)), (.ref b165), (.ref b165)])
              refine hst (fun t₀ k₀ => XS.iload X694.here hx rfl (hb hby at_714) rfl k₀) ?_
              show F T694 (mkF m 716 #[.val (.long q1), .second, .val (.int p2), .val (.int p3), .val (.int p4), .val (.int p5), .val (.int p6), .val (.long u), .second, .val (.int nv), .val (.int ng), .val (.int fv), .val (.int rf), .val (.int qv), .val (.int cv), .val (.int pv), .val (.int cd), .val (.int rp), .val (.int sv), .val (.int tv), .unset, .unset, .unset, .unset, .unset] [(.int rp), (.int cv), (.int qv), (.long u), (.int nv), (.int tv), (.int sv), (.int fv), (.int (20 : Int32)), (.int (20 : Int32)), (.ref b165), (.ref b165)])
              refine hst (fun t₀ k₀ => XS.iload X694.here hx rfl (hb hby at_716) rfl k₀) ?_
              show F T694 (mkF m 718 #[.val (.long q1), .second, .val (.int p2), .val (.int p3), .val (.int p4), .val (.int p5), .val (.int p6), .val (.long u), .second, .val (.int nv), .val (.int ng), .val (.int fv), .val (.int rf), .val (.int qv), .val (.int cv), .val (.int pv), .val (.int cd), .val (.int rp), .val (.int sv), .val (.int tv), .unset, .unset, .unset, .unset, .unset] [(.int pv), (.int rp), (.int cv), (.int qv), (.long u), (.int nv), (.int tv), (.int sv), (.int fv), (.int (20 : Int32)), (.int (20 : Int32)), (.ref b165), (.ref b165)])
              obtain ⟨v718, T718, Lc718, X718, hQ718, st718⟩ := own_callS X694 hx hZ hown (y := (⟨"com/example/leafline/leafline/table/IntegerValueParsePlainPinLaw", "cell", "(IIIIIJIBZB)B"⟩ : MethodName)) (hw _ (List.mem_of_getElem? (i := 3) rfl)) (hw _ (List.mem_of_getElem? (i := 4) rfl)) (hw _ (List.mem_of_getElem? (i := 5) rfl)) (hw _ (List.mem_of_getElem? (i := 6) rfl)) (by decide) e694 (rm1 l Z a0 hw [] (20 : Int32) fv sv tv nv u qv cv rp pv 20 f s' (s' + n) n U Q h694 n0 Z0_p694 (by decide) hf hs ktv hn hU hq rfl hn2 hs2) (by decide) (by decide) (g := (mkF m 718 #[.val (.long q1), .second, .val (.int p2), .val (.int p3), .val (.int p4), .val (.int p5), .val (.int p6), .val (.long u), .second, .val (.int nv), .val (.int ng), .val (.int fv), .val (.int rf), .val (.int qv), .val (.int cv), .val (.int pv), .val (.int cd), .val (.int rp), .val (.int sv), .val (.int tv), .unset, .unset, .unset, .unset, .unset] [(.int pv), (.int rp), (.int cv), (.int qv), (.long u), (.int nv), (.int tv), (.int sv), (.int fv), (.int (20 : Int32)), (.int (20 : Int32)), (.ref b165), (.ref b165)])) rfl (by rw [hml]; rfl) (argsL := [(.int (20 : Int32)), (.int fv), (.int sv), (.int tv), (.int nv), (.long u), (.int qv), (.int cv), (.int rp), (.int pv)]) (rest := [(.int (20 : Int32)), (.ref b165), (.ref b165)]) (lenOf pd_1 rfl) rfl rfl (W := 3) (by show 2 * 0 + _ ≤ _; exact Nat.le_of_eq rfl) (hb hby at_718) (by decide) (by decide)
              obtain ⟨rfl, Nq718, K718⟩ := hQ718
              have N718 := Fr.app N694 Nq718
              have A_b165_p718 : own_A Z T718.heap b165 .byte 22 (fun i => .int (own_pre G 20 i)) := A_b165_p694c.keep K718 (List.not_mem_nil)
              have Z0_p718 : n0 ≤ T718.heap.size := Nat.le_trans Z0_p694 K718.1
              refine hst st718 ?_
              show F T718 (mkF m 721 #[.val (.long q1), .second, .val (.int p2), .val (.int p3), .val (.int p4), .val (.int p5), .val (.int p6), .val (.long u), .second, .val (.int nv), .val (.int ng), .val (.int fv), .val (.int rf), .val (.int qv), .val (.int cv), .val (.int pv), .val (.int cd), .val (.int rp), .val (.int sv), .val (.int tv), .unset, .unset, .unset, .unset, .unset] [(.int (nar .byte (own_cellv 20 f s' (s' + n) n U Q cv rp pv))), (.int (20 : Int32)), (.ref b165), (.ref b165)])
              obtain ⟨T721, h721, X721, e721, W721, st721⟩ := own_bastore X718 hx hZ rfl A_b165_p718 (by decide) (g := (mkF m 721 #[.val (.long q1), .second, .val (.int p2), .val (.int p3), .val (.int p4), .val (.int p5), .val (.int p6), .val (.long u), .second, .val (.int nv), .val (.int ng), .val (.int fv), .val (.int rf), .val (.int qv), .val (.int cv), .val (.int pv), .val (.int cd), .val (.int rp), .val (.int sv), .val (.int tv), .unset, .unset, .unset, .unset, .unset] [(.int (nar .byte (own_cellv 20 f s' (s' + n) n U Q cv rp pv))), (.int (20 : Int32)), (.ref b165), (.ref b165)])) rfl rfl (hb hby at_721)
              have N721 := Fr.snoc X721 N718 ge_b165
              have A_b165_p721 : own_A Z h721 b165 .byte 22 (fun i => if i = Int32.toNatClampNeg (20 : Int32) then (.int (nar .byte (nar .byte (own_cellv 20 f s' (s' + n) n U Q cv rp pv)))) else (fun i => .int (own_pre G 20 i)) i) := A_b165_p718.set W721
              have Z0_p721 : n0 ≤ h721.size := Nat.le_trans Z0_p718 (Keep.of_wr W721).1
              refine hst st721 ?_
              have A_b165_p721c : own_A Z h721 b165 .byte 22 (fun i => .int (own_pre G 21 i)) := own_A.congr A_b165_p721 (fun i hi => by rw [show Int32.toNatClampNeg (20 : Int32) = 20 from rfl]; exact own_pre_step G 20 i _ (by rw [hG]))
              show F T721 (mkF m 722 #[.val (.long q1), .second, .val (.int p2), .val (.int p3), .val (.int p4), .val (.int p5), .val (.int p6), .val (.long u), .second, .val (.int nv), .val (.int ng), .val (.int fv), .val (.int rf), .val (.int qv), .val (.int cv), .val (.int pv), .val (.int cd), .val (.int rp), .val (.int sv), .val (.int tv), .unset, .unset, .unset, .unset, .unset] [(.ref b165)])
              refine hst (fun t₀ k₀ => XS.dup X721.here hx rfl (hb hby at_722) rfl rfl k₀) ?_
              show F T721 (mkF m 723 #[.val (.long q1), .second, .val (.int p2), .val (.int p3), .val (.int p4), .val (.int p5), .val (.int p6), .val (.long u), .second, .val (.int nv), .val (.int ng), .val (.int fv), .val (.int rf), .val (.int qv), .val (.int cv), .val (.int pv), .val (.int cd), .val (.int rp), .val (.int sv), .val (.int tv), .unset, .unset, .unset, .unset, .unset] [(.ref b165), (.ref b165)])
              refine hst (fun t₀ k₀ => XS.bipush X721.here hx rfl (hb hby at_723) k₀) ?_
              show F T721 (mkF m 725 #[.val (.long q1), .second, .val (.int p2), .val (.int p3), .val (.int p4), .val (.int p5), .val (.int p6), .val (.long u), .second, .val (.int nv), .val (.int ng), .val (.int fv), .val (.int rf), .val (.int qv), .val (.int cv), .val (.int pv), .val (.int cd), .val (.int rp), .val (.int sv), .val (.int tv), .unset, .unset, .unset, .unset, .unset] [(.int (21 : Int32)), (.ref b165), (.ref b165)])
              refine hst (fun t₀ k₀ => XS.bipush X721.here hx rfl (hb hby at_725) k₀) ?_
              show F T721 (mkF m 727 #[.val (.long q1), .second, .val (.int p2), .val (.int p3), .val (.int p4), .val (.int p5), .val (.int p6), .val (.long u), .second, .val (.int nv), .val (.int ng), .val (.int fv), .val (.int rf), .val (.int qv), .val (.int cv), .val (.int pv), .val (.int cd), .val (.int rp), .val (.int sv), .val (.int tv), .unset, .unset, .unset, .unset, .unset] [(.int (21 : Int32)), (.int (21 : Int32)), (.ref b165), (.ref b165)])
              refine hst (fun t₀ k₀ => XS.iload X721.here hx rfl (hb hby at_727) rfl k₀) ?_
              show F T721 (mkF m 729 #[.val (.long q1), .second, .val (.int p2), .val (.int p3), .val (.int p4), .val (.int p5), .val (.int p6), .val (.long u), .second, .val (.int nv), .val (.int ng), .val (.int fv), .val (.int rf), .val (.int qv), .val (.int cv), .val (.int pv), .val (.int cd), .val (.int rp), .val (.int sv), .val (.int tv), .unset, .unset, .unset, .unset, .unset] [(.int fv), (.int (21 : Int32)), (.int (21 : Int32)), (.ref b165), (.ref b165)])
              refine hst (fun t₀ k₀ => XS.iload X721.here hx rfl (hb hby at_729) rfl k₀) ?_
              show F T721 (mkF m 731 #[.val (.long q1), .second, .val (.int p2), .val (.int p3), .val (.int p4), .val (.int p5), .val (.int p6), .val (.long u), .second, .val (.int nv), .val (.int ng), .val (.int fv), .val (.int rf), .val (.int qv), .val (.int cv), .val (.int pv), .val (.int cd), .val (.int rp), .val (.int sv), .val (.int tv), .unset, .unset, .unset, .unset, .unset] [(.int sv), (.int fv), (.int (21 : Int32)), (.int (21 : Int32)), (.ref b165), (.ref b165)])
              refine hst (fun t₀ k₀ => XS.iload X721.here hx rfl (hb hby at_731) rfl k₀) ?_
              show F T721 (mkF m 733 #[.val (.long q1), .second, .val (.int p2), .val (.int p3), .val (.int p4), .val (.int p5), .val (.int p6), .val (.long u), .second, .val (.int nv), .val (.int ng), .val (.int fv), .val (.int rf), .val (.int qv), .val (.int cv), .val (.int pv), .val (.int cd), .val (.int rp), .val (.int sv), .val (.int tv), .unset, .unset, .unset, .unset, .unset] [(.int tv), (.int sv), (.int fv), (.int (21 : Int32)), (.int (21 : Int32)), (.ref b165), (.ref b165)])
              refine hst (fun t₀ k₀ => XS.iload X721.here hx rfl (hb hby at_733) rfl k₀) ?_
              show F T721 (mkF m 735 #[.val (.long q1), .second, .val (.int p2), .val (.int p3), .val (.int p4), .val (.int p5), .val (.int p6), .val (.long u), .second, .val (.int nv), .val (.int ng), .val (.int fv), .val (.int rf), .val (.int qv), .val (.int cv), .val (.int pv), .val (.int cd), .val (.int rp), .val (.int sv), .val (.int tv), .unset, .unset, .unset, .unset, .unset] [(.int nv), (.int tv), (.int sv), (.int fv), (.int (21 : Int32)), (.int (21 : Int32)), (.ref b165), (.ref b165)])
              refine hst (fun t₀ k₀ => XS.lload X721.here hx rfl (hb hby at_735) rfl k₀) ?_
              show F T721 (mkF m 737 #[.val (.long q1), .second, .val (.int p2), .val (.int p3), .val (.int p4), .val (.int p5), .val (.int p6), .val (.long u), .second, .val (.int nv), .val (.int ng), .val (.int fv), .val (.int rf), .val (.int qv), .val (.int cv), .val (.int pv), .val (.int cd), .val (.int rp), .val (.int sv), .val (.int tv), .unset, .unset, .unset, .unset, .unset] [(.long u), (.int nv), (.int tv), (.int sv), (.int fv), (.int (21 : Int32)), (.int (21 : Int32)), (.ref b165), (.ref b165)])
              refine hst (fun t₀ k₀ => XS.iload X721.here hx rfl (hb hby at_737) rfl k₀) ?_
              show F T721 (mkF m 739 #[.val (.long q1), .second, .val (.int p2), .val (.int p3), .val (.int p4), .val (.int p5), .val (.int p6), .val (.long u), .second, .val (.int nv), .val (.int ng), .val (.int fv), .val (.int rf), .val (.int qv), .val (.int cv), .val (.int pv), .val (.int cd), .val (.int rp), .val (.int sv), .val (.int tv), .unset, .unset, .unset, .unset, .unset] [(.int qv), (.long u), (.int nv), (.int tv), (.int sv), (.int fv), (.int (21 : Int32)), (.int (21 : Int32)), (.ref b165), (.ref b165)])
              refine hst (fun t₀ k₀ => XS.iload X721.here hx rfl (hb hby at_739) rfl k₀) ?_
              show F T721 (mkF m 741 #[.val (.long q1), .second, .val (.int p2), .val (.int p3), .val (.int p4), .val (.int p5), .val (.int p6), .val (.long u), .second, .val (.int nv), .val (.int ng), .val (.int fv), .val (.int rf), .val (.int qv), .val (.int cv), .val (.int pv), .val (.int cd), .val (.int rp), .val (.int sv), .val (.int tv), .unset, .unset, .unset, .unset, .unset] [(.int cv), (.int qv), (.long u), (.int nv), (.int tv), (.int sv), (.int fv), (.int (21 : Int32)), (.int (21 : Int32)), (.ref b165), (.ref b165)])
              refine hst (fun t₀ k₀ => XS.iload X721.here hx rfl (hb hby at_741) rfl k₀) ?_
              show F T721 (mkF m 743 #[.val (.long q1), .second, .val (.int p2), .val (.int p3), .val (.int p4), .val (.int p5), .val (.int p6), .val (.long u), .second, .val (.int nv), .val (.int ng), .val (.int fv), .val (.int rf), .val (.int qv), .val (.int cv), .val (.int pv), .val (.int cd), .val (.int rp), .val (.int sv), .val (.int tv), .unset, .unset, .unset, .unset, .unset] [(.int rp), (.int cv), (.int qv), (.long u), (.int nv), (.int tv), (.int sv), (.int fv), (.int (21 : Int32)), (.int (21 : Int32)), (.ref b165), (.ref b165)])
              refine hst (fun t₀ k₀ => XS.iload X721.here hx rfl (hb hby at_743) rfl k₀) ?_
              show F T721 (mkF m 745 #[.val (.long q1), .second, .val (.int p2), .val (.int p3), .val (.int p4), .val (.int p5), .val (.int p6), .val (.long u), .second, .val (.int nv), .val (.int ng), .val (.int fv), .val (.int rf), .val (.int qv), .val (.int cv), .val (.int pv), .val (.int cd), .val (.int rp), .val (.int sv), .val (.int tv), .unset, .unset, .unset, .unset, .unset] [(.int pv), (.int rp), (.int cv), (.int qv), (.long u), (.int nv), (.int tv), (.int sv), (.int fv), (.int (21 : Int32)), (.int (21 : Int32)), (.ref b165), (.ref b165)])
              obtain ⟨v745, T745, Lc745, X745, hQ745, st745⟩ := own_callS X721 hx hZ hown (y := (⟨"com/example/leafline/leafline/table/IntegerValueParsePlainPinLaw", "cell", "(IIIIIJIBZB)B"⟩ : MethodName)) (hw _ (List.mem_of_getElem? (i := 3) rfl)) (hw _ (List.mem_of_getElem? (i := 4) rfl)) (hw _ (List.mem_of_getElem? (i := 5) rfl)) (hw _ (List.mem_of_getElem? (i := 6) rfl)) (by decide) e721 (rm1 l Z a0 hw [] (21 : Int32) fv sv tv nv u qv cv rp pv 21 f s' (s' + n) n U Q h721 n0 Z0_p721 (by decide) hf hs ktv hn hU hq rfl hn2 hs2) (by decide) (by decide) (g := (mkF m 745 #[.val (.long q1), .second, .val (.int p2), .val (.int p3), .val (.int p4), .val (.int p5), .val (.int p6), .val (.long u), .second, .val (.int nv), .val (.int ng), .val (.int fv), .val (.int rf), .val (.int qv), .val (.int cv), .val (.int pv), .val (.int cd), .val (.int rp), .val (.int sv), .val (.int tv), .unset, .unset, .unset, .unset, .unset] [(.int pv), (.int rp), (.int cv), (.int qv), (.long u), (.int nv), (.int tv), (.int sv), (.int fv), (.int (21 : Int32)), (.int (21 : Int32)), (.ref b165), (.ref b165)])) rfl (by rw [hml]; rfl) (argsL := [(.int (21 : Int32)), (.int fv), (.int sv), (.int tv), (.int nv), (.long u), (.int qv), (.int cv), (.int rp), (.int pv)]) (rest := [(.int (21 : Int32)), (.ref b165), (.ref b165)]) (lenOf pd_1 rfl) rfl rfl (W := 3) (by show 2 * 0 + _ ≤ _; exact Nat.le_of_eq rfl) (hb hby at_745) (by decide) (by decide)
              obtain ⟨rfl, Nq745, K745⟩ := hQ745
              have N745 := Fr.app N721 Nq745
              have A_b165_p745 : own_A Z T745.heap b165 .byte 22 (fun i => .int (own_pre G 21 i)) := A_b165_p721c.keep K745 (List.not_mem_nil)
              have Z0_p745 : n0 ≤ T745.heap.size := Nat.le_trans Z0_p721 K745.1
              refine hst st745 ?_
              show F T745 (mkF m 748 #[.val (.long q1), .second, .val (.int p2), .val (.int p3), .val (.int p4), .val (.int p5), .val (.int p6), .val (.long u), .second, .val (.int nv), .val (.int ng), .val (.int fv), .val (.int rf), .val (.int qv), .val (.int cv), .val (.int pv), .val (.int cd), .val (.int rp), .val (.int sv), .val (.int tv), .unset, .unset, .unset, .unset, .unset] [(.int (nar .byte (own_cellv 21 f s' (s' + n) n U Q cv rp pv))), (.int (21 : Int32)), (.ref b165), (.ref b165)])
              obtain ⟨T748, h748, X748, e748, W748, st748⟩ := own_bastore X745 hx hZ rfl A_b165_p745 (by decide) (g := (mkF m 748 #[.val (.long q1), .second, .val (.int p2), .val (.int p3), .val (.int p4), .val (.int p5), .val (.int p6), .val (.long u), .second, .val (.int nv), .val (.int ng), .val (.int fv), .val (.int rf), .val (.int qv), .val (.int cv), .val (.int pv), .val (.int cd), .val (.int rp), .val (.int sv), .val (.int tv), .unset, .unset, .unset, .unset, .unset] [(.int (nar .byte (own_cellv 21 f s' (s' + n) n U Q cv rp pv))), (.int (21 : Int32)), (.ref b165), (.ref b165)])) rfl rfl (hb hby at_748)
              have N748 := Fr.snoc X748 N745 ge_b165
              have A_b165_p748 : own_A Z h748 b165 .byte 22 (fun i => if i = Int32.toNatClampNeg (21 : Int32) then (.int (nar .byte (nar .byte (own_cellv 21 f s' (s' + n) n U Q cv rp pv)))) else (fun i => .int (own_pre G 21 i)) i) := A_b165_p745.set W748
              have Z0_p748 : n0 ≤ h748.size := Nat.le_trans Z0_p745 (Keep.of_wr W748).1
              refine hst st748 ?_
              have A_b165_p748c : own_A Z h748 b165 .byte 22 (fun i => .int (own_pre G 22 i)) := own_A.congr A_b165_p748 (fun i hi => by rw [show Int32.toNatClampNeg (21 : Int32) = 21 from rfl]; exact own_pre_step G 21 i _ (by rw [hG]))
              show F T748 (mkF m 749 #[.val (.long q1), .second, .val (.int p2), .val (.int p3), .val (.int p4), .val (.int p5), .val (.int p6), .val (.long u), .second, .val (.int nv), .val (.int ng), .val (.int fv), .val (.int rf), .val (.int qv), .val (.int cv), .val (.int pv), .val (.int cd), .val (.int rp), .val (.int sv), .val (.int tv), .unset, .unset, .unset, .unset, .unset] [(.ref b165)])
              refine hst (fun t₀ k₀ => XS.astore X748.here hx rfl (hb hby at_749) rfl rfl (l' := #[.val (.long q1), .second, .val (.int p2), .val (.int p3), .val (.int p4), .val (.int p5), .val (.int p6), .val (.long u), .second, .val (.int nv), .val (.int ng), .val (.int fv), .val (.int rf), .val (.int qv), .val (.int cv), .val (.int pv), .val (.int cd), .val (.int rp), .val (.int sv), .val (.int tv), .val (.ref b165), .unset, .unset, .unset, .unset]) rfl k₀) ?_
              show F T748 (mkF m 751 #[.val (.long q1), .second, .val (.int p2), .val (.int p3), .val (.int p4), .val (.int p5), .val (.int p6), .val (.long u), .second, .val (.int nv), .val (.int ng), .val (.int fv), .val (.int rf), .val (.int qv), .val (.int cv), .val (.int pv), .val (.int cd), .val (.int rp), .val (.int sv), .val (.int tv), .val (.ref b165), .unset, .unset, .unset, .unset] [])
              have hlaw := own_law (own_pre G 22) f s' n U Q cv rp pv ng (own_G f s' n U Q cv rp pv G hG hcv1 hcv2 hpv1 hpv2) hf2 hn2 hs1 hQ hrp hcv1 hcv2
              refine hst (fun t₀ k₀ => XS.iload X748.here hx rfl (hb hby at_751) rfl k₀) ?_
              show F T748 (mkF m 753 #[.val (.long q1), .second, .val (.int p2), .val (.int p3), .val (.int p4), .val (.int p5), .val (.int p6), .val (.long u), .second, .val (.int nv), .val (.int ng), .val (.int fv), .val (.int rf), .val (.int qv), .val (.int cv), .val (.int pv), .val (.int cd), .val (.int rp), .val (.int sv), .val (.int tv), .val (.ref b165), .unset, .unset, .unset, .unset] [(.int nv)])
              by_cases hc753 : nv = (0 : Int32)
              · -- pc 753: taken
                refine hst (fun t₀ k₀ => XS.ifYes X748.here hx rfl (pc0 := 753) (pc' := 768) rfl (hb hby at_753) rfl ((if0 _ _).trans (teq hc753).1) (by decide) (by decide) k₀) ?_
                show F T748 (mkF m 768 #[.val (.long q1), .second, .val (.int p2), .val (.int p3), .val (.int p4), .val (.int p5), .val (.int p6), .val (.long u), .second, .val (.int nv), .val (.int ng), .val (.int fv), .val (.int rf), .val (.int qv), .val (.int cv), .val (.int pv), .val (.int cd), .val (.int rp), .val (.int sv), .val (.int tv), .val (.ref b165), .unset, .unset, .unset, .unset] [])
                refine hst (fun t₀ k₀ => X748.ldc2J hx hown (mvT hZ (hw _ (List.mem_of_getElem? (i := 34) rfl))) (g := (mkF m 768 #[.val (.long q1), .second, .val (.int p2), .val (.int p3), .val (.int p4), .val (.int p5), .val (.int p6), .val (.long u), .second, .val (.int nv), .val (.int ng), .val (.int fv), .val (.int rf), .val (.int qv), .val (.int cv), .val (.int pv), .val (.int cd), .val (.int rp), .val (.int sv), .val (.int tv), .val (.ref b165), .unset, .unset, .unset, .unset] [])) rfl (hb hby at_768) k₀) ?_
                show F T748 (mkF m 771 #[.val (.long q1), .second, .val (.int p2), .val (.int p3), .val (.int p4), .val (.int p5), .val (.int p6), .val (.long u), .second, .val (.int nv), .val (.int ng), .val (.int fv), .val (.int rf), .val (.int qv), .val (.int cv), .val (.int pv), .val (.int cd), .val (.int rp), .val (.int sv), .val (.int tv), .val (.ref b165), .unset, .unset, .unset, .unset] [(.long (-9223372036854775808 : Int64))])
                refine hst (fun t₀ k₀ => XS.lstore X748.here hx rfl (hb hby at_771) rfl (l' := #[.val (.long q1), .second, .val (.int p2), .val (.int p3), .val (.int p4), .val (.int p5), .val (.int p6), .val (.long u), .second, .val (.int nv), .val (.int ng), .val (.int fv), .val (.int rf), .val (.int qv), .val (.int cv), .val (.int pv), .val (.int cd), .val (.int rp), .val (.int sv), .val (.int tv), .val (.ref b165), .val (.long (-9223372036854775808 : Int64)), .second, .unset, .unset]) rfl k₀) ?_
                show F T748 (mkF m 773 #[.val (.long q1), .second, .val (.int p2), .val (.int p3), .val (.int p4), .val (.int p5), .val (.int p6), .val (.long u), .second, .val (.int nv), .val (.int ng), .val (.int fv), .val (.int rf), .val (.int qv), .val (.int cv), .val (.int pv), .val (.int cd), .val (.int rp), .val (.int sv), .val (.int tv), .val (.ref b165), .val (.long (-9223372036854775808 : Int64)), .second, .unset, .unset] [])
                refine hst (fun t₀ k₀ => XS.goto X748.here hx rfl (pc0 := 773) (pc' := 801) rfl (hb hby at_773) (by decide) (by decide) k₀) ?_
                show F T748 (mkF m 801 #[.val (.long q1), .second, .val (.int p2), .val (.int p3), .val (.int p4), .val (.int p5), .val (.int p6), .val (.long u), .second, .val (.int nv), .val (.int ng), .val (.int fv), .val (.int rf), .val (.int qv), .val (.int cv), .val (.int pv), .val (.int cd), .val (.int rp), .val (.int sv), .val (.int tv), .val (.ref b165), .val (.long (-9223372036854775808 : Int64)), .second, .unset, .unset] [])
                refine hst (fun t₀ k₀ => XS.aload X748.here hx rfl (hb hby at_801) rfl rfl k₀) ?_
                show F T748 (mkF m 803 #[.val (.long q1), .second, .val (.int p2), .val (.int p3), .val (.int p4), .val (.int p5), .val (.int p6), .val (.long u), .second, .val (.int nv), .val (.int ng), .val (.int fv), .val (.int rf), .val (.int qv), .val (.int cv), .val (.int pv), .val (.int cd), .val (.int rp), .val (.int sv), .val (.int tv), .val (.ref b165), .val (.long (-9223372036854775808 : Int64)), .second, .unset, .unset] [(.ref b165)])
                refine hst (fun t₀ k₀ => XS.iload X748.here hx rfl (hb hby at_803) rfl k₀) ?_
                show F T748 (mkF m 805 #[.val (.long q1), .second, .val (.int p2), .val (.int p3), .val (.int p4), .val (.int p5), .val (.int p6), .val (.long u), .second, .val (.int nv), .val (.int ng), .val (.int fv), .val (.int rf), .val (.int qv), .val (.int cv), .val (.int pv), .val (.int cd), .val (.int rp), .val (.int sv), .val (.int tv), .val (.ref b165), .val (.long (-9223372036854775808 : Int64)), .second, .unset, .unset] [(.int fv), (.ref b165)])
                refine hst (fun t₀ k₀ => XS.iload X748.here hx rfl (hb hby at_805) rfl k₀) ?_
                show F T748 (mkF m 807 #[.val (.long q1), .second, .val (.int p2), .val (.int p3), .val (.int p4), .val (.int p5), .val (.int p6), .val (.long u), .second, .val (.int nv), .val (.int ng), .val (.int fv), .val (.int rf), .val (.int qv), .val (.int cv), .val (.int pv), .val (.int cd), .val (.int rp), .val (.int sv), .val (.int tv), .val (.ref b165), .val (.long (-9223372036854775808 : Int64)), .second, .unset, .unset] [(.int tv), (.int fv), (.ref b165)])
                obtain ⟨v807, T807, Lc807, X807, hQ807, st807⟩ := own_callS X748 hx hZ hown (y := (⟨"com/example/leafline/leafline/table/IntegerValue", "parsePlain", "([BII)J"⟩ : MethodName)) (hw _ (List.mem_of_getElem? (i := 29) rfl)) (hw _ (List.mem_of_getElem? (i := 30) rfl)) (hw _ (List.mem_of_getElem? (i := 31) rfl)) (hw _ (List.mem_of_getElem? (i := 32) rfl)) (by decide) e748 (rm3 l Z a0 hw [] b165 fv tv (own_pre G 22) 22 f (s' + n) h748 n0 Z0_p748 A_b165_p748c hf ktv (by omega) (by omega) (by decide)) (by decide) (by decide) (g := (mkF m 807 #[.val (.long q1), .second, .val (.int p2), .val (.int p3), .val (.int p4), .val (.int p5), .val (.int p6), .val (.long u), .second, .val (.int nv), .val (.int ng), .val (.int fv), .val (.int rf), .val (.int qv), .val (.int cv), .val (.int pv), .val (.int cd), .val (.int rp), .val (.int sv), .val (.int tv), .val (.ref b165), .val (.long (-9223372036854775808 : Int64)), .second, .unset, .unset] [(.int tv), (.int fv), (.ref b165)])) rfl (by rw [hml]; rfl) (argsL := [(.ref b165), (.int fv), (.int tv)]) (rest := []) (lenOf pd_2 rfl) rfl rfl (W := 0) (by show 2 * 0 + _ ≤ _; exact Nat.le_of_eq rfl) (hb hby at_807) (by decide) (by decide)
                obtain ⟨rfl, Nq807, he807⟩ := hQ807
                have N807 := Fr.app N748 Nq807
                refine hst st807 ?_
                show F T807 (mkF m 810 #[.val (.long q1), .second, .val (.int p2), .val (.int p3), .val (.int p4), .val (.int p5), .val (.int p6), .val (.long u), .second, .val (.int nv), .val (.int ng), .val (.int fv), .val (.int rf), .val (.int qv), .val (.int cv), .val (.int pv), .val (.int cd), .val (.int rp), .val (.int sv), .val (.int tv), .val (.ref b165), .val (.long (-9223372036854775808 : Int64)), .second, .unset, .unset] [(.long (own_pp (own_pre G 22) f (s' + n)))])
                refine hst (fun t₀ k₀ => XS.lstore X807.here hx rfl (hb hby at_810) rfl (l' := #[.val (.long q1), .second, .val (.int p2), .val (.int p3), .val (.int p4), .val (.int p5), .val (.int p6), .val (.long u), .second, .val (.int nv), .val (.int ng), .val (.int fv), .val (.int rf), .val (.int qv), .val (.int cv), .val (.int pv), .val (.int cd), .val (.int rp), .val (.int sv), .val (.int tv), .val (.ref b165), .val (.long (-9223372036854775808 : Int64)), .second, .val (.long (own_pp (own_pre G 22) f (s' + n))), .second]) rfl k₀) ?_
                show F T807 (mkF m 812 #[.val (.long q1), .second, .val (.int p2), .val (.int p3), .val (.int p4), .val (.int p5), .val (.int p6), .val (.long u), .second, .val (.int nv), .val (.int ng), .val (.int fv), .val (.int rf), .val (.int qv), .val (.int cv), .val (.int pv), .val (.int cd), .val (.int rp), .val (.int sv), .val (.int tv), .val (.ref b165), .val (.long (-9223372036854775808 : Int64)), .second, .val (.long (own_pp (own_pre G 22) f (s' + n))), .second] [])
                refine hst (fun t₀ k₀ => XS.lload X807.here hx rfl (hb hby at_812) rfl k₀) ?_
                show F T807 (mkF m 814 #[.val (.long q1), .second, .val (.int p2), .val (.int p3), .val (.int p4), .val (.int p5), .val (.int p6), .val (.long u), .second, .val (.int nv), .val (.int ng), .val (.int fv), .val (.int rf), .val (.int qv), .val (.int cv), .val (.int pv), .val (.int cd), .val (.int rp), .val (.int sv), .val (.int tv), .val (.ref b165), .val (.long (-9223372036854775808 : Int64)), .second, .val (.long (own_pp (own_pre G 22) f (s' + n))), .second] [(.long (own_pp (own_pre G 22) f (s' + n)))])
                refine hst (fun t₀ k₀ => XS.lload X807.here hx rfl (hb hby at_814) rfl k₀) ?_
                show F T807 (mkF m 816 #[.val (.long q1), .second, .val (.int p2), .val (.int p3), .val (.int p4), .val (.int p5), .val (.int p6), .val (.long u), .second, .val (.int nv), .val (.int ng), .val (.int fv), .val (.int rf), .val (.int qv), .val (.int cv), .val (.int pv), .val (.int cd), .val (.int rp), .val (.int sv), .val (.int tv), .val (.ref b165), .val (.long (-9223372036854775808 : Int64)), .second, .val (.long (own_pp (own_pre G 22) f (s' + n))), .second] [(.long (-9223372036854775808 : Int64)), (.long (own_pp (own_pre G 22) f (s' + n)))])
                refine hst (fun t₀ k₀ => XS.lcmp X807.here hx rfl (hb hby at_816) rfl k₀) ?_
                show F T807 (mkF m 817 #[.val (.long q1), .second, .val (.int p2), .val (.int p3), .val (.int p4), .val (.int p5), .val (.int p6), .val (.long u), .second, .val (.int nv), .val (.int ng), .val (.int fv), .val (.int rf), .val (.int qv), .val (.int cv), .val (.int pv), .val (.int cd), .val (.int rp), .val (.int sv), .val (.int tv), .val (.ref b165), .val (.long (-9223372036854775808 : Int64)), .second, .val (.long (own_pp (own_pre G 22) f (s' + n))), .second] [(.int (lcmpW (own_pp (own_pre G 22) f (s' + n)) (-9223372036854775808 : Int64)))])
                refine hst (fun t₀ k₀ => XS.ifNo X807.here hx rfl (hb hby at_817) rfl ((if0 _ _).trans (teq ((lw_eq _ _).mpr (hlaw.1 (Or.inl (by rw [hc753] at hn; omega))))).2) k₀) ?_
                show F T807 (mkF m 820 #[.val (.long q1), .second, .val (.int p2), .val (.int p3), .val (.int p4), .val (.int p5), .val (.int p6), .val (.long u), .second, .val (.int nv), .val (.int ng), .val (.int fv), .val (.int rf), .val (.int qv), .val (.int cv), .val (.int pv), .val (.int cd), .val (.int rp), .val (.int sv), .val (.int tv), .val (.ref b165), .val (.long (-9223372036854775808 : Int64)), .second, .val (.long (own_pp (own_pre G 22) f (s' + n))), .second] [])
                refine hst (fun t₀ k₀ => XS.iconst X807.here hx rfl (hb hby at_820) k₀) ?_
                show F T807 (mkF m 821 #[.val (.long q1), .second, .val (.int p2), .val (.int p3), .val (.int p4), .val (.int p5), .val (.int p6), .val (.long u), .second, .val (.int nv), .val (.int ng), .val (.int fv), .val (.int rf), .val (.int qv), .val (.int cv), .val (.int pv), .val (.int cd), .val (.int rp), .val (.int sv), .val (.int tv), .val (.ref b165), .val (.long (-9223372036854775808 : Int64)), .second, .val (.long (own_pp (own_pre G 22) f (s' + n))), .second] [(.int (1 : Int32))])
                refine hst (fun t₀ k₀ => XS.goto X807.here hx rfl (pc0 := 821) (pc' := 825) rfl (hb hby at_821) (by decide) (by decide) k₀) ?_
                show F T807 (mkF m 825 #[.val (.long q1), .second, .val (.int p2), .val (.int p3), .val (.int p4), .val (.int p5), .val (.int p6), .val (.long u), .second, .val (.int nv), .val (.int ng), .val (.int fv), .val (.int rf), .val (.int qv), .val (.int cv), .val (.int pv), .val (.int cd), .val (.int rp), .val (.int sv), .val (.int tv), .val (.ref b165), .val (.long (-9223372036854775808 : Int64)), .second, .val (.long (own_pp (own_pre G 22) f (s' + n))), .second] [(.int (1 : Int32))])
                rw [hF]
                refine own_retN X807 hx hret (by simp) hlk (hb hby at_825) (by decide) (by decide) ?_
                rw [he807]
                exact ⟨rfl, N807⟩
              · -- pc 753: not taken
                refine hst (fun t₀ k₀ => XS.ifNo X748.here hx rfl (hb hby at_753) rfl ((if0 _ _).trans (feq hc753).1) k₀) ?_
                show F T748 (mkF m 756 #[.val (.long q1), .second, .val (.int p2), .val (.int p3), .val (.int p4), .val (.int p5), .val (.int p6), .val (.long u), .second, .val (.int nv), .val (.int ng), .val (.int fv), .val (.int rf), .val (.int qv), .val (.int cv), .val (.int pv), .val (.int cd), .val (.int rp), .val (.int sv), .val (.int tv), .val (.ref b165), .unset, .unset, .unset, .unset] [])
                refine hst (fun t₀ k₀ => XS.iload X748.here hx rfl (hb hby at_756) rfl k₀) ?_
                show F T748 (mkF m 758 #[.val (.long q1), .second, .val (.int p2), .val (.int p3), .val (.int p4), .val (.int p5), .val (.int p6), .val (.long u), .second, .val (.int nv), .val (.int ng), .val (.int fv), .val (.int rf), .val (.int qv), .val (.int cv), .val (.int pv), .val (.int cd), .val (.int rp), .val (.int sv), .val (.int tv), .val (.ref b165), .unset, .unset, .unset, .unset] [(.int nv)])
                refine hst (fun t₀ k₀ => XS.bipush X748.here hx rfl (hb hby at_758) k₀) ?_
                show F T748 (mkF m 760 #[.val (.long q1), .second, .val (.int p2), .val (.int p3), .val (.int p4), .val (.int p5), .val (.int p6), .val (.long u), .second, .val (.int nv), .val (.int ng), .val (.int fv), .val (.int rf), .val (.int qv), .val (.int cv), .val (.int pv), .val (.int cd), .val (.int rp), .val (.int sv), .val (.int tv), .val (.ref b165), .unset, .unset, .unset, .unset] [(.int (18 : Int32)), (.int nv)])
                by_cases hc760 : (18 : Int32) < nv
                · -- pc 760: taken
                  refine hst (fun t₀ k₀ => XS.icmpYes X748.here hx rfl (pc0 := 760) (pc' := 768) rfl (hb hby at_760) rfl (tlt hc760).2.2.1 (by decide) (by decide) k₀) ?_
                  show F T748 (mkF m 768 #[.val (.long q1), .second, .val (.int p2), .val (.int p3), .val (.int p4), .val (.int p5), .val (.int p6), .val (.long u), .second, .val (.int nv), .val (.int ng), .val (.int fv), .val (.int rf), .val (.int qv), .val (.int cv), .val (.int pv), .val (.int cd), .val (.int rp), .val (.int sv), .val (.int tv), .val (.ref b165), .unset, .unset, .unset, .unset] [])
                  refine hst (fun t₀ k₀ => X748.ldc2J hx hown (mvT hZ (hw _ (List.mem_of_getElem? (i := 34) rfl))) (g := (mkF m 768 #[.val (.long q1), .second, .val (.int p2), .val (.int p3), .val (.int p4), .val (.int p5), .val (.int p6), .val (.long u), .second, .val (.int nv), .val (.int ng), .val (.int fv), .val (.int rf), .val (.int qv), .val (.int cv), .val (.int pv), .val (.int cd), .val (.int rp), .val (.int sv), .val (.int tv), .val (.ref b165), .unset, .unset, .unset, .unset] [])) rfl (hb hby at_768) k₀) ?_
                  show F T748 (mkF m 771 #[.val (.long q1), .second, .val (.int p2), .val (.int p3), .val (.int p4), .val (.int p5), .val (.int p6), .val (.long u), .second, .val (.int nv), .val (.int ng), .val (.int fv), .val (.int rf), .val (.int qv), .val (.int cv), .val (.int pv), .val (.int cd), .val (.int rp), .val (.int sv), .val (.int tv), .val (.ref b165), .unset, .unset, .unset, .unset] [(.long (-9223372036854775808 : Int64))])
                  refine hst (fun t₀ k₀ => XS.lstore X748.here hx rfl (hb hby at_771) rfl (l' := #[.val (.long q1), .second, .val (.int p2), .val (.int p3), .val (.int p4), .val (.int p5), .val (.int p6), .val (.long u), .second, .val (.int nv), .val (.int ng), .val (.int fv), .val (.int rf), .val (.int qv), .val (.int cv), .val (.int pv), .val (.int cd), .val (.int rp), .val (.int sv), .val (.int tv), .val (.ref b165), .val (.long (-9223372036854775808 : Int64)), .second, .unset, .unset]) rfl k₀) ?_
                  show F T748 (mkF m 773 #[.val (.long q1), .second, .val (.int p2), .val (.int p3), .val (.int p4), .val (.int p5), .val (.int p6), .val (.long u), .second, .val (.int nv), .val (.int ng), .val (.int fv), .val (.int rf), .val (.int qv), .val (.int cv), .val (.int pv), .val (.int cd), .val (.int rp), .val (.int sv), .val (.int tv), .val (.ref b165), .val (.long (-9223372036854775808 : Int64)), .second, .unset, .unset] [])
                  refine hst (fun t₀ k₀ => XS.goto X748.here hx rfl (pc0 := 773) (pc' := 801) rfl (hb hby at_773) (by decide) (by decide) k₀) ?_
                  show F T748 (mkF m 801 #[.val (.long q1), .second, .val (.int p2), .val (.int p3), .val (.int p4), .val (.int p5), .val (.int p6), .val (.long u), .second, .val (.int nv), .val (.int ng), .val (.int fv), .val (.int rf), .val (.int qv), .val (.int cv), .val (.int pv), .val (.int cd), .val (.int rp), .val (.int sv), .val (.int tv), .val (.ref b165), .val (.long (-9223372036854775808 : Int64)), .second, .unset, .unset] [])
                  refine hst (fun t₀ k₀ => XS.aload X748.here hx rfl (hb hby at_801) rfl rfl k₀) ?_
                  show F T748 (mkF m 803 #[.val (.long q1), .second, .val (.int p2), .val (.int p3), .val (.int p4), .val (.int p5), .val (.int p6), .val (.long u), .second, .val (.int nv), .val (.int ng), .val (.int fv), .val (.int rf), .val (.int qv), .val (.int cv), .val (.int pv), .val (.int cd), .val (.int rp), .val (.int sv), .val (.int tv), .val (.ref b165), .val (.long (-9223372036854775808 : Int64)), .second, .unset, .unset] [(.ref b165)])
                  refine hst (fun t₀ k₀ => XS.iload X748.here hx rfl (hb hby at_803) rfl k₀) ?_
                  show F T748 (mkF m 805 #[.val (.long q1), .second, .val (.int p2), .val (.int p3), .val (.int p4), .val (.int p5), .val (.int p6), .val (.long u), .second, .val (.int nv), .val (.int ng), .val (.int fv), .val (.int rf), .val (.int qv), .val (.int cv), .val (.int pv), .val (.int cd), .val (.int rp), .val (.int sv), .val (.int tv), .val (.ref b165), .val (.long (-9223372036854775808 : Int64)), .second, .unset, .unset] [(.int fv), (.ref b165)])
                  refine hst (fun t₀ k₀ => XS.iload X748.here hx rfl (hb hby at_805) rfl k₀) ?_
                  show F T748 (mkF m 807 #[.val (.long q1), .second, .val (.int p2), .val (.int p3), .val (.int p4), .val (.int p5), .val (.int p6), .val (.long u), .second, .val (.int nv), .val (.int ng), .val (.int fv), .val (.int rf), .val (.int qv), .val (.int cv), .val (.int pv), .val (.int cd), .val (.int rp), .val (.int sv), .val (.int tv), .val (.ref b165), .val (.long (-9223372036854775808 : Int64)), .second, .unset, .unset] [(.int tv), (.int fv), (.ref b165)])
                  obtain ⟨v807, T807, Lc807, X807, hQ807, st807⟩ := own_callS X748 hx hZ hown (y := (⟨"com/example/leafline/leafline/table/IntegerValue", "parsePlain", "([BII)J"⟩ : MethodName)) (hw _ (List.mem_of_getElem? (i := 29) rfl)) (hw _ (List.mem_of_getElem? (i := 30) rfl)) (hw _ (List.mem_of_getElem? (i := 31) rfl)) (hw _ (List.mem_of_getElem? (i := 32) rfl)) (by decide) e748 (rm3 l Z a0 hw [] b165 fv tv (own_pre G 22) 22 f (s' + n) h748 n0 Z0_p748 A_b165_p748c hf ktv (by omega) (by omega) (by decide)) (by decide) (by decide) (g := (mkF m 807 #[.val (.long q1), .second, .val (.int p2), .val (.int p3), .val (.int p4), .val (.int p5), .val (.int p6), .val (.long u), .second, .val (.int nv), .val (.int ng), .val (.int fv), .val (.int rf), .val (.int qv), .val (.int cv), .val (.int pv), .val (.int cd), .val (.int rp), .val (.int sv), .val (.int tv), .val (.ref b165), .val (.long (-9223372036854775808 : Int64)), .second, .unset, .unset] [(.int tv), (.int fv), (.ref b165)])) rfl (by rw [hml]; rfl) (argsL := [(.ref b165), (.int fv), (.int tv)]) (rest := []) (lenOf pd_2 rfl) rfl rfl (W := 0) (by show 2 * 0 + _ ≤ _; exact Nat.le_of_eq rfl) (hb hby at_807) (by decide) (by decide)
                  obtain ⟨rfl, Nq807, he807⟩ := hQ807
                  have N807 := Fr.app N748 Nq807
                  refine hst st807 ?_
                  show F T807 (mkF m 810 #[.val (.long q1), .second, .val (.int p2), .val (.int p3), .val (.int p4), .val (.int p5), .val (.int p6), .val (.long u), .second, .val (.int nv), .val (.int ng), .val (.int fv), .val (.int rf), .val (.int qv), .val (.int cv), .val (.int pv), .val (.int cd), .val (.int rp), .val (.int sv), .val (.int tv), .val (.ref b165), .val (.long (-9223372036854775808 : Int64)), .second, .unset, .unset] [(.long (own_pp (own_pre G 22) f (s' + n)))])
                  refine hst (fun t₀ k₀ => XS.lstore X807.here hx rfl (hb hby at_810) rfl (l' := #[.val (.long q1), .second, .val (.int p2), .val (.int p3), .val (.int p4), .val (.int p5), .val (.int p6), .val (.long u), .second, .val (.int nv), .val (.int ng), .val (.int fv), .val (.int rf), .val (.int qv), .val (.int cv), .val (.int pv), .val (.int cd), .val (.int rp), .val (.int sv), .val (.int tv), .val (.ref b165), .val (.long (-9223372036854775808 : Int64)), .second, .val (.long (own_pp (own_pre G 22) f (s' + n))), .second]) rfl k₀) ?_
                  show F T807 (mkF m 812 #[.val (.long q1), .second, .val (.int p2), .val (.int p3), .val (.int p4), .val (.int p5), .val (.int p6), .val (.long u), .second, .val (.int nv), .val (.int ng), .val (.int fv), .val (.int rf), .val (.int qv), .val (.int cv), .val (.int pv), .val (.int cd), .val (.int rp), .val (.int sv), .val (.int tv), .val (.ref b165), .val (.long (-9223372036854775808 : Int64)), .second, .val (.long (own_pp (own_pre G 22) f (s' + n))), .second] [])
                  refine hst (fun t₀ k₀ => XS.lload X807.here hx rfl (hb hby at_812) rfl k₀) ?_
                  show F T807 (mkF m 814 #[.val (.long q1), .second, .val (.int p2), .val (.int p3), .val (.int p4), .val (.int p5), .val (.int p6), .val (.long u), .second, .val (.int nv), .val (.int ng), .val (.int fv), .val (.int rf), .val (.int qv), .val (.int cv), .val (.int pv), .val (.int cd), .val (.int rp), .val (.int sv), .val (.int tv), .val (.ref b165), .val (.long (-9223372036854775808 : Int64)), .second, .val (.long (own_pp (own_pre G 22) f (s' + n))), .second] [(.long (own_pp (own_pre G 22) f (s' + n)))])
                  refine hst (fun t₀ k₀ => XS.lload X807.here hx rfl (hb hby at_814) rfl k₀) ?_
                  show F T807 (mkF m 816 #[.val (.long q1), .second, .val (.int p2), .val (.int p3), .val (.int p4), .val (.int p5), .val (.int p6), .val (.long u), .second, .val (.int nv), .val (.int ng), .val (.int fv), .val (.int rf), .val (.int qv), .val (.int cv), .val (.int pv), .val (.int cd), .val (.int rp), .val (.int sv), .val (.int tv), .val (.ref b165), .val (.long (-9223372036854775808 : Int64)), .second, .val (.long (own_pp (own_pre G 22) f (s' + n))), .second] [(.long (-9223372036854775808 : Int64)), (.long (own_pp (own_pre G 22) f (s' + n)))])
                  refine hst (fun t₀ k₀ => XS.lcmp X807.here hx rfl (hb hby at_816) rfl k₀) ?_
                  show F T807 (mkF m 817 #[.val (.long q1), .second, .val (.int p2), .val (.int p3), .val (.int p4), .val (.int p5), .val (.int p6), .val (.long u), .second, .val (.int nv), .val (.int ng), .val (.int fv), .val (.int rf), .val (.int qv), .val (.int cv), .val (.int pv), .val (.int cd), .val (.int rp), .val (.int sv), .val (.int tv), .val (.ref b165), .val (.long (-9223372036854775808 : Int64)), .second, .val (.long (own_pp (own_pre G 22) f (s' + n))), .second] [(.int (lcmpW (own_pp (own_pre G 22) f (s' + n)) (-9223372036854775808 : Int64)))])
                  refine hst (fun t₀ k₀ => XS.ifNo X807.here hx rfl (hb hby at_817) rfl ((if0 _ _).trans (teq ((lw_eq _ _).mpr (hlaw.1 (Or.inr (Or.inl (by rw [own_lt32] at hc760; omega)))))).2) k₀) ?_
                  show F T807 (mkF m 820 #[.val (.long q1), .second, .val (.int p2), .val (.int p3), .val (.int p4), .val (.int p5), .val (.int p6), .val (.long u), .second, .val (.int nv), .val (.int ng), .val (.int fv), .val (.int rf), .val (.int qv), .val (.int cv), .val (.int pv), .val (.int cd), .val (.int rp), .val (.int sv), .val (.int tv), .val (.ref b165), .val (.long (-9223372036854775808 : Int64)), .second, .val (.long (own_pp (own_pre G 22) f (s' + n))), .second] [])
                  refine hst (fun t₀ k₀ => XS.iconst X807.here hx rfl (hb hby at_820) k₀) ?_
                  show F T807 (mkF m 821 #[.val (.long q1), .second, .val (.int p2), .val (.int p3), .val (.int p4), .val (.int p5), .val (.int p6), .val (.long u), .second, .val (.int nv), .val (.int ng), .val (.int fv), .val (.int rf), .val (.int qv), .val (.int cv), .val (.int pv), .val (.int cd), .val (.int rp), .val (.int sv), .val (.int tv), .val (.ref b165), .val (.long (-9223372036854775808 : Int64)), .second, .val (.long (own_pp (own_pre G 22) f (s' + n))), .second] [(.int (1 : Int32))])
                  refine hst (fun t₀ k₀ => XS.goto X807.here hx rfl (pc0 := 821) (pc' := 825) rfl (hb hby at_821) (by decide) (by decide) k₀) ?_
                  show F T807 (mkF m 825 #[.val (.long q1), .second, .val (.int p2), .val (.int p3), .val (.int p4), .val (.int p5), .val (.int p6), .val (.long u), .second, .val (.int nv), .val (.int ng), .val (.int fv), .val (.int rf), .val (.int qv), .val (.int cv), .val (.int pv), .val (.int cd), .val (.int rp), .val (.int sv), .val (.int tv), .val (.ref b165), .val (.long (-9223372036854775808 : Int64)), .second, .val (.long (own_pp (own_pre G 22) f (s' + n))), .second] [(.int (1 : Int32))])
                  rw [hF]
                  refine own_retN X807 hx hret (by simp) hlk (hb hby at_825) (by decide) (by decide) ?_
                  rw [he807]
                  exact ⟨rfl, N807⟩
                · -- pc 760: not taken
                  refine hst (fun t₀ k₀ => XS.icmpNo X748.here hx rfl (hb hby at_760) rfl (flt hc760).2.2.1 k₀) ?_
                  show F T748 (mkF m 763 #[.val (.long q1), .second, .val (.int p2), .val (.int p3), .val (.int p4), .val (.int p5), .val (.int p6), .val (.long u), .second, .val (.int nv), .val (.int ng), .val (.int fv), .val (.int rf), .val (.int qv), .val (.int cv), .val (.int pv), .val (.int cd), .val (.int rp), .val (.int sv), .val (.int tv), .val (.ref b165), .unset, .unset, .unset, .unset] [])
                  refine hst (fun t₀ k₀ => XS.iload X748.here hx rfl (hb hby at_763) rfl k₀) ?_
                  show F T748 (mkF m 765 #[.val (.long q1), .second, .val (.int p2), .val (.int p3), .val (.int p4), .val (.int p5), .val (.int p6), .val (.long u), .second, .val (.int nv), .val (.int ng), .val (.int fv), .val (.int rf), .val (.int qv), .val (.int cv), .val (.int pv), .val (.int cd), .val (.int rp), .val (.int sv), .val (.int tv), .val (.ref b165), .unset, .unset, .unset, .unset] [(.int rp)])
                  by_cases hc765 : rp = (0 : Int32)
                  · -- pc 765: taken
                    refine hst (fun t₀ k₀ => XS.ifYes X748.here hx rfl (pc0 := 765) (pc' := 776) rfl (hb hby at_765) rfl ((if0 _ _).trans (teq hc765).1) (by decide) (by decide) k₀) ?_
                    show F T748 (mkF m 776 #[.val (.long q1), .second, .val (.int p2), .val (.int p3), .val (.int p4), .val (.int p5), .val (.int p6), .val (.long u), .second, .val (.int nv), .val (.int ng), .val (.int fv), .val (.int rf), .val (.int qv), .val (.int cv), .val (.int pv), .val (.int cd), .val (.int rp), .val (.int sv), .val (.int tv), .val (.ref b165), .unset, .unset, .unset, .unset] [])
                    refine hst (fun t₀ k₀ => XS.lload X748.here hx rfl (hb hby at_776) rfl k₀) ?_
                    show F T748 (mkF m 778 #[.val (.long q1), .second, .val (.int p2), .val (.int p3), .val (.int p4), .val (.int p5), .val (.int p6), .val (.long u), .second, .val (.int nv), .val (.int ng), .val (.int fv), .val (.int rf), .val (.int qv), .val (.int cv), .val (.int pv), .val (.int cd), .val (.int rp), .val (.int sv), .val (.int tv), .val (.ref b165), .unset, .unset, .unset, .unset] [(.long u)])
                    refine hst (fun t₀ k₀ => XS.iload X748.here hx rfl (hb hby at_778) rfl k₀) ?_
                    show F T748 (mkF m 780 #[.val (.long q1), .second, .val (.int p2), .val (.int p3), .val (.int p4), .val (.int p5), .val (.int p6), .val (.long u), .second, .val (.int nv), .val (.int ng), .val (.int fv), .val (.int rf), .val (.int qv), .val (.int cv), .val (.int pv), .val (.int cd), .val (.int rp), .val (.int sv), .val (.int tv), .val (.ref b165), .unset, .unset, .unset, .unset] [(.int nv), (.long u)])
                    obtain ⟨v780, T780, Lc780, X780, hQ780, st780⟩ := own_callS X748 hx hZ hown (y := (⟨"com/example/leafline/leafline/table/IntegerValueParsePlainPinLaw", "pow10", "(I)J"⟩ : MethodName)) (hw _ (List.mem_of_getElem? (i := 7) rfl)) (hw _ (List.mem_of_getElem? (i := 8) rfl)) (hw _ (List.mem_of_getElem? (i := 5) rfl)) (hw _ (List.mem_of_getElem? (i := 9) rfl)) (by decide) e748 (rm2 l Z a0 hw [] nv n h748 n0 Z0_p748 hn (by rw [own_lt32] at hc760; omega)) (by decide) (by decide) (g := (mkF m 780 #[.val (.long q1), .second, .val (.int p2), .val (.int p3), .val (.int p4), .val (.int p5), .val (.int p6), .val (.long u), .second, .val (.int nv), .val (.int ng), .val (.int fv), .val (.int rf), .val (.int qv), .val (.int cv), .val (.int pv), .val (.int cd), .val (.int rp), .val (.int sv), .val (.int tv), .val (.ref b165), .unset, .unset, .unset, .unset] [(.int nv), (.long u)])) rfl (by rw [hml]; rfl) (argsL := [(.int nv)]) (rest := [(.long u)]) (lenOf pd_0 rfl) rfl rfl (W := 2) (by show 2 * 0 + _ ≤ _; exact Nat.le_of_eq rfl) (hb hby at_780) (by decide) (by decide)
                    obtain ⟨rfl, Nq780, K780⟩ := hQ780
                    have N780 := Fr.app N748 Nq780
                    have A_b165_p780 : own_A Z T780.heap b165 .byte 22 (fun i => .int (own_pre G 22 i)) := A_b165_p748c.keep K780 (List.not_mem_nil)
                    have Z0_p780 : n0 ≤ T780.heap.size := Nat.le_trans Z0_p748 K780.1
                    refine hst st780 ?_
                    show F T780 (mkF m 783 #[.val (.long q1), .second, .val (.int p2), .val (.int p3), .val (.int p4), .val (.int p5), .val (.int p6), .val (.long u), .second, .val (.int nv), .val (.int ng), .val (.int fv), .val (.int rf), .val (.int qv), .val (.int cv), .val (.int pv), .val (.int cd), .val (.int rp), .val (.int sv), .val (.int tv), .val (.ref b165), .unset, .unset, .unset, .unset] [(.long (Int64.ofNat (10 ^ n))), (.long u)])
                    refine hst (fun t₀ k₀ => XS.lrem X780.here hx rfl (hb hby at_783) rfl (own_p0 _ (by rw [own_lt32] at hc760; omega)) k₀) ?_
                    show F T780 (mkF m 784 #[.val (.long q1), .second, .val (.int p2), .val (.int p3), .val (.int p4), .val (.int p5), .val (.int p6), .val (.long u), .second, .val (.int nv), .val (.int ng), .val (.int fv), .val (.int rf), .val (.int qv), .val (.int cv), .val (.int pv), .val (.int cd), .val (.int rp), .val (.int sv), .val (.int tv), .val (.ref b165), .unset, .unset, .unset, .unset] [(.long (u - (u / (Int64.ofNat (10 ^ n))) * (Int64.ofNat (10 ^ n))))])
                    generalize hmv : (u - (u / (Int64.ofNat (10 ^ n))) * (Int64.ofNat (10 ^ n))) = mv
                    show F T780 (mkF m 784 #[.val (.long q1), .second, .val (.int p2), .val (.int p3), .val (.int p4), .val (.int p5), .val (.int p6), .val (.long u), .second, .val (.int nv), .val (.int ng), .val (.int fv), .val (.int rf), .val (.int qv), .val (.int cv), .val (.int pv), .val (.int cd), .val (.int rp), .val (.int sv), .val (.int tv), .val (.ref b165), .unset, .unset, .unset, .unset] [(.long mv)])
                    have kmv : mv.toInt = ((U % 10 ^ n : Nat) : Int) := by rw [← hmv]; exact own_umod u U n hU (by rw [own_lt32] at hc760; omega)
                    have hgood := hlaw.2 mv (by have : ¬ nv.toInt = (0 : Int32).toInt := fun q => hc753 (Int32.toInt_inj.mp q); omega) (by rw [own_lt32] at hc760; omega) hc765 kmv
                    refine hst (fun t₀ k₀ => XS.lstore X780.here hx rfl (hb hby at_784) rfl (l' := #[.val (.long q1), .second, .val (.int p2), .val (.int p3), .val (.int p4), .val (.int p5), .val (.int p6), .val (.long u), .second, .val (.int nv), .val (.int ng), .val (.int fv), .val (.int rf), .val (.int qv), .val (.int cv), .val (.int pv), .val (.int cd), .val (.int rp), .val (.int sv), .val (.int tv), .val (.ref b165), .unset, .unset, .val (.long mv), .second]) rfl k₀) ?_
                    show F T780 (mkF m 786 #[.val (.long q1), .second, .val (.int p2), .val (.int p3), .val (.int p4), .val (.int p5), .val (.int p6), .val (.long u), .second, .val (.int nv), .val (.int ng), .val (.int fv), .val (.int rf), .val (.int qv), .val (.int cv), .val (.int pv), .val (.int cd), .val (.int rp), .val (.int sv), .val (.int tv), .val (.ref b165), .unset, .unset, .val (.long mv), .second] [])
                    refine hst (fun t₀ k₀ => XS.iload X780.here hx rfl (hb hby at_786) rfl k₀) ?_
                    show F T780 (mkF m 788 #[.val (.long q1), .second, .val (.int p2), .val (.int p3), .val (.int p4), .val (.int p5), .val (.int p6), .val (.long u), .second, .val (.int nv), .val (.int ng), .val (.int fv), .val (.int rf), .val (.int qv), .val (.int cv), .val (.int pv), .val (.int cd), .val (.int rp), .val (.int sv), .val (.int tv), .val (.ref b165), .unset, .unset, .val (.long mv), .second] [(.int ng)])
                    by_cases hc788 : ng = (0 : Int32)
                    · -- pc 788: taken
                      refine hst (fun t₀ k₀ => XS.ifYes X780.here hx rfl (pc0 := 788) (pc' := 797) rfl (hb hby at_788) rfl ((if0 _ _).trans (teq hc788).1) (by decide) (by decide) k₀) ?_
                      show F T780 (mkF m 797 #[.val (.long q1), .second, .val (.int p2), .val (.int p3), .val (.int p4), .val (.int p5), .val (.int p6), .val (.long u), .second, .val (.int nv), .val (.int ng), .val (.int fv), .val (.int rf), .val (.int qv), .val (.int cv), .val (.int pv), .val (.int cd), .val (.int rp), .val (.int sv), .val (.int tv), .val (.ref b165), .unset, .unset, .val (.long mv), .second] [])
                      refine hst (fun t₀ k₀ => XS.lload X780.here hx rfl (hb hby at_797) rfl k₀) ?_
                      show F T780 (mkF m 799 #[.val (.long q1), .second, .val (.int p2), .val (.int p3), .val (.int p4), .val (.int p5), .val (.int p6), .val (.long u), .second, .val (.int nv), .val (.int ng), .val (.int fv), .val (.int rf), .val (.int qv), .val (.int cv), .val (.int pv), .val (.int cd), .val (.int rp), .val (.int sv), .val (.int tv), .val (.ref b165), .unset, .unset, .val (.long mv), .second] [(.long mv)])
                      refine hst (fun t₀ k₀ => XS.lstore X780.here hx rfl (hb hby at_799) rfl (l' := #[.val (.long q1), .second, .val (.int p2), .val (.int p3), .val (.int p4), .val (.int p5), .val (.int p6), .val (.long u), .second, .val (.int nv), .val (.int ng), .val (.int fv), .val (.int rf), .val (.int qv), .val (.int cv), .val (.int pv), .val (.int cd), .val (.int rp), .val (.int sv), .val (.int tv), .val (.ref b165), .val (.long mv), .second, .val (.long mv), .second]) rfl k₀) ?_
                      show F T780 (mkF m 801 #[.val (.long q1), .second, .val (.int p2), .val (.int p3), .val (.int p4), .val (.int p5), .val (.int p6), .val (.long u), .second, .val (.int nv), .val (.int ng), .val (.int fv), .val (.int rf), .val (.int qv), .val (.int cv), .val (.int pv), .val (.int cd), .val (.int rp), .val (.int sv), .val (.int tv), .val (.ref b165), .val (.long mv), .second, .val (.long mv), .second] [])
                      refine hst (fun t₀ k₀ => XS.aload X780.here hx rfl (hb hby at_801) rfl rfl k₀) ?_
                      show F T780 (mkF m 803 #[.val (.long q1), .second, .val (.int p2), .val (.int p3), .val (.int p4), .val (.int p5), .val (.int p6), .val (.long u), .second, .val (.int nv), .val (.int ng), .val (.int fv), .val (.int rf), .val (.int qv), .val (.int cv), .val (.int pv), .val (.int cd), .val (.int rp), .val (.int sv), .val (.int tv), .val (.ref b165), .val (.long mv), .second, .val (.long mv), .second] [(.ref b165)])
                      refine hst (fun t₀ k₀ => XS.iload X780.here hx rfl (hb hby at_803) rfl k₀) ?_
                      show F T780 (mkF m 805 #[.val (.long q1), .second, .val (.int p2), .val (.int p3), .val (.int p4), .val (.int p5), .val (.int p6), .val (.long u), .second, .val (.int nv), .val (.int ng), .val (.int fv), .val (.int rf), .val (.int qv), .val (.int cv), .val (.int pv), .val (.int cd), .val (.int rp), .val (.int sv), .val (.int tv), .val (.ref b165), .val (.long mv), .second, .val (.long mv), .second] [(.int fv), (.ref b165)])
                      refine hst (fun t₀ k₀ => XS.iload X780.here hx rfl (hb hby at_805) rfl k₀) ?_
                      show F T780 (mkF m 807 #[.val (.long q1), .second, .val (.int p2), .val (.int p3), .val (.int p4), .val (.int p5), .val (.int p6), .val (.long u), .second, .val (.int nv), .val (.int ng), .val (.int fv), .val (.int rf), .val (.int qv), .val (.int cv), .val (.int pv), .val (.int cd), .val (.int rp), .val (.int sv), .val (.int tv), .val (.ref b165), .val (.long mv), .second, .val (.long mv), .second] [(.int tv), (.int fv), (.ref b165)])
                      obtain ⟨v807, T807, Lc807, X807, hQ807, st807⟩ := own_callS X780 hx hZ hown (y := (⟨"com/example/leafline/leafline/table/IntegerValue", "parsePlain", "([BII)J"⟩ : MethodName)) (hw _ (List.mem_of_getElem? (i := 29) rfl)) (hw _ (List.mem_of_getElem? (i := 30) rfl)) (hw _ (List.mem_of_getElem? (i := 31) rfl)) (hw _ (List.mem_of_getElem? (i := 32) rfl)) (by decide) rfl (rm3 l Z a0 hw [] b165 fv tv (own_pre G 22) 22 f (s' + n) T780.heap n0 Z0_p780 A_b165_p780 hf ktv (by omega) (by omega) (by decide)) (by decide) (by decide) (g := (mkF m 807 #[.val (.long q1), .second, .val (.int p2), .val (.int p3), .val (.int p4), .val (.int p5), .val (.int p6), .val (.long u), .second, .val (.int nv), .val (.int ng), .val (.int fv), .val (.int rf), .val (.int qv), .val (.int cv), .val (.int pv), .val (.int cd), .val (.int rp), .val (.int sv), .val (.int tv), .val (.ref b165), .val (.long mv), .second, .val (.long mv), .second] [(.int tv), (.int fv), (.ref b165)])) rfl (by rw [hml]; rfl) (argsL := [(.ref b165), (.int fv), (.int tv)]) (rest := []) (lenOf pd_2 rfl) rfl rfl (W := 0) (by show 2 * 0 + _ ≤ _; exact Nat.le_of_eq rfl) (hb hby at_807) (by decide) (by decide)
                      obtain ⟨rfl, Nq807, he807⟩ := hQ807
                      have N807 := Fr.app N780 Nq807
                      refine hst st807 ?_
                      show F T807 (mkF m 810 #[.val (.long q1), .second, .val (.int p2), .val (.int p3), .val (.int p4), .val (.int p5), .val (.int p6), .val (.long u), .second, .val (.int nv), .val (.int ng), .val (.int fv), .val (.int rf), .val (.int qv), .val (.int cv), .val (.int pv), .val (.int cd), .val (.int rp), .val (.int sv), .val (.int tv), .val (.ref b165), .val (.long mv), .second, .val (.long mv), .second] [(.long (own_pp (own_pre G 22) f (s' + n)))])
                      refine hst (fun t₀ k₀ => XS.lstore X807.here hx rfl (hb hby at_810) rfl (l' := #[.val (.long q1), .second, .val (.int p2), .val (.int p3), .val (.int p4), .val (.int p5), .val (.int p6), .val (.long u), .second, .val (.int nv), .val (.int ng), .val (.int fv), .val (.int rf), .val (.int qv), .val (.int cv), .val (.int pv), .val (.int cd), .val (.int rp), .val (.int sv), .val (.int tv), .val (.ref b165), .val (.long mv), .second, .val (.long (own_pp (own_pre G 22) f (s' + n))), .second]) rfl k₀) ?_
                      show F T807 (mkF m 812 #[.val (.long q1), .second, .val (.int p2), .val (.int p3), .val (.int p4), .val (.int p5), .val (.int p6), .val (.long u), .second, .val (.int nv), .val (.int ng), .val (.int fv), .val (.int rf), .val (.int qv), .val (.int cv), .val (.int pv), .val (.int cd), .val (.int rp), .val (.int sv), .val (.int tv), .val (.ref b165), .val (.long mv), .second, .val (.long (own_pp (own_pre G 22) f (s' + n))), .second] [])
                      refine hst (fun t₀ k₀ => XS.lload X807.here hx rfl (hb hby at_812) rfl k₀) ?_
                      show F T807 (mkF m 814 #[.val (.long q1), .second, .val (.int p2), .val (.int p3), .val (.int p4), .val (.int p5), .val (.int p6), .val (.long u), .second, .val (.int nv), .val (.int ng), .val (.int fv), .val (.int rf), .val (.int qv), .val (.int cv), .val (.int pv), .val (.int cd), .val (.int rp), .val (.int sv), .val (.int tv), .val (.ref b165), .val (.long mv), .second, .val (.long (own_pp (own_pre G 22) f (s' + n))), .second] [(.long (own_pp (own_pre G 22) f (s' + n)))])
                      refine hst (fun t₀ k₀ => XS.lload X807.here hx rfl (hb hby at_814) rfl k₀) ?_
                      show F T807 (mkF m 816 #[.val (.long q1), .second, .val (.int p2), .val (.int p3), .val (.int p4), .val (.int p5), .val (.int p6), .val (.long u), .second, .val (.int nv), .val (.int ng), .val (.int fv), .val (.int rf), .val (.int qv), .val (.int cv), .val (.int pv), .val (.int cd), .val (.int rp), .val (.int sv), .val (.int tv), .val (.ref b165), .val (.long mv), .second, .val (.long (own_pp (own_pre G 22) f (s' + n))), .second] [(.long mv), (.long (own_pp (own_pre G 22) f (s' + n)))])
                      refine hst (fun t₀ k₀ => XS.lcmp X807.here hx rfl (hb hby at_816) rfl k₀) ?_
                      show F T807 (mkF m 817 #[.val (.long q1), .second, .val (.int p2), .val (.int p3), .val (.int p4), .val (.int p5), .val (.int p6), .val (.long u), .second, .val (.int nv), .val (.int ng), .val (.int fv), .val (.int rf), .val (.int qv), .val (.int cv), .val (.int pv), .val (.int cd), .val (.int rp), .val (.int sv), .val (.int tv), .val (.ref b165), .val (.long mv), .second, .val (.long (own_pp (own_pre G 22) f (s' + n))), .second] [(.int (lcmpW (own_pp (own_pre G 22) f (s' + n)) mv))])
                      refine hst (fun t₀ k₀ => XS.ifNo X807.here hx rfl (hb hby at_817) rfl ((if0 _ _).trans (teq ((lw_eq _ _).mpr (by rw [hgood]; first | rw [if_pos hc788] | rw [if_neg hc788]))).2) k₀) ?_
                      show F T807 (mkF m 820 #[.val (.long q1), .second, .val (.int p2), .val (.int p3), .val (.int p4), .val (.int p5), .val (.int p6), .val (.long u), .second, .val (.int nv), .val (.int ng), .val (.int fv), .val (.int rf), .val (.int qv), .val (.int cv), .val (.int pv), .val (.int cd), .val (.int rp), .val (.int sv), .val (.int tv), .val (.ref b165), .val (.long mv), .second, .val (.long (own_pp (own_pre G 22) f (s' + n))), .second] [])
                      refine hst (fun t₀ k₀ => XS.iconst X807.here hx rfl (hb hby at_820) k₀) ?_
                      show F T807 (mkF m 821 #[.val (.long q1), .second, .val (.int p2), .val (.int p3), .val (.int p4), .val (.int p5), .val (.int p6), .val (.long u), .second, .val (.int nv), .val (.int ng), .val (.int fv), .val (.int rf), .val (.int qv), .val (.int cv), .val (.int pv), .val (.int cd), .val (.int rp), .val (.int sv), .val (.int tv), .val (.ref b165), .val (.long mv), .second, .val (.long (own_pp (own_pre G 22) f (s' + n))), .second] [(.int (1 : Int32))])
                      refine hst (fun t₀ k₀ => XS.goto X807.here hx rfl (pc0 := 821) (pc' := 825) rfl (hb hby at_821) (by decide) (by decide) k₀) ?_
                      show F T807 (mkF m 825 #[.val (.long q1), .second, .val (.int p2), .val (.int p3), .val (.int p4), .val (.int p5), .val (.int p6), .val (.long u), .second, .val (.int nv), .val (.int ng), .val (.int fv), .val (.int rf), .val (.int qv), .val (.int cv), .val (.int pv), .val (.int cd), .val (.int rp), .val (.int sv), .val (.int tv), .val (.ref b165), .val (.long mv), .second, .val (.long (own_pp (own_pre G 22) f (s' + n))), .second] [(.int (1 : Int32))])
                      rw [hF]
                      refine own_retN X807 hx hret (by simp) hlk (hb hby at_825) (by decide) (by decide) ?_
                      rw [he807]
                      exact ⟨rfl, N807⟩
                    · -- pc 788: not taken
                      refine hst (fun t₀ k₀ => XS.ifNo X780.here hx rfl (hb hby at_788) rfl ((if0 _ _).trans (feq hc788).1) k₀) ?_
                      show F T780 (mkF m 791 #[.val (.long q1), .second, .val (.int p2), .val (.int p3), .val (.int p4), .val (.int p5), .val (.int p6), .val (.long u), .second, .val (.int nv), .val (.int ng), .val (.int fv), .val (.int rf), .val (.int qv), .val (.int cv), .val (.int pv), .val (.int cd), .val (.int rp), .val (.int sv), .val (.int tv), .val (.ref b165), .unset, .unset, .val (.long mv), .second] [])
                      refine hst (fun t₀ k₀ => XS.lload X780.here hx rfl (hb hby at_791) rfl k₀) ?_
                      show F T780 (mkF m 793 #[.val (.long q1), .second, .val (.int p2), .val (.int p3), .val (.int p4), .val (.int p5), .val (.int p6), .val (.long u), .second, .val (.int nv), .val (.int ng), .val (.int fv), .val (.int rf), .val (.int qv), .val (.int cv), .val (.int pv), .val (.int cd), .val (.int rp), .val (.int sv), .val (.int tv), .val (.ref b165), .unset, .unset, .val (.long mv), .second] [(.long mv)])
                      refine hst (fun t₀ k₀ => XS.lneg X780.here hx rfl (hb hby at_793) rfl k₀) ?_
                      show F T780 (mkF m 794 #[.val (.long q1), .second, .val (.int p2), .val (.int p3), .val (.int p4), .val (.int p5), .val (.int p6), .val (.long u), .second, .val (.int nv), .val (.int ng), .val (.int fv), .val (.int rf), .val (.int qv), .val (.int cv), .val (.int pv), .val (.int cd), .val (.int rp), .val (.int sv), .val (.int tv), .val (.ref b165), .unset, .unset, .val (.long mv), .second] [(.long (-mv))])
                      refine hst (fun t₀ k₀ => XS.goto X780.here hx rfl (pc0 := 794) (pc' := 799) rfl (hb hby at_794) (by decide) (by decide) k₀) ?_
                      show F T780 (mkF m 799 #[.val (.long q1), .second, .val (.int p2), .val (.int p3), .val (.int p4), .val (.int p5), .val (.int p6), .val (.long u), .second, .val (.int nv), .val (.int ng), .val (.int fv), .val (.int rf), .val (.int qv), .val (.int cv), .val (.int pv), .val (.int cd), .val (.int rp), .val (.int sv), .val (.int tv), .val (.ref b165), .unset, .unset, .val (.long mv), .second] [(.long (-mv))])
                      refine hst (fun t₀ k₀ => XS.lstore X780.here hx rfl (hb hby at_799) rfl (l' := #[.val (.long q1), .second, .val (.int p2), .val (.int p3), .val (.int p4), .val (.int p5), .val (.int p6), .val (.long u), .second, .val (.int nv), .val (.int ng), .val (.int fv), .val (.int rf), .val (.int qv), .val (.int cv), .val (.int pv), .val (.int cd), .val (.int rp), .val (.int sv), .val (.int tv), .val (.ref b165), .val (.long (-mv)), .second, .val (.long mv), .second]) rfl k₀) ?_
                      show F T780 (mkF m 801 #[.val (.long q1), .second, .val (.int p2), .val (.int p3), .val (.int p4), .val (.int p5), .val (.int p6), .val (.long u), .second, .val (.int nv), .val (.int ng), .val (.int fv), .val (.int rf), .val (.int qv), .val (.int cv), .val (.int pv), .val (.int cd), .val (.int rp), .val (.int sv), .val (.int tv), .val (.ref b165), .val (.long (-mv)), .second, .val (.long mv), .second] [])
                      refine hst (fun t₀ k₀ => XS.aload X780.here hx rfl (hb hby at_801) rfl rfl k₀) ?_
                      show F T780 (mkF m 803 #[.val (.long q1), .second, .val (.int p2), .val (.int p3), .val (.int p4), .val (.int p5), .val (.int p6), .val (.long u), .second, .val (.int nv), .val (.int ng), .val (.int fv), .val (.int rf), .val (.int qv), .val (.int cv), .val (.int pv), .val (.int cd), .val (.int rp), .val (.int sv), .val (.int tv), .val (.ref b165), .val (.long (-mv)), .second, .val (.long mv), .second] [(.ref b165)])
                      refine hst (fun t₀ k₀ => XS.iload X780.here hx rfl (hb hby at_803) rfl k₀) ?_
                      show F T780 (mkF m 805 #[.val (.long q1), .second, .val (.int p2), .val (.int p3), .val (.int p4), .val (.int p5), .val (.int p6), .val (.long u), .second, .val (.int nv), .val (.int ng), .val (.int fv), .val (.int rf), .val (.int qv), .val (.int cv), .val (.int pv), .val (.int cd), .val (.int rp), .val (.int sv), .val (.int tv), .val (.ref b165), .val (.long (-mv)), .second, .val (.long mv), .second] [(.int fv), (.ref b165)])
                      refine hst (fun t₀ k₀ => XS.iload X780.here hx rfl (hb hby at_805) rfl k₀) ?_
                      show F T780 (mkF m 807 #[.val (.long q1), .second, .val (.int p2), .val (.int p3), .val (.int p4), .val (.int p5), .val (.int p6), .val (.long u), .second, .val (.int nv), .val (.int ng), .val (.int fv), .val (.int rf), .val (.int qv), .val (.int cv), .val (.int pv), .val (.int cd), .val (.int rp), .val (.int sv), .val (.int tv), .val (.ref b165), .val (.long (-mv)), .second, .val (.long mv), .second] [(.int tv), (.int fv), (.ref b165)])
                      obtain ⟨v807, T807, Lc807, X807, hQ807, st807⟩ := own_callS X780 hx hZ hown (y := (⟨"com/example/leafline/leafline/table/IntegerValue", "parsePlain", "([BII)J"⟩ : MethodName)) (hw _ (List.mem_of_getElem? (i := 29) rfl)) (hw _ (List.mem_of_getElem? (i := 30) rfl)) (hw _ (List.mem_of_getElem? (i := 31) rfl)) (hw _ (List.mem_of_getElem? (i := 32) rfl)) (by decide) rfl (rm3 l Z a0 hw [] b165 fv tv (own_pre G 22) 22 f (s' + n) T780.heap n0 Z0_p780 A_b165_p780 hf ktv (by omega) (by omega) (by decide)) (by decide) (by decide) (g := (mkF m 807 #[.val (.long q1), .second, .val (.int p2), .val (.int p3), .val (.int p4), .val (.int p5), .val (.int p6), .val (.long u), .second, .val (.int nv), .val (.int ng), .val (.int fv), .val (.int rf), .val (.int qv), .val (.int cv), .val (.int pv), .val (.int cd), .val (.int rp), .val (.int sv), .val (.int tv), .val (.ref b165), .val (.long (-mv)), .second, .val (.long mv), .second] [(.int tv), (.int fv), (.ref b165)])) rfl (by rw [hml]; rfl) (argsL := [(.ref b165), (.int fv), (.int tv)]) (rest := []) (lenOf pd_2 rfl) rfl rfl (W := 0) (by show 2 * 0 + _ ≤ _; exact Nat.le_of_eq rfl) (hb hby at_807) (by decide) (by decide)
                      obtain ⟨rfl, Nq807, he807⟩ := hQ807
                      have N807 := Fr.app N780 Nq807
                      refine hst st807 ?_
                      show F T807 (mkF m 810 #[.val (.long q1), .second, .val (.int p2), .val (.int p3), .val (.int p4), .val (.int p5), .val (.int p6), .val (.long u), .second, .val (.int nv), .val (.int ng), .val (.int fv), .val (.int rf), .val (.int qv), .val (.int cv), .val (.int pv), .val (.int cd), .val (.int rp), .val (.int sv), .val (.int tv), .val (.ref b165), .val (.long (-mv)), .second, .val (.long mv), .second] [(.long (own_pp (own_pre G 22) f (s' + n)))])
                      refine hst (fun t₀ k₀ => XS.lstore X807.here hx rfl (hb hby at_810) rfl (l' := #[.val (.long q1), .second, .val (.int p2), .val (.int p3), .val (.int p4), .val (.int p5), .val (.int p6), .val (.long u), .second, .val (.int nv), .val (.int ng), .val (.int fv), .val (.int rf), .val (.int qv), .val (.int cv), .val (.int pv), .val (.int cd), .val (.int rp), .val (.int sv), .val (.int tv), .val (.ref b165), .val (.long (-mv)), .second, .val (.long (own_pp (own_pre G 22) f (s' + n))), .second]) rfl k₀) ?_
                      show F T807 (mkF m 812 #[.val (.long q1), .second, .val (.int p2), .val (.int p3), .val (.int p4), .val (.int p5), .val (.int p6), .val (.long u), .second, .val (.int nv), .val (.int ng), .val (.int fv), .val (.int rf), .val (.int qv), .val (.int cv), .val (.int pv), .val (.int cd), .val (.int rp), .val (.int sv), .val (.int tv), .val (.ref b165), .val (.long (-mv)), .second, .val (.long (own_pp (own_pre G 22) f (s' + n))), .second] [])
                      refine hst (fun t₀ k₀ => XS.lload X807.here hx rfl (hb hby at_812) rfl k₀) ?_
                      show F T807 (mkF m 814 #[.val (.long q1), .second, .val (.int p2), .val (.int p3), .val (.int p4), .val (.int p5), .val (.int p6), .val (.long u), .second, .val (.int nv), .val (.int ng), .val (.int fv), .val (.int rf), .val (.int qv), .val (.int cv), .val (.int pv), .val (.int cd), .val (.int rp), .val (.int sv), .val (.int tv), .val (.ref b165), .val (.long (-mv)), .second, .val (.long (own_pp (own_pre G 22) f (s' + n))), .second] [(.long (own_pp (own_pre G 22) f (s' + n)))])
                      refine hst (fun t₀ k₀ => XS.lload X807.here hx rfl (hb hby at_814) rfl k₀) ?_
                      show F T807 (mkF m 816 #[.val (.long q1), .second, .val (.int p2), .val (.int p3), .val (.int p4), .val (.int p5), .val (.int p6), .val (.long u), .second, .val (.int nv), .val (.int ng), .val (.int fv), .val (.int rf), .val (.int qv), .val (.int cv), .val (.int pv), .val (.int cd), .val (.int rp), .val (.int sv), .val (.int tv), .val (.ref b165), .val (.long (-mv)), .second, .val (.long (own_pp (own_pre G 22) f (s' + n))), .second] [(.long (-mv)), (.long (own_pp (own_pre G 22) f (s' + n)))])
                      refine hst (fun t₀ k₀ => XS.lcmp X807.here hx rfl (hb hby at_816) rfl k₀) ?_
                      show F T807 (mkF m 817 #[.val (.long q1), .second, .val (.int p2), .val (.int p3), .val (.int p4), .val (.int p5), .val (.int p6), .val (.long u), .second, .val (.int nv), .val (.int ng), .val (.int fv), .val (.int rf), .val (.int qv), .val (.int cv), .val (.int pv), .val (.int cd), .val (.int rp), .val (.int sv), .val (.int tv), .val (.ref b165), .val (.long (-mv)), .second, .val (.long (own_pp (own_pre G 22) f (s' + n))), .second] [(.int (lcmpW (own_pp (own_pre G 22) f (s' + n)) (-mv)))])
                      refine hst (fun t₀ k₀ => XS.ifNo X807.here hx rfl (hb hby at_817) rfl ((if0 _ _).trans (teq ((lw_eq _ _).mpr (by rw [hgood]; first | rw [if_pos hc788] | rw [if_neg hc788]))).2) k₀) ?_
                      show F T807 (mkF m 820 #[.val (.long q1), .second, .val (.int p2), .val (.int p3), .val (.int p4), .val (.int p5), .val (.int p6), .val (.long u), .second, .val (.int nv), .val (.int ng), .val (.int fv), .val (.int rf), .val (.int qv), .val (.int cv), .val (.int pv), .val (.int cd), .val (.int rp), .val (.int sv), .val (.int tv), .val (.ref b165), .val (.long (-mv)), .second, .val (.long (own_pp (own_pre G 22) f (s' + n))), .second] [])
                      refine hst (fun t₀ k₀ => XS.iconst X807.here hx rfl (hb hby at_820) k₀) ?_
                      show F T807 (mkF m 821 #[.val (.long q1), .second, .val (.int p2), .val (.int p3), .val (.int p4), .val (.int p5), .val (.int p6), .val (.long u), .second, .val (.int nv), .val (.int ng), .val (.int fv), .val (.int rf), .val (.int qv), .val (.int cv), .val (.int pv), .val (.int cd), .val (.int rp), .val (.int sv), .val (.int tv), .val (.ref b165), .val (.long (-mv)), .second, .val (.long (own_pp (own_pre G 22) f (s' + n))), .second] [(.int (1 : Int32))])
                      refine hst (fun t₀ k₀ => XS.goto X807.here hx rfl (pc0 := 821) (pc' := 825) rfl (hb hby at_821) (by decide) (by decide) k₀) ?_
                      show F T807 (mkF m 825 #[.val (.long q1), .second, .val (.int p2), .val (.int p3), .val (.int p4), .val (.int p5), .val (.int p6), .val (.long u), .second, .val (.int nv), .val (.int ng), .val (.int fv), .val (.int rf), .val (.int qv), .val (.int cv), .val (.int pv), .val (.int cd), .val (.int rp), .val (.int sv), .val (.int tv), .val (.ref b165), .val (.long (-mv)), .second, .val (.long (own_pp (own_pre G 22) f (s' + n))), .second] [(.int (1 : Int32))])
                      rw [hF]
                      refine own_retN X807 hx hret (by simp) hlk (hb hby at_825) (by decide) (by decide) ?_
                      rw [he807]
                      exact ⟨rfl, N807⟩
                  · -- pc 765: not taken
                    refine hst (fun t₀ k₀ => XS.ifNo X748.here hx rfl (hb hby at_765) rfl ((if0 _ _).trans (feq hc765).1) k₀) ?_
                    show F T748 (mkF m 768 #[.val (.long q1), .second, .val (.int p2), .val (.int p3), .val (.int p4), .val (.int p5), .val (.int p6), .val (.long u), .second, .val (.int nv), .val (.int ng), .val (.int fv), .val (.int rf), .val (.int qv), .val (.int cv), .val (.int pv), .val (.int cd), .val (.int rp), .val (.int sv), .val (.int tv), .val (.ref b165), .unset, .unset, .unset, .unset] [])
                    refine hst (fun t₀ k₀ => X748.ldc2J hx hown (mvT hZ (hw _ (List.mem_of_getElem? (i := 34) rfl))) (g := (mkF m 768 #[.val (.long q1), .second, .val (.int p2), .val (.int p3), .val (.int p4), .val (.int p5), .val (.int p6), .val (.long u), .second, .val (.int nv), .val (.int ng), .val (.int fv), .val (.int rf), .val (.int qv), .val (.int cv), .val (.int pv), .val (.int cd), .val (.int rp), .val (.int sv), .val (.int tv), .val (.ref b165), .unset, .unset, .unset, .unset] [])) rfl (hb hby at_768) k₀) ?_
                    show F T748 (mkF m 771 #[.val (.long q1), .second, .val (.int p2), .val (.int p3), .val (.int p4), .val (.int p5), .val (.int p6), .val (.long u), .second, .val (.int nv), .val (.int ng), .val (.int fv), .val (.int rf), .val (.int qv), .val (.int cv), .val (.int pv), .val (.int cd), .val (.int rp), .val (.int sv), .val (.int tv), .val (.ref b165), .unset, .unset, .unset, .unset] [(.long (-9223372036854775808 : Int64))])
                    refine hst (fun t₀ k₀ => XS.lstore X748.here hx rfl (hb hby at_771) rfl (l' := #[.val (.long q1), .second, .val (.int p2), .val (.int p3), .val (.int p4), .val (.int p5), .val (.int p6), .val (.long u), .second, .val (.int nv), .val (.int ng), .val (.int fv), .val (.int rf), .val (.int qv), .val (.int cv), .val (.int pv), .val (.int cd), .val (.int rp), .val (.int sv), .val (.int tv), .val (.ref b165), .val (.long (-9223372036854775808 : Int64)), .second, .unset, .unset]) rfl k₀) ?_
                    show F T748 (mkF m 773 #[.val (.long q1), .second, .val (.int p2), .val (.int p3), .val (.int p4), .val (.int p5), .val (.int p6), .val (.long u), .second, .val (.int nv), .val (.int ng), .val (.int fv), .val (.int rf), .val (.int qv), .val (.int cv), .val (.int pv), .val (.int cd), .val (.int rp), .val (.int sv), .val (.int tv), .val (.ref b165), .val (.long (-9223372036854775808 : Int64)), .second, .unset, .unset] [])
                    refine hst (fun t₀ k₀ => XS.goto X748.here hx rfl (pc0 := 773) (pc' := 801) rfl (hb hby at_773) (by decide) (by decide) k₀) ?_
                    show F T748 (mkF m 801 #[.val (.long q1), .second, .val (.int p2), .val (.int p3), .val (.int p4), .val (.int p5), .val (.int p6), .val (.long u), .second, .val (.int nv), .val (.int ng), .val (.int fv), .val (.int rf), .val (.int qv), .val (.int cv), .val (.int pv), .val (.int cd), .val (.int rp), .val (.int sv), .val (.int tv), .val (.ref b165), .val (.long (-9223372036854775808 : Int64)), .second, .unset, .unset] [])
                    refine hst (fun t₀ k₀ => XS.aload X748.here hx rfl (hb hby at_801) rfl rfl k₀) ?_
                    show F T748 (mkF m 803 #[.val (.long q1), .second, .val (.int p2), .val (.int p3), .val (.int p4), .val (.int p5), .val (.int p6), .val (.long u), .second, .val (.int nv), .val (.int ng), .val (.int fv), .val (.int rf), .val (.int qv), .val (.int cv), .val (.int pv), .val (.int cd), .val (.int rp), .val (.int sv), .val (.int tv), .val (.ref b165), .val (.long (-9223372036854775808 : Int64)), .second, .unset, .unset] [(.ref b165)])
                    refine hst (fun t₀ k₀ => XS.iload X748.here hx rfl (hb hby at_803) rfl k₀) ?_
                    show F T748 (mkF m 805 #[.val (.long q1), .second, .val (.int p2), .val (.int p3), .val (.int p4), .val (.int p5), .val (.int p6), .val (.long u), .second, .val (.int nv), .val (.int ng), .val (.int fv), .val (.int rf), .val (.int qv), .val (.int cv), .val (.int pv), .val (.int cd), .val (.int rp), .val (.int sv), .val (.int tv), .val (.ref b165), .val (.long (-9223372036854775808 : Int64)), .second, .unset, .unset] [(.int fv), (.ref b165)])
                    refine hst (fun t₀ k₀ => XS.iload X748.here hx rfl (hb hby at_805) rfl k₀) ?_
                    show F T748 (mkF m 807 #[.val (.long q1), .second, .val (.int p2), .val (.int p3), .val (.int p4), .val (.int p5), .val (.int p6), .val (.long u), .second, .val (.int nv), .val (.int ng), .val (.int fv), .val (.int rf), .val (.int qv), .val (.int cv), .val (.int pv), .val (.int cd), .val (.int rp), .val (.int sv), .val (.int tv), .val (.ref b165), .val (.long (-9223372036854775808 : Int64)), .second, .unset, .unset] [(.int tv), (.int fv), (.ref b165)])
                    obtain ⟨v807, T807, Lc807, X807, hQ807, st807⟩ := own_callS X748 hx hZ hown (y := (⟨"com/example/leafline/leafline/table/IntegerValue", "parsePlain", "([BII)J"⟩ : MethodName)) (hw _ (List.mem_of_getElem? (i := 29) rfl)) (hw _ (List.mem_of_getElem? (i := 30) rfl)) (hw _ (List.mem_of_getElem? (i := 31) rfl)) (hw _ (List.mem_of_getElem? (i := 32) rfl)) (by decide) e748 (rm3 l Z a0 hw [] b165 fv tv (own_pre G 22) 22 f (s' + n) h748 n0 Z0_p748 A_b165_p748c hf ktv (by omega) (by omega) (by decide)) (by decide) (by decide) (g := (mkF m 807 #[.val (.long q1), .second, .val (.int p2), .val (.int p3), .val (.int p4), .val (.int p5), .val (.int p6), .val (.long u), .second, .val (.int nv), .val (.int ng), .val (.int fv), .val (.int rf), .val (.int qv), .val (.int cv), .val (.int pv), .val (.int cd), .val (.int rp), .val (.int sv), .val (.int tv), .val (.ref b165), .val (.long (-9223372036854775808 : Int64)), .second, .unset, .unset] [(.int tv), (.int fv), (.ref b165)])) rfl (by rw [hml]; rfl) (argsL := [(.ref b165), (.int fv), (.int tv)]) (rest := []) (lenOf pd_2 rfl) rfl rfl (W := 0) (by show 2 * 0 + _ ≤ _; exact Nat.le_of_eq rfl) (hb hby at_807) (by decide) (by decide)
                    obtain ⟨rfl, Nq807, he807⟩ := hQ807
                    have N807 := Fr.app N748 Nq807
                    refine hst st807 ?_
                    show F T807 (mkF m 810 #[.val (.long q1), .second, .val (.int p2), .val (.int p3), .val (.int p4), .val (.int p5), .val (.int p6), .val (.long u), .second, .val (.int nv), .val (.int ng), .val (.int fv), .val (.int rf), .val (.int qv), .val (.int cv), .val (.int pv), .val (.int cd), .val (.int rp), .val (.int sv), .val (.int tv), .val (.ref b165), .val (.long (-9223372036854775808 : Int64)), .second, .unset, .unset] [(.long (own_pp (own_pre G 22) f (s' + n)))])
                    refine hst (fun t₀ k₀ => XS.lstore X807.here hx rfl (hb hby at_810) rfl (l' := #[.val (.long q1), .second, .val (.int p2), .val (.int p3), .val (.int p4), .val (.int p5), .val (.int p6), .val (.long u), .second, .val (.int nv), .val (.int ng), .val (.int fv), .val (.int rf), .val (.int qv), .val (.int cv), .val (.int pv), .val (.int cd), .val (.int rp), .val (.int sv), .val (.int tv), .val (.ref b165), .val (.long (-9223372036854775808 : Int64)), .second, .val (.long (own_pp (own_pre G 22) f (s' + n))), .second]) rfl k₀) ?_
                    show F T807 (mkF m 812 #[.val (.long q1), .second, .val (.int p2), .val (.int p3), .val (.int p4), .val (.int p5), .val (.int p6), .val (.long u), .second, .val (.int nv), .val (.int ng), .val (.int fv), .val (.int rf), .val (.int qv), .val (.int cv), .val (.int pv), .val (.int cd), .val (.int rp), .val (.int sv), .val (.int tv), .val (.ref b165), .val (.long (-9223372036854775808 : Int64)), .second, .val (.long (own_pp (own_pre G 22) f (s' + n))), .second] [])
                    refine hst (fun t₀ k₀ => XS.lload X807.here hx rfl (hb hby at_812) rfl k₀) ?_
                    show F T807 (mkF m 814 #[.val (.long q1), .second, .val (.int p2), .val (.int p3), .val (.int p4), .val (.int p5), .val (.int p6), .val (.long u), .second, .val (.int nv), .val (.int ng), .val (.int fv), .val (.int rf), .val (.int qv), .val (.int cv), .val (.int pv), .val (.int cd), .val (.int rp), .val (.int sv), .val (.int tv), .val (.ref b165), .val (.long (-9223372036854775808 : Int64)), .second, .val (.long (own_pp (own_pre G 22) f (s' + n))), .second] [(.long (own_pp (own_pre G 22) f (s' + n)))])
                    refine hst (fun t₀ k₀ => XS.lload X807.here hx rfl (hb hby at_814) rfl k₀) ?_
                    show F T807 (mkF m 816 #[.val (.long q1), .second, .val (.int p2), .val (.int p3), .val (.int p4), .val (.int p5), .val (.int p6), .val (.long u), .second, .val (.int nv), .val (.int ng), .val (.int fv), .val (.int rf), .val (.int qv), .val (.int cv), .val (.int pv), .val (.int cd), .val (.int rp), .val (.int sv), .val (.int tv), .val (.ref b165), .val (.long (-9223372036854775808 : Int64)), .second, .val (.long (own_pp (own_pre G 22) f (s' + n))), .second] [(.long (-9223372036854775808 : Int64)), (.long (own_pp (own_pre G 22) f (s' + n)))])
                    refine hst (fun t₀ k₀ => XS.lcmp X807.here hx rfl (hb hby at_816) rfl k₀) ?_
                    show F T807 (mkF m 817 #[.val (.long q1), .second, .val (.int p2), .val (.int p3), .val (.int p4), .val (.int p5), .val (.int p6), .val (.long u), .second, .val (.int nv), .val (.int ng), .val (.int fv), .val (.int rf), .val (.int qv), .val (.int cv), .val (.int pv), .val (.int cd), .val (.int rp), .val (.int sv), .val (.int tv), .val (.ref b165), .val (.long (-9223372036854775808 : Int64)), .second, .val (.long (own_pp (own_pre G 22) f (s' + n))), .second] [(.int (lcmpW (own_pp (own_pre G 22) f (s' + n)) (-9223372036854775808 : Int64)))])
                    refine hst (fun t₀ k₀ => XS.ifNo X807.here hx rfl (hb hby at_817) rfl ((if0 _ _).trans (teq ((lw_eq _ _).mpr (hlaw.1 (Or.inr (Or.inr (by rcases hrp with q | q; exact absurd q hc765; exact q.1)))))).2) k₀) ?_
                    show F T807 (mkF m 820 #[.val (.long q1), .second, .val (.int p2), .val (.int p3), .val (.int p4), .val (.int p5), .val (.int p6), .val (.long u), .second, .val (.int nv), .val (.int ng), .val (.int fv), .val (.int rf), .val (.int qv), .val (.int cv), .val (.int pv), .val (.int cd), .val (.int rp), .val (.int sv), .val (.int tv), .val (.ref b165), .val (.long (-9223372036854775808 : Int64)), .second, .val (.long (own_pp (own_pre G 22) f (s' + n))), .second] [])
                    refine hst (fun t₀ k₀ => XS.iconst X807.here hx rfl (hb hby at_820) k₀) ?_
                    show F T807 (mkF m 821 #[.val (.long q1), .second, .val (.int p2), .val (.int p3), .val (.int p4), .val (.int p5), .val (.int p6), .val (.long u), .second, .val (.int nv), .val (.int ng), .val (.int fv), .val (.int rf), .val (.int qv), .val (.int cv), .val (.int pv), .val (.int cd), .val (.int rp), .val (.int sv), .val (.int tv), .val (.ref b165), .val (.long (-9223372036854775808 : Int64)), .second, .val (.long (own_pp (own_pre G 22) f (s' + n))), .second] [(.int (1 : Int32))])
                    refine hst (fun t₀ k₀ => XS.goto X807.here hx rfl (pc0 := 821) (pc' := 825) rfl (hb hby at_821) (by decide) (by decide) k₀) ?_
                    show F T807 (mkF m 825 #[.val (.long q1), .second, .val (.int p2), .val (.int p3), .val (.int p4), .val (.int p5), .val (.int p6), .val (.long u), .second, .val (.int nv), .val (.int ng), .val (.int fv), .val (.int rf), .val (.int qv), .val (.int cv), .val (.int pv), .val (.int cd), .val (.int rp), .val (.int sv), .val (.int tv), .val (.ref b165), .val (.long (-9223372036854775808 : Int64)), .second, .val (.long (own_pp (own_pre G 22) f (s' + n))), .second] [(.int (1 : Int32))])
                    rw [hF]
                    refine own_retN X807 hx hret (by simp) hlk (hb hby at_825) (by decide) (by decide) ?_
                    rw [he807]
                    exact ⟨rfl, N807⟩
            refine hst (fun t₀ k₀ => XS.iload XI.here hx rfl (hb hby at_140) rfl k₀) ?_
            show F s₁ (mkF m 142 #[.val (.long q1), .second, .val (.int p2), .val (.int p3), .val (.int p4), .val (.int p5), .val (.int p6), .val (.long u), .second, .val (.int nv), .val (.int ng), .val (.int fv), .val (.int rf), .val (.int qv), .val (.int cv), .val (.int pv), .val (.int cd), .val (.int rp), .unset, .unset, .unset, .unset, .unset, .unset, .unset] [(.int ng)])
            by_cases hc142 : ng = (0 : Int32)
            · -- pc 142: taken
              refine hst (fun t₀ k₀ => XS.ifYes XI.here hx rfl (pc0 := 142) (pc' := 152) rfl (hb hby at_142) rfl ((if0 _ _).trans (teq hc142).1) (by decide) (by decide) k₀) ?_
              show F s₁ (mkF m 152 #[.val (.long q1), .second, .val (.int p2), .val (.int p3), .val (.int p4), .val (.int p5), .val (.int p6), .val (.long u), .second, .val (.int nv), .val (.int ng), .val (.int fv), .val (.int rf), .val (.int qv), .val (.int cv), .val (.int pv), .val (.int cd), .val (.int rp), .unset, .unset, .unset, .unset, .unset, .unset, .unset] [])
              refine hst (fun t₀ k₀ => XS.iload XI.here hx rfl (hb hby at_152) rfl k₀) ?_
              show F s₁ (mkF m 154 #[.val (.long q1), .second, .val (.int p2), .val (.int p3), .val (.int p4), .val (.int p5), .val (.int p6), .val (.long u), .second, .val (.int nv), .val (.int ng), .val (.int fv), .val (.int rf), .val (.int qv), .val (.int cv), .val (.int pv), .val (.int cd), .val (.int rp), .unset, .unset, .unset, .unset, .unset, .unset, .unset] [(.int fv)])
              refine hst (fun t₀ k₀ => XS.istore XI.here hx rfl (hb hby at_154) rfl (l' := #[.val (.long q1), .second, .val (.int p2), .val (.int p3), .val (.int p4), .val (.int p5), .val (.int p6), .val (.long u), .second, .val (.int nv), .val (.int ng), .val (.int fv), .val (.int rf), .val (.int qv), .val (.int cv), .val (.int pv), .val (.int cd), .val (.int rp), .val (.int fv), .unset, .unset, .unset, .unset, .unset, .unset]) rfl k₀) ?_
              show F s₁ (mkF m 156 #[.val (.long q1), .second, .val (.int p2), .val (.int p3), .val (.int p4), .val (.int p5), .val (.int p6), .val (.long u), .second, .val (.int nv), .val (.int ng), .val (.int fv), .val (.int rf), .val (.int qv), .val (.int cv), .val (.int pv), .val (.int cd), .val (.int rp), .val (.int fv), .unset, .unset, .unset, .unset, .unset, .unset] [])
              exact J156 fv ⟨f, hf, Or.inl ⟨hc142, rfl⟩⟩
            · -- pc 142: not taken
              refine hst (fun t₀ k₀ => XS.ifNo XI.here hx rfl (hb hby at_142) rfl ((if0 _ _).trans (feq hc142).1) k₀) ?_
              show F s₁ (mkF m 145 #[.val (.long q1), .second, .val (.int p2), .val (.int p3), .val (.int p4), .val (.int p5), .val (.int p6), .val (.long u), .second, .val (.int nv), .val (.int ng), .val (.int fv), .val (.int rf), .val (.int qv), .val (.int cv), .val (.int pv), .val (.int cd), .val (.int rp), .unset, .unset, .unset, .unset, .unset, .unset, .unset] [])
              refine hst (fun t₀ k₀ => XS.iload XI.here hx rfl (hb hby at_145) rfl k₀) ?_
              show F s₁ (mkF m 147 #[.val (.long q1), .second, .val (.int p2), .val (.int p3), .val (.int p4), .val (.int p5), .val (.int p6), .val (.long u), .second, .val (.int nv), .val (.int ng), .val (.int fv), .val (.int rf), .val (.int qv), .val (.int cv), .val (.int pv), .val (.int cd), .val (.int rp), .unset, .unset, .unset, .unset, .unset, .unset, .unset] [(.int fv)])
              refine hst (fun t₀ k₀ => XS.iconst XI.here hx rfl (hb hby at_147) k₀) ?_
              show F s₁ (mkF m 148 #[.val (.long q1), .second, .val (.int p2), .val (.int p3), .val (.int p4), .val (.int p5), .val (.int p6), .val (.long u), .second, .val (.int nv), .val (.int ng), .val (.int fv), .val (.int rf), .val (.int qv), .val (.int cv), .val (.int pv), .val (.int cd), .val (.int rp), .unset, .unset, .unset, .unset, .unset, .unset, .unset] [(.int (1 : Int32)), (.int fv)])
              refine hst (fun t₀ k₀ => XS.iadd XI.here hx rfl (hb hby at_148) rfl k₀) ?_
              show F s₁ (mkF m 149 #[.val (.long q1), .second, .val (.int p2), .val (.int p3), .val (.int p4), .val (.int p5), .val (.int p6), .val (.long u), .second, .val (.int nv), .val (.int ng), .val (.int fv), .val (.int rf), .val (.int qv), .val (.int cv), .val (.int pv), .val (.int cd), .val (.int rp), .unset, .unset, .unset, .unset, .unset, .unset, .unset] [(.int (fv + (1 : Int32)))])
              refine hst (fun t₀ k₀ => XS.goto XI.here hx rfl (pc0 := 149) (pc' := 154) rfl (hb hby at_149) (by decide) (by decide) k₀) ?_
              show F s₁ (mkF m 154 #[.val (.long q1), .second, .val (.int p2), .val (.int p3), .val (.int p4), .val (.int p5), .val (.int p6), .val (.long u), .second, .val (.int nv), .val (.int ng), .val (.int fv), .val (.int rf), .val (.int qv), .val (.int cv), .val (.int pv), .val (.int cd), .val (.int rp), .unset, .unset, .unset, .unset, .unset, .unset, .unset] [(.int (fv + (1 : Int32)))])
              refine hst (fun t₀ k₀ => XS.istore XI.here hx rfl (hb hby at_154) rfl (l' := #[.val (.long q1), .second, .val (.int p2), .val (.int p3), .val (.int p4), .val (.int p5), .val (.int p6), .val (.long u), .second, .val (.int nv), .val (.int ng), .val (.int fv), .val (.int rf), .val (.int qv), .val (.int cv), .val (.int pv), .val (.int cd), .val (.int rp), .val (.int (fv + (1 : Int32))), .unset, .unset, .unset, .unset, .unset, .unset]) rfl k₀) ?_
              show F s₁ (mkF m 156 #[.val (.long q1), .second, .val (.int p2), .val (.int p3), .val (.int p4), .val (.int p5), .val (.int p6), .val (.long u), .second, .val (.int nv), .val (.int ng), .val (.int fv), .val (.int rf), .val (.int qv), .val (.int cv), .val (.int pv), .val (.int cd), .val (.int rp), .val (.int (fv + (1 : Int32))), .unset, .unset, .unset, .unset, .unset, .unset] [])
              exact J156 (fv + (1 : Int32)) ⟨f + 1, by have h1 := c_iadd fv 1; have h2 := rng32 (fv + 1); omega, Or.inr ⟨hng.resolve_left hc142, rfl⟩⟩
          refine hst (fun t₀ k₀ => XS.iload XI.here hx rfl (hb hby at_101) rfl k₀) ?_
          show F s₁ (mkF m 103 #[.val (.long q1), .second, .val (.int p2), .val (.int p3), .val (.int p4), .val (.int p5), .val (.int p6), .val (.long u), .second, .val (.int nv), .val (.int ng), .val (.int fv), .val (.int rf), .val (.int qv), .val (.int cv), .val (.int pv), .val (.int cd), .unset, .unset, .unset, .unset, .unset, .unset, .unset, .unset] [(.int rf)])
          by_cases hc103 : rf = (0 : Int32)
          · -- pc 103: taken
            refine hst (fun t₀ k₀ => XS.ifYes XI.here hx rfl (pc0 := 103) (pc' := 137) rfl (hb hby at_103) rfl ((if0 _ _).trans (teq hc103).1) (by decide) (by decide) k₀) ?_
            show F s₁ (mkF m 137 #[.val (.long q1), .second, .val (.int p2), .val (.int p3), .val (.int p4), .val (.int p5), .val (.int p6), .val (.long u), .second, .val (.int nv), .val (.int ng), .val (.int fv), .val (.int rf), .val (.int qv), .val (.int cv), .val (.int pv), .val (.int cd), .unset, .unset, .unset, .unset, .unset, .unset, .unset, .unset] [])
            refine hst (fun t₀ k₀ => XS.iconst XI.here hx rfl (hb hby at_137) k₀) ?_
            show F s₁ (mkF m 138 #[.val (.long q1), .second, .val (.int p2), .val (.int p3), .val (.int p4), .val (.int p5), .val (.int p6), .val (.long u), .second, .val (.int nv), .val (.int ng), .val (.int fv), .val (.int rf), .val (.int qv), .val (.int cv), .val (.int pv), .val (.int cd), .unset, .unset, .unset, .unset, .unset, .unset, .unset, .unset] [(.int (0 : Int32))])
            refine hst (fun t₀ k₀ => XS.istore XI.here hx rfl (hb hby at_138) rfl (l' := #[.val (.long q1), .second, .val (.int p2), .val (.int p3), .val (.int p4), .val (.int p5), .val (.int p6), .val (.long u), .second, .val (.int nv), .val (.int ng), .val (.int fv), .val (.int rf), .val (.int qv), .val (.int cv), .val (.int pv), .val (.int cd), .val (.int (0 : Int32)), .unset, .unset, .unset, .unset, .unset, .unset, .unset]) rfl k₀) ?_
            show F s₁ (mkF m 140 #[.val (.long q1), .second, .val (.int p2), .val (.int p3), .val (.int p4), .val (.int p5), .val (.int p6), .val (.long u), .second, .val (.int nv), .val (.int ng), .val (.int fv), .val (.int rf), .val (.int qv), .val (.int cv), .val (.int pv), .val (.int cd), .val (.int (0 : Int32)), .unset, .unset, .unset, .unset, .unset, .unset, .unset] [])
            exact J140 (0 : Int32) (Or.inl rfl)
          · -- pc 103: not taken
            refine hst (fun t₀ k₀ => XS.ifNo XI.here hx rfl (hb hby at_103) rfl ((if0 _ _).trans (feq hc103).1) k₀) ?_
            show F s₁ (mkF m 106 #[.val (.long q1), .second, .val (.int p2), .val (.int p3), .val (.int p4), .val (.int p5), .val (.int p6), .val (.long u), .second, .val (.int nv), .val (.int ng), .val (.int fv), .val (.int rf), .val (.int qv), .val (.int cv), .val (.int pv), .val (.int cd), .unset, .unset, .unset, .unset, .unset, .unset, .unset, .unset] [])
            refine hst (fun t₀ k₀ => XS.iload XI.here hx rfl (hb hby at_106) rfl k₀) ?_
            show F s₁ (mkF m 108 #[.val (.long q1), .second, .val (.int p2), .val (.int p3), .val (.int p4), .val (.int p5), .val (.int p6), .val (.long u), .second, .val (.int nv), .val (.int ng), .val (.int fv), .val (.int rf), .val (.int qv), .val (.int cv), .val (.int pv), .val (.int cd), .unset, .unset, .unset, .unset, .unset, .unset, .unset, .unset] [(.int nv)])
            by_cases hc108 : (0 : Int32) < nv
            · -- pc 108: not taken
              refine hst (fun t₀ k₀ => XS.ifNo XI.here hx rfl (hb hby at_108) rfl ((if0 _ _).trans (tlt hc108).2.2.2) k₀) ?_
              show F s₁ (mkF m 111 #[.val (.long q1), .second, .val (.int p2), .val (.int p3), .val (.int p4), .val (.int p5), .val (.int p6), .val (.long u), .second, .val (.int nv), .val (.int ng), .val (.int fv), .val (.int rf), .val (.int qv), .val (.int cv), .val (.int pv), .val (.int cd), .unset, .unset, .unset, .unset, .unset, .unset, .unset, .unset] [])
              refine hst (fun t₀ k₀ => XS.iload XI.here hx rfl (hb hby at_111) rfl k₀) ?_
              show F s₁ (mkF m 113 #[.val (.long q1), .second, .val (.int p2), .val (.int p3), .val (.int p4), .val (.int p5), .val (.int p6), .val (.long u), .second, .val (.int nv), .val (.int ng), .val (.int fv), .val (.int rf), .val (.int qv), .val (.int cv), .val (.int pv), .val (.int cd), .unset, .unset, .unset, .unset, .unset, .unset, .unset, .unset] [(.int cd)])
              by_cases hc113 : cd = (0 : Int32)
              · -- pc 113: not taken
                refine hst (fun t₀ k₀ => XS.ifNo XI.here hx rfl (hb hby at_113) rfl ((if0 _ _).trans (teq hc113).2) k₀) ?_
                show F s₁ (mkF m 116 #[.val (.long q1), .second, .val (.int p2), .val (.int p3), .val (.int p4), .val (.int p5), .val (.int p6), .val (.long u), .second, .val (.int nv), .val (.int ng), .val (.int fv), .val (.int rf), .val (.int qv), .val (.int cv), .val (.int pv), .val (.int cd), .unset, .unset, .unset, .unset, .unset, .unset, .unset, .unset] [])
                refine hst (fun t₀ k₀ => XS.iload XI.here hx rfl (hb hby at_116) rfl k₀) ?_
                show F s₁ (mkF m 118 #[.val (.long q1), .second, .val (.int p2), .val (.int p3), .val (.int p4), .val (.int p5), .val (.int p6), .val (.long u), .second, .val (.int nv), .val (.int ng), .val (.int fv), .val (.int rf), .val (.int qv), .val (.int cv), .val (.int pv), .val (.int cd), .unset, .unset, .unset, .unset, .unset, .unset, .unset, .unset] [(.int qv)])
                by_cases hc118 : qv = (0 : Int32)
                · -- pc 118: not taken
                  refine hst (fun t₀ k₀ => XS.ifNo XI.here hx rfl (hb hby at_118) rfl ((if0 _ _).trans (teq hc118).2) k₀) ?_
                  show F s₁ (mkF m 121 #[.val (.long q1), .second, .val (.int p2), .val (.int p3), .val (.int p4), .val (.int p5), .val (.int p6), .val (.long u), .second, .val (.int nv), .val (.int ng), .val (.int fv), .val (.int rf), .val (.int qv), .val (.int cv), .val (.int pv), .val (.int cd), .unset, .unset, .unset, .unset, .unset, .unset, .unset, .unset] [])
                  refine hst (fun t₀ k₀ => XS.iload XI.here hx rfl (hb hby at_121) rfl k₀) ?_
                  show F s₁ (mkF m 123 #[.val (.long q1), .second, .val (.int p2), .val (.int p3), .val (.int p4), .val (.int p5), .val (.int p6), .val (.long u), .second, .val (.int nv), .val (.int ng), .val (.int fv), .val (.int rf), .val (.int qv), .val (.int cv), .val (.int pv), .val (.int cd), .unset, .unset, .unset, .unset, .unset, .unset, .unset, .unset] [(.int ng)])
                  by_cases hc123 : ng = (0 : Int32)
                  · -- pc 123: not taken
                    refine hst (fun t₀ k₀ => XS.ifNo XI.here hx rfl (hb hby at_123) rfl ((if0 _ _).trans (teq hc123).2) k₀) ?_
                    show F s₁ (mkF m 126 #[.val (.long q1), .second, .val (.int p2), .val (.int p3), .val (.int p4), .val (.int p5), .val (.int p6), .val (.long u), .second, .val (.int nv), .val (.int ng), .val (.int fv), .val (.int rf), .val (.int qv), .val (.int cv), .val (.int pv), .val (.int cd), .unset, .unset, .unset, .unset, .unset, .unset, .unset, .unset] [])
                    refine hst (fun t₀ k₀ => XS.iload XI.here hx rfl (hb hby at_126) rfl k₀) ?_
                    show F s₁ (mkF m 128 #[.val (.long q1), .second, .val (.int p2), .val (.int p3), .val (.int p4), .val (.int p5), .val (.int p6), .val (.long u), .second, .val (.int nv), .val (.int ng), .val (.int fv), .val (.int rf), .val (.int qv), .val (.int cv), .val (.int pv), .val (.int cd), .unset, .unset, .unset, .unset, .unset, .unset, .unset, .unset] [(.int cv)])
                    refine hst (fun t₀ k₀ => XS.bipush XI.here hx rfl (hb hby at_128) k₀) ?_
                    show F s₁ (mkF m 130 #[.val (.long q1), .second, .val (.int p2), .val (.int p3), .val (.int p4), .val (.int p5), .val (.int p6), .val (.long u), .second, .val (.int nv), .val (.int ng), .val (.int fv), .val (.int rf), .val (.int qv), .val (.int cv), .val (.int pv), .val (.int cd), .unset, .unset, .unset, .unset, .unset, .unset, .unset, .unset] [(.int (45 : Int32)), (.int cv)])
                    by_cases hc130 : cv = (45 : Int32)
                    · -- pc 130: taken
                      refine hst (fun t₀ k₀ => XS.icmpYes XI.here hx rfl (pc0 := 130) (pc' := 137) rfl (hb hby at_130) rfl (teq hc130).1 (by decide) (by decide) k₀) ?_
                      show F s₁ (mkF m 137 #[.val (.long q1), .second, .val (.int p2), .val (.int p3), .val (.int p4), .val (.int p5), .val (.int p6), .val (.long u), .second, .val (.int nv), .val (.int ng), .val (.int fv), .val (.int rf), .val (.int qv), .val (.int cv), .val (.int pv), .val (.int cd), .unset, .unset, .unset, .unset, .unset, .unset, .unset, .unset] [])
                      refine hst (fun t₀ k₀ => XS.iconst XI.here hx rfl (hb hby at_137) k₀) ?_
                      show F s₁ (mkF m 138 #[.val (.long q1), .second, .val (.int p2), .val (.int p3), .val (.int p4), .val (.int p5), .val (.int p6), .val (.long u), .second, .val (.int nv), .val (.int ng), .val (.int fv), .val (.int rf), .val (.int qv), .val (.int cv), .val (.int pv), .val (.int cd), .unset, .unset, .unset, .unset, .unset, .unset, .unset, .unset] [(.int (0 : Int32))])
                      refine hst (fun t₀ k₀ => XS.istore XI.here hx rfl (hb hby at_138) rfl (l' := #[.val (.long q1), .second, .val (.int p2), .val (.int p3), .val (.int p4), .val (.int p5), .val (.int p6), .val (.long u), .second, .val (.int nv), .val (.int ng), .val (.int fv), .val (.int rf), .val (.int qv), .val (.int cv), .val (.int pv), .val (.int cd), .val (.int (0 : Int32)), .unset, .unset, .unset, .unset, .unset, .unset, .unset]) rfl k₀) ?_
                      show F s₁ (mkF m 140 #[.val (.long q1), .second, .val (.int p2), .val (.int p3), .val (.int p4), .val (.int p5), .val (.int p6), .val (.long u), .second, .val (.int nv), .val (.int ng), .val (.int fv), .val (.int rf), .val (.int qv), .val (.int cv), .val (.int pv), .val (.int cd), .val (.int (0 : Int32)), .unset, .unset, .unset, .unset, .unset, .unset, .unset] [])
                      exact J140 (0 : Int32) (Or.inl rfl)
                    · -- pc 130: not taken
                      refine hst (fun t₀ k₀ => XS.icmpNo XI.here hx rfl (hb hby at_130) rfl (feq hc130).1 k₀) ?_
                      show F s₁ (mkF m 133 #[.val (.long q1), .second, .val (.int p2), .val (.int p3), .val (.int p4), .val (.int p5), .val (.int p6), .val (.long u), .second, .val (.int nv), .val (.int ng), .val (.int fv), .val (.int rf), .val (.int qv), .val (.int cv), .val (.int pv), .val (.int cd), .unset, .unset, .unset, .unset, .unset, .unset, .unset, .unset] [])
                      refine hst (fun t₀ k₀ => XS.iconst XI.here hx rfl (hb hby at_133) k₀) ?_
                      show F s₁ (mkF m 134 #[.val (.long q1), .second, .val (.int p2), .val (.int p3), .val (.int p4), .val (.int p5), .val (.int p6), .val (.long u), .second, .val (.int nv), .val (.int ng), .val (.int fv), .val (.int rf), .val (.int qv), .val (.int cv), .val (.int pv), .val (.int cd), .unset, .unset, .unset, .unset, .unset, .unset, .unset, .unset] [(.int (1 : Int32))])
                      refine hst (fun t₀ k₀ => XS.goto XI.here hx rfl (pc0 := 134) (pc' := 138) rfl (hb hby at_134) (by decide) (by decide) k₀) ?_
                      show F s₁ (mkF m 138 #[.val (.long q1), .second, .val (.int p2), .val (.int p3), .val (.int p4), .val (.int p5), .val (.int p6), .val (.long u), .second, .val (.int nv), .val (.int ng), .val (.int fv), .val (.int rf), .val (.int qv), .val (.int cv), .val (.int pv), .val (.int cd), .unset, .unset, .unset, .unset, .unset, .unset, .unset, .unset] [(.int (1 : Int32))])
                      refine hst (fun t₀ k₀ => XS.istore XI.here hx rfl (hb hby at_138) rfl (l' := #[.val (.long q1), .second, .val (.int p2), .val (.int p3), .val (.int p4), .val (.int p5), .val (.int p6), .val (.long u), .second, .val (.int nv), .val (.int ng), .val (.int fv), .val (.int rf), .val (.int qv), .val (.int cv), .val (.int pv), .val (.int cd), .val (.int (1 : Int32)), .unset, .unset, .unset, .unset, .unset, .unset, .unset]) rfl k₀) ?_
                      show F s₁ (mkF m 140 #[.val (.long q1), .second, .val (.int p2), .val (.int p3), .val (.int p4), .val (.int p5), .val (.int p6), .val (.long u), .second, .val (.int nv), .val (.int ng), .val (.int fv), .val (.int rf), .val (.int qv), .val (.int cv), .val (.int pv), .val (.int cd), .val (.int (1 : Int32)), .unset, .unset, .unset, .unset, .unset, .unset, .unset] [])
                      exact J140 (1 : Int32) (Or.inr ⟨rfl, by rw [own_lt32] at hc108; omega, hcd hc113, fun q => hc130 ((own_eq32 _ _).mpr (by omega))⟩)
                  · -- pc 123: taken
                    refine hst (fun t₀ k₀ => XS.ifYes XI.here hx rfl (pc0 := 123) (pc' := 133) rfl (hb hby at_123) rfl ((if0 _ _).trans (feq hc123).2) (by decide) (by decide) k₀) ?_
                    show F s₁ (mkF m 133 #[.val (.long q1), .second, .val (.int p2), .val (.int p3), .val (.int p4), .val (.int p5), .val (.int p6), .val (.long u), .second, .val (.int nv), .val (.int ng), .val (.int fv), .val (.int rf), .val (.int qv), .val (.int cv), .val (.int pv), .val (.int cd), .unset, .unset, .unset, .unset, .unset, .unset, .unset, .unset] [])
                    refine hst (fun t₀ k₀ => XS.iconst XI.here hx rfl (hb hby at_133) k₀) ?_
                    show F s₁ (mkF m 134 #[.val (.long q1), .second, .val (.int p2), .val (.int p3), .val (.int p4), .val (.int p5), .val (.int p6), .val (.long u), .second, .val (.int nv), .val (.int ng), .val (.int fv), .val (.int rf), .val (.int qv), .val (.int cv), .val (.int pv), .val (.int cd), .unset, .unset, .unset, .unset, .unset, .unset, .unset, .unset] [(.int (1 : Int32))])
                    refine hst (fun t₀ k₀ => XS.goto XI.here hx rfl (pc0 := 134) (pc' := 138) rfl (hb hby at_134) (by decide) (by decide) k₀) ?_
                    show F s₁ (mkF m 138 #[.val (.long q1), .second, .val (.int p2), .val (.int p3), .val (.int p4), .val (.int p5), .val (.int p6), .val (.long u), .second, .val (.int nv), .val (.int ng), .val (.int fv), .val (.int rf), .val (.int qv), .val (.int cv), .val (.int pv), .val (.int cd), .unset, .unset, .unset, .unset, .unset, .unset, .unset, .unset] [(.int (1 : Int32))])
                    refine hst (fun t₀ k₀ => XS.istore XI.here hx rfl (hb hby at_138) rfl (l' := #[.val (.long q1), .second, .val (.int p2), .val (.int p3), .val (.int p4), .val (.int p5), .val (.int p6), .val (.long u), .second, .val (.int nv), .val (.int ng), .val (.int fv), .val (.int rf), .val (.int qv), .val (.int cv), .val (.int pv), .val (.int cd), .val (.int (1 : Int32)), .unset, .unset, .unset, .unset, .unset, .unset, .unset]) rfl k₀) ?_
                    show F s₁ (mkF m 140 #[.val (.long q1), .second, .val (.int p2), .val (.int p3), .val (.int p4), .val (.int p5), .val (.int p6), .val (.long u), .second, .val (.int nv), .val (.int ng), .val (.int fv), .val (.int rf), .val (.int qv), .val (.int cv), .val (.int pv), .val (.int cd), .val (.int (1 : Int32)), .unset, .unset, .unset, .unset, .unset, .unset, .unset] [])
                    exact J140 (1 : Int32) (Or.inr ⟨rfl, by rw [own_lt32] at hc108; omega, hcd hc113, fun q => hc123 q.2.1⟩)
                · -- pc 118: taken
                  refine hst (fun t₀ k₀ => XS.ifYes XI.here hx rfl (pc0 := 118) (pc' := 133) rfl (hb hby at_118) rfl ((if0 _ _).trans (feq hc118).2) (by decide) (by decide) k₀) ?_
                  show F s₁ (mkF m 133 #[.val (.long q1), .second, .val (.int p2), .val (.int p3), .val (.int p4), .val (.int p5), .val (.int p6), .val (.long u), .second, .val (.int nv), .val (.int ng), .val (.int fv), .val (.int rf), .val (.int qv), .val (.int cv), .val (.int pv), .val (.int cd), .unset, .unset, .unset, .unset, .unset, .unset, .unset, .unset] [])
                  refine hst (fun t₀ k₀ => XS.iconst XI.here hx rfl (hb hby at_133) k₀) ?_
                  show F s₁ (mkF m 134 #[.val (.long q1), .second, .val (.int p2), .val (.int p3), .val (.int p4), .val (.int p5), .val (.int p6), .val (.long u), .second, .val (.int nv), .val (.int ng), .val (.int fv), .val (.int rf), .val (.int qv), .val (.int cv), .val (.int pv), .val (.int cd), .unset, .unset, .unset, .unset, .unset, .unset, .unset, .unset] [(.int (1 : Int32))])
                  refine hst (fun t₀ k₀ => XS.goto XI.here hx rfl (pc0 := 134) (pc' := 138) rfl (hb hby at_134) (by decide) (by decide) k₀) ?_
                  show F s₁ (mkF m 138 #[.val (.long q1), .second, .val (.int p2), .val (.int p3), .val (.int p4), .val (.int p5), .val (.int p6), .val (.long u), .second, .val (.int nv), .val (.int ng), .val (.int fv), .val (.int rf), .val (.int qv), .val (.int cv), .val (.int pv), .val (.int cd), .unset, .unset, .unset, .unset, .unset, .unset, .unset, .unset] [(.int (1 : Int32))])
                  refine hst (fun t₀ k₀ => XS.istore XI.here hx rfl (hb hby at_138) rfl (l' := #[.val (.long q1), .second, .val (.int p2), .val (.int p3), .val (.int p4), .val (.int p5), .val (.int p6), .val (.long u), .second, .val (.int nv), .val (.int ng), .val (.int fv), .val (.int rf), .val (.int qv), .val (.int cv), .val (.int pv), .val (.int cd), .val (.int (1 : Int32)), .unset, .unset, .unset, .unset, .unset, .unset, .unset]) rfl k₀) ?_
                  show F s₁ (mkF m 140 #[.val (.long q1), .second, .val (.int p2), .val (.int p3), .val (.int p4), .val (.int p5), .val (.int p6), .val (.long u), .second, .val (.int nv), .val (.int ng), .val (.int fv), .val (.int rf), .val (.int qv), .val (.int cv), .val (.int pv), .val (.int cd), .val (.int (1 : Int32)), .unset, .unset, .unset, .unset, .unset, .unset, .unset] [])
                  exact J140 (1 : Int32) (Or.inr ⟨rfl, by rw [own_lt32] at hc108; omega, hcd hc113, fun q => hc118 ((own_eq32 _ _).mpr (by omega))⟩)
              · -- pc 113: taken
                refine hst (fun t₀ k₀ => XS.ifYes XI.here hx rfl (pc0 := 113) (pc' := 137) rfl (hb hby at_113) rfl ((if0 _ _).trans (feq hc113).2) (by decide) (by decide) k₀) ?_
                show F s₁ (mkF m 137 #[.val (.long q1), .second, .val (.int p2), .val (.int p3), .val (.int p4), .val (.int p5), .val (.int p6), .val (.long u), .second, .val (.int nv), .val (.int ng), .val (.int fv), .val (.int rf), .val (.int qv), .val (.int cv), .val (.int pv), .val (.int cd), .unset, .unset, .unset, .unset, .unset, .unset, .unset, .unset] [])
                refine hst (fun t₀ k₀ => XS.iconst XI.here hx rfl (hb hby at_137) k₀) ?_
                show F s₁ (mkF m 138 #[.val (.long q1), .second, .val (.int p2), .val (.int p3), .val (.int p4), .val (.int p5), .val (.int p6), .val (.long u), .second, .val (.int nv), .val (.int ng), .val (.int fv), .val (.int rf), .val (.int qv), .val (.int cv), .val (.int pv), .val (.int cd), .unset, .unset, .unset, .unset, .unset, .unset, .unset, .unset] [(.int (0 : Int32))])
                refine hst (fun t₀ k₀ => XS.istore XI.here hx rfl (hb hby at_138) rfl (l' := #[.val (.long q1), .second, .val (.int p2), .val (.int p3), .val (.int p4), .val (.int p5), .val (.int p6), .val (.long u), .second, .val (.int nv), .val (.int ng), .val (.int fv), .val (.int rf), .val (.int qv), .val (.int cv), .val (.int pv), .val (.int cd), .val (.int (0 : Int32)), .unset, .unset, .unset, .unset, .unset, .unset, .unset]) rfl k₀) ?_
                show F s₁ (mkF m 140 #[.val (.long q1), .second, .val (.int p2), .val (.int p3), .val (.int p4), .val (.int p5), .val (.int p6), .val (.long u), .second, .val (.int nv), .val (.int ng), .val (.int fv), .val (.int rf), .val (.int qv), .val (.int cv), .val (.int pv), .val (.int cd), .val (.int (0 : Int32)), .unset, .unset, .unset, .unset, .unset, .unset, .unset] [])
                exact J140 (0 : Int32) (Or.inl rfl)
            · -- pc 108: taken
              refine hst (fun t₀ k₀ => XS.ifYes XI.here hx rfl (pc0 := 108) (pc' := 137) rfl (hb hby at_108) rfl ((if0 _ _).trans (flt hc108).2.2.2) (by decide) (by decide) k₀) ?_
              show F s₁ (mkF m 137 #[.val (.long q1), .second, .val (.int p2), .val (.int p3), .val (.int p4), .val (.int p5), .val (.int p6), .val (.long u), .second, .val (.int nv), .val (.int ng), .val (.int fv), .val (.int rf), .val (.int qv), .val (.int cv), .val (.int pv), .val (.int cd), .unset, .unset, .unset, .unset, .unset, .unset, .unset, .unset] [])
              refine hst (fun t₀ k₀ => XS.iconst XI.here hx rfl (hb hby at_137) k₀) ?_
              show F s₁ (mkF m 138 #[.val (.long q1), .second, .val (.int p2), .val (.int p3), .val (.int p4), .val (.int p5), .val (.int p6), .val (.long u), .second, .val (.int nv), .val (.int ng), .val (.int fv), .val (.int rf), .val (.int qv), .val (.int cv), .val (.int pv), .val (.int cd), .unset, .unset, .unset, .unset, .unset, .unset, .unset, .unset] [(.int (0 : Int32))])
              refine hst (fun t₀ k₀ => XS.istore XI.here hx rfl (hb hby at_138) rfl (l' := #[.val (.long q1), .second, .val (.int p2), .val (.int p3), .val (.int p4), .val (.int p5), .val (.int p6), .val (.long u), .second, .val (.int nv), .val (.int ng), .val (.int fv), .val (.int rf), .val (.int qv), .val (.int cv), .val (.int pv), .val (.int cd), .val (.int (0 : Int32)), .unset, .unset, .unset, .unset, .unset, .unset, .unset]) rfl k₀) ?_
              show F s₁ (mkF m 140 #[.val (.long q1), .second, .val (.int p2), .val (.int p3), .val (.int p4), .val (.int p5), .val (.int p6), .val (.long u), .second, .val (.int nv), .val (.int ng), .val (.int fv), .val (.int rf), .val (.int qv), .val (.int cv), .val (.int pv), .val (.int cd), .val (.int (0 : Int32)), .unset, .unset, .unset, .unset, .unset, .unset, .unset] [])
              exact J140 (0 : Int32) (Or.inl rfl)
        refine hst (fun t₀ k₀ => XS.iload XI.here hx rfl (hb hby at_80) rfl k₀) ?_
        show F s₁ (mkF m 82 #[.val (.long q1), .second, .val (.int p2), .val (.int p3), .val (.int p4), .val (.int p5), .val (.int p6), .val (.long u), .second, .val (.int nv), .val (.int ng), .val (.int fv), .val (.int rf), .val (.int qv), .val (.int cv), .val (.int pv), .unset, .unset, .unset, .unset, .unset, .unset, .unset, .unset, .unset] [(.int cv)])
        refine hst (fun t₀ k₀ => XS.bipush XI.here hx rfl (hb hby at_82) k₀) ?_
        show F s₁ (mkF m 84 #[.val (.long q1), .second, .val (.int p2), .val (.int p3), .val (.int p4), .val (.int p5), .val (.int p6), .val (.long u), .second, .val (.int nv), .val (.int ng), .val (.int fv), .val (.int rf), .val (.int qv), .val (.int cv), .val (.int pv), .unset, .unset, .unset, .unset, .unset, .unset, .unset, .unset, .unset] [(.int (48 : Int32)), (.int cv)])
        by_cases hc84 : cv < (48 : Int32)
        · -- pc 84: taken
          refine hst (fun t₀ k₀ => XS.icmpYes XI.here hx rfl (pc0 := 84) (pc' := 98) rfl (hb hby at_84) rfl (tlt hc84).1 (by decide) (by decide) k₀) ?_
          show F s₁ (mkF m 98 #[.val (.long q1), .second, .val (.int p2), .val (.int p3), .val (.int p4), .val (.int p5), .val (.int p6), .val (.long u), .second, .val (.int nv), .val (.int ng), .val (.int fv), .val (.int rf), .val (.int qv), .val (.int cv), .val (.int pv), .unset, .unset, .unset, .unset, .unset, .unset, .unset, .unset, .unset] [])
          refine hst (fun t₀ k₀ => XS.iconst XI.here hx rfl (hb hby at_98) k₀) ?_
          show F s₁ (mkF m 99 #[.val (.long q1), .second, .val (.int p2), .val (.int p3), .val (.int p4), .val (.int p5), .val (.int p6), .val (.long u), .second, .val (.int nv), .val (.int ng), .val (.int fv), .val (.int rf), .val (.int qv), .val (.int cv), .val (.int pv), .unset, .unset, .unset, .unset, .unset, .unset, .unset, .unset, .unset] [(.int (0 : Int32))])
          refine hst (fun t₀ k₀ => XS.istore XI.here hx rfl (hb hby at_99) rfl (l' := #[.val (.long q1), .second, .val (.int p2), .val (.int p3), .val (.int p4), .val (.int p5), .val (.int p6), .val (.long u), .second, .val (.int nv), .val (.int ng), .val (.int fv), .val (.int rf), .val (.int qv), .val (.int cv), .val (.int pv), .val (.int (0 : Int32)), .unset, .unset, .unset, .unset, .unset, .unset, .unset, .unset]) rfl k₀) ?_
          show F s₁ (mkF m 101 #[.val (.long q1), .second, .val (.int p2), .val (.int p3), .val (.int p4), .val (.int p5), .val (.int p6), .val (.long u), .second, .val (.int nv), .val (.int ng), .val (.int fv), .val (.int rf), .val (.int qv), .val (.int cv), .val (.int pv), .val (.int (0 : Int32)), .unset, .unset, .unset, .unset, .unset, .unset, .unset, .unset] [])
          exact J101 (0 : Int32) (fun _ => by rw [own_lt32] at hc84; omega)
        · -- pc 84: not taken
          refine hst (fun t₀ k₀ => XS.icmpNo XI.here hx rfl (hb hby at_84) rfl (flt hc84).1 k₀) ?_
          show F s₁ (mkF m 87 #[.val (.long q1), .second, .val (.int p2), .val (.int p3), .val (.int p4), .val (.int p5), .val (.int p6), .val (.long u), .second, .val (.int nv), .val (.int ng), .val (.int fv), .val (.int rf), .val (.int qv), .val (.int cv), .val (.int pv), .unset, .unset, .unset, .unset, .unset, .unset, .unset, .unset, .unset] [])
          refine hst (fun t₀ k₀ => XS.iload XI.here hx rfl (hb hby at_87) rfl k₀) ?_
          show F s₁ (mkF m 89 #[.val (.long q1), .second, .val (.int p2), .val (.int p3), .val (.int p4), .val (.int p5), .val (.int p6), .val (.long u), .second, .val (.int nv), .val (.int ng), .val (.int fv), .val (.int rf), .val (.int qv), .val (.int cv), .val (.int pv), .unset, .unset, .unset, .unset, .unset, .unset, .unset, .unset, .unset] [(.int cv)])
          refine hst (fun t₀ k₀ => XS.bipush XI.here hx rfl (hb hby at_89) k₀) ?_
          show F s₁ (mkF m 91 #[.val (.long q1), .second, .val (.int p2), .val (.int p3), .val (.int p4), .val (.int p5), .val (.int p6), .val (.long u), .second, .val (.int nv), .val (.int ng), .val (.int fv), .val (.int rf), .val (.int qv), .val (.int cv), .val (.int pv), .unset, .unset, .unset, .unset, .unset, .unset, .unset, .unset, .unset] [(.int (57 : Int32)), (.int cv)])
          by_cases hc91 : (57 : Int32) < cv
          · -- pc 91: taken
            refine hst (fun t₀ k₀ => XS.icmpYes XI.here hx rfl (pc0 := 91) (pc' := 98) rfl (hb hby at_91) rfl (tlt hc91).2.2.1 (by decide) (by decide) k₀) ?_
            show F s₁ (mkF m 98 #[.val (.long q1), .second, .val (.int p2), .val (.int p3), .val (.int p4), .val (.int p5), .val (.int p6), .val (.long u), .second, .val (.int nv), .val (.int ng), .val (.int fv), .val (.int rf), .val (.int qv), .val (.int cv), .val (.int pv), .unset, .unset, .unset, .unset, .unset, .unset, .unset, .unset, .unset] [])
            refine hst (fun t₀ k₀ => XS.iconst XI.here hx rfl (hb hby at_98) k₀) ?_
            show F s₁ (mkF m 99 #[.val (.long q1), .second, .val (.int p2), .val (.int p3), .val (.int p4), .val (.int p5), .val (.int p6), .val (.long u), .second, .val (.int nv), .val (.int ng), .val (.int fv), .val (.int rf), .val (.int qv), .val (.int cv), .val (.int pv), .unset, .unset, .unset, .unset, .unset, .unset, .unset, .unset, .unset] [(.int (0 : Int32))])
            refine hst (fun t₀ k₀ => XS.istore XI.here hx rfl (hb hby at_99) rfl (l' := #[.val (.long q1), .second, .val (.int p2), .val (.int p3), .val (.int p4), .val (.int p5), .val (.int p6), .val (.long u), .second, .val (.int nv), .val (.int ng), .val (.int fv), .val (.int rf), .val (.int qv), .val (.int cv), .val (.int pv), .val (.int (0 : Int32)), .unset, .unset, .unset, .unset, .unset, .unset, .unset, .unset]) rfl k₀) ?_
            show F s₁ (mkF m 101 #[.val (.long q1), .second, .val (.int p2), .val (.int p3), .val (.int p4), .val (.int p5), .val (.int p6), .val (.long u), .second, .val (.int nv), .val (.int ng), .val (.int fv), .val (.int rf), .val (.int qv), .val (.int cv), .val (.int pv), .val (.int (0 : Int32)), .unset, .unset, .unset, .unset, .unset, .unset, .unset, .unset] [])
            exact J101 (0 : Int32) (fun _ => by rw [own_lt32] at hc91; omega)
          · -- pc 91: not taken
            refine hst (fun t₀ k₀ => XS.icmpNo XI.here hx rfl (hb hby at_91) rfl (flt hc91).2.2.1 k₀) ?_
            show F s₁ (mkF m 94 #[.val (.long q1), .second, .val (.int p2), .val (.int p3), .val (.int p4), .val (.int p5), .val (.int p6), .val (.long u), .second, .val (.int nv), .val (.int ng), .val (.int fv), .val (.int rf), .val (.int qv), .val (.int cv), .val (.int pv), .unset, .unset, .unset, .unset, .unset, .unset, .unset, .unset, .unset] [])
            refine hst (fun t₀ k₀ => XS.iconst XI.here hx rfl (hb hby at_94) k₀) ?_
            show F s₁ (mkF m 95 #[.val (.long q1), .second, .val (.int p2), .val (.int p3), .val (.int p4), .val (.int p5), .val (.int p6), .val (.long u), .second, .val (.int nv), .val (.int ng), .val (.int fv), .val (.int rf), .val (.int qv), .val (.int cv), .val (.int pv), .unset, .unset, .unset, .unset, .unset, .unset, .unset, .unset, .unset] [(.int (1 : Int32))])
            refine hst (fun t₀ k₀ => XS.goto XI.here hx rfl (pc0 := 95) (pc' := 99) rfl (hb hby at_95) (by decide) (by decide) k₀) ?_
            show F s₁ (mkF m 99 #[.val (.long q1), .second, .val (.int p2), .val (.int p3), .val (.int p4), .val (.int p5), .val (.int p6), .val (.long u), .second, .val (.int nv), .val (.int ng), .val (.int fv), .val (.int rf), .val (.int qv), .val (.int cv), .val (.int pv), .unset, .unset, .unset, .unset, .unset, .unset, .unset, .unset, .unset] [(.int (1 : Int32))])
            refine hst (fun t₀ k₀ => XS.istore XI.here hx rfl (hb hby at_99) rfl (l' := #[.val (.long q1), .second, .val (.int p2), .val (.int p3), .val (.int p4), .val (.int p5), .val (.int p6), .val (.long u), .second, .val (.int nv), .val (.int ng), .val (.int fv), .val (.int rf), .val (.int qv), .val (.int cv), .val (.int pv), .val (.int (1 : Int32)), .unset, .unset, .unset, .unset, .unset, .unset, .unset, .unset]) rfl k₀) ?_
            show F s₁ (mkF m 101 #[.val (.long q1), .second, .val (.int p2), .val (.int p3), .val (.int p4), .val (.int p5), .val (.int p6), .val (.long u), .second, .val (.int nv), .val (.int ng), .val (.int fv), .val (.int rf), .val (.int qv), .val (.int cv), .val (.int pv), .val (.int (1 : Int32)), .unset, .unset, .unset, .unset, .unset, .unset, .unset, .unset] [])
            exact J101 (1 : Int32) (fun q => absurd q n10)
      by_cases hc53 : (0 : Int32) < nv
      · -- pc 53: not taken
        refine hst (fun t₀ k₀ => XS.ifNo XI.here hx rfl (hb hby at_53) rfl ((if0 _ _).trans (tlt hc53).2.2.2) k₀) ?_
        show F s₁ (mkF m 56 #[.val (.long q1), .second, .val (.int p2), .val (.int p3), .val (.int p4), .val (.int p5), .val (.int p6), .val (.long u), .second, .val (.int nv), .val (.int ng), .val (.int fv), .val (.int rf), .unset, .unset, .unset, .unset, .unset, .unset, .unset, .unset, .unset, .unset, .unset, .unset] [])
        refine hst (fun t₀ k₀ => XS.iload XI.here hx rfl (hb hby at_56) rfl k₀) ?_
        show F s₁ (mkF m 58 #[.val (.long q1), .second, .val (.int p2), .val (.int p3), .val (.int p4), .val (.int p5), .val (.int p6), .val (.long u), .second, .val (.int nv), .val (.int ng), .val (.int fv), .val (.int rf), .unset, .unset, .unset, .unset, .unset, .unset, .unset, .unset, .unset, .unset, .unset, .unset] [(.int p4)])
        refine hst (fun t₀ k₀ => XI.ldcI hx hown (mvT hZ (hw _ (List.mem_of_getElem? (i := 1) rfl))) (g := (mkF m 58 #[.val (.long q1), .second, .val (.int p2), .val (.int p3), .val (.int p4), .val (.int p5), .val (.int p6), .val (.long u), .second, .val (.int nv), .val (.int ng), .val (.int fv), .val (.int rf), .unset, .unset, .unset, .unset, .unset, .unset, .unset, .unset, .unset, .unset, .unset, .unset] [(.int p4)])) rfl (hb hby at_58) k₀) ?_
        show F s₁ (mkF m 60 #[.val (.long q1), .second, .val (.int p2), .val (.int p3), .val (.int p4), .val (.int p5), .val (.int p6), .val (.long u), .second, .val (.int nv), .val (.int ng), .val (.int fv), .val (.int rf), .unset, .unset, .unset, .unset, .unset, .unset, .unset, .unset, .unset, .unset, .unset, .unset] [(.int (2147483647 : Int32)), (.int p4)])
        refine hst (fun t₀ k₀ => XS.iand XI.here hx rfl (hb hby at_60) rfl k₀) ?_
        show F s₁ (mkF m 61 #[.val (.long q1), .second, .val (.int p2), .val (.int p3), .val (.int p4), .val (.int p5), .val (.int p6), .val (.long u), .second, .val (.int nv), .val (.int ng), .val (.int fv), .val (.int rf), .unset, .unset, .unset, .unset, .unset, .unset, .unset, .unset, .unset, .unset, .unset, .unset] [(.int (p4 &&& (2147483647 : Int32)))])
        refine hst (fun t₀ k₀ => XS.iload XI.here hx rfl (hb hby at_61) rfl k₀) ?_
        show F s₁ (mkF m 63 #[.val (.long q1), .second, .val (.int p2), .val (.int p3), .val (.int p4), .val (.int p5), .val (.int p6), .val (.long u), .second, .val (.int nv), .val (.int ng), .val (.int fv), .val (.int rf), .unset, .unset, .unset, .unset, .unset, .unset, .unset, .unset, .unset, .unset, .unset, .unset] [(.int nv), (.int (p4 &&& (2147483647 : Int32)))])
        refine hst (fun t₀ k₀ => iremM XI hx rfl (hb hby at_63) rfl (fun q => by rw [own_lt32] at hc53; rw [own_eq32] at q; omega) k₀) ?_
        show F s₁ (mkF m 64 #[.val (.long q1), .second, .val (.int p2), .val (.int p3), .val (.int p4), .val (.int p5), .val (.int p6), .val (.long u), .second, .val (.int nv), .val (.int ng), .val (.int fv), .val (.int rf), .unset, .unset, .unset, .unset, .unset, .unset, .unset, .unset, .unset, .unset, .unset, .unset] [(.int ((p4 &&& (2147483647 : Int32)) % nv))])
        refine hst (fun t₀ k₀ => XS.goto XI.here hx rfl (pc0 := 64) (pc' := 68) rfl (hb hby at_64) (by decide) (by decide) k₀) ?_
        show F s₁ (mkF m 68 #[.val (.long q1), .second, .val (.int p2), .val (.int p3), .val (.int p4), .val (.int p5), .val (.int p6), .val (.long u), .second, .val (.int nv), .val (.int ng), .val (.int fv), .val (.int rf), .unset, .unset, .unset, .unset, .unset, .unset, .unset, .unset, .unset, .unset, .unset, .unset] [(.int ((p4 &&& (2147483647 : Int32)) % nv))])
        refine hst (fun t₀ k₀ => XS.istore XI.here hx rfl (hb hby at_68) rfl (l' := #[.val (.long q1), .second, .val (.int p2), .val (.int p3), .val (.int p4), .val (.int p5), .val (.int p6), .val (.long u), .second, .val (.int nv), .val (.int ng), .val (.int fv), .val (.int rf), .val (.int ((p4 &&& (2147483647 : Int32)) % nv)), .unset, .unset, .unset, .unset, .unset, .unset, .unset, .unset, .unset, .unset, .unset]) rfl k₀) ?_
        show F s₁ (mkF m 70 #[.val (.long q1), .second, .val (.int p2), .val (.int p3), .val (.int p4), .val (.int p5), .val (.int p6), .val (.long u), .second, .val (.int nv), .val (.int ng), .val (.int fv), .val (.int rf), .val (.int ((p4 &&& (2147483647 : Int32)) % nv)), .unset, .unset, .unset, .unset, .unset, .unset, .unset, .unset, .unset, .unset, .unset] [])
        exact J70 ((p4 &&& (2147483647 : Int32)) % nv) (by rw [own_lt32] at hc53; have h1 := c_mask p4 2147483647 31 (by decide) (by decide); have h2 := c_iremV (p4 &&& 2147483647) nv; have h3 := h2.1 (by omega) (by omega); exact ⟨_, (Int.toNat_of_nonneg h3.1).symm, fun _ => by omega⟩)
      · -- pc 53: taken
        refine hst (fun t₀ k₀ => XS.ifYes XI.here hx rfl (pc0 := 53) (pc' := 67) rfl (hb hby at_53) rfl ((if0 _ _).trans (flt hc53).2.2.2) (by decide) (by decide) k₀) ?_
        show F s₁ (mkF m 67 #[.val (.long q1), .second, .val (.int p2), .val (.int p3), .val (.int p4), .val (.int p5), .val (.int p6), .val (.long u), .second, .val (.int nv), .val (.int ng), .val (.int fv), .val (.int rf), .unset, .unset, .unset, .unset, .unset, .unset, .unset, .unset, .unset, .unset, .unset, .unset] [])
        refine hst (fun t₀ k₀ => XS.iconst XI.here hx rfl (hb hby at_67) k₀) ?_
        show F s₁ (mkF m 68 #[.val (.long q1), .second, .val (.int p2), .val (.int p3), .val (.int p4), .val (.int p5), .val (.int p6), .val (.long u), .second, .val (.int nv), .val (.int ng), .val (.int fv), .val (.int rf), .unset, .unset, .unset, .unset, .unset, .unset, .unset, .unset, .unset, .unset, .unset, .unset] [(.int (0 : Int32))])
        refine hst (fun t₀ k₀ => XS.istore XI.here hx rfl (hb hby at_68) rfl (l' := #[.val (.long q1), .second, .val (.int p2), .val (.int p3), .val (.int p4), .val (.int p5), .val (.int p6), .val (.long u), .second, .val (.int nv), .val (.int ng), .val (.int fv), .val (.int rf), .val (.int (0 : Int32)), .unset, .unset, .unset, .unset, .unset, .unset, .unset, .unset, .unset, .unset, .unset]) rfl k₀) ?_
        show F s₁ (mkF m 70 #[.val (.long q1), .second, .val (.int p2), .val (.int p3), .val (.int p4), .val (.int p5), .val (.int p6), .val (.long u), .second, .val (.int nv), .val (.int ng), .val (.int fv), .val (.int rf), .val (.int (0 : Int32)), .unset, .unset, .unset, .unset, .unset, .unset, .unset, .unset, .unset, .unset, .unset] [])
        exact J70 (0 : Int32) ⟨0, by decide, fun h => h⟩
    by_cases hc41 : ((p3 >>> ((2 : Int32) &&& 31)) &&& (1 : Int32)) = (0 : Int32)
    · -- pc 41: taken
      refine hst (fun t₀ k₀ => XS.ifYes XI.here hx rfl (pc0 := 41) (pc' := 48) rfl (hb hby at_41) rfl ((if0 _ _).trans (teq hc41).1) (by decide) (by decide) k₀) ?_
      show F s₁ (mkF m 48 #[.val (.long q1), .second, .val (.int p2), .val (.int p3), .val (.int p4), .val (.int p5), .val (.int p6), .val (.long u), .second, .val (.int nv), .val (.int ng), .val (.int fv), .unset, .unset, .unset, .unset, .unset, .unset, .unset, .unset, .unset, .unset, .unset, .unset, .unset] [])
      refine hst (fun t₀ k₀ => XS.iconst XI.here hx rfl (hb hby at_48) k₀) ?_
      show F s₁ (mkF m 49 #[.val (.long q1), .second, .val (.int p2), .val (.int p3), .val (.int p4), .val (.int p5), .val (.int p6), .val (.long u), .second, .val (.int nv), .val (.int ng), .val (.int fv), .unset, .unset, .unset, .unset, .unset, .unset, .unset, .unset, .unset, .unset, .unset, .unset, .unset] [(.int (0 : Int32))])
      refine hst (fun t₀ k₀ => XS.istore XI.here hx rfl (hb hby at_49) rfl (l' := #[.val (.long q1), .second, .val (.int p2), .val (.int p3), .val (.int p4), .val (.int p5), .val (.int p6), .val (.long u), .second, .val (.int nv), .val (.int ng), .val (.int fv), .val (.int (0 : Int32)), .unset, .unset, .unset, .unset, .unset, .unset, .unset, .unset, .unset, .unset, .unset, .unset]) rfl k₀) ?_
      show F s₁ (mkF m 51 #[.val (.long q1), .second, .val (.int p2), .val (.int p3), .val (.int p4), .val (.int p5), .val (.int p6), .val (.long u), .second, .val (.int nv), .val (.int ng), .val (.int fv), .val (.int (0 : Int32)), .unset, .unset, .unset, .unset, .unset, .unset, .unset, .unset, .unset, .unset, .unset, .unset] [])
      exact J51 (0 : Int32) trivial
    · -- pc 41: not taken
      refine hst (fun t₀ k₀ => XS.ifNo XI.here hx rfl (hb hby at_41) rfl ((if0 _ _).trans (feq hc41).1) k₀) ?_
      show F s₁ (mkF m 44 #[.val (.long q1), .second, .val (.int p2), .val (.int p3), .val (.int p4), .val (.int p5), .val (.int p6), .val (.long u), .second, .val (.int nv), .val (.int ng), .val (.int fv), .unset, .unset, .unset, .unset, .unset, .unset, .unset, .unset, .unset, .unset, .unset, .unset, .unset] [])
      refine hst (fun t₀ k₀ => XS.iconst XI.here hx rfl (hb hby at_44) k₀) ?_
      show F s₁ (mkF m 45 #[.val (.long q1), .second, .val (.int p2), .val (.int p3), .val (.int p4), .val (.int p5), .val (.int p6), .val (.long u), .second, .val (.int nv), .val (.int ng), .val (.int fv), .unset, .unset, .unset, .unset, .unset, .unset, .unset, .unset, .unset, .unset, .unset, .unset, .unset] [(.int (1 : Int32))])
      refine hst (fun t₀ k₀ => XS.goto XI.here hx rfl (pc0 := 45) (pc' := 49) rfl (hb hby at_45) (by decide) (by decide) k₀) ?_
      show F s₁ (mkF m 49 #[.val (.long q1), .second, .val (.int p2), .val (.int p3), .val (.int p4), .val (.int p5), .val (.int p6), .val (.long u), .second, .val (.int nv), .val (.int ng), .val (.int fv), .unset, .unset, .unset, .unset, .unset, .unset, .unset, .unset, .unset, .unset, .unset, .unset, .unset] [(.int (1 : Int32))])
      refine hst (fun t₀ k₀ => XS.istore XI.here hx rfl (hb hby at_49) rfl (l' := #[.val (.long q1), .second, .val (.int p2), .val (.int p3), .val (.int p4), .val (.int p5), .val (.int p6), .val (.long u), .second, .val (.int nv), .val (.int ng), .val (.int fv), .val (.int (1 : Int32)), .unset, .unset, .unset, .unset, .unset, .unset, .unset, .unset, .unset, .unset, .unset, .unset]) rfl k₀) ?_
      show F s₁ (mkF m 51 #[.val (.long q1), .second, .val (.int p2), .val (.int p3), .val (.int p4), .val (.int p5), .val (.int p6), .val (.long u), .second, .val (.int nv), .val (.int ng), .val (.int fv), .val (.int (1 : Int32)), .unset, .unset, .unset, .unset, .unset, .unset, .unset, .unset, .unset, .unset, .unset, .unset] [])
      exact J51 (1 : Int32) trivial
  by_cases hc19 : (p3 &&& (1 : Int32)) = (0 : Int32)
  · -- pc 19: taken
    refine hst (fun t₀ k₀ => XS.ifYes XI.here hx rfl (pc0 := 19) (pc' := 26) rfl (hb hby at_19) rfl ((if0 _ _).trans (teq hc19).1) (by decide) (by decide) k₀) ?_
    show F s₁ (mkF m 26 #[.val (.long q1), .second, .val (.int p2), .val (.int p3), .val (.int p4), .val (.int p5), .val (.int p6), .val (.long u), .second, .val (.int nv), .unset, .unset, .unset, .unset, .unset, .unset, .unset, .unset, .unset, .unset, .unset, .unset, .unset, .unset, .unset] [])
    refine hst (fun t₀ k₀ => XS.iconst XI.here hx rfl (hb hby at_26) k₀) ?_
    show F s₁ (mkF m 27 #[.val (.long q1), .second, .val (.int p2), .val (.int p3), .val (.int p4), .val (.int p5), .val (.int p6), .val (.long u), .second, .val (.int nv), .unset, .unset, .unset, .unset, .unset, .unset, .unset, .unset, .unset, .unset, .unset, .unset, .unset, .unset, .unset] [(.int (0 : Int32))])
    refine hst (fun t₀ k₀ => XS.istore XI.here hx rfl (hb hby at_27) rfl (l' := #[.val (.long q1), .second, .val (.int p2), .val (.int p3), .val (.int p4), .val (.int p5), .val (.int p6), .val (.long u), .second, .val (.int nv), .val (.int (0 : Int32)), .unset, .unset, .unset, .unset, .unset, .unset, .unset, .unset, .unset, .unset, .unset, .unset, .unset, .unset]) rfl k₀) ?_
    show F s₁ (mkF m 29 #[.val (.long q1), .second, .val (.int p2), .val (.int p3), .val (.int p4), .val (.int p5), .val (.int p6), .val (.long u), .second, .val (.int nv), .val (.int (0 : Int32)), .unset, .unset, .unset, .unset, .unset, .unset, .unset, .unset, .unset, .unset, .unset, .unset, .unset, .unset] [])
    exact J29 (0 : Int32) (by first | exact Or.inl rfl | exact Or.inr rfl)
  · -- pc 19: not taken
    refine hst (fun t₀ k₀ => XS.ifNo XI.here hx rfl (hb hby at_19) rfl ((if0 _ _).trans (feq hc19).1) k₀) ?_
    show F s₁ (mkF m 22 #[.val (.long q1), .second, .val (.int p2), .val (.int p3), .val (.int p4), .val (.int p5), .val (.int p6), .val (.long u), .second, .val (.int nv), .unset, .unset, .unset, .unset, .unset, .unset, .unset, .unset, .unset, .unset, .unset, .unset, .unset, .unset, .unset] [])
    refine hst (fun t₀ k₀ => XS.iconst XI.here hx rfl (hb hby at_22) k₀) ?_
    show F s₁ (mkF m 23 #[.val (.long q1), .second, .val (.int p2), .val (.int p3), .val (.int p4), .val (.int p5), .val (.int p6), .val (.long u), .second, .val (.int nv), .unset, .unset, .unset, .unset, .unset, .unset, .unset, .unset, .unset, .unset, .unset, .unset, .unset, .unset, .unset] [(.int (1 : Int32))])
    refine hst (fun t₀ k₀ => XS.goto XI.here hx rfl (pc0 := 23) (pc' := 27) rfl (hb hby at_23) (by decide) (by decide) k₀) ?_
    show F s₁ (mkF m 27 #[.val (.long q1), .second, .val (.int p2), .val (.int p3), .val (.int p4), .val (.int p5), .val (.int p6), .val (.long u), .second, .val (.int nv), .unset, .unset, .unset, .unset, .unset, .unset, .unset, .unset, .unset, .unset, .unset, .unset, .unset, .unset, .unset] [(.int (1 : Int32))])
    refine hst (fun t₀ k₀ => XS.istore XI.here hx rfl (hb hby at_27) rfl (l' := #[.val (.long q1), .second, .val (.int p2), .val (.int p3), .val (.int p4), .val (.int p5), .val (.int p6), .val (.long u), .second, .val (.int nv), .val (.int (1 : Int32)), .unset, .unset, .unset, .unset, .unset, .unset, .unset, .unset, .unset, .unset, .unset, .unset, .unset, .unset]) rfl k₀) ?_
    show F s₁ (mkF m 29 #[.val (.long q1), .second, .val (.int p2), .val (.int p3), .val (.int p4), .val (.int p5), .val (.int p6), .val (.long u), .second, .val (.int nv), .val (.int (1 : Int32)), .unset, .unset, .unset, .unset, .unset, .unset, .unset, .unset, .unset, .unset, .unset, .unset, .unset, .unset] [])
    exact J29 (1 : Int32) (by first | exact Or.inl rfl | exact Or.inr rfl)
set_option maxRecDepth 65536 in
set_option maxHeartbeats 40000000 in
theorem comes_1 {Post : Tables → Env → Array Value → State → Outcome → State → Prop} (hpost : ∀ tb e args s v u, (limb_1_1.after args s (.returned v) u = true ∧ limb_1_2.after args s (.returned v) u = true ∧ True) → FrameEnd s (.returned v) u (Jvm.fieldLocs frame_1_writes args s ++ Jvm.arrayLocs frame_1_arrays args s ++ Jvm.staticLocs frame_1_statics s) 48 832 → Post tb e args s (.returned v) u) :
    ArmFor flags0 classFile x code maxLocals ret World_1 tables_1 room_1 Calls_1 rest_1 Pre_1 Post := by
  intro l hfl _ _ p e ha hc hk s m args below hf hA hF happ hP
  obtain ⟨hcalls, hrest, hpre⟩ := hP
  obtain ⟨-, -, -, hnamed, -, -, -, hat⟩ := (Spec.applies_iff hf).mp happ
  obtain ⟨hg, hn⟩ := and_e (Cond.before_iff.mp (show (Jvm.Cond.and given_1 narrow_1).before args s = true from hpre))
  obtain ⟨g1, g2⟩ := and_e hg
  obtain ⟨g3, g4⟩ := and_e g2
  obtain ⟨g5, g6⟩ := and_e g4
  obtain ⟨g7, g8⟩ := and_e g6
  obtain ⟨g9, g10⟩ := and_e g8
  obtain ⟨g11, g12⟩ := and_e g10
  obtain ⟨w0, w1, w2, w3, w4, w5, rfl⟩ : ∃ w0 w1 w2 w3 w4 w5 : Value, args = #[w0, w1, w2, w3, w4, w5] := by
    have hs : args.size = 6 := by simpa [Cond.value, given_1] using g1
    obtain ⟨L⟩ := args
    match L, hs with
    | [w0, w1, w2, w3, w4, w5], _ => exact ⟨w0, w1, w2, w3, w4, w5, rfl⟩
  have hw := fun d (hd : d ∈ tables_1) => atoms_spec (ws := Jvm.Cond.code x code maxLocals ret :: tables_1) hat d (List.mem_cons_of_mem _ hd)
  obtain ⟨i0, ei0⟩ := isL_v g3
  obtain rfl : w0 = (.long i0) := Option.some.inj ei0
  obtain ⟨i1, ei1⟩ := is_v g5
  obtain rfl : w1 = (.int i1) := Option.some.inj ei1
  obtain ⟨i2, ei2⟩ := is_v g7
  obtain rfl : w2 = (.int i2) := Option.some.inj ei2
  obtain ⟨i3, ei3⟩ := is_v g9
  obtain rfl : w3 = (.int i3) := Option.some.inj ei3
  obtain ⟨i4, ei4⟩ := is_v g11
  obtain rfl : w4 = (.int i4) := Option.some.inj ei4
  obtain ⟨i5, ei5⟩ := is_v g12
  obtain rfl : w5 = (.int i5) := Option.some.inj ei5
  obtain ⟨n, o, h1, h2, h3, _, L, rfl, ⟨rfl, N⟩, hq⟩ := rm0 l s _ hw tables_1 i0 i1 i2 i3 i4 i5 s.heap s.heap.size (Nat.le_refl _) p e ha hc hk s m _ below hf ((Spec.applies_iff_loose hf).mp happ).1 ⟨rfl, State.Warmed39.refl s, rfl⟩ trivial
  refine ⟨n, _, h1, h2, h3, hpost _ _ _ _ _ _ ⟨Cond.after_iff.mpr rfl, Cond.after_iff.mpr (eq_i res_at (Term.int_eval (1)) rfl), trivial⟩ ⟨hq.1, hq.2.1, (hq.2.2.sift fun y hy => Or.inr (N y hy)).mono (by decide) (by decide)⟩⟩
theorem main_1_1 : Claimed_1_1 := comes_1 fun _ _ _ _ _ _ h hF => ⟨h.1, hF⟩
theorem main_1_2 : Claimed_1_2 := comes_1 fun _ _ _ _ _ _ h hF => ⟨h.2.1, hF⟩
end Jvm.Pilot.@@N@@
namespace Jvm.Pilot.@@N@@
open Jvm Jvm.ClassFile Sem Op Lib Jvm.Free Jvm.Stand Jvm.Pilot.@@N@@.Jvm.D
/-! MADE BY PROGRAM (witnessworld.py) out of the Statement's table words and the real class files: 14 classes; the members and pool entries that the words name. The judged class is class 1, her method 1. -/
namespace start1
open Jvm.ClassFile
def u (s : String) : CpInfo := .utf8 (stringToUtf16 s)
/-- a pool by its gaps: so many unusable entries, then the entry; so many at the end -/
def gap : Nat → List CpInfo → List CpInfo
  | 0, r => r
  | n + 1, r => .unusable :: gap n r
def poolList (es : List (Nat × CpInfo)) (last : Nat) : List CpInfo := es.foldr (fun e r => gap e.1 (e.2 :: r)) (gap last [])
def pool (es : List (Nat × CpInfo)) (last : Nat) : Array CpInfo := ⟨poolList es last⟩
def fileOf (pool : Array CpInfo) (this : Nat) (attrs : Array Attribute := #[]) (ms : Array MethodInfo := #[]) (fl : Nat := 33) (sup : Nat := 0) (ifs : Array Nat := #[]) (fds : Array FieldInfo := #[]) : ClassFile where
  minorVersion := 0
  majorVersion := 65
  constantPool := pool
  accessFlags := fl
  thisClass := this
  superClass := sup
  interfaces := ifs
  fields := fds
  methods := ms
  attributes := attrs
def plain (name : String) (sup : Option ClassId) : Class where
  name := name
  kind := .ordinary
  loader := none
  accessFlags := 33
  super := sup
  interfaces := #[]
  cf := none
  fields := #[]
  methods := #[]
  instanceTypes := #[]
  staticTypes := #[]
  resolved := #[]
  callSites := []
  init := .initialized
  statics := none
  mirror := none

def pool0 : Array CpInfo := pool [(5, u "<init>"), (0, u "()V"), (1, .class_ 10), (1, u "java/lang/Object")] 113

def k0m0 : Method := { name := "<init>", desc := "()V", sig := { parameters := [], returnType := none }, accessFlags := 1, code := none }
/-- java/lang/Object -/
def k0 : Class := { plain "java/lang/Object" none with
  accessFlags := 33
  interfaces := #[]
  cf := some (fileOf pool0 8 #[] #[{ accessFlags := 1, nameIndex := 5, descriptorIndex := 6, attributes := #[] }] 33 0 #[] #[])
  fields := #[]
  methods := #[k0m0]
  instanceTypes := #[]
  staticTypes := #[]
  resolved := Array.replicate 124 none
  statics := none }

def pool1 : Array CpInfo := pool [(2, .class_ 4), (1, u "java/lang/Object"), (0, u "<init>"), (0, u "()V"), (2, .long 9223372036854775807), (1, .integer 2147483647), (0, .methodref 13 14), (0, .class_ 15), (0, .nameAndType 16 17), (0, u "com/example/leafline/leafline/table/IntegerValueParsePlainPinLaw"), (0, u "cell"), (0, u "(IIIIIJIBZB)B"), (0, .class_ 19), (0, u "com/example/leafline/leafline/table/IntegerValue"), (0, .long 9223372036854775808), (1, .methodref 13 23), (0, .nameAndType 24 25), (0, u "pow10"), (0, u "(I)J"), (0, .methodref 18 27), (0, .nameAndType 28 29), (0, u "parsePlain"), (0, u "([BII)J"), (0, .long 10), (1, .long 100), (1, .long 1000), (1, .long 10000), (1, .long 100000), (1, .long 1000000), (1, .long 10000000), (1, .long 100000000), (1, .long 1000000000), (1, .long 10000000000), (1, .long 100000000000), (1, .long 1000000000000), (1, .long 10000000000000), (1, .long 100000000000000), (1, .long 1000000000000000), (1, .long 10000000000000000), (1, .long 100000000000000000), (1, .long 1000000000000000000), (3, u "law"), (0, u "(JIIIII)Z")] 5

def k1m0 : Method := { name := "<init>", desc := "()V", sig := { parameters := [], returnType := none }, accessFlags := 2, code := none }
def k1c1 : Code := { maxStack := 14, maxLocals := 25, code := code, exceptionTable := #[], attributes := #[] }
def k1m1 : Method := { name := "law", desc := "(JIIIII)Z", sig := { parameters := [.long, .int, .int, .int, .int, .int], returnType := some .boolean }, accessFlags := 9, code := some k1c1 }
def k1c2 : Code := { maxStack := 5, maxLocals := 12, code := method_3_code, exceptionTable := #[], attributes := #[] }
def k1m2 : Method := { name := "cell", desc := "(IIIIIJIBZB)B", sig := { parameters := [.int, .int, .int, .int, .int, .long, .int, .byte, .boolean, .byte], returnType := some .byte }, accessFlags := 10, code := some k1c2 }
def k1c3 : Code := { maxStack := 5, maxLocals := 2, code := method_4_code, exceptionTable := #[], attributes := #[] }
def k1m3 : Method := { name := "pow10", desc := "(I)J", sig := { parameters := [.int], returnType := some .long }, accessFlags := 10, code := some k1c3 }
/-- com/example/leafline/leafline/table/IntegerValueParsePlainPinLaw -/
def k1 : Class := { plain "com/example/leafline/leafline/table/IntegerValueParsePlainPinLaw" (some 0) with
  accessFlags := 49
  interfaces := #[]
  cf := some (fileOf pool1 13 #[] #[{ accessFlags := 2, nameIndex := 5, descriptorIndex := 6, attributes := #[] }, { accessFlags := 9, nameIndex := 68, descriptorIndex := 69, attributes := #[] }, { accessFlags := 10, nameIndex := 16, descriptorIndex := 17, attributes := #[] }, { accessFlags := 10, nameIndex := 24, descriptorIndex := 25, attributes := #[] }] 49 2 #[] #[])
  fields := #[]
  methods := #[k1m0, k1m1, k1m2, k1m3]
  instanceTypes := #[]
  staticTypes := #[]
  resolved := Array.replicate 75 none
  statics := none }

def pool2 : Array CpInfo := pool [(2, .class_ 4), (1, u "java/lang/Object"), (0, u "<init>"), (0, u "()V"), (0, .class_ 8), (0, u "java/lang/Record")] 13

def k2m0 : Method := { name := "<init>", desc := "()V", sig := { parameters := [], returnType := none }, accessFlags := 4, code := none }
/-- java/lang/Record -/
def k2 : Class := { plain "java/lang/Record" (some 0) with
  accessFlags := 1057
  interfaces := #[]
  cf := some (fileOf pool2 7 #[] #[{ accessFlags := 4, nameIndex := 5, descriptorIndex := 6, attributes := #[] }] 1057 2 #[] #[])
  fields := #[]
  methods := #[k2m0]
  instanceTypes := #[]
  staticTypes := #[]
  resolved := Array.replicate 22 none
  statics := none }

def pool3 : Array CpInfo := pool [(1, .class_ 2), (0, u "java/lang/Comparable"), (0, .class_ 4), (0, u "java/lang/Object")] 7

/-- java/lang/Comparable -/
def k3 : Class := { plain "java/lang/Comparable" (some 0) with
  accessFlags := 1537
  interfaces := #[]
  cf := some (fileOf pool3 1 #[] #[] 1537 3 #[] #[])
  fields := #[]
  methods := #[]
  instanceTypes := #[]
  staticTypes := #[]
  resolved := Array.replicate 12 none
  statics := none }

def pool4 : Array CpInfo := pool [(18, .class_ 20), (1, u "com/example/leafline/leafline/table/Value"), (0, u "NULL"), (0, u "Lcom/example/leafline/leafline/table/NullValue;"), (0, .class_ 24), (0, u "java/lang/Object"), (0, .class_ 26), (0, u "java/lang/Comparable")] 17

/-- com/example/leafline/leafline/table/Value -/
def k4 : Class := { plain "com/example/leafline/leafline/table/Value" (some 0) with
  accessFlags := 1537
  interfaces := #[3]
  cf := some (fileOf pool4 18 #[] #[] 1537 23 #[25] #[{ accessFlags := 25, nameIndex := 21, descriptorIndex := 22, attributes := #[] }])
  fields := #[{ name := "NULL", type := (.object "com/example/leafline/leafline/table/NullValue"), accessFlags := 25, slot := 0, constantValue := 0 }]
  methods := #[]
  instanceTypes := #[]
  staticTypes := #[(.object "com/example/leafline/leafline/table/NullValue")]
  resolved := Array.replicate 44 none
  statics := none }

def pool5 : Array CpInfo := pool [(4, .class_ 6), (1, u "java/lang/Record"), (3, .class_ 12), (1, u "com/example/leafline/leafline/table/IntegerValue"), (0, u "value"), (0, u "J"), (31, u "DIGITS"), (0, u "I"), (4, .long 10), (1, .long 9223372036854775808), (55, .class_ 111), (0, u "com/example/leafline/leafline/table/Value"), (5, u "PLAIN_DIGITS"), (2, u "NOT_PLAIN"), (8, u "parsePlain"), (0, u "([BII)J")] 26

def k5c0 : Code := { maxStack := 4, maxLocals := 9, code := prog_158_method_3_code, exceptionTable := #[], attributes := #[] }
def k5m0 : Method := { name := "parsePlain", desc := "([BII)J", sig := { parameters := [(.array .byte), .int, .int], returnType := some .long }, accessFlags := 8, code := some k5c0 }
/-- com/example/leafline/leafline/table/IntegerValue -/
def k5 : Class := { plain "com/example/leafline/leafline/table/IntegerValue" (some 2) with
  accessFlags := 49
  interfaces := #[4]
  cf := some (fileOf pool5 10 #[] #[{ accessFlags := 8, nameIndex := 129, descriptorIndex := 130, attributes := #[] }] 49 4 #[110] #[{ accessFlags := 18, nameIndex := 13, descriptorIndex := 14, attributes := #[] }, { accessFlags := 26, nameIndex := 46, descriptorIndex := 47, attributes := #[] }, { accessFlags := 26, nameIndex := 117, descriptorIndex := 47, attributes := #[] }, { accessFlags := 24, nameIndex := 120, descriptorIndex := 14, attributes := #[] }])
  fields := #[{ name := "value", type := .long, accessFlags := 18, slot := 0, constantValue := 0 }, { name := "DIGITS", type := .int, accessFlags := 26, slot := 0, constantValue := 0 }, { name := "PLAIN_DIGITS", type := .int, accessFlags := 26, slot := 1, constantValue := 0 }, { name := "NOT_PLAIN", type := .long, accessFlags := 24, slot := 2, constantValue := 0 }]
  methods := #[k5m0]
  instanceTypes := #[.long]
  staticTypes := #[.int, .int, .long]
  resolved := Array.replicate 157 none
  statics := none }

def pool6 : Array CpInfo := pool [(1, u "java/lang/Cloneable"), (0, .class_ 1), (0, u "java/lang/Object"), (0, .class_ 3)] 3

/-- java/lang/Cloneable -/
def k6 : Class := { plain "java/lang/Cloneable" (some 0) with
  accessFlags := 1537
  interfaces := #[]
  cf := some (fileOf pool6 2 #[] #[] 1537 4 #[] #[])
  fields := #[]
  methods := #[]
  instanceTypes := #[]
  staticTypes := #[]
  resolved := Array.replicate 8 none
  statics := none }

def pool7 : Array CpInfo := pool [(1, u "java/io/Serializable"), (0, .class_ 1), (0, u "java/lang/Object"), (0, .class_ 3)] 3

/-- java/io/Serializable -/
def k7 : Class := { plain "java/io/Serializable" (some 0) with
  accessFlags := 1537
  interfaces := #[]
  cf := some (fileOf pool7 2 #[] #[] 1537 4 #[] #[])
  fields := #[]
  methods := #[]
  instanceTypes := #[]
  staticTypes := #[]
  resolved := Array.replicate 8 none
  statics := none }

/-- the primitive byte -/
def k8 : Class := { plain "byte" none with kind := .primitive 'B', accessFlags := 0x411 }
/-- [B -/
def k9 : Class := { plain "[B" (some 0) with kind := .array 8 .byte, interfaces := #[6, 7], accessFlags := 1041 }

/-- the primitive int -/
def k10 : Class := { plain "int" none with kind := .primitive 'I', accessFlags := 0x411 }
/-- [I -/
def k11 : Class := { plain "[I" (some 0) with kind := .array 10 .int, interfaces := #[6, 7], accessFlags := 1041 }

/-- the primitive long -/
def k12 : Class := { plain "long" none with kind := .primitive 'J', accessFlags := 0x411 }
/-- [J -/
def k13 : Class := { plain "[J" (some 0) with kind := .array 12 .long, interfaces := #[6, 7], accessFlags := 1041 }

def heap : Heap := #[]
def classes : Array Class := #[k0, k1, k2, k3, k4, k5, k6, k7, k8, k9, k10, k11, k12, k13]
def interned : List (Array UInt16 × Addr) := []
def slotsUsed : Nat := 0
def theMethod : MethodId := ⟨1, 1⟩
def args0 : Array Value := #[.long 1, .int 2, .int 3, .int 4, .int 5, .int 6]
def aboutOver (below : List Frame) : State where
  vm := { classes := classes, interned := interned.toArray }
  heap := heap
  slotsUsed := slotsUsed
  threads := #[{ frames := .invoking theMethod args0 :: below }]
def below0 : List Frame := [.native { method := ⟨0, 0⟩, args := #[] }]
def about1 : State := aboutOver below0
def p0 : Program := .bare "" "" ""
def e0 : Env := launch0.env 0 0 0
theorem w_frames : about1.frames = Frame.invoking theMethod args0 :: below0 := rfl
set_option maxRecDepth 65536 in
theorem w_args : argsFit about1.vm theMethod args0 = true := by decide +kernel
set_option maxRecDepth 65536 in
theorem w_heap : heapFits about1 = true := by decide +kernel
set_option maxRecDepth 65536 in
theorem w_runnable : about1.curStatus? = some .runnable := by decide +kernel
set_option maxRecDepth 65536 in
theorem w_alone : about1.alone = true := by decide +kernel
set_option maxRecDepth 65536 in
theorem w_named : about1.methodNamed? x = some theMethod := by decide +kernel
set_option maxRecDepth 65536 in
theorem w_hears : about1.hears theMethod below0 = true := by decide +kernel
set_option maxRecDepth 65536 in
theorem w_ripe : about1.ripe theMethod args0 below0 = true := by decide +kernel
theorem w_running : about1.status = .running := rfl
set_option maxRecDepth 65536 in
theorem w_room : about1.hasRoom e0.platform room_1 = true :=
  launch0.hasRoom_least _ room_1 (by decide +kernel) (by decide +kernel) (by decide +kernel) (by decide +kernel) (by decide +kernel) (by decide +kernel)
theorem allAtoms_all (ts : List Jvm.Cond) (a : Array Jvm.Value) (st : Jvm.State) : (allAtoms ts).before a st = ts.all (fun c => c.before a st) := by
  induction ts with
  | nil => rfl
  | cons c t ih =>
    show (Jvm.Cond.and c (allAtoms t)).before a st = _
    rw [Jvm.Cond.before_and, ih, List.all_cons]
def words1 : List Jvm.Cond := Jvm.Cond.code x code maxLocals ret :: tables_1
/-- a 'code' word, met by the world's own term for the bytes: nothing is compared byte by byte -/
theorem code_word {y : MethodName} {bytes : ByteArray} {mx : Nat} {rt : Option FieldType} {a : Array Value} {s : State} {m : MethodId} {meth : Method} {c : Code} (h1 : s.methodNamed? y = some m) (h2 : s.vm.method? m = some meth) (h3 : meth.code = some c) (h4 : c.code = bytes)
    (h5 : (c.maxLocals == mx && c.exceptionTable.isEmpty && decide (c.maxStack ≤ mostOperands) && decide (meth.sig.returnType = rt) && !meth.locks && decide (parseMethodDescriptor y.desc = some meth.sig)) = true) : (Jvm.Cond.code y bytes mx rt).before a s = true := by
  simp only [Bool.and_eq_true, beq_iff_eq, Bool.not_eq_true', decide_eq_true_eq] at h5
  obtain ⟨⟨⟨⟨⟨g1, g2⟩, g3⟩, g4⟩, g5⟩, g6⟩ := h5
  simp [Cond.before, Cond.holds, Cond.value, h1, h2, h3, h4, g1, g2, g3, g4, g5, g6]
def isCode : Jvm.Cond → Bool
  | .code _ _ _ _ => true
  | _ => false
theorem all_split {L : List Jvm.Cond} {P : Jvm.Cond → Bool} (h1 : L.all (fun c => isCode c || P c) = true) (h2 : ∀ c ∈ L.filter isCode, P c = true) : L.all P = true := by
  refine List.all_eq_true.mpr fun c hc => ?_
  have h := List.all_eq_true.mp h1 c hc
  rcases Bool.eq_false_or_eq_true (isCode c) with hi | hi
  · exact h2 c (List.mem_filter.mpr ⟨hc, hi⟩)
  · simpa [hi] using h
set_option maxRecDepth 65536 in
theorem w_c0 : (Jvm.Cond.code x code maxLocals ret).before args0 about1 = true := code_word (m := ⟨1, 1⟩) (meth := k1m1) (c := k1c1) (by decide +kernel) rfl rfl rfl (by decide +kernel)
set_option maxRecDepth 65536 in
theorem w_c1 : (Jvm.Cond.code ({ cls := "com/example/leafline/leafline/table/IntegerValueParsePlainPinLaw", name := "cell", desc := "(IIIIIJIBZB)B" } : Jvm.MethodName) method_3_code (12 : Nat) (Option.some Jvm.ClassFile.FieldType.byte)).before args0 about1 = true := code_word (m := ⟨1, 2⟩) (meth := k1m2) (c := k1c2) (by decide +kernel) rfl rfl rfl (by decide +kernel)
set_option maxRecDepth 65536 in
theorem w_c2 : (Jvm.Cond.code ({ cls := "com/example/leafline/leafline/table/IntegerValueParsePlainPinLaw", name := "pow10", desc := "(I)J" } : Jvm.MethodName) method_4_code (2 : Nat) (Option.some Jvm.ClassFile.FieldType.long)).before args0 about1 = true := code_word (m := ⟨1, 3⟩) (meth := k1m3) (c := k1c3) (by decide +kernel) rfl rfl rfl (by decide +kernel)
set_option maxRecDepth 65536 in
theorem w_c3 : (Jvm.Cond.code ({ cls := "com/example/leafline/leafline/table/IntegerValue", name := "parsePlain", desc := "([BII)J" } : Jvm.MethodName) prog_158_method_3_code (9 : Nat) (Option.some Jvm.ClassFile.FieldType.long)).before args0 about1 = true := code_word (m := ⟨5, 0⟩) (meth := k5m0) (c := k5c0) (by decide +kernel) rfl rfl rfl (by decide +kernel)
def codes1 : List Jvm.Cond := [Jvm.Cond.code x code maxLocals ret, Jvm.Cond.code ({ cls := "com/example/leafline/leafline/table/IntegerValueParsePlainPinLaw", name := "cell", desc := "(IIIIIJIBZB)B" } : Jvm.MethodName) method_3_code (12 : Nat) (Option.some Jvm.ClassFile.FieldType.byte), Jvm.Cond.code ({ cls := "com/example/leafline/leafline/table/IntegerValueParsePlainPinLaw", name := "pow10", desc := "(I)J" } : Jvm.MethodName) method_4_code (2 : Nat) (Option.some Jvm.ClassFile.FieldType.long), Jvm.Cond.code ({ cls := "com/example/leafline/leafline/table/IntegerValue", name := "parsePlain", desc := "([BII)J" } : Jvm.MethodName) prog_158_method_3_code (9 : Nat) (Option.some Jvm.ClassFile.FieldType.long)]
set_option maxRecDepth 65536 in
theorem codes_eq : words1.filter isCode = codes1 := rfl
theorem w_codes : ∀ c ∈ words1.filter isCode, c.before args0 about1 = true := by
  rw [codes_eq]
  intro c hc
  simp only [codes1, List.mem_cons, List.not_mem_nil, or_false] at hc
  rcases hc with rfl | rfl | rfl | rfl
  · exact w_c0
  · exact w_c1
  · exact w_c2
  · exact w_c3
set_option maxRecDepth 65536 in
theorem w_t1 : (words1.take 24).all (fun c => isCode c || c.before args0 about1) = true := by decide +kernel
set_option maxRecDepth 65536 in
theorem w_t2 : (words1.drop 24).all (fun c => isCode c || c.before args0 about1) = true := by decide +kernel
theorem w_tables : (allAtoms (Jvm.Cond.code x code maxLocals ret :: tables_1)).before args0 about1 = true := by
  rw [allAtoms_all]
  show words1.all (fun c => c.before args0 about1) = true
  refine all_split ?_ w_codes
  rw [← List.take_append_drop 24 words1, List.all_append, w_t1, w_t2]
  rfl
set_option maxRecDepth 65536 in
theorem w_case : (Jvm.Cond.and given_1 narrow_1).before args0 about1 = true := by decide +kernel
theorem w_applies : (headSpec (Jvm.Cond.code x code maxLocals ret :: tables_1) room_1).applies x e0.platform about1 = true :=
  (Spec.applies_iff w_frames).mpr ⟨w_running, w_runnable, w_alone, w_named, w_hears, w_ripe, w_room, w_tables⟩
theorem atStart : AtStart classFile x code maxLocals ret World_1 tables_1 room_1 Calls_1 rest_1 Pre_1 launch0 p0 e0 about1 theMethod args0 below0 :=
  ⟨lists_1, trivial, launch0.admits_env _ _ _, launch0.least_env, fairChoices_fair.cas, fairChoices_fair.clock, w_frames, w_args, w_heap, w_applies, trivial, trivial, w_case⟩
end start1
theorem witness_1 : WitnessClaimed_1 := ⟨start1.p0, start1.e0, start1.about1, start1.theMethod, start1.args0, start1.below0, start1.atStart⟩
end Jvm.Pilot.@@N@@
