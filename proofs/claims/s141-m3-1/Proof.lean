import JvmDerived
import JvmDerived.Pilot.@@N@@Statement
import JvmDerived.Pilot.@@N@@Code
set_option linter.unusedVariables false
set_option linter.unusedSimpArgs false
namespace Jvm.Pilot.@@N@@
open Jvm Jvm.ClassFile Sem Op Lib Jvm.Free Jvm.Stand Jvm.LawKit Jvm.RoadKit Bundle Jvm.Pilot.@@N@@.Jvm.D
/-! ## the walk's own goal: from this frame the method comes to its end, and what it leaves is Q -/
def own_Fin (tb : Tables) (e : Env) (below : List Frame) (s : State) (R : Room) (Q : Option Value → Heap → List Loc → Prop) (T : State) (g : JFrame) : Prop :=
  ∃ s₂ o, Steps tb e below (T.setTop g) s₂ ∧ s₂.status = .running ∧ Ended s₂ below o ∧ ∃ v L, o = .returned v ∧ Q v s₂.heap L ∧ FrameEnd s o s₂ L R.cells R.slots
theorem own_st {tb : Tables} {e : Env} {below : List Frame} {s : State} {R : Room} {Q : Option Value → Heap → List Loc → Prop} {T T' : State} {g g' : JFrame}
    (h : ∀ t, Steps tb e below (T'.setTop g') t → Steps tb e below (T.setTop g) t) (k : own_Fin tb e below s R Q T' g') : own_Fin tb e below s R Q T g := by
  obtain ⟨s₂, o, h1, r⟩ := k
  exact ⟨s₂, o, h _ h1, r⟩
/-- an array: its kind, its length, what lies at each place -/
def own_A (Z : State) (h : Heap) (a : Addr) (ty : FieldType) (n : Nat) (f : Nat → Value) : Prop := ∃ c : Cell, Arr Z h a c ty ∧ c.slots.size = n ∧ ∀ i, i < n → c.slots[i]? = some (f i)
section OwnArr
variable {Z : State} {h h' : Heap} {a b : Addr} {ty : FieldType} {n : Nat} {f : Nat → Value} {ws : List Addr} {sl : Nat} {v : Value}
theorem own_A.lt (F : own_A Z h a ty n f) : a < h.size := by obtain ⟨c, A, -⟩ := F; exact A.lt
theorem own_A.ext (F : own_A Z h a ty n f) (E : Ext h h') : own_A Z h' a ty n f := by obtain ⟨c, A, r⟩ := F; exact ⟨c, A.ext E, r⟩
theorem own_A.other (F : own_A Z h a ty n f) (W : Wr h h' b sl v) (q : a ≠ b) : own_A Z h' a ty n f := by obtain ⟨c, A, r⟩ := F; exact ⟨c, A.other W q, r⟩
theorem own_A.keep (F : own_A Z h a ty n f) (K : Keep h h' ws) (q : a ∉ ws) : own_A Z h' a ty n f := by obtain ⟨c, A, r⟩ := F; exact ⟨c, ⟨K.2.1 a c A.1 q, A.2⟩, r⟩
theorem own_A.congr (F : own_A Z h a ty n f) {f' : Nat → Value} (q : ∀ i, i < n → f i = f' i) : own_A Z h a ty n f' := by
  obtain ⟨c, A, r1, r2⟩ := F
  exact ⟨c, A, r1, fun i hi => by rw [r2 i hi, q i hi]⟩
theorem own_A.new {k : ClassId} {z : Int32} (A : Arr Z h a (newA k ty z) ty) : own_A Z h a ty z.toNatClampNeg (fun _ => defaultValue ty) :=
  ⟨_, A, sz_new _ _ _, fun i hi => by simp [newA, hi]⟩
theorem own_A.set (F : own_A Z h a ty n f) (W : Wr h h' a sl v) : own_A Z h' a ty n (fun i => if i = sl then v else f i) := by
  obtain ⟨c, A, r1, r2⟩ := F
  refine ⟨_, A.same W, by rw [sz_set]; exact r1, fun i hi => ?_⟩
  by_cases q : i = sl
  · subst q; simp [Cell.setSlot, r1, hi]
  · simp only [Cell.setSlot, q, if_false]; rw [Array.getElem?_setIfInBounds_ne (Ne.symm q)]; exact r2 i hi
theorem own_ne_A {c : Nat} {C : String} {a0 : Array Value} (F : Exa Z h b C) (wi : (Jvm.Cond.instantiable C c).before a0 Z = true) (G : own_A Z h a ty n f) : b ≠ a := by
  obtain ⟨cl, A, -⟩ := G; exact ne_arr F wi A
end OwnArr
section OwnStand
variable {p : Program} {l : Launch} {e : Env} {R : Room} {s : State} {m : MethodId} {args : Array Value} {below : List Frame} {meth : Method} {c : Code} {T : State} {locs : List Loc} {cells slots : Nat} {Q : Option Value → Heap → List Loc → Prop} {Z : State} {a0 : Array Value} {h : Heap}
theorem own_ret {v : Option Value} {g : JFrame} (X : Stand p l e R s m args below meth c T locs cells slots) (hv : meth.sig.returnType = none → v = none) (hlocks : meth.locks = false) (hc : cells ≤ R.cells) (hs : slots ≤ R.slots) (hQ : Q v T.heap locs)
    (hstep : ∀ fs, (∀ (f : JFrame) (acts : List Action), f.method = m → f.locked = none → f.entered = [] → (doReturn e (T.setTop f) acts v).1 = T.setFrames fs) → Steps p.tables e below (T.setTop g) (T.setFrames fs)) : own_Fin p.tables e below s R Q T g := by
  obtain ⟨fs, hr, hrun, hended, hW, hsame⟩ := X.leave hv hlocks
  exact ⟨_, _, hstep fs hr, hrun, hended, _, _, rfl, hQ, ⟨_, rfl⟩, hW, hsame.mono hc hs⟩
theorem own_retI {pc : Nat} {Ls : Array Slot} {z : Int32} {rest : List Value} (X : Stand p l e R s m args below meth c T locs cells slots) (hx : p.tables.exec = Jvm.exec) (hret : meth.sig.returnType = some .int) (hlocks : meth.locks = false) (hd : decode c.code pc = .ok (.ireturn, 1))
    (hc : cells ≤ R.cells) (hs : slots ≤ R.slots) (hQ : Q (some (.int z)) T.heap locs) : own_Fin p.tables e below s R Q T (mkF m pc Ls (.int z :: rest)) :=
  own_ret X (fun h => by rw [hret] at h; cases h) hlocks hc hs hQ fun fs hr => retOut X hx hret rfl (Or.inl ⟨rfl, Or.inl rfl, _, rfl⟩) hd hr
theorem own_retJ {pc : Nat} {Ls : Array Slot} {z : Int64} {rest : List Value} (X : Stand p l e R s m args below meth c T locs cells slots) (hx : p.tables.exec = Jvm.exec) (hret : meth.sig.returnType = some .long) (hlocks : meth.locks = false) (hd : decode c.code pc = .ok (.lreturn, 1))
    (hc : cells ≤ R.cells) (hs : slots ≤ R.slots) (hQ : Q (some (.long z)) T.heap locs) : own_Fin p.tables e below s R Q T (mkF m pc Ls (.long z :: rest)) :=
  own_ret X (fun h => by rw [hret] at h; cases h) hlocks hc hs hQ fun fs hr => retOut X hx hret rfl (Or.inr (Or.inl ⟨rfl, rfl, _, rfl⟩)) hd hr
theorem own_retA {pc : Nat} {Ls : Array Slot} {t : FieldType} {b : Addr} {rest : List Value} (X : Stand p l e R s m args below meth c T locs cells slots) (hx : p.tables.exec = Jvm.exec) (hret : meth.sig.returnType = some t) (ht : t.isReference = true) (hn : narrow t (.ref b) = .ref b) (hlocks : meth.locks = false) (hd : decode c.code pc = .ok (.areturn, 1))
    (hc : cells ≤ R.cells) (hs : slots ≤ R.slots) (hQ : Q (some (.ref b)) T.heap locs) : own_Fin p.tables e below s R Q T (mkF m pc Ls (.ref b :: rest)) :=
  own_ret X (fun h => by rw [hret] at h; cases h) hlocks hc hs hQ fun fs hr => retOut X hx hret hn (Or.inr (Or.inr (Or.inr (Or.inr ⟨rfl, ht, rfl⟩)))) hd hr
theorem own_retN {pc : Nat} {Ls : Array Slot} {t : FieldType} {z : Int32} {rest : List Value} (X : Stand p l e R s m args below meth c T locs cells slots) (hx : p.tables.exec = Jvm.exec) (hret : meth.sig.returnType = some t) (ht : t = .boolean ∨ t = .byte ∨ t = .char ∨ t = .short) (hlocks : meth.locks = false) (hd : decode c.code pc = .ok (.ireturn, 1))
    (hc : cells ≤ R.cells) (hs : slots ≤ R.slots) (hQ : Q (some (.int (nar t z))) T.heap locs) : own_Fin p.tables e below s R Q T (mkF m pc Ls (.int z :: rest)) :=
  own_ret X (fun h => by rw [hret] at h; cases h) hlocks hc hs hQ fun fs hr => retN X hx hret ht hd hr
theorem own_retV {pc : Nat} {Ls : Array Slot} (X : Stand p l e R s m args below meth c T locs cells slots) (hx : p.tables.exec = Jvm.exec) (hret : meth.sig.returnType = none) (hlocks : meth.locks = false) (hd : decode c.code pc = .ok (.return_, 1))
    (hc : cells ≤ R.cells) (hs : slots ≤ R.slots) (hQ : Q none T.heap locs) : own_Fin p.tables e below s R Q T (mkF m pc Ls []) :=
  own_ret X (fun _ => rfl) hlocks hc hs hQ fun fs hr => X.returnOut hx hret hd hr
theorem own_iaload {n : Nat} {f : Nat → Value} {a : Addr} {j : Int32} {v : Value} {g : JFrame} {rest : List Value} (X : Stand p l e R s m args below meth c T locs cells slots) (hx : p.tables.exec = Jvm.exec) (hZ : Z.Warmed39 s.vm) (eT : T.heap = h) (F : own_A Z h a .int n f) (hj : ¬ (j < 0 ∨ n ≤ j.toNatClampNeg)) (hv : f j.toNatClampNeg = v)
    (hg : g.method = m) (hs : g.stack = .int j :: .ref a :: rest) (hd : decode c.code g.pc = .ok (.iaload, 1)) (t : State) (k : Steps p.tables e below (T.setTop { g with pc := g.pc + 1, stack := v :: rest }) t) : Steps p.tables e below (T.setTop g) t := by
  obtain ⟨cl, A, r1, r2⟩ := F
  exact X.iaload hx (by rw [eT]; exact A.1) (State.isArrayOf_alike hZ.alike A.2.1) A.2.2 (by rw [r1]; exact hj) (by rw [r2 _ (Nat.lt_of_not_le fun q => hj (Or.inr q)), hv]) hg hs hd t k
theorem own_laload {n : Nat} {f : Nat → Value} {a : Addr} {j : Int32} {v : Value} {g : JFrame} {rest : List Value} (X : Stand p l e R s m args below meth c T locs cells slots) (hx : p.tables.exec = Jvm.exec) (hZ : Z.Warmed39 s.vm) (eT : T.heap = h) (F : own_A Z h a .long n f) (hj : ¬ (j < 0 ∨ n ≤ j.toNatClampNeg)) (hv : f j.toNatClampNeg = v)
    (hg : g.method = m) (hs : g.stack = .int j :: .ref a :: rest) (hd : decode c.code g.pc = .ok (.laload, 1)) (t : State) (k : Steps p.tables e below (T.setTop { g with pc := g.pc + 1, stack := v :: rest }) t) : Steps p.tables e below (T.setTop g) t := by
  obtain ⟨cl, A, r1, r2⟩ := F
  exact X.laload hx (by rw [eT]; exact A.1) (State.isArrayOf_alike hZ.alike A.2.1) A.2.2 (by rw [r1]; exact hj) (by rw [r2 _ (Nat.lt_of_not_le fun q => hj (Or.inr q)), hv]) hg hs hd t k
theorem own_baload {n : Nat} {f : Nat → Value} {a : Addr} {j : Int32} {v : Value} {g : JFrame} {rest : List Value} (X : Stand p l e R s m args below meth c T locs cells slots) (hx : p.tables.exec = Jvm.exec) (hZ : Z.Warmed39 s.vm) (eT : T.heap = h) (F : own_A Z h a .byte n f) (hj : ¬ (j < 0 ∨ n ≤ j.toNatClampNeg)) (hv : f j.toNatClampNeg = v)
    (hg : g.method = m) (hs : g.stack = .int j :: .ref a :: rest) (hd : decode c.code g.pc = .ok (.baload, 1)) (t : State) (k : Steps p.tables e below (T.setTop { g with pc := g.pc + 1, stack := v :: rest }) t) : Steps p.tables e below (T.setTop g) t := by
  obtain ⟨cl, A, r1, r2⟩ := F
  exact X.baloadBytes hx (by rw [eT]; exact A.1) (State.isArrayOf_alike hZ.alike A.2.1) A.2.2 (by rw [r1]; exact hj) (by rw [r2 _ (Nat.lt_of_not_le fun q => hj (Or.inr q)), hv]) hg hs hd t k
theorem own_alen {ty : FieldType} {n : Nat} {f : Nat → Value} {a : Addr} {z : Int32} {g : JFrame} {rest : List Value} (X : Stand p l e R s m args below meth c T locs cells slots) (hx : p.tables.exec = Jvm.exec) (hZ : Z.Warmed39 s.vm) (eT : T.heap = h) (F : own_A Z h a ty n f) (hz : n.toInt32 = z)
    (hg : g.method = m) (hs : g.stack = .ref a :: rest) (hd : decode c.code g.pc = .ok (.arraylength, 1)) (t : State) (k : Steps p.tables e below (T.setTop { g with pc := g.pc + 1, stack := .int z :: rest }) t) : Steps p.tables e below (T.setTop g) t := by
  obtain ⟨cl, A, r1, r2⟩ := F
  subst hz
  exact X.arraylength hx (by rw [eT]; exact A.1) (State.isArrayOf_alike hZ.alike A.2.1) hg hs hd t (by rw [r1]; exact k)
theorem own_iastore {n : Nat} {f : Nat → Value} {a : Addr} {j x : Int32} {g : JFrame} {rest : List Value} (X : Stand p l e R s m args below meth c T locs cells slots) (hx : p.tables.exec = Jvm.exec) (hZ : Z.Warmed39 s.vm) (eT : T.heap = h) (F : own_A Z h a .int n f) (hj : ¬ (j < 0 ∨ n ≤ j.toNatClampNeg))
    (hg : g.method = m) (hs : g.stack = .int x :: .int j :: .ref a :: rest) (hd : decode c.code g.pc = .ok (.iastore, 1)) :
    ∃ T' h', Stand p l e R s m args below meth c T' (locs ++ [⟨a, j.toNatClampNeg⟩]) cells slots ∧ T'.heap = h' ∧ Wr h h' a j.toNatClampNeg (.int x) ∧ ∀ target, Steps p.tables e below (T'.setTop { g with pc := g.pc + 1, stack := rest }) target → Steps p.tables e below (T.setTop g) target := by
  obtain ⟨cl, A, r1, r2⟩ := F
  exact stI X hx hZ eT A (by rw [r1]; exact hj) hg hs hd
theorem own_lastore {n : Nat} {f : Nat → Value} {a : Addr} {j : Int32} {x : Int64} {g : JFrame} {rest : List Value} (X : Stand p l e R s m args below meth c T locs cells slots) (hx : p.tables.exec = Jvm.exec) (hZ : Z.Warmed39 s.vm) (eT : T.heap = h) (F : own_A Z h a .long n f) (hj : ¬ (j < 0 ∨ n ≤ j.toNatClampNeg))
    (hg : g.method = m) (hs : g.stack = .long x :: .int j :: .ref a :: rest) (hd : decode c.code g.pc = .ok (.lastore, 1)) :
    ∃ T' h', Stand p l e R s m args below meth c T' (locs ++ [⟨a, j.toNatClampNeg⟩]) cells slots ∧ T'.heap = h' ∧ Wr h h' a j.toNatClampNeg (.long x) ∧ ∀ target, Steps p.tables e below (T'.setTop { g with pc := g.pc + 1, stack := rest }) target → Steps p.tables e below (T.setTop g) target := by
  obtain ⟨cl, A, r1, r2⟩ := F
  exact stJ X hx hZ eT A (by rw [r1]; exact hj) hg hs hd
theorem own_bastore {n : Nat} {f : Nat → Value} {a : Addr} {j x : Int32} {g : JFrame} {rest : List Value} (X : Stand p l e R s m args below meth c T locs cells slots) (hx : p.tables.exec = Jvm.exec) (hZ : Z.Warmed39 s.vm) (eT : T.heap = h) (F : own_A Z h a .byte n f) (hj : ¬ (j < 0 ∨ n ≤ j.toNatClampNeg))
    (hg : g.method = m) (hs : g.stack = .int x :: .int j :: .ref a :: rest) (hd : decode c.code g.pc = .ok (.bastore, 1)) :
    ∃ T' h', Stand p l e R s m args below meth c T' (locs ++ [⟨a, j.toNatClampNeg⟩]) cells slots ∧ T'.heap = h' ∧ Wr h h' a j.toNatClampNeg (.int (nar .byte x)) ∧ ∀ target, Steps p.tables e below (T'.setTop { g with pc := g.pc + 1, stack := rest }) target → Steps p.tables e below (T.setTop g) target := by
  obtain ⟨cl, A, r1, r2⟩ := F
  exact stB X hx hZ eT A (by rw [r1]; exact hj) hg hs hd
theorem own_newarr {aty : ArrayType} {n : Int32} {rest : List Value} {g : JFrame} (X : Stand p l e R s m args below meth c T locs cells slots) (hx : p.tables.exec = Jvm.exec) (hZ : Z.Warmed39 s.vm) (w : (Jvm.Cond.arrayClass (newarray.typeOf aty)).before a0 Z = true) (eT : T.heap = h) (hg : g.method = m) (hd : decode c.code g.pc = .ok (.newarray aty, 2)) (hs : g.stack = .int n :: rest)
    (hn : ¬ n < 0) {cap : Nat} (hcap : n.toNatClampNeg ≤ cap) (hb : cap * 8 ≤ 536870912) (hc : cells + 1 ≤ R.cells) (hl : slots + cap ≤ R.slots) :
    ∃ T' h' a, Stand p l e R s m args below meth c T' locs (cells + 1) (slots + cap) ∧ T'.heap = h' ∧ a = h.size ∧ Ext h h' ∧ own_A Z h' a (newarray.typeOf aty) n.toNatClampNeg (fun _ => defaultValue (newarray.typeOf aty)) ∧
      ∀ target, Steps p.tables e below (T'.setTop { g with pc := g.pc + 2, stack := .ref a :: rest }) target → Steps p.tables e below (T.setTop g) target := by
  obtain ⟨T', h', cA, X', e', E', A', st⟩ := newP X hx hZ w eT hg hd hs hn hcap hb hc hl
  exact ⟨T', h', _, X', e', rfl, E', own_A.new A', st⟩
theorem own_new {own C : String} {index n : Nat} {g : JFrame} (X : Stand p l e R s m args below meth c T locs cells slots) (hx : p.tables.exec = Jvm.exec) (hZ : Z.Warmed39 s.vm) (hown : s.vm.findClass own = some m.cls) (w : (Jvm.Cond.classLink own index C).before a0 Z = true) (wi : (Jvm.Cond.instantiable C n).before a0 Z = true) (wz : (Jvm.Cond.initialized C).before a0 Z = true) (eT : T.heap = h)
    (hg : g.method = m) (hd : decode c.code g.pc = .ok (.new index, 3)) (hc : cells + 1 ≤ R.cells) (hl : slots + n ≤ R.slots) :
    ∃ T' h' a, Stand p l e R s m args below meth c T' locs (cells + 1) (slots + n) ∧ T'.heap = h' ∧ a = h.size ∧ Ext h h' ∧ Exa Z h' a C ∧ (∀ {O nm d : String} {ty : FieldType}, Laid Z a0 C O nm d → parseFieldDescriptor d = some ty → Fld Z h' a O nm d (defaultValue ty)) ∧
      ∀ target, Steps p.tables e below (T'.setTop { g with pc := g.pc + 3, stack := .ref a :: g.stack }) target → Steps p.tables e below (T.setTop g) target := by
  obtain ⟨T', h', X', e', E', A', D', -, st⟩ := newO X hx hZ hown w wi wz eT hg hd hc hl
  exact ⟨T', h', _, X', e', rfl, E', A', D', st⟩
theorem own_body {y : MethodName} {bytes : ByteArray} {maxL : Nat} {ret : Option FieldType} {ws : List Jvm.Cond} {rm : Room} {as' : Array Value} {h0 : Heap} (hpl : plainFor y = true)
    (body : ∀ (p : Program) (e : Env) (s : State) (m : MethodId) (below : List Frame) (meth : Method) (c : Code) (s₁ : State), p.tables.exec = Jvm.exec → c.code = bytes → c.maxLocals = maxL → s.vm.findClass y.cls = some m.cls → meth.name = y.name → meth.sig.returnType = ret → meth.locks = false → Z.Warmed39 s.vm → Stand p l e rm s m as' below meth c s₁ [] 0 0 → s₁.heap = h0 → own_Fin p.tables e below s rm Q s₁ (entryFrame m as' maxL)) :
    MetFree l y (head1 (Jvm.Cond.code y bytes maxL ret :: ws) rm) (fun a U => a = as' ∧ Z.Warmed39 U.vm ∧ U.heap = h0) (fun _ _ _ _ _ => True) (fun _ U o U' => ∃ v L, o = .returned v ∧ Q v U'.heap L ∧ FrameEnd U o U' L rm.cells rm.slots) := by
  refine MetFree.of_bodySF hpl hisR ?_
  intro p e s m args below meth c s₁ Bd hml0 hP hK
  obtain ⟨rfl, hZ, hh⟩ := hP
  exact body p e s m below meth c s₁ Bd.exec Bd.bytes hml0 (findClass_of_methodNamed Bd.named) (name_of_methodNamed Bd.named Bd.method).1 Bd.returns Bd.notSynchronized hZ (Stand.of_body Bd) (by rw [← hh, Bd.state]; rfl)
theorem own_callS {own : String} {index : Nat} {y : MethodName} {bytes : ByteArray} {maxL W : Nat} {ret : Option FieldType} {rm : Room} {as' : Array Value} {g : JFrame} {argsL rest : List Value}
    (X : Stand p l e R s m args below meth c T locs cells slots) (hx : p.tables.exec = Jvm.exec) (hZ : Z.Warmed39 s.vm) (hown : s.vm.findClass own = some m.cls)
    (w1 : (Jvm.Cond.methodLink own index y).before a0 Z = true) (w2 : (Jvm.Cond.static y).before a0 Z = true) (w3 : (Jvm.Cond.initialized y.cls).before a0 Z = true) (w4 : (Jvm.Cond.code y bytes maxL ret).before a0 Z = true)
    (hy : y.cls ≠ "java/lang/invoke/MethodHandle" ∧ y.cls ≠ "java/lang/invoke/VarHandle") (eT : T.heap = h)
    (hM : MetFree l y (head1 [Jvm.Cond.code y bytes maxL ret] rm) (fun a U => a = as' ∧ Z.Warmed39 U.vm ∧ U.heap = h) (fun _ _ _ _ _ => True) (fun _ U o U' => ∃ v L, o = .returned v ∧ Q v U'.heap L ∧ FrameEnd U o U' L rm.cells rm.slots))
    (hf : rm.frames + 1 ≤ R.frames) (hl : W + (maxL + 11) + rm.locals ≤ R.locals) (hg : g.method = m) (hsize : g.locals.size = c.maxLocals) (hlen : ∀ sig, parseMethodDescriptor y.desc = some sig → argsL.length = sig.parameters.length)
    (hstack : g.stack = argsL.reverse ++ rest) (has : argsL.toArray = as') (hW : 2 * g.monitorRoom + (rest.map fun v => v.category).sum ≤ W) (hdg : decode c.code g.pc = .ok (.invokestatic index, 3)) (hc : cells + rm.cells ≤ R.cells) (hs : slots + rm.slots ≤ R.slots) :
    ∃ (v : Option Value) (T' : State) (L : List Loc), Stand p l e R s m args below meth c T' (locs ++ L) (cells + rm.cells) (slots + rm.slots) ∧ Q v T'.heap L ∧
      ∀ target, Steps p.tables e below (T'.setTop { g with pc := g.pc + 3, stack := v.toList ++ rest }) target → Steps p.tables e below (T.setTop g) target := by
  obtain ⟨v, _, ⟨T', L', k', n'⟩, -, X', ⟨Lc, hQ, l', y', z'⟩, st⟩ := Jvm.LawKit.callS X hx (y := y) hown (mvT hZ w1) (mvT hZ w2) (mvT hZ w3) (mvT hZ w4) hy (backOf (W := W) hM hZ w4 w3 hf hl) hg hsize hlen hstack hW hdg (fun _ _ => ⟨has, eT, hc, hs⟩)
  dsimp only [Pt.U, Pt.locs, Pt.cells, Pt.slots] at X' l' y' z' st hQ
  subst l' y' z'
  exact ⟨v, T', Lc, X', hQ, st⟩
theorem own_callN {own : String} {index : Nat} {y : MethodName} {bytes : ByteArray} {maxL W : Nat} {rm : Room} {as' : Array Value} {g : JFrame} {a : Addr} {argsL rest : List Value}
    (X : Stand p l e R s m args below meth c T locs cells slots) (hx : p.tables.exec = Jvm.exec) (hZ : Z.Warmed39 s.vm) (hy1 : y.name = "<init>") (hown : s.vm.findClass own = some m.cls)
    (w1 : (Jvm.Cond.methodLink own index y).before a0 Z = true) (w2 : (Jvm.Cond.instanceMethod y).before a0 Z = true) (w3 : (Jvm.Cond.initialized y.cls).before a0 Z = true) (w4 : (Jvm.Cond.code y bytes maxL none).before a0 Z = true)
    (hy : y.cls ≠ "java/lang/invoke/MethodHandle" ∧ y.cls ≠ "java/lang/invoke/VarHandle") (eT : T.heap = h)
    (hM : MetFree l y (head1 [Jvm.Cond.code y bytes maxL none] rm) (fun a U => a = as' ∧ Z.Warmed39 U.vm ∧ U.heap = h) (fun _ _ _ _ _ => True) (fun _ U o U' => ∃ v L, o = .returned v ∧ Q v U'.heap L ∧ FrameEnd U o U' L rm.cells rm.slots))
    (hf : rm.frames + 1 ≤ R.frames) (hl : W + (maxL + 11) + rm.locals ≤ R.locals) (hg : g.method = m) (hsize : g.locals.size = c.maxLocals) (hlen : ∀ sig, parseMethodDescriptor y.desc = some sig → argsL.length = sig.parameters.length)
    (hstack : g.stack = argsL.reverse ++ .ref a :: rest) (has : (.ref a :: argsL).toArray = as') (hW : 2 * g.monitorRoom + (rest.map fun v => v.category).sum ≤ W) (hdg : decode c.code g.pc = .ok (.invokespecial index, 3)) (hc : cells + rm.cells ≤ R.cells) (hs : slots + rm.slots ≤ R.slots) :
    ∃ (v : Option Value) (T' : State) (L : List Loc), Stand p l e R s m args below meth c T' (locs ++ L) (cells + rm.cells) (slots + rm.slots) ∧ Q v T'.heap L ∧
      ∀ target, Steps p.tables e below (T'.setTop { g with pc := g.pc + 3, stack := v.toList ++ rest }) target → Steps p.tables e below (T.setTop g) target := by
  obtain ⟨v, _, ⟨T', L', k', n'⟩, -, X', ⟨Lc, hQ, l', y', z'⟩, st⟩ := X.specialBack hx (y := y) hy1 hown (mvT hZ w1) (mvT hZ w2) (mvT hZ w4) hy (backOf (W := W) hM hZ w4 w3 hf hl) hg hsize (Steps.refl _) (a := a) hlen hstack hW hdg (fun _ _ => ⟨has, eT, hc, hs⟩)
  dsimp only [Pt.U, Pt.locs, Pt.cells, Pt.slots] at X' l' y' z' st hQ
  subst l' y' z'
  exact ⟨v, T', Lc, X', hQ, fun _ k => st.trans k⟩
theorem own_callV {own C : String} {index : Nat} {y : MethodName} {bytes : ByteArray} {maxL W : Nat} {ret : Option FieldType} {rm : Room} {as' : Array Value} {g : JFrame} {a : Addr} {argsL rest : List Value}
    (X : Stand p l e R s m args below meth c T locs cells slots) (hx : p.tables.exec = Jvm.exec) (hZ : Z.Warmed39 s.vm) (hown : s.vm.findClass own = some m.cls)
    (w1 : (Jvm.Cond.methodLink own index y).before a0 Z = true) (w2 : (Jvm.Cond.declares y).before a0 Z = true) (w3 : (Jvm.Cond.selects C y y).before a0 Z = true) (w4 : (Jvm.Cond.instanceMethod y).before a0 Z = true) (w5 : (Jvm.Cond.initialized y.cls).before a0 Z = true) (w6 : (Jvm.Cond.code y bytes maxL ret).before a0 Z = true)
    (hy : y.cls ≠ "java/lang/invoke/MethodHandle" ∧ y.cls ≠ "java/lang/invoke/VarHandle") (eT : T.heap = h) (E : Exa Z h a C)
    (hM : MetFree l y (head1 [Jvm.Cond.code y bytes maxL ret] rm) (fun a U => a = as' ∧ Z.Warmed39 U.vm ∧ U.heap = h) (fun _ _ _ _ _ => True) (fun _ U o U' => ∃ v L, o = .returned v ∧ Q v U'.heap L ∧ FrameEnd U o U' L rm.cells rm.slots))
    (hf : rm.frames + 1 ≤ R.frames) (hl : W + (maxL + 11) + rm.locals ≤ R.locals) (hg : g.method = m) (hsize : g.locals.size = c.maxLocals) (hlen : ∀ sig, parseMethodDescriptor y.desc = some sig → argsL.length = sig.parameters.length)
    (hstack : g.stack = argsL.reverse ++ .ref a :: rest) (has : (.ref a :: argsL).toArray = as') (hW : 2 * g.monitorRoom + (rest.map fun v => v.category).sum ≤ W) (hdg : decode c.code g.pc = .ok (.invokevirtual index, 3)) (hc : cells + rm.cells ≤ R.cells) (hs : slots + rm.slots ≤ R.slots) :
    ∃ (v : Option Value) (T' : State) (L : List Loc), Stand p l e R s m args below meth c T' (locs ++ L) (cells + rm.cells) (slots + rm.slots) ∧ Q v T'.heap L ∧
      ∀ target, Steps p.tables e below (T'.setTop { g with pc := g.pc + 3, stack := v.toList ++ rest }) target → Steps p.tables e below (T.setTop g) target := by
  obtain ⟨cq, kq, qa, qb, qc⟩ := isOf hZ eT E
  obtain ⟨v, _, ⟨T', L', k', n'⟩, -, X', ⟨Lc, hQ, l', y', z'⟩, st⟩ := X.virtualBack hx (y := y) (z := y) hown (mvT hZ w1) (mvT hZ w2) (notFace_of_selects (args := args) (mvT hZ w3)) (mvT hZ w3) (mvT hZ w4) hy (backOf (W := W) hM hZ w6 w5 hf hl) qa qc hg hsize (Steps.refl _) hlen hstack hW hdg (fun _ _ => ⟨has, eT, hc, hs⟩)
  dsimp only [Pt.U, Pt.locs, Pt.cells, Pt.slots] at X' l' y' z' st hQ
  subst l' y' z'
  exact ⟨v, T', Lc, X', hQ, fun _ k => st.trans k⟩
end OwnStand
theorem own_idx (j : Int32) (n : Nat) (h0 : 0 ≤ j.toInt) (h1 : j.toInt < n) : ¬ (j < 0 ∨ n ≤ j.toNatClampNeg) := by
  have e : j.toNatClampNeg = j.toInt.toNat := rfl
  intro q
  rcases q with q | q
  · rw [Int32.lt_iff_toInt_lt] at q
    have : (0 : Int32).toInt = 0 := by decide
    omega
  · omega
theorem own_clamp (j : Int32) (k : Nat) (h : j.toInt = k) : j.toNatClampNeg = k := by
  have e : j.toNatClampNeg = j.toInt.toNat := rfl
  omega
theorem own_lt32 (x y : Int32) : x < y ↔ x.toInt < y.toInt := Int32.lt_iff_toInt_lt
theorem own_eq32 (x y : Int32) : x = y ↔ x.toInt = y.toInt := Int32.toInt_inj.symm
/-- the digits from place i on, k of them, over acc -/
def own_dig (g : Nat → Int32) : Nat → Nat → Int64 → Option Int64
  | _, 0, acc => some acc
  | i, k + 1, acc => if g i - 48 < 0 then none else if 9 < g i - 48 then none else own_dig g (i + 1) k (10 * acc + (g i - 48).toInt64)
def own_fin (neg : Int32) : Option Int64 → Int64
  | none => -9223372036854775808
  | some m => if neg = 0 then m else -m
def own_tail (neg : Int32) (g : Nat → Int32) (Fi F1 : Nat) : Int64 := if F1 = Fi then -9223372036854775808 else if 18 < F1 - Fi then -9223372036854775808 else own_fin neg (own_dig g Fi (F1 - Fi) 0)
def own_pp (g : Nat → Int32) (F0 F1 : Nat) : Int64 := if F0 < F1 ∧ g F0 = 45 then own_tail 1 g (F0 + 1) F1 else own_tail 0 g F0 F1
theorem own_nat_mod (D j : Nat) : D % 10 ^ (j + 1) = 10 * (D / 10 % 10 ^ j) + D % 10 := by
  rw [Nat.pow_succ, Nat.mul_comm, Nat.mod_mul]; omega
/-- digits that are all there sum up to the number -/
theorem own_dig_all (g : Nat → Int32) (U n f : Nat) (hn : n ≤ 18) (hg : ∀ k, k < n → (g (f + k)).toInt = ((48 + U / 10 ^ (n - 1 - k) % 10 : Nat) : Int)) :
    ∀ k j acc, k + j = n → acc.toInt = ((U / 10 ^ k % 10 ^ j : Nat) : Int) → ∃ m, own_dig g (f + j) k acc = some m ∧ m.toInt = ((U % 10 ^ n : Nat) : Int) := by
  intro k
  induction k with
  | zero => intro j acc hk ha; exact ⟨acc, rfl, by rw [ha]; simp at hk ⊢; rw [hk]⟩
  | succ k ih =>
    intro j acc hk ha
    have hgj := hg j (by omega)
    have e1 : n - 1 - j = k := by omega
    rw [e1] at hgj
    have k48 : (48 : Int32).toInt = 48 := by decide
    have k9 : (9 : Int32).toInt = 9 := by decide
    have k0 : (0 : Int32).toInt = 0 := by decide
    generalize hD : U / 10 ^ k = D at hgj
    have hd : (g (f + j) - 48).toInt = ((D % 10 : Nat) : Int) := by
      rw [Int32.toInt_sub, hgj, k48, Int.bmod_eq_of_le (by omega) (by omega)]; omega
    have n1 : ¬ g (f + j) - 48 < 0 := by rw [Int32.lt_iff_toInt_lt]; omega
    have n2 : ¬ 9 < g (f + j) - 48 := by rw [Int32.lt_iff_toInt_lt]; omega
    rw [own_dig, if_neg n1, if_neg n2]
    have hp : U / 10 ^ (k + 1) = D / 10 := by rw [Nat.pow_succ, ← Nat.div_div_eq_div_mul, hD]
    rw [hp] at ha
    have hm := own_nat_mod D j
    have hlt : D % 10 ^ (j + 1) < 10 ^ (j + 1) := Nat.mod_lt _ (Nat.pow_pos (by decide))
    have hle : 10 ^ (j + 1) ≤ 10 ^ 18 := Nat.pow_le_pow_right (by decide) (by omega)
    obtain ⟨m, h1, h2⟩ := ih (j + 1) (10 * acc + (g (f + j) - 48).toInt64) (by omega) (by
      rw [Int64.toInt_add, Int64.toInt_mul, Int32.toInt_toInt64, hd, ha]
      have t10 : (10 : Int64).toInt = 10 := by decide
      rw [t10, hD]
      have b1 : (10 * ((D / 10 % 10 ^ j : Nat) : Int)).bmod (2 ^ 64) = 10 * ((D / 10 % 10 ^ j : Nat) : Int) := Int.bmod_eq_of_le (by omega) (by omega)
      rw [b1, Int.bmod_eq_of_le (by omega) (by omega), hm]
      omega)
    exact ⟨m, by rw [← h1, Nat.add_assoc], h2⟩
/-- a place that holds no digit -/
theorem own_dig_bad (g : Nat → Int32) (f : Nat) (p : Nat) (hp : g (f + p) - 48 < 0 ∨ 9 < g (f + p) - 48) : ∀ k j acc, p < j + k → j ≤ p → own_dig g (f + j) k acc = none := by
  intro k
  induction k with
  | zero => intro j acc h1 h2; omega
  | succ k ih =>
    intro j acc h1 h2
    rw [own_dig]
    by_cases e : j = p
    · subst e
      rcases hp with q | q
      · rw [if_pos q]
      · split
        · rfl
        · rfl
    · split
      · rfl
      · split
        · rfl
        · rw [Nat.add_assoc]; exact ih (j + 1) _ (by omega) (by omega)
/-- the two laws' plain side: what parsePlain answers -/
theorem own_pp_tail (g : Nat → Int32) (f s n : Nat) (ng : Int32) (h1 : ng = 1 → s = f + 1 ∧ g f = 45) (h0 : ng = 0 → s = f ∧ (0 < n → g f ≠ 45)) (hng : ng = 0 ∨ ng = 1) : own_pp g f (s + n) = own_tail ng g s (s + n) := by
  unfold own_pp
  rcases hng with e | e
  · obtain ⟨e1, e2⟩ := h0 e
    subst e1
    rw [if_neg (fun q => e2 (by omega) q.2), e]
  · obtain ⟨e1, e2⟩ := h1 e
    subst e1
    rw [if_pos ⟨by omega, e2⟩, e]
theorem own_tail_bad (g : Nat → Int32) (s n p : Nat) (ng : Int32) (h : n = 0 ∨ 18 < n ∨ (p < n ∧ (g (s + p) - 48 < 0 ∨ 9 < g (s + p) - 48))) : own_tail ng g s (s + n) = -9223372036854775808 := by
  unfold own_tail
  by_cases h0 : n = 0
  · rw [if_pos (by omega)]
  · rw [if_neg (by omega)]
    by_cases h1 : 18 < n
    · rw [if_pos (by omega)]
    · rw [if_neg (by omega)]
      rcases h with q | q | ⟨q1, q2⟩
      · exact absurd q h0
      · exact absurd q h1
      · have := own_dig_bad g s p q2 n 0 0 (by omega) (by omega)
        rw [Nat.add_zero] at this
        rw [show s + n - s = n by omega, this]; rfl
theorem own_tail_good (g : Nat → Int32) (s n U : Nat) (ng : Int32) (mv : Int64) (h0 : 0 < n) (hn : n ≤ 18) (hg : ∀ k, k < n → (g (s + k)).toInt = ((48 + U / 10 ^ (n - 1 - k) % 10 : Nat) : Int)) (hm : mv.toInt = ((U % 10 ^ n : Nat) : Int)) : own_tail ng g s (s + n) = if ng = 0 then mv else -mv := by
  unfold own_tail
  rw [if_neg (by omega), if_neg (by omega), show s + n - s = n by omega]
  obtain ⟨m, h1, h2⟩ := own_dig_all g U n s hn hg n 0 0 (by omega) (by rw [Nat.pow_zero, Nat.mod_one]; rfl)
  rw [Nat.add_zero] at h1
  rw [h1]
  have e : m = mv := Int64.toInt_inj.mp (by rw [h2, hm])
  subst e; rfl
/-- an array's first k places -/
def own_pre (G : Nat → Int32) (k i : Nat) : Int32 := if i < k then G i else 0
theorem own_cellmod (x : Int) (y : Int) (h : (x - y) % 256 = 0) (h1 : -128 ≤ x) (h2 : x < 128) (h3 : -128 ≤ y) (h4 : y < 128) : x = y := by omega
/-- what the law's cell i holds -/
def own_cellv (i f s t n U q : Nat) (cv rv pv : Int32) : Int32 := if i < f then pv else if ¬ i < t then pv else if i < s then 45 else if rv = 0 ∨ ¬ i - s = q then Int32.ofNat (48 + U / 10 ^ (n - 1 - (i - s)) % 10) else cv

theorem d3_0 : decode prog_158_method_3_code 0 = .ok (.iload_n 1, 1) := by decide +kernel
theorem d3_1 : decode prog_158_method_3_code 1 = .ok (.iload_n 2, 1) := by decide +kernel
theorem d3_2 : decode prog_158_method_3_code 2 = .ok (.if_icmp .ge 15, 3) := by decide +kernel
theorem d3_5 : decode prog_158_method_3_code 5 = .ok (.aload_n 0, 1) := by decide +kernel
theorem d3_6 : decode prog_158_method_3_code 6 = .ok (.iload_n 1, 1) := by decide +kernel
theorem d3_7 : decode prog_158_method_3_code 7 = .ok (.baload, 1) := by decide +kernel
theorem d3_8 : decode prog_158_method_3_code 8 = .ok (.bipush 45, 2) := by decide +kernel
theorem d3_10 : decode prog_158_method_3_code 10 = .ok (.if_icmp .ne 7, 3) := by decide +kernel
theorem d3_13 : decode prog_158_method_3_code 13 = .ok (.iconst 1, 1) := by decide +kernel
theorem d3_14 : decode prog_158_method_3_code 14 = .ok (.goto 4, 3) := by decide +kernel
theorem d3_17 : decode prog_158_method_3_code 17 = .ok (.iconst 0, 1) := by decide +kernel
theorem d3_18 : decode prog_158_method_3_code 18 = .ok (.istore_n 3, 1) := by decide +kernel
theorem d3_19 : decode prog_158_method_3_code 19 = .ok (.iload_n 3, 1) := by decide +kernel
theorem d3_20 : decode prog_158_method_3_code 20 = .ok (.ifCond .eq 9, 3) := by decide +kernel
theorem d3_23 : decode prog_158_method_3_code 23 = .ok (.iload_n 1, 1) := by decide +kernel
theorem d3_24 : decode prog_158_method_3_code 24 = .ok (.iconst 1, 1) := by decide +kernel
theorem d3_25 : decode prog_158_method_3_code 25 = .ok (.iadd, 1) := by decide +kernel
theorem d3_26 : decode prog_158_method_3_code 26 = .ok (.goto 4, 3) := by decide +kernel
theorem d3_29 : decode prog_158_method_3_code 29 = .ok (.iload_n 1, 1) := by decide +kernel
theorem d3_30 : decode prog_158_method_3_code 30 = .ok (.istore 4, 2) := by decide +kernel
theorem d3_32 : decode prog_158_method_3_code 32 = .ok (.iload_n 2, 1) := by decide +kernel
theorem d3_33 : decode prog_158_method_3_code 33 = .ok (.iload 4, 2) := by decide +kernel
theorem d3_35 : decode prog_158_method_3_code 35 = .ok (.if_icmp .eq 12, 3) := by decide +kernel
theorem d3_38 : decode prog_158_method_3_code 38 = .ok (.iload_n 2, 1) := by decide +kernel
theorem d3_39 : decode prog_158_method_3_code 39 = .ok (.iload 4, 2) := by decide +kernel
theorem d3_41 : decode prog_158_method_3_code 41 = .ok (.isub, 1) := by decide +kernel
theorem d3_42 : decode prog_158_method_3_code 42 = .ok (.bipush 18, 2) := by decide +kernel
theorem d3_44 : decode prog_158_method_3_code 44 = .ok (.if_icmp .le 7, 3) := by decide +kernel
theorem d3_47 : decode prog_158_method_3_code 47 = .ok (.ldc2_w 54, 3) := by decide +kernel
theorem d3_50 : decode prog_158_method_3_code 50 = .ok (.lreturn, 1) := by decide +kernel
theorem d3_51 : decode prog_158_method_3_code 51 = .ok (.lconst 0, 1) := by decide +kernel
theorem d3_52 : decode prog_158_method_3_code 52 = .ok (.lstore 5, 2) := by decide +kernel
theorem d3_54 : decode prog_158_method_3_code 54 = .ok (.iload 4, 2) := by decide +kernel
theorem d3_56 : decode prog_158_method_3_code 56 = .ok (.istore 7, 2) := by decide +kernel
theorem d3_58 : decode prog_158_method_3_code 58 = .ok (.iload 7, 2) := by decide +kernel
theorem d3_60 : decode prog_158_method_3_code 60 = .ok (.iload_n 2, 1) := by decide +kernel
theorem d3_61 : decode prog_158_method_3_code 61 = .ok (.if_icmp .ge 46, 3) := by decide +kernel
theorem d3_64 : decode prog_158_method_3_code 64 = .ok (.aload_n 0, 1) := by decide +kernel
theorem d3_65 : decode prog_158_method_3_code 65 = .ok (.iload 7, 2) := by decide +kernel
theorem d3_67 : decode prog_158_method_3_code 67 = .ok (.baload, 1) := by decide +kernel
theorem d3_68 : decode prog_158_method_3_code 68 = .ok (.bipush 48, 2) := by decide +kernel
theorem d3_70 : decode prog_158_method_3_code 70 = .ok (.isub, 1) := by decide +kernel
theorem d3_71 : decode prog_158_method_3_code 71 = .ok (.istore 8, 2) := by decide +kernel
theorem d3_73 : decode prog_158_method_3_code 73 = .ok (.iload 8, 2) := by decide +kernel
theorem d3_75 : decode prog_158_method_3_code 75 = .ok (.ifCond .lt 10, 3) := by decide +kernel
theorem d3_78 : decode prog_158_method_3_code 78 = .ok (.iload 8, 2) := by decide +kernel
theorem d3_80 : decode prog_158_method_3_code 80 = .ok (.bipush 9, 2) := by decide +kernel
theorem d3_82 : decode prog_158_method_3_code 82 = .ok (.if_icmp .le 7, 3) := by decide +kernel
theorem d3_85 : decode prog_158_method_3_code 85 = .ok (.ldc2_w 54, 3) := by decide +kernel
theorem d3_88 : decode prog_158_method_3_code 88 = .ok (.lreturn, 1) := by decide +kernel
theorem d3_89 : decode prog_158_method_3_code 89 = .ok (.ldc2_w 52, 3) := by decide +kernel
theorem d3_92 : decode prog_158_method_3_code 92 = .ok (.lload 5, 2) := by decide +kernel
theorem d3_94 : decode prog_158_method_3_code 94 = .ok (.lmul, 1) := by decide +kernel
theorem d3_95 : decode prog_158_method_3_code 95 = .ok (.iload 8, 2) := by decide +kernel
theorem d3_97 : decode prog_158_method_3_code 97 = .ok (.i2l, 1) := by decide +kernel
theorem d3_98 : decode prog_158_method_3_code 98 = .ok (.ladd, 1) := by decide +kernel
theorem d3_99 : decode prog_158_method_3_code 99 = .ok (.lstore 5, 2) := by decide +kernel
theorem d3_101 : decode prog_158_method_3_code 101 = .ok (.iinc 7 1, 3) := by decide +kernel
theorem d3_104 : decode prog_158_method_3_code 104 = .ok (.goto (-46), 3) := by decide +kernel
theorem d3_107 : decode prog_158_method_3_code 107 = .ok (.iload_n 3, 1) := by decide +kernel
theorem d3_108 : decode prog_158_method_3_code 108 = .ok (.ifCond .eq 9, 3) := by decide +kernel
theorem d3_111 : decode prog_158_method_3_code 111 = .ok (.lload 5, 2) := by decide +kernel
theorem d3_113 : decode prog_158_method_3_code 113 = .ok (.lneg, 1) := by decide +kernel
theorem d3_114 : decode prog_158_method_3_code 114 = .ok (.goto 5, 3) := by decide +kernel
theorem d3_117 : decode prog_158_method_3_code 117 = .ok (.lload 5, 2) := by decide +kernel
theorem d3_119 : decode prog_158_method_3_code 119 = .ok (.lreturn, 1) := by decide +kernel
theorem pn_3 : plainFor (⟨"com/example/leafline/leafline/table/IntegerValue", "parsePlain", "([BII)J"⟩ : MethodName) = true := plainFor_of_name (by first | (simp [plainName, overriddenIn]; done) | decide +kernel)
theorem ef_3 (m : MethodId) (a : Addr) (fv : Int32) (tv : Int32) : entryFrame m #[(.ref a), (.int fv), (.int tv)] 9 = mkF m 0 #[.val (.ref a), .val (.int fv), .val (.int tv), .unset, .unset, .unset, .unset, .unset, .unset] [] := by first | (simp [entryFrame, mkF, argsToLocals, Value.category]; done) | rfl
def Q3 (Z : State) (a : Addr) (fv : Int32) (tv : Int32) (g : Nat → Int32) (n : Nat) (F0 : Nat) (F1 : Nat) (hI : Heap) (n0 : Nat) (v : Option Value) (h : Heap) (L : List Loc) : Prop := v = some (.long (own_pp g F0 F1)) ∧ Fr n0 L ∧ h = hI
set_option maxRecDepth 65536 in
set_option maxHeartbeats 40000000 in
theorem rm3 (l : Launch) (Z : State) (a0 : Array Value) (hw : ∀ d ∈ tables_1, d.before a0 Z = true) (ws : List Jvm.Cond) (a : Addr) (fv : Int32) (tv : Int32) (g : Nat → Int32) (n : Nat) (F0 : Nat) (F1 : Nat) (hI : Heap) (n0 : Nat) (Z0 : n0 ≤ hI.size) (Ar : own_A Z hI a .byte n (fun i => .int (g i))) (hF0 : fv.toInt = F0) (hF1 : tv.toInt = F1) (h01 : F0 ≤ F1) (h1n : F1 ≤ n) (hn : n < 1000) :
    MetFree l (⟨"com/example/leafline/leafline/table/IntegerValue", "parsePlain", "([BII)J"⟩ : MethodName) (head1 (Jvm.Cond.code (⟨"com/example/leafline/leafline/table/IntegerValue", "parsePlain", "([BII)J"⟩ : MethodName) prog_158_method_3_code 9 (some .long) :: ws) ({ frames := 0, cells := 0, slots := 0, locals := 0 } : Room)) (fun xa xU => xa = #[(.ref a), (.int fv), (.int tv)] ∧ Z.Warmed39 xU.vm ∧ xU.heap = hI) (fun _ _ _ _ _ => True) (fun _ xU xo xU' => ∃ xv xL, xo = .returned xv ∧ Q3 Z a fv tv g n F0 F1 hI n0 xv xU'.heap xL ∧ FrameEnd xU xo xU' xL ({ frames := 0, cells := 0, slots := 0, locals := 0 } : Room).cells ({ frames := 0, cells := 0, slots := 0, locals := 0 } : Room).slots) := by
  refine own_body pn_3 ?_
  intro p e s m below meth c s₁ hx hby hml hown hnm hret hlk hZ XI eI
  obtain ⟨F, hF⟩ : ∃ F : State → JFrame → Prop, F = own_Fin p.tables e below s ({ frames := 0, cells := 0, slots := 0, locals := 0 } : Room) (Q3 Z a fv tv g n F0 F1 hI n0) := ⟨_, rfl⟩
  have hst : ∀ {T T' : State} {g g' : JFrame}, (∀ t, Steps p.tables e below (T'.setTop g') t → Steps p.tables e below (T.setTop g) t) → F T' g' → F T g := by subst hF; exact own_st
  have NI := Fr.nil n0
  show own_Fin p.tables e below s ({ frames := 0, cells := 0, slots := 0, locals := 0 } : Room) (Q3 Z a fv tv g n F0 F1 hI n0) s₁ (entryFrame m #[(.ref a), (.int fv), (.int tv)] 9)
  rw [← hF]
  rw [ef_3]
  show F s₁ (mkF m 0 #[.val (.ref a), .val (.int fv), .val (.int tv), .unset, .unset, .unset, .unset, .unset, .unset] [])
  have k0 : (0 : Int32).toInt = 0 := by decide
  have k1 : (1 : Int32).toInt = 1 := by decide
  have k9 : (9 : Int32).toInt = 9 := by decide
  have k18 : (18 : Int32).toInt = 18 := by decide
  have J32 : ∀ (ng fi : Int32) (Fi : Nat), fi.toInt = Fi → Fi ≤ F1 → own_tail ng g Fi F1 = own_pp g F0 F1 → F s₁ (mkF m 32 #[.val (.ref a), .val (.int fv), .val (.int tv), .val (.int ng), .val (.int fi), .unset, .unset, .unset, .unset] []) := by
    intro ng fi Fi hFi hFi1 ht
    show F s₁ (mkF m 32 #[.val (.ref a), .val (.int fv), .val (.int tv), .val (.int ng), .val (.int fi), .unset, .unset, .unset, .unset] [])
    refine hst (fun t₀ k₀ => XS.iloadN XI.here hx rfl (hb hby d3_32) rfl k₀) ?_
    show F s₁ (mkF m 33 #[.val (.ref a), .val (.int fv), .val (.int tv), .val (.int ng), .val (.int fi), .unset, .unset, .unset, .unset] [(.int tv)])
    refine hst (fun t₀ k₀ => XS.iload XI.here hx rfl (hb hby d3_33) rfl k₀) ?_
    show F s₁ (mkF m 35 #[.val (.ref a), .val (.int fv), .val (.int tv), .val (.int ng), .val (.int fi), .unset, .unset, .unset, .unset] [(.int fi), (.int tv)])
    by_cases hc35 : tv = fi
    · -- pc 35: taken
      refine hst (fun t₀ k₀ => XS.icmpYes XI.here hx rfl (pc0 := 35) (pc' := 47) rfl (hb hby d3_35) rfl (teq hc35).1 (by decide) (by decide) k₀) ?_
      show F s₁ (mkF m 47 #[.val (.ref a), .val (.int fv), .val (.int tv), .val (.int ng), .val (.int fi), .unset, .unset, .unset, .unset] [])
      have q35 : F1 = Fi := by rw [own_eq32] at hc35; omega
      refine hst (fun t₀ k₀ => XI.ldc2J hx hown (mvT hZ (hw _ (List.mem_of_getElem? (i := 35) rfl))) (g := (mkF m 47 #[.val (.ref a), .val (.int fv), .val (.int tv), .val (.int ng), .val (.int fi), .unset, .unset, .unset, .unset] [])) rfl (hb hby d3_47) k₀) ?_
      show F s₁ (mkF m 50 #[.val (.ref a), .val (.int fv), .val (.int tv), .val (.int ng), .val (.int fi), .unset, .unset, .unset, .unset] [(.long (-9223372036854775808 : Int64))])
      rw [hF]
      refine own_retJ XI hx hret hlk (hb hby d3_50) (by decide) (by decide) ?_
      rw [eI]
      exact ⟨(by rw [← ht]; unfold own_tail; first | rw [if_pos q35] | rw [if_neg q35, if_pos q44]), NI, rfl⟩
    · -- pc 35: not taken
      refine hst (fun t₀ k₀ => XS.icmpNo XI.here hx rfl (hb hby d3_35) rfl (feq hc35).1 k₀) ?_
      show F s₁ (mkF m 38 #[.val (.ref a), .val (.int fv), .val (.int tv), .val (.int ng), .val (.int fi), .unset, .unset, .unset, .unset] [])
      have q35 : ¬ F1 = Fi := fun q => hc35 ((own_eq32 _ _).mpr (by omega))
      refine hst (fun t₀ k₀ => XS.iloadN XI.here hx rfl (hb hby d3_38) rfl k₀) ?_
      show F s₁ (mkF m 39 #[.val (.ref a), .val (.int fv), .val (.int tv), .val (.int ng), .val (.int fi), .unset, .unset, .unset, .unset] [(.int tv)])
      refine hst (fun t₀ k₀ => XS.iload XI.here hx rfl (hb hby d3_39) rfl k₀) ?_
      show F s₁ (mkF m 41 #[.val (.ref a), .val (.int fv), .val (.int tv), .val (.int ng), .val (.int fi), .unset, .unset, .unset, .unset] [(.int fi), (.int tv)])
      refine hst (fun t₀ k₀ => XS.isub XI.here hx rfl (hb hby d3_41) rfl k₀) ?_
      show F s₁ (mkF m 42 #[.val (.ref a), .val (.int fv), .val (.int tv), .val (.int ng), .val (.int fi), .unset, .unset, .unset, .unset] [(.int (tv - fi))])
      generalize hdf : (tv - fi) = df
      show F s₁ (mkF m 42 #[.val (.ref a), .val (.int fv), .val (.int tv), .val (.int ng), .val (.int fi), .unset, .unset, .unset, .unset] [(.int df)])
      have kdf : df.toInt = ((F1 - Fi : Nat) : Int) := by have h1 := c_isub tv fi; have h2 := rng32 df; rw [hdf] at h1; omega
      refine hst (fun t₀ k₀ => XS.bipush XI.here hx rfl (hb hby d3_42) k₀) ?_
      show F s₁ (mkF m 44 #[.val (.ref a), .val (.int fv), .val (.int tv), .val (.int ng), .val (.int fi), .unset, .unset, .unset, .unset] [(.int (18 : Int32)), (.int df)])
      by_cases hc44 : (18 : Int32) < df
      · -- pc 44: not taken
        refine hst (fun t₀ k₀ => XS.icmpNo XI.here hx rfl (hb hby d3_44) rfl (tlt hc44).2.2.2 k₀) ?_
        show F s₁ (mkF m 47 #[.val (.ref a), .val (.int fv), .val (.int tv), .val (.int ng), .val (.int fi), .unset, .unset, .unset, .unset] [])
        have q44 : 18 < F1 - Fi := by rw [own_lt32] at hc44; omega
        refine hst (fun t₀ k₀ => XI.ldc2J hx hown (mvT hZ (hw _ (List.mem_of_getElem? (i := 35) rfl))) (g := (mkF m 47 #[.val (.ref a), .val (.int fv), .val (.int tv), .val (.int ng), .val (.int fi), .unset, .unset, .unset, .unset] [])) rfl (hb hby d3_47) k₀) ?_
        show F s₁ (mkF m 50 #[.val (.ref a), .val (.int fv), .val (.int tv), .val (.int ng), .val (.int fi), .unset, .unset, .unset, .unset] [(.long (-9223372036854775808 : Int64))])
        rw [hF]
        refine own_retJ XI hx hret hlk (hb hby d3_50) (by decide) (by decide) ?_
        rw [eI]
        exact ⟨(by rw [← ht]; unfold own_tail; first | rw [if_pos q35] | rw [if_neg q35, if_pos q44]), NI, rfl⟩
      · -- pc 44: taken
        refine hst (fun t₀ k₀ => XS.icmpYes XI.here hx rfl (pc0 := 44) (pc' := 51) rfl (hb hby d3_44) rfl (flt hc44).2.2.2 (by decide) (by decide) k₀) ?_
        show F s₁ (mkF m 51 #[.val (.ref a), .val (.int fv), .val (.int tv), .val (.int ng), .val (.int fi), .unset, .unset, .unset, .unset] [])
        have q44 : ¬ 18 < F1 - Fi := by rw [own_lt32] at hc44; omega
        refine hst (fun t₀ k₀ => XS.lconst XI.here hx rfl (hb hby d3_51) k₀) ?_
        show F s₁ (mkF m 52 #[.val (.ref a), .val (.int fv), .val (.int tv), .val (.int ng), .val (.int fi), .unset, .unset, .unset, .unset] [(.long (0 : Int64))])
        refine hst (fun t₀ k₀ => XS.lstore XI.here hx rfl (hb hby d3_52) rfl (l' := #[.val (.ref a), .val (.int fv), .val (.int tv), .val (.int ng), .val (.int fi), .val (.long (0 : Int64)), .second, .unset, .unset]) rfl k₀) ?_
        show F s₁ (mkF m 54 #[.val (.ref a), .val (.int fv), .val (.int tv), .val (.int ng), .val (.int fi), .val (.long (0 : Int64)), .second, .unset, .unset] [])
        refine hst (fun t₀ k₀ => XS.iload XI.here hx rfl (hb hby d3_54) rfl k₀) ?_
        show F s₁ (mkF m 56 #[.val (.ref a), .val (.int fv), .val (.int tv), .val (.int ng), .val (.int fi), .val (.long (0 : Int64)), .second, .unset, .unset] [(.int fi)])
        refine hst (fun t₀ k₀ => XS.istore XI.here hx rfl (hb hby d3_56) rfl (l' := #[.val (.ref a), .val (.int fv), .val (.int tv), .val (.int ng), .val (.int fi), .val (.long (0 : Int64)), .second, .val (.int fi), .unset]) rfl k₀) ?_
        show F s₁ (mkF m 58 #[.val (.ref a), .val (.int fv), .val (.int tv), .val (.int ng), .val (.int fi), .val (.long (0 : Int64)), .second, .val (.int fi), .unset] [])
        have lp : ∀ (k : Nat) (iv : Int32) (acc : Int64) (s8 : Slot), One s8 → k ≤ F1 → iv.toInt = ((F1 - k : Nat) : Int) → own_dig g (F1 - k) k acc = own_dig g Fi (F1 - Fi) 0 → F s₁ (mkF m 58 #[.val (.ref a), .val (.int fv), .val (.int tv), .val (.int ng), .val (.int fi), .val (.long acc), .second, .val (.int iv), s8] []) := by
          intro k
          induction k using Nat.strongRecOn with
          | _ k ih =>
            intro iv acc s8 hs8 hk hiv hd
            show F s₁ (mkF m 58 #[.val (.ref a), .val (.int fv), .val (.int tv), .val (.int ng), .val (.int fi), .val (.long acc), .second, .val (.int iv), s8] [])
            refine hst (fun t₀ k₀ => XS.iload XI.here hx rfl (hb hby d3_58) rfl k₀) ?_
            show F s₁ (mkF m 60 #[.val (.ref a), .val (.int fv), .val (.int tv), .val (.int ng), .val (.int fi), .val (.long acc), .second, .val (.int iv), s8] [(.int iv)])
            refine hst (fun t₀ k₀ => XS.iloadN XI.here hx rfl (hb hby d3_60) rfl k₀) ?_
            show F s₁ (mkF m 61 #[.val (.ref a), .val (.int fv), .val (.int tv), .val (.int ng), .val (.int fi), .val (.long acc), .second, .val (.int iv), s8] [(.int tv), (.int iv)])
            by_cases hc61 : iv < tv
            · -- pc 61: not taken
              refine hst (fun t₀ k₀ => XS.icmpNo XI.here hx rfl (hb hby d3_61) rfl (tlt hc61).2.1 k₀) ?_
              show F s₁ (mkF m 64 #[.val (.ref a), .val (.int fv), .val (.int tv), .val (.int ng), .val (.int fi), .val (.long acc), .second, .val (.int iv), s8] [])
              obtain ⟨k', rfl⟩ : ∃ k', k = k' + 1 := ⟨k - 1, by rw [own_lt32] at hc61; omega⟩
              refine hst (fun t₀ k₀ => XS.aloadN XI.here hx rfl (hb hby d3_64) rfl rfl k₀) ?_
              show F s₁ (mkF m 65 #[.val (.ref a), .val (.int fv), .val (.int tv), .val (.int ng), .val (.int fi), .val (.long acc), .second, .val (.int iv), s8] [(.ref a)])
              refine hst (fun t₀ k₀ => XS.iload XI.here hx rfl (hb hby d3_65) rfl k₀) ?_
              show F s₁ (mkF m 67 #[.val (.ref a), .val (.int fv), .val (.int tv), .val (.int ng), .val (.int fi), .val (.long acc), .second, .val (.int iv), s8] [(.int iv), (.ref a)])
              refine hst (fun t₀ k₀ => own_baload XI hx hZ eI Ar (own_idx iv n (by omega) (by omega)) (v := (.int (g (F1 - (k' + 1))))) (by show Value.int (g iv.toNatClampNeg) = _; rw [own_clamp iv _ hiv]) (g := (mkF m 67 #[.val (.ref a), .val (.int fv), .val (.int tv), .val (.int ng), .val (.int fi), .val (.long acc), .second, .val (.int iv), s8] [(.int iv), (.ref a)])) rfl rfl (hb hby d3_67) t₀ k₀) ?_
              show F s₁ (mkF m 68 #[.val (.ref a), .val (.int fv), .val (.int tv), .val (.int ng), .val (.int fi), .val (.long acc), .second, .val (.int iv), s8] [(.int (g (F1 - (k' + 1))))])
              refine hst (fun t₀ k₀ => XS.bipush XI.here hx rfl (hb hby d3_68) k₀) ?_
              show F s₁ (mkF m 70 #[.val (.ref a), .val (.int fv), .val (.int tv), .val (.int ng), .val (.int fi), .val (.long acc), .second, .val (.int iv), s8] [(.int (48 : Int32)), (.int (g (F1 - (k' + 1))))])
              refine hst (fun t₀ k₀ => XS.isub XI.here hx rfl (hb hby d3_70) rfl k₀) ?_
              show F s₁ (mkF m 71 #[.val (.ref a), .val (.int fv), .val (.int tv), .val (.int ng), .val (.int fi), .val (.long acc), .second, .val (.int iv), s8] [(.int ((g (F1 - (k' + 1))) - (48 : Int32)))])
              generalize hdg : ((g (F1 - (k' + 1))) - (48 : Int32)) = dg
              show F s₁ (mkF m 71 #[.val (.ref a), .val (.int fv), .val (.int tv), .val (.int ng), .val (.int fi), .val (.long acc), .second, .val (.int iv), s8] [(.int dg)])
              refine hst (fun t₀ k₀ => XS.istoreS XI.here hx rfl (hb hby d3_71) rfl rfl hs8 k₀) ?_
              show F s₁ (mkF m 73 #[.val (.ref a), .val (.int fv), .val (.int tv), .val (.int ng), .val (.int fi), .val (.long acc), .second, .val (.int iv), .val (.int dg)] [])
              refine hst (fun t₀ k₀ => XS.iload XI.here hx rfl (hb hby d3_73) rfl k₀) ?_
              show F s₁ (mkF m 75 #[.val (.ref a), .val (.int fv), .val (.int tv), .val (.int ng), .val (.int fi), .val (.long acc), .second, .val (.int iv), .val (.int dg)] [(.int dg)])
              by_cases hc75 : dg < (0 : Int32)
              · -- pc 75: taken
                refine hst (fun t₀ k₀ => XS.ifYes XI.here hx rfl (pc0 := 75) (pc' := 85) rfl (hb hby d3_75) rfl ((if0 _ _).trans (tlt hc75).1) (by decide) (by decide) k₀) ?_
                show F s₁ (mkF m 85 #[.val (.ref a), .val (.int fv), .val (.int tv), .val (.int ng), .val (.int fi), .val (.long acc), .second, .val (.int iv), .val (.int dg)] [])
                refine hst (fun t₀ k₀ => XI.ldc2J hx hown (mvT hZ (hw _ (List.mem_of_getElem? (i := 35) rfl))) (g := (mkF m 85 #[.val (.ref a), .val (.int fv), .val (.int tv), .val (.int ng), .val (.int fi), .val (.long acc), .second, .val (.int iv), .val (.int dg)] [])) rfl (hb hby d3_85) k₀) ?_
                show F s₁ (mkF m 88 #[.val (.ref a), .val (.int fv), .val (.int tv), .val (.int ng), .val (.int fi), .val (.long acc), .second, .val (.int iv), .val (.int dg)] [(.long (-9223372036854775808 : Int64))])
                rw [hF]
                refine own_retJ XI hx hret hlk (hb hby d3_88) (by decide) (by decide) ?_
                rw [eI]
                exact ⟨(by rw [← ht]; unfold own_tail; rw [if_neg q35, if_neg q44, ← hd, own_dig]; first | (rw [hdg, if_pos hc75]; rfl) | (rw [hdg, if_neg hc75, if_pos hc82]; rfl)), NI, rfl⟩
              · -- pc 75: not taken
                refine hst (fun t₀ k₀ => XS.ifNo XI.here hx rfl (hb hby d3_75) rfl ((if0 _ _).trans (flt hc75).1) k₀) ?_
                show F s₁ (mkF m 78 #[.val (.ref a), .val (.int fv), .val (.int tv), .val (.int ng), .val (.int fi), .val (.long acc), .second, .val (.int iv), .val (.int dg)] [])
                refine hst (fun t₀ k₀ => XS.iload XI.here hx rfl (hb hby d3_78) rfl k₀) ?_
                show F s₁ (mkF m 80 #[.val (.ref a), .val (.int fv), .val (.int tv), .val (.int ng), .val (.int fi), .val (.long acc), .second, .val (.int iv), .val (.int dg)] [(.int dg)])
                refine hst (fun t₀ k₀ => XS.bipush XI.here hx rfl (hb hby d3_80) k₀) ?_
                show F s₁ (mkF m 82 #[.val (.ref a), .val (.int fv), .val (.int tv), .val (.int ng), .val (.int fi), .val (.long acc), .second, .val (.int iv), .val (.int dg)] [(.int (9 : Int32)), (.int dg)])
                by_cases hc82 : (9 : Int32) < dg
                · -- pc 82: not taken
                  refine hst (fun t₀ k₀ => XS.icmpNo XI.here hx rfl (hb hby d3_82) rfl (tlt hc82).2.2.2 k₀) ?_
                  show F s₁ (mkF m 85 #[.val (.ref a), .val (.int fv), .val (.int tv), .val (.int ng), .val (.int fi), .val (.long acc), .second, .val (.int iv), .val (.int dg)] [])
                  refine hst (fun t₀ k₀ => XI.ldc2J hx hown (mvT hZ (hw _ (List.mem_of_getElem? (i := 35) rfl))) (g := (mkF m 85 #[.val (.ref a), .val (.int fv), .val (.int tv), .val (.int ng), .val (.int fi), .val (.long acc), .second, .val (.int iv), .val (.int dg)] [])) rfl (hb hby d3_85) k₀) ?_
                  show F s₁ (mkF m 88 #[.val (.ref a), .val (.int fv), .val (.int tv), .val (.int ng), .val (.int fi), .val (.long acc), .second, .val (.int iv), .val (.int dg)] [(.long (-9223372036854775808 : Int64))])
                  rw [hF]
                  refine own_retJ XI hx hret hlk (hb hby d3_88) (by decide) (by decide) ?_
                  rw [eI]
                  exact ⟨(by rw [← ht]; unfold own_tail; rw [if_neg q35, if_neg q44, ← hd, own_dig]; first | (rw [hdg, if_pos hc75]; rfl) | (rw [hdg, if_neg hc75, if_pos hc82]; rfl)), NI, rfl⟩
                · -- pc 82: taken
                  refine hst (fun t₀ k₀ => XS.icmpYes XI.here hx rfl (pc0 := 82) (pc' := 89) rfl (hb hby d3_82) rfl (flt hc82).2.2.2 (by decide) (by decide) k₀) ?_
                  show F s₁ (mkF m 89 #[.val (.ref a), .val (.int fv), .val (.int tv), .val (.int ng), .val (.int fi), .val (.long acc), .second, .val (.int iv), .val (.int dg)] [])
                  refine hst (fun t₀ k₀ => XI.ldc2J hx hown (mvT hZ (hw _ (List.mem_of_getElem? (i := 33) rfl))) (g := (mkF m 89 #[.val (.ref a), .val (.int fv), .val (.int tv), .val (.int ng), .val (.int fi), .val (.long acc), .second, .val (.int iv), .val (.int dg)] [])) rfl (hb hby d3_89) k₀) ?_
                  show F s₁ (mkF m 92 #[.val (.ref a), .val (.int fv), .val (.int tv), .val (.int ng), .val (.int fi), .val (.long acc), .second, .val (.int iv), .val (.int dg)] [(.long (10 : Int64))])
                  refine hst (fun t₀ k₀ => XS.lload XI.here hx rfl (hb hby d3_92) rfl k₀) ?_
                  show F s₁ (mkF m 94 #[.val (.ref a), .val (.int fv), .val (.int tv), .val (.int ng), .val (.int fi), .val (.long acc), .second, .val (.int iv), .val (.int dg)] [(.long acc), (.long (10 : Int64))])
                  refine hst (fun t₀ k₀ => XS.lmul XI.here hx rfl (hb hby d3_94) rfl k₀) ?_
                  show F s₁ (mkF m 95 #[.val (.ref a), .val (.int fv), .val (.int tv), .val (.int ng), .val (.int fi), .val (.long acc), .second, .val (.int iv), .val (.int dg)] [(.long ((10 : Int64) * acc))])
                  refine hst (fun t₀ k₀ => XS.iload XI.here hx rfl (hb hby d3_95) rfl k₀) ?_
                  show F s₁ (mkF m 97 #[.val (.ref a), .val (.int fv), .val (.int tv), .val (.int ng), .val (.int fi), .val (.long acc), .second, .val (.int iv), .val (.int dg)] [(.int dg), (.long ((10 : Int64) * acc))])
                  refine hst (fun t₀ k₀ => XS.i2l XI.here hx rfl (hb hby d3_97) rfl k₀) ?_
                  show F s₁ (mkF m 98 #[.val (.ref a), .val (.int fv), .val (.int tv), .val (.int ng), .val (.int fi), .val (.long acc), .second, .val (.int iv), .val (.int dg)] [(.long (dg.toInt64)), (.long ((10 : Int64) * acc))])
                  refine hst (fun t₀ k₀ => XS.ladd XI.here hx rfl (hb hby d3_98) rfl k₀) ?_
                  show F s₁ (mkF m 99 #[.val (.ref a), .val (.int fv), .val (.int tv), .val (.int ng), .val (.int fi), .val (.long acc), .second, .val (.int iv), .val (.int dg)] [(.long (((10 : Int64) * acc) + (dg.toInt64)))])
                  refine hst (fun t₀ k₀ => XS.lstore XI.here hx rfl (hb hby d3_99) rfl (l' := #[.val (.ref a), .val (.int fv), .val (.int tv), .val (.int ng), .val (.int fi), .val (.long (((10 : Int64) * acc) + (dg.toInt64))), .second, .val (.int iv), .val (.int dg)]) rfl k₀) ?_
                  show F s₁ (mkF m 101 #[.val (.ref a), .val (.int fv), .val (.int tv), .val (.int ng), .val (.int fi), .val (.long (((10 : Int64) * acc) + (dg.toInt64))), .second, .val (.int iv), .val (.int dg)] [])
                  refine hst (fun t₀ k₀ => XS.iinc XI.here hx rfl (hb hby d3_101) rfl (l' := #[.val (.ref a), .val (.int fv), .val (.int tv), .val (.int ng), .val (.int fi), .val (.long (((10 : Int64) * acc) + (dg.toInt64))), .second, .val (.int (iv + (1 : Int32))), .val (.int dg)]) rfl k₀) ?_
                  show F s₁ (mkF m 104 #[.val (.ref a), .val (.int fv), .val (.int tv), .val (.int ng), .val (.int fi), .val (.long (((10 : Int64) * acc) + (dg.toInt64))), .second, .val (.int (iv + (1 : Int32))), .val (.int dg)] [])
                  refine hst (fun t₀ k₀ => XS.goto XI.here hx rfl (pc0 := 104) (pc' := 58) rfl (hb hby d3_104) (by decide) (by decide) k₀) ?_
                  show F s₁ (mkF m 58 #[.val (.ref a), .val (.int fv), .val (.int tv), .val (.int ng), .val (.int fi), .val (.long (((10 : Int64) * acc) + (dg.toInt64))), .second, .val (.int (iv + (1 : Int32))), .val (.int dg)] [])
                  exact ih k' (by omega) _ _ _ (One.val rfl) (by omega) (by have h1 := c_iadd iv 1; have h2 := rng32 (iv + 1); omega) (by rw [← hd, own_dig, hdg, if_neg hc75, if_neg hc82, show F1 - (k' + 1) + 1 = F1 - k' by omega])
            · -- pc 61: taken
              refine hst (fun t₀ k₀ => XS.icmpYes XI.here hx rfl (pc0 := 61) (pc' := 107) rfl (hb hby d3_61) rfl (flt hc61).2.1 (by decide) (by decide) k₀) ?_
              show F s₁ (mkF m 107 #[.val (.ref a), .val (.int fv), .val (.int tv), .val (.int ng), .val (.int fi), .val (.long acc), .second, .val (.int iv), s8] [])
              have q61 : k = 0 := by rw [own_lt32] at hc61; omega
              subst q61
              refine hst (fun t₀ k₀ => XS.iloadN XI.here hx rfl (hb hby d3_107) rfl k₀) ?_
              show F s₁ (mkF m 108 #[.val (.ref a), .val (.int fv), .val (.int tv), .val (.int ng), .val (.int fi), .val (.long acc), .second, .val (.int iv), s8] [(.int ng)])
              by_cases hc108 : ng = (0 : Int32)
              · -- pc 108: taken
                refine hst (fun t₀ k₀ => XS.ifYes XI.here hx rfl (pc0 := 108) (pc' := 117) rfl (hb hby d3_108) rfl ((if0 _ _).trans (teq hc108).1) (by decide) (by decide) k₀) ?_
                show F s₁ (mkF m 117 #[.val (.ref a), .val (.int fv), .val (.int tv), .val (.int ng), .val (.int fi), .val (.long acc), .second, .val (.int iv), s8] [])
                refine hst (fun t₀ k₀ => XS.lload XI.here hx rfl (hb hby d3_117) rfl k₀) ?_
                show F s₁ (mkF m 119 #[.val (.ref a), .val (.int fv), .val (.int tv), .val (.int ng), .val (.int fi), .val (.long acc), .second, .val (.int iv), s8] [(.long acc)])
                rw [hF]
                refine own_retJ XI hx hret hlk (hb hby d3_119) (by decide) (by decide) ?_
                rw [eI]
                exact ⟨(by rw [← ht]; unfold own_tail; rw [if_neg q35, if_neg q44, ← hd]; show _ = some (Value.long (if ng = 0 then acc else -acc)); first | rw [if_pos hc108] | rw [if_neg hc108]), NI, rfl⟩
              · -- pc 108: not taken
                refine hst (fun t₀ k₀ => XS.ifNo XI.here hx rfl (hb hby d3_108) rfl ((if0 _ _).trans (feq hc108).1) k₀) ?_
                show F s₁ (mkF m 111 #[.val (.ref a), .val (.int fv), .val (.int tv), .val (.int ng), .val (.int fi), .val (.long acc), .second, .val (.int iv), s8] [])
                refine hst (fun t₀ k₀ => XS.lload XI.here hx rfl (hb hby d3_111) rfl k₀) ?_
                show F s₁ (mkF m 113 #[.val (.ref a), .val (.int fv), .val (.int tv), .val (.int ng), .val (.int fi), .val (.long acc), .second, .val (.int iv), s8] [(.long acc)])
                refine hst (fun t₀ k₀ => XS.lneg XI.here hx rfl (hb hby d3_113) rfl k₀) ?_
                show F s₁ (mkF m 114 #[.val (.ref a), .val (.int fv), .val (.int tv), .val (.int ng), .val (.int fi), .val (.long acc), .second, .val (.int iv), s8] [(.long (-acc))])
                refine hst (fun t₀ k₀ => XS.goto XI.here hx rfl (pc0 := 114) (pc' := 119) rfl (hb hby d3_114) (by decide) (by decide) k₀) ?_
                show F s₁ (mkF m 119 #[.val (.ref a), .val (.int fv), .val (.int tv), .val (.int ng), .val (.int fi), .val (.long acc), .second, .val (.int iv), s8] [(.long (-acc))])
                rw [hF]
                refine own_retJ XI hx hret hlk (hb hby d3_119) (by decide) (by decide) ?_
                rw [eI]
                exact ⟨(by rw [← ht]; unfold own_tail; rw [if_neg q35, if_neg q44, ← hd]; show _ = some (Value.long (if ng = 0 then acc else -acc)); first | rw [if_pos hc108] | rw [if_neg hc108]), NI, rfl⟩
        exact lp (F1 - Fi) _ _ _ One.u (by omega) (by rw [hFi]; omega) (by rw [show F1 - (F1 - Fi) = Fi by omega])
  refine hst (fun t₀ k₀ => XS.iloadN XI.here hx rfl (hb hby d3_0) rfl k₀) ?_
  show F s₁ (mkF m 1 #[.val (.ref a), .val (.int fv), .val (.int tv), .unset, .unset, .unset, .unset, .unset, .unset] [(.int fv)])
  refine hst (fun t₀ k₀ => XS.iloadN XI.here hx rfl (hb hby d3_1) rfl k₀) ?_
  show F s₁ (mkF m 2 #[.val (.ref a), .val (.int fv), .val (.int tv), .unset, .unset, .unset, .unset, .unset, .unset] [(.int tv), (.int fv)])
  by_cases hc2 : fv < tv
  · -- pc 2: not taken
    refine hst (fun t₀ k₀ => XS.icmpNo XI.here hx rfl (hb hby d3_2) rfl (tlt hc2).2.1 k₀) ?_
    show F s₁ (mkF m 5 #[.val (.ref a), .val (.int fv), .val (.int tv), .unset, .unset, .unset, .unset, .unset, .unset] [])
    have q2 : F0 < F1 := by rw [own_lt32] at hc2; omega
    refine hst (fun t₀ k₀ => XS.aloadN XI.here hx rfl (hb hby d3_5) rfl rfl k₀) ?_
    show F s₁ (mkF m 6 #[.val (.ref a), .val (.int fv), .val (.int tv), .unset, .unset, .unset, .unset, .unset, .unset] [(.ref a)])
    refine hst (fun t₀ k₀ => XS.iloadN XI.here hx rfl (hb hby d3_6) rfl k₀) ?_
    show F s₁ (mkF m 7 #[.val (.ref a), .val (.int fv), .val (.int tv), .unset, .unset, .unset, .unset, .unset, .unset] [(.int fv), (.ref a)])
    refine hst (fun t₀ k₀ => own_baload XI hx hZ eI Ar (own_idx fv n (by omega) (by omega)) (v := (.int (g F0))) (by show Value.int (g fv.toNatClampNeg) = _; rw [own_clamp fv F0 hF0]) (g := (mkF m 7 #[.val (.ref a), .val (.int fv), .val (.int tv), .unset, .unset, .unset, .unset, .unset, .unset] [(.int fv), (.ref a)])) rfl rfl (hb hby d3_7) t₀ k₀) ?_
    show F s₁ (mkF m 8 #[.val (.ref a), .val (.int fv), .val (.int tv), .unset, .unset, .unset, .unset, .unset, .unset] [(.int (g F0))])
    refine hst (fun t₀ k₀ => XS.bipush XI.here hx rfl (hb hby d3_8) k₀) ?_
    show F s₁ (mkF m 10 #[.val (.ref a), .val (.int fv), .val (.int tv), .unset, .unset, .unset, .unset, .unset, .unset] [(.int (45 : Int32)), (.int (g F0))])
    by_cases hc10 : (g F0) = (45 : Int32)
    · -- pc 10: not taken
      refine hst (fun t₀ k₀ => XS.icmpNo XI.here hx rfl (hb hby d3_10) rfl (teq hc10).2 k₀) ?_
      show F s₁ (mkF m 13 #[.val (.ref a), .val (.int fv), .val (.int tv), .unset, .unset, .unset, .unset, .unset, .unset] [])
      refine hst (fun t₀ k₀ => XS.iconst XI.here hx rfl (hb hby d3_13) k₀) ?_
      show F s₁ (mkF m 14 #[.val (.ref a), .val (.int fv), .val (.int tv), .unset, .unset, .unset, .unset, .unset, .unset] [(.int (1 : Int32))])
      refine hst (fun t₀ k₀ => XS.goto XI.here hx rfl (pc0 := 14) (pc' := 18) rfl (hb hby d3_14) (by decide) (by decide) k₀) ?_
      show F s₁ (mkF m 18 #[.val (.ref a), .val (.int fv), .val (.int tv), .unset, .unset, .unset, .unset, .unset, .unset] [(.int (1 : Int32))])
      refine hst (fun t₀ k₀ => XS.istoreN XI.here hx rfl (hb hby d3_18) rfl (l' := #[.val (.ref a), .val (.int fv), .val (.int tv), .val (.int (1 : Int32)), .unset, .unset, .unset, .unset, .unset]) rfl k₀) ?_
      show F s₁ (mkF m 19 #[.val (.ref a), .val (.int fv), .val (.int tv), .val (.int (1 : Int32)), .unset, .unset, .unset, .unset, .unset] [])
      refine hst (fun t₀ k₀ => XS.iloadN XI.here hx rfl (hb hby d3_19) rfl k₀) ?_
      show F s₁ (mkF m 20 #[.val (.ref a), .val (.int fv), .val (.int tv), .val (.int (1 : Int32)), .unset, .unset, .unset, .unset, .unset] [(.int (1 : Int32))])
      refine hst (fun t₀ k₀ => XS.ifNo XI.here hx rfl (hb hby d3_20) rfl ((if0 _ _).trans (feq (by decide)).1) k₀) ?_
      show F s₁ (mkF m 23 #[.val (.ref a), .val (.int fv), .val (.int tv), .val (.int (1 : Int32)), .unset, .unset, .unset, .unset, .unset] [])
      refine hst (fun t₀ k₀ => XS.iloadN XI.here hx rfl (hb hby d3_23) rfl k₀) ?_
      show F s₁ (mkF m 24 #[.val (.ref a), .val (.int fv), .val (.int tv), .val (.int (1 : Int32)), .unset, .unset, .unset, .unset, .unset] [(.int fv)])
      refine hst (fun t₀ k₀ => XS.iconst XI.here hx rfl (hb hby d3_24) k₀) ?_
      show F s₁ (mkF m 25 #[.val (.ref a), .val (.int fv), .val (.int tv), .val (.int (1 : Int32)), .unset, .unset, .unset, .unset, .unset] [(.int (1 : Int32)), (.int fv)])
      refine hst (fun t₀ k₀ => XS.iadd XI.here hx rfl (hb hby d3_25) rfl k₀) ?_
      show F s₁ (mkF m 26 #[.val (.ref a), .val (.int fv), .val (.int tv), .val (.int (1 : Int32)), .unset, .unset, .unset, .unset, .unset] [(.int (fv + (1 : Int32)))])
      refine hst (fun t₀ k₀ => XS.goto XI.here hx rfl (pc0 := 26) (pc' := 30) rfl (hb hby d3_26) (by decide) (by decide) k₀) ?_
      show F s₁ (mkF m 30 #[.val (.ref a), .val (.int fv), .val (.int tv), .val (.int (1 : Int32)), .unset, .unset, .unset, .unset, .unset] [(.int (fv + (1 : Int32)))])
      refine hst (fun t₀ k₀ => XS.istore XI.here hx rfl (hb hby d3_30) rfl (l' := #[.val (.ref a), .val (.int fv), .val (.int tv), .val (.int (1 : Int32)), .val (.int (fv + (1 : Int32))), .unset, .unset, .unset, .unset]) rfl k₀) ?_
      show F s₁ (mkF m 32 #[.val (.ref a), .val (.int fv), .val (.int tv), .val (.int (1 : Int32)), .val (.int (fv + (1 : Int32))), .unset, .unset, .unset, .unset] [])
      exact J32 _ _ (F0 + 1) (by have h1 := c_iadd fv 1; have h2 := rng32 (fv + 1); omega) (by omega) (by unfold own_pp; rw [if_pos ⟨q2, hc10⟩])
    · -- pc 10: taken
      refine hst (fun t₀ k₀ => XS.icmpYes XI.here hx rfl (pc0 := 10) (pc' := 17) rfl (hb hby d3_10) rfl (feq hc10).2 (by decide) (by decide) k₀) ?_
      show F s₁ (mkF m 17 #[.val (.ref a), .val (.int fv), .val (.int tv), .unset, .unset, .unset, .unset, .unset, .unset] [])
      refine hst (fun t₀ k₀ => XS.iconst XI.here hx rfl (hb hby d3_17) k₀) ?_
      show F s₁ (mkF m 18 #[.val (.ref a), .val (.int fv), .val (.int tv), .unset, .unset, .unset, .unset, .unset, .unset] [(.int (0 : Int32))])
      refine hst (fun t₀ k₀ => XS.istoreN XI.here hx rfl (hb hby d3_18) rfl (l' := #[.val (.ref a), .val (.int fv), .val (.int tv), .val (.int (0 : Int32)), .unset, .unset, .unset, .unset, .unset]) rfl k₀) ?_
      show F s₁ (mkF m 19 #[.val (.ref a), .val (.int fv), .val (.int tv), .val (.int (0 : Int32)), .unset, .unset, .unset, .unset, .unset] [])
      refine hst (fun t₀ k₀ => XS.iloadN XI.here hx rfl (hb hby d3_19) rfl k₀) ?_
      show F s₁ (mkF m 20 #[.val (.ref a), .val (.int fv), .val (.int tv), .val (.int (0 : Int32)), .unset, .unset, .unset, .unset, .unset] [(.int (0 : Int32))])
      refine hst (fun t₀ k₀ => XS.ifYes XI.here hx rfl (pc0 := 20) (pc' := 29) rfl (hb hby d3_20) rfl ((if0 _ _).trans (teq (by decide)).1) (by decide) (by decide) k₀) ?_
      show F s₁ (mkF m 29 #[.val (.ref a), .val (.int fv), .val (.int tv), .val (.int (0 : Int32)), .unset, .unset, .unset, .unset, .unset] [])
      refine hst (fun t₀ k₀ => XS.iloadN XI.here hx rfl (hb hby d3_29) rfl k₀) ?_
      show F s₁ (mkF m 30 #[.val (.ref a), .val (.int fv), .val (.int tv), .val (.int (0 : Int32)), .unset, .unset, .unset, .unset, .unset] [(.int fv)])
      refine hst (fun t₀ k₀ => XS.istore XI.here hx rfl (hb hby d3_30) rfl (l' := #[.val (.ref a), .val (.int fv), .val (.int tv), .val (.int (0 : Int32)), .val (.int fv), .unset, .unset, .unset, .unset]) rfl k₀) ?_
      show F s₁ (mkF m 32 #[.val (.ref a), .val (.int fv), .val (.int tv), .val (.int (0 : Int32)), .val (.int fv), .unset, .unset, .unset, .unset] [])
      exact J32 _ _ F0 hF0 h01 (by unfold own_pp; rw [if_neg (fun q => hc10 q.2)])
  · -- pc 2: taken
    refine hst (fun t₀ k₀ => XS.icmpYes XI.here hx rfl (pc0 := 2) (pc' := 17) rfl (hb hby d3_2) rfl (flt hc2).2.1 (by decide) (by decide) k₀) ?_
    show F s₁ (mkF m 17 #[.val (.ref a), .val (.int fv), .val (.int tv), .unset, .unset, .unset, .unset, .unset, .unset] [])
    have q2 : ¬ F0 < F1 := by rw [own_lt32] at hc2; omega
    refine hst (fun t₀ k₀ => XS.iconst XI.here hx rfl (hb hby d3_17) k₀) ?_
    show F s₁ (mkF m 18 #[.val (.ref a), .val (.int fv), .val (.int tv), .unset, .unset, .unset, .unset, .unset, .unset] [(.int (0 : Int32))])
    refine hst (fun t₀ k₀ => XS.istoreN XI.here hx rfl (hb hby d3_18) rfl (l' := #[.val (.ref a), .val (.int fv), .val (.int tv), .val (.int (0 : Int32)), .unset, .unset, .unset, .unset, .unset]) rfl k₀) ?_
    show F s₁ (mkF m 19 #[.val (.ref a), .val (.int fv), .val (.int tv), .val (.int (0 : Int32)), .unset, .unset, .unset, .unset, .unset] [])
    refine hst (fun t₀ k₀ => XS.iloadN XI.here hx rfl (hb hby d3_19) rfl k₀) ?_
    show F s₁ (mkF m 20 #[.val (.ref a), .val (.int fv), .val (.int tv), .val (.int (0 : Int32)), .unset, .unset, .unset, .unset, .unset] [(.int (0 : Int32))])
    refine hst (fun t₀ k₀ => XS.ifYes XI.here hx rfl (pc0 := 20) (pc' := 29) rfl (hb hby d3_20) rfl ((if0 _ _).trans (teq (by decide)).1) (by decide) (by decide) k₀) ?_
    show F s₁ (mkF m 29 #[.val (.ref a), .val (.int fv), .val (.int tv), .val (.int (0 : Int32)), .unset, .unset, .unset, .unset, .unset] [])
    refine hst (fun t₀ k₀ => XS.iloadN XI.here hx rfl (hb hby d3_29) rfl k₀) ?_
    show F s₁ (mkF m 30 #[.val (.ref a), .val (.int fv), .val (.int tv), .val (.int (0 : Int32)), .unset, .unset, .unset, .unset, .unset] [(.int fv)])
    refine hst (fun t₀ k₀ => XS.istore XI.here hx rfl (hb hby d3_30) rfl (l' := #[.val (.ref a), .val (.int fv), .val (.int tv), .val (.int (0 : Int32)), .val (.int fv), .unset, .unset, .unset, .unset]) rfl k₀) ?_
    show F s₁ (mkF m 32 #[.val (.ref a), .val (.int fv), .val (.int tv), .val (.int (0 : Int32)), .val (.int fv), .unset, .unset, .unset, .unset] [])
    exact J32 _ _ F0 hF0 h01 (by unfold own_pp; rw [if_neg (fun q => q2 q.1)])
theorem own_pow (E : Nat) (h : E ≤ 18) : (Int64.ofNat (10 ^ E)).toInt = ((10 ^ E : Nat) : Int) := by
  have : ∀ k : Fin 19, (Int64.ofNat (10 ^ k.1)).toInt = ((10 ^ k.1 : Nat) : Int) := by decide
  exact this ⟨E, by omega⟩
def own_pt (k i : Nat) : Int64 := if i < k then Int64.ofNat (10 ^ i) else 0
theorem own_pt_step (k i : Nat) (v : Int64) (hv : Int64.ofNat (10 ^ k) = v) : (if i = k then Value.long v else Value.long (own_pt k i)) = Value.long (own_pt (k + 1) i) := by
  unfold own_pt
  by_cases h : i = k
  · subst h; rw [if_pos rfl, if_pos (by omega), hv]
  · rw [if_neg h]
    by_cases g : i < k
    · rw [if_pos g, if_pos (by omega)]
    · rw [if_neg g, if_neg (by omega)]
theorem own_pt0 (i : Nat) : (Value.long (0 : Int64)) = Value.long (own_pt 0 i) := by unfold own_pt; rw [if_neg (by omega)]
theorem d1_0 : decode method_2_code 0 = .ok (.bipush 19, 2) := by decide +kernel
theorem d1_2 : decode method_2_code 2 = .ok (.newarray .long, 2) := by decide +kernel
theorem d1_4 : decode method_2_code 4 = .ok (.dup, 1) := by decide +kernel
theorem d1_5 : decode method_2_code 5 = .ok (.iconst 0, 1) := by decide +kernel
theorem d1_6 : decode method_2_code 6 = .ok (.lconst 1, 1) := by decide +kernel
theorem d1_7 : decode method_2_code 7 = .ok (.lastore, 1) := by decide +kernel
theorem d1_8 : decode method_2_code 8 = .ok (.dup, 1) := by decide +kernel
theorem d1_9 : decode method_2_code 9 = .ok (.iconst 1, 1) := by decide +kernel
theorem d1_10 : decode method_2_code 10 = .ok (.ldc2_w 7, 3) := by decide +kernel
theorem d1_13 : decode method_2_code 13 = .ok (.lastore, 1) := by decide +kernel
theorem d1_14 : decode method_2_code 14 = .ok (.dup, 1) := by decide +kernel
theorem d1_15 : decode method_2_code 15 = .ok (.iconst 2, 1) := by decide +kernel
theorem d1_16 : decode method_2_code 16 = .ok (.ldc2_w 9, 3) := by decide +kernel
theorem d1_19 : decode method_2_code 19 = .ok (.lastore, 1) := by decide +kernel
theorem d1_20 : decode method_2_code 20 = .ok (.dup, 1) := by decide +kernel
theorem d1_21 : decode method_2_code 21 = .ok (.iconst 3, 1) := by decide +kernel
theorem d1_22 : decode method_2_code 22 = .ok (.ldc2_w 11, 3) := by decide +kernel
theorem d1_25 : decode method_2_code 25 = .ok (.lastore, 1) := by decide +kernel
theorem d1_26 : decode method_2_code 26 = .ok (.dup, 1) := by decide +kernel
theorem d1_27 : decode method_2_code 27 = .ok (.iconst 4, 1) := by decide +kernel
theorem d1_28 : decode method_2_code 28 = .ok (.ldc2_w 13, 3) := by decide +kernel
theorem d1_31 : decode method_2_code 31 = .ok (.lastore, 1) := by decide +kernel
theorem d1_32 : decode method_2_code 32 = .ok (.dup, 1) := by decide +kernel
theorem d1_33 : decode method_2_code 33 = .ok (.iconst 5, 1) := by decide +kernel
theorem d1_34 : decode method_2_code 34 = .ok (.ldc2_w 15, 3) := by decide +kernel
theorem d1_37 : decode method_2_code 37 = .ok (.lastore, 1) := by decide +kernel
theorem d1_38 : decode method_2_code 38 = .ok (.dup, 1) := by decide +kernel
theorem d1_39 : decode method_2_code 39 = .ok (.bipush 6, 2) := by decide +kernel
theorem d1_41 : decode method_2_code 41 = .ok (.ldc2_w 17, 3) := by decide +kernel
theorem d1_44 : decode method_2_code 44 = .ok (.lastore, 1) := by decide +kernel
theorem d1_45 : decode method_2_code 45 = .ok (.dup, 1) := by decide +kernel
theorem d1_46 : decode method_2_code 46 = .ok (.bipush 7, 2) := by decide +kernel
theorem d1_48 : decode method_2_code 48 = .ok (.ldc2_w 19, 3) := by decide +kernel
theorem d1_51 : decode method_2_code 51 = .ok (.lastore, 1) := by decide +kernel
theorem d1_52 : decode method_2_code 52 = .ok (.dup, 1) := by decide +kernel
theorem d1_53 : decode method_2_code 53 = .ok (.bipush 8, 2) := by decide +kernel
theorem d1_55 : decode method_2_code 55 = .ok (.ldc2_w 21, 3) := by decide +kernel
theorem d1_58 : decode method_2_code 58 = .ok (.lastore, 1) := by decide +kernel
theorem d1_59 : decode method_2_code 59 = .ok (.dup, 1) := by decide +kernel
theorem d1_60 : decode method_2_code 60 = .ok (.bipush 9, 2) := by decide +kernel
theorem d1_62 : decode method_2_code 62 = .ok (.ldc2_w 23, 3) := by decide +kernel
theorem d1_65 : decode method_2_code 65 = .ok (.lastore, 1) := by decide +kernel
theorem d1_66 : decode method_2_code 66 = .ok (.dup, 1) := by decide +kernel
theorem d1_67 : decode method_2_code 67 = .ok (.bipush 10, 2) := by decide +kernel
theorem d1_69 : decode method_2_code 69 = .ok (.ldc2_w 25, 3) := by decide +kernel
theorem d1_72 : decode method_2_code 72 = .ok (.lastore, 1) := by decide +kernel
theorem d1_73 : decode method_2_code 73 = .ok (.dup, 1) := by decide +kernel
theorem d1_74 : decode method_2_code 74 = .ok (.bipush 11, 2) := by decide +kernel
theorem d1_76 : decode method_2_code 76 = .ok (.ldc2_w 27, 3) := by decide +kernel
theorem d1_79 : decode method_2_code 79 = .ok (.lastore, 1) := by decide +kernel
theorem d1_80 : decode method_2_code 80 = .ok (.dup, 1) := by decide +kernel
theorem d1_81 : decode method_2_code 81 = .ok (.bipush 12, 2) := by decide +kernel
theorem d1_83 : decode method_2_code 83 = .ok (.ldc2_w 29, 3) := by decide +kernel
theorem d1_86 : decode method_2_code 86 = .ok (.lastore, 1) := by decide +kernel
theorem d1_87 : decode method_2_code 87 = .ok (.dup, 1) := by decide +kernel
theorem d1_88 : decode method_2_code 88 = .ok (.bipush 13, 2) := by decide +kernel
theorem d1_90 : decode method_2_code 90 = .ok (.ldc2_w 31, 3) := by decide +kernel
theorem d1_93 : decode method_2_code 93 = .ok (.lastore, 1) := by decide +kernel
theorem d1_94 : decode method_2_code 94 = .ok (.dup, 1) := by decide +kernel
theorem d1_95 : decode method_2_code 95 = .ok (.bipush 14, 2) := by decide +kernel
theorem d1_97 : decode method_2_code 97 = .ok (.ldc2_w 33, 3) := by decide +kernel
theorem d1_100 : decode method_2_code 100 = .ok (.lastore, 1) := by decide +kernel
theorem d1_101 : decode method_2_code 101 = .ok (.dup, 1) := by decide +kernel
theorem d1_102 : decode method_2_code 102 = .ok (.bipush 15, 2) := by decide +kernel
theorem d1_104 : decode method_2_code 104 = .ok (.ldc2_w 35, 3) := by decide +kernel
theorem d1_107 : decode method_2_code 107 = .ok (.lastore, 1) := by decide +kernel
theorem d1_108 : decode method_2_code 108 = .ok (.dup, 1) := by decide +kernel
theorem d1_109 : decode method_2_code 109 = .ok (.bipush 16, 2) := by decide +kernel
theorem d1_111 : decode method_2_code 111 = .ok (.ldc2_w 37, 3) := by decide +kernel
theorem d1_114 : decode method_2_code 114 = .ok (.lastore, 1) := by decide +kernel
theorem d1_115 : decode method_2_code 115 = .ok (.dup, 1) := by decide +kernel
theorem d1_116 : decode method_2_code 116 = .ok (.bipush 17, 2) := by decide +kernel
theorem d1_118 : decode method_2_code 118 = .ok (.ldc2_w 39, 3) := by decide +kernel
theorem d1_121 : decode method_2_code 121 = .ok (.lastore, 1) := by decide +kernel
theorem d1_122 : decode method_2_code 122 = .ok (.dup, 1) := by decide +kernel
theorem d1_123 : decode method_2_code 123 = .ok (.bipush 18, 2) := by decide +kernel
theorem d1_125 : decode method_2_code 125 = .ok (.ldc2_w 41, 3) := by decide +kernel
theorem d1_128 : decode method_2_code 128 = .ok (.lastore, 1) := by decide +kernel
theorem d1_129 : decode method_2_code 129 = .ok (.astore_n 1, 1) := by decide +kernel
theorem d1_130 : decode method_2_code 130 = .ok (.aload_n 1, 1) := by decide +kernel
theorem d1_131 : decode method_2_code 131 = .ok (.iload_n 0, 1) := by decide +kernel
theorem d1_132 : decode method_2_code 132 = .ok (.laload, 1) := by decide +kernel
theorem d1_133 : decode method_2_code 133 = .ok (.lreturn, 1) := by decide +kernel
theorem pn_1 : plainFor (⟨"com/example/leafline/leafline/table/IntegerValueParsePlain372PinLaw", "pow10", "(I)J"⟩ : MethodName) = true := plainFor_of_name (by first | (simp [plainName, overriddenIn]; done) | decide +kernel)
theorem ef_1 (m : MethodId) (p1 : Int32) : entryFrame m #[(.int p1)] 2 = mkF m 0 #[.val (.int p1), .unset] [] := by first | (simp [entryFrame, mkF, argsToLocals, Value.category]; done) | rfl
def Q1 (Z : State) (p1 : Int32) (E : Nat) (hI : Heap) (n0 : Nat) (v : Option Value) (h : Heap) (L : List Loc) : Prop := v = some (.long (Int64.ofNat (10 ^ E))) ∧ Fr n0 L ∧ Keep hI h []
set_option maxRecDepth 65536 in
set_option maxHeartbeats 40000000 in
theorem rm1 (l : Launch) (Z : State) (a0 : Array Value) (hw : ∀ d ∈ tables_1, d.before a0 Z = true) (ws : List Jvm.Cond) (p1 : Int32) (E : Nat) (hI : Heap) (n0 : Nat) (Z0 : n0 ≤ hI.size) (hE : p1.toInt = E) (hE2 : E ≤ 18) :
    MetFree l (⟨"com/example/leafline/leafline/table/IntegerValueParsePlain372PinLaw", "pow10", "(I)J"⟩ : MethodName) (head1 (Jvm.Cond.code (⟨"com/example/leafline/leafline/table/IntegerValueParsePlain372PinLaw", "pow10", "(I)J"⟩ : MethodName) method_2_code 2 (some .long) :: ws) ({ frames := 0, cells := 1, slots := 19, locals := 0 } : Room)) (fun xa xU => xa = #[(.int p1)] ∧ Z.Warmed39 xU.vm ∧ xU.heap = hI) (fun _ _ _ _ _ => True) (fun _ xU xo xU' => ∃ xv xL, xo = .returned xv ∧ Q1 Z p1 E hI n0 xv xU'.heap xL ∧ FrameEnd xU xo xU' xL ({ frames := 0, cells := 1, slots := 19, locals := 0 } : Room).cells ({ frames := 0, cells := 1, slots := 19, locals := 0 } : Room).slots) := by
  refine own_body pn_1 ?_
  intro p e s m below meth c s₁ hx hby hml hown hnm hret hlk hZ XI eI
  obtain ⟨F, hF⟩ : ∃ F : State → JFrame → Prop, F = own_Fin p.tables e below s ({ frames := 0, cells := 1, slots := 19, locals := 0 } : Room) (Q1 Z p1 E hI n0) := ⟨_, rfl⟩
  have hst : ∀ {T T' : State} {g g' : JFrame}, (∀ t, Steps p.tables e below (T'.setTop g') t → Steps p.tables e below (T.setTop g) t) → F T' g' → F T g := by subst hF; exact own_st
  have NI := Fr.nil n0
  show own_Fin p.tables e below s ({ frames := 0, cells := 1, slots := 19, locals := 0 } : Room) (Q1 Z p1 E hI n0) s₁ (entryFrame m #[(.int p1)] 2)
  rw [← hF]
  rw [ef_1]
  show F s₁ (mkF m 0 #[.val (.int p1), .unset] [])
  refine hst (fun t₀ k₀ => XS.bipush XI.here hx rfl (hb hby d1_0) k₀) ?_
  show F s₁ (mkF m 2 #[.val (.int p1), .unset] [(.int (19 : Int32))])
  obtain ⟨T2, h2, b2, X2, e2, g2, E2, A2, st2⟩ := own_newarr XI hx hZ (hw _ (List.mem_of_getElem? (i := 6) rfl)) eI (g := (mkF m 2 #[.val (.int p1), .unset] [(.int (19 : Int32))])) rfl (hb hby d1_2) rfl (by decide) (cap := 19) (by decide) (by decide) (by decide) (by decide)
  have ge_b2 : n0 ≤ b2 := Nat.le_trans Z0 (Nat.le_of_eq g2.symm)
  have sz_b2 : hI.size ≤ b2 := Nat.le_trans (Keep.refl hI []).1 (Nat.le_of_eq g2.symm)
  have Z0_p2 : n0 ≤ h2.size := (Nat.le_trans Z0 E2.1)
  have K_p2 : Keep hI h2 [] := (Keep.refl hI []).ext E2
  have A_b2 : own_A Z h2 b2 .long 19 (fun _ => (.long (0 : Int64))) := A2
  refine hst st2 ?_
  show F T2 (mkF m 4 #[.val (.int p1), .unset] [(.ref b2)])
  refine hst (fun t₀ k₀ => XS.dup X2.here hx rfl (hb hby d1_4) rfl rfl k₀) ?_
  show F T2 (mkF m 5 #[.val (.int p1), .unset] [(.ref b2), (.ref b2)])
  refine hst (fun t₀ k₀ => XS.iconst X2.here hx rfl (hb hby d1_5) k₀) ?_
  show F T2 (mkF m 6 #[.val (.int p1), .unset] [(.int (0 : Int32)), (.ref b2), (.ref b2)])
  refine hst (fun t₀ k₀ => XS.lconst X2.here hx rfl (hb hby d1_6) k₀) ?_
  show F T2 (mkF m 7 #[.val (.int p1), .unset] [(.long (1 : Int64)), (.int (0 : Int32)), (.ref b2), (.ref b2)])
  obtain ⟨T7, h7, X7, e7, W7, st7⟩ := own_lastore X2 hx hZ e2 A_b2 (by decide) (g := (mkF m 7 #[.val (.int p1), .unset] [(.long (1 : Int64)), (.int (0 : Int32)), (.ref b2), (.ref b2)])) rfl rfl (hb hby d1_7)
  have N7 := Fr.snoc X7 NI ge_b2
  have A_b2_p7 : own_A Z h7 b2 .long 19 (fun i => if i = Int32.toNatClampNeg (0 : Int32) then (.long (1 : Int64)) else (fun _ => (.long (0 : Int64))) i) := A_b2.set W7
  have Z0_p7 : n0 ≤ h7.size := Nat.le_trans Z0_p2 (Keep.of_wr W7).1
  have K_p7 : Keep hI h7 [] := K_p2.wr W7 (Or.inr sz_b2)
  refine hst st7 ?_
  have A_b2_p7c : own_A Z h7 b2 .long 19 (fun i => .long (own_pt 1 i)) := own_A.congr A_b2_p7 (fun i hi => by rw [show Int32.toNatClampNeg (0 : Int32) = 0 from rfl]; dsimp only; rw [own_pt0 i]; exact own_pt_step 0 i _ (by decide))
  show F T7 (mkF m 8 #[.val (.int p1), .unset] [(.ref b2)])
  refine hst (fun t₀ k₀ => XS.dup X7.here hx rfl (hb hby d1_8) rfl rfl k₀) ?_
  show F T7 (mkF m 9 #[.val (.int p1), .unset] [(.ref b2), (.ref b2)])
  refine hst (fun t₀ k₀ => XS.iconst X7.here hx rfl (hb hby d1_9) k₀) ?_
  show F T7 (mkF m 10 #[.val (.int p1), .unset] [(.int (1 : Int32)), (.ref b2), (.ref b2)])
  refine hst (fun t₀ k₀ => X7.ldc2J hx hown (mvT hZ (hw _ (List.mem_of_getElem? (i := 7) rfl))) (g := (mkF m 10 #[.val (.int p1), .unset] [(.int (1 : Int32)), (.ref b2), (.ref b2)])) rfl (hb hby d1_10) k₀) ?_
  show F T7 (mkF m 13 #[.val (.int p1), .unset] [(.long (10 : Int64)), (.int (1 : Int32)), (.ref b2), (.ref b2)])
  obtain ⟨T13, h13, X13, e13, W13, st13⟩ := own_lastore X7 hx hZ e7 A_b2_p7c (by decide) (g := (mkF m 13 #[.val (.int p1), .unset] [(.long (10 : Int64)), (.int (1 : Int32)), (.ref b2), (.ref b2)])) rfl rfl (hb hby d1_13)
  have N13 := Fr.snoc X13 N7 ge_b2
  have A_b2_p13 : own_A Z h13 b2 .long 19 (fun i => if i = Int32.toNatClampNeg (1 : Int32) then (.long (10 : Int64)) else (fun i => .long (own_pt 1 i)) i) := A_b2_p7c.set W13
  have Z0_p13 : n0 ≤ h13.size := Nat.le_trans Z0_p7 (Keep.of_wr W13).1
  have K_p13 : Keep hI h13 [] := K_p7.wr W13 (Or.inr sz_b2)
  refine hst st13 ?_
  have A_b2_p13c : own_A Z h13 b2 .long 19 (fun i => .long (own_pt 2 i)) := own_A.congr A_b2_p13 (fun i hi => by rw [show Int32.toNatClampNeg (1 : Int32) = 1 from rfl]; exact own_pt_step 1 i _ (by decide))
  show F T13 (mkF m 14 #[.val (.int p1), .unset] [(.ref b2)])
  refine hst (fun t₀ k₀ => XS.dup X13.here hx rfl (hb hby d1_14) rfl rfl k₀) ?_
  show F T13 (mkF m 15 #[.val (.int p1), .unset] [(.ref b2), (.ref b2)])
  refine hst (fun t₀ k₀ => XS.iconst X13.here hx rfl (hb hby d1_15) k₀) ?_
  show F T13 (mkF m 16 #[.val (.int p1), .unset] [(.int (2 : Int32)), (.ref b2), (.ref b2)])
  refine hst (fun t₀ k₀ => X13.ldc2J hx hown (mvT hZ (hw _ (List.mem_of_getElem? (i := 8) rfl))) (g := (mkF m 16 #[.val (.int p1), .unset] [(.int (2 : Int32)), (.ref b2), (.ref b2)])) rfl (hb hby d1_16) k₀) ?_
  show F T13 (mkF m 19 #[.val (.int p1), .unset] [(.long (100 : Int64)), (.int (2 : Int32)), (.ref b2), (.ref b2)])
  obtain ⟨T19, h19, X19, e19, W19, st19⟩ := own_lastore X13 hx hZ e13 A_b2_p13c (by decide) (g := (mkF m 19 #[.val (.int p1), .unset] [(.long (100 : Int64)), (.int (2 : Int32)), (.ref b2), (.ref b2)])) rfl rfl (hb hby d1_19)
  have N19 := Fr.snoc X19 N13 ge_b2
  have A_b2_p19 : own_A Z h19 b2 .long 19 (fun i => if i = Int32.toNatClampNeg (2 : Int32) then (.long (100 : Int64)) else (fun i => .long (own_pt 2 i)) i) := A_b2_p13c.set W19
  have Z0_p19 : n0 ≤ h19.size := Nat.le_trans Z0_p13 (Keep.of_wr W19).1
  have K_p19 : Keep hI h19 [] := K_p13.wr W19 (Or.inr sz_b2)
  refine hst st19 ?_
  have A_b2_p19c : own_A Z h19 b2 .long 19 (fun i => .long (own_pt 3 i)) := own_A.congr A_b2_p19 (fun i hi => by rw [show Int32.toNatClampNeg (2 : Int32) = 2 from rfl]; exact own_pt_step 2 i _ (by decide))
  show F T19 (mkF m 20 #[.val (.int p1), .unset] [(.ref b2)])
  refine hst (fun t₀ k₀ => XS.dup X19.here hx rfl (hb hby d1_20) rfl rfl k₀) ?_
  show F T19 (mkF m 21 #[.val (.int p1), .unset] [(.ref b2), (.ref b2)])
  refine hst (fun t₀ k₀ => XS.iconst X19.here hx rfl (hb hby d1_21) k₀) ?_
  show F T19 (mkF m 22 #[.val (.int p1), .unset] [(.int (3 : Int32)), (.ref b2), (.ref b2)])
  refine hst (fun t₀ k₀ => X19.ldc2J hx hown (mvT hZ (hw _ (List.mem_of_getElem? (i := 9) rfl))) (g := (mkF m 22 #[.val (.int p1), .unset] [(.int (3 : Int32)), (.ref b2), (.ref b2)])) rfl (hb hby d1_22) k₀) ?_
  show F T19 (mkF m 25 #[.val (.int p1), .unset] [(.long (1000 : Int64)), (.int (3 : Int32)), (.ref b2), (.ref b2)])
  obtain ⟨T25, h25, X25, e25, W25, st25⟩ := own_lastore X19 hx hZ e19 A_b2_p19c (by decide) (g := (mkF m 25 #[.val (.int p1), .unset] [(.long (1000 : Int64)), (.int (3 : Int32)), (.ref b2), (.ref b2)])) rfl rfl (hb hby d1_25)
  have N25 := Fr.snoc X25 N19 ge_b2
  have A_b2_p25 : own_A Z h25 b2 .long 19 (fun i => if i = Int32.toNatClampNeg (3 : Int32) then (.long (1000 : Int64)) else (fun i => .long (own_pt 3 i)) i) := A_b2_p19c.set W25
  have Z0_p25 : n0 ≤ h25.size := Nat.le_trans Z0_p19 (Keep.of_wr W25).1
  have K_p25 : Keep hI h25 [] := K_p19.wr W25 (Or.inr sz_b2)
  refine hst st25 ?_
  have A_b2_p25c : own_A Z h25 b2 .long 19 (fun i => .long (own_pt 4 i)) := own_A.congr A_b2_p25 (fun i hi => by rw [show Int32.toNatClampNeg (3 : Int32) = 3 from rfl]; exact own_pt_step 3 i _ (by decide))
  show F T25 (mkF m 26 #[.val (.int p1), .unset] [(.ref b2)])
  refine hst (fun t₀ k₀ => XS.dup X25.here hx rfl (hb hby d1_26) rfl rfl k₀) ?_
  show F T25 (mkF m 27 #[.val (.int p1), .unset] [(.ref b2), (.ref b2)])
  refine hst (fun t₀ k₀ => XS.iconst X25.here hx rfl (hb hby d1_27) k₀) ?_
  show F T25 (mkF m 28 #[.val (.int p1), .unset] [(.int (4 : Int32)), (.ref b2), (.ref b2)])
  refine hst (fun t₀ k₀ => X25.ldc2J hx hown (mvT hZ (hw _ (List.mem_of_getElem? (i := 10) rfl))) (g := (mkF m 28 #[.val (.int p1), .unset] [(.int (4 : Int32)), (.ref b2), (.ref b2)])) rfl (hb hby d1_28) k₀) ?_
  show F T25 (mkF m 31 #[.val (.int p1), .unset] [(.long (10000 : Int64)), (.int (4 : Int32)), (.ref b2), (.ref b2)])
  obtain ⟨T31, h31, X31, e31, W31, st31⟩ := own_lastore X25 hx hZ e25 A_b2_p25c (by decide) (g := (mkF m 31 #[.val (.int p1), .unset] [(.long (10000 : Int64)), (.int (4 : Int32)), (.ref b2), (.ref b2)])) rfl rfl (hb hby d1_31)
  have N31 := Fr.snoc X31 N25 ge_b2
  have A_b2_p31 : own_A Z h31 b2 .long 19 (fun i => if i = Int32.toNatClampNeg (4 : Int32) then (.long (10000 : Int64)) else (fun i => .long (own_pt 4 i)) i) := A_b2_p25c.set W31
  have Z0_p31 : n0 ≤ h31.size := Nat.le_trans Z0_p25 (Keep.of_wr W31).1
  have K_p31 : Keep hI h31 [] := K_p25.wr W31 (Or.inr sz_b2)
  refine hst st31 ?_
  have A_b2_p31c : own_A Z h31 b2 .long 19 (fun i => .long (own_pt 5 i)) := own_A.congr A_b2_p31 (fun i hi => by rw [show Int32.toNatClampNeg (4 : Int32) = 4 from rfl]; exact own_pt_step 4 i _ (by decide))
  show F T31 (mkF m 32 #[.val (.int p1), .unset] [(.ref b2)])
  refine hst (fun t₀ k₀ => XS.dup X31.here hx rfl (hb hby d1_32) rfl rfl k₀) ?_
  show F T31 (mkF m 33 #[.val (.int p1), .unset] [(.ref b2), (.ref b2)])
  refine hst (fun t₀ k₀ => XS.iconst X31.here hx rfl (hb hby d1_33) k₀) ?_
  show F T31 (mkF m 34 #[.val (.int p1), .unset] [(.int (5 : Int32)), (.ref b2), (.ref b2)])
  refine hst (fun t₀ k₀ => X31.ldc2J hx hown (mvT hZ (hw _ (List.mem_of_getElem? (i := 11) rfl))) (g := (mkF m 34 #[.val (.int p1), .unset] [(.int (5 : Int32)), (.ref b2), (.ref b2)])) rfl (hb hby d1_34) k₀) ?_
  show F T31 (mkF m 37 #[.val (.int p1), .unset] [(.long (100000 : Int64)), (.int (5 : Int32)), (.ref b2), (.ref b2)])
  obtain ⟨T37, h37, X37, e37, W37, st37⟩ := own_lastore X31 hx hZ e31 A_b2_p31c (by decide) (g := (mkF m 37 #[.val (.int p1), .unset] [(.long (100000 : Int64)), (.int (5 : Int32)), (.ref b2), (.ref b2)])) rfl rfl (hb hby d1_37)
  have N37 := Fr.snoc X37 N31 ge_b2
  have A_b2_p37 : own_A Z h37 b2 .long 19 (fun i => if i = Int32.toNatClampNeg (5 : Int32) then (.long (100000 : Int64)) else (fun i => .long (own_pt 5 i)) i) := A_b2_p31c.set W37
  have Z0_p37 : n0 ≤ h37.size := Nat.le_trans Z0_p31 (Keep.of_wr W37).1
  have K_p37 : Keep hI h37 [] := K_p31.wr W37 (Or.inr sz_b2)
  refine hst st37 ?_
  have A_b2_p37c : own_A Z h37 b2 .long 19 (fun i => .long (own_pt 6 i)) := own_A.congr A_b2_p37 (fun i hi => by rw [show Int32.toNatClampNeg (5 : Int32) = 5 from rfl]; exact own_pt_step 5 i _ (by decide))
  show F T37 (mkF m 38 #[.val (.int p1), .unset] [(.ref b2)])
  refine hst (fun t₀ k₀ => XS.dup X37.here hx rfl (hb hby d1_38) rfl rfl k₀) ?_
  show F T37 (mkF m 39 #[.val (.int p1), .unset] [(.ref b2), (.ref b2)])
  refine hst (fun t₀ k₀ => XS.bipush X37.here hx rfl (hb hby d1_39) k₀) ?_
  show F T37 (mkF m 41 #[.val (.int p1), .unset] [(.int (6 : Int32)), (.ref b2), (.ref b2)])
  refine hst (fun t₀ k₀ => X37.ldc2J hx hown (mvT hZ (hw _ (List.mem_of_getElem? (i := 12) rfl))) (g := (mkF m 41 #[.val (.int p1), .unset] [(.int (6 : Int32)), (.ref b2), (.ref b2)])) rfl (hb hby d1_41) k₀) ?_
  show F T37 (mkF m 44 #[.val (.int p1), .unset] [(.long (1000000 : Int64)), (.int (6 : Int32)), (.ref b2), (.ref b2)])
  obtain ⟨T44, h44, X44, e44, W44, st44⟩ := own_lastore X37 hx hZ e37 A_b2_p37c (by decide) (g := (mkF m 44 #[.val (.int p1), .unset] [(.long (1000000 : Int64)), (.int (6 : Int32)), (.ref b2), (.ref b2)])) rfl rfl (hb hby d1_44)
  have N44 := Fr.snoc X44 N37 ge_b2
  have A_b2_p44 : own_A Z h44 b2 .long 19 (fun i => if i = Int32.toNatClampNeg (6 : Int32) then (.long (1000000 : Int64)) else (fun i => .long (own_pt 6 i)) i) := A_b2_p37c.set W44
  have Z0_p44 : n0 ≤ h44.size := Nat.le_trans Z0_p37 (Keep.of_wr W44).1
  have K_p44 : Keep hI h44 [] := K_p37.wr W44 (Or.inr sz_b2)
  refine hst st44 ?_
  have A_b2_p44c : own_A Z h44 b2 .long 19 (fun i => .long (own_pt 7 i)) := own_A.congr A_b2_p44 (fun i hi => by rw [show Int32.toNatClampNeg (6 : Int32) = 6 from rfl]; exact own_pt_step 6 i _ (by decide))
  show F T44 (mkF m 45 #[.val (.int p1), .unset] [(.ref b2)])
  refine hst (fun t₀ k₀ => XS.dup X44.here hx rfl (hb hby d1_45) rfl rfl k₀) ?_
  show F T44 (mkF m 46 #[.val (.int p1), .unset] [(.ref b2), (.ref b2)])
  refine hst (fun t₀ k₀ => XS.bipush X44.here hx rfl (hb hby d1_46) k₀) ?_
  show F T44 (mkF m 48 #[.val (.int p1), .unset] [(.int (7 : Int32)), (.ref b2), (.ref b2)])
  refine hst (fun t₀ k₀ => X44.ldc2J hx hown (mvT hZ (hw _ (List.mem_of_getElem? (i := 13) rfl))) (g := (mkF m 48 #[.val (.int p1), .unset] [(.int (7 : Int32)), (.ref b2), (.ref b2)])) rfl (hb hby d1_48) k₀) ?_
  show F T44 (mkF m 51 #[.val (.int p1), .unset] [(.long (10000000 : Int64)), (.int (7 : Int32)), (.ref b2), (.ref b2)])
  obtain ⟨T51, h51, X51, e51, W51, st51⟩ := own_lastore X44 hx hZ e44 A_b2_p44c (by decide) (g := (mkF m 51 #[.val (.int p1), .unset] [(.long (10000000 : Int64)), (.int (7 : Int32)), (.ref b2), (.ref b2)])) rfl rfl (hb hby d1_51)
  have N51 := Fr.snoc X51 N44 ge_b2
  have A_b2_p51 : own_A Z h51 b2 .long 19 (fun i => if i = Int32.toNatClampNeg (7 : Int32) then (.long (10000000 : Int64)) else (fun i => .long (own_pt 7 i)) i) := A_b2_p44c.set W51
  have Z0_p51 : n0 ≤ h51.size := Nat.le_trans Z0_p44 (Keep.of_wr W51).1
  have K_p51 : Keep hI h51 [] := K_p44.wr W51 (Or.inr sz_b2)
  refine hst st51 ?_
  have A_b2_p51c : own_A Z h51 b2 .long 19 (fun i => .long (own_pt 8 i)) := own_A.congr A_b2_p51 (fun i hi => by rw [show Int32.toNatClampNeg (7 : Int32) = 7 from rfl]; exact own_pt_step 7 i _ (by decide))
  show F T51 (mkF m 52 #[.val (.int p1), .unset] [(.ref b2)])
  refine hst (fun t₀ k₀ => XS.dup X51.here hx rfl (hb hby d1_52) rfl rfl k₀) ?_
  show F T51 (mkF m 53 #[.val (.int p1), .unset] [(.ref b2), (.ref b2)])
  refine hst (fun t₀ k₀ => XS.bipush X51.here hx rfl (hb hby d1_53) k₀) ?_
  show F T51 (mkF m 55 #[.val (.int p1), .unset] [(.int (8 : Int32)), (.ref b2), (.ref b2)])
  refine hst (fun t₀ k₀ => X51.ldc2J hx hown (mvT hZ (hw _ (List.mem_of_getElem? (i := 14) rfl))) (g := (mkF m 55 #[.val (.int p1), .unset] [(.int (8 : Int32)), (.ref b2), (.ref b2)])) rfl (hb hby d1_55) k₀) ?_
  show F T51 (mkF m 58 #[.val (.int p1), .unset] [(.long (100000000 : Int64)), (.int (8 : Int32)), (.ref b2), (.ref b2)])
  obtain ⟨T58, h58, X58, e58, W58, st58⟩ := own_lastore X51 hx hZ e51 A_b2_p51c (by decide) (g := (mkF m 58 #[.val (.int p1), .unset] [(.long (100000000 : Int64)), (.int (8 : Int32)), (.ref b2), (.ref b2)])) rfl rfl (hb hby d1_58)
  have N58 := Fr.snoc X58 N51 ge_b2
  have A_b2_p58 : own_A Z h58 b2 .long 19 (fun i => if i = Int32.toNatClampNeg (8 : Int32) then (.long (100000000 : Int64)) else (fun i => .long (own_pt 8 i)) i) := A_b2_p51c.set W58
  have Z0_p58 : n0 ≤ h58.size := Nat.le_trans Z0_p51 (Keep.of_wr W58).1
  have K_p58 : Keep hI h58 [] := K_p51.wr W58 (Or.inr sz_b2)
  refine hst st58 ?_
  have A_b2_p58c : own_A Z h58 b2 .long 19 (fun i => .long (own_pt 9 i)) := own_A.congr A_b2_p58 (fun i hi => by rw [show Int32.toNatClampNeg (8 : Int32) = 8 from rfl]; exact own_pt_step 8 i _ (by decide))
  show F T58 (mkF m 59 #[.val (.int p1), .unset] [(.ref b2)])
  refine hst (fun t₀ k₀ => XS.dup X58.here hx rfl (hb hby d1_59) rfl rfl k₀) ?_
  show F T58 (mkF m 60 #[.val (.int p1), .unset] [(.ref b2), (.ref b2)])
  refine hst (fun t₀ k₀ => XS.bipush X58.here hx rfl (hb hby d1_60) k₀) ?_
  show F T58 (mkF m 62 #[.val (.int p1), .unset] [(.int (9 : Int32)), (.ref b2), (.ref b2)])
  refine hst (fun t₀ k₀ => X58.ldc2J hx hown (mvT hZ (hw _ (List.mem_of_getElem? (i := 15) rfl))) (g := (mkF m 62 #[.val (.int p1), .unset] [(.int (9 : Int32)), (.ref b2), (.ref b2)])) rfl (hb hby d1_62) k₀) ?_
  show F T58 (mkF m 65 #[.val (.int p1), .unset] [(.long (1000000000 : Int64)), (.int (9 : Int32)), (.ref b2), (.ref b2)])
  obtain ⟨T65, h65, X65, e65, W65, st65⟩ := own_lastore X58 hx hZ e58 A_b2_p58c (by decide) (g := (mkF m 65 #[.val (.int p1), .unset] [(.long (1000000000 : Int64)), (.int (9 : Int32)), (.ref b2), (.ref b2)])) rfl rfl (hb hby d1_65)
  have N65 := Fr.snoc X65 N58 ge_b2
  have A_b2_p65 : own_A Z h65 b2 .long 19 (fun i => if i = Int32.toNatClampNeg (9 : Int32) then (.long (1000000000 : Int64)) else (fun i => .long (own_pt 9 i)) i) := A_b2_p58c.set W65
  have Z0_p65 : n0 ≤ h65.size := Nat.le_trans Z0_p58 (Keep.of_wr W65).1
  have K_p65 : Keep hI h65 [] := K_p58.wr W65 (Or.inr sz_b2)
  refine hst st65 ?_
  have A_b2_p65c : own_A Z h65 b2 .long 19 (fun i => .long (own_pt 10 i)) := own_A.congr A_b2_p65 (fun i hi => by rw [show Int32.toNatClampNeg (9 : Int32) = 9 from rfl]; exact own_pt_step 9 i _ (by decide))
  show F T65 (mkF m 66 #[.val (.int p1), .unset] [(.ref b2)])
  refine hst (fun t₀ k₀ => XS.dup X65.here hx rfl (hb hby d1_66) rfl rfl k₀) ?_
  show F T65 (mkF m 67 #[.val (.int p1), .unset] [(.ref b2), (.ref b2)])
  refine hst (fun t₀ k₀ => XS.bipush X65.here hx rfl (hb hby d1_67) k₀) ?_
  show F T65 (mkF m 69 #[.val (.int p1), .unset] [(.int (10 : Int32)), (.ref b2), (.ref b2)])
  refine hst (fun t₀ k₀ => X65.ldc2J hx hown (mvT hZ (hw _ (List.mem_of_getElem? (i := 16) rfl))) (g := (mkF m 69 #[.val (.int p1), .unset] [(.int (10 : Int32)), (.ref b2), (.ref b2)])) rfl (hb hby d1_69) k₀) ?_
  show F T65 (mkF m 72 #[.val (.int p1), .unset] [(.long (10000000000 : Int64)), (.int (10 : Int32)), (.ref b2), (.ref b2)])
  obtain ⟨T72, h72, X72, e72, W72, st72⟩ := own_lastore X65 hx hZ e65 A_b2_p65c (by decide) (g := (mkF m 72 #[.val (.int p1), .unset] [(.long (10000000000 : Int64)), (.int (10 : Int32)), (.ref b2), (.ref b2)])) rfl rfl (hb hby d1_72)
  have N72 := Fr.snoc X72 N65 ge_b2
  have A_b2_p72 : own_A Z h72 b2 .long 19 (fun i => if i = Int32.toNatClampNeg (10 : Int32) then (.long (10000000000 : Int64)) else (fun i => .long (own_pt 10 i)) i) := A_b2_p65c.set W72
  have Z0_p72 : n0 ≤ h72.size := Nat.le_trans Z0_p65 (Keep.of_wr W72).1
  have K_p72 : Keep hI h72 [] := K_p65.wr W72 (Or.inr sz_b2)
  refine hst st72 ?_
  have A_b2_p72c : own_A Z h72 b2 .long 19 (fun i => .long (own_pt 11 i)) := own_A.congr A_b2_p72 (fun i hi => by rw [show Int32.toNatClampNeg (10 : Int32) = 10 from rfl]; exact own_pt_step 10 i _ (by decide))
  show F T72 (mkF m 73 #[.val (.int p1), .unset] [(.ref b2)])
  refine hst (fun t₀ k₀ => XS.dup X72.here hx rfl (hb hby d1_73) rfl rfl k₀) ?_
  show F T72 (mkF m 74 #[.val (.int p1), .unset] [(.ref b2), (.ref b2)])
  refine hst (fun t₀ k₀ => XS.bipush X72.here hx rfl (hb hby d1_74) k₀) ?_
  show F T72 (mkF m 76 #[.val (.int p1), .unset] [(.int (11 : Int32)), (.ref b2), (.ref b2)])
  refine hst (fun t₀ k₀ => X72.ldc2J hx hown (mvT hZ (hw _ (List.mem_of_getElem? (i := 17) rfl))) (g := (mkF m 76 #[.val (.int p1), .unset] [(.int (11 : Int32)), (.ref b2), (.ref b2)])) rfl (hb hby d1_76) k₀) ?_
  show F T72 (mkF m 79 #[.val (.int p1), .unset] [(.long (100000000000 : Int64)), (.int (11 : Int32)), (.ref b2), (.ref b2)])
  obtain ⟨T79, h79, X79, e79, W79, st79⟩ := own_lastore X72 hx hZ e72 A_b2_p72c (by decide) (g := (mkF m 79 #[.val (.int p1), .unset] [(.long (100000000000 : Int64)), (.int (11 : Int32)), (.ref b2), (.ref b2)])) rfl rfl (hb hby d1_79)
  have N79 := Fr.snoc X79 N72 ge_b2
  have A_b2_p79 : own_A Z h79 b2 .long 19 (fun i => if i = Int32.toNatClampNeg (11 : Int32) then (.long (100000000000 : Int64)) else (fun i => .long (own_pt 11 i)) i) := A_b2_p72c.set W79
  have Z0_p79 : n0 ≤ h79.size := Nat.le_trans Z0_p72 (Keep.of_wr W79).1
  have K_p79 : Keep hI h79 [] := K_p72.wr W79 (Or.inr sz_b2)
  refine hst st79 ?_
  have A_b2_p79c : own_A Z h79 b2 .long 19 (fun i => .long (own_pt 12 i)) := own_A.congr A_b2_p79 (fun i hi => by rw [show Int32.toNatClampNeg (11 : Int32) = 11 from rfl]; exact own_pt_step 11 i _ (by decide))
  show F T79 (mkF m 80 #[.val (.int p1), .unset] [(.ref b2)])
  refine hst (fun t₀ k₀ => XS.dup X79.here hx rfl (hb hby d1_80) rfl rfl k₀) ?_
  show F T79 (mkF m 81 #[.val (.int p1), .unset] [(.ref b2), (.ref b2)])
  refine hst (fun t₀ k₀ => XS.bipush X79.here hx rfl (hb hby d1_81) k₀) ?_
  show F T79 (mkF m 83 #[.val (.int p1), .unset] [(.int (12 : Int32)), (.ref b2), (.ref b2)])
  refine hst (fun t₀ k₀ => X79.ldc2J hx hown (mvT hZ (hw _ (List.mem_of_getElem? (i := 18) rfl))) (g := (mkF m 83 #[.val (.int p1), .unset] [(.int (12 : Int32)), (.ref b2), (.ref b2)])) rfl (hb hby d1_83) k₀) ?_
  show F T79 (mkF m 86 #[.val (.int p1), .unset] [(.long (1000000000000 : Int64)), (.int (12 : Int32)), (.ref b2), (.ref b2)])
  obtain ⟨T86, h86, X86, e86, W86, st86⟩ := own_lastore X79 hx hZ e79 A_b2_p79c (by decide) (g := (mkF m 86 #[.val (.int p1), .unset] [(.long (1000000000000 : Int64)), (.int (12 : Int32)), (.ref b2), (.ref b2)])) rfl rfl (hb hby d1_86)
  have N86 := Fr.snoc X86 N79 ge_b2
  have A_b2_p86 : own_A Z h86 b2 .long 19 (fun i => if i = Int32.toNatClampNeg (12 : Int32) then (.long (1000000000000 : Int64)) else (fun i => .long (own_pt 12 i)) i) := A_b2_p79c.set W86
  have Z0_p86 : n0 ≤ h86.size := Nat.le_trans Z0_p79 (Keep.of_wr W86).1
  have K_p86 : Keep hI h86 [] := K_p79.wr W86 (Or.inr sz_b2)
  refine hst st86 ?_
  have A_b2_p86c : own_A Z h86 b2 .long 19 (fun i => .long (own_pt 13 i)) := own_A.congr A_b2_p86 (fun i hi => by rw [show Int32.toNatClampNeg (12 : Int32) = 12 from rfl]; exact own_pt_step 12 i _ (by decide))
  show F T86 (mkF m 87 #[.val (.int p1), .unset] [(.ref b2)])
  refine hst (fun t₀ k₀ => XS.dup X86.here hx rfl (hb hby d1_87) rfl rfl k₀) ?_
  show F T86 (mkF m 88 #[.val (.int p1), .unset] [(.ref b2), (.ref b2)])
  refine hst (fun t₀ k₀ => XS.bipush X86.here hx rfl (hb hby d1_88) k₀) ?_
  show F T86 (mkF m 90 #[.val (.int p1), .unset] [(.int (13 : Int32)), (.ref b2), (.ref b2)])
  refine hst (fun t₀ k₀ => X86.ldc2J hx hown (mvT hZ (hw _ (List.mem_of_getElem? (i := 19) rfl))) (g := (mkF m 90 #[.val (.int p1), .unset] [(.int (13 : Int32)), (.ref b2), (.ref b2)])) rfl (hb hby d1_90) k₀) ?_
  show F T86 (mkF m 93 #[.val (.int p1), .unset] [(.long (10000000000000 : Int64)), (.int (13 : Int32)), (.ref b2), (.ref b2)])
  obtain ⟨T93, h93, X93, e93, W93, st93⟩ := own_lastore X86 hx hZ e86 A_b2_p86c (by decide) (g := (mkF m 93 #[.val (.int p1), .unset] [(.long (10000000000000 : Int64)), (.int (13 : Int32)), (.ref b2), (.ref b2)])) rfl rfl (hb hby d1_93)
  have N93 := Fr.snoc X93 N86 ge_b2
  have A_b2_p93 : own_A Z h93 b2 .long 19 (fun i => if i = Int32.toNatClampNeg (13 : Int32) then (.long (10000000000000 : Int64)) else (fun i => .long (own_pt 13 i)) i) := A_b2_p86c.set W93
  have Z0_p93 : n0 ≤ h93.size := Nat.le_trans Z0_p86 (Keep.of_wr W93).1
  have K_p93 : Keep hI h93 [] := K_p86.wr W93 (Or.inr sz_b2)
  refine hst st93 ?_
  have A_b2_p93c : own_A Z h93 b2 .long 19 (fun i => .long (own_pt 14 i)) := own_A.congr A_b2_p93 (fun i hi => by rw [show Int32.toNatClampNeg (13 : Int32) = 13 from rfl]; exact own_pt_step 13 i _ (by decide))
  show F T93 (mkF m 94 #[.val (.int p1), .unset] [(.ref b2)])
  refine hst (fun t₀ k₀ => XS.dup X93.here hx rfl (hb hby d1_94) rfl rfl k₀) ?_
  show F T93 (mkF m 95 #[.val (.int p1), .unset] [(.ref b2), (.ref b2)])
  refine hst (fun t₀ k₀ => XS.bipush X93.here hx rfl (hb hby d1_95) k₀) ?_
  show F T93 (mkF m 97 #[.val (.int p1), .unset] [(.int (14 : Int32)), (.ref b2), (.ref b2)])
  refine hst (fun t₀ k₀ => X93.ldc2J hx hown (mvT hZ (hw _ (List.mem_of_getElem? (i := 20) rfl))) (g := (mkF m 97 #[.val (.int p1), .unset] [(.int (14 : Int32)), (.ref b2), (.ref b2)])) rfl (hb hby d1_97) k₀) ?_
  show F T93 (mkF m 100 #[.val (.int p1), .unset] [(.long (100000000000000 : Int64)), (.int (14 : Int32)), (.ref b2), (.ref b2)])
  obtain ⟨T100, h100, X100, e100, W100, st100⟩ := own_lastore X93 hx hZ e93 A_b2_p93c (by decide) (g := (mkF m 100 #[.val (.int p1), .unset] [(.long (100000000000000 : Int64)), (.int (14 : Int32)), (.ref b2), (.ref b2)])) rfl rfl (hb hby d1_100)
  have N100 := Fr.snoc X100 N93 ge_b2
  have A_b2_p100 : own_A Z h100 b2 .long 19 (fun i => if i = Int32.toNatClampNeg (14 : Int32) then (.long (100000000000000 : Int64)) else (fun i => .long (own_pt 14 i)) i) := A_b2_p93c.set W100
  have Z0_p100 : n0 ≤ h100.size := Nat.le_trans Z0_p93 (Keep.of_wr W100).1
  have K_p100 : Keep hI h100 [] := K_p93.wr W100 (Or.inr sz_b2)
  refine hst st100 ?_
  have A_b2_p100c : own_A Z h100 b2 .long 19 (fun i => .long (own_pt 15 i)) := own_A.congr A_b2_p100 (fun i hi => by rw [show Int32.toNatClampNeg (14 : Int32) = 14 from rfl]; exact own_pt_step 14 i _ (by decide))
  show F T100 (mkF m 101 #[.val (.int p1), .unset] [(.ref b2)])
  refine hst (fun t₀ k₀ => XS.dup X100.here hx rfl (hb hby d1_101) rfl rfl k₀) ?_
  show F T100 (mkF m 102 #[.val (.int p1), .unset] [(.ref b2), (.ref b2)])
  refine hst (fun t₀ k₀ => XS.bipush X100.here hx rfl (hb hby d1_102) k₀) ?_
  show F T100 (mkF m 104 #[.val (.int p1), .unset] [(.int (15 : Int32)), (.ref b2), (.ref b2)])
  refine hst (fun t₀ k₀ => X100.ldc2J hx hown (mvT hZ (hw _ (List.mem_of_getElem? (i := 21) rfl))) (g := (mkF m 104 #[.val (.int p1), .unset] [(.int (15 : Int32)), (.ref b2), (.ref b2)])) rfl (hb hby d1_104) k₀) ?_
  show F T100 (mkF m 107 #[.val (.int p1), .unset] [(.long (1000000000000000 : Int64)), (.int (15 : Int32)), (.ref b2), (.ref b2)])
  obtain ⟨T107, h107, X107, e107, W107, st107⟩ := own_lastore X100 hx hZ e100 A_b2_p100c (by decide) (g := (mkF m 107 #[.val (.int p1), .unset] [(.long (1000000000000000 : Int64)), (.int (15 : Int32)), (.ref b2), (.ref b2)])) rfl rfl (hb hby d1_107)
  have N107 := Fr.snoc X107 N100 ge_b2
  have A_b2_p107 : own_A Z h107 b2 .long 19 (fun i => if i = Int32.toNatClampNeg (15 : Int32) then (.long (1000000000000000 : Int64)) else (fun i => .long (own_pt 15 i)) i) := A_b2_p100c.set W107
  have Z0_p107 : n0 ≤ h107.size := Nat.le_trans Z0_p100 (Keep.of_wr W107).1
  have K_p107 : Keep hI h107 [] := K_p100.wr W107 (Or.inr sz_b2)
  refine hst st107 ?_
  have A_b2_p107c : own_A Z h107 b2 .long 19 (fun i => .long (own_pt 16 i)) := own_A.congr A_b2_p107 (fun i hi => by rw [show Int32.toNatClampNeg (15 : Int32) = 15 from rfl]; exact own_pt_step 15 i _ (by decide))
  show F T107 (mkF m 108 #[.val (.int p1), .unset] [(.ref b2)])
  refine hst (fun t₀ k₀ => XS.dup X107.here hx rfl (hb hby d1_108) rfl rfl k₀) ?_
  show F T107 (mkF m 109 #[.val (.int p1), .unset] [(.ref b2), (.ref b2)])
  refine hst (fun t₀ k₀ => XS.bipush X107.here hx rfl (hb hby d1_109) k₀) ?_
  show F T107 (mkF m 111 #[.val (.int p1), .unset] [(.int (16 : Int32)), (.ref b2), (.ref b2)])
  refine hst (fun t₀ k₀ => X107.ldc2J hx hown (mvT hZ (hw _ (List.mem_of_getElem? (i := 22) rfl))) (g := (mkF m 111 #[.val (.int p1), .unset] [(.int (16 : Int32)), (.ref b2), (.ref b2)])) rfl (hb hby d1_111) k₀) ?_
  show F T107 (mkF m 114 #[.val (.int p1), .unset] [(.long (10000000000000000 : Int64)), (.int (16 : Int32)), (.ref b2), (.ref b2)])
  obtain ⟨T114, h114, X114, e114, W114, st114⟩ := own_lastore X107 hx hZ e107 A_b2_p107c (by decide) (g := (mkF m 114 #[.val (.int p1), .unset] [(.long (10000000000000000 : Int64)), (.int (16 : Int32)), (.ref b2), (.ref b2)])) rfl rfl (hb hby d1_114)
  have N114 := Fr.snoc X114 N107 ge_b2
  have A_b2_p114 : own_A Z h114 b2 .long 19 (fun i => if i = Int32.toNatClampNeg (16 : Int32) then (.long (10000000000000000 : Int64)) else (fun i => .long (own_pt 16 i)) i) := A_b2_p107c.set W114
  have Z0_p114 : n0 ≤ h114.size := Nat.le_trans Z0_p107 (Keep.of_wr W114).1
  have K_p114 : Keep hI h114 [] := K_p107.wr W114 (Or.inr sz_b2)
  refine hst st114 ?_
  have A_b2_p114c : own_A Z h114 b2 .long 19 (fun i => .long (own_pt 17 i)) := own_A.congr A_b2_p114 (fun i hi => by rw [show Int32.toNatClampNeg (16 : Int32) = 16 from rfl]; exact own_pt_step 16 i _ (by decide))
  show F T114 (mkF m 115 #[.val (.int p1), .unset] [(.ref b2)])
  refine hst (fun t₀ k₀ => XS.dup X114.here hx rfl (hb hby d1_115) rfl rfl k₀) ?_
  show F T114 (mkF m 116 #[.val (.int p1), .unset] [(.ref b2), (.ref b2)])
  refine hst (fun t₀ k₀ => XS.bipush X114.here hx rfl (hb hby d1_116) k₀) ?_
  show F T114 (mkF m 118 #[.val (.int p1), .unset] [(.int (17 : Int32)), (.ref b2), (.ref b2)])
  refine hst (fun t₀ k₀ => X114.ldc2J hx hown (mvT hZ (hw _ (List.mem_of_getElem? (i := 23) rfl))) (g := (mkF m 118 #[.val (.int p1), .unset] [(.int (17 : Int32)), (.ref b2), (.ref b2)])) rfl (hb hby d1_118) k₀) ?_
  show F T114 (mkF m 121 #[.val (.int p1), .unset] [(.long (100000000000000000 : Int64)), (.int (17 : Int32)), (.ref b2), (.ref b2)])
  obtain ⟨T121, h121, X121, e121, W121, st121⟩ := own_lastore X114 hx hZ e114 A_b2_p114c (by decide) (g := (mkF m 121 #[.val (.int p1), .unset] [(.long (100000000000000000 : Int64)), (.int (17 : Int32)), (.ref b2), (.ref b2)])) rfl rfl (hb hby d1_121)
  have N121 := Fr.snoc X121 N114 ge_b2
  have A_b2_p121 : own_A Z h121 b2 .long 19 (fun i => if i = Int32.toNatClampNeg (17 : Int32) then (.long (100000000000000000 : Int64)) else (fun i => .long (own_pt 17 i)) i) := A_b2_p114c.set W121
  have Z0_p121 : n0 ≤ h121.size := Nat.le_trans Z0_p114 (Keep.of_wr W121).1
  have K_p121 : Keep hI h121 [] := K_p114.wr W121 (Or.inr sz_b2)
  refine hst st121 ?_
  have A_b2_p121c : own_A Z h121 b2 .long 19 (fun i => .long (own_pt 18 i)) := own_A.congr A_b2_p121 (fun i hi => by rw [show Int32.toNatClampNeg (17 : Int32) = 17 from rfl]; exact own_pt_step 17 i _ (by decide))
  show F T121 (mkF m 122 #[.val (.int p1), .unset] [(.ref b2)])
  refine hst (fun t₀ k₀ => XS.dup X121.here hx rfl (hb hby d1_122) rfl rfl k₀) ?_
  show F T121 (mkF m 123 #[.val (.int p1), .unset] [(.ref b2), (.ref b2)])
  refine hst (fun t₀ k₀ => XS.bipush X121.here hx rfl (hb hby d1_123) k₀) ?_
  show F T121 (mkF m 125 #[.val (.int p1), .unset] [(.int (18 : Int32)), (.ref b2), (.ref b2)])
  refine hst (fun t₀ k₀ => X121.ldc2J hx hown (mvT hZ (hw _ (List.mem_of_getElem? (i := 24) rfl))) (g := (mkF m 125 #[.val (.int p1), .unset] [(.int (18 : Int32)), (.ref b2), (.ref b2)])) rfl (hb hby d1_125) k₀) ?_
  show F T121 (mkF m 128 #[.val (.int p1), .unset] [(.long (1000000000000000000 : Int64)), (.int (18 : Int32)), (.ref b2), (.ref b2)])
  obtain ⟨T128, h128, X128, e128, W128, st128⟩ := own_lastore X121 hx hZ e121 A_b2_p121c (by decide) (g := (mkF m 128 #[.val (.int p1), .unset] [(.long (1000000000000000000 : Int64)), (.int (18 : Int32)), (.ref b2), (.ref b2)])) rfl rfl (hb hby d1_128)
  have N128 := Fr.snoc X128 N121 ge_b2
  have A_b2_p128 : own_A Z h128 b2 .long 19 (fun i => if i = Int32.toNatClampNeg (18 : Int32) then (.long (1000000000000000000 : Int64)) else (fun i => .long (own_pt 18 i)) i) := A_b2_p121c.set W128
  have Z0_p128 : n0 ≤ h128.size := Nat.le_trans Z0_p121 (Keep.of_wr W128).1
  have K_p128 : Keep hI h128 [] := K_p121.wr W128 (Or.inr sz_b2)
  refine hst st128 ?_
  have A_b2_p128c : own_A Z h128 b2 .long 19 (fun i => .long (own_pt 19 i)) := own_A.congr A_b2_p128 (fun i hi => by rw [show Int32.toNatClampNeg (18 : Int32) = 18 from rfl]; exact own_pt_step 18 i _ (by decide))
  show F T128 (mkF m 129 #[.val (.int p1), .unset] [(.ref b2)])
  refine hst (fun t₀ k₀ => XS.astoreN X128.here hx rfl (hb hby d1_129) rfl rfl (l' := #[.val (.int p1), .val (.ref b2)]) rfl k₀) ?_
  show F T128 (mkF m 130 #[.val (.int p1), .val (.ref b2)] [])
  refine hst (fun t₀ k₀ => XS.aloadN X128.here hx rfl (hb hby d1_130) rfl rfl k₀) ?_
  show F T128 (mkF m 131 #[.val (.int p1), .val (.ref b2)] [(.ref b2)])
  refine hst (fun t₀ k₀ => XS.iloadN X128.here hx rfl (hb hby d1_131) rfl k₀) ?_
  show F T128 (mkF m 132 #[.val (.int p1), .val (.ref b2)] [(.int p1), (.ref b2)])
  refine hst (fun t₀ k₀ => own_laload X128 hx hZ e128 A_b2_p128c (own_idx p1 19 (by omega) (by omega)) (v := (.long (Int64.ofNat (10 ^ E)))) (by show Value.long (own_pt 19 p1.toNatClampNeg) = _; rw [own_clamp p1 E hE]; unfold own_pt; rw [if_pos (by omega)]) (g := (mkF m 132 #[.val (.int p1), .val (.ref b2)] [(.int p1), (.ref b2)])) rfl rfl (hb hby d1_132) t₀ k₀) ?_
  show F T128 (mkF m 133 #[.val (.int p1), .val (.ref b2)] [(.long (Int64.ofNat (10 ^ E)))])
  rw [hF]
  refine own_retJ X128 hx hret hlk (hb hby d1_133) (by decide) (by decide) ?_
  rw [e128]
  exact ⟨rfl, N128, K_p128⟩
theorem own_nar (x : Int32) (h1 : -128 ≤ x.toInt) (h2 : x.toInt < 128) : nar .byte x = x := by
  have h := c_i2b x
  apply Int32.toInt_inj.mp
  show x.toInt8.toInt32.toInt = x.toInt
  omega
theorem own_pre_step (G : Nat → Int32) (k i : Nat) (v : Int32) (hv : G k = v) : (if i = k then Value.int v else Value.int (own_pre G k i)) = Value.int (own_pre G (k + 1) i) := by
  unfold own_pre
  by_cases h : i = k
  · subst h; rw [if_pos rfl, if_pos (by omega), hv]
  · rw [if_neg h]
    by_cases g : i < k
    · rw [if_pos g, if_pos (by omega)]
    · rw [if_neg g, if_neg (by omega)]
theorem own_pre0 (G : Nat → Int32) (i : Nat) : (Value.int (0 : Int32)) = Value.int (own_pre G 0 i) := by unfold own_pre; rw [if_neg (by omega)]
theorem own_ofNat (n : Nat) (h : n < 2147483648) : (Int32.ofNat n).toInt = n := Int32.toInt_ofNat_of_lt h
theorem own_p0 (E : Nat) (h : E ≤ 18) : Int64.ofNat (10 ^ E) ≠ 0 := fun q => by
  have h1 := own_pow E h
  have h2 : 0 < 10 ^ E := Nat.pow_pos (by decide)
  rw [q, show (0 : Int64).toInt = 0 by decide] at h1
  generalize 10 ^ E = P at h1 h2
  omega
theorem own_pm (E : Nat) (h : E ≤ 18) : Int64.ofNat (10 ^ E) ≠ -1 := fun q => by
  have h1 := own_pow E h
  rw [q, show (-1 : Int64).toInt = -1 by decide] at h1
  generalize 10 ^ E = P at h1
  omega
theorem own_udiv (u : Int64) (U E : Nat) (hu : u.toInt = U) (h : E ≤ 18) : (u / Int64.ofNat (10 ^ E)).toInt = ((U / 10 ^ E : Nat) : Int) := by
  rw [(c_ldiv u _ _ (own_pow E h) (own_pm E h)).1 (by omega), hu]; exact (Int.natCast_ediv U (10 ^ E)).symm
theorem own_umod (u : Int64) (U E : Nat) (hu : u.toInt = U) (h : E ≤ 18) : (u - (u / Int64.ofNat (10 ^ E)) * Int64.ofNat (10 ^ E)).toInt = ((U % 10 ^ E : Nat) : Int) := by
  rw [(c_lrem u _ _ (own_pow E h)).1 (by omega), hu]; exact (Int.natCast_emod U (10 ^ E)).symm
def own_d (n M i : Nat) : Int32 := Int32.ofNat (48 + if n - 1 - i ≤ 18 then M / 10 ^ (n - 1 - i) % 10 else 1)
def own_put (g : Nat → Int32) (fi n M i j : Nat) : Int32 := if i < n ∧ j = fi + i then own_d n M i else g j
def own_pk (B : Nat → Int32) (fi n M k j : Nat) : Int32 := if fi ≤ j ∧ j < fi + k ∧ j < fi + n then own_d n M (j - fi) else B j
theorem own_pk_step (B : Nat → Int32) (fi n M k j : Nat) : own_put (own_pk B fi n M k) fi n M k j = own_pk B fi n M (k + 1) j := by
  unfold own_put own_pk
  by_cases h : k < n ∧ j = fi + k
  · rw [if_pos h, if_pos (by omega), show j - fi = k by omega]
  · rw [if_neg h]
    by_cases g : fi ≤ j ∧ j < fi + k ∧ j < fi + n
    · rw [if_pos g, if_pos (by omega)]
    · rw [if_neg g, if_neg (by omega)]
theorem own_pk0 (B : Nat → Int32) (fi n M j : Nat) : B j = own_pk B fi n M 0 j := by unfold own_pk; rw [if_neg (by omega)]
theorem own_d_rng (n M i : Nat) : 48 ≤ (own_d n M i).toInt ∧ (own_d n M i).toInt ≤ 57 := by
  unfold own_d
  rw [Int32.toInt_ofNat_of_lt (by split <;> omega)]
  split <;> omega
theorem own_law3 (g : Nat → Int32) (f s n M Q : Nat) (ng bad : Int32) (hs : (ng = 0 ∧ s = f) ∨ (ng = 1 ∧ s = f + 1)) (h45 : ng = 1 → g f = 45) (hd : ∀ k, k < n → (bad = 0 ∨ ¬ k = Q) → g (s + k) = own_d n M k)
    (hb : bad = 1 → 0 < n ∧ Q < n ∧ (g (s + Q) - 48 < 0 ∨ 9 < g (s + Q) - 48) ∧ ¬ (Q = 0 ∧ ng = 0 ∧ g (s + Q) = 45)) (hbad : bad = 0 ∨ bad = 1) :
    (n = 0 ∨ 18 < n ∨ bad = 1 → own_pp g f (s + n) = -9223372036854775808) ∧ (∀ mv : Int64, 0 < n → n ≤ 18 → bad = 0 → M < 10 ^ n → mv.toInt = (M : Int) → own_pp g f (s + n) = if ng = 0 then mv else -mv) := by
  have k45 : (45 : Int32).toInt = 45 := by decide
  have n10 : ¬ (1 : Int32) = 0 := by decide
  have ht : own_pp g f (s + n) = own_tail ng g s (s + n) := by
    refine own_pp_tail g f s n ng (fun h => ?_) (fun h => ?_) (hs.imp And.left And.left)
    · refine ⟨?_, h45 h⟩
      rcases hs with q | q
      · rw [h] at q; exact absurd q.1 n10
      · exact q.2
    · have e : s = f := by
        rcases hs with q | q
        · exact q.2
        · rw [h] at q; exact absurd q.1.symm n10
      refine ⟨e, fun h0 => ?_⟩
      subst e
      by_cases c : bad = 0 ∨ ¬ 0 = Q
      · have := hd 0 h0 c
        rw [Nat.add_zero] at this
        have r := own_d_rng n M 0
        rw [this]; intro q; rw [q] at r; omega
      · have c1 : bad = 1 := hbad.resolve_left (fun q => c (Or.inl q))
        have c2 : Q = 0 := by
          apply Decidable.byContradiction; intro q; exact c (Or.inr (fun z => q z.symm))
        have := (hb c1).2.2.2
        rw [c2, Nat.add_zero] at this
        intro q; exact this ⟨rfl, h, q⟩
  rw [ht]
  refine ⟨fun h => ?_, fun mv h0 h18 h1 hM hm => ?_⟩
  · apply own_tail_bad g s n Q ng
    rcases h with h | h | h
    · exact Or.inl h
    · exact Or.inr (Or.inl h)
    · exact Or.inr (Or.inr ⟨(hb h).2.1, (hb h).2.2.1⟩)
  · refine own_tail_good g s n M ng mv h0 h18 (fun k hk => ?_) (by rw [hm, Nat.mod_eq_of_lt hM])
    rw [hd k hk (Or.inl h1)]
    unfold own_d
    rw [if_pos (by omega), Int32.toInt_ofNat_of_lt (by omega)]

theorem d2_0 : decode method_3_code 0 = .ok (.iload_n 3, 1) := by decide +kernel
theorem d2_1 : decode method_3_code 1 = .ok (.iload_n 2, 1) := by decide +kernel
theorem d2_2 : decode method_3_code 2 = .ok (.if_icmp .ge 47, 3) := by decide +kernel
theorem d2_5 : decode method_3_code 5 = .ok (.iload_n 2, 1) := by decide +kernel
theorem d2_6 : decode method_3_code 6 = .ok (.iconst 1, 1) := by decide +kernel
theorem d2_7 : decode method_3_code 7 = .ok (.isub, 1) := by decide +kernel
theorem d2_8 : decode method_3_code 8 = .ok (.iload_n 3, 1) := by decide +kernel
theorem d2_9 : decode method_3_code 9 = .ok (.isub, 1) := by decide +kernel
theorem d2_10 : decode method_3_code 10 = .ok (.istore 6, 2) := by decide +kernel
theorem d2_12 : decode method_3_code 12 = .ok (.iload 6, 2) := by decide +kernel
theorem d2_14 : decode method_3_code 14 = .ok (.bipush 18, 2) := by decide +kernel
theorem d2_16 : decode method_3_code 16 = .ok (.if_icmp .gt 19, 3) := by decide +kernel
theorem d2_19 : decode method_3_code 19 = .ok (.lload 4, 2) := by decide +kernel
theorem d2_21 : decode method_3_code 21 = .ok (.iload 6, 2) := by decide +kernel
theorem d2_23 : decode method_3_code 23 = .ok (.invokestatic 43, 3) := by decide +kernel
theorem d2_26 : decode method_3_code 26 = .ok (.ldiv, 1) := by decide +kernel
theorem d2_27 : decode method_3_code 27 = .ok (.ldc2_w 7, 3) := by decide +kernel
theorem d2_30 : decode method_3_code 30 = .ok (.lrem, 1) := by decide +kernel
theorem d2_31 : decode method_3_code 31 = .ok (.l2i, 1) := by decide +kernel
theorem d2_32 : decode method_3_code 32 = .ok (.goto 4, 3) := by decide +kernel
theorem d2_35 : decode method_3_code 35 = .ok (.iconst 1, 1) := by decide +kernel
theorem d2_36 : decode method_3_code 36 = .ok (.istore 7, 2) := by decide +kernel
theorem d2_38 : decode method_3_code 38 = .ok (.aload_n 0, 1) := by decide +kernel
theorem d2_39 : decode method_3_code 39 = .ok (.iload_n 1, 1) := by decide +kernel
theorem d2_40 : decode method_3_code 40 = .ok (.iload_n 3, 1) := by decide +kernel
theorem d2_41 : decode method_3_code 41 = .ok (.iadd, 1) := by decide +kernel
theorem d2_42 : decode method_3_code 42 = .ok (.bipush 48, 2) := by decide +kernel
theorem d2_44 : decode method_3_code 44 = .ok (.iload 7, 2) := by decide +kernel
theorem d2_46 : decode method_3_code 46 = .ok (.iadd, 1) := by decide +kernel
theorem d2_47 : decode method_3_code 47 = .ok (.i2b, 1) := by decide +kernel
theorem d2_48 : decode method_3_code 48 = .ok (.bastore, 1) := by decide +kernel
theorem d2_49 : decode method_3_code 49 = .ok (.return_, 1) := by decide +kernel
theorem pn_2 : plainFor (⟨"com/example/leafline/leafline/table/IntegerValueParsePlain372PinLaw", "put", "([BIIIJ)V"⟩ : MethodName) = true := plainFor_of_name (by first | (simp [plainName, overriddenIn]; done) | decide +kernel)
theorem pd_0 : parseMethodDescriptor "(I)J" = some ⟨[.int], some .long⟩ := by decide +kernel
theorem ef_2 (m : MethodId) (a : Addr) (fv : Int32) (nv : Int32) (iv : Int32) (mq : Int64) : entryFrame m #[(.ref a), (.int fv), (.int nv), (.int iv), (.long mq)] 8 = mkF m 0 #[.val (.ref a), .val (.int fv), .val (.int nv), .val (.int iv), .val (.long mq), .second, .unset, .unset] [] := by first | (simp [entryFrame, mkF, argsToLocals, Value.category]; done) | rfl
def Q2 (Z : State) (a : Addr) (fv : Int32) (nv : Int32) (iv : Int32) (mq : Int64) (g : Nat → Int32) (fi : Nat) (n : Nat) (i : Nat) (M : Nat) (hI : Heap) (n0 : Nat) (v : Option Value) (h : Heap) (L : List Loc) : Prop := v = none ∧ Fr n0 L ∧ Keep hI h [a] ∧ own_A Z h a .byte 26 (fun j => .int (own_put g fi n M i j))
set_option maxRecDepth 65536 in
set_option maxHeartbeats 40000000 in
theorem rm2 (l : Launch) (Z : State) (a0 : Array Value) (hw : ∀ d ∈ tables_1, d.before a0 Z = true) (ws : List Jvm.Cond) (a : Addr) (fv : Int32) (nv : Int32) (iv : Int32) (mq : Int64) (g : Nat → Int32) (fi : Nat) (n : Nat) (i : Nat) (M : Nat) (hI : Heap) (n0 : Nat) (Z0 : n0 ≤ hI.size) (Ar : own_A Z hI a .byte 26 (fun j => .int (g j))) (ge_a : n0 ≤ a) (hf : fv.toInt = fi) (hn : nv.toInt = n) (hi : iv.toInt = i) (hM : mq.toInt = M) (hf2 : fi ≤ 4) (hn2 : n ≤ 20) :
    MetFree l (⟨"com/example/leafline/leafline/table/IntegerValueParsePlain372PinLaw", "put", "([BIIIJ)V"⟩ : MethodName) (head1 (Jvm.Cond.code (⟨"com/example/leafline/leafline/table/IntegerValueParsePlain372PinLaw", "put", "([BIIIJ)V"⟩ : MethodName) method_3_code 8 none :: ws) ({ frames := 1, cells := 1, slots := 19, locals := 15 } : Room)) (fun xa xU => xa = #[(.ref a), (.int fv), (.int nv), (.int iv), (.long mq)] ∧ Z.Warmed39 xU.vm ∧ xU.heap = hI) (fun _ _ _ _ _ => True) (fun _ xU xo xU' => ∃ xv xL, xo = .returned xv ∧ Q2 Z a fv nv iv mq g fi n i M hI n0 xv xU'.heap xL ∧ FrameEnd xU xo xU' xL ({ frames := 1, cells := 1, slots := 19, locals := 15 } : Room).cells ({ frames := 1, cells := 1, slots := 19, locals := 15 } : Room).slots) := by
  refine own_body pn_2 ?_
  intro p e s m below meth c s₁ hx hby hml hown hnm hret hlk hZ XI eI
  obtain ⟨F, hF⟩ : ∃ F : State → JFrame → Prop, F = own_Fin p.tables e below s ({ frames := 1, cells := 1, slots := 19, locals := 15 } : Room) (Q2 Z a fv nv iv mq g fi n i M hI n0) := ⟨_, rfl⟩
  have hst : ∀ {T T' : State} {g g' : JFrame}, (∀ t, Steps p.tables e below (T'.setTop g') t → Steps p.tables e below (T.setTop g) t) → F T' g' → F T g := by subst hF; exact own_st
  have NI := Fr.nil n0
  show own_Fin p.tables e below s ({ frames := 1, cells := 1, slots := 19, locals := 15 } : Room) (Q2 Z a fv nv iv mq g fi n i M hI n0) s₁ (entryFrame m #[(.ref a), (.int fv), (.int nv), (.int iv), (.long mq)] 8)
  rw [← hF]
  rw [ef_2]
  show F s₁ (mkF m 0 #[.val (.ref a), .val (.int fv), .val (.int nv), .val (.int iv), .val (.long mq), .second, .unset, .unset] [])
  have k0 : (0 : Int32).toInt = 0 := by decide
  have k1 : (1 : Int32).toInt = 1 := by decide
  have k18 : (18 : Int32).toInt = 18 := by decide
  have k48 : (48 : Int32).toInt = 48 := by decide
  refine hst (fun t₀ k₀ => XS.iloadN XI.here hx rfl (hb hby d2_0) rfl k₀) ?_
  show F s₁ (mkF m 1 #[.val (.ref a), .val (.int fv), .val (.int nv), .val (.int iv), .val (.long mq), .second, .unset, .unset] [(.int iv)])
  refine hst (fun t₀ k₀ => XS.iloadN XI.here hx rfl (hb hby d2_1) rfl k₀) ?_
  show F s₁ (mkF m 2 #[.val (.ref a), .val (.int fv), .val (.int nv), .val (.int iv), .val (.long mq), .second, .unset, .unset] [(.int nv), (.int iv)])
  by_cases hc2 : iv < nv
  · -- pc 2: not taken
    refine hst (fun t₀ k₀ => XS.icmpNo XI.here hx rfl (hb hby d2_2) rfl (tlt hc2).2.1 k₀) ?_
    show F s₁ (mkF m 5 #[.val (.ref a), .val (.int fv), .val (.int nv), .val (.int iv), .val (.long mq), .second, .unset, .unset] [])
    have q2 : i < n := by rw [own_lt32] at hc2; omega
    refine hst (fun t₀ k₀ => XS.iloadN XI.here hx rfl (hb hby d2_5) rfl k₀) ?_
    show F s₁ (mkF m 6 #[.val (.ref a), .val (.int fv), .val (.int nv), .val (.int iv), .val (.long mq), .second, .unset, .unset] [(.int nv)])
    refine hst (fun t₀ k₀ => XS.iconst XI.here hx rfl (hb hby d2_6) k₀) ?_
    show F s₁ (mkF m 7 #[.val (.ref a), .val (.int fv), .val (.int nv), .val (.int iv), .val (.long mq), .second, .unset, .unset] [(.int (1 : Int32)), (.int nv)])
    refine hst (fun t₀ k₀ => XS.isub XI.here hx rfl (hb hby d2_7) rfl k₀) ?_
    show F s₁ (mkF m 8 #[.val (.ref a), .val (.int fv), .val (.int nv), .val (.int iv), .val (.long mq), .second, .unset, .unset] [(.int (nv - (1 : Int32)))])
    refine hst (fun t₀ k₀ => XS.iloadN XI.here hx rfl (hb hby d2_8) rfl k₀) ?_
    show F s₁ (mkF m 9 #[.val (.ref a), .val (.int fv), .val (.int nv), .val (.int iv), .val (.long mq), .second, .unset, .unset] [(.int iv), (.int (nv - (1 : Int32)))])
    refine hst (fun t₀ k₀ => XS.isub XI.here hx rfl (hb hby d2_9) rfl k₀) ?_
    show F s₁ (mkF m 10 #[.val (.ref a), .val (.int fv), .val (.int nv), .val (.int iv), .val (.long mq), .second, .unset, .unset] [(.int ((nv - (1 : Int32)) - iv))])
    generalize hkv : ((nv - (1 : Int32)) - iv) = kv
    show F s₁ (mkF m 10 #[.val (.ref a), .val (.int fv), .val (.int nv), .val (.int iv), .val (.long mq), .second, .unset, .unset] [(.int kv)])
    have kkv : kv.toInt = ((n - 1 - i : Nat) : Int) := by have h1 := c_isub nv 1; have h2 := rng32 (nv - 1); have h3 := c_isub (nv - 1) iv; have h4 := rng32 kv; rw [hkv] at h3; omega
    refine hst (fun t₀ k₀ => XS.istore XI.here hx rfl (hb hby d2_10) rfl (l' := #[.val (.ref a), .val (.int fv), .val (.int nv), .val (.int iv), .val (.long mq), .second, .val (.int kv), .unset]) rfl k₀) ?_
    show F s₁ (mkF m 12 #[.val (.ref a), .val (.int fv), .val (.int nv), .val (.int iv), .val (.long mq), .second, .val (.int kv), .unset] [])
    refine hst (fun t₀ k₀ => XS.iload XI.here hx rfl (hb hby d2_12) rfl k₀) ?_
    show F s₁ (mkF m 14 #[.val (.ref a), .val (.int fv), .val (.int nv), .val (.int iv), .val (.long mq), .second, .val (.int kv), .unset] [(.int kv)])
    refine hst (fun t₀ k₀ => XS.bipush XI.here hx rfl (hb hby d2_14) k₀) ?_
    show F s₁ (mkF m 16 #[.val (.ref a), .val (.int fv), .val (.int nv), .val (.int iv), .val (.long mq), .second, .val (.int kv), .unset] [(.int (18 : Int32)), (.int kv)])
    by_cases hc16 : (18 : Int32) < kv
    · -- pc 16: taken
      refine hst (fun t₀ k₀ => XS.icmpYes XI.here hx rfl (pc0 := 16) (pc' := 35) rfl (hb hby d2_16) rfl (tlt hc16).2.2.1 (by decide) (by decide) k₀) ?_
      show F s₁ (mkF m 35 #[.val (.ref a), .val (.int fv), .val (.int nv), .val (.int iv), .val (.long mq), .second, .val (.int kv), .unset] [])
      have q16 : ¬ n - 1 - i ≤ 18 := by rw [own_lt32] at hc16; omega
      refine hst (fun t₀ k₀ => XS.iconst XI.here hx rfl (hb hby d2_35) k₀) ?_
      show F s₁ (mkF m 36 #[.val (.ref a), .val (.int fv), .val (.int nv), .val (.int iv), .val (.long mq), .second, .val (.int kv), .unset] [(.int (1 : Int32))])
      generalize hdi : (1 : Int32) = di
      show F s₁ (mkF m 36 #[.val (.ref a), .val (.int fv), .val (.int nv), .val (.int iv), .val (.long mq), .second, .val (.int kv), .unset] [(.int di)])
      have kdi : di.toInt = (((if n - 1 - i ≤ 18 then M / 10 ^ (n - 1 - i) % 10 else 1) : Nat) : Int) := by
        rw [if_neg q16, ← hdi]; decide
      refine hst (fun t₀ k₀ => XS.istore XI.here hx rfl (hb hby d2_36) rfl (l' := #[.val (.ref a), .val (.int fv), .val (.int nv), .val (.int iv), .val (.long mq), .second, .val (.int kv), .val (.int di)]) rfl k₀) ?_
      show F s₁ (mkF m 38 #[.val (.ref a), .val (.int fv), .val (.int nv), .val (.int iv), .val (.long mq), .second, .val (.int kv), .val (.int di)] [])
      refine hst (fun t₀ k₀ => XS.aloadN XI.here hx rfl (hb hby d2_38) rfl rfl k₀) ?_
      show F s₁ (mkF m 39 #[.val (.ref a), .val (.int fv), .val (.int nv), .val (.int iv), .val (.long mq), .second, .val (.int kv), .val (.int di)] [(.ref a)])
      refine hst (fun t₀ k₀ => XS.iloadN XI.here hx rfl (hb hby d2_39) rfl k₀) ?_
      show F s₁ (mkF m 40 #[.val (.ref a), .val (.int fv), .val (.int nv), .val (.int iv), .val (.long mq), .second, .val (.int kv), .val (.int di)] [(.int fv), (.ref a)])
      refine hst (fun t₀ k₀ => XS.iloadN XI.here hx rfl (hb hby d2_40) rfl k₀) ?_
      show F s₁ (mkF m 41 #[.val (.ref a), .val (.int fv), .val (.int nv), .val (.int iv), .val (.long mq), .second, .val (.int kv), .val (.int di)] [(.int iv), (.int fv), (.ref a)])
      refine hst (fun t₀ k₀ => XS.iadd XI.here hx rfl (hb hby d2_41) rfl k₀) ?_
      show F s₁ (mkF m 42 #[.val (.ref a), .val (.int fv), .val (.int nv), .val (.int iv), .val (.long mq), .second, .val (.int kv), .val (.int di)] [(.int (fv + iv)), (.ref a)])
      generalize hix : (fv + iv) = ix
      show F s₁ (mkF m 42 #[.val (.ref a), .val (.int fv), .val (.int nv), .val (.int iv), .val (.long mq), .second, .val (.int kv), .val (.int di)] [(.int ix), (.ref a)])
      have kix : ix.toInt = ((fi + i : Nat) : Int) := by have h1 := c_iadd fv iv; have h2 := rng32 ix; rw [hix] at h1; omega
      refine hst (fun t₀ k₀ => XS.bipush XI.here hx rfl (hb hby d2_42) k₀) ?_
      show F s₁ (mkF m 44 #[.val (.ref a), .val (.int fv), .val (.int nv), .val (.int iv), .val (.long mq), .second, .val (.int kv), .val (.int di)] [(.int (48 : Int32)), (.int ix), (.ref a)])
      refine hst (fun t₀ k₀ => XS.iload XI.here hx rfl (hb hby d2_44) rfl k₀) ?_
      show F s₁ (mkF m 46 #[.val (.ref a), .val (.int fv), .val (.int nv), .val (.int iv), .val (.long mq), .second, .val (.int kv), .val (.int di)] [(.int di), (.int (48 : Int32)), (.int ix), (.ref a)])
      refine hst (fun t₀ k₀ => XS.iadd XI.here hx rfl (hb hby d2_46) rfl k₀) ?_
      show F s₁ (mkF m 47 #[.val (.ref a), .val (.int fv), .val (.int nv), .val (.int iv), .val (.long mq), .second, .val (.int kv), .val (.int di)] [(.int ((48 : Int32) + di)), (.int ix), (.ref a)])
      generalize hbv : ((48 : Int32) + di) = bv
      show F s₁ (mkF m 47 #[.val (.ref a), .val (.int fv), .val (.int nv), .val (.int iv), .val (.long mq), .second, .val (.int kv), .val (.int di)] [(.int bv), (.int ix), (.ref a)])
      have kbv : nar .byte (bv.toInt8.toInt32) = own_d n M i := by
        unfold own_d
        have hDlt : (if n - 1 - i ≤ 18 then M / 10 ^ (n - 1 - i) % 10 else 1) < 10 := by split <;> omega
        generalize (if n - 1 - i ≤ 18 then M / 10 ^ (n - 1 - i) % 10 else 1) = D at kdi hDlt ⊢
        have h1 := c_iadd 48 di
        have h2 := rng32 bv
        rw [hbv] at h1
        have h3 := c_i2b bv
        have e : bv.toInt8.toInt32 = Int32.ofNat (48 + D) := by
          apply Int32.toInt_inj.mp; rw [own_ofNat _ (by omega)]; omega
        rw [e]; exact own_nar _ (by rw [own_ofNat _ (by omega)]; omega) (by rw [own_ofNat _ (by omega)]; omega)
      refine hst (fun t₀ k₀ => XS.i2b XI.here hx rfl (hb hby d2_47) rfl k₀) ?_
      show F s₁ (mkF m 48 #[.val (.ref a), .val (.int fv), .val (.int nv), .val (.int iv), .val (.long mq), .second, .val (.int kv), .val (.int di)] [(.int (bv.toInt8.toInt32)), (.int ix), (.ref a)])
      obtain ⟨T48, h48, X48, e48, W48, st48⟩ := own_bastore XI hx hZ eI Ar (own_idx ix 26 (by omega) (by omega)) (g := (mkF m 48 #[.val (.ref a), .val (.int fv), .val (.int nv), .val (.int iv), .val (.long mq), .second, .val (.int kv), .val (.int di)] [(.int (bv.toInt8.toInt32)), (.int ix), (.ref a)])) rfl rfl (hb hby d2_48)
      have N48 := Fr.snoc X48 NI ge_a
      have Ar_p48 : own_A Z h48 a .byte 26 (fun i => if i = Int32.toNatClampNeg ix then (.int (nar .byte (bv.toInt8.toInt32))) else (fun j => .int (g j)) i) := Ar.set W48
      have Z0_p48 : n0 ≤ h48.size := Nat.le_trans Z0 (Keep.of_wr W48).1
      have K_p48 : Keep hI h48 [a] := (Keep.refl hI [a]).wr W48 (Or.inl (List.mem_of_getElem? (i := 0) rfl))
      refine hst st48 ?_
      have Ar_p48c : own_A Z h48 a .byte 26 (fun j => .int (own_put g fi n M i j)) := own_A.congr Ar_p48 (fun j hj => by rw [own_clamp ix _ kix, kbv]; unfold own_put; by_cases q : j = fi + i; rw [if_pos q, if_pos ⟨q2, q⟩]; rw [if_neg q, if_neg (fun z => q z.2)])
      show F T48 (mkF m 49 #[.val (.ref a), .val (.int fv), .val (.int nv), .val (.int iv), .val (.long mq), .second, .val (.int kv), .val (.int di)] [])
      rw [hF]
      refine own_retV X48 hx hret hlk (hb hby d2_49) (by decide) (by decide) ?_
      rw [e48]
      exact ⟨rfl, N48, K_p48, Ar_p48c⟩
    · -- pc 16: not taken
      refine hst (fun t₀ k₀ => XS.icmpNo XI.here hx rfl (hb hby d2_16) rfl (flt hc16).2.2.1 k₀) ?_
      show F s₁ (mkF m 19 #[.val (.ref a), .val (.int fv), .val (.int nv), .val (.int iv), .val (.long mq), .second, .val (.int kv), .unset] [])
      have q16 : n - 1 - i ≤ 18 := by rw [own_lt32] at hc16; omega
      refine hst (fun t₀ k₀ => XS.lload XI.here hx rfl (hb hby d2_19) rfl k₀) ?_
      show F s₁ (mkF m 21 #[.val (.ref a), .val (.int fv), .val (.int nv), .val (.int iv), .val (.long mq), .second, .val (.int kv), .unset] [(.long mq)])
      refine hst (fun t₀ k₀ => XS.iload XI.here hx rfl (hb hby d2_21) rfl k₀) ?_
      show F s₁ (mkF m 23 #[.val (.ref a), .val (.int fv), .val (.int nv), .val (.int iv), .val (.long mq), .second, .val (.int kv), .unset] [(.int kv), (.long mq)])
      obtain ⟨v23, T23, Lc23, X23, hQ23, st23⟩ := own_callS XI hx hZ hown (y := (⟨"com/example/leafline/leafline/table/IntegerValueParsePlain372PinLaw", "pow10", "(I)J"⟩ : MethodName)) (hw _ (List.mem_of_getElem? (i := 2) rfl)) (hw _ (List.mem_of_getElem? (i := 3) rfl)) (hw _ (List.mem_of_getElem? (i := 4) rfl)) (hw _ (List.mem_of_getElem? (i := 5) rfl)) (by decide) eI (rm1 l Z a0 hw [] kv (n - 1 - i) hI n0 Z0 kkv q16) (by decide) (by decide) (g := (mkF m 23 #[.val (.ref a), .val (.int fv), .val (.int nv), .val (.int iv), .val (.long mq), .second, .val (.int kv), .unset] [(.int kv), (.long mq)])) rfl (by rw [hml]; rfl) (argsL := [(.int kv)]) (rest := [(.long mq)]) (lenOf pd_0 rfl) rfl rfl (W := 2) (by show 2 * 0 + _ ≤ _; exact Nat.le_of_eq rfl) (hb hby d2_23) (by decide) (by decide)
      obtain ⟨rfl, Nq23, K23⟩ := hQ23
      have N23 := Fr.app NI Nq23
      have Ar_p23 : own_A Z T23.heap a .byte 26 (fun j => .int (g j)) := Ar.keep K23 (List.not_mem_nil)
      have Z0_p23 : n0 ≤ T23.heap.size := Nat.le_trans Z0 K23.1
      have K_p23 : Keep hI T23.heap [a] := (Keep.refl hI [a]).trans K23 (fun x hx' => absurd hx' List.not_mem_nil)
      refine hst st23 ?_
      show F T23 (mkF m 26 #[.val (.ref a), .val (.int fv), .val (.int nv), .val (.int iv), .val (.long mq), .second, .val (.int kv), .unset] [(.long (Int64.ofNat (10 ^ (n - 1 - i)))), (.long mq)])
      refine hst (fun t₀ k₀ => XS.ldiv X23.here hx rfl (hb hby d2_26) rfl (own_p0 _ q16) k₀) ?_
      show F T23 (mkF m 27 #[.val (.ref a), .val (.int fv), .val (.int nv), .val (.int iv), .val (.long mq), .second, .val (.int kv), .unset] [(.long (mq / (Int64.ofNat (10 ^ (n - 1 - i)))))])
      generalize hdq : (mq / (Int64.ofNat (10 ^ (n - 1 - i)))) = dq
      show F T23 (mkF m 27 #[.val (.ref a), .val (.int fv), .val (.int nv), .val (.int iv), .val (.long mq), .second, .val (.int kv), .unset] [(.long dq)])
      have kdq : dq.toInt = ((M / 10 ^ (n - 1 - i) : Nat) : Int) := by rw [← hdq]; exact own_udiv mq M _ hM q16
      have k0d : 0 ≤ dq.toInt := by rw [kdq]; exact Int.natCast_nonneg _
      refine hst (fun t₀ k₀ => X23.ldc2J hx hown (mvT hZ (hw _ (List.mem_of_getElem? (i := 7) rfl))) (g := (mkF m 27 #[.val (.ref a), .val (.int fv), .val (.int nv), .val (.int iv), .val (.long mq), .second, .val (.int kv), .unset] [(.long dq)])) rfl (hb hby d2_27) k₀) ?_
      show F T23 (mkF m 30 #[.val (.ref a), .val (.int fv), .val (.int nv), .val (.int iv), .val (.long mq), .second, .val (.int kv), .unset] [(.long (10 : Int64)), (.long dq)])
      refine hst (fun t₀ k₀ => XS.lrem X23.here hx rfl (hb hby d2_30) rfl (by decide) k₀) ?_
      show F T23 (mkF m 31 #[.val (.ref a), .val (.int fv), .val (.int nv), .val (.int iv), .val (.long mq), .second, .val (.int kv), .unset] [(.long (dq - (dq / (10 : Int64)) * (10 : Int64)))])
      generalize hrm : (dq - (dq / (10 : Int64)) * (10 : Int64)) = rm
      show F T23 (mkF m 31 #[.val (.ref a), .val (.int fv), .val (.int nv), .val (.int iv), .val (.long mq), .second, .val (.int kv), .unset] [(.long rm)])
      have krm : rm.toInt = ((M / 10 ^ (n - 1 - i) % 10 : Nat) : Int) := by rw [← hrm, (c_lrem dq 10 10 (by decide)).1 k0d, kdq]; first | done | rfl | omega
      refine hst (fun t₀ k₀ => XS.l2i X23.here hx rfl (hb hby d2_31) rfl k₀) ?_
      show F T23 (mkF m 32 #[.val (.ref a), .val (.int fv), .val (.int nv), .val (.int iv), .val (.long mq), .second, .val (.int kv), .unset] [(.int (rm.toInt32))])
      generalize hdi : (rm.toInt32) = di
      show F T23 (mkF m 32 #[.val (.ref a), .val (.int fv), .val (.int nv), .val (.int iv), .val (.long mq), .second, .val (.int kv), .unset] [(.int di)])
      have kdi : di.toInt = (((if n - 1 - i ≤ 18 then M / 10 ^ (n - 1 - i) % 10 else 1) : Nat) : Int) := by
        rw [if_pos q16]; have h1 := c_l2i rm; have h2 := rng32 di; rw [hdi] at h1; omega
      refine hst (fun t₀ k₀ => XS.goto X23.here hx rfl (pc0 := 32) (pc' := 36) rfl (hb hby d2_32) (by decide) (by decide) k₀) ?_
      show F T23 (mkF m 36 #[.val (.ref a), .val (.int fv), .val (.int nv), .val (.int iv), .val (.long mq), .second, .val (.int kv), .unset] [(.int di)])
      refine hst (fun t₀ k₀ => XS.istore X23.here hx rfl (hb hby d2_36) rfl (l' := #[.val (.ref a), .val (.int fv), .val (.int nv), .val (.int iv), .val (.long mq), .second, .val (.int kv), .val (.int di)]) rfl k₀) ?_
      show F T23 (mkF m 38 #[.val (.ref a), .val (.int fv), .val (.int nv), .val (.int iv), .val (.long mq), .second, .val (.int kv), .val (.int di)] [])
      refine hst (fun t₀ k₀ => XS.aloadN X23.here hx rfl (hb hby d2_38) rfl rfl k₀) ?_
      show F T23 (mkF m 39 #[.val (.ref a), .val (.int fv), .val (.int nv), .val (.int iv), .val (.long mq), .second, .val (.int kv), .val (.int di)] [(.ref a)])
      refine hst (fun t₀ k₀ => XS.iloadN X23.here hx rfl (hb hby d2_39) rfl k₀) ?_
      show F T23 (mkF m 40 #[.val (.ref a), .val (.int fv), .val (.int nv), .val (.int iv), .val (.long mq), .second, .val (.int kv), .val (.int di)] [(.int fv), (.ref a)])
      refine hst (fun t₀ k₀ => XS.iloadN X23.here hx rfl (hb hby d2_40) rfl k₀) ?_
      show F T23 (mkF m 41 #[.val (.ref a), .val (.int fv), .val (.int nv), .val (.int iv), .val (.long mq), .second, .val (.int kv), .val (.int di)] [(.int iv), (.int fv), (.ref a)])
      refine hst (fun t₀ k₀ => XS.iadd X23.here hx rfl (hb hby d2_41) rfl k₀) ?_
      show F T23 (mkF m 42 #[.val (.ref a), .val (.int fv), .val (.int nv), .val (.int iv), .val (.long mq), .second, .val (.int kv), .val (.int di)] [(.int (fv + iv)), (.ref a)])
      generalize hix : (fv + iv) = ix
      show F T23 (mkF m 42 #[.val (.ref a), .val (.int fv), .val (.int nv), .val (.int iv), .val (.long mq), .second, .val (.int kv), .val (.int di)] [(.int ix), (.ref a)])
      have kix : ix.toInt = ((fi + i : Nat) : Int) := by have h1 := c_iadd fv iv; have h2 := rng32 ix; rw [hix] at h1; omega
      refine hst (fun t₀ k₀ => XS.bipush X23.here hx rfl (hb hby d2_42) k₀) ?_
      show F T23 (mkF m 44 #[.val (.ref a), .val (.int fv), .val (.int nv), .val (.int iv), .val (.long mq), .second, .val (.int kv), .val (.int di)] [(.int (48 : Int32)), (.int ix), (.ref a)])
      refine hst (fun t₀ k₀ => XS.iload X23.here hx rfl (hb hby d2_44) rfl k₀) ?_
      show F T23 (mkF m 46 #[.val (.ref a), .val (.int fv), .val (.int nv), .val (.int iv), .val (.long mq), .second, .val (.int kv), .val (.int di)] [(.int di), (.int (48 : Int32)), (.int ix), (.ref a)])
      refine hst (fun t₀ k₀ => XS.iadd X23.here hx rfl (hb hby d2_46) rfl k₀) ?_
      show F T23 (mkF m 47 #[.val (.ref a), .val (.int fv), .val (.int nv), .val (.int iv), .val (.long mq), .second, .val (.int kv), .val (.int di)] [(.int ((48 : Int32) + di)), (.int ix), (.ref a)])
      generalize hbv : ((48 : Int32) + di) = bv
      show F T23 (mkF m 47 #[.val (.ref a), .val (.int fv), .val (.int nv), .val (.int iv), .val (.long mq), .second, .val (.int kv), .val (.int di)] [(.int bv), (.int ix), (.ref a)])
      have kbv : nar .byte (bv.toInt8.toInt32) = own_d n M i := by
        unfold own_d
        have hDlt : (if n - 1 - i ≤ 18 then M / 10 ^ (n - 1 - i) % 10 else 1) < 10 := by split <;> omega
        generalize (if n - 1 - i ≤ 18 then M / 10 ^ (n - 1 - i) % 10 else 1) = D at kdi hDlt ⊢
        have h1 := c_iadd 48 di
        have h2 := rng32 bv
        rw [hbv] at h1
        have h3 := c_i2b bv
        have e : bv.toInt8.toInt32 = Int32.ofNat (48 + D) := by
          apply Int32.toInt_inj.mp; rw [own_ofNat _ (by omega)]; omega
        rw [e]; exact own_nar _ (by rw [own_ofNat _ (by omega)]; omega) (by rw [own_ofNat _ (by omega)]; omega)
      refine hst (fun t₀ k₀ => XS.i2b X23.here hx rfl (hb hby d2_47) rfl k₀) ?_
      show F T23 (mkF m 48 #[.val (.ref a), .val (.int fv), .val (.int nv), .val (.int iv), .val (.long mq), .second, .val (.int kv), .val (.int di)] [(.int (bv.toInt8.toInt32)), (.int ix), (.ref a)])
      obtain ⟨T48, h48, X48, e48, W48, st48⟩ := own_bastore X23 hx hZ rfl Ar_p23 (own_idx ix 26 (by omega) (by omega)) (g := (mkF m 48 #[.val (.ref a), .val (.int fv), .val (.int nv), .val (.int iv), .val (.long mq), .second, .val (.int kv), .val (.int di)] [(.int (bv.toInt8.toInt32)), (.int ix), (.ref a)])) rfl rfl (hb hby d2_48)
      have N48 := Fr.snoc X48 N23 ge_a
      have Ar_p48 : own_A Z h48 a .byte 26 (fun i => if i = Int32.toNatClampNeg ix then (.int (nar .byte (bv.toInt8.toInt32))) else (fun j => .int (g j)) i) := Ar_p23.set W48
      have Z0_p48 : n0 ≤ h48.size := Nat.le_trans Z0_p23 (Keep.of_wr W48).1
      have K_p48 : Keep hI h48 [a] := K_p23.wr W48 (Or.inl (List.mem_of_getElem? (i := 0) rfl))
      refine hst st48 ?_
      have Ar_p48c : own_A Z h48 a .byte 26 (fun j => .int (own_put g fi n M i j)) := own_A.congr Ar_p48 (fun j hj => by rw [own_clamp ix _ kix, kbv]; unfold own_put; by_cases q : j = fi + i; rw [if_pos q, if_pos ⟨q2, q⟩]; rw [if_neg q, if_neg (fun z => q z.2)])
      show F T48 (mkF m 49 #[.val (.ref a), .val (.int fv), .val (.int nv), .val (.int iv), .val (.long mq), .second, .val (.int kv), .val (.int di)] [])
      rw [hF]
      refine own_retV X48 hx hret hlk (hb hby d2_49) (by decide) (by decide) ?_
      rw [e48]
      exact ⟨rfl, N48, K_p48, Ar_p48c⟩
  · -- pc 2: taken
    refine hst (fun t₀ k₀ => XS.icmpYes XI.here hx rfl (pc0 := 2) (pc' := 49) rfl (hb hby d2_2) rfl (flt hc2).2.1 (by decide) (by decide) k₀) ?_
    show F s₁ (mkF m 49 #[.val (.ref a), .val (.int fv), .val (.int nv), .val (.int iv), .val (.long mq), .second, .unset, .unset] [])
    have q2 : ¬ i < n := by rw [own_lt32] at hc2; omega
    have Arc : own_A Z hI a .byte 26 (fun j => .int (own_put g fi n M i j)) := own_A.congr Ar (fun j hj => by unfold own_put; rw [if_neg (fun q => q2 q.1)])
    rw [hF]
    refine own_retV XI hx hret hlk (hb hby d2_49) (by decide) (by decide) ?_
    rw [eI]
    exact ⟨rfl, NI, (Keep.refl hI [a]), Arc⟩
theorem pn_0 : plainFor x = true := plainFor_of_name (by first | (simp [plainName, overriddenIn]; done) | decide +kernel)
theorem pd_2 : parseMethodDescriptor "([BIIIJ)V" = some ⟨[(.array .byte), .int, .int, .int, .long], none⟩ := by decide +kernel
theorem pd_1 : parseMethodDescriptor "([BII)J" = some ⟨[(.array .byte), .int, .int], some .long⟩ := by decide +kernel
theorem ef_0 (m : MethodId) (q1 : Int64) (p2 : Int32) (p3 : Int32) (p4 : Int32) (p5 : Int32) : entryFrame m #[(.long q1), (.int p2), (.int p3), (.int p4), (.int p5)] maxLocals = mkF m 0 #[.val (.long q1), .second, .val (.int p2), .val (.int p3), .val (.int p4), .val (.int p5), .unset, .unset, .unset, .unset, .unset, .unset, .unset, .unset, .unset, .unset, .unset, .unset, .unset, .unset] [] := by first | (simp [entryFrame, mkF, argsToLocals, Value.category, maxLocals]; done) | rfl
def Q0 (Z : State) (q1 : Int64) (p2 : Int32) (p3 : Int32) (p4 : Int32) (p5 : Int32) (hI : Heap) (n0 : Nat) (v : Option Value) (h : Heap) (L : List Loc) : Prop := v = some (.int 1) ∧ Fr n0 L
set_option maxRecDepth 65536 in
set_option maxHeartbeats 40000000 in
theorem rm0 (l : Launch) (Z : State) (a0 : Array Value) (hw : ∀ d ∈ tables_1, d.before a0 Z = true) (ws : List Jvm.Cond) (q1 : Int64) (p2 : Int32) (p3 : Int32) (p4 : Int32) (p5 : Int32) (hI : Heap) (n0 : Nat) (Z0 : n0 ≤ hI.size) :
    MetFree l x (head1 (Jvm.Cond.code x code maxLocals ret :: ws) room_1) (fun xa xU => xa = #[(.long q1), (.int p2), (.int p3), (.int p4), (.int p5)] ∧ Z.Warmed39 xU.vm ∧ xU.heap = hI) (fun _ _ _ _ _ => True) (fun _ xU xo xU' => ∃ xv xL, xo = .returned xv ∧ Q0 Z q1 p2 p3 p4 p5 hI n0 xv xU'.heap xL ∧ FrameEnd xU xo xU' xL room_1.cells room_1.slots) := by
  refine own_body pn_0 ?_
  intro p e s m below meth c s₁ hx hby hml hown hnm hret hlk hZ XI eI
  have hml : c.maxLocals = 20 := hml
  obtain ⟨F, hF⟩ : ∃ F : State → JFrame → Prop, F = own_Fin p.tables e below s room_1 (Q0 Z q1 p2 p3 p4 p5 hI n0) := ⟨_, rfl⟩
  have hst : ∀ {T T' : State} {g g' : JFrame}, (∀ t, Steps p.tables e below (T'.setTop g') t → Steps p.tables e below (T.setTop g) t) → F T' g' → F T g := by subst hF; exact own_st
  have NI := Fr.nil n0
  show own_Fin p.tables e below s room_1 (Q0 Z q1 p2 p3 p4 p5 hI n0) s₁ (entryFrame m #[(.long q1), (.int p2), (.int p3), (.int p4), (.int p5)] maxLocals)
  rw [← hF]
  rw [ef_0]
  show F s₁ (mkF m 0 #[.val (.long q1), .second, .val (.int p2), .val (.int p3), .val (.int p4), .val (.int p5), .unset, .unset, .unset, .unset, .unset, .unset, .unset, .unset, .unset, .unset, .unset, .unset, .unset, .unset] [])
  have k0 : (0 : Int32).toInt = 0 := by decide
  have k1 : (1 : Int32).toInt = 1 := by decide
  have k48 : (48 : Int32).toInt = 48 := by decide
  have k57 : (57 : Int32).toInt = 57 := by decide
  have k18 : (18 : Int32).toInt = 18 := by decide
  have k45 : (45 : Int32).toInt = 45 := by decide
  have k10 : (10 : Int32).toInt = 10 := by decide
  have k43 : (43 : Int32).toInt = 43 := by decide
  have n10 : ¬ (1 : Int32) = 0 := by decide
  obtain ⟨G, hG⟩ : ∃ G : Nat → Int32, G = fun _ => nar .byte 51 := ⟨_, rfl⟩
  refine hst (fun t₀ k₀ => XS.iloadN XI.here hx rfl (hb hby at_0) rfl k₀) ?_
  show F s₁ (mkF m 1 #[.val (.long q1), .second, .val (.int p2), .val (.int p3), .val (.int p4), .val (.int p5), .unset, .unset, .unset, .unset, .unset, .unset, .unset, .unset, .unset, .unset, .unset, .unset, .unset, .unset] [(.int p2)])
  refine hst (fun t₀ k₀ => XI.ldcI hx hown (mvT hZ (hw _ (List.mem_of_getElem? (i := 0) rfl))) (g := (mkF m 1 #[.val (.long q1), .second, .val (.int p2), .val (.int p3), .val (.int p4), .val (.int p5), .unset, .unset, .unset, .unset, .unset, .unset, .unset, .unset, .unset, .unset, .unset, .unset, .unset, .unset] [(.int p2)])) rfl (hb hby at_1) k₀) ?_
  show F s₁ (mkF m 3 #[.val (.long q1), .second, .val (.int p2), .val (.int p3), .val (.int p4), .val (.int p5), .unset, .unset, .unset, .unset, .unset, .unset, .unset, .unset, .unset, .unset, .unset, .unset, .unset, .unset] [(.int (2147483647 : Int32)), (.int p2)])
  refine hst (fun t₀ k₀ => XS.iand XI.here hx rfl (hb hby at_3) rfl k₀) ?_
  show F s₁ (mkF m 4 #[.val (.long q1), .second, .val (.int p2), .val (.int p3), .val (.int p4), .val (.int p5), .unset, .unset, .unset, .unset, .unset, .unset, .unset, .unset, .unset, .unset, .unset, .unset, .unset, .unset] [(.int (p2 &&& (2147483647 : Int32)))])
  refine hst (fun t₀ k₀ => XS.bipush XI.here hx rfl (hb hby at_4) k₀) ?_
  show F s₁ (mkF m 6 #[.val (.long q1), .second, .val (.int p2), .val (.int p3), .val (.int p4), .val (.int p5), .unset, .unset, .unset, .unset, .unset, .unset, .unset, .unset, .unset, .unset, .unset, .unset, .unset, .unset] [(.int (21 : Int32)), (.int (p2 &&& (2147483647 : Int32)))])
  refine hst (fun t₀ k₀ => iremM XI hx rfl (hb hby at_6) rfl (by decide) k₀) ?_
  show F s₁ (mkF m 7 #[.val (.long q1), .second, .val (.int p2), .val (.int p3), .val (.int p4), .val (.int p5), .unset, .unset, .unset, .unset, .unset, .unset, .unset, .unset, .unset, .unset, .unset, .unset, .unset, .unset] [(.int ((p2 &&& (2147483647 : Int32)) % (21 : Int32)))])
  generalize hnv : ((p2 &&& (2147483647 : Int32)) % (21 : Int32)) = nv
  show F s₁ (mkF m 7 #[.val (.long q1), .second, .val (.int p2), .val (.int p3), .val (.int p4), .val (.int p5), .unset, .unset, .unset, .unset, .unset, .unset, .unset, .unset, .unset, .unset, .unset, .unset, .unset, .unset] [(.int nv)])
  obtain ⟨n, hn, hn2⟩ : ∃ n : Nat, nv.toInt = n ∧ n ≤ 20 := by
    have h1 := c_mask p2 2147483647 31 (by decide) (by decide); have h2 := (c_irem (p2 &&& 2147483647) 21 21 (by decide)).1 (by omega); rw [hnv] at h2; exact ⟨nv.toInt.toNat, by omega, by omega⟩
  refine hst (fun t₀ k₀ => XS.istore XI.here hx rfl (hb hby at_7) rfl (l' := #[.val (.long q1), .second, .val (.int p2), .val (.int p3), .val (.int p4), .val (.int p5), .val (.int nv), .unset, .unset, .unset, .unset, .unset, .unset, .unset, .unset, .unset, .unset, .unset, .unset, .unset]) rfl k₀) ?_
  show F s₁ (mkF m 9 #[.val (.long q1), .second, .val (.int p2), .val (.int p3), .val (.int p4), .val (.int p5), .val (.int nv), .unset, .unset, .unset, .unset, .unset, .unset, .unset, .unset, .unset, .unset, .unset, .unset, .unset] [])
  refine hst (fun t₀ k₀ => XS.iloadN XI.here hx rfl (hb hby at_9) rfl k₀) ?_
  show F s₁ (mkF m 10 #[.val (.long q1), .second, .val (.int p2), .val (.int p3), .val (.int p4), .val (.int p5), .val (.int nv), .unset, .unset, .unset, .unset, .unset, .unset, .unset, .unset, .unset, .unset, .unset, .unset, .unset] [(.int p3)])
  refine hst (fun t₀ k₀ => XS.iconst XI.here hx rfl (hb hby at_10) k₀) ?_
  show F s₁ (mkF m 11 #[.val (.long q1), .second, .val (.int p2), .val (.int p3), .val (.int p4), .val (.int p5), .val (.int nv), .unset, .unset, .unset, .unset, .unset, .unset, .unset, .unset, .unset, .unset, .unset, .unset, .unset] [(.int (1 : Int32)), (.int p3)])
  refine hst (fun t₀ k₀ => XS.iand XI.here hx rfl (hb hby at_11) rfl k₀) ?_
  show F s₁ (mkF m 12 #[.val (.long q1), .second, .val (.int p2), .val (.int p3), .val (.int p4), .val (.int p5), .val (.int nv), .unset, .unset, .unset, .unset, .unset, .unset, .unset, .unset, .unset, .unset, .unset, .unset, .unset] [(.int (p3 &&& (1 : Int32)))])
  have J22 : ∀ ng : Int32, (ng = 0 ∨ ng = 1) → F s₁ (mkF m 22 #[.val (.long q1), .second, .val (.int p2), .val (.int p3), .val (.int p4), .val (.int p5), .val (.int nv), .val (.int ng), .unset, .unset, .unset, .unset, .unset, .unset, .unset, .unset, .unset, .unset, .unset, .unset] []) := by
    intro ng hng
    show F s₁ (mkF m 22 #[.val (.long q1), .second, .val (.int p2), .val (.int p3), .val (.int p4), .val (.int p5), .val (.int nv), .val (.int ng), .unset, .unset, .unset, .unset, .unset, .unset, .unset, .unset, .unset, .unset, .unset, .unset] [])
    refine hst (fun t₀ k₀ => XS.iloadN XI.here hx rfl (hb hby at_22) rfl k₀) ?_
    show F s₁ (mkF m 23 #[.val (.long q1), .second, .val (.int p2), .val (.int p3), .val (.int p4), .val (.int p5), .val (.int nv), .val (.int ng), .unset, .unset, .unset, .unset, .unset, .unset, .unset, .unset, .unset, .unset, .unset, .unset] [(.int p3)])
    refine hst (fun t₀ k₀ => XS.iconst XI.here hx rfl (hb hby at_23) k₀) ?_
    show F s₁ (mkF m 24 #[.val (.long q1), .second, .val (.int p2), .val (.int p3), .val (.int p4), .val (.int p5), .val (.int nv), .val (.int ng), .unset, .unset, .unset, .unset, .unset, .unset, .unset, .unset, .unset, .unset, .unset, .unset] [(.int (2 : Int32)), (.int p3)])
    refine hst (fun t₀ k₀ => XS.iand XI.here hx rfl (hb hby at_24) rfl k₀) ?_
    show F s₁ (mkF m 25 #[.val (.long q1), .second, .val (.int p2), .val (.int p3), .val (.int p4), .val (.int p5), .val (.int nv), .val (.int ng), .unset, .unset, .unset, .unset, .unset, .unset, .unset, .unset, .unset, .unset, .unset, .unset] [(.int (p3 &&& (2 : Int32)))])
    have J35 : ∀ rf : Int32, (True) → F s₁ (mkF m 35 #[.val (.long q1), .second, .val (.int p2), .val (.int p3), .val (.int p4), .val (.int p5), .val (.int nv), .val (.int ng), .val (.int rf), .unset, .unset, .unset, .unset, .unset, .unset, .unset, .unset, .unset, .unset, .unset] []) := by
      intro rf hrf
      show F s₁ (mkF m 35 #[.val (.long q1), .second, .val (.int p2), .val (.int p3), .val (.int p4), .val (.int p5), .val (.int nv), .val (.int ng), .val (.int rf), .unset, .unset, .unset, .unset, .unset, .unset, .unset, .unset, .unset, .unset, .unset] [])
      refine hst (fun t₀ k₀ => XS.iloadN XI.here hx rfl (hb hby at_35) rfl k₀) ?_
      show F s₁ (mkF m 36 #[.val (.long q1), .second, .val (.int p2), .val (.int p3), .val (.int p4), .val (.int p5), .val (.int nv), .val (.int ng), .val (.int rf), .unset, .unset, .unset, .unset, .unset, .unset, .unset, .unset, .unset, .unset, .unset] [(.int p3)])
      refine hst (fun t₀ k₀ => XS.iconst XI.here hx rfl (hb hby at_36) k₀) ?_
      show F s₁ (mkF m 37 #[.val (.long q1), .second, .val (.int p2), .val (.int p3), .val (.int p4), .val (.int p5), .val (.int nv), .val (.int ng), .val (.int rf), .unset, .unset, .unset, .unset, .unset, .unset, .unset, .unset, .unset, .unset, .unset] [(.int (2 : Int32)), (.int p3)])
      refine hst (fun t₀ k₀ => XS.iushr XI.here hx rfl (hb hby at_37) rfl k₀) ?_
      show F s₁ (mkF m 38 #[.val (.long q1), .second, .val (.int p2), .val (.int p3), .val (.int p4), .val (.int p5), .val (.int nv), .val (.int ng), .val (.int rf), .unset, .unset, .unset, .unset, .unset, .unset, .unset, .unset, .unset, .unset, .unset] [(.int ((p3.toUInt32 >>> ((2 : Int32) &&& 31).toUInt32).toInt32))])
      generalize hf0 : ((p3.toUInt32 >>> ((2 : Int32) &&& 31).toUInt32).toInt32) = f0
      show F s₁ (mkF m 38 #[.val (.long q1), .second, .val (.int p2), .val (.int p3), .val (.int p4), .val (.int p5), .val (.int nv), .val (.int ng), .val (.int rf), .unset, .unset, .unset, .unset, .unset, .unset, .unset, .unset, .unset, .unset, .unset] [(.int f0)])
      refine hst (fun t₀ k₀ => XS.iconst XI.here hx rfl (hb hby at_38) k₀) ?_
      show F s₁ (mkF m 39 #[.val (.long q1), .second, .val (.int p2), .val (.int p3), .val (.int p4), .val (.int p5), .val (.int nv), .val (.int ng), .val (.int rf), .unset, .unset, .unset, .unset, .unset, .unset, .unset, .unset, .unset, .unset, .unset] [(.int (3 : Int32)), (.int f0)])
      refine hst (fun t₀ k₀ => XS.iand XI.here hx rfl (hb hby at_39) rfl k₀) ?_
      show F s₁ (mkF m 40 #[.val (.long q1), .second, .val (.int p2), .val (.int p3), .val (.int p4), .val (.int p5), .val (.int nv), .val (.int ng), .val (.int rf), .unset, .unset, .unset, .unset, .unset, .unset, .unset, .unset, .unset, .unset, .unset] [(.int (f0 &&& (3 : Int32)))])
      generalize hfv : (f0 &&& (3 : Int32)) = fv
      show F s₁ (mkF m 40 #[.val (.long q1), .second, .val (.int p2), .val (.int p3), .val (.int p4), .val (.int p5), .val (.int nv), .val (.int ng), .val (.int rf), .unset, .unset, .unset, .unset, .unset, .unset, .unset, .unset, .unset, .unset, .unset] [(.int fv)])
      obtain ⟨f, hf, hf2⟩ : ∃ f : Nat, fv.toInt = f ∧ f ≤ 3 := by
        have h1 := c_mask f0 3 2 (by decide) (by decide); rw [hfv] at h1; exact ⟨fv.toInt.toNat, by omega, by omega⟩
      refine hst (fun t₀ k₀ => XS.istore XI.here hx rfl (hb hby at_40) rfl (l' := #[.val (.long q1), .second, .val (.int p2), .val (.int p3), .val (.int p4), .val (.int p5), .val (.int nv), .val (.int ng), .val (.int rf), .val (.int fv), .unset, .unset, .unset, .unset, .unset, .unset, .unset, .unset, .unset, .unset]) rfl k₀) ?_
      show F s₁ (mkF m 42 #[.val (.long q1), .second, .val (.int p2), .val (.int p3), .val (.int p4), .val (.int p5), .val (.int nv), .val (.int ng), .val (.int rf), .val (.int fv), .unset, .unset, .unset, .unset, .unset, .unset, .unset, .unset, .unset, .unset] [])
      have J58 : ∀ sv : Int32, (∃ s : Nat, sv.toInt = s ∧ ((ng = 0 ∧ s = f) ∨ (ng = 1 ∧ s = f + 1))) → F s₁ (mkF m 58 #[.val (.long q1), .second, .val (.int p2), .val (.int p3), .val (.int p4), .val (.int p5), .val (.int nv), .val (.int ng), .val (.int rf), .val (.int fv), .val (.int sv), .unset, .unset, .unset, .unset, .unset, .unset, .unset, .unset, .unset] []) := by
        intro sv hsv
        show F s₁ (mkF m 58 #[.val (.long q1), .second, .val (.int p2), .val (.int p3), .val (.int p4), .val (.int p5), .val (.int nv), .val (.int ng), .val (.int rf), .val (.int fv), .val (.int sv), .unset, .unset, .unset, .unset, .unset, .unset, .unset, .unset, .unset] [])
        obtain ⟨s', hs, hs1⟩ := hsv
        have hs2 : s' ≤ 4 := by omega
        have es1 : ng = 1 → s' = f + 1 := fun q => hs1.elim (fun z => absurd (z.1.symm.trans q).symm n10) (fun z => z.2)
        refine hst (fun t₀ k₀ => XS.iload XI.here hx rfl (hb hby at_58) rfl k₀) ?_
        show F s₁ (mkF m 60 #[.val (.long q1), .second, .val (.int p2), .val (.int p3), .val (.int p4), .val (.int p5), .val (.int nv), .val (.int ng), .val (.int rf), .val (.int fv), .val (.int sv), .unset, .unset, .unset, .unset, .unset, .unset, .unset, .unset, .unset] [(.int sv)])
        refine hst (fun t₀ k₀ => XS.iload XI.here hx rfl (hb hby at_60) rfl k₀) ?_
        show F s₁ (mkF m 62 #[.val (.long q1), .second, .val (.int p2), .val (.int p3), .val (.int p4), .val (.int p5), .val (.int nv), .val (.int ng), .val (.int rf), .val (.int fv), .val (.int sv), .unset, .unset, .unset, .unset, .unset, .unset, .unset, .unset, .unset] [(.int nv), (.int sv)])
        refine hst (fun t₀ k₀ => XS.iadd XI.here hx rfl (hb hby at_62) rfl k₀) ?_
        show F s₁ (mkF m 63 #[.val (.long q1), .second, .val (.int p2), .val (.int p3), .val (.int p4), .val (.int p5), .val (.int nv), .val (.int ng), .val (.int rf), .val (.int fv), .val (.int sv), .unset, .unset, .unset, .unset, .unset, .unset, .unset, .unset, .unset] [(.int (sv + nv))])
        generalize htv : (sv + nv) = tv
        show F s₁ (mkF m 63 #[.val (.long q1), .second, .val (.int p2), .val (.int p3), .val (.int p4), .val (.int p5), .val (.int nv), .val (.int ng), .val (.int rf), .val (.int fv), .val (.int sv), .unset, .unset, .unset, .unset, .unset, .unset, .unset, .unset, .unset] [(.int tv)])
        have ktv : tv.toInt = ((s' + n : Nat) : Int) := by have h1 := c_iadd sv nv; have h2 := rng32 tv; rw [htv] at h1; omega
        refine hst (fun t₀ k₀ => XS.istore XI.here hx rfl (hb hby at_63) rfl (l' := #[.val (.long q1), .second, .val (.int p2), .val (.int p3), .val (.int p4), .val (.int p5), .val (.int nv), .val (.int ng), .val (.int rf), .val (.int fv), .val (.int sv), .val (.int tv), .unset, .unset, .unset, .unset, .unset, .unset, .unset, .unset]) rfl k₀) ?_
        show F s₁ (mkF m 65 #[.val (.long q1), .second, .val (.int p2), .val (.int p3), .val (.int p4), .val (.int p5), .val (.int nv), .val (.int ng), .val (.int rf), .val (.int fv), .val (.int sv), .val (.int tv), .unset, .unset, .unset, .unset, .unset, .unset, .unset, .unset] [])
        refine hst (fun t₀ k₀ => XS.lloadN XI.here hx rfl (hb hby at_65) rfl k₀) ?_
        show F s₁ (mkF m 66 #[.val (.long q1), .second, .val (.int p2), .val (.int p3), .val (.int p4), .val (.int p5), .val (.int nv), .val (.int ng), .val (.int rf), .val (.int fv), .val (.int sv), .val (.int tv), .unset, .unset, .unset, .unset, .unset, .unset, .unset, .unset] [(.long q1)])
        refine hst (fun t₀ k₀ => XI.ldc2J hx hown (mvT hZ (hw _ (List.mem_of_getElem? (i := 1) rfl))) (g := (mkF m 66 #[.val (.long q1), .second, .val (.int p2), .val (.int p3), .val (.int p4), .val (.int p5), .val (.int nv), .val (.int ng), .val (.int rf), .val (.int fv), .val (.int sv), .val (.int tv), .unset, .unset, .unset, .unset, .unset, .unset, .unset, .unset] [(.long q1)])) rfl (hb hby at_66) k₀) ?_
        show F s₁ (mkF m 69 #[.val (.long q1), .second, .val (.int p2), .val (.int p3), .val (.int p4), .val (.int p5), .val (.int nv), .val (.int ng), .val (.int rf), .val (.int fv), .val (.int sv), .val (.int tv), .unset, .unset, .unset, .unset, .unset, .unset, .unset, .unset] [(.long (9223372036854775807 : Int64)), (.long q1)])
        refine hst (fun t₀ k₀ => XS.land XI.here hx rfl (hb hby at_69) rfl k₀) ?_
        show F s₁ (mkF m 70 #[.val (.long q1), .second, .val (.int p2), .val (.int p3), .val (.int p4), .val (.int p5), .val (.int nv), .val (.int ng), .val (.int rf), .val (.int fv), .val (.int sv), .val (.int tv), .unset, .unset, .unset, .unset, .unset, .unset, .unset, .unset] [(.long (q1 &&& (9223372036854775807 : Int64)))])
        generalize hu : (q1 &&& (9223372036854775807 : Int64)) = u
        show F s₁ (mkF m 70 #[.val (.long q1), .second, .val (.int p2), .val (.int p3), .val (.int p4), .val (.int p5), .val (.int nv), .val (.int ng), .val (.int rf), .val (.int fv), .val (.int sv), .val (.int tv), .unset, .unset, .unset, .unset, .unset, .unset, .unset, .unset] [(.long u)])
        obtain ⟨U, hU⟩ : ∃ U : Nat, u.toInt = U := by
          have h1 := c_maskL q1 9223372036854775807 63 (by decide) (by decide); rw [hu] at h1; exact ⟨u.toInt.toNat, by omega⟩
        refine hst (fun t₀ k₀ => XS.lstore XI.here hx rfl (hb hby at_70) rfl (l' := #[.val (.long q1), .second, .val (.int p2), .val (.int p3), .val (.int p4), .val (.int p5), .val (.int nv), .val (.int ng), .val (.int rf), .val (.int fv), .val (.int sv), .val (.int tv), .val (.long u), .second, .unset, .unset, .unset, .unset, .unset, .unset]) rfl k₀) ?_
        show F s₁ (mkF m 72 #[.val (.long q1), .second, .val (.int p2), .val (.int p3), .val (.int p4), .val (.int p5), .val (.int nv), .val (.int ng), .val (.int rf), .val (.int fv), .val (.int sv), .val (.int tv), .val (.long u), .second, .unset, .unset, .unset, .unset, .unset, .unset] [])
        have J94 : ∀ (Tqa : State) (lqa : List Loc) (Xqa : Stand p l e room_1 s m #[(.long q1), (.int p2), (.int p3), (.int p4), (.int p5)] below meth c Tqa lqa 1 19) (hqa : Heap) (eqa : Tqa.heap = hqa) (Nqa : Fr n0 lqa) (Zqa : n0 ≤ hqa.size) (mq : Int64) (M : Nat), mq.toInt = M → (n ≤ 18 → M < 10 ^ n) → F Tqa (mkF m 94 #[.val (.long q1), .second, .val (.int p2), .val (.int p3), .val (.int p4), .val (.int p5), .val (.int nv), .val (.int ng), .val (.int rf), .val (.int fv), .val (.int sv), .val (.int tv), .val (.long u), .second, .val (.long mq), .second, .unset, .unset, .unset, .unset] []) := by
          intro Tqa lqa Xqa hqa eqa Nqa Zqa mq M hM hM2
          show F Tqa (mkF m 94 #[.val (.long q1), .second, .val (.int p2), .val (.int p3), .val (.int p4), .val (.int p5), .val (.int nv), .val (.int ng), .val (.int rf), .val (.int fv), .val (.int sv), .val (.int tv), .val (.long u), .second, .val (.long mq), .second, .unset, .unset, .unset, .unset] [])
          refine hst (fun t₀ k₀ => XS.bipush Xqa.here hx rfl (hb hby at_94) k₀) ?_
          show F Tqa (mkF m 96 #[.val (.long q1), .second, .val (.int p2), .val (.int p3), .val (.int p4), .val (.int p5), .val (.int nv), .val (.int ng), .val (.int rf), .val (.int fv), .val (.int sv), .val (.int tv), .val (.long u), .second, .val (.long mq), .second, .unset, .unset, .unset, .unset] [(.int (26 : Int32))])
          obtain ⟨T96, h96, b96, X96, e96, g96, E96, A96, st96⟩ := own_newarr Xqa hx hZ (hw _ (List.mem_of_getElem? (i := 25) rfl)) eqa (g := (mkF m 96 #[.val (.long q1), .second, .val (.int p2), .val (.int p3), .val (.int p4), .val (.int p5), .val (.int nv), .val (.int ng), .val (.int rf), .val (.int fv), .val (.int sv), .val (.int tv), .val (.long u), .second, .val (.long mq), .second, .unset, .unset, .unset, .unset] [(.int (26 : Int32))])) rfl (hb hby at_96) rfl (by decide) (cap := 26) (by decide) (by decide) (by decide) (by decide)
          have ge_b96 : n0 ≤ b96 := Nat.le_trans Zqa (Nat.le_of_eq g96.symm)
          have Z0_p96 : n0 ≤ h96.size := (Nat.le_trans Zqa E96.1)
          have A_b96 : own_A Z h96 b96 .byte 26 (fun _ => (.int (0 : Int32))) := A96
          refine hst st96 ?_
          show F T96 (mkF m 98 #[.val (.long q1), .second, .val (.int p2), .val (.int p3), .val (.int p4), .val (.int p5), .val (.int nv), .val (.int ng), .val (.int rf), .val (.int fv), .val (.int sv), .val (.int tv), .val (.long u), .second, .val (.long mq), .second, .unset, .unset, .unset, .unset] [(.ref b96)])
          refine hst (fun t₀ k₀ => XS.dup X96.here hx rfl (hb hby at_98) rfl rfl k₀) ?_
          show F T96 (mkF m 99 #[.val (.long q1), .second, .val (.int p2), .val (.int p3), .val (.int p4), .val (.int p5), .val (.int nv), .val (.int ng), .val (.int rf), .val (.int fv), .val (.int sv), .val (.int tv), .val (.long u), .second, .val (.long mq), .second, .unset, .unset, .unset, .unset] [(.ref b96), (.ref b96)])
          refine hst (fun t₀ k₀ => XS.iconst X96.here hx rfl (hb hby at_99) k₀) ?_
          show F T96 (mkF m 100 #[.val (.long q1), .second, .val (.int p2), .val (.int p3), .val (.int p4), .val (.int p5), .val (.int nv), .val (.int ng), .val (.int rf), .val (.int fv), .val (.int sv), .val (.int tv), .val (.long u), .second, .val (.long mq), .second, .unset, .unset, .unset, .unset] [(.int (0 : Int32)), (.ref b96), (.ref b96)])
          refine hst (fun t₀ k₀ => XS.bipush X96.here hx rfl (hb hby at_100) k₀) ?_
          show F T96 (mkF m 102 #[.val (.long q1), .second, .val (.int p2), .val (.int p3), .val (.int p4), .val (.int p5), .val (.int nv), .val (.int ng), .val (.int rf), .val (.int fv), .val (.int sv), .val (.int tv), .val (.long u), .second, .val (.long mq), .second, .unset, .unset, .unset, .unset] [(.int (51 : Int32)), (.int (0 : Int32)), (.ref b96), (.ref b96)])
          obtain ⟨T102, h102, X102, e102, W102, st102⟩ := own_bastore X96 hx hZ e96 A_b96 (by decide) (g := (mkF m 102 #[.val (.long q1), .second, .val (.int p2), .val (.int p3), .val (.int p4), .val (.int p5), .val (.int nv), .val (.int ng), .val (.int rf), .val (.int fv), .val (.int sv), .val (.int tv), .val (.long u), .second, .val (.long mq), .second, .unset, .unset, .unset, .unset] [(.int (51 : Int32)), (.int (0 : Int32)), (.ref b96), (.ref b96)])) rfl rfl (hb hby at_102)
          have N102 := Fr.snoc X102 Nqa ge_b96
          have A_b96_p102 : own_A Z h102 b96 .byte 26 (fun i => if i = Int32.toNatClampNeg (0 : Int32) then (.int (nar .byte (51 : Int32))) else (fun _ => (.int (0 : Int32))) i) := A_b96.set W102
          have Z0_p102 : n0 ≤ h102.size := Nat.le_trans Z0_p96 (Keep.of_wr W102).1
          refine hst st102 ?_
          have A_b96_p102c : own_A Z h102 b96 .byte 26 (fun j => .int (own_pre G 1 j)) := own_A.congr A_b96_p102 (fun j hj => by rw [show Int32.toNatClampNeg (0 : Int32) = 0 from rfl]; dsimp only; rw [own_pre0 G j]; exact own_pre_step G 0 j _ (by rw [hG]))
          show F T102 (mkF m 103 #[.val (.long q1), .second, .val (.int p2), .val (.int p3), .val (.int p4), .val (.int p5), .val (.int nv), .val (.int ng), .val (.int rf), .val (.int fv), .val (.int sv), .val (.int tv), .val (.long u), .second, .val (.long mq), .second, .unset, .unset, .unset, .unset] [(.ref b96)])
          refine hst (fun t₀ k₀ => XS.dup X102.here hx rfl (hb hby at_103) rfl rfl k₀) ?_
          show F T102 (mkF m 104 #[.val (.long q1), .second, .val (.int p2), .val (.int p3), .val (.int p4), .val (.int p5), .val (.int nv), .val (.int ng), .val (.int rf), .val (.int fv), .val (.int sv), .val (.int tv), .val (.long u), .second, .val (.long mq), .second, .unset, .unset, .unset, .unset] [(.ref b96), (.ref b96)])
          refine hst (fun t₀ k₀ => XS.iconst X102.here hx rfl (hb hby at_104) k₀) ?_
          show F T102 (mkF m 105 #[.val (.long q1), .second, .val (.int p2), .val (.int p3), .val (.int p4), .val (.int p5), .val (.int nv), .val (.int ng), .val (.int rf), .val (.int fv), .val (.int sv), .val (.int tv), .val (.long u), .second, .val (.long mq), .second, .unset, .unset, .unset, .unset] [(.int (1 : Int32)), (.ref b96), (.ref b96)])
          refine hst (fun t₀ k₀ => XS.bipush X102.here hx rfl (hb hby at_105) k₀) ?_
          show F T102 (mkF m 107 #[.val (.long q1), .second, .val (.int p2), .val (.int p3), .val (.int p4), .val (.int p5), .val (.int nv), .val (.int ng), .val (.int rf), .val (.int fv), .val (.int sv), .val (.int tv), .val (.long u), .second, .val (.long mq), .second, .unset, .unset, .unset, .unset] [(.int (51 : Int32)), (.int (1 : Int32)), (.ref b96), (.ref b96)])
          obtain ⟨T107, h107, X107, e107, W107, st107⟩ := own_bastore X102 hx hZ e102 A_b96_p102c (by decide) (g := (mkF m 107 #[.val (.long q1), .second, .val (.int p2), .val (.int p3), .val (.int p4), .val (.int p5), .val (.int nv), .val (.int ng), .val (.int rf), .val (.int fv), .val (.int sv), .val (.int tv), .val (.long u), .second, .val (.long mq), .second, .unset, .unset, .unset, .unset] [(.int (51 : Int32)), (.int (1 : Int32)), (.ref b96), (.ref b96)])) rfl rfl (hb hby at_107)
          have N107 := Fr.snoc X107 N102 ge_b96
          have A_b96_p107 : own_A Z h107 b96 .byte 26 (fun i => if i = Int32.toNatClampNeg (1 : Int32) then (.int (nar .byte (51 : Int32))) else (fun j => .int (own_pre G 1 j)) i) := A_b96_p102c.set W107
          have Z0_p107 : n0 ≤ h107.size := Nat.le_trans Z0_p102 (Keep.of_wr W107).1
          refine hst st107 ?_
          have A_b96_p107c : own_A Z h107 b96 .byte 26 (fun j => .int (own_pre G 2 j)) := own_A.congr A_b96_p107 (fun j hj => by rw [show Int32.toNatClampNeg (1 : Int32) = 1 from rfl]; exact own_pre_step G 1 j _ (by rw [hG]))
          show F T107 (mkF m 108 #[.val (.long q1), .second, .val (.int p2), .val (.int p3), .val (.int p4), .val (.int p5), .val (.int nv), .val (.int ng), .val (.int rf), .val (.int fv), .val (.int sv), .val (.int tv), .val (.long u), .second, .val (.long mq), .second, .unset, .unset, .unset, .unset] [(.ref b96)])
          refine hst (fun t₀ k₀ => XS.dup X107.here hx rfl (hb hby at_108) rfl rfl k₀) ?_
          show F T107 (mkF m 109 #[.val (.long q1), .second, .val (.int p2), .val (.int p3), .val (.int p4), .val (.int p5), .val (.int nv), .val (.int ng), .val (.int rf), .val (.int fv), .val (.int sv), .val (.int tv), .val (.long u), .second, .val (.long mq), .second, .unset, .unset, .unset, .unset] [(.ref b96), (.ref b96)])
          refine hst (fun t₀ k₀ => XS.iconst X107.here hx rfl (hb hby at_109) k₀) ?_
          show F T107 (mkF m 110 #[.val (.long q1), .second, .val (.int p2), .val (.int p3), .val (.int p4), .val (.int p5), .val (.int nv), .val (.int ng), .val (.int rf), .val (.int fv), .val (.int sv), .val (.int tv), .val (.long u), .second, .val (.long mq), .second, .unset, .unset, .unset, .unset] [(.int (2 : Int32)), (.ref b96), (.ref b96)])
          refine hst (fun t₀ k₀ => XS.bipush X107.here hx rfl (hb hby at_110) k₀) ?_
          show F T107 (mkF m 112 #[.val (.long q1), .second, .val (.int p2), .val (.int p3), .val (.int p4), .val (.int p5), .val (.int nv), .val (.int ng), .val (.int rf), .val (.int fv), .val (.int sv), .val (.int tv), .val (.long u), .second, .val (.long mq), .second, .unset, .unset, .unset, .unset] [(.int (51 : Int32)), (.int (2 : Int32)), (.ref b96), (.ref b96)])
          obtain ⟨T112, h112, X112, e112, W112, st112⟩ := own_bastore X107 hx hZ e107 A_b96_p107c (by decide) (g := (mkF m 112 #[.val (.long q1), .second, .val (.int p2), .val (.int p3), .val (.int p4), .val (.int p5), .val (.int nv), .val (.int ng), .val (.int rf), .val (.int fv), .val (.int sv), .val (.int tv), .val (.long u), .second, .val (.long mq), .second, .unset, .unset, .unset, .unset] [(.int (51 : Int32)), (.int (2 : Int32)), (.ref b96), (.ref b96)])) rfl rfl (hb hby at_112)
          have N112 := Fr.snoc X112 N107 ge_b96
          have A_b96_p112 : own_A Z h112 b96 .byte 26 (fun i => if i = Int32.toNatClampNeg (2 : Int32) then (.int (nar .byte (51 : Int32))) else (fun j => .int (own_pre G 2 j)) i) := A_b96_p107c.set W112
          have Z0_p112 : n0 ≤ h112.size := Nat.le_trans Z0_p107 (Keep.of_wr W112).1
          refine hst st112 ?_
          have A_b96_p112c : own_A Z h112 b96 .byte 26 (fun j => .int (own_pre G 3 j)) := own_A.congr A_b96_p112 (fun j hj => by rw [show Int32.toNatClampNeg (2 : Int32) = 2 from rfl]; exact own_pre_step G 2 j _ (by rw [hG]))
          show F T112 (mkF m 113 #[.val (.long q1), .second, .val (.int p2), .val (.int p3), .val (.int p4), .val (.int p5), .val (.int nv), .val (.int ng), .val (.int rf), .val (.int fv), .val (.int sv), .val (.int tv), .val (.long u), .second, .val (.long mq), .second, .unset, .unset, .unset, .unset] [(.ref b96)])
          refine hst (fun t₀ k₀ => XS.dup X112.here hx rfl (hb hby at_113) rfl rfl k₀) ?_
          show F T112 (mkF m 114 #[.val (.long q1), .second, .val (.int p2), .val (.int p3), .val (.int p4), .val (.int p5), .val (.int nv), .val (.int ng), .val (.int rf), .val (.int fv), .val (.int sv), .val (.int tv), .val (.long u), .second, .val (.long mq), .second, .unset, .unset, .unset, .unset] [(.ref b96), (.ref b96)])
          refine hst (fun t₀ k₀ => XS.iconst X112.here hx rfl (hb hby at_114) k₀) ?_
          show F T112 (mkF m 115 #[.val (.long q1), .second, .val (.int p2), .val (.int p3), .val (.int p4), .val (.int p5), .val (.int nv), .val (.int ng), .val (.int rf), .val (.int fv), .val (.int sv), .val (.int tv), .val (.long u), .second, .val (.long mq), .second, .unset, .unset, .unset, .unset] [(.int (3 : Int32)), (.ref b96), (.ref b96)])
          refine hst (fun t₀ k₀ => XS.bipush X112.here hx rfl (hb hby at_115) k₀) ?_
          show F T112 (mkF m 117 #[.val (.long q1), .second, .val (.int p2), .val (.int p3), .val (.int p4), .val (.int p5), .val (.int nv), .val (.int ng), .val (.int rf), .val (.int fv), .val (.int sv), .val (.int tv), .val (.long u), .second, .val (.long mq), .second, .unset, .unset, .unset, .unset] [(.int (51 : Int32)), (.int (3 : Int32)), (.ref b96), (.ref b96)])
          obtain ⟨T117, h117, X117, e117, W117, st117⟩ := own_bastore X112 hx hZ e112 A_b96_p112c (by decide) (g := (mkF m 117 #[.val (.long q1), .second, .val (.int p2), .val (.int p3), .val (.int p4), .val (.int p5), .val (.int nv), .val (.int ng), .val (.int rf), .val (.int fv), .val (.int sv), .val (.int tv), .val (.long u), .second, .val (.long mq), .second, .unset, .unset, .unset, .unset] [(.int (51 : Int32)), (.int (3 : Int32)), (.ref b96), (.ref b96)])) rfl rfl (hb hby at_117)
          have N117 := Fr.snoc X117 N112 ge_b96
          have A_b96_p117 : own_A Z h117 b96 .byte 26 (fun i => if i = Int32.toNatClampNeg (3 : Int32) then (.int (nar .byte (51 : Int32))) else (fun j => .int (own_pre G 3 j)) i) := A_b96_p112c.set W117
          have Z0_p117 : n0 ≤ h117.size := Nat.le_trans Z0_p112 (Keep.of_wr W117).1
          refine hst st117 ?_
          have A_b96_p117c : own_A Z h117 b96 .byte 26 (fun j => .int (own_pre G 4 j)) := own_A.congr A_b96_p117 (fun j hj => by rw [show Int32.toNatClampNeg (3 : Int32) = 3 from rfl]; exact own_pre_step G 3 j _ (by rw [hG]))
          show F T117 (mkF m 118 #[.val (.long q1), .second, .val (.int p2), .val (.int p3), .val (.int p4), .val (.int p5), .val (.int nv), .val (.int ng), .val (.int rf), .val (.int fv), .val (.int sv), .val (.int tv), .val (.long u), .second, .val (.long mq), .second, .unset, .unset, .unset, .unset] [(.ref b96)])
          refine hst (fun t₀ k₀ => XS.dup X117.here hx rfl (hb hby at_118) rfl rfl k₀) ?_
          show F T117 (mkF m 119 #[.val (.long q1), .second, .val (.int p2), .val (.int p3), .val (.int p4), .val (.int p5), .val (.int nv), .val (.int ng), .val (.int rf), .val (.int fv), .val (.int sv), .val (.int tv), .val (.long u), .second, .val (.long mq), .second, .unset, .unset, .unset, .unset] [(.ref b96), (.ref b96)])
          refine hst (fun t₀ k₀ => XS.iconst X117.here hx rfl (hb hby at_119) k₀) ?_
          show F T117 (mkF m 120 #[.val (.long q1), .second, .val (.int p2), .val (.int p3), .val (.int p4), .val (.int p5), .val (.int nv), .val (.int ng), .val (.int rf), .val (.int fv), .val (.int sv), .val (.int tv), .val (.long u), .second, .val (.long mq), .second, .unset, .unset, .unset, .unset] [(.int (4 : Int32)), (.ref b96), (.ref b96)])
          refine hst (fun t₀ k₀ => XS.bipush X117.here hx rfl (hb hby at_120) k₀) ?_
          show F T117 (mkF m 122 #[.val (.long q1), .second, .val (.int p2), .val (.int p3), .val (.int p4), .val (.int p5), .val (.int nv), .val (.int ng), .val (.int rf), .val (.int fv), .val (.int sv), .val (.int tv), .val (.long u), .second, .val (.long mq), .second, .unset, .unset, .unset, .unset] [(.int (51 : Int32)), (.int (4 : Int32)), (.ref b96), (.ref b96)])
          obtain ⟨T122, h122, X122, e122, W122, st122⟩ := own_bastore X117 hx hZ e117 A_b96_p117c (by decide) (g := (mkF m 122 #[.val (.long q1), .second, .val (.int p2), .val (.int p3), .val (.int p4), .val (.int p5), .val (.int nv), .val (.int ng), .val (.int rf), .val (.int fv), .val (.int sv), .val (.int tv), .val (.long u), .second, .val (.long mq), .second, .unset, .unset, .unset, .unset] [(.int (51 : Int32)), (.int (4 : Int32)), (.ref b96), (.ref b96)])) rfl rfl (hb hby at_122)
          have N122 := Fr.snoc X122 N117 ge_b96
          have A_b96_p122 : own_A Z h122 b96 .byte 26 (fun i => if i = Int32.toNatClampNeg (4 : Int32) then (.int (nar .byte (51 : Int32))) else (fun j => .int (own_pre G 4 j)) i) := A_b96_p117c.set W122
          have Z0_p122 : n0 ≤ h122.size := Nat.le_trans Z0_p117 (Keep.of_wr W122).1
          refine hst st122 ?_
          have A_b96_p122c : own_A Z h122 b96 .byte 26 (fun j => .int (own_pre G 5 j)) := own_A.congr A_b96_p122 (fun j hj => by rw [show Int32.toNatClampNeg (4 : Int32) = 4 from rfl]; exact own_pre_step G 4 j _ (by rw [hG]))
          show F T122 (mkF m 123 #[.val (.long q1), .second, .val (.int p2), .val (.int p3), .val (.int p4), .val (.int p5), .val (.int nv), .val (.int ng), .val (.int rf), .val (.int fv), .val (.int sv), .val (.int tv), .val (.long u), .second, .val (.long mq), .second, .unset, .unset, .unset, .unset] [(.ref b96)])
          refine hst (fun t₀ k₀ => XS.dup X122.here hx rfl (hb hby at_123) rfl rfl k₀) ?_
          show F T122 (mkF m 124 #[.val (.long q1), .second, .val (.int p2), .val (.int p3), .val (.int p4), .val (.int p5), .val (.int nv), .val (.int ng), .val (.int rf), .val (.int fv), .val (.int sv), .val (.int tv), .val (.long u), .second, .val (.long mq), .second, .unset, .unset, .unset, .unset] [(.ref b96), (.ref b96)])
          refine hst (fun t₀ k₀ => XS.iconst X122.here hx rfl (hb hby at_124) k₀) ?_
          show F T122 (mkF m 125 #[.val (.long q1), .second, .val (.int p2), .val (.int p3), .val (.int p4), .val (.int p5), .val (.int nv), .val (.int ng), .val (.int rf), .val (.int fv), .val (.int sv), .val (.int tv), .val (.long u), .second, .val (.long mq), .second, .unset, .unset, .unset, .unset] [(.int (5 : Int32)), (.ref b96), (.ref b96)])
          refine hst (fun t₀ k₀ => XS.bipush X122.here hx rfl (hb hby at_125) k₀) ?_
          show F T122 (mkF m 127 #[.val (.long q1), .second, .val (.int p2), .val (.int p3), .val (.int p4), .val (.int p5), .val (.int nv), .val (.int ng), .val (.int rf), .val (.int fv), .val (.int sv), .val (.int tv), .val (.long u), .second, .val (.long mq), .second, .unset, .unset, .unset, .unset] [(.int (51 : Int32)), (.int (5 : Int32)), (.ref b96), (.ref b96)])
          obtain ⟨T127, h127, X127, e127, W127, st127⟩ := own_bastore X122 hx hZ e122 A_b96_p122c (by decide) (g := (mkF m 127 #[.val (.long q1), .second, .val (.int p2), .val (.int p3), .val (.int p4), .val (.int p5), .val (.int nv), .val (.int ng), .val (.int rf), .val (.int fv), .val (.int sv), .val (.int tv), .val (.long u), .second, .val (.long mq), .second, .unset, .unset, .unset, .unset] [(.int (51 : Int32)), (.int (5 : Int32)), (.ref b96), (.ref b96)])) rfl rfl (hb hby at_127)
          have N127 := Fr.snoc X127 N122 ge_b96
          have A_b96_p127 : own_A Z h127 b96 .byte 26 (fun i => if i = Int32.toNatClampNeg (5 : Int32) then (.int (nar .byte (51 : Int32))) else (fun j => .int (own_pre G 5 j)) i) := A_b96_p122c.set W127
          have Z0_p127 : n0 ≤ h127.size := Nat.le_trans Z0_p122 (Keep.of_wr W127).1
          refine hst st127 ?_
          have A_b96_p127c : own_A Z h127 b96 .byte 26 (fun j => .int (own_pre G 6 j)) := own_A.congr A_b96_p127 (fun j hj => by rw [show Int32.toNatClampNeg (5 : Int32) = 5 from rfl]; exact own_pre_step G 5 j _ (by rw [hG]))
          show F T127 (mkF m 128 #[.val (.long q1), .second, .val (.int p2), .val (.int p3), .val (.int p4), .val (.int p5), .val (.int nv), .val (.int ng), .val (.int rf), .val (.int fv), .val (.int sv), .val (.int tv), .val (.long u), .second, .val (.long mq), .second, .unset, .unset, .unset, .unset] [(.ref b96)])
          refine hst (fun t₀ k₀ => XS.dup X127.here hx rfl (hb hby at_128) rfl rfl k₀) ?_
          show F T127 (mkF m 129 #[.val (.long q1), .second, .val (.int p2), .val (.int p3), .val (.int p4), .val (.int p5), .val (.int nv), .val (.int ng), .val (.int rf), .val (.int fv), .val (.int sv), .val (.int tv), .val (.long u), .second, .val (.long mq), .second, .unset, .unset, .unset, .unset] [(.ref b96), (.ref b96)])
          refine hst (fun t₀ k₀ => XS.bipush X127.here hx rfl (hb hby at_129) k₀) ?_
          show F T127 (mkF m 131 #[.val (.long q1), .second, .val (.int p2), .val (.int p3), .val (.int p4), .val (.int p5), .val (.int nv), .val (.int ng), .val (.int rf), .val (.int fv), .val (.int sv), .val (.int tv), .val (.long u), .second, .val (.long mq), .second, .unset, .unset, .unset, .unset] [(.int (6 : Int32)), (.ref b96), (.ref b96)])
          refine hst (fun t₀ k₀ => XS.bipush X127.here hx rfl (hb hby at_131) k₀) ?_
          show F T127 (mkF m 133 #[.val (.long q1), .second, .val (.int p2), .val (.int p3), .val (.int p4), .val (.int p5), .val (.int nv), .val (.int ng), .val (.int rf), .val (.int fv), .val (.int sv), .val (.int tv), .val (.long u), .second, .val (.long mq), .second, .unset, .unset, .unset, .unset] [(.int (51 : Int32)), (.int (6 : Int32)), (.ref b96), (.ref b96)])
          obtain ⟨T133, h133, X133, e133, W133, st133⟩ := own_bastore X127 hx hZ e127 A_b96_p127c (by decide) (g := (mkF m 133 #[.val (.long q1), .second, .val (.int p2), .val (.int p3), .val (.int p4), .val (.int p5), .val (.int nv), .val (.int ng), .val (.int rf), .val (.int fv), .val (.int sv), .val (.int tv), .val (.long u), .second, .val (.long mq), .second, .unset, .unset, .unset, .unset] [(.int (51 : Int32)), (.int (6 : Int32)), (.ref b96), (.ref b96)])) rfl rfl (hb hby at_133)
          have N133 := Fr.snoc X133 N127 ge_b96
          have A_b96_p133 : own_A Z h133 b96 .byte 26 (fun i => if i = Int32.toNatClampNeg (6 : Int32) then (.int (nar .byte (51 : Int32))) else (fun j => .int (own_pre G 6 j)) i) := A_b96_p127c.set W133
          have Z0_p133 : n0 ≤ h133.size := Nat.le_trans Z0_p127 (Keep.of_wr W133).1
          refine hst st133 ?_
          have A_b96_p133c : own_A Z h133 b96 .byte 26 (fun j => .int (own_pre G 7 j)) := own_A.congr A_b96_p133 (fun j hj => by rw [show Int32.toNatClampNeg (6 : Int32) = 6 from rfl]; exact own_pre_step G 6 j _ (by rw [hG]))
          show F T133 (mkF m 134 #[.val (.long q1), .second, .val (.int p2), .val (.int p3), .val (.int p4), .val (.int p5), .val (.int nv), .val (.int ng), .val (.int rf), .val (.int fv), .val (.int sv), .val (.int tv), .val (.long u), .second, .val (.long mq), .second, .unset, .unset, .unset, .unset] [(.ref b96)])
          refine hst (fun t₀ k₀ => XS.dup X133.here hx rfl (hb hby at_134) rfl rfl k₀) ?_
          show F T133 (mkF m 135 #[.val (.long q1), .second, .val (.int p2), .val (.int p3), .val (.int p4), .val (.int p5), .val (.int nv), .val (.int ng), .val (.int rf), .val (.int fv), .val (.int sv), .val (.int tv), .val (.long u), .second, .val (.long mq), .second, .unset, .unset, .unset, .unset] [(.ref b96), (.ref b96)])
          refine hst (fun t₀ k₀ => XS.bipush X133.here hx rfl (hb hby at_135) k₀) ?_
          show F T133 (mkF m 137 #[.val (.long q1), .second, .val (.int p2), .val (.int p3), .val (.int p4), .val (.int p5), .val (.int nv), .val (.int ng), .val (.int rf), .val (.int fv), .val (.int sv), .val (.int tv), .val (.long u), .second, .val (.long mq), .second, .unset, .unset, .unset, .unset] [(.int (7 : Int32)), (.ref b96), (.ref b96)])
          refine hst (fun t₀ k₀ => XS.bipush X133.here hx rfl (hb hby at_137) k₀) ?_
          show F T133 (mkF m 139 #[.val (.long q1), .second, .val (.int p2), .val (.int p3), .val (.int p4), .val (.int p5), .val (.int nv), .val (.int ng), .val (.int rf), .val (.int fv), .val (.int sv), .val (.int tv), .val (.long u), .second, .val (.long mq), .second, .unset, .unset, .unset, .unset] [(.int (51 : Int32)), (.int (7 : Int32)), (.ref b96), (.ref b96)])
          obtain ⟨T139, h139, X139, e139, W139, st139⟩ := own_bastore X133 hx hZ e133 A_b96_p133c (by decide) (g := (mkF m 139 #[.val (.long q1), .second, .val (.int p2), .val (.int p3), .val (.int p4), .val (.int p5), .val (.int nv), .val (.int ng), .val (.int rf), .val (.int fv), .val (.int sv), .val (.int tv), .val (.long u), .second, .val (.long mq), .second, .unset, .unset, .unset, .unset] [(.int (51 : Int32)), (.int (7 : Int32)), (.ref b96), (.ref b96)])) rfl rfl (hb hby at_139)
          have N139 := Fr.snoc X139 N133 ge_b96
          have A_b96_p139 : own_A Z h139 b96 .byte 26 (fun i => if i = Int32.toNatClampNeg (7 : Int32) then (.int (nar .byte (51 : Int32))) else (fun j => .int (own_pre G 7 j)) i) := A_b96_p133c.set W139
          have Z0_p139 : n0 ≤ h139.size := Nat.le_trans Z0_p133 (Keep.of_wr W139).1
          refine hst st139 ?_
          have A_b96_p139c : own_A Z h139 b96 .byte 26 (fun j => .int (own_pre G 8 j)) := own_A.congr A_b96_p139 (fun j hj => by rw [show Int32.toNatClampNeg (7 : Int32) = 7 from rfl]; exact own_pre_step G 7 j _ (by rw [hG]))
          show F T139 (mkF m 140 #[.val (.long q1), .second, .val (.int p2), .val (.int p3), .val (.int p4), .val (.int p5), .val (.int nv), .val (.int ng), .val (.int rf), .val (.int fv), .val (.int sv), .val (.int tv), .val (.long u), .second, .val (.long mq), .second, .unset, .unset, .unset, .unset] [(.ref b96)])
          refine hst (fun t₀ k₀ => XS.dup X139.here hx rfl (hb hby at_140) rfl rfl k₀) ?_
          show F T139 (mkF m 141 #[.val (.long q1), .second, .val (.int p2), .val (.int p3), .val (.int p4), .val (.int p5), .val (.int nv), .val (.int ng), .val (.int rf), .val (.int fv), .val (.int sv), .val (.int tv), .val (.long u), .second, .val (.long mq), .second, .unset, .unset, .unset, .unset] [(.ref b96), (.ref b96)])
          refine hst (fun t₀ k₀ => XS.bipush X139.here hx rfl (hb hby at_141) k₀) ?_
          show F T139 (mkF m 143 #[.val (.long q1), .second, .val (.int p2), .val (.int p3), .val (.int p4), .val (.int p5), .val (.int nv), .val (.int ng), .val (.int rf), .val (.int fv), .val (.int sv), .val (.int tv), .val (.long u), .second, .val (.long mq), .second, .unset, .unset, .unset, .unset] [(.int (8 : Int32)), (.ref b96), (.ref b96)])
          refine hst (fun t₀ k₀ => XS.bipush X139.here hx rfl (hb hby at_143) k₀) ?_
          show F T139 (mkF m 145 #[.val (.long q1), .second, .val (.int p2), .val (.int p3), .val (.int p4), .val (.int p5), .val (.int nv), .val (.int ng), .val (.int rf), .val (.int fv), .val (.int sv), .val (.int tv), .val (.long u), .second, .val (.long mq), .second, .unset, .unset, .unset, .unset] [(.int (51 : Int32)), (.int (8 : Int32)), (.ref b96), (.ref b96)])
          obtain ⟨T145, h145, X145, e145, W145, st145⟩ := own_bastore X139 hx hZ e139 A_b96_p139c (by decide) (g := (mkF m 145 #[.val (.long q1), .second, .val (.int p2), .val (.int p3), .val (.int p4), .val (.int p5), .val (.int nv), .val (.int ng), .val (.int rf), .val (.int fv), .val (.int sv), .val (.int tv), .val (.long u), .second, .val (.long mq), .second, .unset, .unset, .unset, .unset] [(.int (51 : Int32)), (.int (8 : Int32)), (.ref b96), (.ref b96)])) rfl rfl (hb hby at_145)
          have N145 := Fr.snoc X145 N139 ge_b96
          have A_b96_p145 : own_A Z h145 b96 .byte 26 (fun i => if i = Int32.toNatClampNeg (8 : Int32) then (.int (nar .byte (51 : Int32))) else (fun j => .int (own_pre G 8 j)) i) := A_b96_p139c.set W145
          have Z0_p145 : n0 ≤ h145.size := Nat.le_trans Z0_p139 (Keep.of_wr W145).1
          refine hst st145 ?_
          have A_b96_p145c : own_A Z h145 b96 .byte 26 (fun j => .int (own_pre G 9 j)) := own_A.congr A_b96_p145 (fun j hj => by rw [show Int32.toNatClampNeg (8 : Int32) = 8 from rfl]; exact own_pre_step G 8 j _ (by rw [hG]))
          show F T145 (mkF m 146 #[.val (.long q1), .second, .val (.int p2), .val (.int p3), .val (.int p4), .val (.int p5), .val (.int nv), .val (.int ng), .val (.int rf), .val (.int fv), .val (.int sv), .val (.int tv), .val (.long u), .second, .val (.long mq), .second, .unset, .unset, .unset, .unset] [(.ref b96)])
          refine hst (fun t₀ k₀ => XS.dup X145.here hx rfl (hb hby at_146) rfl rfl k₀) ?_
          show F T145 (mkF m 147 #[.val (.long q1), .second, .val (.int p2), .val (.int p3), .val (.int p4), .val (.int p5), .val (.int nv), .val (.int ng), .val (.int rf), .val (.int fv), .val (.int sv), .val (.int tv), .val (.long u), .second, .val (.long mq), .second, .unset, .unset, .unset, .unset] [(.ref b96), (.ref b96)])
          refine hst (fun t₀ k₀ => XS.bipush X145.here hx rfl (hb hby at_147) k₀) ?_
          show F T145 (mkF m 149 #[.val (.long q1), .second, .val (.int p2), .val (.int p3), .val (.int p4), .val (.int p5), .val (.int nv), .val (.int ng), .val (.int rf), .val (.int fv), .val (.int sv), .val (.int tv), .val (.long u), .second, .val (.long mq), .second, .unset, .unset, .unset, .unset] [(.int (9 : Int32)), (.ref b96), (.ref b96)])
          refine hst (fun t₀ k₀ => XS.bipush X145.here hx rfl (hb hby at_149) k₀) ?_
          show F T145 (mkF m 151 #[.val (.long q1), .second, .val (.int p2), .val (.int p3), .val (.int p4), .val (.int p5), .val (.int nv), .val (.int ng), .val (.int rf), .val (.int fv), .val (.int sv), .val (.int tv), .val (.long u), .second, .val (.long mq), .second, .unset, .unset, .unset, .unset] [(.int (51 : Int32)), (.int (9 : Int32)), (.ref b96), (.ref b96)])
          obtain ⟨T151, h151, X151, e151, W151, st151⟩ := own_bastore X145 hx hZ e145 A_b96_p145c (by decide) (g := (mkF m 151 #[.val (.long q1), .second, .val (.int p2), .val (.int p3), .val (.int p4), .val (.int p5), .val (.int nv), .val (.int ng), .val (.int rf), .val (.int fv), .val (.int sv), .val (.int tv), .val (.long u), .second, .val (.long mq), .second, .unset, .unset, .unset, .unset] [(.int (51 : Int32)), (.int (9 : Int32)), (.ref b96), (.ref b96)])) rfl rfl (hb hby at_151)
          have N151 := Fr.snoc X151 N145 ge_b96
          have A_b96_p151 : own_A Z h151 b96 .byte 26 (fun i => if i = Int32.toNatClampNeg (9 : Int32) then (.int (nar .byte (51 : Int32))) else (fun j => .int (own_pre G 9 j)) i) := A_b96_p145c.set W151
          have Z0_p151 : n0 ≤ h151.size := Nat.le_trans Z0_p145 (Keep.of_wr W151).1
          refine hst st151 ?_
          have A_b96_p151c : own_A Z h151 b96 .byte 26 (fun j => .int (own_pre G 10 j)) := own_A.congr A_b96_p151 (fun j hj => by rw [show Int32.toNatClampNeg (9 : Int32) = 9 from rfl]; exact own_pre_step G 9 j _ (by rw [hG]))
          show F T151 (mkF m 152 #[.val (.long q1), .second, .val (.int p2), .val (.int p3), .val (.int p4), .val (.int p5), .val (.int nv), .val (.int ng), .val (.int rf), .val (.int fv), .val (.int sv), .val (.int tv), .val (.long u), .second, .val (.long mq), .second, .unset, .unset, .unset, .unset] [(.ref b96)])
          refine hst (fun t₀ k₀ => XS.dup X151.here hx rfl (hb hby at_152) rfl rfl k₀) ?_
          show F T151 (mkF m 153 #[.val (.long q1), .second, .val (.int p2), .val (.int p3), .val (.int p4), .val (.int p5), .val (.int nv), .val (.int ng), .val (.int rf), .val (.int fv), .val (.int sv), .val (.int tv), .val (.long u), .second, .val (.long mq), .second, .unset, .unset, .unset, .unset] [(.ref b96), (.ref b96)])
          refine hst (fun t₀ k₀ => XS.bipush X151.here hx rfl (hb hby at_153) k₀) ?_
          show F T151 (mkF m 155 #[.val (.long q1), .second, .val (.int p2), .val (.int p3), .val (.int p4), .val (.int p5), .val (.int nv), .val (.int ng), .val (.int rf), .val (.int fv), .val (.int sv), .val (.int tv), .val (.long u), .second, .val (.long mq), .second, .unset, .unset, .unset, .unset] [(.int (10 : Int32)), (.ref b96), (.ref b96)])
          refine hst (fun t₀ k₀ => XS.bipush X151.here hx rfl (hb hby at_155) k₀) ?_
          show F T151 (mkF m 157 #[.val (.long q1), .second, .val (.int p2), .val (.int p3), .val (.int p4), .val (.int p5), .val (.int nv), .val (.int ng), .val (.int rf), .val (.int fv), .val (.int sv), .val (.int tv), .val (.long u), .second, .val (.long mq), .second, .unset, .unset, .unset, .unset] [(.int (51 : Int32)), (.int (10 : Int32)), (.ref b96), (.ref b96)])
          obtain ⟨T157, h157, X157, e157, W157, st157⟩ := own_bastore X151 hx hZ e151 A_b96_p151c (by decide) (g := (mkF m 157 #[.val (.long q1), .second, .val (.int p2), .val (.int p3), .val (.int p4), .val (.int p5), .val (.int nv), .val (.int ng), .val (.int rf), .val (.int fv), .val (.int sv), .val (.int tv), .val (.long u), .second, .val (.long mq), .second, .unset, .unset, .unset, .unset] [(.int (51 : Int32)), (.int (10 : Int32)), (.ref b96), (.ref b96)])) rfl rfl (hb hby at_157)
          have N157 := Fr.snoc X157 N151 ge_b96
          have A_b96_p157 : own_A Z h157 b96 .byte 26 (fun i => if i = Int32.toNatClampNeg (10 : Int32) then (.int (nar .byte (51 : Int32))) else (fun j => .int (own_pre G 10 j)) i) := A_b96_p151c.set W157
          have Z0_p157 : n0 ≤ h157.size := Nat.le_trans Z0_p151 (Keep.of_wr W157).1
          refine hst st157 ?_
          have A_b96_p157c : own_A Z h157 b96 .byte 26 (fun j => .int (own_pre G 11 j)) := own_A.congr A_b96_p157 (fun j hj => by rw [show Int32.toNatClampNeg (10 : Int32) = 10 from rfl]; exact own_pre_step G 10 j _ (by rw [hG]))
          show F T157 (mkF m 158 #[.val (.long q1), .second, .val (.int p2), .val (.int p3), .val (.int p4), .val (.int p5), .val (.int nv), .val (.int ng), .val (.int rf), .val (.int fv), .val (.int sv), .val (.int tv), .val (.long u), .second, .val (.long mq), .second, .unset, .unset, .unset, .unset] [(.ref b96)])
          refine hst (fun t₀ k₀ => XS.dup X157.here hx rfl (hb hby at_158) rfl rfl k₀) ?_
          show F T157 (mkF m 159 #[.val (.long q1), .second, .val (.int p2), .val (.int p3), .val (.int p4), .val (.int p5), .val (.int nv), .val (.int ng), .val (.int rf), .val (.int fv), .val (.int sv), .val (.int tv), .val (.long u), .second, .val (.long mq), .second, .unset, .unset, .unset, .unset] [(.ref b96), (.ref b96)])
          refine hst (fun t₀ k₀ => XS.bipush X157.here hx rfl (hb hby at_159) k₀) ?_
          show F T157 (mkF m 161 #[.val (.long q1), .second, .val (.int p2), .val (.int p3), .val (.int p4), .val (.int p5), .val (.int nv), .val (.int ng), .val (.int rf), .val (.int fv), .val (.int sv), .val (.int tv), .val (.long u), .second, .val (.long mq), .second, .unset, .unset, .unset, .unset] [(.int (11 : Int32)), (.ref b96), (.ref b96)])
          refine hst (fun t₀ k₀ => XS.bipush X157.here hx rfl (hb hby at_161) k₀) ?_
          show F T157 (mkF m 163 #[.val (.long q1), .second, .val (.int p2), .val (.int p3), .val (.int p4), .val (.int p5), .val (.int nv), .val (.int ng), .val (.int rf), .val (.int fv), .val (.int sv), .val (.int tv), .val (.long u), .second, .val (.long mq), .second, .unset, .unset, .unset, .unset] [(.int (51 : Int32)), (.int (11 : Int32)), (.ref b96), (.ref b96)])
          obtain ⟨T163, h163, X163, e163, W163, st163⟩ := own_bastore X157 hx hZ e157 A_b96_p157c (by decide) (g := (mkF m 163 #[.val (.long q1), .second, .val (.int p2), .val (.int p3), .val (.int p4), .val (.int p5), .val (.int nv), .val (.int ng), .val (.int rf), .val (.int fv), .val (.int sv), .val (.int tv), .val (.long u), .second, .val (.long mq), .second, .unset, .unset, .unset, .unset] [(.int (51 : Int32)), (.int (11 : Int32)), (.ref b96), (.ref b96)])) rfl rfl (hb hby at_163)
          have N163 := Fr.snoc X163 N157 ge_b96
          have A_b96_p163 : own_A Z h163 b96 .byte 26 (fun i => if i = Int32.toNatClampNeg (11 : Int32) then (.int (nar .byte (51 : Int32))) else (fun j => .int (own_pre G 11 j)) i) := A_b96_p157c.set W163
          have Z0_p163 : n0 ≤ h163.size := Nat.le_trans Z0_p157 (Keep.of_wr W163).1
          refine hst st163 ?_
          have A_b96_p163c : own_A Z h163 b96 .byte 26 (fun j => .int (own_pre G 12 j)) := own_A.congr A_b96_p163 (fun j hj => by rw [show Int32.toNatClampNeg (11 : Int32) = 11 from rfl]; exact own_pre_step G 11 j _ (by rw [hG]))
          show F T163 (mkF m 164 #[.val (.long q1), .second, .val (.int p2), .val (.int p3), .val (.int p4), .val (.int p5), .val (.int nv), .val (.int ng), .val (.int rf), .val (.int fv), .val (.int sv), .val (.int tv), .val (.long u), .second, .val (.long mq), .second, .unset, .unset, .unset, .unset] [(.ref b96)])
          refine hst (fun t₀ k₀ => XS.dup X163.here hx rfl (hb hby at_164) rfl rfl k₀) ?_
          show F T163 (mkF m 165 #[.val (.long q1), .second, .val (.int p2), .val (.int p3), .val (.int p4), .val (.int p5), .val (.int nv), .val (.int ng), .val (.int rf), .val (.int fv), .val (.int sv), .val (.int tv), .val (.long u), .second, .val (.long mq), .second, .unset, .unset, .unset, .unset] [(.ref b96), (.ref b96)])
          refine hst (fun t₀ k₀ => XS.bipush X163.here hx rfl (hb hby at_165) k₀) ?_
          show F T163 (mkF m 167 #[.val (.long q1), .second, .val (.int p2), .val (.int p3), .val (.int p4), .val (.int p5), .val (.int nv), .val (.int ng), .val (.int rf), .val (.int fv), .val (.int sv), .val (.int tv), .val (.long u), .second, .val (.long mq), .second, .unset, .unset, .unset, .unset] [(.int (12 : Int32)), (.ref b96), (.ref b96)])
          refine hst (fun t₀ k₀ => XS.bipush X163.here hx rfl (hb hby at_167) k₀) ?_
          show F T163 (mkF m 169 #[.val (.long q1), .second, .val (.int p2), .val (.int p3), .val (.int p4), .val (.int p5), .val (.int nv), .val (.int ng), .val (.int rf), .val (.int fv), .val (.int sv), .val (.int tv), .val (.long u), .second, .val (.long mq), .second, .unset, .unset, .unset, .unset] [(.int (51 : Int32)), (.int (12 : Int32)), (.ref b96), (.ref b96)])
          obtain ⟨T169, h169, X169, e169, W169, st169⟩ := own_bastore X163 hx hZ e163 A_b96_p163c (by decide) (g := (mkF m 169 #[.val (.long q1), .second, .val (.int p2), .val (.int p3), .val (.int p4), .val (.int p5), .val (.int nv), .val (.int ng), .val (.int rf), .val (.int fv), .val (.int sv), .val (.int tv), .val (.long u), .second, .val (.long mq), .second, .unset, .unset, .unset, .unset] [(.int (51 : Int32)), (.int (12 : Int32)), (.ref b96), (.ref b96)])) rfl rfl (hb hby at_169)
          have N169 := Fr.snoc X169 N163 ge_b96
          have A_b96_p169 : own_A Z h169 b96 .byte 26 (fun i => if i = Int32.toNatClampNeg (12 : Int32) then (.int (nar .byte (51 : Int32))) else (fun j => .int (own_pre G 12 j)) i) := A_b96_p163c.set W169
          have Z0_p169 : n0 ≤ h169.size := Nat.le_trans Z0_p163 (Keep.of_wr W169).1
          refine hst st169 ?_
          have A_b96_p169c : own_A Z h169 b96 .byte 26 (fun j => .int (own_pre G 13 j)) := own_A.congr A_b96_p169 (fun j hj => by rw [show Int32.toNatClampNeg (12 : Int32) = 12 from rfl]; exact own_pre_step G 12 j _ (by rw [hG]))
          show F T169 (mkF m 170 #[.val (.long q1), .second, .val (.int p2), .val (.int p3), .val (.int p4), .val (.int p5), .val (.int nv), .val (.int ng), .val (.int rf), .val (.int fv), .val (.int sv), .val (.int tv), .val (.long u), .second, .val (.long mq), .second, .unset, .unset, .unset, .unset] [(.ref b96)])
          refine hst (fun t₀ k₀ => XS.dup X169.here hx rfl (hb hby at_170) rfl rfl k₀) ?_
          show F T169 (mkF m 171 #[.val (.long q1), .second, .val (.int p2), .val (.int p3), .val (.int p4), .val (.int p5), .val (.int nv), .val (.int ng), .val (.int rf), .val (.int fv), .val (.int sv), .val (.int tv), .val (.long u), .second, .val (.long mq), .second, .unset, .unset, .unset, .unset] [(.ref b96), (.ref b96)])
          refine hst (fun t₀ k₀ => XS.bipush X169.here hx rfl (hb hby at_171) k₀) ?_
          show F T169 (mkF m 173 #[.val (.long q1), .second, .val (.int p2), .val (.int p3), .val (.int p4), .val (.int p5), .val (.int nv), .val (.int ng), .val (.int rf), .val (.int fv), .val (.int sv), .val (.int tv), .val (.long u), .second, .val (.long mq), .second, .unset, .unset, .unset, .unset] [(.int (13 : Int32)), (.ref b96), (.ref b96)])
          refine hst (fun t₀ k₀ => XS.bipush X169.here hx rfl (hb hby at_173) k₀) ?_
          show F T169 (mkF m 175 #[.val (.long q1), .second, .val (.int p2), .val (.int p3), .val (.int p4), .val (.int p5), .val (.int nv), .val (.int ng), .val (.int rf), .val (.int fv), .val (.int sv), .val (.int tv), .val (.long u), .second, .val (.long mq), .second, .unset, .unset, .unset, .unset] [(.int (51 : Int32)), (.int (13 : Int32)), (.ref b96), (.ref b96)])
          obtain ⟨T175, h175, X175, e175, W175, st175⟩ := own_bastore X169 hx hZ e169 A_b96_p169c (by decide) (g := (mkF m 175 #[.val (.long q1), .second, .val (.int p2), .val (.int p3), .val (.int p4), .val (.int p5), .val (.int nv), .val (.int ng), .val (.int rf), .val (.int fv), .val (.int sv), .val (.int tv), .val (.long u), .second, .val (.long mq), .second, .unset, .unset, .unset, .unset] [(.int (51 : Int32)), (.int (13 : Int32)), (.ref b96), (.ref b96)])) rfl rfl (hb hby at_175)
          have N175 := Fr.snoc X175 N169 ge_b96
          have A_b96_p175 : own_A Z h175 b96 .byte 26 (fun i => if i = Int32.toNatClampNeg (13 : Int32) then (.int (nar .byte (51 : Int32))) else (fun j => .int (own_pre G 13 j)) i) := A_b96_p169c.set W175
          have Z0_p175 : n0 ≤ h175.size := Nat.le_trans Z0_p169 (Keep.of_wr W175).1
          refine hst st175 ?_
          have A_b96_p175c : own_A Z h175 b96 .byte 26 (fun j => .int (own_pre G 14 j)) := own_A.congr A_b96_p175 (fun j hj => by rw [show Int32.toNatClampNeg (13 : Int32) = 13 from rfl]; exact own_pre_step G 13 j _ (by rw [hG]))
          show F T175 (mkF m 176 #[.val (.long q1), .second, .val (.int p2), .val (.int p3), .val (.int p4), .val (.int p5), .val (.int nv), .val (.int ng), .val (.int rf), .val (.int fv), .val (.int sv), .val (.int tv), .val (.long u), .second, .val (.long mq), .second, .unset, .unset, .unset, .unset] [(.ref b96)])
          refine hst (fun t₀ k₀ => XS.dup X175.here hx rfl (hb hby at_176) rfl rfl k₀) ?_
          show F T175 (mkF m 177 #[.val (.long q1), .second, .val (.int p2), .val (.int p3), .val (.int p4), .val (.int p5), .val (.int nv), .val (.int ng), .val (.int rf), .val (.int fv), .val (.int sv), .val (.int tv), .val (.long u), .second, .val (.long mq), .second, .unset, .unset, .unset, .unset] [(.ref b96), (.ref b96)])
          refine hst (fun t₀ k₀ => XS.bipush X175.here hx rfl (hb hby at_177) k₀) ?_
          show F T175 (mkF m 179 #[.val (.long q1), .second, .val (.int p2), .val (.int p3), .val (.int p4), .val (.int p5), .val (.int nv), .val (.int ng), .val (.int rf), .val (.int fv), .val (.int sv), .val (.int tv), .val (.long u), .second, .val (.long mq), .second, .unset, .unset, .unset, .unset] [(.int (14 : Int32)), (.ref b96), (.ref b96)])
          refine hst (fun t₀ k₀ => XS.bipush X175.here hx rfl (hb hby at_179) k₀) ?_
          show F T175 (mkF m 181 #[.val (.long q1), .second, .val (.int p2), .val (.int p3), .val (.int p4), .val (.int p5), .val (.int nv), .val (.int ng), .val (.int rf), .val (.int fv), .val (.int sv), .val (.int tv), .val (.long u), .second, .val (.long mq), .second, .unset, .unset, .unset, .unset] [(.int (51 : Int32)), (.int (14 : Int32)), (.ref b96), (.ref b96)])
          obtain ⟨T181, h181, X181, e181, W181, st181⟩ := own_bastore X175 hx hZ e175 A_b96_p175c (by decide) (g := (mkF m 181 #[.val (.long q1), .second, .val (.int p2), .val (.int p3), .val (.int p4), .val (.int p5), .val (.int nv), .val (.int ng), .val (.int rf), .val (.int fv), .val (.int sv), .val (.int tv), .val (.long u), .second, .val (.long mq), .second, .unset, .unset, .unset, .unset] [(.int (51 : Int32)), (.int (14 : Int32)), (.ref b96), (.ref b96)])) rfl rfl (hb hby at_181)
          have N181 := Fr.snoc X181 N175 ge_b96
          have A_b96_p181 : own_A Z h181 b96 .byte 26 (fun i => if i = Int32.toNatClampNeg (14 : Int32) then (.int (nar .byte (51 : Int32))) else (fun j => .int (own_pre G 14 j)) i) := A_b96_p175c.set W181
          have Z0_p181 : n0 ≤ h181.size := Nat.le_trans Z0_p175 (Keep.of_wr W181).1
          refine hst st181 ?_
          have A_b96_p181c : own_A Z h181 b96 .byte 26 (fun j => .int (own_pre G 15 j)) := own_A.congr A_b96_p181 (fun j hj => by rw [show Int32.toNatClampNeg (14 : Int32) = 14 from rfl]; exact own_pre_step G 14 j _ (by rw [hG]))
          show F T181 (mkF m 182 #[.val (.long q1), .second, .val (.int p2), .val (.int p3), .val (.int p4), .val (.int p5), .val (.int nv), .val (.int ng), .val (.int rf), .val (.int fv), .val (.int sv), .val (.int tv), .val (.long u), .second, .val (.long mq), .second, .unset, .unset, .unset, .unset] [(.ref b96)])
          refine hst (fun t₀ k₀ => XS.dup X181.here hx rfl (hb hby at_182) rfl rfl k₀) ?_
          show F T181 (mkF m 183 #[.val (.long q1), .second, .val (.int p2), .val (.int p3), .val (.int p4), .val (.int p5), .val (.int nv), .val (.int ng), .val (.int rf), .val (.int fv), .val (.int sv), .val (.int tv), .val (.long u), .second, .val (.long mq), .second, .unset, .unset, .unset, .unset] [(.ref b96), (.ref b96)])
          refine hst (fun t₀ k₀ => XS.bipush X181.here hx rfl (hb hby at_183) k₀) ?_
          show F T181 (mkF m 185 #[.val (.long q1), .second, .val (.int p2), .val (.int p3), .val (.int p4), .val (.int p5), .val (.int nv), .val (.int ng), .val (.int rf), .val (.int fv), .val (.int sv), .val (.int tv), .val (.long u), .second, .val (.long mq), .second, .unset, .unset, .unset, .unset] [(.int (15 : Int32)), (.ref b96), (.ref b96)])
          refine hst (fun t₀ k₀ => XS.bipush X181.here hx rfl (hb hby at_185) k₀) ?_
          show F T181 (mkF m 187 #[.val (.long q1), .second, .val (.int p2), .val (.int p3), .val (.int p4), .val (.int p5), .val (.int nv), .val (.int ng), .val (.int rf), .val (.int fv), .val (.int sv), .val (.int tv), .val (.long u), .second, .val (.long mq), .second, .unset, .unset, .unset, .unset] [(.int (51 : Int32)), (.int (15 : Int32)), (.ref b96), (.ref b96)])
          obtain ⟨T187, h187, X187, e187, W187, st187⟩ := own_bastore X181 hx hZ e181 A_b96_p181c (by decide) (g := (mkF m 187 #[.val (.long q1), .second, .val (.int p2), .val (.int p3), .val (.int p4), .val (.int p5), .val (.int nv), .val (.int ng), .val (.int rf), .val (.int fv), .val (.int sv), .val (.int tv), .val (.long u), .second, .val (.long mq), .second, .unset, .unset, .unset, .unset] [(.int (51 : Int32)), (.int (15 : Int32)), (.ref b96), (.ref b96)])) rfl rfl (hb hby at_187)
          have N187 := Fr.snoc X187 N181 ge_b96
          have A_b96_p187 : own_A Z h187 b96 .byte 26 (fun i => if i = Int32.toNatClampNeg (15 : Int32) then (.int (nar .byte (51 : Int32))) else (fun j => .int (own_pre G 15 j)) i) := A_b96_p181c.set W187
          have Z0_p187 : n0 ≤ h187.size := Nat.le_trans Z0_p181 (Keep.of_wr W187).1
          refine hst st187 ?_
          have A_b96_p187c : own_A Z h187 b96 .byte 26 (fun j => .int (own_pre G 16 j)) := own_A.congr A_b96_p187 (fun j hj => by rw [show Int32.toNatClampNeg (15 : Int32) = 15 from rfl]; exact own_pre_step G 15 j _ (by rw [hG]))
          show F T187 (mkF m 188 #[.val (.long q1), .second, .val (.int p2), .val (.int p3), .val (.int p4), .val (.int p5), .val (.int nv), .val (.int ng), .val (.int rf), .val (.int fv), .val (.int sv), .val (.int tv), .val (.long u), .second, .val (.long mq), .second, .unset, .unset, .unset, .unset] [(.ref b96)])
          refine hst (fun t₀ k₀ => XS.dup X187.here hx rfl (hb hby at_188) rfl rfl k₀) ?_
          show F T187 (mkF m 189 #[.val (.long q1), .second, .val (.int p2), .val (.int p3), .val (.int p4), .val (.int p5), .val (.int nv), .val (.int ng), .val (.int rf), .val (.int fv), .val (.int sv), .val (.int tv), .val (.long u), .second, .val (.long mq), .second, .unset, .unset, .unset, .unset] [(.ref b96), (.ref b96)])
          refine hst (fun t₀ k₀ => XS.bipush X187.here hx rfl (hb hby at_189) k₀) ?_
          show F T187 (mkF m 191 #[.val (.long q1), .second, .val (.int p2), .val (.int p3), .val (.int p4), .val (.int p5), .val (.int nv), .val (.int ng), .val (.int rf), .val (.int fv), .val (.int sv), .val (.int tv), .val (.long u), .second, .val (.long mq), .second, .unset, .unset, .unset, .unset] [(.int (16 : Int32)), (.ref b96), (.ref b96)])
          refine hst (fun t₀ k₀ => XS.bipush X187.here hx rfl (hb hby at_191) k₀) ?_
          show F T187 (mkF m 193 #[.val (.long q1), .second, .val (.int p2), .val (.int p3), .val (.int p4), .val (.int p5), .val (.int nv), .val (.int ng), .val (.int rf), .val (.int fv), .val (.int sv), .val (.int tv), .val (.long u), .second, .val (.long mq), .second, .unset, .unset, .unset, .unset] [(.int (51 : Int32)), (.int (16 : Int32)), (.ref b96), (.ref b96)])
          obtain ⟨T193, h193, X193, e193, W193, st193⟩ := own_bastore X187 hx hZ e187 A_b96_p187c (by decide) (g := (mkF m 193 #[.val (.long q1), .second, .val (.int p2), .val (.int p3), .val (.int p4), .val (.int p5), .val (.int nv), .val (.int ng), .val (.int rf), .val (.int fv), .val (.int sv), .val (.int tv), .val (.long u), .second, .val (.long mq), .second, .unset, .unset, .unset, .unset] [(.int (51 : Int32)), (.int (16 : Int32)), (.ref b96), (.ref b96)])) rfl rfl (hb hby at_193)
          have N193 := Fr.snoc X193 N187 ge_b96
          have A_b96_p193 : own_A Z h193 b96 .byte 26 (fun i => if i = Int32.toNatClampNeg (16 : Int32) then (.int (nar .byte (51 : Int32))) else (fun j => .int (own_pre G 16 j)) i) := A_b96_p187c.set W193
          have Z0_p193 : n0 ≤ h193.size := Nat.le_trans Z0_p187 (Keep.of_wr W193).1
          refine hst st193 ?_
          have A_b96_p193c : own_A Z h193 b96 .byte 26 (fun j => .int (own_pre G 17 j)) := own_A.congr A_b96_p193 (fun j hj => by rw [show Int32.toNatClampNeg (16 : Int32) = 16 from rfl]; exact own_pre_step G 16 j _ (by rw [hG]))
          show F T193 (mkF m 194 #[.val (.long q1), .second, .val (.int p2), .val (.int p3), .val (.int p4), .val (.int p5), .val (.int nv), .val (.int ng), .val (.int rf), .val (.int fv), .val (.int sv), .val (.int tv), .val (.long u), .second, .val (.long mq), .second, .unset, .unset, .unset, .unset] [(.ref b96)])
          refine hst (fun t₀ k₀ => XS.dup X193.here hx rfl (hb hby at_194) rfl rfl k₀) ?_
          show F T193 (mkF m 195 #[.val (.long q1), .second, .val (.int p2), .val (.int p3), .val (.int p4), .val (.int p5), .val (.int nv), .val (.int ng), .val (.int rf), .val (.int fv), .val (.int sv), .val (.int tv), .val (.long u), .second, .val (.long mq), .second, .unset, .unset, .unset, .unset] [(.ref b96), (.ref b96)])
          refine hst (fun t₀ k₀ => XS.bipush X193.here hx rfl (hb hby at_195) k₀) ?_
          show F T193 (mkF m 197 #[.val (.long q1), .second, .val (.int p2), .val (.int p3), .val (.int p4), .val (.int p5), .val (.int nv), .val (.int ng), .val (.int rf), .val (.int fv), .val (.int sv), .val (.int tv), .val (.long u), .second, .val (.long mq), .second, .unset, .unset, .unset, .unset] [(.int (17 : Int32)), (.ref b96), (.ref b96)])
          refine hst (fun t₀ k₀ => XS.bipush X193.here hx rfl (hb hby at_197) k₀) ?_
          show F T193 (mkF m 199 #[.val (.long q1), .second, .val (.int p2), .val (.int p3), .val (.int p4), .val (.int p5), .val (.int nv), .val (.int ng), .val (.int rf), .val (.int fv), .val (.int sv), .val (.int tv), .val (.long u), .second, .val (.long mq), .second, .unset, .unset, .unset, .unset] [(.int (51 : Int32)), (.int (17 : Int32)), (.ref b96), (.ref b96)])
          obtain ⟨T199, h199, X199, e199, W199, st199⟩ := own_bastore X193 hx hZ e193 A_b96_p193c (by decide) (g := (mkF m 199 #[.val (.long q1), .second, .val (.int p2), .val (.int p3), .val (.int p4), .val (.int p5), .val (.int nv), .val (.int ng), .val (.int rf), .val (.int fv), .val (.int sv), .val (.int tv), .val (.long u), .second, .val (.long mq), .second, .unset, .unset, .unset, .unset] [(.int (51 : Int32)), (.int (17 : Int32)), (.ref b96), (.ref b96)])) rfl rfl (hb hby at_199)
          have N199 := Fr.snoc X199 N193 ge_b96
          have A_b96_p199 : own_A Z h199 b96 .byte 26 (fun i => if i = Int32.toNatClampNeg (17 : Int32) then (.int (nar .byte (51 : Int32))) else (fun j => .int (own_pre G 17 j)) i) := A_b96_p193c.set W199
          have Z0_p199 : n0 ≤ h199.size := Nat.le_trans Z0_p193 (Keep.of_wr W199).1
          refine hst st199 ?_
          have A_b96_p199c : own_A Z h199 b96 .byte 26 (fun j => .int (own_pre G 18 j)) := own_A.congr A_b96_p199 (fun j hj => by rw [show Int32.toNatClampNeg (17 : Int32) = 17 from rfl]; exact own_pre_step G 17 j _ (by rw [hG]))
          show F T199 (mkF m 200 #[.val (.long q1), .second, .val (.int p2), .val (.int p3), .val (.int p4), .val (.int p5), .val (.int nv), .val (.int ng), .val (.int rf), .val (.int fv), .val (.int sv), .val (.int tv), .val (.long u), .second, .val (.long mq), .second, .unset, .unset, .unset, .unset] [(.ref b96)])
          refine hst (fun t₀ k₀ => XS.dup X199.here hx rfl (hb hby at_200) rfl rfl k₀) ?_
          show F T199 (mkF m 201 #[.val (.long q1), .second, .val (.int p2), .val (.int p3), .val (.int p4), .val (.int p5), .val (.int nv), .val (.int ng), .val (.int rf), .val (.int fv), .val (.int sv), .val (.int tv), .val (.long u), .second, .val (.long mq), .second, .unset, .unset, .unset, .unset] [(.ref b96), (.ref b96)])
          refine hst (fun t₀ k₀ => XS.bipush X199.here hx rfl (hb hby at_201) k₀) ?_
          show F T199 (mkF m 203 #[.val (.long q1), .second, .val (.int p2), .val (.int p3), .val (.int p4), .val (.int p5), .val (.int nv), .val (.int ng), .val (.int rf), .val (.int fv), .val (.int sv), .val (.int tv), .val (.long u), .second, .val (.long mq), .second, .unset, .unset, .unset, .unset] [(.int (18 : Int32)), (.ref b96), (.ref b96)])
          refine hst (fun t₀ k₀ => XS.bipush X199.here hx rfl (hb hby at_203) k₀) ?_
          show F T199 (mkF m 205 #[.val (.long q1), .second, .val (.int p2), .val (.int p3), .val (.int p4), .val (.int p5), .val (.int nv), .val (.int ng), .val (.int rf), .val (.int fv), .val (.int sv), .val (.int tv), .val (.long u), .second, .val (.long mq), .second, .unset, .unset, .unset, .unset] [(.int (51 : Int32)), (.int (18 : Int32)), (.ref b96), (.ref b96)])
          obtain ⟨T205, h205, X205, e205, W205, st205⟩ := own_bastore X199 hx hZ e199 A_b96_p199c (by decide) (g := (mkF m 205 #[.val (.long q1), .second, .val (.int p2), .val (.int p3), .val (.int p4), .val (.int p5), .val (.int nv), .val (.int ng), .val (.int rf), .val (.int fv), .val (.int sv), .val (.int tv), .val (.long u), .second, .val (.long mq), .second, .unset, .unset, .unset, .unset] [(.int (51 : Int32)), (.int (18 : Int32)), (.ref b96), (.ref b96)])) rfl rfl (hb hby at_205)
          have N205 := Fr.snoc X205 N199 ge_b96
          have A_b96_p205 : own_A Z h205 b96 .byte 26 (fun i => if i = Int32.toNatClampNeg (18 : Int32) then (.int (nar .byte (51 : Int32))) else (fun j => .int (own_pre G 18 j)) i) := A_b96_p199c.set W205
          have Z0_p205 : n0 ≤ h205.size := Nat.le_trans Z0_p199 (Keep.of_wr W205).1
          refine hst st205 ?_
          have A_b96_p205c : own_A Z h205 b96 .byte 26 (fun j => .int (own_pre G 19 j)) := own_A.congr A_b96_p205 (fun j hj => by rw [show Int32.toNatClampNeg (18 : Int32) = 18 from rfl]; exact own_pre_step G 18 j _ (by rw [hG]))
          show F T205 (mkF m 206 #[.val (.long q1), .second, .val (.int p2), .val (.int p3), .val (.int p4), .val (.int p5), .val (.int nv), .val (.int ng), .val (.int rf), .val (.int fv), .val (.int sv), .val (.int tv), .val (.long u), .second, .val (.long mq), .second, .unset, .unset, .unset, .unset] [(.ref b96)])
          refine hst (fun t₀ k₀ => XS.dup X205.here hx rfl (hb hby at_206) rfl rfl k₀) ?_
          show F T205 (mkF m 207 #[.val (.long q1), .second, .val (.int p2), .val (.int p3), .val (.int p4), .val (.int p5), .val (.int nv), .val (.int ng), .val (.int rf), .val (.int fv), .val (.int sv), .val (.int tv), .val (.long u), .second, .val (.long mq), .second, .unset, .unset, .unset, .unset] [(.ref b96), (.ref b96)])
          refine hst (fun t₀ k₀ => XS.bipush X205.here hx rfl (hb hby at_207) k₀) ?_
          show F T205 (mkF m 209 #[.val (.long q1), .second, .val (.int p2), .val (.int p3), .val (.int p4), .val (.int p5), .val (.int nv), .val (.int ng), .val (.int rf), .val (.int fv), .val (.int sv), .val (.int tv), .val (.long u), .second, .val (.long mq), .second, .unset, .unset, .unset, .unset] [(.int (19 : Int32)), (.ref b96), (.ref b96)])
          refine hst (fun t₀ k₀ => XS.bipush X205.here hx rfl (hb hby at_209) k₀) ?_
          show F T205 (mkF m 211 #[.val (.long q1), .second, .val (.int p2), .val (.int p3), .val (.int p4), .val (.int p5), .val (.int nv), .val (.int ng), .val (.int rf), .val (.int fv), .val (.int sv), .val (.int tv), .val (.long u), .second, .val (.long mq), .second, .unset, .unset, .unset, .unset] [(.int (51 : Int32)), (.int (19 : Int32)), (.ref b96), (.ref b96)])
          obtain ⟨T211, h211, X211, e211, W211, st211⟩ := own_bastore X205 hx hZ e205 A_b96_p205c (by decide) (g := (mkF m 211 #[.val (.long q1), .second, .val (.int p2), .val (.int p3), .val (.int p4), .val (.int p5), .val (.int nv), .val (.int ng), .val (.int rf), .val (.int fv), .val (.int sv), .val (.int tv), .val (.long u), .second, .val (.long mq), .second, .unset, .unset, .unset, .unset] [(.int (51 : Int32)), (.int (19 : Int32)), (.ref b96), (.ref b96)])) rfl rfl (hb hby at_211)
          have N211 := Fr.snoc X211 N205 ge_b96
          have A_b96_p211 : own_A Z h211 b96 .byte 26 (fun i => if i = Int32.toNatClampNeg (19 : Int32) then (.int (nar .byte (51 : Int32))) else (fun j => .int (own_pre G 19 j)) i) := A_b96_p205c.set W211
          have Z0_p211 : n0 ≤ h211.size := Nat.le_trans Z0_p205 (Keep.of_wr W211).1
          refine hst st211 ?_
          have A_b96_p211c : own_A Z h211 b96 .byte 26 (fun j => .int (own_pre G 20 j)) := own_A.congr A_b96_p211 (fun j hj => by rw [show Int32.toNatClampNeg (19 : Int32) = 19 from rfl]; exact own_pre_step G 19 j _ (by rw [hG]))
          show F T211 (mkF m 212 #[.val (.long q1), .second, .val (.int p2), .val (.int p3), .val (.int p4), .val (.int p5), .val (.int nv), .val (.int ng), .val (.int rf), .val (.int fv), .val (.int sv), .val (.int tv), .val (.long u), .second, .val (.long mq), .second, .unset, .unset, .unset, .unset] [(.ref b96)])
          refine hst (fun t₀ k₀ => XS.dup X211.here hx rfl (hb hby at_212) rfl rfl k₀) ?_
          show F T211 (mkF m 213 #[.val (.long q1), .second, .val (.int p2), .val (.int p3), .val (.int p4), .val (.int p5), .val (.int nv), .val (.int ng), .val (.int rf), .val (.int fv), .val (.int sv), .val (.int tv), .val (.long u), .second, .val (.long mq), .second, .unset, .unset, .unset, .unset] [(.ref b96), (.ref b96)])
          refine hst (fun t₀ k₀ => XS.bipush X211.here hx rfl (hb hby at_213) k₀) ?_
          show F T211 (mkF m 215 #[.val (.long q1), .second, .val (.int p2), .val (.int p3), .val (.int p4), .val (.int p5), .val (.int nv), .val (.int ng), .val (.int rf), .val (.int fv), .val (.int sv), .val (.int tv), .val (.long u), .second, .val (.long mq), .second, .unset, .unset, .unset, .unset] [(.int (20 : Int32)), (.ref b96), (.ref b96)])
          refine hst (fun t₀ k₀ => XS.bipush X211.here hx rfl (hb hby at_215) k₀) ?_
          show F T211 (mkF m 217 #[.val (.long q1), .second, .val (.int p2), .val (.int p3), .val (.int p4), .val (.int p5), .val (.int nv), .val (.int ng), .val (.int rf), .val (.int fv), .val (.int sv), .val (.int tv), .val (.long u), .second, .val (.long mq), .second, .unset, .unset, .unset, .unset] [(.int (51 : Int32)), (.int (20 : Int32)), (.ref b96), (.ref b96)])
          obtain ⟨T217, h217, X217, e217, W217, st217⟩ := own_bastore X211 hx hZ e211 A_b96_p211c (by decide) (g := (mkF m 217 #[.val (.long q1), .second, .val (.int p2), .val (.int p3), .val (.int p4), .val (.int p5), .val (.int nv), .val (.int ng), .val (.int rf), .val (.int fv), .val (.int sv), .val (.int tv), .val (.long u), .second, .val (.long mq), .second, .unset, .unset, .unset, .unset] [(.int (51 : Int32)), (.int (20 : Int32)), (.ref b96), (.ref b96)])) rfl rfl (hb hby at_217)
          have N217 := Fr.snoc X217 N211 ge_b96
          have A_b96_p217 : own_A Z h217 b96 .byte 26 (fun i => if i = Int32.toNatClampNeg (20 : Int32) then (.int (nar .byte (51 : Int32))) else (fun j => .int (own_pre G 20 j)) i) := A_b96_p211c.set W217
          have Z0_p217 : n0 ≤ h217.size := Nat.le_trans Z0_p211 (Keep.of_wr W217).1
          refine hst st217 ?_
          have A_b96_p217c : own_A Z h217 b96 .byte 26 (fun j => .int (own_pre G 21 j)) := own_A.congr A_b96_p217 (fun j hj => by rw [show Int32.toNatClampNeg (20 : Int32) = 20 from rfl]; exact own_pre_step G 20 j _ (by rw [hG]))
          show F T217 (mkF m 218 #[.val (.long q1), .second, .val (.int p2), .val (.int p3), .val (.int p4), .val (.int p5), .val (.int nv), .val (.int ng), .val (.int rf), .val (.int fv), .val (.int sv), .val (.int tv), .val (.long u), .second, .val (.long mq), .second, .unset, .unset, .unset, .unset] [(.ref b96)])
          refine hst (fun t₀ k₀ => XS.dup X217.here hx rfl (hb hby at_218) rfl rfl k₀) ?_
          show F T217 (mkF m 219 #[.val (.long q1), .second, .val (.int p2), .val (.int p3), .val (.int p4), .val (.int p5), .val (.int nv), .val (.int ng), .val (.int rf), .val (.int fv), .val (.int sv), .val (.int tv), .val (.long u), .second, .val (.long mq), .second, .unset, .unset, .unset, .unset] [(.ref b96), (.ref b96)])
          refine hst (fun t₀ k₀ => XS.bipush X217.here hx rfl (hb hby at_219) k₀) ?_
          show F T217 (mkF m 221 #[.val (.long q1), .second, .val (.int p2), .val (.int p3), .val (.int p4), .val (.int p5), .val (.int nv), .val (.int ng), .val (.int rf), .val (.int fv), .val (.int sv), .val (.int tv), .val (.long u), .second, .val (.long mq), .second, .unset, .unset, .unset, .unset] [(.int (21 : Int32)), (.ref b96), (.ref b96)])
          refine hst (fun t₀ k₀ => XS.bipush X217.here hx rfl (hb hby at_221) k₀) ?_
          show F T217 (mkF m 223 #[.val (.long q1), .second, .val (.int p2), .val (.int p3), .val (.int p4), .val (.int p5), .val (.int nv), .val (.int ng), .val (.int rf), .val (.int fv), .val (.int sv), .val (.int tv), .val (.long u), .second, .val (.long mq), .second, .unset, .unset, .unset, .unset] [(.int (51 : Int32)), (.int (21 : Int32)), (.ref b96), (.ref b96)])
          obtain ⟨T223, h223, X223, e223, W223, st223⟩ := own_bastore X217 hx hZ e217 A_b96_p217c (by decide) (g := (mkF m 223 #[.val (.long q1), .second, .val (.int p2), .val (.int p3), .val (.int p4), .val (.int p5), .val (.int nv), .val (.int ng), .val (.int rf), .val (.int fv), .val (.int sv), .val (.int tv), .val (.long u), .second, .val (.long mq), .second, .unset, .unset, .unset, .unset] [(.int (51 : Int32)), (.int (21 : Int32)), (.ref b96), (.ref b96)])) rfl rfl (hb hby at_223)
          have N223 := Fr.snoc X223 N217 ge_b96
          have A_b96_p223 : own_A Z h223 b96 .byte 26 (fun i => if i = Int32.toNatClampNeg (21 : Int32) then (.int (nar .byte (51 : Int32))) else (fun j => .int (own_pre G 21 j)) i) := A_b96_p217c.set W223
          have Z0_p223 : n0 ≤ h223.size := Nat.le_trans Z0_p217 (Keep.of_wr W223).1
          refine hst st223 ?_
          have A_b96_p223c : own_A Z h223 b96 .byte 26 (fun j => .int (own_pre G 22 j)) := own_A.congr A_b96_p223 (fun j hj => by rw [show Int32.toNatClampNeg (21 : Int32) = 21 from rfl]; exact own_pre_step G 21 j _ (by rw [hG]))
          show F T223 (mkF m 224 #[.val (.long q1), .second, .val (.int p2), .val (.int p3), .val (.int p4), .val (.int p5), .val (.int nv), .val (.int ng), .val (.int rf), .val (.int fv), .val (.int sv), .val (.int tv), .val (.long u), .second, .val (.long mq), .second, .unset, .unset, .unset, .unset] [(.ref b96)])
          refine hst (fun t₀ k₀ => XS.dup X223.here hx rfl (hb hby at_224) rfl rfl k₀) ?_
          show F T223 (mkF m 225 #[.val (.long q1), .second, .val (.int p2), .val (.int p3), .val (.int p4), .val (.int p5), .val (.int nv), .val (.int ng), .val (.int rf), .val (.int fv), .val (.int sv), .val (.int tv), .val (.long u), .second, .val (.long mq), .second, .unset, .unset, .unset, .unset] [(.ref b96), (.ref b96)])
          refine hst (fun t₀ k₀ => XS.bipush X223.here hx rfl (hb hby at_225) k₀) ?_
          show F T223 (mkF m 227 #[.val (.long q1), .second, .val (.int p2), .val (.int p3), .val (.int p4), .val (.int p5), .val (.int nv), .val (.int ng), .val (.int rf), .val (.int fv), .val (.int sv), .val (.int tv), .val (.long u), .second, .val (.long mq), .second, .unset, .unset, .unset, .unset] [(.int (22 : Int32)), (.ref b96), (.ref b96)])
          refine hst (fun t₀ k₀ => XS.bipush X223.here hx rfl (hb hby at_227) k₀) ?_
          show F T223 (mkF m 229 #[.val (.long q1), .second, .val (.int p2), .val (.int p3), .val (.int p4), .val (.int p5), .val (.int nv), .val (.int ng), .val (.int rf), .val (.int fv), .val (.int sv), .val (.int tv), .val (.long u), .second, .val (.long mq), .second, .unset, .unset, .unset, .unset] [(.int (51 : Int32)), (.int (22 : Int32)), (.ref b96), (.ref b96)])
          obtain ⟨T229, h229, X229, e229, W229, st229⟩ := own_bastore X223 hx hZ e223 A_b96_p223c (by decide) (g := (mkF m 229 #[.val (.long q1), .second, .val (.int p2), .val (.int p3), .val (.int p4), .val (.int p5), .val (.int nv), .val (.int ng), .val (.int rf), .val (.int fv), .val (.int sv), .val (.int tv), .val (.long u), .second, .val (.long mq), .second, .unset, .unset, .unset, .unset] [(.int (51 : Int32)), (.int (22 : Int32)), (.ref b96), (.ref b96)])) rfl rfl (hb hby at_229)
          have N229 := Fr.snoc X229 N223 ge_b96
          have A_b96_p229 : own_A Z h229 b96 .byte 26 (fun i => if i = Int32.toNatClampNeg (22 : Int32) then (.int (nar .byte (51 : Int32))) else (fun j => .int (own_pre G 22 j)) i) := A_b96_p223c.set W229
          have Z0_p229 : n0 ≤ h229.size := Nat.le_trans Z0_p223 (Keep.of_wr W229).1
          refine hst st229 ?_
          have A_b96_p229c : own_A Z h229 b96 .byte 26 (fun j => .int (own_pre G 23 j)) := own_A.congr A_b96_p229 (fun j hj => by rw [show Int32.toNatClampNeg (22 : Int32) = 22 from rfl]; exact own_pre_step G 22 j _ (by rw [hG]))
          show F T229 (mkF m 230 #[.val (.long q1), .second, .val (.int p2), .val (.int p3), .val (.int p4), .val (.int p5), .val (.int nv), .val (.int ng), .val (.int rf), .val (.int fv), .val (.int sv), .val (.int tv), .val (.long u), .second, .val (.long mq), .second, .unset, .unset, .unset, .unset] [(.ref b96)])
          refine hst (fun t₀ k₀ => XS.dup X229.here hx rfl (hb hby at_230) rfl rfl k₀) ?_
          show F T229 (mkF m 231 #[.val (.long q1), .second, .val (.int p2), .val (.int p3), .val (.int p4), .val (.int p5), .val (.int nv), .val (.int ng), .val (.int rf), .val (.int fv), .val (.int sv), .val (.int tv), .val (.long u), .second, .val (.long mq), .second, .unset, .unset, .unset, .unset] [(.ref b96), (.ref b96)])
          refine hst (fun t₀ k₀ => XS.bipush X229.here hx rfl (hb hby at_231) k₀) ?_
          show F T229 (mkF m 233 #[.val (.long q1), .second, .val (.int p2), .val (.int p3), .val (.int p4), .val (.int p5), .val (.int nv), .val (.int ng), .val (.int rf), .val (.int fv), .val (.int sv), .val (.int tv), .val (.long u), .second, .val (.long mq), .second, .unset, .unset, .unset, .unset] [(.int (23 : Int32)), (.ref b96), (.ref b96)])
          refine hst (fun t₀ k₀ => XS.bipush X229.here hx rfl (hb hby at_233) k₀) ?_
          show F T229 (mkF m 235 #[.val (.long q1), .second, .val (.int p2), .val (.int p3), .val (.int p4), .val (.int p5), .val (.int nv), .val (.int ng), .val (.int rf), .val (.int fv), .val (.int sv), .val (.int tv), .val (.long u), .second, .val (.long mq), .second, .unset, .unset, .unset, .unset] [(.int (51 : Int32)), (.int (23 : Int32)), (.ref b96), (.ref b96)])
          obtain ⟨T235, h235, X235, e235, W235, st235⟩ := own_bastore X229 hx hZ e229 A_b96_p229c (by decide) (g := (mkF m 235 #[.val (.long q1), .second, .val (.int p2), .val (.int p3), .val (.int p4), .val (.int p5), .val (.int nv), .val (.int ng), .val (.int rf), .val (.int fv), .val (.int sv), .val (.int tv), .val (.long u), .second, .val (.long mq), .second, .unset, .unset, .unset, .unset] [(.int (51 : Int32)), (.int (23 : Int32)), (.ref b96), (.ref b96)])) rfl rfl (hb hby at_235)
          have N235 := Fr.snoc X235 N229 ge_b96
          have A_b96_p235 : own_A Z h235 b96 .byte 26 (fun i => if i = Int32.toNatClampNeg (23 : Int32) then (.int (nar .byte (51 : Int32))) else (fun j => .int (own_pre G 23 j)) i) := A_b96_p229c.set W235
          have Z0_p235 : n0 ≤ h235.size := Nat.le_trans Z0_p229 (Keep.of_wr W235).1
          refine hst st235 ?_
          have A_b96_p235c : own_A Z h235 b96 .byte 26 (fun j => .int (own_pre G 24 j)) := own_A.congr A_b96_p235 (fun j hj => by rw [show Int32.toNatClampNeg (23 : Int32) = 23 from rfl]; exact own_pre_step G 23 j _ (by rw [hG]))
          show F T235 (mkF m 236 #[.val (.long q1), .second, .val (.int p2), .val (.int p3), .val (.int p4), .val (.int p5), .val (.int nv), .val (.int ng), .val (.int rf), .val (.int fv), .val (.int sv), .val (.int tv), .val (.long u), .second, .val (.long mq), .second, .unset, .unset, .unset, .unset] [(.ref b96)])
          refine hst (fun t₀ k₀ => XS.dup X235.here hx rfl (hb hby at_236) rfl rfl k₀) ?_
          show F T235 (mkF m 237 #[.val (.long q1), .second, .val (.int p2), .val (.int p3), .val (.int p4), .val (.int p5), .val (.int nv), .val (.int ng), .val (.int rf), .val (.int fv), .val (.int sv), .val (.int tv), .val (.long u), .second, .val (.long mq), .second, .unset, .unset, .unset, .unset] [(.ref b96), (.ref b96)])
          refine hst (fun t₀ k₀ => XS.bipush X235.here hx rfl (hb hby at_237) k₀) ?_
          show F T235 (mkF m 239 #[.val (.long q1), .second, .val (.int p2), .val (.int p3), .val (.int p4), .val (.int p5), .val (.int nv), .val (.int ng), .val (.int rf), .val (.int fv), .val (.int sv), .val (.int tv), .val (.long u), .second, .val (.long mq), .second, .unset, .unset, .unset, .unset] [(.int (24 : Int32)), (.ref b96), (.ref b96)])
          refine hst (fun t₀ k₀ => XS.bipush X235.here hx rfl (hb hby at_239) k₀) ?_
          show F T235 (mkF m 241 #[.val (.long q1), .second, .val (.int p2), .val (.int p3), .val (.int p4), .val (.int p5), .val (.int nv), .val (.int ng), .val (.int rf), .val (.int fv), .val (.int sv), .val (.int tv), .val (.long u), .second, .val (.long mq), .second, .unset, .unset, .unset, .unset] [(.int (51 : Int32)), (.int (24 : Int32)), (.ref b96), (.ref b96)])
          obtain ⟨T241, h241, X241, e241, W241, st241⟩ := own_bastore X235 hx hZ e235 A_b96_p235c (by decide) (g := (mkF m 241 #[.val (.long q1), .second, .val (.int p2), .val (.int p3), .val (.int p4), .val (.int p5), .val (.int nv), .val (.int ng), .val (.int rf), .val (.int fv), .val (.int sv), .val (.int tv), .val (.long u), .second, .val (.long mq), .second, .unset, .unset, .unset, .unset] [(.int (51 : Int32)), (.int (24 : Int32)), (.ref b96), (.ref b96)])) rfl rfl (hb hby at_241)
          have N241 := Fr.snoc X241 N235 ge_b96
          have A_b96_p241 : own_A Z h241 b96 .byte 26 (fun i => if i = Int32.toNatClampNeg (24 : Int32) then (.int (nar .byte (51 : Int32))) else (fun j => .int (own_pre G 24 j)) i) := A_b96_p235c.set W241
          have Z0_p241 : n0 ≤ h241.size := Nat.le_trans Z0_p235 (Keep.of_wr W241).1
          refine hst st241 ?_
          have A_b96_p241c : own_A Z h241 b96 .byte 26 (fun j => .int (own_pre G 25 j)) := own_A.congr A_b96_p241 (fun j hj => by rw [show Int32.toNatClampNeg (24 : Int32) = 24 from rfl]; exact own_pre_step G 24 j _ (by rw [hG]))
          show F T241 (mkF m 242 #[.val (.long q1), .second, .val (.int p2), .val (.int p3), .val (.int p4), .val (.int p5), .val (.int nv), .val (.int ng), .val (.int rf), .val (.int fv), .val (.int sv), .val (.int tv), .val (.long u), .second, .val (.long mq), .second, .unset, .unset, .unset, .unset] [(.ref b96)])
          refine hst (fun t₀ k₀ => XS.dup X241.here hx rfl (hb hby at_242) rfl rfl k₀) ?_
          show F T241 (mkF m 243 #[.val (.long q1), .second, .val (.int p2), .val (.int p3), .val (.int p4), .val (.int p5), .val (.int nv), .val (.int ng), .val (.int rf), .val (.int fv), .val (.int sv), .val (.int tv), .val (.long u), .second, .val (.long mq), .second, .unset, .unset, .unset, .unset] [(.ref b96), (.ref b96)])
          refine hst (fun t₀ k₀ => XS.bipush X241.here hx rfl (hb hby at_243) k₀) ?_
          show F T241 (mkF m 245 #[.val (.long q1), .second, .val (.int p2), .val (.int p3), .val (.int p4), .val (.int p5), .val (.int nv), .val (.int ng), .val (.int rf), .val (.int fv), .val (.int sv), .val (.int tv), .val (.long u), .second, .val (.long mq), .second, .unset, .unset, .unset, .unset] [(.int (25 : Int32)), (.ref b96), (.ref b96)])
          refine hst (fun t₀ k₀ => XS.bipush X241.here hx rfl (hb hby at_245) k₀) ?_
          show F T241 (mkF m 247 #[.val (.long q1), .second, .val (.int p2), .val (.int p3), .val (.int p4), .val (.int p5), .val (.int nv), .val (.int ng), .val (.int rf), .val (.int fv), .val (.int sv), .val (.int tv), .val (.long u), .second, .val (.long mq), .second, .unset, .unset, .unset, .unset] [(.int (51 : Int32)), (.int (25 : Int32)), (.ref b96), (.ref b96)])
          obtain ⟨T247, h247, X247, e247, W247, st247⟩ := own_bastore X241 hx hZ e241 A_b96_p241c (by decide) (g := (mkF m 247 #[.val (.long q1), .second, .val (.int p2), .val (.int p3), .val (.int p4), .val (.int p5), .val (.int nv), .val (.int ng), .val (.int rf), .val (.int fv), .val (.int sv), .val (.int tv), .val (.long u), .second, .val (.long mq), .second, .unset, .unset, .unset, .unset] [(.int (51 : Int32)), (.int (25 : Int32)), (.ref b96), (.ref b96)])) rfl rfl (hb hby at_247)
          have N247 := Fr.snoc X247 N241 ge_b96
          have A_b96_p247 : own_A Z h247 b96 .byte 26 (fun i => if i = Int32.toNatClampNeg (25 : Int32) then (.int (nar .byte (51 : Int32))) else (fun j => .int (own_pre G 25 j)) i) := A_b96_p241c.set W247
          have Z0_p247 : n0 ≤ h247.size := Nat.le_trans Z0_p241 (Keep.of_wr W247).1
          refine hst st247 ?_
          have A_b96_p247c : own_A Z h247 b96 .byte 26 (fun j => .int (own_pre G 26 j)) := own_A.congr A_b96_p247 (fun j hj => by rw [show Int32.toNatClampNeg (25 : Int32) = 25 from rfl]; exact own_pre_step G 25 j _ (by rw [hG]))
          show F T247 (mkF m 248 #[.val (.long q1), .second, .val (.int p2), .val (.int p3), .val (.int p4), .val (.int p5), .val (.int nv), .val (.int ng), .val (.int rf), .val (.int fv), .val (.int sv), .val (.int tv), .val (.long u), .second, .val (.long mq), .second, .unset, .unset, .unset, .unset] [(.ref b96)])
          refine hst (fun t₀ k₀ => XS.astore X247.here hx rfl (hb hby at_248) rfl rfl (l' := #[.val (.long q1), .second, .val (.int p2), .val (.int p3), .val (.int p4), .val (.int p5), .val (.int nv), .val (.int ng), .val (.int rf), .val (.int fv), .val (.int sv), .val (.int tv), .val (.long u), .second, .val (.long mq), .second, .val (.ref b96), .unset, .unset, .unset]) rfl k₀) ?_
          show F T247 (mkF m 250 #[.val (.long q1), .second, .val (.int p2), .val (.int p3), .val (.int p4), .val (.int p5), .val (.int nv), .val (.int ng), .val (.int rf), .val (.int fv), .val (.int sv), .val (.int tv), .val (.long u), .second, .val (.long mq), .second, .val (.ref b96), .unset, .unset, .unset] [])
          have J262 : ∀ (B : Nat → Int32) (Tqb : State) (lqb : List Loc) (Xqb : Stand p l e room_1 s m #[(.long q1), (.int p2), (.int p3), (.int p4), (.int p5)] below meth c Tqb lqb 2 45) (hqb : Heap) (eqb : Tqb.heap = hqb) (Nqb : Fr n0 lqb) (Zqb : n0 ≤ hqb.size) (fqb_0 : own_A Z hqb b96 .byte 26 (fun j => .int (B j))), (ng = 1 → B f = 45) → F Tqb (mkF m 262 #[.val (.long q1), .second, .val (.int p2), .val (.int p3), .val (.int p4), .val (.int p5), .val (.int nv), .val (.int ng), .val (.int rf), .val (.int fv), .val (.int sv), .val (.int tv), .val (.long u), .second, .val (.long mq), .second, .val (.ref b96), .unset, .unset, .unset] []) := by
            intro B Tqb lqb Xqb hqb eqb Nqb Zqb fqb_0 hB
            show F Tqb (mkF m 262 #[.val (.long q1), .second, .val (.int p2), .val (.int p3), .val (.int p4), .val (.int p5), .val (.int nv), .val (.int ng), .val (.int rf), .val (.int fv), .val (.int sv), .val (.int tv), .val (.long u), .second, .val (.long mq), .second, .val (.ref b96), .unset, .unset, .unset] [])
            have fqb_0c : own_A Z hqb b96 .byte 26 (fun j => .int (own_pk B s' n M 0 j)) := own_A.congr fqb_0 (fun j hj => by rw [own_pk0 B s' n M j])
            refine hst (fun t₀ k₀ => XS.aload Xqb.here hx rfl (hb hby at_262) rfl rfl k₀) ?_
            show F Tqb (mkF m 264 #[.val (.long q1), .second, .val (.int p2), .val (.int p3), .val (.int p4), .val (.int p5), .val (.int nv), .val (.int ng), .val (.int rf), .val (.int fv), .val (.int sv), .val (.int tv), .val (.long u), .second, .val (.long mq), .second, .val (.ref b96), .unset, .unset, .unset] [(.ref b96)])
            refine hst (fun t₀ k₀ => XS.iload Xqb.here hx rfl (hb hby at_264) rfl k₀) ?_
            show F Tqb (mkF m 266 #[.val (.long q1), .second, .val (.int p2), .val (.int p3), .val (.int p4), .val (.int p5), .val (.int nv), .val (.int ng), .val (.int rf), .val (.int fv), .val (.int sv), .val (.int tv), .val (.long u), .second, .val (.long mq), .second, .val (.ref b96), .unset, .unset, .unset] [(.int sv), (.ref b96)])
            refine hst (fun t₀ k₀ => XS.iload Xqb.here hx rfl (hb hby at_266) rfl k₀) ?_
            show F Tqb (mkF m 268 #[.val (.long q1), .second, .val (.int p2), .val (.int p3), .val (.int p4), .val (.int p5), .val (.int nv), .val (.int ng), .val (.int rf), .val (.int fv), .val (.int sv), .val (.int tv), .val (.long u), .second, .val (.long mq), .second, .val (.ref b96), .unset, .unset, .unset] [(.int nv), (.int sv), (.ref b96)])
            refine hst (fun t₀ k₀ => XS.iconst Xqb.here hx rfl (hb hby at_268) k₀) ?_
            show F Tqb (mkF m 269 #[.val (.long q1), .second, .val (.int p2), .val (.int p3), .val (.int p4), .val (.int p5), .val (.int nv), .val (.int ng), .val (.int rf), .val (.int fv), .val (.int sv), .val (.int tv), .val (.long u), .second, .val (.long mq), .second, .val (.ref b96), .unset, .unset, .unset] [(.int (0 : Int32)), (.int nv), (.int sv), (.ref b96)])
            refine hst (fun t₀ k₀ => XS.lload Xqb.here hx rfl (hb hby at_269) rfl k₀) ?_
            show F Tqb (mkF m 271 #[.val (.long q1), .second, .val (.int p2), .val (.int p3), .val (.int p4), .val (.int p5), .val (.int nv), .val (.int ng), .val (.int rf), .val (.int fv), .val (.int sv), .val (.int tv), .val (.long u), .second, .val (.long mq), .second, .val (.ref b96), .unset, .unset, .unset] [(.long mq), (.int (0 : Int32)), (.int nv), (.int sv), (.ref b96)])
            obtain ⟨v271, T271, Lc271, X271, hQ271, st271⟩ := own_callS Xqb hx hZ hown (y := (⟨"com/example/leafline/leafline/table/IntegerValueParsePlain372PinLaw", "put", "([BIIIJ)V"⟩ : MethodName)) (hw _ (List.mem_of_getElem? (i := 26) rfl)) (hw _ (List.mem_of_getElem? (i := 27) rfl)) (hw _ (List.mem_of_getElem? (i := 4) rfl)) (hw _ (List.mem_of_getElem? (i := 28) rfl)) (by decide) eqb (rm2 l Z a0 hw [] b96 sv nv (0 : Int32) mq (own_pk B s' n M 0) s' n 0 M hqb n0 Zqb fqb_0c ge_b96 hs hn (by decide) hM hs2 hn2) (by decide) (by decide) (g := (mkF m 271 #[.val (.long q1), .second, .val (.int p2), .val (.int p3), .val (.int p4), .val (.int p5), .val (.int nv), .val (.int ng), .val (.int rf), .val (.int fv), .val (.int sv), .val (.int tv), .val (.long u), .second, .val (.long mq), .second, .val (.ref b96), .unset, .unset, .unset] [(.long mq), (.int (0 : Int32)), (.int nv), (.int sv), (.ref b96)])) rfl (by rw [hml]; rfl) (argsL := [(.ref b96), (.int sv), (.int nv), (.int (0 : Int32)), (.long mq)]) (rest := []) (lenOf pd_2 rfl) rfl rfl (W := 0) (by show 2 * 0 + _ ≤ _; exact Nat.le_of_eq rfl) (hb hby at_271) (by decide) (by decide)
            obtain ⟨rfl, Nq271, K271, q1_271⟩ := hQ271
            have N271 := Fr.app Nqb Nq271
            have Z0_p271 : n0 ≤ T271.heap.size := Nat.le_trans Zqb K271.1
            refine hst st271 ?_
            show F T271 (mkF m 274 #[.val (.long q1), .second, .val (.int p2), .val (.int p3), .val (.int p4), .val (.int p5), .val (.int nv), .val (.int ng), .val (.int rf), .val (.int fv), .val (.int sv), .val (.int tv), .val (.long u), .second, .val (.long mq), .second, .val (.ref b96), .unset, .unset, .unset] [])
            have q1_271c : own_A Z T271.heap b96 .byte 26 (fun j => .int (own_pk B s' n M 1 j)) := own_A.congr q1_271 (fun j hj => by rw [own_pk_step B s' n M 0 j])
            refine hst (fun t₀ k₀ => XS.aload X271.here hx rfl (hb hby at_274) rfl rfl k₀) ?_
            show F T271 (mkF m 276 #[.val (.long q1), .second, .val (.int p2), .val (.int p3), .val (.int p4), .val (.int p5), .val (.int nv), .val (.int ng), .val (.int rf), .val (.int fv), .val (.int sv), .val (.int tv), .val (.long u), .second, .val (.long mq), .second, .val (.ref b96), .unset, .unset, .unset] [(.ref b96)])
            refine hst (fun t₀ k₀ => XS.iload X271.here hx rfl (hb hby at_276) rfl k₀) ?_
            show F T271 (mkF m 278 #[.val (.long q1), .second, .val (.int p2), .val (.int p3), .val (.int p4), .val (.int p5), .val (.int nv), .val (.int ng), .val (.int rf), .val (.int fv), .val (.int sv), .val (.int tv), .val (.long u), .second, .val (.long mq), .second, .val (.ref b96), .unset, .unset, .unset] [(.int sv), (.ref b96)])
            refine hst (fun t₀ k₀ => XS.iload X271.here hx rfl (hb hby at_278) rfl k₀) ?_
            show F T271 (mkF m 280 #[.val (.long q1), .second, .val (.int p2), .val (.int p3), .val (.int p4), .val (.int p5), .val (.int nv), .val (.int ng), .val (.int rf), .val (.int fv), .val (.int sv), .val (.int tv), .val (.long u), .second, .val (.long mq), .second, .val (.ref b96), .unset, .unset, .unset] [(.int nv), (.int sv), (.ref b96)])
            refine hst (fun t₀ k₀ => XS.iconst X271.here hx rfl (hb hby at_280) k₀) ?_
            show F T271 (mkF m 281 #[.val (.long q1), .second, .val (.int p2), .val (.int p3), .val (.int p4), .val (.int p5), .val (.int nv), .val (.int ng), .val (.int rf), .val (.int fv), .val (.int sv), .val (.int tv), .val (.long u), .second, .val (.long mq), .second, .val (.ref b96), .unset, .unset, .unset] [(.int (1 : Int32)), (.int nv), (.int sv), (.ref b96)])
            refine hst (fun t₀ k₀ => XS.lload X271.here hx rfl (hb hby at_281) rfl k₀) ?_
            show F T271 (mkF m 283 #[.val (.long q1), .second, .val (.int p2), .val (.int p3), .val (.int p4), .val (.int p5), .val (.int nv), .val (.int ng), .val (.int rf), .val (.int fv), .val (.int sv), .val (.int tv), .val (.long u), .second, .val (.long mq), .second, .val (.ref b96), .unset, .unset, .unset] [(.long mq), (.int (1 : Int32)), (.int nv), (.int sv), (.ref b96)])
            obtain ⟨v283, T283, Lc283, X283, hQ283, st283⟩ := own_callS X271 hx hZ hown (y := (⟨"com/example/leafline/leafline/table/IntegerValueParsePlain372PinLaw", "put", "([BIIIJ)V"⟩ : MethodName)) (hw _ (List.mem_of_getElem? (i := 26) rfl)) (hw _ (List.mem_of_getElem? (i := 27) rfl)) (hw _ (List.mem_of_getElem? (i := 4) rfl)) (hw _ (List.mem_of_getElem? (i := 28) rfl)) (by decide) rfl (rm2 l Z a0 hw [] b96 sv nv (1 : Int32) mq (own_pk B s' n M 1) s' n 1 M T271.heap n0 Z0_p271 q1_271c ge_b96 hs hn (by decide) hM hs2 hn2) (by decide) (by decide) (g := (mkF m 283 #[.val (.long q1), .second, .val (.int p2), .val (.int p3), .val (.int p4), .val (.int p5), .val (.int nv), .val (.int ng), .val (.int rf), .val (.int fv), .val (.int sv), .val (.int tv), .val (.long u), .second, .val (.long mq), .second, .val (.ref b96), .unset, .unset, .unset] [(.long mq), (.int (1 : Int32)), (.int nv), (.int sv), (.ref b96)])) rfl (by rw [hml]; rfl) (argsL := [(.ref b96), (.int sv), (.int nv), (.int (1 : Int32)), (.long mq)]) (rest := []) (lenOf pd_2 rfl) rfl rfl (W := 0) (by show 2 * 0 + _ ≤ _; exact Nat.le_of_eq rfl) (hb hby at_283) (by decide) (by decide)
            obtain ⟨rfl, Nq283, K283, q1_283⟩ := hQ283
            have N283 := Fr.app N271 Nq283
            have Z0_p283 : n0 ≤ T283.heap.size := Nat.le_trans Z0_p271 K283.1
            refine hst st283 ?_
            show F T283 (mkF m 286 #[.val (.long q1), .second, .val (.int p2), .val (.int p3), .val (.int p4), .val (.int p5), .val (.int nv), .val (.int ng), .val (.int rf), .val (.int fv), .val (.int sv), .val (.int tv), .val (.long u), .second, .val (.long mq), .second, .val (.ref b96), .unset, .unset, .unset] [])
            have q1_283c : own_A Z T283.heap b96 .byte 26 (fun j => .int (own_pk B s' n M 2 j)) := own_A.congr q1_283 (fun j hj => by rw [own_pk_step B s' n M 1 j])
            refine hst (fun t₀ k₀ => XS.aload X283.here hx rfl (hb hby at_286) rfl rfl k₀) ?_
            show F T283 (mkF m 288 #[.val (.long q1), .second, .val (.int p2), .val (.int p3), .val (.int p4), .val (.int p5), .val (.int nv), .val (.int ng), .val (.int rf), .val (.int fv), .val (.int sv), .val (.int tv), .val (.long u), .second, .val (.long mq), .second, .val (.ref b96), .unset, .unset, .unset] [(.ref b96)])
            refine hst (fun t₀ k₀ => XS.iload X283.here hx rfl (hb hby at_288) rfl k₀) ?_
            show F T283 (mkF m 290 #[.val (.long q1), .second, .val (.int p2), .val (.int p3), .val (.int p4), .val (.int p5), .val (.int nv), .val (.int ng), .val (.int rf), .val (.int fv), .val (.int sv), .val (.int tv), .val (.long u), .second, .val (.long mq), .second, .val (.ref b96), .unset, .unset, .unset] [(.int sv), (.ref b96)])
            refine hst (fun t₀ k₀ => XS.iload X283.here hx rfl (hb hby at_290) rfl k₀) ?_
            show F T283 (mkF m 292 #[.val (.long q1), .second, .val (.int p2), .val (.int p3), .val (.int p4), .val (.int p5), .val (.int nv), .val (.int ng), .val (.int rf), .val (.int fv), .val (.int sv), .val (.int tv), .val (.long u), .second, .val (.long mq), .second, .val (.ref b96), .unset, .unset, .unset] [(.int nv), (.int sv), (.ref b96)])
            refine hst (fun t₀ k₀ => XS.iconst X283.here hx rfl (hb hby at_292) k₀) ?_
            show F T283 (mkF m 293 #[.val (.long q1), .second, .val (.int p2), .val (.int p3), .val (.int p4), .val (.int p5), .val (.int nv), .val (.int ng), .val (.int rf), .val (.int fv), .val (.int sv), .val (.int tv), .val (.long u), .second, .val (.long mq), .second, .val (.ref b96), .unset, .unset, .unset] [(.int (2 : Int32)), (.int nv), (.int sv), (.ref b96)])
            refine hst (fun t₀ k₀ => XS.lload X283.here hx rfl (hb hby at_293) rfl k₀) ?_
            show F T283 (mkF m 295 #[.val (.long q1), .second, .val (.int p2), .val (.int p3), .val (.int p4), .val (.int p5), .val (.int nv), .val (.int ng), .val (.int rf), .val (.int fv), .val (.int sv), .val (.int tv), .val (.long u), .second, .val (.long mq), .second, .val (.ref b96), .unset, .unset, .unset] [(.long mq), (.int (2 : Int32)), (.int nv), (.int sv), (.ref b96)])
            obtain ⟨v295, T295, Lc295, X295, hQ295, st295⟩ := own_callS X283 hx hZ hown (y := (⟨"com/example/leafline/leafline/table/IntegerValueParsePlain372PinLaw", "put", "([BIIIJ)V"⟩ : MethodName)) (hw _ (List.mem_of_getElem? (i := 26) rfl)) (hw _ (List.mem_of_getElem? (i := 27) rfl)) (hw _ (List.mem_of_getElem? (i := 4) rfl)) (hw _ (List.mem_of_getElem? (i := 28) rfl)) (by decide) rfl (rm2 l Z a0 hw [] b96 sv nv (2 : Int32) mq (own_pk B s' n M 2) s' n 2 M T283.heap n0 Z0_p283 q1_283c ge_b96 hs hn (by decide) hM hs2 hn2) (by decide) (by decide) (g := (mkF m 295 #[.val (.long q1), .second, .val (.int p2), .val (.int p3), .val (.int p4), .val (.int p5), .val (.int nv), .val (.int ng), .val (.int rf), .val (.int fv), .val (.int sv), .val (.int tv), .val (.long u), .second, .val (.long mq), .second, .val (.ref b96), .unset, .unset, .unset] [(.long mq), (.int (2 : Int32)), (.int nv), (.int sv), (.ref b96)])) rfl (by rw [hml]; rfl) (argsL := [(.ref b96), (.int sv), (.int nv), (.int (2 : Int32)), (.long mq)]) (rest := []) (lenOf pd_2 rfl) rfl rfl (W := 0) (by show 2 * 0 + _ ≤ _; exact Nat.le_of_eq rfl) (hb hby at_295) (by decide) (by decide)
            obtain ⟨rfl, Nq295, K295, q1_295⟩ := hQ295
            have N295 := Fr.app N283 Nq295
            have Z0_p295 : n0 ≤ T295.heap.size := Nat.le_trans Z0_p283 K295.1
            refine hst st295 ?_
            show F T295 (mkF m 298 #[.val (.long q1), .second, .val (.int p2), .val (.int p3), .val (.int p4), .val (.int p5), .val (.int nv), .val (.int ng), .val (.int rf), .val (.int fv), .val (.int sv), .val (.int tv), .val (.long u), .second, .val (.long mq), .second, .val (.ref b96), .unset, .unset, .unset] [])
            have q1_295c : own_A Z T295.heap b96 .byte 26 (fun j => .int (own_pk B s' n M 3 j)) := own_A.congr q1_295 (fun j hj => by rw [own_pk_step B s' n M 2 j])
            refine hst (fun t₀ k₀ => XS.aload X295.here hx rfl (hb hby at_298) rfl rfl k₀) ?_
            show F T295 (mkF m 300 #[.val (.long q1), .second, .val (.int p2), .val (.int p3), .val (.int p4), .val (.int p5), .val (.int nv), .val (.int ng), .val (.int rf), .val (.int fv), .val (.int sv), .val (.int tv), .val (.long u), .second, .val (.long mq), .second, .val (.ref b96), .unset, .unset, .unset] [(.ref b96)])
            refine hst (fun t₀ k₀ => XS.iload X295.here hx rfl (hb hby at_300) rfl k₀) ?_
            show F T295 (mkF m 302 #[.val (.long q1), .second, .val (.int p2), .val (.int p3), .val (.int p4), .val (.int p5), .val (.int nv), .val (.int ng), .val (.int rf), .val (.int fv), .val (.int sv), .val (.int tv), .val (.long u), .second, .val (.long mq), .second, .val (.ref b96), .unset, .unset, .unset] [(.int sv), (.ref b96)])
            refine hst (fun t₀ k₀ => XS.iload X295.here hx rfl (hb hby at_302) rfl k₀) ?_
            show F T295 (mkF m 304 #[.val (.long q1), .second, .val (.int p2), .val (.int p3), .val (.int p4), .val (.int p5), .val (.int nv), .val (.int ng), .val (.int rf), .val (.int fv), .val (.int sv), .val (.int tv), .val (.long u), .second, .val (.long mq), .second, .val (.ref b96), .unset, .unset, .unset] [(.int nv), (.int sv), (.ref b96)])
            refine hst (fun t₀ k₀ => XS.iconst X295.here hx rfl (hb hby at_304) k₀) ?_
            show F T295 (mkF m 305 #[.val (.long q1), .second, .val (.int p2), .val (.int p3), .val (.int p4), .val (.int p5), .val (.int nv), .val (.int ng), .val (.int rf), .val (.int fv), .val (.int sv), .val (.int tv), .val (.long u), .second, .val (.long mq), .second, .val (.ref b96), .unset, .unset, .unset] [(.int (3 : Int32)), (.int nv), (.int sv), (.ref b96)])
            refine hst (fun t₀ k₀ => XS.lload X295.here hx rfl (hb hby at_305) rfl k₀) ?_
            show F T295 (mkF m 307 #[.val (.long q1), .second, .val (.int p2), .val (.int p3), .val (.int p4), .val (.int p5), .val (.int nv), .val (.int ng), .val (.int rf), .val (.int fv), .val (.int sv), .val (.int tv), .val (.long u), .second, .val (.long mq), .second, .val (.ref b96), .unset, .unset, .unset] [(.long mq), (.int (3 : Int32)), (.int nv), (.int sv), (.ref b96)])
            obtain ⟨v307, T307, Lc307, X307, hQ307, st307⟩ := own_callS X295 hx hZ hown (y := (⟨"com/example/leafline/leafline/table/IntegerValueParsePlain372PinLaw", "put", "([BIIIJ)V"⟩ : MethodName)) (hw _ (List.mem_of_getElem? (i := 26) rfl)) (hw _ (List.mem_of_getElem? (i := 27) rfl)) (hw _ (List.mem_of_getElem? (i := 4) rfl)) (hw _ (List.mem_of_getElem? (i := 28) rfl)) (by decide) rfl (rm2 l Z a0 hw [] b96 sv nv (3 : Int32) mq (own_pk B s' n M 3) s' n 3 M T295.heap n0 Z0_p295 q1_295c ge_b96 hs hn (by decide) hM hs2 hn2) (by decide) (by decide) (g := (mkF m 307 #[.val (.long q1), .second, .val (.int p2), .val (.int p3), .val (.int p4), .val (.int p5), .val (.int nv), .val (.int ng), .val (.int rf), .val (.int fv), .val (.int sv), .val (.int tv), .val (.long u), .second, .val (.long mq), .second, .val (.ref b96), .unset, .unset, .unset] [(.long mq), (.int (3 : Int32)), (.int nv), (.int sv), (.ref b96)])) rfl (by rw [hml]; rfl) (argsL := [(.ref b96), (.int sv), (.int nv), (.int (3 : Int32)), (.long mq)]) (rest := []) (lenOf pd_2 rfl) rfl rfl (W := 0) (by show 2 * 0 + _ ≤ _; exact Nat.le_of_eq rfl) (hb hby at_307) (by decide) (by decide)
            obtain ⟨rfl, Nq307, K307, q1_307⟩ := hQ307
            have N307 := Fr.app N295 Nq307
            have Z0_p307 : n0 ≤ T307.heap.size := Nat.le_trans Z0_p295 K307.1
            refine hst st307 ?_
            show F T307 (mkF m 310 #[.val (.long q1), .second, .val (.int p2), .val (.int p3), .val (.int p4), .val (.int p5), .val (.int nv), .val (.int ng), .val (.int rf), .val (.int fv), .val (.int sv), .val (.int tv), .val (.long u), .second, .val (.long mq), .second, .val (.ref b96), .unset, .unset, .unset] [])
            have q1_307c : own_A Z T307.heap b96 .byte 26 (fun j => .int (own_pk B s' n M 4 j)) := own_A.congr q1_307 (fun j hj => by rw [own_pk_step B s' n M 3 j])
            refine hst (fun t₀ k₀ => XS.aload X307.here hx rfl (hb hby at_310) rfl rfl k₀) ?_
            show F T307 (mkF m 312 #[.val (.long q1), .second, .val (.int p2), .val (.int p3), .val (.int p4), .val (.int p5), .val (.int nv), .val (.int ng), .val (.int rf), .val (.int fv), .val (.int sv), .val (.int tv), .val (.long u), .second, .val (.long mq), .second, .val (.ref b96), .unset, .unset, .unset] [(.ref b96)])
            refine hst (fun t₀ k₀ => XS.iload X307.here hx rfl (hb hby at_312) rfl k₀) ?_
            show F T307 (mkF m 314 #[.val (.long q1), .second, .val (.int p2), .val (.int p3), .val (.int p4), .val (.int p5), .val (.int nv), .val (.int ng), .val (.int rf), .val (.int fv), .val (.int sv), .val (.int tv), .val (.long u), .second, .val (.long mq), .second, .val (.ref b96), .unset, .unset, .unset] [(.int sv), (.ref b96)])
            refine hst (fun t₀ k₀ => XS.iload X307.here hx rfl (hb hby at_314) rfl k₀) ?_
            show F T307 (mkF m 316 #[.val (.long q1), .second, .val (.int p2), .val (.int p3), .val (.int p4), .val (.int p5), .val (.int nv), .val (.int ng), .val (.int rf), .val (.int fv), .val (.int sv), .val (.int tv), .val (.long u), .second, .val (.long mq), .second, .val (.ref b96), .unset, .unset, .unset] [(.int nv), (.int sv), (.ref b96)])
            refine hst (fun t₀ k₀ => XS.iconst X307.here hx rfl (hb hby at_316) k₀) ?_
            show F T307 (mkF m 317 #[.val (.long q1), .second, .val (.int p2), .val (.int p3), .val (.int p4), .val (.int p5), .val (.int nv), .val (.int ng), .val (.int rf), .val (.int fv), .val (.int sv), .val (.int tv), .val (.long u), .second, .val (.long mq), .second, .val (.ref b96), .unset, .unset, .unset] [(.int (4 : Int32)), (.int nv), (.int sv), (.ref b96)])
            refine hst (fun t₀ k₀ => XS.lload X307.here hx rfl (hb hby at_317) rfl k₀) ?_
            show F T307 (mkF m 319 #[.val (.long q1), .second, .val (.int p2), .val (.int p3), .val (.int p4), .val (.int p5), .val (.int nv), .val (.int ng), .val (.int rf), .val (.int fv), .val (.int sv), .val (.int tv), .val (.long u), .second, .val (.long mq), .second, .val (.ref b96), .unset, .unset, .unset] [(.long mq), (.int (4 : Int32)), (.int nv), (.int sv), (.ref b96)])
            obtain ⟨v319, T319, Lc319, X319, hQ319, st319⟩ := own_callS X307 hx hZ hown (y := (⟨"com/example/leafline/leafline/table/IntegerValueParsePlain372PinLaw", "put", "([BIIIJ)V"⟩ : MethodName)) (hw _ (List.mem_of_getElem? (i := 26) rfl)) (hw _ (List.mem_of_getElem? (i := 27) rfl)) (hw _ (List.mem_of_getElem? (i := 4) rfl)) (hw _ (List.mem_of_getElem? (i := 28) rfl)) (by decide) rfl (rm2 l Z a0 hw [] b96 sv nv (4 : Int32) mq (own_pk B s' n M 4) s' n 4 M T307.heap n0 Z0_p307 q1_307c ge_b96 hs hn (by decide) hM hs2 hn2) (by decide) (by decide) (g := (mkF m 319 #[.val (.long q1), .second, .val (.int p2), .val (.int p3), .val (.int p4), .val (.int p5), .val (.int nv), .val (.int ng), .val (.int rf), .val (.int fv), .val (.int sv), .val (.int tv), .val (.long u), .second, .val (.long mq), .second, .val (.ref b96), .unset, .unset, .unset] [(.long mq), (.int (4 : Int32)), (.int nv), (.int sv), (.ref b96)])) rfl (by rw [hml]; rfl) (argsL := [(.ref b96), (.int sv), (.int nv), (.int (4 : Int32)), (.long mq)]) (rest := []) (lenOf pd_2 rfl) rfl rfl (W := 0) (by show 2 * 0 + _ ≤ _; exact Nat.le_of_eq rfl) (hb hby at_319) (by decide) (by decide)
            obtain ⟨rfl, Nq319, K319, q1_319⟩ := hQ319
            have N319 := Fr.app N307 Nq319
            have Z0_p319 : n0 ≤ T319.heap.size := Nat.le_trans Z0_p307 K319.1
            refine hst st319 ?_
            show F T319 (mkF m 322 #[.val (.long q1), .second, .val (.int p2), .val (.int p3), .val (.int p4), .val (.int p5), .val (.int nv), .val (.int ng), .val (.int rf), .val (.int fv), .val (.int sv), .val (.int tv), .val (.long u), .second, .val (.long mq), .second, .val (.ref b96), .unset, .unset, .unset] [])
            have q1_319c : own_A Z T319.heap b96 .byte 26 (fun j => .int (own_pk B s' n M 5 j)) := own_A.congr q1_319 (fun j hj => by rw [own_pk_step B s' n M 4 j])
            refine hst (fun t₀ k₀ => XS.aload X319.here hx rfl (hb hby at_322) rfl rfl k₀) ?_
            show F T319 (mkF m 324 #[.val (.long q1), .second, .val (.int p2), .val (.int p3), .val (.int p4), .val (.int p5), .val (.int nv), .val (.int ng), .val (.int rf), .val (.int fv), .val (.int sv), .val (.int tv), .val (.long u), .second, .val (.long mq), .second, .val (.ref b96), .unset, .unset, .unset] [(.ref b96)])
            refine hst (fun t₀ k₀ => XS.iload X319.here hx rfl (hb hby at_324) rfl k₀) ?_
            show F T319 (mkF m 326 #[.val (.long q1), .second, .val (.int p2), .val (.int p3), .val (.int p4), .val (.int p5), .val (.int nv), .val (.int ng), .val (.int rf), .val (.int fv), .val (.int sv), .val (.int tv), .val (.long u), .second, .val (.long mq), .second, .val (.ref b96), .unset, .unset, .unset] [(.int sv), (.ref b96)])
            refine hst (fun t₀ k₀ => XS.iload X319.here hx rfl (hb hby at_326) rfl k₀) ?_
            show F T319 (mkF m 328 #[.val (.long q1), .second, .val (.int p2), .val (.int p3), .val (.int p4), .val (.int p5), .val (.int nv), .val (.int ng), .val (.int rf), .val (.int fv), .val (.int sv), .val (.int tv), .val (.long u), .second, .val (.long mq), .second, .val (.ref b96), .unset, .unset, .unset] [(.int nv), (.int sv), (.ref b96)])
            refine hst (fun t₀ k₀ => XS.iconst X319.here hx rfl (hb hby at_328) k₀) ?_
            show F T319 (mkF m 329 #[.val (.long q1), .second, .val (.int p2), .val (.int p3), .val (.int p4), .val (.int p5), .val (.int nv), .val (.int ng), .val (.int rf), .val (.int fv), .val (.int sv), .val (.int tv), .val (.long u), .second, .val (.long mq), .second, .val (.ref b96), .unset, .unset, .unset] [(.int (5 : Int32)), (.int nv), (.int sv), (.ref b96)])
            refine hst (fun t₀ k₀ => XS.lload X319.here hx rfl (hb hby at_329) rfl k₀) ?_
            show F T319 (mkF m 331 #[.val (.long q1), .second, .val (.int p2), .val (.int p3), .val (.int p4), .val (.int p5), .val (.int nv), .val (.int ng), .val (.int rf), .val (.int fv), .val (.int sv), .val (.int tv), .val (.long u), .second, .val (.long mq), .second, .val (.ref b96), .unset, .unset, .unset] [(.long mq), (.int (5 : Int32)), (.int nv), (.int sv), (.ref b96)])
            obtain ⟨v331, T331, Lc331, X331, hQ331, st331⟩ := own_callS X319 hx hZ hown (y := (⟨"com/example/leafline/leafline/table/IntegerValueParsePlain372PinLaw", "put", "([BIIIJ)V"⟩ : MethodName)) (hw _ (List.mem_of_getElem? (i := 26) rfl)) (hw _ (List.mem_of_getElem? (i := 27) rfl)) (hw _ (List.mem_of_getElem? (i := 4) rfl)) (hw _ (List.mem_of_getElem? (i := 28) rfl)) (by decide) rfl (rm2 l Z a0 hw [] b96 sv nv (5 : Int32) mq (own_pk B s' n M 5) s' n 5 M T319.heap n0 Z0_p319 q1_319c ge_b96 hs hn (by decide) hM hs2 hn2) (by decide) (by decide) (g := (mkF m 331 #[.val (.long q1), .second, .val (.int p2), .val (.int p3), .val (.int p4), .val (.int p5), .val (.int nv), .val (.int ng), .val (.int rf), .val (.int fv), .val (.int sv), .val (.int tv), .val (.long u), .second, .val (.long mq), .second, .val (.ref b96), .unset, .unset, .unset] [(.long mq), (.int (5 : Int32)), (.int nv), (.int sv), (.ref b96)])) rfl (by rw [hml]; rfl) (argsL := [(.ref b96), (.int sv), (.int nv), (.int (5 : Int32)), (.long mq)]) (rest := []) (lenOf pd_2 rfl) rfl rfl (W := 0) (by show 2 * 0 + _ ≤ _; exact Nat.le_of_eq rfl) (hb hby at_331) (by decide) (by decide)
            obtain ⟨rfl, Nq331, K331, q1_331⟩ := hQ331
            have N331 := Fr.app N319 Nq331
            have Z0_p331 : n0 ≤ T331.heap.size := Nat.le_trans Z0_p319 K331.1
            refine hst st331 ?_
            show F T331 (mkF m 334 #[.val (.long q1), .second, .val (.int p2), .val (.int p3), .val (.int p4), .val (.int p5), .val (.int nv), .val (.int ng), .val (.int rf), .val (.int fv), .val (.int sv), .val (.int tv), .val (.long u), .second, .val (.long mq), .second, .val (.ref b96), .unset, .unset, .unset] [])
            have q1_331c : own_A Z T331.heap b96 .byte 26 (fun j => .int (own_pk B s' n M 6 j)) := own_A.congr q1_331 (fun j hj => by rw [own_pk_step B s' n M 5 j])
            refine hst (fun t₀ k₀ => XS.aload X331.here hx rfl (hb hby at_334) rfl rfl k₀) ?_
            show F T331 (mkF m 336 #[.val (.long q1), .second, .val (.int p2), .val (.int p3), .val (.int p4), .val (.int p5), .val (.int nv), .val (.int ng), .val (.int rf), .val (.int fv), .val (.int sv), .val (.int tv), .val (.long u), .second, .val (.long mq), .second, .val (.ref b96), .unset, .unset, .unset] [(.ref b96)])
            refine hst (fun t₀ k₀ => XS.iload X331.here hx rfl (hb hby at_336) rfl k₀) ?_
            show F T331 (mkF m 338 #[.val (.long q1), .second, .val (.int p2), .val (.int p3), .val (.int p4), .val (.int p5), .val (.int nv), .val (.int ng), .val (.int rf), .val (.int fv), .val (.int sv), .val (.int tv), .val (.long u), .second, .val (.long mq), .second, .val (.ref b96), .unset, .unset, .unset] [(.int sv), (.ref b96)])
            refine hst (fun t₀ k₀ => XS.iload X331.here hx rfl (hb hby at_338) rfl k₀) ?_
            show F T331 (mkF m 340 #[.val (.long q1), .second, .val (.int p2), .val (.int p3), .val (.int p4), .val (.int p5), .val (.int nv), .val (.int ng), .val (.int rf), .val (.int fv), .val (.int sv), .val (.int tv), .val (.long u), .second, .val (.long mq), .second, .val (.ref b96), .unset, .unset, .unset] [(.int nv), (.int sv), (.ref b96)])
            refine hst (fun t₀ k₀ => XS.bipush X331.here hx rfl (hb hby at_340) k₀) ?_
            show F T331 (mkF m 342 #[.val (.long q1), .second, .val (.int p2), .val (.int p3), .val (.int p4), .val (.int p5), .val (.int nv), .val (.int ng), .val (.int rf), .val (.int fv), .val (.int sv), .val (.int tv), .val (.long u), .second, .val (.long mq), .second, .val (.ref b96), .unset, .unset, .unset] [(.int (6 : Int32)), (.int nv), (.int sv), (.ref b96)])
            refine hst (fun t₀ k₀ => XS.lload X331.here hx rfl (hb hby at_342) rfl k₀) ?_
            show F T331 (mkF m 344 #[.val (.long q1), .second, .val (.int p2), .val (.int p3), .val (.int p4), .val (.int p5), .val (.int nv), .val (.int ng), .val (.int rf), .val (.int fv), .val (.int sv), .val (.int tv), .val (.long u), .second, .val (.long mq), .second, .val (.ref b96), .unset, .unset, .unset] [(.long mq), (.int (6 : Int32)), (.int nv), (.int sv), (.ref b96)])
            obtain ⟨v344, T344, Lc344, X344, hQ344, st344⟩ := own_callS X331 hx hZ hown (y := (⟨"com/example/leafline/leafline/table/IntegerValueParsePlain372PinLaw", "put", "([BIIIJ)V"⟩ : MethodName)) (hw _ (List.mem_of_getElem? (i := 26) rfl)) (hw _ (List.mem_of_getElem? (i := 27) rfl)) (hw _ (List.mem_of_getElem? (i := 4) rfl)) (hw _ (List.mem_of_getElem? (i := 28) rfl)) (by decide) rfl (rm2 l Z a0 hw [] b96 sv nv (6 : Int32) mq (own_pk B s' n M 6) s' n 6 M T331.heap n0 Z0_p331 q1_331c ge_b96 hs hn (by decide) hM hs2 hn2) (by decide) (by decide) (g := (mkF m 344 #[.val (.long q1), .second, .val (.int p2), .val (.int p3), .val (.int p4), .val (.int p5), .val (.int nv), .val (.int ng), .val (.int rf), .val (.int fv), .val (.int sv), .val (.int tv), .val (.long u), .second, .val (.long mq), .second, .val (.ref b96), .unset, .unset, .unset] [(.long mq), (.int (6 : Int32)), (.int nv), (.int sv), (.ref b96)])) rfl (by rw [hml]; rfl) (argsL := [(.ref b96), (.int sv), (.int nv), (.int (6 : Int32)), (.long mq)]) (rest := []) (lenOf pd_2 rfl) rfl rfl (W := 0) (by show 2 * 0 + _ ≤ _; exact Nat.le_of_eq rfl) (hb hby at_344) (by decide) (by decide)
            obtain ⟨rfl, Nq344, K344, q1_344⟩ := hQ344
            have N344 := Fr.app N331 Nq344
            have Z0_p344 : n0 ≤ T344.heap.size := Nat.le_trans Z0_p331 K344.1
            refine hst st344 ?_
            show F T344 (mkF m 347 #[.val (.long q1), .second, .val (.int p2), .val (.int p3), .val (.int p4), .val (.int p5), .val (.int nv), .val (.int ng), .val (.int rf), .val (.int fv), .val (.int sv), .val (.int tv), .val (.long u), .second, .val (.long mq), .second, .val (.ref b96), .unset, .unset, .unset] [])
            have q1_344c : own_A Z T344.heap b96 .byte 26 (fun j => .int (own_pk B s' n M 7 j)) := own_A.congr q1_344 (fun j hj => by rw [own_pk_step B s' n M 6 j])
            refine hst (fun t₀ k₀ => XS.aload X344.here hx rfl (hb hby at_347) rfl rfl k₀) ?_
            show F T344 (mkF m 349 #[.val (.long q1), .second, .val (.int p2), .val (.int p3), .val (.int p4), .val (.int p5), .val (.int nv), .val (.int ng), .val (.int rf), .val (.int fv), .val (.int sv), .val (.int tv), .val (.long u), .second, .val (.long mq), .second, .val (.ref b96), .unset, .unset, .unset] [(.ref b96)])
            refine hst (fun t₀ k₀ => XS.iload X344.here hx rfl (hb hby at_349) rfl k₀) ?_
            show F T344 (mkF m 351 #[.val (.long q1), .second, .val (.int p2), .val (.int p3), .val (.int p4), .val (.int p5), .val (.int nv), .val (.int ng), .val (.int rf), .val (.int fv), .val (.int sv), .val (.int tv), .val (.long u), .second, .val (.long mq), .second, .val (.ref b96), .unset, .unset, .unset] [(.int sv), (.ref b96)])
            refine hst (fun t₀ k₀ => XS.iload X344.here hx rfl (hb hby at_351) rfl k₀) ?_
            show F T344 (mkF m 353 #[.val (.long q1), .second, .val (.int p2), .val (.int p3), .val (.int p4), .val (.int p5), .val (.int nv), .val (.int ng), .val (.int rf), .val (.int fv), .val (.int sv), .val (.int tv), .val (.long u), .second, .val (.long mq), .second, .val (.ref b96), .unset, .unset, .unset] [(.int nv), (.int sv), (.ref b96)])
            refine hst (fun t₀ k₀ => XS.bipush X344.here hx rfl (hb hby at_353) k₀) ?_
            show F T344 (mkF m 355 #[.val (.long q1), .second, .val (.int p2), .val (.int p3), .val (.int p4), .val (.int p5), .val (.int nv), .val (.int ng), .val (.int rf), .val (.int fv), .val (.int sv), .val (.int tv), .val (.long u), .second, .val (.long mq), .second, .val (.ref b96), .unset, .unset, .unset] [(.int (7 : Int32)), (.int nv), (.int sv), (.ref b96)])
            refine hst (fun t₀ k₀ => XS.lload X344.here hx rfl (hb hby at_355) rfl k₀) ?_
            show F T344 (mkF m 357 #[.val (.long q1), .second, .val (.int p2), .val (.int p3), .val (.int p4), .val (.int p5), .val (.int nv), .val (.int ng), .val (.int rf), .val (.int fv), .val (.int sv), .val (.int tv), .val (.long u), .second, .val (.long mq), .second, .val (.ref b96), .unset, .unset, .unset] [(.long mq), (.int (7 : Int32)), (.int nv), (.int sv), (.ref b96)])
            obtain ⟨v357, T357, Lc357, X357, hQ357, st357⟩ := own_callS X344 hx hZ hown (y := (⟨"com/example/leafline/leafline/table/IntegerValueParsePlain372PinLaw", "put", "([BIIIJ)V"⟩ : MethodName)) (hw _ (List.mem_of_getElem? (i := 26) rfl)) (hw _ (List.mem_of_getElem? (i := 27) rfl)) (hw _ (List.mem_of_getElem? (i := 4) rfl)) (hw _ (List.mem_of_getElem? (i := 28) rfl)) (by decide) rfl (rm2 l Z a0 hw [] b96 sv nv (7 : Int32) mq (own_pk B s' n M 7) s' n 7 M T344.heap n0 Z0_p344 q1_344c ge_b96 hs hn (by decide) hM hs2 hn2) (by decide) (by decide) (g := (mkF m 357 #[.val (.long q1), .second, .val (.int p2), .val (.int p3), .val (.int p4), .val (.int p5), .val (.int nv), .val (.int ng), .val (.int rf), .val (.int fv), .val (.int sv), .val (.int tv), .val (.long u), .second, .val (.long mq), .second, .val (.ref b96), .unset, .unset, .unset] [(.long mq), (.int (7 : Int32)), (.int nv), (.int sv), (.ref b96)])) rfl (by rw [hml]; rfl) (argsL := [(.ref b96), (.int sv), (.int nv), (.int (7 : Int32)), (.long mq)]) (rest := []) (lenOf pd_2 rfl) rfl rfl (W := 0) (by show 2 * 0 + _ ≤ _; exact Nat.le_of_eq rfl) (hb hby at_357) (by decide) (by decide)
            obtain ⟨rfl, Nq357, K357, q1_357⟩ := hQ357
            have N357 := Fr.app N344 Nq357
            have Z0_p357 : n0 ≤ T357.heap.size := Nat.le_trans Z0_p344 K357.1
            refine hst st357 ?_
            show F T357 (mkF m 360 #[.val (.long q1), .second, .val (.int p2), .val (.int p3), .val (.int p4), .val (.int p5), .val (.int nv), .val (.int ng), .val (.int rf), .val (.int fv), .val (.int sv), .val (.int tv), .val (.long u), .second, .val (.long mq), .second, .val (.ref b96), .unset, .unset, .unset] [])
            have q1_357c : own_A Z T357.heap b96 .byte 26 (fun j => .int (own_pk B s' n M 8 j)) := own_A.congr q1_357 (fun j hj => by rw [own_pk_step B s' n M 7 j])
            refine hst (fun t₀ k₀ => XS.aload X357.here hx rfl (hb hby at_360) rfl rfl k₀) ?_
            show F T357 (mkF m 362 #[.val (.long q1), .second, .val (.int p2), .val (.int p3), .val (.int p4), .val (.int p5), .val (.int nv), .val (.int ng), .val (.int rf), .val (.int fv), .val (.int sv), .val (.int tv), .val (.long u), .second, .val (.long mq), .second, .val (.ref b96), .unset, .unset, .unset] [(.ref b96)])
            refine hst (fun t₀ k₀ => XS.iload X357.here hx rfl (hb hby at_362) rfl k₀) ?_
            show F T357 (mkF m 364 #[.val (.long q1), .second, .val (.int p2), .val (.int p3), .val (.int p4), .val (.int p5), .val (.int nv), .val (.int ng), .val (.int rf), .val (.int fv), .val (.int sv), .val (.int tv), .val (.long u), .second, .val (.long mq), .second, .val (.ref b96), .unset, .unset, .unset] [(.int sv), (.ref b96)])
            refine hst (fun t₀ k₀ => XS.iload X357.here hx rfl (hb hby at_364) rfl k₀) ?_
            show F T357 (mkF m 366 #[.val (.long q1), .second, .val (.int p2), .val (.int p3), .val (.int p4), .val (.int p5), .val (.int nv), .val (.int ng), .val (.int rf), .val (.int fv), .val (.int sv), .val (.int tv), .val (.long u), .second, .val (.long mq), .second, .val (.ref b96), .unset, .unset, .unset] [(.int nv), (.int sv), (.ref b96)])
            refine hst (fun t₀ k₀ => XS.bipush X357.here hx rfl (hb hby at_366) k₀) ?_
            show F T357 (mkF m 368 #[.val (.long q1), .second, .val (.int p2), .val (.int p3), .val (.int p4), .val (.int p5), .val (.int nv), .val (.int ng), .val (.int rf), .val (.int fv), .val (.int sv), .val (.int tv), .val (.long u), .second, .val (.long mq), .second, .val (.ref b96), .unset, .unset, .unset] [(.int (8 : Int32)), (.int nv), (.int sv), (.ref b96)])
            refine hst (fun t₀ k₀ => XS.lload X357.here hx rfl (hb hby at_368) rfl k₀) ?_
            show F T357 (mkF m 370 #[.val (.long q1), .second, .val (.int p2), .val (.int p3), .val (.int p4), .val (.int p5), .val (.int nv), .val (.int ng), .val (.int rf), .val (.int fv), .val (.int sv), .val (.int tv), .val (.long u), .second, .val (.long mq), .second, .val (.ref b96), .unset, .unset, .unset] [(.long mq), (.int (8 : Int32)), (.int nv), (.int sv), (.ref b96)])
            obtain ⟨v370, T370, Lc370, X370, hQ370, st370⟩ := own_callS X357 hx hZ hown (y := (⟨"com/example/leafline/leafline/table/IntegerValueParsePlain372PinLaw", "put", "([BIIIJ)V"⟩ : MethodName)) (hw _ (List.mem_of_getElem? (i := 26) rfl)) (hw _ (List.mem_of_getElem? (i := 27) rfl)) (hw _ (List.mem_of_getElem? (i := 4) rfl)) (hw _ (List.mem_of_getElem? (i := 28) rfl)) (by decide) rfl (rm2 l Z a0 hw [] b96 sv nv (8 : Int32) mq (own_pk B s' n M 8) s' n 8 M T357.heap n0 Z0_p357 q1_357c ge_b96 hs hn (by decide) hM hs2 hn2) (by decide) (by decide) (g := (mkF m 370 #[.val (.long q1), .second, .val (.int p2), .val (.int p3), .val (.int p4), .val (.int p5), .val (.int nv), .val (.int ng), .val (.int rf), .val (.int fv), .val (.int sv), .val (.int tv), .val (.long u), .second, .val (.long mq), .second, .val (.ref b96), .unset, .unset, .unset] [(.long mq), (.int (8 : Int32)), (.int nv), (.int sv), (.ref b96)])) rfl (by rw [hml]; rfl) (argsL := [(.ref b96), (.int sv), (.int nv), (.int (8 : Int32)), (.long mq)]) (rest := []) (lenOf pd_2 rfl) rfl rfl (W := 0) (by show 2 * 0 + _ ≤ _; exact Nat.le_of_eq rfl) (hb hby at_370) (by decide) (by decide)
            obtain ⟨rfl, Nq370, K370, q1_370⟩ := hQ370
            have N370 := Fr.app N357 Nq370
            have Z0_p370 : n0 ≤ T370.heap.size := Nat.le_trans Z0_p357 K370.1
            refine hst st370 ?_
            show F T370 (mkF m 373 #[.val (.long q1), .second, .val (.int p2), .val (.int p3), .val (.int p4), .val (.int p5), .val (.int nv), .val (.int ng), .val (.int rf), .val (.int fv), .val (.int sv), .val (.int tv), .val (.long u), .second, .val (.long mq), .second, .val (.ref b96), .unset, .unset, .unset] [])
            have q1_370c : own_A Z T370.heap b96 .byte 26 (fun j => .int (own_pk B s' n M 9 j)) := own_A.congr q1_370 (fun j hj => by rw [own_pk_step B s' n M 8 j])
            refine hst (fun t₀ k₀ => XS.aload X370.here hx rfl (hb hby at_373) rfl rfl k₀) ?_
            show F T370 (mkF m 375 #[.val (.long q1), .second, .val (.int p2), .val (.int p3), .val (.int p4), .val (.int p5), .val (.int nv), .val (.int ng), .val (.int rf), .val (.int fv), .val (.int sv), .val (.int tv), .val (.long u), .second, .val (.long mq), .second, .val (.ref b96), .unset, .unset, .unset] [(.ref b96)])
            refine hst (fun t₀ k₀ => XS.iload X370.here hx rfl (hb hby at_375) rfl k₀) ?_
            show F T370 (mkF m 377 #[.val (.long q1), .second, .val (.int p2), .val (.int p3), .val (.int p4), .val (.int p5), .val (.int nv), .val (.int ng), .val (.int rf), .val (.int fv), .val (.int sv), .val (.int tv), .val (.long u), .second, .val (.long mq), .second, .val (.ref b96), .unset, .unset, .unset] [(.int sv), (.ref b96)])
            refine hst (fun t₀ k₀ => XS.iload X370.here hx rfl (hb hby at_377) rfl k₀) ?_
            show F T370 (mkF m 379 #[.val (.long q1), .second, .val (.int p2), .val (.int p3), .val (.int p4), .val (.int p5), .val (.int nv), .val (.int ng), .val (.int rf), .val (.int fv), .val (.int sv), .val (.int tv), .val (.long u), .second, .val (.long mq), .second, .val (.ref b96), .unset, .unset, .unset] [(.int nv), (.int sv), (.ref b96)])
            refine hst (fun t₀ k₀ => XS.bipush X370.here hx rfl (hb hby at_379) k₀) ?_
            show F T370 (mkF m 381 #[.val (.long q1), .second, .val (.int p2), .val (.int p3), .val (.int p4), .val (.int p5), .val (.int nv), .val (.int ng), .val (.int rf), .val (.int fv), .val (.int sv), .val (.int tv), .val (.long u), .second, .val (.long mq), .second, .val (.ref b96), .unset, .unset, .unset] [(.int (9 : Int32)), (.int nv), (.int sv), (.ref b96)])
            refine hst (fun t₀ k₀ => XS.lload X370.here hx rfl (hb hby at_381) rfl k₀) ?_
            show F T370 (mkF m 383 #[.val (.long q1), .second, .val (.int p2), .val (.int p3), .val (.int p4), .val (.int p5), .val (.int nv), .val (.int ng), .val (.int rf), .val (.int fv), .val (.int sv), .val (.int tv), .val (.long u), .second, .val (.long mq), .second, .val (.ref b96), .unset, .unset, .unset] [(.long mq), (.int (9 : Int32)), (.int nv), (.int sv), (.ref b96)])
            obtain ⟨v383, T383, Lc383, X383, hQ383, st383⟩ := own_callS X370 hx hZ hown (y := (⟨"com/example/leafline/leafline/table/IntegerValueParsePlain372PinLaw", "put", "([BIIIJ)V"⟩ : MethodName)) (hw _ (List.mem_of_getElem? (i := 26) rfl)) (hw _ (List.mem_of_getElem? (i := 27) rfl)) (hw _ (List.mem_of_getElem? (i := 4) rfl)) (hw _ (List.mem_of_getElem? (i := 28) rfl)) (by decide) rfl (rm2 l Z a0 hw [] b96 sv nv (9 : Int32) mq (own_pk B s' n M 9) s' n 9 M T370.heap n0 Z0_p370 q1_370c ge_b96 hs hn (by decide) hM hs2 hn2) (by decide) (by decide) (g := (mkF m 383 #[.val (.long q1), .second, .val (.int p2), .val (.int p3), .val (.int p4), .val (.int p5), .val (.int nv), .val (.int ng), .val (.int rf), .val (.int fv), .val (.int sv), .val (.int tv), .val (.long u), .second, .val (.long mq), .second, .val (.ref b96), .unset, .unset, .unset] [(.long mq), (.int (9 : Int32)), (.int nv), (.int sv), (.ref b96)])) rfl (by rw [hml]; rfl) (argsL := [(.ref b96), (.int sv), (.int nv), (.int (9 : Int32)), (.long mq)]) (rest := []) (lenOf pd_2 rfl) rfl rfl (W := 0) (by show 2 * 0 + _ ≤ _; exact Nat.le_of_eq rfl) (hb hby at_383) (by decide) (by decide)
            obtain ⟨rfl, Nq383, K383, q1_383⟩ := hQ383
            have N383 := Fr.app N370 Nq383
            have Z0_p383 : n0 ≤ T383.heap.size := Nat.le_trans Z0_p370 K383.1
            refine hst st383 ?_
            show F T383 (mkF m 386 #[.val (.long q1), .second, .val (.int p2), .val (.int p3), .val (.int p4), .val (.int p5), .val (.int nv), .val (.int ng), .val (.int rf), .val (.int fv), .val (.int sv), .val (.int tv), .val (.long u), .second, .val (.long mq), .second, .val (.ref b96), .unset, .unset, .unset] [])
            have q1_383c : own_A Z T383.heap b96 .byte 26 (fun j => .int (own_pk B s' n M 10 j)) := own_A.congr q1_383 (fun j hj => by rw [own_pk_step B s' n M 9 j])
            refine hst (fun t₀ k₀ => XS.aload X383.here hx rfl (hb hby at_386) rfl rfl k₀) ?_
            show F T383 (mkF m 388 #[.val (.long q1), .second, .val (.int p2), .val (.int p3), .val (.int p4), .val (.int p5), .val (.int nv), .val (.int ng), .val (.int rf), .val (.int fv), .val (.int sv), .val (.int tv), .val (.long u), .second, .val (.long mq), .second, .val (.ref b96), .unset, .unset, .unset] [(.ref b96)])
            refine hst (fun t₀ k₀ => XS.iload X383.here hx rfl (hb hby at_388) rfl k₀) ?_
            show F T383 (mkF m 390 #[.val (.long q1), .second, .val (.int p2), .val (.int p3), .val (.int p4), .val (.int p5), .val (.int nv), .val (.int ng), .val (.int rf), .val (.int fv), .val (.int sv), .val (.int tv), .val (.long u), .second, .val (.long mq), .second, .val (.ref b96), .unset, .unset, .unset] [(.int sv), (.ref b96)])
            refine hst (fun t₀ k₀ => XS.iload X383.here hx rfl (hb hby at_390) rfl k₀) ?_
            show F T383 (mkF m 392 #[.val (.long q1), .second, .val (.int p2), .val (.int p3), .val (.int p4), .val (.int p5), .val (.int nv), .val (.int ng), .val (.int rf), .val (.int fv), .val (.int sv), .val (.int tv), .val (.long u), .second, .val (.long mq), .second, .val (.ref b96), .unset, .unset, .unset] [(.int nv), (.int sv), (.ref b96)])
            refine hst (fun t₀ k₀ => XS.bipush X383.here hx rfl (hb hby at_392) k₀) ?_
            show F T383 (mkF m 394 #[.val (.long q1), .second, .val (.int p2), .val (.int p3), .val (.int p4), .val (.int p5), .val (.int nv), .val (.int ng), .val (.int rf), .val (.int fv), .val (.int sv), .val (.int tv), .val (.long u), .second, .val (.long mq), .second, .val (.ref b96), .unset, .unset, .unset] [(.int (10 : Int32)), (.int nv), (.int sv), (.ref b96)])
            refine hst (fun t₀ k₀ => XS.lload X383.here hx rfl (hb hby at_394) rfl k₀) ?_
            show F T383 (mkF m 396 #[.val (.long q1), .second, .val (.int p2), .val (.int p3), .val (.int p4), .val (.int p5), .val (.int nv), .val (.int ng), .val (.int rf), .val (.int fv), .val (.int sv), .val (.int tv), .val (.long u), .second, .val (.long mq), .second, .val (.ref b96), .unset, .unset, .unset] [(.long mq), (.int (10 : Int32)), (.int nv), (.int sv), (.ref b96)])
            obtain ⟨v396, T396, Lc396, X396, hQ396, st396⟩ := own_callS X383 hx hZ hown (y := (⟨"com/example/leafline/leafline/table/IntegerValueParsePlain372PinLaw", "put", "([BIIIJ)V"⟩ : MethodName)) (hw _ (List.mem_of_getElem? (i := 26) rfl)) (hw _ (List.mem_of_getElem? (i := 27) rfl)) (hw _ (List.mem_of_getElem? (i := 4) rfl)) (hw _ (List.mem_of_getElem? (i := 28) rfl)) (by decide) rfl (rm2 l Z a0 hw [] b96 sv nv (10 : Int32) mq (own_pk B s' n M 10) s' n 10 M T383.heap n0 Z0_p383 q1_383c ge_b96 hs hn (by decide) hM hs2 hn2) (by decide) (by decide) (g := (mkF m 396 #[.val (.long q1), .second, .val (.int p2), .val (.int p3), .val (.int p4), .val (.int p5), .val (.int nv), .val (.int ng), .val (.int rf), .val (.int fv), .val (.int sv), .val (.int tv), .val (.long u), .second, .val (.long mq), .second, .val (.ref b96), .unset, .unset, .unset] [(.long mq), (.int (10 : Int32)), (.int nv), (.int sv), (.ref b96)])) rfl (by rw [hml]; rfl) (argsL := [(.ref b96), (.int sv), (.int nv), (.int (10 : Int32)), (.long mq)]) (rest := []) (lenOf pd_2 rfl) rfl rfl (W := 0) (by show 2 * 0 + _ ≤ _; exact Nat.le_of_eq rfl) (hb hby at_396) (by decide) (by decide)
            obtain ⟨rfl, Nq396, K396, q1_396⟩ := hQ396
            have N396 := Fr.app N383 Nq396
            have Z0_p396 : n0 ≤ T396.heap.size := Nat.le_trans Z0_p383 K396.1
            refine hst st396 ?_
            show F T396 (mkF m 399 #[.val (.long q1), .second, .val (.int p2), .val (.int p3), .val (.int p4), .val (.int p5), .val (.int nv), .val (.int ng), .val (.int rf), .val (.int fv), .val (.int sv), .val (.int tv), .val (.long u), .second, .val (.long mq), .second, .val (.ref b96), .unset, .unset, .unset] [])
            have q1_396c : own_A Z T396.heap b96 .byte 26 (fun j => .int (own_pk B s' n M 11 j)) := own_A.congr q1_396 (fun j hj => by rw [own_pk_step B s' n M 10 j])
            refine hst (fun t₀ k₀ => XS.aload X396.here hx rfl (hb hby at_399) rfl rfl k₀) ?_
            show F T396 (mkF m 401 #[.val (.long q1), .second, .val (.int p2), .val (.int p3), .val (.int p4), .val (.int p5), .val (.int nv), .val (.int ng), .val (.int rf), .val (.int fv), .val (.int sv), .val (.int tv), .val (.long u), .second, .val (.long mq), .second, .val (.ref b96), .unset, .unset, .unset] [(.ref b96)])
            refine hst (fun t₀ k₀ => XS.iload X396.here hx rfl (hb hby at_401) rfl k₀) ?_
            show F T396 (mkF m 403 #[.val (.long q1), .second, .val (.int p2), .val (.int p3), .val (.int p4), .val (.int p5), .val (.int nv), .val (.int ng), .val (.int rf), .val (.int fv), .val (.int sv), .val (.int tv), .val (.long u), .second, .val (.long mq), .second, .val (.ref b96), .unset, .unset, .unset] [(.int sv), (.ref b96)])
            refine hst (fun t₀ k₀ => XS.iload X396.here hx rfl (hb hby at_403) rfl k₀) ?_
            show F T396 (mkF m 405 #[.val (.long q1), .second, .val (.int p2), .val (.int p3), .val (.int p4), .val (.int p5), .val (.int nv), .val (.int ng), .val (.int rf), .val (.int fv), .val (.int sv), .val (.int tv), .val (.long u), .second, .val (.long mq), .second, .val (.ref b96), .unset, .unset, .unset] [(.int nv), (.int sv), (.ref b96)])
            refine hst (fun t₀ k₀ => XS.bipush X396.here hx rfl (hb hby at_405) k₀) ?_
            show F T396 (mkF m 407 #[.val (.long q1), .second, .val (.int p2), .val (.int p3), .val (.int p4), .val (.int p5), .val (.int nv), .val (.int ng), .val (.int rf), .val (.int fv), .val (.int sv), .val (.int tv), .val (.long u), .second, .val (.long mq), .second, .val (.ref b96), .unset, .unset, .unset] [(.int (11 : Int32)), (.int nv), (.int sv), (.ref b96)])
            refine hst (fun t₀ k₀ => XS.lload X396.here hx rfl (hb hby at_407) rfl k₀) ?_
            show F T396 (mkF m 409 #[.val (.long q1), .second, .val (.int p2), .val (.int p3), .val (.int p4), .val (.int p5), .val (.int nv), .val (.int ng), .val (.int rf), .val (.int fv), .val (.int sv), .val (.int tv), .val (.long u), .second, .val (.long mq), .second, .val (.ref b96), .unset, .unset, .unset] [(.long mq), (.int (11 : Int32)), (.int nv), (.int sv), (.ref b96)])
            obtain ⟨v409, T409, Lc409, X409, hQ409, st409⟩ := own_callS X396 hx hZ hown (y := (⟨"com/example/leafline/leafline/table/IntegerValueParsePlain372PinLaw", "put", "([BIIIJ)V"⟩ : MethodName)) (hw _ (List.mem_of_getElem? (i := 26) rfl)) (hw _ (List.mem_of_getElem? (i := 27) rfl)) (hw _ (List.mem_of_getElem? (i := 4) rfl)) (hw _ (List.mem_of_getElem? (i := 28) rfl)) (by decide) rfl (rm2 l Z a0 hw [] b96 sv nv (11 : Int32) mq (own_pk B s' n M 11) s' n 11 M T396.heap n0 Z0_p396 q1_396c ge_b96 hs hn (by decide) hM hs2 hn2) (by decide) (by decide) (g := (mkF m 409 #[.val (.long q1), .second, .val (.int p2), .val (.int p3), .val (.int p4), .val (.int p5), .val (.int nv), .val (.int ng), .val (.int rf), .val (.int fv), .val (.int sv), .val (.int tv), .val (.long u), .second, .val (.long mq), .second, .val (.ref b96), .unset, .unset, .unset] [(.long mq), (.int (11 : Int32)), (.int nv), (.int sv), (.ref b96)])) rfl (by rw [hml]; rfl) (argsL := [(.ref b96), (.int sv), (.int nv), (.int (11 : Int32)), (.long mq)]) (rest := []) (lenOf pd_2 rfl) rfl rfl (W := 0) (by show 2 * 0 + _ ≤ _; exact Nat.le_of_eq rfl) (hb hby at_409) (by decide) (by decide)
            obtain ⟨rfl, Nq409, K409, q1_409⟩ := hQ409
            have N409 := Fr.app N396 Nq409
            have Z0_p409 : n0 ≤ T409.heap.size := Nat.le_trans Z0_p396 K409.1
            refine hst st409 ?_
            show F T409 (mkF m 412 #[.val (.long q1), .second, .val (.int p2), .val (.int p3), .val (.int p4), .val (.int p5), .val (.int nv), .val (.int ng), .val (.int rf), .val (.int fv), .val (.int sv), .val (.int tv), .val (.long u), .second, .val (.long mq), .second, .val (.ref b96), .unset, .unset, .unset] [])
            have q1_409c : own_A Z T409.heap b96 .byte 26 (fun j => .int (own_pk B s' n M 12 j)) := own_A.congr q1_409 (fun j hj => by rw [own_pk_step B s' n M 11 j])
            refine hst (fun t₀ k₀ => XS.aload X409.here hx rfl (hb hby at_412) rfl rfl k₀) ?_
            show F T409 (mkF m 414 #[.val (.long q1), .second, .val (.int p2), .val (.int p3), .val (.int p4), .val (.int p5), .val (.int nv), .val (.int ng), .val (.int rf), .val (.int fv), .val (.int sv), .val (.int tv), .val (.long u), .second, .val (.long mq), .second, .val (.ref b96), .unset, .unset, .unset] [(.ref b96)])
            refine hst (fun t₀ k₀ => XS.iload X409.here hx rfl (hb hby at_414) rfl k₀) ?_
            show F T409 (mkF m 416 #[.val (.long q1), .second, .val (.int p2), .val (.int p3), .val (.int p4), .val (.int p5), .val (.int nv), .val (.int ng), .val (.int rf), .val (.int fv), .val (.int sv), .val (.int tv), .val (.long u), .second, .val (.long mq), .second, .val (.ref b96), .unset, .unset, .unset] [(.int sv), (.ref b96)])
            refine hst (fun t₀ k₀ => XS.iload X409.here hx rfl (hb hby at_416) rfl k₀) ?_
            show F T409 (mkF m 418 #[.val (.long q1), .second, .val (.int p2), .val (.int p3), .val (.int p4), .val (.int p5), .val (.int nv), .val (.int ng), .val (.int rf), .val (.int fv), .val (.int sv), .val (.int tv), .val (.long u), .second, .val (.long mq), .second, .val (.ref b96), .unset, .unset, .unset] [(.int nv), (.int sv), (.ref b96)])
            refine hst (fun t₀ k₀ => XS.bipush X409.here hx rfl (hb hby at_418) k₀) ?_
            show F T409 (mkF m 420 #[.val (.long q1), .second, .val (.int p2), .val (.int p3), .val (.int p4), .val (.int p5), .val (.int nv), .val (.int ng), .val (.int rf), .val (.int fv), .val (.int sv), .val (.int tv), .val (.long u), .second, .val (.long mq), .second, .val (.ref b96), .unset, .unset, .unset] [(.int (12 : Int32)), (.int nv), (.int sv), (.ref b96)])
            refine hst (fun t₀ k₀ => XS.lload X409.here hx rfl (hb hby at_420) rfl k₀) ?_
            show F T409 (mkF m 422 #[.val (.long q1), .second, .val (.int p2), .val (.int p3), .val (.int p4), .val (.int p5), .val (.int nv), .val (.int ng), .val (.int rf), .val (.int fv), .val (.int sv), .val (.int tv), .val (.long u), .second, .val (.long mq), .second, .val (.ref b96), .unset, .unset, .unset] [(.long mq), (.int (12 : Int32)), (.int nv), (.int sv), (.ref b96)])
            obtain ⟨v422, T422, Lc422, X422, hQ422, st422⟩ := own_callS X409 hx hZ hown (y := (⟨"com/example/leafline/leafline/table/IntegerValueParsePlain372PinLaw", "put", "([BIIIJ)V"⟩ : MethodName)) (hw _ (List.mem_of_getElem? (i := 26) rfl)) (hw _ (List.mem_of_getElem? (i := 27) rfl)) (hw _ (List.mem_of_getElem? (i := 4) rfl)) (hw _ (List.mem_of_getElem? (i := 28) rfl)) (by decide) rfl (rm2 l Z a0 hw [] b96 sv nv (12 : Int32) mq (own_pk B s' n M 12) s' n 12 M T409.heap n0 Z0_p409 q1_409c ge_b96 hs hn (by decide) hM hs2 hn2) (by decide) (by decide) (g := (mkF m 422 #[.val (.long q1), .second, .val (.int p2), .val (.int p3), .val (.int p4), .val (.int p5), .val (.int nv), .val (.int ng), .val (.int rf), .val (.int fv), .val (.int sv), .val (.int tv), .val (.long u), .second, .val (.long mq), .second, .val (.ref b96), .unset, .unset, .unset] [(.long mq), (.int (12 : Int32)), (.int nv), (.int sv), (.ref b96)])) rfl (by rw [hml]; rfl) (argsL := [(.ref b96), (.int sv), (.int nv), (.int (12 : Int32)), (.long mq)]) (rest := []) (lenOf pd_2 rfl) rfl rfl (W := 0) (by show 2 * 0 + _ ≤ _; exact Nat.le_of_eq rfl) (hb hby at_422) (by decide) (by decide)
            obtain ⟨rfl, Nq422, K422, q1_422⟩ := hQ422
            have N422 := Fr.app N409 Nq422
            have Z0_p422 : n0 ≤ T422.heap.size := Nat.le_trans Z0_p409 K422.1
            refine hst st422 ?_
            show F T422 (mkF m 425 #[.val (.long q1), .second, .val (.int p2), .val (.int p3), .val (.int p4), .val (.int p5), .val (.int nv), .val (.int ng), .val (.int rf), .val (.int fv), .val (.int sv), .val (.int tv), .val (.long u), .second, .val (.long mq), .second, .val (.ref b96), .unset, .unset, .unset] [])
            have q1_422c : own_A Z T422.heap b96 .byte 26 (fun j => .int (own_pk B s' n M 13 j)) := own_A.congr q1_422 (fun j hj => by rw [own_pk_step B s' n M 12 j])
            refine hst (fun t₀ k₀ => XS.aload X422.here hx rfl (hb hby at_425) rfl rfl k₀) ?_
            show F T422 (mkF m 427 #[.val (.long q1), .second, .val (.int p2), .val (.int p3), .val (.int p4), .val (.int p5), .val (.int nv), .val (.int ng), .val (.int rf), .val (.int fv), .val (.int sv), .val (.int tv), .val (.long u), .second, .val (.long mq), .second, .val (.ref b96), .unset, .unset, .unset] [(.ref b96)])
            refine hst (fun t₀ k₀ => XS.iload X422.here hx rfl (hb hby at_427) rfl k₀) ?_
            show F T422 (mkF m 429 #[.val (.long q1), .second, .val (.int p2), .val (.int p3), .val (.int p4), .val (.int p5), .val (.int nv), .val (.int ng), .val (.int rf), .val (.int fv), .val (.int sv), .val (.int tv), .val (.long u), .second, .val (.long mq), .second, .val (.ref b96), .unset, .unset, .unset] [(.int sv), (.ref b96)])
            refine hst (fun t₀ k₀ => XS.iload X422.here hx rfl (hb hby at_429) rfl k₀) ?_
            show F T422 (mkF m 431 #[.val (.long q1), .second, .val (.int p2), .val (.int p3), .val (.int p4), .val (.int p5), .val (.int nv), .val (.int ng), .val (.int rf), .val (.int fv), .val (.int sv), .val (.int tv), .val (.long u), .second, .val (.long mq), .second, .val (.ref b96), .unset, .unset, .unset] [(.int nv), (.int sv), (.ref b96)])
            refine hst (fun t₀ k₀ => XS.bipush X422.here hx rfl (hb hby at_431) k₀) ?_
            show F T422 (mkF m 433 #[.val (.long q1), .second, .val (.int p2), .val (.int p3), .val (.int p4), .val (.int p5), .val (.int nv), .val (.int ng), .val (.int rf), .val (.int fv), .val (.int sv), .val (.int tv), .val (.long u), .second, .val (.long mq), .second, .val (.ref b96), .unset, .unset, .unset] [(.int (13 : Int32)), (.int nv), (.int sv), (.ref b96)])
            refine hst (fun t₀ k₀ => XS.lload X422.here hx rfl (hb hby at_433) rfl k₀) ?_
            show F T422 (mkF m 435 #[.val (.long q1), .second, .val (.int p2), .val (.int p3), .val (.int p4), .val (.int p5), .val (.int nv), .val (.int ng), .val (.int rf), .val (.int fv), .val (.int sv), .val (.int tv), .val (.long u), .second, .val (.long mq), .second, .val (.ref b96), .unset, .unset, .unset] [(.long mq), (.int (13 : Int32)), (.int nv), (.int sv), (.ref b96)])
            obtain ⟨v435, T435, Lc435, X435, hQ435, st435⟩ := own_callS X422 hx hZ hown (y := (⟨"com/example/leafline/leafline/table/IntegerValueParsePlain372PinLaw", "put", "([BIIIJ)V"⟩ : MethodName)) (hw _ (List.mem_of_getElem? (i := 26) rfl)) (hw _ (List.mem_of_getElem? (i := 27) rfl)) (hw _ (List.mem_of_getElem? (i := 4) rfl)) (hw _ (List.mem_of_getElem? (i := 28) rfl)) (by decide) rfl (rm2 l Z a0 hw [] b96 sv nv (13 : Int32) mq (own_pk B s' n M 13) s' n 13 M T422.heap n0 Z0_p422 q1_422c ge_b96 hs hn (by decide) hM hs2 hn2) (by decide) (by decide) (g := (mkF m 435 #[.val (.long q1), .second, .val (.int p2), .val (.int p3), .val (.int p4), .val (.int p5), .val (.int nv), .val (.int ng), .val (.int rf), .val (.int fv), .val (.int sv), .val (.int tv), .val (.long u), .second, .val (.long mq), .second, .val (.ref b96), .unset, .unset, .unset] [(.long mq), (.int (13 : Int32)), (.int nv), (.int sv), (.ref b96)])) rfl (by rw [hml]; rfl) (argsL := [(.ref b96), (.int sv), (.int nv), (.int (13 : Int32)), (.long mq)]) (rest := []) (lenOf pd_2 rfl) rfl rfl (W := 0) (by show 2 * 0 + _ ≤ _; exact Nat.le_of_eq rfl) (hb hby at_435) (by decide) (by decide)
            obtain ⟨rfl, Nq435, K435, q1_435⟩ := hQ435
            have N435 := Fr.app N422 Nq435
            have Z0_p435 : n0 ≤ T435.heap.size := Nat.le_trans Z0_p422 K435.1
            refine hst st435 ?_
            show F T435 (mkF m 438 #[.val (.long q1), .second, .val (.int p2), .val (.int p3), .val (.int p4), .val (.int p5), .val (.int nv), .val (.int ng), .val (.int rf), .val (.int fv), .val (.int sv), .val (.int tv), .val (.long u), .second, .val (.long mq), .second, .val (.ref b96), .unset, .unset, .unset] [])
            have q1_435c : own_A Z T435.heap b96 .byte 26 (fun j => .int (own_pk B s' n M 14 j)) := own_A.congr q1_435 (fun j hj => by rw [own_pk_step B s' n M 13 j])
            refine hst (fun t₀ k₀ => XS.aload X435.here hx rfl (hb hby at_438) rfl rfl k₀) ?_
            show F T435 (mkF m 440 #[.val (.long q1), .second, .val (.int p2), .val (.int p3), .val (.int p4), .val (.int p5), .val (.int nv), .val (.int ng), .val (.int rf), .val (.int fv), .val (.int sv), .val (.int tv), .val (.long u), .second, .val (.long mq), .second, .val (.ref b96), .unset, .unset, .unset] [(.ref b96)])
            refine hst (fun t₀ k₀ => XS.iload X435.here hx rfl (hb hby at_440) rfl k₀) ?_
            show F T435 (mkF m 442 #[.val (.long q1), .second, .val (.int p2), .val (.int p3), .val (.int p4), .val (.int p5), .val (.int nv), .val (.int ng), .val (.int rf), .val (.int fv), .val (.int sv), .val (.int tv), .val (.long u), .second, .val (.long mq), .second, .val (.ref b96), .unset, .unset, .unset] [(.int sv), (.ref b96)])
            refine hst (fun t₀ k₀ => XS.iload X435.here hx rfl (hb hby at_442) rfl k₀) ?_
            show F T435 (mkF m 444 #[.val (.long q1), .second, .val (.int p2), .val (.int p3), .val (.int p4), .val (.int p5), .val (.int nv), .val (.int ng), .val (.int rf), .val (.int fv), .val (.int sv), .val (.int tv), .val (.long u), .second, .val (.long mq), .second, .val (.ref b96), .unset, .unset, .unset] [(.int nv), (.int sv), (.ref b96)])
            refine hst (fun t₀ k₀ => XS.bipush X435.here hx rfl (hb hby at_444) k₀) ?_
            show F T435 (mkF m 446 #[.val (.long q1), .second, .val (.int p2), .val (.int p3), .val (.int p4), .val (.int p5), .val (.int nv), .val (.int ng), .val (.int rf), .val (.int fv), .val (.int sv), .val (.int tv), .val (.long u), .second, .val (.long mq), .second, .val (.ref b96), .unset, .unset, .unset] [(.int (14 : Int32)), (.int nv), (.int sv), (.ref b96)])
            refine hst (fun t₀ k₀ => XS.lload X435.here hx rfl (hb hby at_446) rfl k₀) ?_
            show F T435 (mkF m 448 #[.val (.long q1), .second, .val (.int p2), .val (.int p3), .val (.int p4), .val (.int p5), .val (.int nv), .val (.int ng), .val (.int rf), .val (.int fv), .val (.int sv), .val (.int tv), .val (.long u), .second, .val (.long mq), .second, .val (.ref b96), .unset, .unset, .unset] [(.long mq), (.int (14 : Int32)), (.int nv), (.int sv), (.ref b96)])
            obtain ⟨v448, T448, Lc448, X448, hQ448, st448⟩ := own_callS X435 hx hZ hown (y := (⟨"com/example/leafline/leafline/table/IntegerValueParsePlain372PinLaw", "put", "([BIIIJ)V"⟩ : MethodName)) (hw _ (List.mem_of_getElem? (i := 26) rfl)) (hw _ (List.mem_of_getElem? (i := 27) rfl)) (hw _ (List.mem_of_getElem? (i := 4) rfl)) (hw _ (List.mem_of_getElem? (i := 28) rfl)) (by decide) rfl (rm2 l Z a0 hw [] b96 sv nv (14 : Int32) mq (own_pk B s' n M 14) s' n 14 M T435.heap n0 Z0_p435 q1_435c ge_b96 hs hn (by decide) hM hs2 hn2) (by decide) (by decide) (g := (mkF m 448 #[.val (.long q1), .second, .val (.int p2), .val (.int p3), .val (.int p4), .val (.int p5), .val (.int nv), .val (.int ng), .val (.int rf), .val (.int fv), .val (.int sv), .val (.int tv), .val (.long u), .second, .val (.long mq), .second, .val (.ref b96), .unset, .unset, .unset] [(.long mq), (.int (14 : Int32)), (.int nv), (.int sv), (.ref b96)])) rfl (by rw [hml]; rfl) (argsL := [(.ref b96), (.int sv), (.int nv), (.int (14 : Int32)), (.long mq)]) (rest := []) (lenOf pd_2 rfl) rfl rfl (W := 0) (by show 2 * 0 + _ ≤ _; exact Nat.le_of_eq rfl) (hb hby at_448) (by decide) (by decide)
            obtain ⟨rfl, Nq448, K448, q1_448⟩ := hQ448
            have N448 := Fr.app N435 Nq448
            have Z0_p448 : n0 ≤ T448.heap.size := Nat.le_trans Z0_p435 K448.1
            refine hst st448 ?_
            show F T448 (mkF m 451 #[.val (.long q1), .second, .val (.int p2), .val (.int p3), .val (.int p4), .val (.int p5), .val (.int nv), .val (.int ng), .val (.int rf), .val (.int fv), .val (.int sv), .val (.int tv), .val (.long u), .second, .val (.long mq), .second, .val (.ref b96), .unset, .unset, .unset] [])
            have q1_448c : own_A Z T448.heap b96 .byte 26 (fun j => .int (own_pk B s' n M 15 j)) := own_A.congr q1_448 (fun j hj => by rw [own_pk_step B s' n M 14 j])
            refine hst (fun t₀ k₀ => XS.aload X448.here hx rfl (hb hby at_451) rfl rfl k₀) ?_
            show F T448 (mkF m 453 #[.val (.long q1), .second, .val (.int p2), .val (.int p3), .val (.int p4), .val (.int p5), .val (.int nv), .val (.int ng), .val (.int rf), .val (.int fv), .val (.int sv), .val (.int tv), .val (.long u), .second, .val (.long mq), .second, .val (.ref b96), .unset, .unset, .unset] [(.ref b96)])
            refine hst (fun t₀ k₀ => XS.iload X448.here hx rfl (hb hby at_453) rfl k₀) ?_
            show F T448 (mkF m 455 #[.val (.long q1), .second, .val (.int p2), .val (.int p3), .val (.int p4), .val (.int p5), .val (.int nv), .val (.int ng), .val (.int rf), .val (.int fv), .val (.int sv), .val (.int tv), .val (.long u), .second, .val (.long mq), .second, .val (.ref b96), .unset, .unset, .unset] [(.int sv), (.ref b96)])
            refine hst (fun t₀ k₀ => XS.iload X448.here hx rfl (hb hby at_455) rfl k₀) ?_
            show F T448 (mkF m 457 #[.val (.long q1), .second, .val (.int p2), .val (.int p3), .val (.int p4), .val (.int p5), .val (.int nv), .val (.int ng), .val (.int rf), .val (.int fv), .val (.int sv), .val (.int tv), .val (.long u), .second, .val (.long mq), .second, .val (.ref b96), .unset, .unset, .unset] [(.int nv), (.int sv), (.ref b96)])
            refine hst (fun t₀ k₀ => XS.bipush X448.here hx rfl (hb hby at_457) k₀) ?_
            show F T448 (mkF m 459 #[.val (.long q1), .second, .val (.int p2), .val (.int p3), .val (.int p4), .val (.int p5), .val (.int nv), .val (.int ng), .val (.int rf), .val (.int fv), .val (.int sv), .val (.int tv), .val (.long u), .second, .val (.long mq), .second, .val (.ref b96), .unset, .unset, .unset] [(.int (15 : Int32)), (.int nv), (.int sv), (.ref b96)])
            refine hst (fun t₀ k₀ => XS.lload X448.here hx rfl (hb hby at_459) rfl k₀) ?_
            show F T448 (mkF m 461 #[.val (.long q1), .second, .val (.int p2), .val (.int p3), .val (.int p4), .val (.int p5), .val (.int nv), .val (.int ng), .val (.int rf), .val (.int fv), .val (.int sv), .val (.int tv), .val (.long u), .second, .val (.long mq), .second, .val (.ref b96), .unset, .unset, .unset] [(.long mq), (.int (15 : Int32)), (.int nv), (.int sv), (.ref b96)])
            obtain ⟨v461, T461, Lc461, X461, hQ461, st461⟩ := own_callS X448 hx hZ hown (y := (⟨"com/example/leafline/leafline/table/IntegerValueParsePlain372PinLaw", "put", "([BIIIJ)V"⟩ : MethodName)) (hw _ (List.mem_of_getElem? (i := 26) rfl)) (hw _ (List.mem_of_getElem? (i := 27) rfl)) (hw _ (List.mem_of_getElem? (i := 4) rfl)) (hw _ (List.mem_of_getElem? (i := 28) rfl)) (by decide) rfl (rm2 l Z a0 hw [] b96 sv nv (15 : Int32) mq (own_pk B s' n M 15) s' n 15 M T448.heap n0 Z0_p448 q1_448c ge_b96 hs hn (by decide) hM hs2 hn2) (by decide) (by decide) (g := (mkF m 461 #[.val (.long q1), .second, .val (.int p2), .val (.int p3), .val (.int p4), .val (.int p5), .val (.int nv), .val (.int ng), .val (.int rf), .val (.int fv), .val (.int sv), .val (.int tv), .val (.long u), .second, .val (.long mq), .second, .val (.ref b96), .unset, .unset, .unset] [(.long mq), (.int (15 : Int32)), (.int nv), (.int sv), (.ref b96)])) rfl (by rw [hml]; rfl) (argsL := [(.ref b96), (.int sv), (.int nv), (.int (15 : Int32)), (.long mq)]) (rest := []) (lenOf pd_2 rfl) rfl rfl (W := 0) (by show 2 * 0 + _ ≤ _; exact Nat.le_of_eq rfl) (hb hby at_461) (by decide) (by decide)
            obtain ⟨rfl, Nq461, K461, q1_461⟩ := hQ461
            have N461 := Fr.app N448 Nq461
            have Z0_p461 : n0 ≤ T461.heap.size := Nat.le_trans Z0_p448 K461.1
            refine hst st461 ?_
            show F T461 (mkF m 464 #[.val (.long q1), .second, .val (.int p2), .val (.int p3), .val (.int p4), .val (.int p5), .val (.int nv), .val (.int ng), .val (.int rf), .val (.int fv), .val (.int sv), .val (.int tv), .val (.long u), .second, .val (.long mq), .second, .val (.ref b96), .unset, .unset, .unset] [])
            have q1_461c : own_A Z T461.heap b96 .byte 26 (fun j => .int (own_pk B s' n M 16 j)) := own_A.congr q1_461 (fun j hj => by rw [own_pk_step B s' n M 15 j])
            refine hst (fun t₀ k₀ => XS.aload X461.here hx rfl (hb hby at_464) rfl rfl k₀) ?_
            show F T461 (mkF m 466 #[.val (.long q1), .second, .val (.int p2), .val (.int p3), .val (.int p4), .val (.int p5), .val (.int nv), .val (.int ng), .val (.int rf), .val (.int fv), .val (.int sv), .val (.int tv), .val (.long u), .second, .val (.long mq), .second, .val (.ref b96), .unset, .unset, .unset] [(.ref b96)])
            refine hst (fun t₀ k₀ => XS.iload X461.here hx rfl (hb hby at_466) rfl k₀) ?_
            show F T461 (mkF m 468 #[.val (.long q1), .second, .val (.int p2), .val (.int p3), .val (.int p4), .val (.int p5), .val (.int nv), .val (.int ng), .val (.int rf), .val (.int fv), .val (.int sv), .val (.int tv), .val (.long u), .second, .val (.long mq), .second, .val (.ref b96), .unset, .unset, .unset] [(.int sv), (.ref b96)])
            refine hst (fun t₀ k₀ => XS.iload X461.here hx rfl (hb hby at_468) rfl k₀) ?_
            show F T461 (mkF m 470 #[.val (.long q1), .second, .val (.int p2), .val (.int p3), .val (.int p4), .val (.int p5), .val (.int nv), .val (.int ng), .val (.int rf), .val (.int fv), .val (.int sv), .val (.int tv), .val (.long u), .second, .val (.long mq), .second, .val (.ref b96), .unset, .unset, .unset] [(.int nv), (.int sv), (.ref b96)])
            refine hst (fun t₀ k₀ => XS.bipush X461.here hx rfl (hb hby at_470) k₀) ?_
            show F T461 (mkF m 472 #[.val (.long q1), .second, .val (.int p2), .val (.int p3), .val (.int p4), .val (.int p5), .val (.int nv), .val (.int ng), .val (.int rf), .val (.int fv), .val (.int sv), .val (.int tv), .val (.long u), .second, .val (.long mq), .second, .val (.ref b96), .unset, .unset, .unset] [(.int (16 : Int32)), (.int nv), (.int sv), (.ref b96)])
            refine hst (fun t₀ k₀ => XS.lload X461.here hx rfl (hb hby at_472) rfl k₀) ?_
            show F T461 (mkF m 474 #[.val (.long q1), .second, .val (.int p2), .val (.int p3), .val (.int p4), .val (.int p5), .val (.int nv), .val (.int ng), .val (.int rf), .val (.int fv), .val (.int sv), .val (.int tv), .val (.long u), .second, .val (.long mq), .second, .val (.ref b96), .unset, .unset, .unset] [(.long mq), (.int (16 : Int32)), (.int nv), (.int sv), (.ref b96)])
            obtain ⟨v474, T474, Lc474, X474, hQ474, st474⟩ := own_callS X461 hx hZ hown (y := (⟨"com/example/leafline/leafline/table/IntegerValueParsePlain372PinLaw", "put", "([BIIIJ)V"⟩ : MethodName)) (hw _ (List.mem_of_getElem? (i := 26) rfl)) (hw _ (List.mem_of_getElem? (i := 27) rfl)) (hw _ (List.mem_of_getElem? (i := 4) rfl)) (hw _ (List.mem_of_getElem? (i := 28) rfl)) (by decide) rfl (rm2 l Z a0 hw [] b96 sv nv (16 : Int32) mq (own_pk B s' n M 16) s' n 16 M T461.heap n0 Z0_p461 q1_461c ge_b96 hs hn (by decide) hM hs2 hn2) (by decide) (by decide) (g := (mkF m 474 #[.val (.long q1), .second, .val (.int p2), .val (.int p3), .val (.int p4), .val (.int p5), .val (.int nv), .val (.int ng), .val (.int rf), .val (.int fv), .val (.int sv), .val (.int tv), .val (.long u), .second, .val (.long mq), .second, .val (.ref b96), .unset, .unset, .unset] [(.long mq), (.int (16 : Int32)), (.int nv), (.int sv), (.ref b96)])) rfl (by rw [hml]; rfl) (argsL := [(.ref b96), (.int sv), (.int nv), (.int (16 : Int32)), (.long mq)]) (rest := []) (lenOf pd_2 rfl) rfl rfl (W := 0) (by show 2 * 0 + _ ≤ _; exact Nat.le_of_eq rfl) (hb hby at_474) (by decide) (by decide)
            obtain ⟨rfl, Nq474, K474, q1_474⟩ := hQ474
            have N474 := Fr.app N461 Nq474
            have Z0_p474 : n0 ≤ T474.heap.size := Nat.le_trans Z0_p461 K474.1
            refine hst st474 ?_
            show F T474 (mkF m 477 #[.val (.long q1), .second, .val (.int p2), .val (.int p3), .val (.int p4), .val (.int p5), .val (.int nv), .val (.int ng), .val (.int rf), .val (.int fv), .val (.int sv), .val (.int tv), .val (.long u), .second, .val (.long mq), .second, .val (.ref b96), .unset, .unset, .unset] [])
            have q1_474c : own_A Z T474.heap b96 .byte 26 (fun j => .int (own_pk B s' n M 17 j)) := own_A.congr q1_474 (fun j hj => by rw [own_pk_step B s' n M 16 j])
            refine hst (fun t₀ k₀ => XS.aload X474.here hx rfl (hb hby at_477) rfl rfl k₀) ?_
            show F T474 (mkF m 479 #[.val (.long q1), .second, .val (.int p2), .val (.int p3), .val (.int p4), .val (.int p5), .val (.int nv), .val (.int ng), .val (.int rf), .val (.int fv), .val (.int sv), .val (.int tv), .val (.long u), .second, .val (.long mq), .second, .val (.ref b96), .unset, .unset, .unset] [(.ref b96)])
            refine hst (fun t₀ k₀ => XS.iload X474.here hx rfl (hb hby at_479) rfl k₀) ?_
            show F T474 (mkF m 481 #[.val (.long q1), .second, .val (.int p2), .val (.int p3), .val (.int p4), .val (.int p5), .val (.int nv), .val (.int ng), .val (.int rf), .val (.int fv), .val (.int sv), .val (.int tv), .val (.long u), .second, .val (.long mq), .second, .val (.ref b96), .unset, .unset, .unset] [(.int sv), (.ref b96)])
            refine hst (fun t₀ k₀ => XS.iload X474.here hx rfl (hb hby at_481) rfl k₀) ?_
            show F T474 (mkF m 483 #[.val (.long q1), .second, .val (.int p2), .val (.int p3), .val (.int p4), .val (.int p5), .val (.int nv), .val (.int ng), .val (.int rf), .val (.int fv), .val (.int sv), .val (.int tv), .val (.long u), .second, .val (.long mq), .second, .val (.ref b96), .unset, .unset, .unset] [(.int nv), (.int sv), (.ref b96)])
            refine hst (fun t₀ k₀ => XS.bipush X474.here hx rfl (hb hby at_483) k₀) ?_
            show F T474 (mkF m 485 #[.val (.long q1), .second, .val (.int p2), .val (.int p3), .val (.int p4), .val (.int p5), .val (.int nv), .val (.int ng), .val (.int rf), .val (.int fv), .val (.int sv), .val (.int tv), .val (.long u), .second, .val (.long mq), .second, .val (.ref b96), .unset, .unset, .unset] [(.int (17 : Int32)), (.int nv), (.int sv), (.ref b96)])
            refine hst (fun t₀ k₀ => XS.lload X474.here hx rfl (hb hby at_485) rfl k₀) ?_
            show F T474 (mkF m 487 #[.val (.long q1), .second, .val (.int p2), .val (.int p3), .val (.int p4), .val (.int p5), .val (.int nv), .val (.int ng), .val (.int rf), .val (.int fv), .val (.int sv), .val (.int tv), .val (.long u), .second, .val (.long mq), .second, .val (.ref b96), .unset, .unset, .unset] [(.long mq), (.int (17 : Int32)), (.int nv), (.int sv), (.ref b96)])
            obtain ⟨v487, T487, Lc487, X487, hQ487, st487⟩ := own_callS X474 hx hZ hown (y := (⟨"com/example/leafline/leafline/table/IntegerValueParsePlain372PinLaw", "put", "([BIIIJ)V"⟩ : MethodName)) (hw _ (List.mem_of_getElem? (i := 26) rfl)) (hw _ (List.mem_of_getElem? (i := 27) rfl)) (hw _ (List.mem_of_getElem? (i := 4) rfl)) (hw _ (List.mem_of_getElem? (i := 28) rfl)) (by decide) rfl (rm2 l Z a0 hw [] b96 sv nv (17 : Int32) mq (own_pk B s' n M 17) s' n 17 M T474.heap n0 Z0_p474 q1_474c ge_b96 hs hn (by decide) hM hs2 hn2) (by decide) (by decide) (g := (mkF m 487 #[.val (.long q1), .second, .val (.int p2), .val (.int p3), .val (.int p4), .val (.int p5), .val (.int nv), .val (.int ng), .val (.int rf), .val (.int fv), .val (.int sv), .val (.int tv), .val (.long u), .second, .val (.long mq), .second, .val (.ref b96), .unset, .unset, .unset] [(.long mq), (.int (17 : Int32)), (.int nv), (.int sv), (.ref b96)])) rfl (by rw [hml]; rfl) (argsL := [(.ref b96), (.int sv), (.int nv), (.int (17 : Int32)), (.long mq)]) (rest := []) (lenOf pd_2 rfl) rfl rfl (W := 0) (by show 2 * 0 + _ ≤ _; exact Nat.le_of_eq rfl) (hb hby at_487) (by decide) (by decide)
            obtain ⟨rfl, Nq487, K487, q1_487⟩ := hQ487
            have N487 := Fr.app N474 Nq487
            have Z0_p487 : n0 ≤ T487.heap.size := Nat.le_trans Z0_p474 K487.1
            refine hst st487 ?_
            show F T487 (mkF m 490 #[.val (.long q1), .second, .val (.int p2), .val (.int p3), .val (.int p4), .val (.int p5), .val (.int nv), .val (.int ng), .val (.int rf), .val (.int fv), .val (.int sv), .val (.int tv), .val (.long u), .second, .val (.long mq), .second, .val (.ref b96), .unset, .unset, .unset] [])
            have q1_487c : own_A Z T487.heap b96 .byte 26 (fun j => .int (own_pk B s' n M 18 j)) := own_A.congr q1_487 (fun j hj => by rw [own_pk_step B s' n M 17 j])
            refine hst (fun t₀ k₀ => XS.aload X487.here hx rfl (hb hby at_490) rfl rfl k₀) ?_
            show F T487 (mkF m 492 #[.val (.long q1), .second, .val (.int p2), .val (.int p3), .val (.int p4), .val (.int p5), .val (.int nv), .val (.int ng), .val (.int rf), .val (.int fv), .val (.int sv), .val (.int tv), .val (.long u), .second, .val (.long mq), .second, .val (.ref b96), .unset, .unset, .unset] [(.ref b96)])
            refine hst (fun t₀ k₀ => XS.iload X487.here hx rfl (hb hby at_492) rfl k₀) ?_
            show F T487 (mkF m 494 #[.val (.long q1), .second, .val (.int p2), .val (.int p3), .val (.int p4), .val (.int p5), .val (.int nv), .val (.int ng), .val (.int rf), .val (.int fv), .val (.int sv), .val (.int tv), .val (.long u), .second, .val (.long mq), .second, .val (.ref b96), .unset, .unset, .unset] [(.int sv), (.ref b96)])
            refine hst (fun t₀ k₀ => XS.iload X487.here hx rfl (hb hby at_494) rfl k₀) ?_
            show F T487 (mkF m 496 #[.val (.long q1), .second, .val (.int p2), .val (.int p3), .val (.int p4), .val (.int p5), .val (.int nv), .val (.int ng), .val (.int rf), .val (.int fv), .val (.int sv), .val (.int tv), .val (.long u), .second, .val (.long mq), .second, .val (.ref b96), .unset, .unset, .unset] [(.int nv), (.int sv), (.ref b96)])
            refine hst (fun t₀ k₀ => XS.bipush X487.here hx rfl (hb hby at_496) k₀) ?_
            show F T487 (mkF m 498 #[.val (.long q1), .second, .val (.int p2), .val (.int p3), .val (.int p4), .val (.int p5), .val (.int nv), .val (.int ng), .val (.int rf), .val (.int fv), .val (.int sv), .val (.int tv), .val (.long u), .second, .val (.long mq), .second, .val (.ref b96), .unset, .unset, .unset] [(.int (18 : Int32)), (.int nv), (.int sv), (.ref b96)])
            refine hst (fun t₀ k₀ => XS.lload X487.here hx rfl (hb hby at_498) rfl k₀) ?_
            show F T487 (mkF m 500 #[.val (.long q1), .second, .val (.int p2), .val (.int p3), .val (.int p4), .val (.int p5), .val (.int nv), .val (.int ng), .val (.int rf), .val (.int fv), .val (.int sv), .val (.int tv), .val (.long u), .second, .val (.long mq), .second, .val (.ref b96), .unset, .unset, .unset] [(.long mq), (.int (18 : Int32)), (.int nv), (.int sv), (.ref b96)])
            obtain ⟨v500, T500, Lc500, X500, hQ500, st500⟩ := own_callS X487 hx hZ hown (y := (⟨"com/example/leafline/leafline/table/IntegerValueParsePlain372PinLaw", "put", "([BIIIJ)V"⟩ : MethodName)) (hw _ (List.mem_of_getElem? (i := 26) rfl)) (hw _ (List.mem_of_getElem? (i := 27) rfl)) (hw _ (List.mem_of_getElem? (i := 4) rfl)) (hw _ (List.mem_of_getElem? (i := 28) rfl)) (by decide) rfl (rm2 l Z a0 hw [] b96 sv nv (18 : Int32) mq (own_pk B s' n M 18) s' n 18 M T487.heap n0 Z0_p487 q1_487c ge_b96 hs hn (by decide) hM hs2 hn2) (by decide) (by decide) (g := (mkF m 500 #[.val (.long q1), .second, .val (.int p2), .val (.int p3), .val (.int p4), .val (.int p5), .val (.int nv), .val (.int ng), .val (.int rf), .val (.int fv), .val (.int sv), .val (.int tv), .val (.long u), .second, .val (.long mq), .second, .val (.ref b96), .unset, .unset, .unset] [(.long mq), (.int (18 : Int32)), (.int nv), (.int sv), (.ref b96)])) rfl (by rw [hml]; rfl) (argsL := [(.ref b96), (.int sv), (.int nv), (.int (18 : Int32)), (.long mq)]) (rest := []) (lenOf pd_2 rfl) rfl rfl (W := 0) (by show 2 * 0 + _ ≤ _; exact Nat.le_of_eq rfl) (hb hby at_500) (by decide) (by decide)
            obtain ⟨rfl, Nq500, K500, q1_500⟩ := hQ500
            have N500 := Fr.app N487 Nq500
            have Z0_p500 : n0 ≤ T500.heap.size := Nat.le_trans Z0_p487 K500.1
            refine hst st500 ?_
            show F T500 (mkF m 503 #[.val (.long q1), .second, .val (.int p2), .val (.int p3), .val (.int p4), .val (.int p5), .val (.int nv), .val (.int ng), .val (.int rf), .val (.int fv), .val (.int sv), .val (.int tv), .val (.long u), .second, .val (.long mq), .second, .val (.ref b96), .unset, .unset, .unset] [])
            have q1_500c : own_A Z T500.heap b96 .byte 26 (fun j => .int (own_pk B s' n M 19 j)) := own_A.congr q1_500 (fun j hj => by rw [own_pk_step B s' n M 18 j])
            refine hst (fun t₀ k₀ => XS.aload X500.here hx rfl (hb hby at_503) rfl rfl k₀) ?_
            show F T500 (mkF m 505 #[.val (.long q1), .second, .val (.int p2), .val (.int p3), .val (.int p4), .val (.int p5), .val (.int nv), .val (.int ng), .val (.int rf), .val (.int fv), .val (.int sv), .val (.int tv), .val (.long u), .second, .val (.long mq), .second, .val (.ref b96), .unset, .unset, .unset] [(.ref b96)])
            refine hst (fun t₀ k₀ => XS.iload X500.here hx rfl (hb hby at_505) rfl k₀) ?_
            show F T500 (mkF m 507 #[.val (.long q1), .second, .val (.int p2), .val (.int p3), .val (.int p4), .val (.int p5), .val (.int nv), .val (.int ng), .val (.int rf), .val (.int fv), .val (.int sv), .val (.int tv), .val (.long u), .second, .val (.long mq), .second, .val (.ref b96), .unset, .unset, .unset] [(.int sv), (.ref b96)])
            refine hst (fun t₀ k₀ => XS.iload X500.here hx rfl (hb hby at_507) rfl k₀) ?_
            show F T500 (mkF m 509 #[.val (.long q1), .second, .val (.int p2), .val (.int p3), .val (.int p4), .val (.int p5), .val (.int nv), .val (.int ng), .val (.int rf), .val (.int fv), .val (.int sv), .val (.int tv), .val (.long u), .second, .val (.long mq), .second, .val (.ref b96), .unset, .unset, .unset] [(.int nv), (.int sv), (.ref b96)])
            refine hst (fun t₀ k₀ => XS.bipush X500.here hx rfl (hb hby at_509) k₀) ?_
            show F T500 (mkF m 511 #[.val (.long q1), .second, .val (.int p2), .val (.int p3), .val (.int p4), .val (.int p5), .val (.int nv), .val (.int ng), .val (.int rf), .val (.int fv), .val (.int sv), .val (.int tv), .val (.long u), .second, .val (.long mq), .second, .val (.ref b96), .unset, .unset, .unset] [(.int (19 : Int32)), (.int nv), (.int sv), (.ref b96)])
            refine hst (fun t₀ k₀ => XS.lload X500.here hx rfl (hb hby at_511) rfl k₀) ?_
            show F T500 (mkF m 513 #[.val (.long q1), .second, .val (.int p2), .val (.int p3), .val (.int p4), .val (.int p5), .val (.int nv), .val (.int ng), .val (.int rf), .val (.int fv), .val (.int sv), .val (.int tv), .val (.long u), .second, .val (.long mq), .second, .val (.ref b96), .unset, .unset, .unset] [(.long mq), (.int (19 : Int32)), (.int nv), (.int sv), (.ref b96)])
            obtain ⟨v513, T513, Lc513, X513, hQ513, st513⟩ := own_callS X500 hx hZ hown (y := (⟨"com/example/leafline/leafline/table/IntegerValueParsePlain372PinLaw", "put", "([BIIIJ)V"⟩ : MethodName)) (hw _ (List.mem_of_getElem? (i := 26) rfl)) (hw _ (List.mem_of_getElem? (i := 27) rfl)) (hw _ (List.mem_of_getElem? (i := 4) rfl)) (hw _ (List.mem_of_getElem? (i := 28) rfl)) (by decide) rfl (rm2 l Z a0 hw [] b96 sv nv (19 : Int32) mq (own_pk B s' n M 19) s' n 19 M T500.heap n0 Z0_p500 q1_500c ge_b96 hs hn (by decide) hM hs2 hn2) (by decide) (by decide) (g := (mkF m 513 #[.val (.long q1), .second, .val (.int p2), .val (.int p3), .val (.int p4), .val (.int p5), .val (.int nv), .val (.int ng), .val (.int rf), .val (.int fv), .val (.int sv), .val (.int tv), .val (.long u), .second, .val (.long mq), .second, .val (.ref b96), .unset, .unset, .unset] [(.long mq), (.int (19 : Int32)), (.int nv), (.int sv), (.ref b96)])) rfl (by rw [hml]; rfl) (argsL := [(.ref b96), (.int sv), (.int nv), (.int (19 : Int32)), (.long mq)]) (rest := []) (lenOf pd_2 rfl) rfl rfl (W := 0) (by show 2 * 0 + _ ≤ _; exact Nat.le_of_eq rfl) (hb hby at_513) (by decide) (by decide)
            obtain ⟨rfl, Nq513, K513, q1_513⟩ := hQ513
            have N513 := Fr.app N500 Nq513
            have Z0_p513 : n0 ≤ T513.heap.size := Nat.le_trans Z0_p500 K513.1
            refine hst st513 ?_
            show F T513 (mkF m 516 #[.val (.long q1), .second, .val (.int p2), .val (.int p3), .val (.int p4), .val (.int p5), .val (.int nv), .val (.int ng), .val (.int rf), .val (.int fv), .val (.int sv), .val (.int tv), .val (.long u), .second, .val (.long mq), .second, .val (.ref b96), .unset, .unset, .unset] [])
            have q1_513c : own_A Z T513.heap b96 .byte 26 (fun j => .int (own_pk B s' n M 20 j)) := own_A.congr q1_513 (fun j hj => by rw [own_pk_step B s' n M 19 j])
            refine hst (fun t₀ k₀ => XS.iconst X513.here hx rfl (hb hby at_516) k₀) ?_
            show F T513 (mkF m 517 #[.val (.long q1), .second, .val (.int p2), .val (.int p3), .val (.int p4), .val (.int p5), .val (.int nv), .val (.int ng), .val (.int rf), .val (.int fv), .val (.int sv), .val (.int tv), .val (.long u), .second, .val (.long mq), .second, .val (.ref b96), .unset, .unset, .unset] [(.int (0 : Int32))])
            refine hst (fun t₀ k₀ => XS.istore X513.here hx rfl (hb hby at_517) rfl (l' := #[.val (.long q1), .second, .val (.int p2), .val (.int p3), .val (.int p4), .val (.int p5), .val (.int nv), .val (.int ng), .val (.int rf), .val (.int fv), .val (.int sv), .val (.int tv), .val (.long u), .second, .val (.long mq), .second, .val (.ref b96), .val (.int (0 : Int32)), .unset, .unset]) rfl k₀) ?_
            show F T513 (mkF m 519 #[.val (.long q1), .second, .val (.int p2), .val (.int p3), .val (.int p4), .val (.int p5), .val (.int nv), .val (.int ng), .val (.int rf), .val (.int fv), .val (.int sv), .val (.int tv), .val (.long u), .second, .val (.long mq), .second, .val (.ref b96), .val (.int (0 : Int32)), .unset, .unset] [])
            refine hst (fun t₀ k₀ => XS.iload X513.here hx rfl (hb hby at_519) rfl k₀) ?_
            show F T513 (mkF m 521 #[.val (.long q1), .second, .val (.int p2), .val (.int p3), .val (.int p4), .val (.int p5), .val (.int nv), .val (.int ng), .val (.int rf), .val (.int fv), .val (.int sv), .val (.int tv), .val (.long u), .second, .val (.long mq), .second, .val (.ref b96), .val (.int (0 : Int32)), .unset, .unset] [(.int rf)])
            by_cases hc521 : rf = (0 : Int32)
            · -- pc 521: taken
              refine hst (fun t₀ k₀ => XS.ifYes X513.here hx rfl (pc0 := 521) (pc' := 603) rfl (hb hby at_521) rfl ((if0 _ _).trans (teq hc521).1) (by decide) (by decide) k₀) ?_
              show F T513 (mkF m 603 #[.val (.long q1), .second, .val (.int p2), .val (.int p3), .val (.int p4), .val (.int p5), .val (.int nv), .val (.int ng), .val (.int rf), .val (.int fv), .val (.int sv), .val (.int tv), .val (.long u), .second, .val (.long mq), .second, .val (.ref b96), .val (.int (0 : Int32)), .unset, .unset] [])
              have hlaw := own_law3 (own_pk B s' n M 20) f s' n M 0 ng 0 hs1 (fun q => by unfold own_pk; rw [if_neg (by have := es1 q; omega)]; exact hB q) (fun k hk _ => by unfold own_pk; rw [if_pos (by omega), show s' + k - s' = k by omega]) (fun q => absurd q.symm n10) (Or.inl rfl)
              refine hst (fun t₀ k₀ => XS.iload X513.here hx rfl (hb hby at_603) rfl k₀) ?_
              show F T513 (mkF m 605 #[.val (.long q1), .second, .val (.int p2), .val (.int p3), .val (.int p4), .val (.int p5), .val (.int nv), .val (.int ng), .val (.int rf), .val (.int fv), .val (.int sv), .val (.int tv), .val (.long u), .second, .val (.long mq), .second, .val (.ref b96), .val (.int (0 : Int32)), .unset, .unset] [(.int nv)])
              by_cases hc605 : nv = (0 : Int32)
              · -- pc 605: taken
                refine hst (fun t₀ k₀ => XS.ifYes X513.here hx rfl (pc0 := 605) (pc' := 620) rfl (hb hby at_605) rfl ((if0 _ _).trans (teq hc605).1) (by decide) (by decide) k₀) ?_
                show F T513 (mkF m 620 #[.val (.long q1), .second, .val (.int p2), .val (.int p3), .val (.int p4), .val (.int p5), .val (.int nv), .val (.int ng), .val (.int rf), .val (.int fv), .val (.int sv), .val (.int tv), .val (.long u), .second, .val (.long mq), .second, .val (.ref b96), .val (.int (0 : Int32)), .unset, .unset] [])
                refine hst (fun t₀ k₀ => X513.ldc2J hx hown (mvT hZ (hw _ (List.mem_of_getElem? (i := 34) rfl))) (g := (mkF m 620 #[.val (.long q1), .second, .val (.int p2), .val (.int p3), .val (.int p4), .val (.int p5), .val (.int nv), .val (.int ng), .val (.int rf), .val (.int fv), .val (.int sv), .val (.int tv), .val (.long u), .second, .val (.long mq), .second, .val (.ref b96), .val (.int (0 : Int32)), .unset, .unset] [])) rfl (hb hby at_620) k₀) ?_
                show F T513 (mkF m 623 #[.val (.long q1), .second, .val (.int p2), .val (.int p3), .val (.int p4), .val (.int p5), .val (.int nv), .val (.int ng), .val (.int rf), .val (.int fv), .val (.int sv), .val (.int tv), .val (.long u), .second, .val (.long mq), .second, .val (.ref b96), .val (.int (0 : Int32)), .unset, .unset] [(.long (-9223372036854775808 : Int64))])
                refine hst (fun t₀ k₀ => XS.goto X513.here hx rfl (pc0 := 623) (pc' := 639) rfl (hb hby at_623) (by decide) (by decide) k₀) ?_
                show F T513 (mkF m 639 #[.val (.long q1), .second, .val (.int p2), .val (.int p3), .val (.int p4), .val (.int p5), .val (.int nv), .val (.int ng), .val (.int rf), .val (.int fv), .val (.int sv), .val (.int tv), .val (.long u), .second, .val (.long mq), .second, .val (.ref b96), .val (.int (0 : Int32)), .unset, .unset] [(.long (-9223372036854775808 : Int64))])
                refine hst (fun t₀ k₀ => XS.lstore X513.here hx rfl (hb hby at_639) rfl (l' := #[.val (.long q1), .second, .val (.int p2), .val (.int p3), .val (.int p4), .val (.int p5), .val (.int nv), .val (.int ng), .val (.int rf), .val (.int fv), .val (.int sv), .val (.int tv), .val (.long u), .second, .val (.long mq), .second, .val (.ref b96), .val (.int (0 : Int32)), .val (.long (-9223372036854775808 : Int64)), .second]) rfl k₀) ?_
                show F T513 (mkF m 641 #[.val (.long q1), .second, .val (.int p2), .val (.int p3), .val (.int p4), .val (.int p5), .val (.int nv), .val (.int ng), .val (.int rf), .val (.int fv), .val (.int sv), .val (.int tv), .val (.long u), .second, .val (.long mq), .second, .val (.ref b96), .val (.int (0 : Int32)), .val (.long (-9223372036854775808 : Int64)), .second] [])
                refine hst (fun t₀ k₀ => XS.aload X513.here hx rfl (hb hby at_641) rfl rfl k₀) ?_
                show F T513 (mkF m 643 #[.val (.long q1), .second, .val (.int p2), .val (.int p3), .val (.int p4), .val (.int p5), .val (.int nv), .val (.int ng), .val (.int rf), .val (.int fv), .val (.int sv), .val (.int tv), .val (.long u), .second, .val (.long mq), .second, .val (.ref b96), .val (.int (0 : Int32)), .val (.long (-9223372036854775808 : Int64)), .second] [(.ref b96)])
                refine hst (fun t₀ k₀ => XS.iload X513.here hx rfl (hb hby at_643) rfl k₀) ?_
                show F T513 (mkF m 645 #[.val (.long q1), .second, .val (.int p2), .val (.int p3), .val (.int p4), .val (.int p5), .val (.int nv), .val (.int ng), .val (.int rf), .val (.int fv), .val (.int sv), .val (.int tv), .val (.long u), .second, .val (.long mq), .second, .val (.ref b96), .val (.int (0 : Int32)), .val (.long (-9223372036854775808 : Int64)), .second] [(.int fv), (.ref b96)])
                refine hst (fun t₀ k₀ => XS.iload X513.here hx rfl (hb hby at_645) rfl k₀) ?_
                show F T513 (mkF m 647 #[.val (.long q1), .second, .val (.int p2), .val (.int p3), .val (.int p4), .val (.int p5), .val (.int nv), .val (.int ng), .val (.int rf), .val (.int fv), .val (.int sv), .val (.int tv), .val (.long u), .second, .val (.long mq), .second, .val (.ref b96), .val (.int (0 : Int32)), .val (.long (-9223372036854775808 : Int64)), .second] [(.int tv), (.int fv), (.ref b96)])
                obtain ⟨v647, T647, Lc647, X647, hQ647, st647⟩ := own_callS X513 hx hZ hown (y := (⟨"com/example/leafline/leafline/table/IntegerValue", "parsePlain", "([BII)J"⟩ : MethodName)) (hw _ (List.mem_of_getElem? (i := 29) rfl)) (hw _ (List.mem_of_getElem? (i := 30) rfl)) (hw _ (List.mem_of_getElem? (i := 31) rfl)) (hw _ (List.mem_of_getElem? (i := 32) rfl)) (by decide) rfl (rm3 l Z a0 hw [] b96 fv tv (own_pk B s' n M 20) 26 f (s' + n) T513.heap n0 Z0_p513 q1_513c hf ktv (by omega) (by omega) (by decide)) (by decide) (by decide) (g := (mkF m 647 #[.val (.long q1), .second, .val (.int p2), .val (.int p3), .val (.int p4), .val (.int p5), .val (.int nv), .val (.int ng), .val (.int rf), .val (.int fv), .val (.int sv), .val (.int tv), .val (.long u), .second, .val (.long mq), .second, .val (.ref b96), .val (.int (0 : Int32)), .val (.long (-9223372036854775808 : Int64)), .second] [(.int tv), (.int fv), (.ref b96)])) rfl (by rw [hml]; rfl) (argsL := [(.ref b96), (.int fv), (.int tv)]) (rest := []) (lenOf pd_1 rfl) rfl rfl (W := 0) (by show 2 * 0 + _ ≤ _; exact Nat.le_of_eq rfl) (hb hby at_647) (by decide) (by decide)
                obtain ⟨rfl, Nq647, he647⟩ := hQ647
                have N647 := Fr.app N513 Nq647
                refine hst st647 ?_
                show F T647 (mkF m 650 #[.val (.long q1), .second, .val (.int p2), .val (.int p3), .val (.int p4), .val (.int p5), .val (.int nv), .val (.int ng), .val (.int rf), .val (.int fv), .val (.int sv), .val (.int tv), .val (.long u), .second, .val (.long mq), .second, .val (.ref b96), .val (.int (0 : Int32)), .val (.long (-9223372036854775808 : Int64)), .second] [(.long (own_pp (own_pk B s' n M 20) f (s' + n)))])
                refine hst (fun t₀ k₀ => XS.lload X647.here hx rfl (hb hby at_650) rfl k₀) ?_
                show F T647 (mkF m 652 #[.val (.long q1), .second, .val (.int p2), .val (.int p3), .val (.int p4), .val (.int p5), .val (.int nv), .val (.int ng), .val (.int rf), .val (.int fv), .val (.int sv), .val (.int tv), .val (.long u), .second, .val (.long mq), .second, .val (.ref b96), .val (.int (0 : Int32)), .val (.long (-9223372036854775808 : Int64)), .second] [(.long (-9223372036854775808 : Int64)), (.long (own_pp (own_pk B s' n M 20) f (s' + n)))])
                refine hst (fun t₀ k₀ => XS.lcmp X647.here hx rfl (hb hby at_652) rfl k₀) ?_
                show F T647 (mkF m 653 #[.val (.long q1), .second, .val (.int p2), .val (.int p3), .val (.int p4), .val (.int p5), .val (.int nv), .val (.int ng), .val (.int rf), .val (.int fv), .val (.int sv), .val (.int tv), .val (.long u), .second, .val (.long mq), .second, .val (.ref b96), .val (.int (0 : Int32)), .val (.long (-9223372036854775808 : Int64)), .second] [(.int (lcmpW (own_pp (own_pk B s' n M 20) f (s' + n)) (-9223372036854775808 : Int64)))])
                refine hst (fun t₀ k₀ => XS.ifNo X647.here hx rfl (hb hby at_653) rfl ((if0 _ _).trans (teq ((lw_eq _ _).mpr (hlaw.1 (Or.inl (by rw [hc605] at hn; omega))))).2) k₀) ?_
                show F T647 (mkF m 656 #[.val (.long q1), .second, .val (.int p2), .val (.int p3), .val (.int p4), .val (.int p5), .val (.int nv), .val (.int ng), .val (.int rf), .val (.int fv), .val (.int sv), .val (.int tv), .val (.long u), .second, .val (.long mq), .second, .val (.ref b96), .val (.int (0 : Int32)), .val (.long (-9223372036854775808 : Int64)), .second] [])
                refine hst (fun t₀ k₀ => XS.iconst X647.here hx rfl (hb hby at_656) k₀) ?_
                show F T647 (mkF m 657 #[.val (.long q1), .second, .val (.int p2), .val (.int p3), .val (.int p4), .val (.int p5), .val (.int nv), .val (.int ng), .val (.int rf), .val (.int fv), .val (.int sv), .val (.int tv), .val (.long u), .second, .val (.long mq), .second, .val (.ref b96), .val (.int (0 : Int32)), .val (.long (-9223372036854775808 : Int64)), .second] [(.int (1 : Int32))])
                refine hst (fun t₀ k₀ => XS.goto X647.here hx rfl (pc0 := 657) (pc' := 661) rfl (hb hby at_657) (by decide) (by decide) k₀) ?_
                show F T647 (mkF m 661 #[.val (.long q1), .second, .val (.int p2), .val (.int p3), .val (.int p4), .val (.int p5), .val (.int nv), .val (.int ng), .val (.int rf), .val (.int fv), .val (.int sv), .val (.int tv), .val (.long u), .second, .val (.long mq), .second, .val (.ref b96), .val (.int (0 : Int32)), .val (.long (-9223372036854775808 : Int64)), .second] [(.int (1 : Int32))])
                rw [hF]
                refine own_retN X647 hx hret (by simp) hlk (hb hby at_661) (by decide) (by decide) ?_
                rw [he647]
                exact ⟨rfl, N647⟩
              · -- pc 605: not taken
                refine hst (fun t₀ k₀ => XS.ifNo X513.here hx rfl (hb hby at_605) rfl ((if0 _ _).trans (feq hc605).1) k₀) ?_
                show F T513 (mkF m 608 #[.val (.long q1), .second, .val (.int p2), .val (.int p3), .val (.int p4), .val (.int p5), .val (.int nv), .val (.int ng), .val (.int rf), .val (.int fv), .val (.int sv), .val (.int tv), .val (.long u), .second, .val (.long mq), .second, .val (.ref b96), .val (.int (0 : Int32)), .unset, .unset] [])
                refine hst (fun t₀ k₀ => XS.iload X513.here hx rfl (hb hby at_608) rfl k₀) ?_
                show F T513 (mkF m 610 #[.val (.long q1), .second, .val (.int p2), .val (.int p3), .val (.int p4), .val (.int p5), .val (.int nv), .val (.int ng), .val (.int rf), .val (.int fv), .val (.int sv), .val (.int tv), .val (.long u), .second, .val (.long mq), .second, .val (.ref b96), .val (.int (0 : Int32)), .unset, .unset] [(.int nv)])
                refine hst (fun t₀ k₀ => XS.bipush X513.here hx rfl (hb hby at_610) k₀) ?_
                show F T513 (mkF m 612 #[.val (.long q1), .second, .val (.int p2), .val (.int p3), .val (.int p4), .val (.int p5), .val (.int nv), .val (.int ng), .val (.int rf), .val (.int fv), .val (.int sv), .val (.int tv), .val (.long u), .second, .val (.long mq), .second, .val (.ref b96), .val (.int (0 : Int32)), .unset, .unset] [(.int (18 : Int32)), (.int nv)])
                by_cases hc612 : (18 : Int32) < nv
                · -- pc 612: taken
                  refine hst (fun t₀ k₀ => XS.icmpYes X513.here hx rfl (pc0 := 612) (pc' := 620) rfl (hb hby at_612) rfl (tlt hc612).2.2.1 (by decide) (by decide) k₀) ?_
                  show F T513 (mkF m 620 #[.val (.long q1), .second, .val (.int p2), .val (.int p3), .val (.int p4), .val (.int p5), .val (.int nv), .val (.int ng), .val (.int rf), .val (.int fv), .val (.int sv), .val (.int tv), .val (.long u), .second, .val (.long mq), .second, .val (.ref b96), .val (.int (0 : Int32)), .unset, .unset] [])
                  refine hst (fun t₀ k₀ => X513.ldc2J hx hown (mvT hZ (hw _ (List.mem_of_getElem? (i := 34) rfl))) (g := (mkF m 620 #[.val (.long q1), .second, .val (.int p2), .val (.int p3), .val (.int p4), .val (.int p5), .val (.int nv), .val (.int ng), .val (.int rf), .val (.int fv), .val (.int sv), .val (.int tv), .val (.long u), .second, .val (.long mq), .second, .val (.ref b96), .val (.int (0 : Int32)), .unset, .unset] [])) rfl (hb hby at_620) k₀) ?_
                  show F T513 (mkF m 623 #[.val (.long q1), .second, .val (.int p2), .val (.int p3), .val (.int p4), .val (.int p5), .val (.int nv), .val (.int ng), .val (.int rf), .val (.int fv), .val (.int sv), .val (.int tv), .val (.long u), .second, .val (.long mq), .second, .val (.ref b96), .val (.int (0 : Int32)), .unset, .unset] [(.long (-9223372036854775808 : Int64))])
                  refine hst (fun t₀ k₀ => XS.goto X513.here hx rfl (pc0 := 623) (pc' := 639) rfl (hb hby at_623) (by decide) (by decide) k₀) ?_
                  show F T513 (mkF m 639 #[.val (.long q1), .second, .val (.int p2), .val (.int p3), .val (.int p4), .val (.int p5), .val (.int nv), .val (.int ng), .val (.int rf), .val (.int fv), .val (.int sv), .val (.int tv), .val (.long u), .second, .val (.long mq), .second, .val (.ref b96), .val (.int (0 : Int32)), .unset, .unset] [(.long (-9223372036854775808 : Int64))])
                  refine hst (fun t₀ k₀ => XS.lstore X513.here hx rfl (hb hby at_639) rfl (l' := #[.val (.long q1), .second, .val (.int p2), .val (.int p3), .val (.int p4), .val (.int p5), .val (.int nv), .val (.int ng), .val (.int rf), .val (.int fv), .val (.int sv), .val (.int tv), .val (.long u), .second, .val (.long mq), .second, .val (.ref b96), .val (.int (0 : Int32)), .val (.long (-9223372036854775808 : Int64)), .second]) rfl k₀) ?_
                  show F T513 (mkF m 641 #[.val (.long q1), .second, .val (.int p2), .val (.int p3), .val (.int p4), .val (.int p5), .val (.int nv), .val (.int ng), .val (.int rf), .val (.int fv), .val (.int sv), .val (.int tv), .val (.long u), .second, .val (.long mq), .second, .val (.ref b96), .val (.int (0 : Int32)), .val (.long (-9223372036854775808 : Int64)), .second] [])
                  refine hst (fun t₀ k₀ => XS.aload X513.here hx rfl (hb hby at_641) rfl rfl k₀) ?_
                  show F T513 (mkF m 643 #[.val (.long q1), .second, .val (.int p2), .val (.int p3), .val (.int p4), .val (.int p5), .val (.int nv), .val (.int ng), .val (.int rf), .val (.int fv), .val (.int sv), .val (.int tv), .val (.long u), .second, .val (.long mq), .second, .val (.ref b96), .val (.int (0 : Int32)), .val (.long (-9223372036854775808 : Int64)), .second] [(.ref b96)])
                  refine hst (fun t₀ k₀ => XS.iload X513.here hx rfl (hb hby at_643) rfl k₀) ?_
                  show F T513 (mkF m 645 #[.val (.long q1), .second, .val (.int p2), .val (.int p3), .val (.int p4), .val (.int p5), .val (.int nv), .val (.int ng), .val (.int rf), .val (.int fv), .val (.int sv), .val (.int tv), .val (.long u), .second, .val (.long mq), .second, .val (.ref b96), .val (.int (0 : Int32)), .val (.long (-9223372036854775808 : Int64)), .second] [(.int fv), (.ref b96)])
                  refine hst (fun t₀ k₀ => XS.iload X513.here hx rfl (hb hby at_645) rfl k₀) ?_
                  show F T513 (mkF m 647 #[.val (.long q1), .second, .val (.int p2), .val (.int p3), .val (.int p4), .val (.int p5), .val (.int nv), .val (.int ng), .val (.int rf), .val (.int fv), .val (.int sv), .val (.int tv), .val (.long u), .second, .val (.long mq), .second, .val (.ref b96), .val (.int (0 : Int32)), .val (.long (-9223372036854775808 : Int64)), .second] [(.int tv), (.int fv), (.ref b96)])
                  obtain ⟨v647, T647, Lc647, X647, hQ647, st647⟩ := own_callS X513 hx hZ hown (y := (⟨"com/example/leafline/leafline/table/IntegerValue", "parsePlain", "([BII)J"⟩ : MethodName)) (hw _ (List.mem_of_getElem? (i := 29) rfl)) (hw _ (List.mem_of_getElem? (i := 30) rfl)) (hw _ (List.mem_of_getElem? (i := 31) rfl)) (hw _ (List.mem_of_getElem? (i := 32) rfl)) (by decide) rfl (rm3 l Z a0 hw [] b96 fv tv (own_pk B s' n M 20) 26 f (s' + n) T513.heap n0 Z0_p513 q1_513c hf ktv (by omega) (by omega) (by decide)) (by decide) (by decide) (g := (mkF m 647 #[.val (.long q1), .second, .val (.int p2), .val (.int p3), .val (.int p4), .val (.int p5), .val (.int nv), .val (.int ng), .val (.int rf), .val (.int fv), .val (.int sv), .val (.int tv), .val (.long u), .second, .val (.long mq), .second, .val (.ref b96), .val (.int (0 : Int32)), .val (.long (-9223372036854775808 : Int64)), .second] [(.int tv), (.int fv), (.ref b96)])) rfl (by rw [hml]; rfl) (argsL := [(.ref b96), (.int fv), (.int tv)]) (rest := []) (lenOf pd_1 rfl) rfl rfl (W := 0) (by show 2 * 0 + _ ≤ _; exact Nat.le_of_eq rfl) (hb hby at_647) (by decide) (by decide)
                  obtain ⟨rfl, Nq647, he647⟩ := hQ647
                  have N647 := Fr.app N513 Nq647
                  refine hst st647 ?_
                  show F T647 (mkF m 650 #[.val (.long q1), .second, .val (.int p2), .val (.int p3), .val (.int p4), .val (.int p5), .val (.int nv), .val (.int ng), .val (.int rf), .val (.int fv), .val (.int sv), .val (.int tv), .val (.long u), .second, .val (.long mq), .second, .val (.ref b96), .val (.int (0 : Int32)), .val (.long (-9223372036854775808 : Int64)), .second] [(.long (own_pp (own_pk B s' n M 20) f (s' + n)))])
                  refine hst (fun t₀ k₀ => XS.lload X647.here hx rfl (hb hby at_650) rfl k₀) ?_
                  show F T647 (mkF m 652 #[.val (.long q1), .second, .val (.int p2), .val (.int p3), .val (.int p4), .val (.int p5), .val (.int nv), .val (.int ng), .val (.int rf), .val (.int fv), .val (.int sv), .val (.int tv), .val (.long u), .second, .val (.long mq), .second, .val (.ref b96), .val (.int (0 : Int32)), .val (.long (-9223372036854775808 : Int64)), .second] [(.long (-9223372036854775808 : Int64)), (.long (own_pp (own_pk B s' n M 20) f (s' + n)))])
                  refine hst (fun t₀ k₀ => XS.lcmp X647.here hx rfl (hb hby at_652) rfl k₀) ?_
                  show F T647 (mkF m 653 #[.val (.long q1), .second, .val (.int p2), .val (.int p3), .val (.int p4), .val (.int p5), .val (.int nv), .val (.int ng), .val (.int rf), .val (.int fv), .val (.int sv), .val (.int tv), .val (.long u), .second, .val (.long mq), .second, .val (.ref b96), .val (.int (0 : Int32)), .val (.long (-9223372036854775808 : Int64)), .second] [(.int (lcmpW (own_pp (own_pk B s' n M 20) f (s' + n)) (-9223372036854775808 : Int64)))])
                  refine hst (fun t₀ k₀ => XS.ifNo X647.here hx rfl (hb hby at_653) rfl ((if0 _ _).trans (teq ((lw_eq _ _).mpr (hlaw.1 (Or.inr (Or.inl (by rw [own_lt32] at hc612; omega)))))).2) k₀) ?_
                  show F T647 (mkF m 656 #[.val (.long q1), .second, .val (.int p2), .val (.int p3), .val (.int p4), .val (.int p5), .val (.int nv), .val (.int ng), .val (.int rf), .val (.int fv), .val (.int sv), .val (.int tv), .val (.long u), .second, .val (.long mq), .second, .val (.ref b96), .val (.int (0 : Int32)), .val (.long (-9223372036854775808 : Int64)), .second] [])
                  refine hst (fun t₀ k₀ => XS.iconst X647.here hx rfl (hb hby at_656) k₀) ?_
                  show F T647 (mkF m 657 #[.val (.long q1), .second, .val (.int p2), .val (.int p3), .val (.int p4), .val (.int p5), .val (.int nv), .val (.int ng), .val (.int rf), .val (.int fv), .val (.int sv), .val (.int tv), .val (.long u), .second, .val (.long mq), .second, .val (.ref b96), .val (.int (0 : Int32)), .val (.long (-9223372036854775808 : Int64)), .second] [(.int (1 : Int32))])
                  refine hst (fun t₀ k₀ => XS.goto X647.here hx rfl (pc0 := 657) (pc' := 661) rfl (hb hby at_657) (by decide) (by decide) k₀) ?_
                  show F T647 (mkF m 661 #[.val (.long q1), .second, .val (.int p2), .val (.int p3), .val (.int p4), .val (.int p5), .val (.int nv), .val (.int ng), .val (.int rf), .val (.int fv), .val (.int sv), .val (.int tv), .val (.long u), .second, .val (.long mq), .second, .val (.ref b96), .val (.int (0 : Int32)), .val (.long (-9223372036854775808 : Int64)), .second] [(.int (1 : Int32))])
                  rw [hF]
                  refine own_retN X647 hx hret (by simp) hlk (hb hby at_661) (by decide) (by decide) ?_
                  rw [he647]
                  exact ⟨rfl, N647⟩
                · -- pc 612: not taken
                  refine hst (fun t₀ k₀ => XS.icmpNo X513.here hx rfl (hb hby at_612) rfl (flt hc612).2.2.1 k₀) ?_
                  show F T513 (mkF m 615 #[.val (.long q1), .second, .val (.int p2), .val (.int p3), .val (.int p4), .val (.int p5), .val (.int nv), .val (.int ng), .val (.int rf), .val (.int fv), .val (.int sv), .val (.int tv), .val (.long u), .second, .val (.long mq), .second, .val (.ref b96), .val (.int (0 : Int32)), .unset, .unset] [])
                  refine hst (fun t₀ k₀ => XS.iload X513.here hx rfl (hb hby at_615) rfl k₀) ?_
                  show F T513 (mkF m 617 #[.val (.long q1), .second, .val (.int p2), .val (.int p3), .val (.int p4), .val (.int p5), .val (.int nv), .val (.int ng), .val (.int rf), .val (.int fv), .val (.int sv), .val (.int tv), .val (.long u), .second, .val (.long mq), .second, .val (.ref b96), .val (.int (0 : Int32)), .unset, .unset] [(.int (0 : Int32))])
                  refine hst (fun t₀ k₀ => XS.ifYes X513.here hx rfl (pc0 := 617) (pc' := 626) rfl (hb hby at_617) rfl ((if0 _ _).trans (teq (by decide)).1) (by decide) (by decide) k₀) ?_
                  show F T513 (mkF m 626 #[.val (.long q1), .second, .val (.int p2), .val (.int p3), .val (.int p4), .val (.int p5), .val (.int nv), .val (.int ng), .val (.int rf), .val (.int fv), .val (.int sv), .val (.int tv), .val (.long u), .second, .val (.long mq), .second, .val (.ref b96), .val (.int (0 : Int32)), .unset, .unset] [])
                  refine hst (fun t₀ k₀ => XS.iload X513.here hx rfl (hb hby at_626) rfl k₀) ?_
                  show F T513 (mkF m 628 #[.val (.long q1), .second, .val (.int p2), .val (.int p3), .val (.int p4), .val (.int p5), .val (.int nv), .val (.int ng), .val (.int rf), .val (.int fv), .val (.int sv), .val (.int tv), .val (.long u), .second, .val (.long mq), .second, .val (.ref b96), .val (.int (0 : Int32)), .unset, .unset] [(.int ng)])
                  by_cases hc628 : ng = (0 : Int32)
                  · -- pc 628: taken
                    refine hst (fun t₀ k₀ => XS.ifYes X513.here hx rfl (pc0 := 628) (pc' := 637) rfl (hb hby at_628) rfl ((if0 _ _).trans (teq hc628).1) (by decide) (by decide) k₀) ?_
                    show F T513 (mkF m 637 #[.val (.long q1), .second, .val (.int p2), .val (.int p3), .val (.int p4), .val (.int p5), .val (.int nv), .val (.int ng), .val (.int rf), .val (.int fv), .val (.int sv), .val (.int tv), .val (.long u), .second, .val (.long mq), .second, .val (.ref b96), .val (.int (0 : Int32)), .unset, .unset] [])
                    refine hst (fun t₀ k₀ => XS.lload X513.here hx rfl (hb hby at_637) rfl k₀) ?_
                    show F T513 (mkF m 639 #[.val (.long q1), .second, .val (.int p2), .val (.int p3), .val (.int p4), .val (.int p5), .val (.int nv), .val (.int ng), .val (.int rf), .val (.int fv), .val (.int sv), .val (.int tv), .val (.long u), .second, .val (.long mq), .second, .val (.ref b96), .val (.int (0 : Int32)), .unset, .unset] [(.long mq)])
                    refine hst (fun t₀ k₀ => XS.lstore X513.here hx rfl (hb hby at_639) rfl (l' := #[.val (.long q1), .second, .val (.int p2), .val (.int p3), .val (.int p4), .val (.int p5), .val (.int nv), .val (.int ng), .val (.int rf), .val (.int fv), .val (.int sv), .val (.int tv), .val (.long u), .second, .val (.long mq), .second, .val (.ref b96), .val (.int (0 : Int32)), .val (.long mq), .second]) rfl k₀) ?_
                    show F T513 (mkF m 641 #[.val (.long q1), .second, .val (.int p2), .val (.int p3), .val (.int p4), .val (.int p5), .val (.int nv), .val (.int ng), .val (.int rf), .val (.int fv), .val (.int sv), .val (.int tv), .val (.long u), .second, .val (.long mq), .second, .val (.ref b96), .val (.int (0 : Int32)), .val (.long mq), .second] [])
                    refine hst (fun t₀ k₀ => XS.aload X513.here hx rfl (hb hby at_641) rfl rfl k₀) ?_
                    show F T513 (mkF m 643 #[.val (.long q1), .second, .val (.int p2), .val (.int p3), .val (.int p4), .val (.int p5), .val (.int nv), .val (.int ng), .val (.int rf), .val (.int fv), .val (.int sv), .val (.int tv), .val (.long u), .second, .val (.long mq), .second, .val (.ref b96), .val (.int (0 : Int32)), .val (.long mq), .second] [(.ref b96)])
                    refine hst (fun t₀ k₀ => XS.iload X513.here hx rfl (hb hby at_643) rfl k₀) ?_
                    show F T513 (mkF m 645 #[.val (.long q1), .second, .val (.int p2), .val (.int p3), .val (.int p4), .val (.int p5), .val (.int nv), .val (.int ng), .val (.int rf), .val (.int fv), .val (.int sv), .val (.int tv), .val (.long u), .second, .val (.long mq), .second, .val (.ref b96), .val (.int (0 : Int32)), .val (.long mq), .second] [(.int fv), (.ref b96)])
                    refine hst (fun t₀ k₀ => XS.iload X513.here hx rfl (hb hby at_645) rfl k₀) ?_
                    show F T513 (mkF m 647 #[.val (.long q1), .second, .val (.int p2), .val (.int p3), .val (.int p4), .val (.int p5), .val (.int nv), .val (.int ng), .val (.int rf), .val (.int fv), .val (.int sv), .val (.int tv), .val (.long u), .second, .val (.long mq), .second, .val (.ref b96), .val (.int (0 : Int32)), .val (.long mq), .second] [(.int tv), (.int fv), (.ref b96)])
                    obtain ⟨v647, T647, Lc647, X647, hQ647, st647⟩ := own_callS X513 hx hZ hown (y := (⟨"com/example/leafline/leafline/table/IntegerValue", "parsePlain", "([BII)J"⟩ : MethodName)) (hw _ (List.mem_of_getElem? (i := 29) rfl)) (hw _ (List.mem_of_getElem? (i := 30) rfl)) (hw _ (List.mem_of_getElem? (i := 31) rfl)) (hw _ (List.mem_of_getElem? (i := 32) rfl)) (by decide) rfl (rm3 l Z a0 hw [] b96 fv tv (own_pk B s' n M 20) 26 f (s' + n) T513.heap n0 Z0_p513 q1_513c hf ktv (by omega) (by omega) (by decide)) (by decide) (by decide) (g := (mkF m 647 #[.val (.long q1), .second, .val (.int p2), .val (.int p3), .val (.int p4), .val (.int p5), .val (.int nv), .val (.int ng), .val (.int rf), .val (.int fv), .val (.int sv), .val (.int tv), .val (.long u), .second, .val (.long mq), .second, .val (.ref b96), .val (.int (0 : Int32)), .val (.long mq), .second] [(.int tv), (.int fv), (.ref b96)])) rfl (by rw [hml]; rfl) (argsL := [(.ref b96), (.int fv), (.int tv)]) (rest := []) (lenOf pd_1 rfl) rfl rfl (W := 0) (by show 2 * 0 + _ ≤ _; exact Nat.le_of_eq rfl) (hb hby at_647) (by decide) (by decide)
                    obtain ⟨rfl, Nq647, he647⟩ := hQ647
                    have N647 := Fr.app N513 Nq647
                    refine hst st647 ?_
                    show F T647 (mkF m 650 #[.val (.long q1), .second, .val (.int p2), .val (.int p3), .val (.int p4), .val (.int p5), .val (.int nv), .val (.int ng), .val (.int rf), .val (.int fv), .val (.int sv), .val (.int tv), .val (.long u), .second, .val (.long mq), .second, .val (.ref b96), .val (.int (0 : Int32)), .val (.long mq), .second] [(.long (own_pp (own_pk B s' n M 20) f (s' + n)))])
                    refine hst (fun t₀ k₀ => XS.lload X647.here hx rfl (hb hby at_650) rfl k₀) ?_
                    show F T647 (mkF m 652 #[.val (.long q1), .second, .val (.int p2), .val (.int p3), .val (.int p4), .val (.int p5), .val (.int nv), .val (.int ng), .val (.int rf), .val (.int fv), .val (.int sv), .val (.int tv), .val (.long u), .second, .val (.long mq), .second, .val (.ref b96), .val (.int (0 : Int32)), .val (.long mq), .second] [(.long mq), (.long (own_pp (own_pk B s' n M 20) f (s' + n)))])
                    refine hst (fun t₀ k₀ => XS.lcmp X647.here hx rfl (hb hby at_652) rfl k₀) ?_
                    show F T647 (mkF m 653 #[.val (.long q1), .second, .val (.int p2), .val (.int p3), .val (.int p4), .val (.int p5), .val (.int nv), .val (.int ng), .val (.int rf), .val (.int fv), .val (.int sv), .val (.int tv), .val (.long u), .second, .val (.long mq), .second, .val (.ref b96), .val (.int (0 : Int32)), .val (.long mq), .second] [(.int (lcmpW (own_pp (own_pk B s' n M 20) f (s' + n)) mq))])
                    refine hst (fun t₀ k₀ => XS.ifNo X647.here hx rfl (hb hby at_653) rfl ((if0 _ _).trans (teq ((lw_eq _ _).mpr (by rw [hlaw.2 mq (by have z : ¬ nv.toInt = (0 : Int32).toInt := fun q => hc605 (Int32.toInt_inj.mp q); omega) (by rw [own_lt32] at hc612; omega) rfl (hM2 (by rw [own_lt32] at hc612; omega)) hM]; first | rw [if_pos hc628] | rw [if_neg hc628]))).2) k₀) ?_
                    show F T647 (mkF m 656 #[.val (.long q1), .second, .val (.int p2), .val (.int p3), .val (.int p4), .val (.int p5), .val (.int nv), .val (.int ng), .val (.int rf), .val (.int fv), .val (.int sv), .val (.int tv), .val (.long u), .second, .val (.long mq), .second, .val (.ref b96), .val (.int (0 : Int32)), .val (.long mq), .second] [])
                    refine hst (fun t₀ k₀ => XS.iconst X647.here hx rfl (hb hby at_656) k₀) ?_
                    show F T647 (mkF m 657 #[.val (.long q1), .second, .val (.int p2), .val (.int p3), .val (.int p4), .val (.int p5), .val (.int nv), .val (.int ng), .val (.int rf), .val (.int fv), .val (.int sv), .val (.int tv), .val (.long u), .second, .val (.long mq), .second, .val (.ref b96), .val (.int (0 : Int32)), .val (.long mq), .second] [(.int (1 : Int32))])
                    refine hst (fun t₀ k₀ => XS.goto X647.here hx rfl (pc0 := 657) (pc' := 661) rfl (hb hby at_657) (by decide) (by decide) k₀) ?_
                    show F T647 (mkF m 661 #[.val (.long q1), .second, .val (.int p2), .val (.int p3), .val (.int p4), .val (.int p5), .val (.int nv), .val (.int ng), .val (.int rf), .val (.int fv), .val (.int sv), .val (.int tv), .val (.long u), .second, .val (.long mq), .second, .val (.ref b96), .val (.int (0 : Int32)), .val (.long mq), .second] [(.int (1 : Int32))])
                    rw [hF]
                    refine own_retN X647 hx hret (by simp) hlk (hb hby at_661) (by decide) (by decide) ?_
                    rw [he647]
                    exact ⟨rfl, N647⟩
                  · -- pc 628: not taken
                    refine hst (fun t₀ k₀ => XS.ifNo X513.here hx rfl (hb hby at_628) rfl ((if0 _ _).trans (feq hc628).1) k₀) ?_
                    show F T513 (mkF m 631 #[.val (.long q1), .second, .val (.int p2), .val (.int p3), .val (.int p4), .val (.int p5), .val (.int nv), .val (.int ng), .val (.int rf), .val (.int fv), .val (.int sv), .val (.int tv), .val (.long u), .second, .val (.long mq), .second, .val (.ref b96), .val (.int (0 : Int32)), .unset, .unset] [])
                    refine hst (fun t₀ k₀ => XS.lload X513.here hx rfl (hb hby at_631) rfl k₀) ?_
                    show F T513 (mkF m 633 #[.val (.long q1), .second, .val (.int p2), .val (.int p3), .val (.int p4), .val (.int p5), .val (.int nv), .val (.int ng), .val (.int rf), .val (.int fv), .val (.int sv), .val (.int tv), .val (.long u), .second, .val (.long mq), .second, .val (.ref b96), .val (.int (0 : Int32)), .unset, .unset] [(.long mq)])
                    refine hst (fun t₀ k₀ => XS.lneg X513.here hx rfl (hb hby at_633) rfl k₀) ?_
                    show F T513 (mkF m 634 #[.val (.long q1), .second, .val (.int p2), .val (.int p3), .val (.int p4), .val (.int p5), .val (.int nv), .val (.int ng), .val (.int rf), .val (.int fv), .val (.int sv), .val (.int tv), .val (.long u), .second, .val (.long mq), .second, .val (.ref b96), .val (.int (0 : Int32)), .unset, .unset] [(.long (-mq))])
                    refine hst (fun t₀ k₀ => XS.goto X513.here hx rfl (pc0 := 634) (pc' := 639) rfl (hb hby at_634) (by decide) (by decide) k₀) ?_
                    show F T513 (mkF m 639 #[.val (.long q1), .second, .val (.int p2), .val (.int p3), .val (.int p4), .val (.int p5), .val (.int nv), .val (.int ng), .val (.int rf), .val (.int fv), .val (.int sv), .val (.int tv), .val (.long u), .second, .val (.long mq), .second, .val (.ref b96), .val (.int (0 : Int32)), .unset, .unset] [(.long (-mq))])
                    refine hst (fun t₀ k₀ => XS.lstore X513.here hx rfl (hb hby at_639) rfl (l' := #[.val (.long q1), .second, .val (.int p2), .val (.int p3), .val (.int p4), .val (.int p5), .val (.int nv), .val (.int ng), .val (.int rf), .val (.int fv), .val (.int sv), .val (.int tv), .val (.long u), .second, .val (.long mq), .second, .val (.ref b96), .val (.int (0 : Int32)), .val (.long (-mq)), .second]) rfl k₀) ?_
                    show F T513 (mkF m 641 #[.val (.long q1), .second, .val (.int p2), .val (.int p3), .val (.int p4), .val (.int p5), .val (.int nv), .val (.int ng), .val (.int rf), .val (.int fv), .val (.int sv), .val (.int tv), .val (.long u), .second, .val (.long mq), .second, .val (.ref b96), .val (.int (0 : Int32)), .val (.long (-mq)), .second] [])
                    refine hst (fun t₀ k₀ => XS.aload X513.here hx rfl (hb hby at_641) rfl rfl k₀) ?_
                    show F T513 (mkF m 643 #[.val (.long q1), .second, .val (.int p2), .val (.int p3), .val (.int p4), .val (.int p5), .val (.int nv), .val (.int ng), .val (.int rf), .val (.int fv), .val (.int sv), .val (.int tv), .val (.long u), .second, .val (.long mq), .second, .val (.ref b96), .val (.int (0 : Int32)), .val (.long (-mq)), .second] [(.ref b96)])
                    refine hst (fun t₀ k₀ => XS.iload X513.here hx rfl (hb hby at_643) rfl k₀) ?_
                    show F T513 (mkF m 645 #[.val (.long q1), .second, .val (.int p2), .val (.int p3), .val (.int p4), .val (.int p5), .val (.int nv), .val (.int ng), .val (.int rf), .val (.int fv), .val (.int sv), .val (.int tv), .val (.long u), .second, .val (.long mq), .second, .val (.ref b96), .val (.int (0 : Int32)), .val (.long (-mq)), .second] [(.int fv), (.ref b96)])
                    refine hst (fun t₀ k₀ => XS.iload X513.here hx rfl (hb hby at_645) rfl k₀) ?_
                    show F T513 (mkF m 647 #[.val (.long q1), .second, .val (.int p2), .val (.int p3), .val (.int p4), .val (.int p5), .val (.int nv), .val (.int ng), .val (.int rf), .val (.int fv), .val (.int sv), .val (.int tv), .val (.long u), .second, .val (.long mq), .second, .val (.ref b96), .val (.int (0 : Int32)), .val (.long (-mq)), .second] [(.int tv), (.int fv), (.ref b96)])
                    obtain ⟨v647, T647, Lc647, X647, hQ647, st647⟩ := own_callS X513 hx hZ hown (y := (⟨"com/example/leafline/leafline/table/IntegerValue", "parsePlain", "([BII)J"⟩ : MethodName)) (hw _ (List.mem_of_getElem? (i := 29) rfl)) (hw _ (List.mem_of_getElem? (i := 30) rfl)) (hw _ (List.mem_of_getElem? (i := 31) rfl)) (hw _ (List.mem_of_getElem? (i := 32) rfl)) (by decide) rfl (rm3 l Z a0 hw [] b96 fv tv (own_pk B s' n M 20) 26 f (s' + n) T513.heap n0 Z0_p513 q1_513c hf ktv (by omega) (by omega) (by decide)) (by decide) (by decide) (g := (mkF m 647 #[.val (.long q1), .second, .val (.int p2), .val (.int p3), .val (.int p4), .val (.int p5), .val (.int nv), .val (.int ng), .val (.int rf), .val (.int fv), .val (.int sv), .val (.int tv), .val (.long u), .second, .val (.long mq), .second, .val (.ref b96), .val (.int (0 : Int32)), .val (.long (-mq)), .second] [(.int tv), (.int fv), (.ref b96)])) rfl (by rw [hml]; rfl) (argsL := [(.ref b96), (.int fv), (.int tv)]) (rest := []) (lenOf pd_1 rfl) rfl rfl (W := 0) (by show 2 * 0 + _ ≤ _; exact Nat.le_of_eq rfl) (hb hby at_647) (by decide) (by decide)
                    obtain ⟨rfl, Nq647, he647⟩ := hQ647
                    have N647 := Fr.app N513 Nq647
                    refine hst st647 ?_
                    show F T647 (mkF m 650 #[.val (.long q1), .second, .val (.int p2), .val (.int p3), .val (.int p4), .val (.int p5), .val (.int nv), .val (.int ng), .val (.int rf), .val (.int fv), .val (.int sv), .val (.int tv), .val (.long u), .second, .val (.long mq), .second, .val (.ref b96), .val (.int (0 : Int32)), .val (.long (-mq)), .second] [(.long (own_pp (own_pk B s' n M 20) f (s' + n)))])
                    refine hst (fun t₀ k₀ => XS.lload X647.here hx rfl (hb hby at_650) rfl k₀) ?_
                    show F T647 (mkF m 652 #[.val (.long q1), .second, .val (.int p2), .val (.int p3), .val (.int p4), .val (.int p5), .val (.int nv), .val (.int ng), .val (.int rf), .val (.int fv), .val (.int sv), .val (.int tv), .val (.long u), .second, .val (.long mq), .second, .val (.ref b96), .val (.int (0 : Int32)), .val (.long (-mq)), .second] [(.long (-mq)), (.long (own_pp (own_pk B s' n M 20) f (s' + n)))])
                    refine hst (fun t₀ k₀ => XS.lcmp X647.here hx rfl (hb hby at_652) rfl k₀) ?_
                    show F T647 (mkF m 653 #[.val (.long q1), .second, .val (.int p2), .val (.int p3), .val (.int p4), .val (.int p5), .val (.int nv), .val (.int ng), .val (.int rf), .val (.int fv), .val (.int sv), .val (.int tv), .val (.long u), .second, .val (.long mq), .second, .val (.ref b96), .val (.int (0 : Int32)), .val (.long (-mq)), .second] [(.int (lcmpW (own_pp (own_pk B s' n M 20) f (s' + n)) (-mq)))])
                    refine hst (fun t₀ k₀ => XS.ifNo X647.here hx rfl (hb hby at_653) rfl ((if0 _ _).trans (teq ((lw_eq _ _).mpr (by rw [hlaw.2 mq (by have z : ¬ nv.toInt = (0 : Int32).toInt := fun q => hc605 (Int32.toInt_inj.mp q); omega) (by rw [own_lt32] at hc612; omega) rfl (hM2 (by rw [own_lt32] at hc612; omega)) hM]; first | rw [if_pos hc628] | rw [if_neg hc628]))).2) k₀) ?_
                    show F T647 (mkF m 656 #[.val (.long q1), .second, .val (.int p2), .val (.int p3), .val (.int p4), .val (.int p5), .val (.int nv), .val (.int ng), .val (.int rf), .val (.int fv), .val (.int sv), .val (.int tv), .val (.long u), .second, .val (.long mq), .second, .val (.ref b96), .val (.int (0 : Int32)), .val (.long (-mq)), .second] [])
                    refine hst (fun t₀ k₀ => XS.iconst X647.here hx rfl (hb hby at_656) k₀) ?_
                    show F T647 (mkF m 657 #[.val (.long q1), .second, .val (.int p2), .val (.int p3), .val (.int p4), .val (.int p5), .val (.int nv), .val (.int ng), .val (.int rf), .val (.int fv), .val (.int sv), .val (.int tv), .val (.long u), .second, .val (.long mq), .second, .val (.ref b96), .val (.int (0 : Int32)), .val (.long (-mq)), .second] [(.int (1 : Int32))])
                    refine hst (fun t₀ k₀ => XS.goto X647.here hx rfl (pc0 := 657) (pc' := 661) rfl (hb hby at_657) (by decide) (by decide) k₀) ?_
                    show F T647 (mkF m 661 #[.val (.long q1), .second, .val (.int p2), .val (.int p3), .val (.int p4), .val (.int p5), .val (.int nv), .val (.int ng), .val (.int rf), .val (.int fv), .val (.int sv), .val (.int tv), .val (.long u), .second, .val (.long mq), .second, .val (.ref b96), .val (.int (0 : Int32)), .val (.long (-mq)), .second] [(.int (1 : Int32))])
                    rw [hF]
                    refine own_retN X647 hx hret (by simp) hlk (hb hby at_661) (by decide) (by decide) ?_
                    rw [he647]
                    exact ⟨rfl, N647⟩
            · -- pc 521: not taken
              refine hst (fun t₀ k₀ => XS.ifNo X513.here hx rfl (hb hby at_521) rfl ((if0 _ _).trans (feq hc521).1) k₀) ?_
              show F T513 (mkF m 524 #[.val (.long q1), .second, .val (.int p2), .val (.int p3), .val (.int p4), .val (.int p5), .val (.int nv), .val (.int ng), .val (.int rf), .val (.int fv), .val (.int sv), .val (.int tv), .val (.long u), .second, .val (.long mq), .second, .val (.ref b96), .val (.int (0 : Int32)), .unset, .unset] [])
              refine hst (fun t₀ k₀ => XS.iload X513.here hx rfl (hb hby at_524) rfl k₀) ?_
              show F T513 (mkF m 526 #[.val (.long q1), .second, .val (.int p2), .val (.int p3), .val (.int p4), .val (.int p5), .val (.int nv), .val (.int ng), .val (.int rf), .val (.int fv), .val (.int sv), .val (.int tv), .val (.long u), .second, .val (.long mq), .second, .val (.ref b96), .val (.int (0 : Int32)), .unset, .unset] [(.int nv)])
              by_cases hc526 : (0 : Int32) < nv
              · -- pc 526: not taken
                refine hst (fun t₀ k₀ => XS.ifNo X513.here hx rfl (hb hby at_526) rfl ((if0 _ _).trans (tlt hc526).2.2.2) k₀) ?_
                show F T513 (mkF m 529 #[.val (.long q1), .second, .val (.int p2), .val (.int p3), .val (.int p4), .val (.int p5), .val (.int nv), .val (.int ng), .val (.int rf), .val (.int fv), .val (.int sv), .val (.int tv), .val (.long u), .second, .val (.long mq), .second, .val (.ref b96), .val (.int (0 : Int32)), .unset, .unset] [])
                have q526 : 0 < n := by rw [own_lt32] at hc526; omega
                refine hst (fun t₀ k₀ => XS.iload X513.here hx rfl (hb hby at_529) rfl k₀) ?_
                show F T513 (mkF m 531 #[.val (.long q1), .second, .val (.int p2), .val (.int p3), .val (.int p4), .val (.int p5), .val (.int nv), .val (.int ng), .val (.int rf), .val (.int fv), .val (.int sv), .val (.int tv), .val (.long u), .second, .val (.long mq), .second, .val (.ref b96), .val (.int (0 : Int32)), .unset, .unset] [(.int p4)])
                refine hst (fun t₀ k₀ => X513.ldcI hx hown (mvT hZ (hw _ (List.mem_of_getElem? (i := 0) rfl))) (g := (mkF m 531 #[.val (.long q1), .second, .val (.int p2), .val (.int p3), .val (.int p4), .val (.int p5), .val (.int nv), .val (.int ng), .val (.int rf), .val (.int fv), .val (.int sv), .val (.int tv), .val (.long u), .second, .val (.long mq), .second, .val (.ref b96), .val (.int (0 : Int32)), .unset, .unset] [(.int p4)])) rfl (hb hby at_531) k₀) ?_
                show F T513 (mkF m 533 #[.val (.long q1), .second, .val (.int p2), .val (.int p3), .val (.int p4), .val (.int p5), .val (.int nv), .val (.int ng), .val (.int rf), .val (.int fv), .val (.int sv), .val (.int tv), .val (.long u), .second, .val (.long mq), .second, .val (.ref b96), .val (.int (0 : Int32)), .unset, .unset] [(.int (2147483647 : Int32)), (.int p4)])
                refine hst (fun t₀ k₀ => XS.iand X513.here hx rfl (hb hby at_533) rfl k₀) ?_
                show F T513 (mkF m 534 #[.val (.long q1), .second, .val (.int p2), .val (.int p3), .val (.int p4), .val (.int p5), .val (.int nv), .val (.int ng), .val (.int rf), .val (.int fv), .val (.int sv), .val (.int tv), .val (.long u), .second, .val (.long mq), .second, .val (.ref b96), .val (.int (0 : Int32)), .unset, .unset] [(.int (p4 &&& (2147483647 : Int32)))])
                refine hst (fun t₀ k₀ => XS.iload X513.here hx rfl (hb hby at_534) rfl k₀) ?_
                show F T513 (mkF m 536 #[.val (.long q1), .second, .val (.int p2), .val (.int p3), .val (.int p4), .val (.int p5), .val (.int nv), .val (.int ng), .val (.int rf), .val (.int fv), .val (.int sv), .val (.int tv), .val (.long u), .second, .val (.long mq), .second, .val (.ref b96), .val (.int (0 : Int32)), .unset, .unset] [(.int nv), (.int (p4 &&& (2147483647 : Int32)))])
                refine hst (fun t₀ k₀ => iremM X513 hx rfl (hb hby at_536) rfl (fun q => by rw [own_lt32] at hc526; rw [own_eq32] at q; omega) k₀) ?_
                show F T513 (mkF m 537 #[.val (.long q1), .second, .val (.int p2), .val (.int p3), .val (.int p4), .val (.int p5), .val (.int nv), .val (.int ng), .val (.int rf), .val (.int fv), .val (.int sv), .val (.int tv), .val (.long u), .second, .val (.long mq), .second, .val (.ref b96), .val (.int (0 : Int32)), .unset, .unset] [(.int ((p4 &&& (2147483647 : Int32)) % nv))])
                generalize hqv : ((p4 &&& (2147483647 : Int32)) % nv) = qv
                show F T513 (mkF m 537 #[.val (.long q1), .second, .val (.int p2), .val (.int p3), .val (.int p4), .val (.int p5), .val (.int nv), .val (.int ng), .val (.int rf), .val (.int fv), .val (.int sv), .val (.int tv), .val (.long u), .second, .val (.long mq), .second, .val (.ref b96), .val (.int (0 : Int32)), .unset, .unset] [(.int qv)])
                obtain ⟨Q, hq, hQ⟩ : ∃ Q : Nat, qv.toInt = Q ∧ Q < n := by
                  rw [own_lt32] at hc526; have h1 := c_mask p4 2147483647 31 (by decide) (by decide); have h2 := c_iremV (p4 &&& 2147483647) nv; have h3 := h2.1 (by omega) (by omega); rw [hqv] at h3; exact ⟨qv.toInt.toNat, by omega, by omega⟩
                refine hst (fun t₀ k₀ => XS.istore X513.here hx rfl (hb hby at_537) rfl (l' := #[.val (.long q1), .second, .val (.int p2), .val (.int p3), .val (.int p4), .val (.int p5), .val (.int nv), .val (.int ng), .val (.int rf), .val (.int fv), .val (.int sv), .val (.int tv), .val (.long u), .second, .val (.long mq), .second, .val (.ref b96), .val (.int (0 : Int32)), .val (.int qv), .unset]) rfl k₀) ?_
                show F T513 (mkF m 539 #[.val (.long q1), .second, .val (.int p2), .val (.int p3), .val (.int p4), .val (.int p5), .val (.int nv), .val (.int ng), .val (.int rf), .val (.int fv), .val (.int sv), .val (.int tv), .val (.long u), .second, .val (.long mq), .second, .val (.ref b96), .val (.int (0 : Int32)), .val (.int qv), .unset] [])
                refine hst (fun t₀ k₀ => XS.iload X513.here hx rfl (hb hby at_539) rfl k₀) ?_
                show F T513 (mkF m 541 #[.val (.long q1), .second, .val (.int p2), .val (.int p3), .val (.int p4), .val (.int p5), .val (.int nv), .val (.int ng), .val (.int rf), .val (.int fv), .val (.int sv), .val (.int tv), .val (.long u), .second, .val (.long mq), .second, .val (.ref b96), .val (.int (0 : Int32)), .val (.int qv), .unset] [(.int p5)])
                refine hst (fun t₀ k₀ => XS.sipush X513.here hx rfl (hb hby at_541) k₀) ?_
                show F T513 (mkF m 544 #[.val (.long q1), .second, .val (.int p2), .val (.int p3), .val (.int p4), .val (.int p5), .val (.int nv), .val (.int ng), .val (.int rf), .val (.int fv), .val (.int sv), .val (.int tv), .val (.long u), .second, .val (.long mq), .second, .val (.ref b96), .val (.int (0 : Int32)), .val (.int qv), .unset] [(.int (255 : Int32)), (.int p5)])
                refine hst (fun t₀ k₀ => XS.iand X513.here hx rfl (hb hby at_544) rfl k₀) ?_
                show F T513 (mkF m 545 #[.val (.long q1), .second, .val (.int p2), .val (.int p3), .val (.int p4), .val (.int p5), .val (.int nv), .val (.int ng), .val (.int rf), .val (.int fv), .val (.int sv), .val (.int tv), .val (.long u), .second, .val (.long mq), .second, .val (.ref b96), .val (.int (0 : Int32)), .val (.int qv), .unset] [(.int (p5 &&& (255 : Int32)))])
                generalize hcv : (p5 &&& (255 : Int32)) = cv
                show F T513 (mkF m 545 #[.val (.long q1), .second, .val (.int p2), .val (.int p3), .val (.int p4), .val (.int p5), .val (.int nv), .val (.int ng), .val (.int rf), .val (.int fv), .val (.int sv), .val (.int tv), .val (.long u), .second, .val (.long mq), .second, .val (.ref b96), .val (.int (0 : Int32)), .val (.int qv), .unset] [(.int cv)])
                obtain ⟨C, hC, hC2⟩ : ∃ C : Nat, cv.toInt = C ∧ C ≤ 255 := by
                  have h1 := c_mask p5 255 8 (by decide) (by decide); rw [hcv] at h1; exact ⟨cv.toInt.toNat, by omega, by omega⟩
                refine hst (fun t₀ k₀ => XS.istore X513.here hx rfl (hb hby at_545) rfl (l' := #[.val (.long q1), .second, .val (.int p2), .val (.int p3), .val (.int p4), .val (.int p5), .val (.int nv), .val (.int ng), .val (.int rf), .val (.int fv), .val (.int sv), .val (.int tv), .val (.long u), .second, .val (.long mq), .second, .val (.ref b96), .val (.int (0 : Int32)), .val (.int qv), .val (.int cv)]) rfl k₀) ?_
                show F T513 (mkF m 547 #[.val (.long q1), .second, .val (.int p2), .val (.int p3), .val (.int p4), .val (.int p5), .val (.int nv), .val (.int ng), .val (.int rf), .val (.int fv), .val (.int sv), .val (.int tv), .val (.long u), .second, .val (.long mq), .second, .val (.ref b96), .val (.int (0 : Int32)), .val (.int qv), .val (.int cv)] [])
                have J568 : ∀ c1 : Int32, (∃ D : Nat, c1.toInt = D ∧ D ≤ 255 ∧ ¬ (48 ≤ D ∧ D ≤ 57)) → F T513 (mkF m 568 #[.val (.long q1), .second, .val (.int p2), .val (.int p3), .val (.int p4), .val (.int p5), .val (.int nv), .val (.int ng), .val (.int rf), .val (.int fv), .val (.int sv), .val (.int tv), .val (.long u), .second, .val (.long mq), .second, .val (.ref b96), .val (.int (0 : Int32)), .val (.int qv), .val (.int c1)] []) := by
                  intro c1 hc1
                  show F T513 (mkF m 568 #[.val (.long q1), .second, .val (.int p2), .val (.int p3), .val (.int p4), .val (.int p5), .val (.int nv), .val (.int ng), .val (.int rf), .val (.int fv), .val (.int sv), .val (.int tv), .val (.long u), .second, .val (.long mq), .second, .val (.ref b96), .val (.int (0 : Int32)), .val (.int qv), .val (.int c1)] [])
                  obtain ⟨D1, hD1, hD1b, hD1c⟩ := hc1
                  have J589 : ∀ c2 : Int32, (∃ D : Nat, c2.toInt = D ∧ D ≤ 255 ∧ ¬ (48 ≤ D ∧ D ≤ 57) ∧ ¬ (D = 45 ∧ Q = 0 ∧ ng = 0)) → F T513 (mkF m 589 #[.val (.long q1), .second, .val (.int p2), .val (.int p3), .val (.int p4), .val (.int p5), .val (.int nv), .val (.int ng), .val (.int rf), .val (.int fv), .val (.int sv), .val (.int tv), .val (.long u), .second, .val (.long mq), .second, .val (.ref b96), .val (.int (0 : Int32)), .val (.int qv), .val (.int c2)] []) := by
                    intro c2 hc2
                    show F T513 (mkF m 589 #[.val (.long q1), .second, .val (.int p2), .val (.int p3), .val (.int p4), .val (.int p5), .val (.int nv), .val (.int ng), .val (.int rf), .val (.int fv), .val (.int sv), .val (.int tv), .val (.long u), .second, .val (.long mq), .second, .val (.ref b96), .val (.int (0 : Int32)), .val (.int qv), .val (.int c2)] [])
                    obtain ⟨D2, hD2, hD2b, hD2c, hD2d⟩ := hc2
                    refine hst (fun t₀ k₀ => XS.aload X513.here hx rfl (hb hby at_589) rfl rfl k₀) ?_
                    show F T513 (mkF m 591 #[.val (.long q1), .second, .val (.int p2), .val (.int p3), .val (.int p4), .val (.int p5), .val (.int nv), .val (.int ng), .val (.int rf), .val (.int fv), .val (.int sv), .val (.int tv), .val (.long u), .second, .val (.long mq), .second, .val (.ref b96), .val (.int (0 : Int32)), .val (.int qv), .val (.int c2)] [(.ref b96)])
                    refine hst (fun t₀ k₀ => XS.iload X513.here hx rfl (hb hby at_591) rfl k₀) ?_
                    show F T513 (mkF m 593 #[.val (.long q1), .second, .val (.int p2), .val (.int p3), .val (.int p4), .val (.int p5), .val (.int nv), .val (.int ng), .val (.int rf), .val (.int fv), .val (.int sv), .val (.int tv), .val (.long u), .second, .val (.long mq), .second, .val (.ref b96), .val (.int (0 : Int32)), .val (.int qv), .val (.int c2)] [(.int sv), (.ref b96)])
                    refine hst (fun t₀ k₀ => XS.iload X513.here hx rfl (hb hby at_593) rfl k₀) ?_
                    show F T513 (mkF m 595 #[.val (.long q1), .second, .val (.int p2), .val (.int p3), .val (.int p4), .val (.int p5), .val (.int nv), .val (.int ng), .val (.int rf), .val (.int fv), .val (.int sv), .val (.int tv), .val (.long u), .second, .val (.long mq), .second, .val (.ref b96), .val (.int (0 : Int32)), .val (.int qv), .val (.int c2)] [(.int qv), (.int sv), (.ref b96)])
                    refine hst (fun t₀ k₀ => XS.iadd X513.here hx rfl (hb hby at_595) rfl k₀) ?_
                    show F T513 (mkF m 596 #[.val (.long q1), .second, .val (.int p2), .val (.int p3), .val (.int p4), .val (.int p5), .val (.int nv), .val (.int ng), .val (.int rf), .val (.int fv), .val (.int sv), .val (.int tv), .val (.long u), .second, .val (.long mq), .second, .val (.ref b96), .val (.int (0 : Int32)), .val (.int qv), .val (.int c2)] [(.int (sv + qv)), (.ref b96)])
                    generalize hix : (sv + qv) = ix
                    show F T513 (mkF m 596 #[.val (.long q1), .second, .val (.int p2), .val (.int p3), .val (.int p4), .val (.int p5), .val (.int nv), .val (.int ng), .val (.int rf), .val (.int fv), .val (.int sv), .val (.int tv), .val (.long u), .second, .val (.long mq), .second, .val (.ref b96), .val (.int (0 : Int32)), .val (.int qv), .val (.int c2)] [(.int ix), (.ref b96)])
                    have kix : ix.toInt = ((s' + Q : Nat) : Int) := by have h1 := c_iadd sv qv; have h2 := rng32 ix; rw [hix] at h1; omega
                    refine hst (fun t₀ k₀ => XS.iload X513.here hx rfl (hb hby at_596) rfl k₀) ?_
                    show F T513 (mkF m 598 #[.val (.long q1), .second, .val (.int p2), .val (.int p3), .val (.int p4), .val (.int p5), .val (.int nv), .val (.int ng), .val (.int rf), .val (.int fv), .val (.int sv), .val (.int tv), .val (.long u), .second, .val (.long mq), .second, .val (.ref b96), .val (.int (0 : Int32)), .val (.int qv), .val (.int c2)] [(.int c2), (.int ix), (.ref b96)])
                    refine hst (fun t₀ k₀ => XS.i2b X513.here hx rfl (hb hby at_598) rfl k₀) ?_
                    show F T513 (mkF m 599 #[.val (.long q1), .second, .val (.int p2), .val (.int p3), .val (.int p4), .val (.int p5), .val (.int nv), .val (.int ng), .val (.int rf), .val (.int fv), .val (.int sv), .val (.int tv), .val (.long u), .second, .val (.long mq), .second, .val (.ref b96), .val (.int (0 : Int32)), .val (.int qv), .val (.int c2)] [(.int (c2.toInt8.toInt32)), (.int ix), (.ref b96)])
                    generalize hbc : (c2.toInt8.toInt32) = bc
                    show F T513 (mkF m 599 #[.val (.long q1), .second, .val (.int p2), .val (.int p3), .val (.int p4), .val (.int p5), .val (.int nv), .val (.int ng), .val (.int rf), .val (.int fv), .val (.int sv), .val (.int tv), .val (.long u), .second, .val (.long mq), .second, .val (.ref b96), .val (.int (0 : Int32)), .val (.int qv), .val (.int c2)] [(.int bc), (.int ix), (.ref b96)])
                    obtain ⟨w, hw2⟩ : ∃ w : Int32, nar .byte bc = w := ⟨_, rfl⟩
                    have kw : (w.toInt - (D2 : Int)) % 256 = 0 ∧ -128 ≤ w.toInt ∧ w.toInt < 128 := by
                      have h1 := c_i2b c2; rw [hbc] at h1; have e := own_nar bc (by omega) (by omega); rw [hw2] at e; rw [e]; omega
                    obtain ⟨T599, h599, X599, e599, W599, st599⟩ := own_bastore X513 hx hZ rfl q1_513c (own_idx ix 26 (by omega) (by omega)) (g := (mkF m 599 #[.val (.long q1), .second, .val (.int p2), .val (.int p3), .val (.int p4), .val (.int p5), .val (.int nv), .val (.int ng), .val (.int rf), .val (.int fv), .val (.int sv), .val (.int tv), .val (.long u), .second, .val (.long mq), .second, .val (.ref b96), .val (.int (0 : Int32)), .val (.int qv), .val (.int c2)] [(.int bc), (.int ix), (.ref b96)])) rfl rfl (hb hby at_599)
                    have N599 := Fr.snoc X599 N513 ge_b96
                    have q1_513c_p599 : own_A Z h599 b96 .byte 26 (fun i => if i = Int32.toNatClampNeg ix then (.int (nar .byte bc)) else (fun j => .int (own_pk B s' n M 20 j)) i) := q1_513c.set W599
                    have Z0_p599 : n0 ≤ h599.size := Nat.le_trans Z0_p513 (Keep.of_wr W599).1
                    refine hst st599 ?_
                    have q1_513c_p599c : own_A Z h599 b96 .byte 26 (fun j => .int (if j = s' + Q then w else own_pk B s' n M 20 j)) := own_A.congr q1_513c_p599 (fun j hj => by rw [own_clamp ix _ kix, hw2]; split <;> rfl)
                    show F T599 (mkF m 600 #[.val (.long q1), .second, .val (.int p2), .val (.int p3), .val (.int p4), .val (.int p5), .val (.int nv), .val (.int ng), .val (.int rf), .val (.int fv), .val (.int sv), .val (.int tv), .val (.long u), .second, .val (.long mq), .second, .val (.ref b96), .val (.int (0 : Int32)), .val (.int qv), .val (.int c2)] [])
                    refine hst (fun t₀ k₀ => XS.iconst X599.here hx rfl (hb hby at_600) k₀) ?_
                    show F T599 (mkF m 601 #[.val (.long q1), .second, .val (.int p2), .val (.int p3), .val (.int p4), .val (.int p5), .val (.int nv), .val (.int ng), .val (.int rf), .val (.int fv), .val (.int sv), .val (.int tv), .val (.long u), .second, .val (.long mq), .second, .val (.ref b96), .val (.int (0 : Int32)), .val (.int qv), .val (.int c2)] [(.int (1 : Int32))])
                    refine hst (fun t₀ k₀ => XS.istore X599.here hx rfl (hb hby at_601) rfl (l' := #[.val (.long q1), .second, .val (.int p2), .val (.int p3), .val (.int p4), .val (.int p5), .val (.int nv), .val (.int ng), .val (.int rf), .val (.int fv), .val (.int sv), .val (.int tv), .val (.long u), .second, .val (.long mq), .second, .val (.ref b96), .val (.int (1 : Int32)), .val (.int qv), .val (.int c2)]) rfl k₀) ?_
                    show F T599 (mkF m 603 #[.val (.long q1), .second, .val (.int p2), .val (.int p3), .val (.int p4), .val (.int p5), .val (.int nv), .val (.int ng), .val (.int rf), .val (.int fv), .val (.int sv), .val (.int tv), .val (.long u), .second, .val (.long mq), .second, .val (.ref b96), .val (.int (1 : Int32)), .val (.int qv), .val (.int c2)] [])
                    have hlaw := own_law3 (fun j => if j = s' + Q then w else own_pk B s' n M 20 j) f s' n M Q ng 1 hs1 (fun q => by (try dsimp only); have := es1 q; rw [if_neg (by omega)]; unfold own_pk; rw [if_neg (by omega)]; exact hB q)
                      (fun k hk z => by (try dsimp only); rw [if_neg (by intro z2; exact z.elim (fun z3 => n10 z3) (fun z3 => z3 (by omega)))]; unfold own_pk; rw [if_pos (by omega), show s' + k - s' = k by omega])
                      (fun _ => ⟨q526, hQ, by (try dsimp only); rw [if_pos rfl]; have h1 := c_isub w 48; have h2 := rng32 (w - 48); have k9 : (9 : Int32).toInt = 9 := (by decide); simp only [own_lt32]; omega, by (try dsimp only); rw [if_pos rfl]; intro z; exact hD2d ⟨by have z3 := z.2.2; rw [own_eq32] at z3; omega, z.1, z.2.1⟩⟩) (Or.inr rfl)
                    refine hst (fun t₀ k₀ => XS.iload X599.here hx rfl (hb hby at_603) rfl k₀) ?_
                    show F T599 (mkF m 605 #[.val (.long q1), .second, .val (.int p2), .val (.int p3), .val (.int p4), .val (.int p5), .val (.int nv), .val (.int ng), .val (.int rf), .val (.int fv), .val (.int sv), .val (.int tv), .val (.long u), .second, .val (.long mq), .second, .val (.ref b96), .val (.int (1 : Int32)), .val (.int qv), .val (.int c2)] [(.int nv)])
                    by_cases hc605 : nv = (0 : Int32)
                    · -- pc 605: taken
                      refine hst (fun t₀ k₀ => XS.ifYes X599.here hx rfl (pc0 := 605) (pc' := 620) rfl (hb hby at_605) rfl ((if0 _ _).trans (teq hc605).1) (by decide) (by decide) k₀) ?_
                      show F T599 (mkF m 620 #[.val (.long q1), .second, .val (.int p2), .val (.int p3), .val (.int p4), .val (.int p5), .val (.int nv), .val (.int ng), .val (.int rf), .val (.int fv), .val (.int sv), .val (.int tv), .val (.long u), .second, .val (.long mq), .second, .val (.ref b96), .val (.int (1 : Int32)), .val (.int qv), .val (.int c2)] [])
                      refine hst (fun t₀ k₀ => X599.ldc2J hx hown (mvT hZ (hw _ (List.mem_of_getElem? (i := 34) rfl))) (g := (mkF m 620 #[.val (.long q1), .second, .val (.int p2), .val (.int p3), .val (.int p4), .val (.int p5), .val (.int nv), .val (.int ng), .val (.int rf), .val (.int fv), .val (.int sv), .val (.int tv), .val (.long u), .second, .val (.long mq), .second, .val (.ref b96), .val (.int (1 : Int32)), .val (.int qv), .val (.int c2)] [])) rfl (hb hby at_620) k₀) ?_
                      show F T599 (mkF m 623 #[.val (.long q1), .second, .val (.int p2), .val (.int p3), .val (.int p4), .val (.int p5), .val (.int nv), .val (.int ng), .val (.int rf), .val (.int fv), .val (.int sv), .val (.int tv), .val (.long u), .second, .val (.long mq), .second, .val (.ref b96), .val (.int (1 : Int32)), .val (.int qv), .val (.int c2)] [(.long (-9223372036854775808 : Int64))])
                      refine hst (fun t₀ k₀ => XS.goto X599.here hx rfl (pc0 := 623) (pc' := 639) rfl (hb hby at_623) (by decide) (by decide) k₀) ?_
                      show F T599 (mkF m 639 #[.val (.long q1), .second, .val (.int p2), .val (.int p3), .val (.int p4), .val (.int p5), .val (.int nv), .val (.int ng), .val (.int rf), .val (.int fv), .val (.int sv), .val (.int tv), .val (.long u), .second, .val (.long mq), .second, .val (.ref b96), .val (.int (1 : Int32)), .val (.int qv), .val (.int c2)] [(.long (-9223372036854775808 : Int64))])
                      refine hst (fun t₀ k₀ => XS.lstore X599.here hx rfl (hb hby at_639) rfl (l' := #[.val (.long q1), .second, .val (.int p2), .val (.int p3), .val (.int p4), .val (.int p5), .val (.int nv), .val (.int ng), .val (.int rf), .val (.int fv), .val (.int sv), .val (.int tv), .val (.long u), .second, .val (.long mq), .second, .val (.ref b96), .val (.int (1 : Int32)), .val (.long (-9223372036854775808 : Int64)), .second]) rfl k₀) ?_
                      show F T599 (mkF m 641 #[.val (.long q1), .second, .val (.int p2), .val (.int p3), .val (.int p4), .val (.int p5), .val (.int nv), .val (.int ng), .val (.int rf), .val (.int fv), .val (.int sv), .val (.int tv), .val (.long u), .second, .val (.long mq), .second, .val (.ref b96), .val (.int (1 : Int32)), .val (.long (-9223372036854775808 : Int64)), .second] [])
                      refine hst (fun t₀ k₀ => XS.aload X599.here hx rfl (hb hby at_641) rfl rfl k₀) ?_
                      show F T599 (mkF m 643 #[.val (.long q1), .second, .val (.int p2), .val (.int p3), .val (.int p4), .val (.int p5), .val (.int nv), .val (.int ng), .val (.int rf), .val (.int fv), .val (.int sv), .val (.int tv), .val (.long u), .second, .val (.long mq), .second, .val (.ref b96), .val (.int (1 : Int32)), .val (.long (-9223372036854775808 : Int64)), .second] [(.ref b96)])
                      refine hst (fun t₀ k₀ => XS.iload X599.here hx rfl (hb hby at_643) rfl k₀) ?_
                      show F T599 (mkF m 645 #[.val (.long q1), .second, .val (.int p2), .val (.int p3), .val (.int p4), .val (.int p5), .val (.int nv), .val (.int ng), .val (.int rf), .val (.int fv), .val (.int sv), .val (.int tv), .val (.long u), .second, .val (.long mq), .second, .val (.ref b96), .val (.int (1 : Int32)), .val (.long (-9223372036854775808 : Int64)), .second] [(.int fv), (.ref b96)])
                      refine hst (fun t₀ k₀ => XS.iload X599.here hx rfl (hb hby at_645) rfl k₀) ?_
                      show F T599 (mkF m 647 #[.val (.long q1), .second, .val (.int p2), .val (.int p3), .val (.int p4), .val (.int p5), .val (.int nv), .val (.int ng), .val (.int rf), .val (.int fv), .val (.int sv), .val (.int tv), .val (.long u), .second, .val (.long mq), .second, .val (.ref b96), .val (.int (1 : Int32)), .val (.long (-9223372036854775808 : Int64)), .second] [(.int tv), (.int fv), (.ref b96)])
                      obtain ⟨v647, T647, Lc647, X647, hQ647, st647⟩ := own_callS X599 hx hZ hown (y := (⟨"com/example/leafline/leafline/table/IntegerValue", "parsePlain", "([BII)J"⟩ : MethodName)) (hw _ (List.mem_of_getElem? (i := 29) rfl)) (hw _ (List.mem_of_getElem? (i := 30) rfl)) (hw _ (List.mem_of_getElem? (i := 31) rfl)) (hw _ (List.mem_of_getElem? (i := 32) rfl)) (by decide) e599 (rm3 l Z a0 hw [] b96 fv tv (fun j => if j = s' + Q then w else own_pk B s' n M 20 j) 26 f (s' + n) h599 n0 Z0_p599 q1_513c_p599c hf ktv (by omega) (by omega) (by decide)) (by decide) (by decide) (g := (mkF m 647 #[.val (.long q1), .second, .val (.int p2), .val (.int p3), .val (.int p4), .val (.int p5), .val (.int nv), .val (.int ng), .val (.int rf), .val (.int fv), .val (.int sv), .val (.int tv), .val (.long u), .second, .val (.long mq), .second, .val (.ref b96), .val (.int (1 : Int32)), .val (.long (-9223372036854775808 : Int64)), .second] [(.int tv), (.int fv), (.ref b96)])) rfl (by rw [hml]; rfl) (argsL := [(.ref b96), (.int fv), (.int tv)]) (rest := []) (lenOf pd_1 rfl) rfl rfl (W := 0) (by show 2 * 0 + _ ≤ _; exact Nat.le_of_eq rfl) (hb hby at_647) (by decide) (by decide)
                      obtain ⟨rfl, Nq647, he647⟩ := hQ647
                      have N647 := Fr.app N599 Nq647
                      refine hst st647 ?_
                      show F T647 (mkF m 650 #[.val (.long q1), .second, .val (.int p2), .val (.int p3), .val (.int p4), .val (.int p5), .val (.int nv), .val (.int ng), .val (.int rf), .val (.int fv), .val (.int sv), .val (.int tv), .val (.long u), .second, .val (.long mq), .second, .val (.ref b96), .val (.int (1 : Int32)), .val (.long (-9223372036854775808 : Int64)), .second] [(.long (own_pp (fun j => if j = s' + Q then w else own_pk B s' n M 20 j) f (s' + n)))])
                      refine hst (fun t₀ k₀ => XS.lload X647.here hx rfl (hb hby at_650) rfl k₀) ?_
                      show F T647 (mkF m 652 #[.val (.long q1), .second, .val (.int p2), .val (.int p3), .val (.int p4), .val (.int p5), .val (.int nv), .val (.int ng), .val (.int rf), .val (.int fv), .val (.int sv), .val (.int tv), .val (.long u), .second, .val (.long mq), .second, .val (.ref b96), .val (.int (1 : Int32)), .val (.long (-9223372036854775808 : Int64)), .second] [(.long (-9223372036854775808 : Int64)), (.long (own_pp (fun j => if j = s' + Q then w else own_pk B s' n M 20 j) f (s' + n)))])
                      refine hst (fun t₀ k₀ => XS.lcmp X647.here hx rfl (hb hby at_652) rfl k₀) ?_
                      show F T647 (mkF m 653 #[.val (.long q1), .second, .val (.int p2), .val (.int p3), .val (.int p4), .val (.int p5), .val (.int nv), .val (.int ng), .val (.int rf), .val (.int fv), .val (.int sv), .val (.int tv), .val (.long u), .second, .val (.long mq), .second, .val (.ref b96), .val (.int (1 : Int32)), .val (.long (-9223372036854775808 : Int64)), .second] [(.int (lcmpW (own_pp (fun j => if j = s' + Q then w else own_pk B s' n M 20 j) f (s' + n)) (-9223372036854775808 : Int64)))])
                      refine hst (fun t₀ k₀ => XS.ifNo X647.here hx rfl (hb hby at_653) rfl ((if0 _ _).trans (teq ((lw_eq _ _).mpr (hlaw.1 (Or.inl (by rw [hc605] at hn; omega))))).2) k₀) ?_
                      show F T647 (mkF m 656 #[.val (.long q1), .second, .val (.int p2), .val (.int p3), .val (.int p4), .val (.int p5), .val (.int nv), .val (.int ng), .val (.int rf), .val (.int fv), .val (.int sv), .val (.int tv), .val (.long u), .second, .val (.long mq), .second, .val (.ref b96), .val (.int (1 : Int32)), .val (.long (-9223372036854775808 : Int64)), .second] [])
                      refine hst (fun t₀ k₀ => XS.iconst X647.here hx rfl (hb hby at_656) k₀) ?_
                      show F T647 (mkF m 657 #[.val (.long q1), .second, .val (.int p2), .val (.int p3), .val (.int p4), .val (.int p5), .val (.int nv), .val (.int ng), .val (.int rf), .val (.int fv), .val (.int sv), .val (.int tv), .val (.long u), .second, .val (.long mq), .second, .val (.ref b96), .val (.int (1 : Int32)), .val (.long (-9223372036854775808 : Int64)), .second] [(.int (1 : Int32))])
                      refine hst (fun t₀ k₀ => XS.goto X647.here hx rfl (pc0 := 657) (pc' := 661) rfl (hb hby at_657) (by decide) (by decide) k₀) ?_
                      show F T647 (mkF m 661 #[.val (.long q1), .second, .val (.int p2), .val (.int p3), .val (.int p4), .val (.int p5), .val (.int nv), .val (.int ng), .val (.int rf), .val (.int fv), .val (.int sv), .val (.int tv), .val (.long u), .second, .val (.long mq), .second, .val (.ref b96), .val (.int (1 : Int32)), .val (.long (-9223372036854775808 : Int64)), .second] [(.int (1 : Int32))])
                      rw [hF]
                      refine own_retN X647 hx hret (by simp) hlk (hb hby at_661) (by decide) (by decide) ?_
                      rw [he647]
                      exact ⟨rfl, N647⟩
                    · -- pc 605: not taken
                      refine hst (fun t₀ k₀ => XS.ifNo X599.here hx rfl (hb hby at_605) rfl ((if0 _ _).trans (feq hc605).1) k₀) ?_
                      show F T599 (mkF m 608 #[.val (.long q1), .second, .val (.int p2), .val (.int p3), .val (.int p4), .val (.int p5), .val (.int nv), .val (.int ng), .val (.int rf), .val (.int fv), .val (.int sv), .val (.int tv), .val (.long u), .second, .val (.long mq), .second, .val (.ref b96), .val (.int (1 : Int32)), .val (.int qv), .val (.int c2)] [])
                      refine hst (fun t₀ k₀ => XS.iload X599.here hx rfl (hb hby at_608) rfl k₀) ?_
                      show F T599 (mkF m 610 #[.val (.long q1), .second, .val (.int p2), .val (.int p3), .val (.int p4), .val (.int p5), .val (.int nv), .val (.int ng), .val (.int rf), .val (.int fv), .val (.int sv), .val (.int tv), .val (.long u), .second, .val (.long mq), .second, .val (.ref b96), .val (.int (1 : Int32)), .val (.int qv), .val (.int c2)] [(.int nv)])
                      refine hst (fun t₀ k₀ => XS.bipush X599.here hx rfl (hb hby at_610) k₀) ?_
                      show F T599 (mkF m 612 #[.val (.long q1), .second, .val (.int p2), .val (.int p3), .val (.int p4), .val (.int p5), .val (.int nv), .val (.int ng), .val (.int rf), .val (.int fv), .val (.int sv), .val (.int tv), .val (.long u), .second, .val (.long mq), .second, .val (.ref b96), .val (.int (1 : Int32)), .val (.int qv), .val (.int c2)] [(.int (18 : Int32)), (.int nv)])
                      by_cases hc612 : (18 : Int32) < nv
                      · -- pc 612: taken
                        refine hst (fun t₀ k₀ => XS.icmpYes X599.here hx rfl (pc0 := 612) (pc' := 620) rfl (hb hby at_612) rfl (tlt hc612).2.2.1 (by decide) (by decide) k₀) ?_
                        show F T599 (mkF m 620 #[.val (.long q1), .second, .val (.int p2), .val (.int p3), .val (.int p4), .val (.int p5), .val (.int nv), .val (.int ng), .val (.int rf), .val (.int fv), .val (.int sv), .val (.int tv), .val (.long u), .second, .val (.long mq), .second, .val (.ref b96), .val (.int (1 : Int32)), .val (.int qv), .val (.int c2)] [])
                        refine hst (fun t₀ k₀ => X599.ldc2J hx hown (mvT hZ (hw _ (List.mem_of_getElem? (i := 34) rfl))) (g := (mkF m 620 #[.val (.long q1), .second, .val (.int p2), .val (.int p3), .val (.int p4), .val (.int p5), .val (.int nv), .val (.int ng), .val (.int rf), .val (.int fv), .val (.int sv), .val (.int tv), .val (.long u), .second, .val (.long mq), .second, .val (.ref b96), .val (.int (1 : Int32)), .val (.int qv), .val (.int c2)] [])) rfl (hb hby at_620) k₀) ?_
                        show F T599 (mkF m 623 #[.val (.long q1), .second, .val (.int p2), .val (.int p3), .val (.int p4), .val (.int p5), .val (.int nv), .val (.int ng), .val (.int rf), .val (.int fv), .val (.int sv), .val (.int tv), .val (.long u), .second, .val (.long mq), .second, .val (.ref b96), .val (.int (1 : Int32)), .val (.int qv), .val (.int c2)] [(.long (-9223372036854775808 : Int64))])
                        refine hst (fun t₀ k₀ => XS.goto X599.here hx rfl (pc0 := 623) (pc' := 639) rfl (hb hby at_623) (by decide) (by decide) k₀) ?_
                        show F T599 (mkF m 639 #[.val (.long q1), .second, .val (.int p2), .val (.int p3), .val (.int p4), .val (.int p5), .val (.int nv), .val (.int ng), .val (.int rf), .val (.int fv), .val (.int sv), .val (.int tv), .val (.long u), .second, .val (.long mq), .second, .val (.ref b96), .val (.int (1 : Int32)), .val (.int qv), .val (.int c2)] [(.long (-9223372036854775808 : Int64))])
                        refine hst (fun t₀ k₀ => XS.lstore X599.here hx rfl (hb hby at_639) rfl (l' := #[.val (.long q1), .second, .val (.int p2), .val (.int p3), .val (.int p4), .val (.int p5), .val (.int nv), .val (.int ng), .val (.int rf), .val (.int fv), .val (.int sv), .val (.int tv), .val (.long u), .second, .val (.long mq), .second, .val (.ref b96), .val (.int (1 : Int32)), .val (.long (-9223372036854775808 : Int64)), .second]) rfl k₀) ?_
                        show F T599 (mkF m 641 #[.val (.long q1), .second, .val (.int p2), .val (.int p3), .val (.int p4), .val (.int p5), .val (.int nv), .val (.int ng), .val (.int rf), .val (.int fv), .val (.int sv), .val (.int tv), .val (.long u), .second, .val (.long mq), .second, .val (.ref b96), .val (.int (1 : Int32)), .val (.long (-9223372036854775808 : Int64)), .second] [])
                        refine hst (fun t₀ k₀ => XS.aload X599.here hx rfl (hb hby at_641) rfl rfl k₀) ?_
                        show F T599 (mkF m 643 #[.val (.long q1), .second, .val (.int p2), .val (.int p3), .val (.int p4), .val (.int p5), .val (.int nv), .val (.int ng), .val (.int rf), .val (.int fv), .val (.int sv), .val (.int tv), .val (.long u), .second, .val (.long mq), .second, .val (.ref b96), .val (.int (1 : Int32)), .val (.long (-9223372036854775808 : Int64)), .second] [(.ref b96)])
                        refine hst (fun t₀ k₀ => XS.iload X599.here hx rfl (hb hby at_643) rfl k₀) ?_
                        show F T599 (mkF m 645 #[.val (.long q1), .second, .val (.int p2), .val (.int p3), .val (.int p4), .val (.int p5), .val (.int nv), .val (.int ng), .val (.int rf), .val (.int fv), .val (.int sv), .val (.int tv), .val (.long u), .second, .val (.long mq), .second, .val (.ref b96), .val (.int (1 : Int32)), .val (.long (-9223372036854775808 : Int64)), .second] [(.int fv), (.ref b96)])
                        refine hst (fun t₀ k₀ => XS.iload X599.here hx rfl (hb hby at_645) rfl k₀) ?_
                        show F T599 (mkF m 647 #[.val (.long q1), .second, .val (.int p2), .val (.int p3), .val (.int p4), .val (.int p5), .val (.int nv), .val (.int ng), .val (.int rf), .val (.int fv), .val (.int sv), .val (.int tv), .val (.long u), .second, .val (.long mq), .second, .val (.ref b96), .val (.int (1 : Int32)), .val (.long (-9223372036854775808 : Int64)), .second] [(.int tv), (.int fv), (.ref b96)])
                        obtain ⟨v647, T647, Lc647, X647, hQ647, st647⟩ := own_callS X599 hx hZ hown (y := (⟨"com/example/leafline/leafline/table/IntegerValue", "parsePlain", "([BII)J"⟩ : MethodName)) (hw _ (List.mem_of_getElem? (i := 29) rfl)) (hw _ (List.mem_of_getElem? (i := 30) rfl)) (hw _ (List.mem_of_getElem? (i := 31) rfl)) (hw _ (List.mem_of_getElem? (i := 32) rfl)) (by decide) e599 (rm3 l Z a0 hw [] b96 fv tv (fun j => if j = s' + Q then w else own_pk B s' n M 20 j) 26 f (s' + n) h599 n0 Z0_p599 q1_513c_p599c hf ktv (by omega) (by omega) (by decide)) (by decide) (by decide) (g := (mkF m 647 #[.val (.long q1), .second, .val (.int p2), .val (.int p3), .val (.int p4), .val (.int p5), .val (.int nv), .val (.int ng), .val (.int rf), .val (.int fv), .val (.int sv), .val (.int tv), .val (.long u), .second, .val (.long mq), .second, .val (.ref b96), .val (.int (1 : Int32)), .val (.long (-9223372036854775808 : Int64)), .second] [(.int tv), (.int fv), (.ref b96)])) rfl (by rw [hml]; rfl) (argsL := [(.ref b96), (.int fv), (.int tv)]) (rest := []) (lenOf pd_1 rfl) rfl rfl (W := 0) (by show 2 * 0 + _ ≤ _; exact Nat.le_of_eq rfl) (hb hby at_647) (by decide) (by decide)
                        obtain ⟨rfl, Nq647, he647⟩ := hQ647
                        have N647 := Fr.app N599 Nq647
                        refine hst st647 ?_
                        show F T647 (mkF m 650 #[.val (.long q1), .second, .val (.int p2), .val (.int p3), .val (.int p4), .val (.int p5), .val (.int nv), .val (.int ng), .val (.int rf), .val (.int fv), .val (.int sv), .val (.int tv), .val (.long u), .second, .val (.long mq), .second, .val (.ref b96), .val (.int (1 : Int32)), .val (.long (-9223372036854775808 : Int64)), .second] [(.long (own_pp (fun j => if j = s' + Q then w else own_pk B s' n M 20 j) f (s' + n)))])
                        refine hst (fun t₀ k₀ => XS.lload X647.here hx rfl (hb hby at_650) rfl k₀) ?_
                        show F T647 (mkF m 652 #[.val (.long q1), .second, .val (.int p2), .val (.int p3), .val (.int p4), .val (.int p5), .val (.int nv), .val (.int ng), .val (.int rf), .val (.int fv), .val (.int sv), .val (.int tv), .val (.long u), .second, .val (.long mq), .second, .val (.ref b96), .val (.int (1 : Int32)), .val (.long (-9223372036854775808 : Int64)), .second] [(.long (-9223372036854775808 : Int64)), (.long (own_pp (fun j => if j = s' + Q then w else own_pk B s' n M 20 j) f (s' + n)))])
                        refine hst (fun t₀ k₀ => XS.lcmp X647.here hx rfl (hb hby at_652) rfl k₀) ?_
                        show F T647 (mkF m 653 #[.val (.long q1), .second, .val (.int p2), .val (.int p3), .val (.int p4), .val (.int p5), .val (.int nv), .val (.int ng), .val (.int rf), .val (.int fv), .val (.int sv), .val (.int tv), .val (.long u), .second, .val (.long mq), .second, .val (.ref b96), .val (.int (1 : Int32)), .val (.long (-9223372036854775808 : Int64)), .second] [(.int (lcmpW (own_pp (fun j => if j = s' + Q then w else own_pk B s' n M 20 j) f (s' + n)) (-9223372036854775808 : Int64)))])
                        refine hst (fun t₀ k₀ => XS.ifNo X647.here hx rfl (hb hby at_653) rfl ((if0 _ _).trans (teq ((lw_eq _ _).mpr (hlaw.1 (Or.inr (Or.inl (by rw [own_lt32] at hc612; omega)))))).2) k₀) ?_
                        show F T647 (mkF m 656 #[.val (.long q1), .second, .val (.int p2), .val (.int p3), .val (.int p4), .val (.int p5), .val (.int nv), .val (.int ng), .val (.int rf), .val (.int fv), .val (.int sv), .val (.int tv), .val (.long u), .second, .val (.long mq), .second, .val (.ref b96), .val (.int (1 : Int32)), .val (.long (-9223372036854775808 : Int64)), .second] [])
                        refine hst (fun t₀ k₀ => XS.iconst X647.here hx rfl (hb hby at_656) k₀) ?_
                        show F T647 (mkF m 657 #[.val (.long q1), .second, .val (.int p2), .val (.int p3), .val (.int p4), .val (.int p5), .val (.int nv), .val (.int ng), .val (.int rf), .val (.int fv), .val (.int sv), .val (.int tv), .val (.long u), .second, .val (.long mq), .second, .val (.ref b96), .val (.int (1 : Int32)), .val (.long (-9223372036854775808 : Int64)), .second] [(.int (1 : Int32))])
                        refine hst (fun t₀ k₀ => XS.goto X647.here hx rfl (pc0 := 657) (pc' := 661) rfl (hb hby at_657) (by decide) (by decide) k₀) ?_
                        show F T647 (mkF m 661 #[.val (.long q1), .second, .val (.int p2), .val (.int p3), .val (.int p4), .val (.int p5), .val (.int nv), .val (.int ng), .val (.int rf), .val (.int fv), .val (.int sv), .val (.int tv), .val (.long u), .second, .val (.long mq), .second, .val (.ref b96), .val (.int (1 : Int32)), .val (.long (-9223372036854775808 : Int64)), .second] [(.int (1 : Int32))])
                        rw [hF]
                        refine own_retN X647 hx hret (by simp) hlk (hb hby at_661) (by decide) (by decide) ?_
                        rw [he647]
                        exact ⟨rfl, N647⟩
                      · -- pc 612: not taken
                        refine hst (fun t₀ k₀ => XS.icmpNo X599.here hx rfl (hb hby at_612) rfl (flt hc612).2.2.1 k₀) ?_
                        show F T599 (mkF m 615 #[.val (.long q1), .second, .val (.int p2), .val (.int p3), .val (.int p4), .val (.int p5), .val (.int nv), .val (.int ng), .val (.int rf), .val (.int fv), .val (.int sv), .val (.int tv), .val (.long u), .second, .val (.long mq), .second, .val (.ref b96), .val (.int (1 : Int32)), .val (.int qv), .val (.int c2)] [])
                        refine hst (fun t₀ k₀ => XS.iload X599.here hx rfl (hb hby at_615) rfl k₀) ?_
                        show F T599 (mkF m 617 #[.val (.long q1), .second, .val (.int p2), .val (.int p3), .val (.int p4), .val (.int p5), .val (.int nv), .val (.int ng), .val (.int rf), .val (.int fv), .val (.int sv), .val (.int tv), .val (.long u), .second, .val (.long mq), .second, .val (.ref b96), .val (.int (1 : Int32)), .val (.int qv), .val (.int c2)] [(.int (1 : Int32))])
                        refine hst (fun t₀ k₀ => XS.ifNo X599.here hx rfl (hb hby at_617) rfl ((if0 _ _).trans (feq (by decide)).1) k₀) ?_
                        show F T599 (mkF m 620 #[.val (.long q1), .second, .val (.int p2), .val (.int p3), .val (.int p4), .val (.int p5), .val (.int nv), .val (.int ng), .val (.int rf), .val (.int fv), .val (.int sv), .val (.int tv), .val (.long u), .second, .val (.long mq), .second, .val (.ref b96), .val (.int (1 : Int32)), .val (.int qv), .val (.int c2)] [])
                        refine hst (fun t₀ k₀ => X599.ldc2J hx hown (mvT hZ (hw _ (List.mem_of_getElem? (i := 34) rfl))) (g := (mkF m 620 #[.val (.long q1), .second, .val (.int p2), .val (.int p3), .val (.int p4), .val (.int p5), .val (.int nv), .val (.int ng), .val (.int rf), .val (.int fv), .val (.int sv), .val (.int tv), .val (.long u), .second, .val (.long mq), .second, .val (.ref b96), .val (.int (1 : Int32)), .val (.int qv), .val (.int c2)] [])) rfl (hb hby at_620) k₀) ?_
                        show F T599 (mkF m 623 #[.val (.long q1), .second, .val (.int p2), .val (.int p3), .val (.int p4), .val (.int p5), .val (.int nv), .val (.int ng), .val (.int rf), .val (.int fv), .val (.int sv), .val (.int tv), .val (.long u), .second, .val (.long mq), .second, .val (.ref b96), .val (.int (1 : Int32)), .val (.int qv), .val (.int c2)] [(.long (-9223372036854775808 : Int64))])
                        refine hst (fun t₀ k₀ => XS.goto X599.here hx rfl (pc0 := 623) (pc' := 639) rfl (hb hby at_623) (by decide) (by decide) k₀) ?_
                        show F T599 (mkF m 639 #[.val (.long q1), .second, .val (.int p2), .val (.int p3), .val (.int p4), .val (.int p5), .val (.int nv), .val (.int ng), .val (.int rf), .val (.int fv), .val (.int sv), .val (.int tv), .val (.long u), .second, .val (.long mq), .second, .val (.ref b96), .val (.int (1 : Int32)), .val (.int qv), .val (.int c2)] [(.long (-9223372036854775808 : Int64))])
                        refine hst (fun t₀ k₀ => XS.lstore X599.here hx rfl (hb hby at_639) rfl (l' := #[.val (.long q1), .second, .val (.int p2), .val (.int p3), .val (.int p4), .val (.int p5), .val (.int nv), .val (.int ng), .val (.int rf), .val (.int fv), .val (.int sv), .val (.int tv), .val (.long u), .second, .val (.long mq), .second, .val (.ref b96), .val (.int (1 : Int32)), .val (.long (-9223372036854775808 : Int64)), .second]) rfl k₀) ?_
                        show F T599 (mkF m 641 #[.val (.long q1), .second, .val (.int p2), .val (.int p3), .val (.int p4), .val (.int p5), .val (.int nv), .val (.int ng), .val (.int rf), .val (.int fv), .val (.int sv), .val (.int tv), .val (.long u), .second, .val (.long mq), .second, .val (.ref b96), .val (.int (1 : Int32)), .val (.long (-9223372036854775808 : Int64)), .second] [])
                        refine hst (fun t₀ k₀ => XS.aload X599.here hx rfl (hb hby at_641) rfl rfl k₀) ?_
                        show F T599 (mkF m 643 #[.val (.long q1), .second, .val (.int p2), .val (.int p3), .val (.int p4), .val (.int p5), .val (.int nv), .val (.int ng), .val (.int rf), .val (.int fv), .val (.int sv), .val (.int tv), .val (.long u), .second, .val (.long mq), .second, .val (.ref b96), .val (.int (1 : Int32)), .val (.long (-9223372036854775808 : Int64)), .second] [(.ref b96)])
                        refine hst (fun t₀ k₀ => XS.iload X599.here hx rfl (hb hby at_643) rfl k₀) ?_
                        show F T599 (mkF m 645 #[.val (.long q1), .second, .val (.int p2), .val (.int p3), .val (.int p4), .val (.int p5), .val (.int nv), .val (.int ng), .val (.int rf), .val (.int fv), .val (.int sv), .val (.int tv), .val (.long u), .second, .val (.long mq), .second, .val (.ref b96), .val (.int (1 : Int32)), .val (.long (-9223372036854775808 : Int64)), .second] [(.int fv), (.ref b96)])
                        refine hst (fun t₀ k₀ => XS.iload X599.here hx rfl (hb hby at_645) rfl k₀) ?_
                        show F T599 (mkF m 647 #[.val (.long q1), .second, .val (.int p2), .val (.int p3), .val (.int p4), .val (.int p5), .val (.int nv), .val (.int ng), .val (.int rf), .val (.int fv), .val (.int sv), .val (.int tv), .val (.long u), .second, .val (.long mq), .second, .val (.ref b96), .val (.int (1 : Int32)), .val (.long (-9223372036854775808 : Int64)), .second] [(.int tv), (.int fv), (.ref b96)])
                        obtain ⟨v647, T647, Lc647, X647, hQ647, st647⟩ := own_callS X599 hx hZ hown (y := (⟨"com/example/leafline/leafline/table/IntegerValue", "parsePlain", "([BII)J"⟩ : MethodName)) (hw _ (List.mem_of_getElem? (i := 29) rfl)) (hw _ (List.mem_of_getElem? (i := 30) rfl)) (hw _ (List.mem_of_getElem? (i := 31) rfl)) (hw _ (List.mem_of_getElem? (i := 32) rfl)) (by decide) e599 (rm3 l Z a0 hw [] b96 fv tv (fun j => if j = s' + Q then w else own_pk B s' n M 20 j) 26 f (s' + n) h599 n0 Z0_p599 q1_513c_p599c hf ktv (by omega) (by omega) (by decide)) (by decide) (by decide) (g := (mkF m 647 #[.val (.long q1), .second, .val (.int p2), .val (.int p3), .val (.int p4), .val (.int p5), .val (.int nv), .val (.int ng), .val (.int rf), .val (.int fv), .val (.int sv), .val (.int tv), .val (.long u), .second, .val (.long mq), .second, .val (.ref b96), .val (.int (1 : Int32)), .val (.long (-9223372036854775808 : Int64)), .second] [(.int tv), (.int fv), (.ref b96)])) rfl (by rw [hml]; rfl) (argsL := [(.ref b96), (.int fv), (.int tv)]) (rest := []) (lenOf pd_1 rfl) rfl rfl (W := 0) (by show 2 * 0 + _ ≤ _; exact Nat.le_of_eq rfl) (hb hby at_647) (by decide) (by decide)
                        obtain ⟨rfl, Nq647, he647⟩ := hQ647
                        have N647 := Fr.app N599 Nq647
                        refine hst st647 ?_
                        show F T647 (mkF m 650 #[.val (.long q1), .second, .val (.int p2), .val (.int p3), .val (.int p4), .val (.int p5), .val (.int nv), .val (.int ng), .val (.int rf), .val (.int fv), .val (.int sv), .val (.int tv), .val (.long u), .second, .val (.long mq), .second, .val (.ref b96), .val (.int (1 : Int32)), .val (.long (-9223372036854775808 : Int64)), .second] [(.long (own_pp (fun j => if j = s' + Q then w else own_pk B s' n M 20 j) f (s' + n)))])
                        refine hst (fun t₀ k₀ => XS.lload X647.here hx rfl (hb hby at_650) rfl k₀) ?_
                        show F T647 (mkF m 652 #[.val (.long q1), .second, .val (.int p2), .val (.int p3), .val (.int p4), .val (.int p5), .val (.int nv), .val (.int ng), .val (.int rf), .val (.int fv), .val (.int sv), .val (.int tv), .val (.long u), .second, .val (.long mq), .second, .val (.ref b96), .val (.int (1 : Int32)), .val (.long (-9223372036854775808 : Int64)), .second] [(.long (-9223372036854775808 : Int64)), (.long (own_pp (fun j => if j = s' + Q then w else own_pk B s' n M 20 j) f (s' + n)))])
                        refine hst (fun t₀ k₀ => XS.lcmp X647.here hx rfl (hb hby at_652) rfl k₀) ?_
                        show F T647 (mkF m 653 #[.val (.long q1), .second, .val (.int p2), .val (.int p3), .val (.int p4), .val (.int p5), .val (.int nv), .val (.int ng), .val (.int rf), .val (.int fv), .val (.int sv), .val (.int tv), .val (.long u), .second, .val (.long mq), .second, .val (.ref b96), .val (.int (1 : Int32)), .val (.long (-9223372036854775808 : Int64)), .second] [(.int (lcmpW (own_pp (fun j => if j = s' + Q then w else own_pk B s' n M 20 j) f (s' + n)) (-9223372036854775808 : Int64)))])
                        refine hst (fun t₀ k₀ => XS.ifNo X647.here hx rfl (hb hby at_653) rfl ((if0 _ _).trans (teq ((lw_eq _ _).mpr (hlaw.1 (Or.inr (Or.inr rfl))))).2) k₀) ?_
                        show F T647 (mkF m 656 #[.val (.long q1), .second, .val (.int p2), .val (.int p3), .val (.int p4), .val (.int p5), .val (.int nv), .val (.int ng), .val (.int rf), .val (.int fv), .val (.int sv), .val (.int tv), .val (.long u), .second, .val (.long mq), .second, .val (.ref b96), .val (.int (1 : Int32)), .val (.long (-9223372036854775808 : Int64)), .second] [])
                        refine hst (fun t₀ k₀ => XS.iconst X647.here hx rfl (hb hby at_656) k₀) ?_
                        show F T647 (mkF m 657 #[.val (.long q1), .second, .val (.int p2), .val (.int p3), .val (.int p4), .val (.int p5), .val (.int nv), .val (.int ng), .val (.int rf), .val (.int fv), .val (.int sv), .val (.int tv), .val (.long u), .second, .val (.long mq), .second, .val (.ref b96), .val (.int (1 : Int32)), .val (.long (-9223372036854775808 : Int64)), .second] [(.int (1 : Int32))])
                        refine hst (fun t₀ k₀ => XS.goto X647.here hx rfl (pc0 := 657) (pc' := 661) rfl (hb hby at_657) (by decide) (by decide) k₀) ?_
                        show F T647 (mkF m 661 #[.val (.long q1), .second, .val (.int p2), .val (.int p3), .val (.int p4), .val (.int p5), .val (.int nv), .val (.int ng), .val (.int rf), .val (.int fv), .val (.int sv), .val (.int tv), .val (.long u), .second, .val (.long mq), .second, .val (.ref b96), .val (.int (1 : Int32)), .val (.long (-9223372036854775808 : Int64)), .second] [(.int (1 : Int32))])
                        rw [hF]
                        refine own_retN X647 hx hret (by simp) hlk (hb hby at_661) (by decide) (by decide) ?_
                        rw [he647]
                        exact ⟨rfl, N647⟩
                  refine hst (fun t₀ k₀ => XS.iload X513.here hx rfl (hb hby at_568) rfl k₀) ?_
                  show F T513 (mkF m 570 #[.val (.long q1), .second, .val (.int p2), .val (.int p3), .val (.int p4), .val (.int p5), .val (.int nv), .val (.int ng), .val (.int rf), .val (.int fv), .val (.int sv), .val (.int tv), .val (.long u), .second, .val (.long mq), .second, .val (.ref b96), .val (.int (0 : Int32)), .val (.int qv), .val (.int c1)] [(.int c1)])
                  refine hst (fun t₀ k₀ => XS.bipush X513.here hx rfl (hb hby at_570) k₀) ?_
                  show F T513 (mkF m 572 #[.val (.long q1), .second, .val (.int p2), .val (.int p3), .val (.int p4), .val (.int p5), .val (.int nv), .val (.int ng), .val (.int rf), .val (.int fv), .val (.int sv), .val (.int tv), .val (.long u), .second, .val (.long mq), .second, .val (.ref b96), .val (.int (0 : Int32)), .val (.int qv), .val (.int c1)] [(.int (45 : Int32)), (.int c1)])
                  by_cases hc572 : c1 = (45 : Int32)
                  · -- pc 572: not taken
                    refine hst (fun t₀ k₀ => XS.icmpNo X513.here hx rfl (hb hby at_572) rfl (teq hc572).2 k₀) ?_
                    show F T513 (mkF m 575 #[.val (.long q1), .second, .val (.int p2), .val (.int p3), .val (.int p4), .val (.int p5), .val (.int nv), .val (.int ng), .val (.int rf), .val (.int fv), .val (.int sv), .val (.int tv), .val (.long u), .second, .val (.long mq), .second, .val (.ref b96), .val (.int (0 : Int32)), .val (.int qv), .val (.int c1)] [])
                    refine hst (fun t₀ k₀ => XS.iload X513.here hx rfl (hb hby at_575) rfl k₀) ?_
                    show F T513 (mkF m 577 #[.val (.long q1), .second, .val (.int p2), .val (.int p3), .val (.int p4), .val (.int p5), .val (.int nv), .val (.int ng), .val (.int rf), .val (.int fv), .val (.int sv), .val (.int tv), .val (.long u), .second, .val (.long mq), .second, .val (.ref b96), .val (.int (0 : Int32)), .val (.int qv), .val (.int c1)] [(.int qv)])
                    by_cases hc577 : qv = (0 : Int32)
                    · -- pc 577: not taken
                      refine hst (fun t₀ k₀ => XS.ifNo X513.here hx rfl (hb hby at_577) rfl ((if0 _ _).trans (teq hc577).2) k₀) ?_
                      show F T513 (mkF m 580 #[.val (.long q1), .second, .val (.int p2), .val (.int p3), .val (.int p4), .val (.int p5), .val (.int nv), .val (.int ng), .val (.int rf), .val (.int fv), .val (.int sv), .val (.int tv), .val (.long u), .second, .val (.long mq), .second, .val (.ref b96), .val (.int (0 : Int32)), .val (.int qv), .val (.int c1)] [])
                      refine hst (fun t₀ k₀ => XS.iload X513.here hx rfl (hb hby at_580) rfl k₀) ?_
                      show F T513 (mkF m 582 #[.val (.long q1), .second, .val (.int p2), .val (.int p3), .val (.int p4), .val (.int p5), .val (.int nv), .val (.int ng), .val (.int rf), .val (.int fv), .val (.int sv), .val (.int tv), .val (.long u), .second, .val (.long mq), .second, .val (.ref b96), .val (.int (0 : Int32)), .val (.int qv), .val (.int c1)] [(.int ng)])
                      by_cases hc582 : ng = (0 : Int32)
                      · -- pc 582: not taken
                        refine hst (fun t₀ k₀ => XS.ifNo X513.here hx rfl (hb hby at_582) rfl ((if0 _ _).trans (teq hc582).2) k₀) ?_
                        show F T513 (mkF m 585 #[.val (.long q1), .second, .val (.int p2), .val (.int p3), .val (.int p4), .val (.int p5), .val (.int nv), .val (.int ng), .val (.int rf), .val (.int fv), .val (.int sv), .val (.int tv), .val (.long u), .second, .val (.long mq), .second, .val (.ref b96), .val (.int (0 : Int32)), .val (.int qv), .val (.int c1)] [])
                        refine hst (fun t₀ k₀ => XS.bipush X513.here hx rfl (hb hby at_585) k₀) ?_
                        show F T513 (mkF m 587 #[.val (.long q1), .second, .val (.int p2), .val (.int p3), .val (.int p4), .val (.int p5), .val (.int nv), .val (.int ng), .val (.int rf), .val (.int fv), .val (.int sv), .val (.int tv), .val (.long u), .second, .val (.long mq), .second, .val (.ref b96), .val (.int (0 : Int32)), .val (.int qv), .val (.int c1)] [(.int (43 : Int32))])
                        refine hst (fun t₀ k₀ => XS.istore X513.here hx rfl (hb hby at_587) rfl (l' := #[.val (.long q1), .second, .val (.int p2), .val (.int p3), .val (.int p4), .val (.int p5), .val (.int nv), .val (.int ng), .val (.int rf), .val (.int fv), .val (.int sv), .val (.int tv), .val (.long u), .second, .val (.long mq), .second, .val (.ref b96), .val (.int (0 : Int32)), .val (.int qv), .val (.int (43 : Int32))]) rfl k₀) ?_
                        show F T513 (mkF m 589 #[.val (.long q1), .second, .val (.int p2), .val (.int p3), .val (.int p4), .val (.int p5), .val (.int nv), .val (.int ng), .val (.int rf), .val (.int fv), .val (.int sv), .val (.int tv), .val (.long u), .second, .val (.long mq), .second, .val (.ref b96), .val (.int (0 : Int32)), .val (.int qv), .val (.int (43 : Int32))] [])
                        exact J589 (43 : Int32) ⟨43, by decide, by decide, by decide, fun q => absurd q.1 (by decide)⟩
                      · -- pc 582: taken
                        refine hst (fun t₀ k₀ => XS.ifYes X513.here hx rfl (pc0 := 582) (pc' := 589) rfl (hb hby at_582) rfl ((if0 _ _).trans (feq hc582).2) (by decide) (by decide) k₀) ?_
                        show F T513 (mkF m 589 #[.val (.long q1), .second, .val (.int p2), .val (.int p3), .val (.int p4), .val (.int p5), .val (.int nv), .val (.int ng), .val (.int rf), .val (.int fv), .val (.int sv), .val (.int tv), .val (.long u), .second, .val (.long mq), .second, .val (.ref b96), .val (.int (0 : Int32)), .val (.int qv), .val (.int c1)] [])
                        exact J589 c1 ⟨D1, hD1, hD1b, hD1c, fun q => hc582 q.2.2⟩
                    · -- pc 577: taken
                      refine hst (fun t₀ k₀ => XS.ifYes X513.here hx rfl (pc0 := 577) (pc' := 589) rfl (hb hby at_577) rfl ((if0 _ _).trans (feq hc577).2) (by decide) (by decide) k₀) ?_
                      show F T513 (mkF m 589 #[.val (.long q1), .second, .val (.int p2), .val (.int p3), .val (.int p4), .val (.int p5), .val (.int nv), .val (.int ng), .val (.int rf), .val (.int fv), .val (.int sv), .val (.int tv), .val (.long u), .second, .val (.long mq), .second, .val (.ref b96), .val (.int (0 : Int32)), .val (.int qv), .val (.int c1)] [])
                      exact J589 c1 ⟨D1, hD1, hD1b, hD1c, fun q => hc577 ((own_eq32 _ _).mpr (by omega))⟩
                  · -- pc 572: taken
                    refine hst (fun t₀ k₀ => XS.icmpYes X513.here hx rfl (pc0 := 572) (pc' := 589) rfl (hb hby at_572) rfl (feq hc572).2 (by decide) (by decide) k₀) ?_
                    show F T513 (mkF m 589 #[.val (.long q1), .second, .val (.int p2), .val (.int p3), .val (.int p4), .val (.int p5), .val (.int nv), .val (.int ng), .val (.int rf), .val (.int fv), .val (.int sv), .val (.int tv), .val (.long u), .second, .val (.long mq), .second, .val (.ref b96), .val (.int (0 : Int32)), .val (.int qv), .val (.int c1)] [])
                    exact J589 c1 ⟨D1, hD1, hD1b, hD1c, fun q => hc572 ((own_eq32 _ _).mpr (by omega))⟩
                refine hst (fun t₀ k₀ => XS.iload X513.here hx rfl (hb hby at_547) rfl k₀) ?_
                show F T513 (mkF m 549 #[.val (.long q1), .second, .val (.int p2), .val (.int p3), .val (.int p4), .val (.int p5), .val (.int nv), .val (.int ng), .val (.int rf), .val (.int fv), .val (.int sv), .val (.int tv), .val (.long u), .second, .val (.long mq), .second, .val (.ref b96), .val (.int (0 : Int32)), .val (.int qv), .val (.int cv)] [(.int cv)])
                refine hst (fun t₀ k₀ => XS.bipush X513.here hx rfl (hb hby at_549) k₀) ?_
                show F T513 (mkF m 551 #[.val (.long q1), .second, .val (.int p2), .val (.int p3), .val (.int p4), .val (.int p5), .val (.int nv), .val (.int ng), .val (.int rf), .val (.int fv), .val (.int sv), .val (.int tv), .val (.long u), .second, .val (.long mq), .second, .val (.ref b96), .val (.int (0 : Int32)), .val (.int qv), .val (.int cv)] [(.int (48 : Int32)), (.int cv)])
                by_cases hc551 : cv < (48 : Int32)
                · -- pc 551: taken
                  refine hst (fun t₀ k₀ => XS.icmpYes X513.here hx rfl (pc0 := 551) (pc' := 568) rfl (hb hby at_551) rfl (tlt hc551).1 (by decide) (by decide) k₀) ?_
                  show F T513 (mkF m 568 #[.val (.long q1), .second, .val (.int p2), .val (.int p3), .val (.int p4), .val (.int p5), .val (.int nv), .val (.int ng), .val (.int rf), .val (.int fv), .val (.int sv), .val (.int tv), .val (.long u), .second, .val (.long mq), .second, .val (.ref b96), .val (.int (0 : Int32)), .val (.int qv), .val (.int cv)] [])
                  exact J568 cv ⟨C, hC, hC2, by rw [own_lt32] at hc551; omega⟩
                · -- pc 551: not taken
                  refine hst (fun t₀ k₀ => XS.icmpNo X513.here hx rfl (hb hby at_551) rfl (flt hc551).1 k₀) ?_
                  show F T513 (mkF m 554 #[.val (.long q1), .second, .val (.int p2), .val (.int p3), .val (.int p4), .val (.int p5), .val (.int nv), .val (.int ng), .val (.int rf), .val (.int fv), .val (.int sv), .val (.int tv), .val (.long u), .second, .val (.long mq), .second, .val (.ref b96), .val (.int (0 : Int32)), .val (.int qv), .val (.int cv)] [])
                  refine hst (fun t₀ k₀ => XS.iload X513.here hx rfl (hb hby at_554) rfl k₀) ?_
                  show F T513 (mkF m 556 #[.val (.long q1), .second, .val (.int p2), .val (.int p3), .val (.int p4), .val (.int p5), .val (.int nv), .val (.int ng), .val (.int rf), .val (.int fv), .val (.int sv), .val (.int tv), .val (.long u), .second, .val (.long mq), .second, .val (.ref b96), .val (.int (0 : Int32)), .val (.int qv), .val (.int cv)] [(.int cv)])
                  refine hst (fun t₀ k₀ => XS.bipush X513.here hx rfl (hb hby at_556) k₀) ?_
                  show F T513 (mkF m 558 #[.val (.long q1), .second, .val (.int p2), .val (.int p3), .val (.int p4), .val (.int p5), .val (.int nv), .val (.int ng), .val (.int rf), .val (.int fv), .val (.int sv), .val (.int tv), .val (.long u), .second, .val (.long mq), .second, .val (.ref b96), .val (.int (0 : Int32)), .val (.int qv), .val (.int cv)] [(.int (57 : Int32)), (.int cv)])
                  by_cases hc558 : (57 : Int32) < cv
                  · -- pc 558: taken
                    refine hst (fun t₀ k₀ => XS.icmpYes X513.here hx rfl (pc0 := 558) (pc' := 568) rfl (hb hby at_558) rfl (tlt hc558).2.2.1 (by decide) (by decide) k₀) ?_
                    show F T513 (mkF m 568 #[.val (.long q1), .second, .val (.int p2), .val (.int p3), .val (.int p4), .val (.int p5), .val (.int nv), .val (.int ng), .val (.int rf), .val (.int fv), .val (.int sv), .val (.int tv), .val (.long u), .second, .val (.long mq), .second, .val (.ref b96), .val (.int (0 : Int32)), .val (.int qv), .val (.int cv)] [])
                    exact J568 cv ⟨C, hC, hC2, by rw [own_lt32] at hc558; omega⟩
                  · -- pc 558: not taken
                    refine hst (fun t₀ k₀ => XS.icmpNo X513.here hx rfl (hb hby at_558) rfl (flt hc558).2.2.1 k₀) ?_
                    show F T513 (mkF m 561 #[.val (.long q1), .second, .val (.int p2), .val (.int p3), .val (.int p4), .val (.int p5), .val (.int nv), .val (.int ng), .val (.int rf), .val (.int fv), .val (.int sv), .val (.int tv), .val (.long u), .second, .val (.long mq), .second, .val (.ref b96), .val (.int (0 : Int32)), .val (.int qv), .val (.int cv)] [])
                    refine hst (fun t₀ k₀ => XS.iload X513.here hx rfl (hb hby at_561) rfl k₀) ?_
                    show F T513 (mkF m 563 #[.val (.long q1), .second, .val (.int p2), .val (.int p3), .val (.int p4), .val (.int p5), .val (.int nv), .val (.int ng), .val (.int rf), .val (.int fv), .val (.int sv), .val (.int tv), .val (.long u), .second, .val (.long mq), .second, .val (.ref b96), .val (.int (0 : Int32)), .val (.int qv), .val (.int cv)] [(.int cv)])
                    refine hst (fun t₀ k₀ => XS.bipush X513.here hx rfl (hb hby at_563) k₀) ?_
                    show F T513 (mkF m 565 #[.val (.long q1), .second, .val (.int p2), .val (.int p3), .val (.int p4), .val (.int p5), .val (.int nv), .val (.int ng), .val (.int rf), .val (.int fv), .val (.int sv), .val (.int tv), .val (.long u), .second, .val (.long mq), .second, .val (.ref b96), .val (.int (0 : Int32)), .val (.int qv), .val (.int cv)] [(.int (10 : Int32)), (.int cv)])
                    refine hst (fun t₀ k₀ => XS.iadd X513.here hx rfl (hb hby at_565) rfl k₀) ?_
                    show F T513 (mkF m 566 #[.val (.long q1), .second, .val (.int p2), .val (.int p3), .val (.int p4), .val (.int p5), .val (.int nv), .val (.int ng), .val (.int rf), .val (.int fv), .val (.int sv), .val (.int tv), .val (.long u), .second, .val (.long mq), .second, .val (.ref b96), .val (.int (0 : Int32)), .val (.int qv), .val (.int cv)] [(.int (cv + (10 : Int32)))])
                    refine hst (fun t₀ k₀ => XS.istore X513.here hx rfl (hb hby at_566) rfl (l' := #[.val (.long q1), .second, .val (.int p2), .val (.int p3), .val (.int p4), .val (.int p5), .val (.int nv), .val (.int ng), .val (.int rf), .val (.int fv), .val (.int sv), .val (.int tv), .val (.long u), .second, .val (.long mq), .second, .val (.ref b96), .val (.int (0 : Int32)), .val (.int qv), .val (.int (cv + (10 : Int32)))]) rfl k₀) ?_
                    show F T513 (mkF m 568 #[.val (.long q1), .second, .val (.int p2), .val (.int p3), .val (.int p4), .val (.int p5), .val (.int nv), .val (.int ng), .val (.int rf), .val (.int fv), .val (.int sv), .val (.int tv), .val (.long u), .second, .val (.long mq), .second, .val (.ref b96), .val (.int (0 : Int32)), .val (.int qv), .val (.int (cv + (10 : Int32)))] [])
                    exact J568 (cv + (10 : Int32)) ⟨C + 10, by rw [own_lt32] at hc551 hc558; have h1 := c_iadd cv 10; have h2 := rng32 (cv + 10); omega, by rw [own_lt32] at hc551 hc558; omega, by rw [own_lt32] at hc551 hc558; omega⟩
              · -- pc 526: taken
                refine hst (fun t₀ k₀ => XS.ifYes X513.here hx rfl (pc0 := 526) (pc' := 603) rfl (hb hby at_526) rfl ((if0 _ _).trans (flt hc526).2.2.2) (by decide) (by decide) k₀) ?_
                show F T513 (mkF m 603 #[.val (.long q1), .second, .val (.int p2), .val (.int p3), .val (.int p4), .val (.int p5), .val (.int nv), .val (.int ng), .val (.int rf), .val (.int fv), .val (.int sv), .val (.int tv), .val (.long u), .second, .val (.long mq), .second, .val (.ref b96), .val (.int (0 : Int32)), .unset, .unset] [])
                have hlaw := own_law3 (own_pk B s' n M 20) f s' n M 0 ng 0 hs1 (fun q => by unfold own_pk; rw [if_neg (by have := es1 q; omega)]; exact hB q) (fun k hk _ => by unfold own_pk; rw [if_pos (by omega), show s' + k - s' = k by omega]) (fun q => absurd q.symm n10) (Or.inl rfl)
                refine hst (fun t₀ k₀ => XS.iload X513.here hx rfl (hb hby at_603) rfl k₀) ?_
                show F T513 (mkF m 605 #[.val (.long q1), .second, .val (.int p2), .val (.int p3), .val (.int p4), .val (.int p5), .val (.int nv), .val (.int ng), .val (.int rf), .val (.int fv), .val (.int sv), .val (.int tv), .val (.long u), .second, .val (.long mq), .second, .val (.ref b96), .val (.int (0 : Int32)), .unset, .unset] [(.int nv)])
                by_cases hc605 : nv = (0 : Int32)
                · -- pc 605: taken
                  refine hst (fun t₀ k₀ => XS.ifYes X513.here hx rfl (pc0 := 605) (pc' := 620) rfl (hb hby at_605) rfl ((if0 _ _).trans (teq hc605).1) (by decide) (by decide) k₀) ?_
                  show F T513 (mkF m 620 #[.val (.long q1), .second, .val (.int p2), .val (.int p3), .val (.int p4), .val (.int p5), .val (.int nv), .val (.int ng), .val (.int rf), .val (.int fv), .val (.int sv), .val (.int tv), .val (.long u), .second, .val (.long mq), .second, .val (.ref b96), .val (.int (0 : Int32)), .unset, .unset] [])
                  refine hst (fun t₀ k₀ => X513.ldc2J hx hown (mvT hZ (hw _ (List.mem_of_getElem? (i := 34) rfl))) (g := (mkF m 620 #[.val (.long q1), .second, .val (.int p2), .val (.int p3), .val (.int p4), .val (.int p5), .val (.int nv), .val (.int ng), .val (.int rf), .val (.int fv), .val (.int sv), .val (.int tv), .val (.long u), .second, .val (.long mq), .second, .val (.ref b96), .val (.int (0 : Int32)), .unset, .unset] [])) rfl (hb hby at_620) k₀) ?_
                  show F T513 (mkF m 623 #[.val (.long q1), .second, .val (.int p2), .val (.int p3), .val (.int p4), .val (.int p5), .val (.int nv), .val (.int ng), .val (.int rf), .val (.int fv), .val (.int sv), .val (.int tv), .val (.long u), .second, .val (.long mq), .second, .val (.ref b96), .val (.int (0 : Int32)), .unset, .unset] [(.long (-9223372036854775808 : Int64))])
                  refine hst (fun t₀ k₀ => XS.goto X513.here hx rfl (pc0 := 623) (pc' := 639) rfl (hb hby at_623) (by decide) (by decide) k₀) ?_
                  show F T513 (mkF m 639 #[.val (.long q1), .second, .val (.int p2), .val (.int p3), .val (.int p4), .val (.int p5), .val (.int nv), .val (.int ng), .val (.int rf), .val (.int fv), .val (.int sv), .val (.int tv), .val (.long u), .second, .val (.long mq), .second, .val (.ref b96), .val (.int (0 : Int32)), .unset, .unset] [(.long (-9223372036854775808 : Int64))])
                  refine hst (fun t₀ k₀ => XS.lstore X513.here hx rfl (hb hby at_639) rfl (l' := #[.val (.long q1), .second, .val (.int p2), .val (.int p3), .val (.int p4), .val (.int p5), .val (.int nv), .val (.int ng), .val (.int rf), .val (.int fv), .val (.int sv), .val (.int tv), .val (.long u), .second, .val (.long mq), .second, .val (.ref b96), .val (.int (0 : Int32)), .val (.long (-9223372036854775808 : Int64)), .second]) rfl k₀) ?_
                  show F T513 (mkF m 641 #[.val (.long q1), .second, .val (.int p2), .val (.int p3), .val (.int p4), .val (.int p5), .val (.int nv), .val (.int ng), .val (.int rf), .val (.int fv), .val (.int sv), .val (.int tv), .val (.long u), .second, .val (.long mq), .second, .val (.ref b96), .val (.int (0 : Int32)), .val (.long (-9223372036854775808 : Int64)), .second] [])
                  refine hst (fun t₀ k₀ => XS.aload X513.here hx rfl (hb hby at_641) rfl rfl k₀) ?_
                  show F T513 (mkF m 643 #[.val (.long q1), .second, .val (.int p2), .val (.int p3), .val (.int p4), .val (.int p5), .val (.int nv), .val (.int ng), .val (.int rf), .val (.int fv), .val (.int sv), .val (.int tv), .val (.long u), .second, .val (.long mq), .second, .val (.ref b96), .val (.int (0 : Int32)), .val (.long (-9223372036854775808 : Int64)), .second] [(.ref b96)])
                  refine hst (fun t₀ k₀ => XS.iload X513.here hx rfl (hb hby at_643) rfl k₀) ?_
                  show F T513 (mkF m 645 #[.val (.long q1), .second, .val (.int p2), .val (.int p3), .val (.int p4), .val (.int p5), .val (.int nv), .val (.int ng), .val (.int rf), .val (.int fv), .val (.int sv), .val (.int tv), .val (.long u), .second, .val (.long mq), .second, .val (.ref b96), .val (.int (0 : Int32)), .val (.long (-9223372036854775808 : Int64)), .second] [(.int fv), (.ref b96)])
                  refine hst (fun t₀ k₀ => XS.iload X513.here hx rfl (hb hby at_645) rfl k₀) ?_
                  show F T513 (mkF m 647 #[.val (.long q1), .second, .val (.int p2), .val (.int p3), .val (.int p4), .val (.int p5), .val (.int nv), .val (.int ng), .val (.int rf), .val (.int fv), .val (.int sv), .val (.int tv), .val (.long u), .second, .val (.long mq), .second, .val (.ref b96), .val (.int (0 : Int32)), .val (.long (-9223372036854775808 : Int64)), .second] [(.int tv), (.int fv), (.ref b96)])
                  obtain ⟨v647, T647, Lc647, X647, hQ647, st647⟩ := own_callS X513 hx hZ hown (y := (⟨"com/example/leafline/leafline/table/IntegerValue", "parsePlain", "([BII)J"⟩ : MethodName)) (hw _ (List.mem_of_getElem? (i := 29) rfl)) (hw _ (List.mem_of_getElem? (i := 30) rfl)) (hw _ (List.mem_of_getElem? (i := 31) rfl)) (hw _ (List.mem_of_getElem? (i := 32) rfl)) (by decide) rfl (rm3 l Z a0 hw [] b96 fv tv (own_pk B s' n M 20) 26 f (s' + n) T513.heap n0 Z0_p513 q1_513c hf ktv (by omega) (by omega) (by decide)) (by decide) (by decide) (g := (mkF m 647 #[.val (.long q1), .second, .val (.int p2), .val (.int p3), .val (.int p4), .val (.int p5), .val (.int nv), .val (.int ng), .val (.int rf), .val (.int fv), .val (.int sv), .val (.int tv), .val (.long u), .second, .val (.long mq), .second, .val (.ref b96), .val (.int (0 : Int32)), .val (.long (-9223372036854775808 : Int64)), .second] [(.int tv), (.int fv), (.ref b96)])) rfl (by rw [hml]; rfl) (argsL := [(.ref b96), (.int fv), (.int tv)]) (rest := []) (lenOf pd_1 rfl) rfl rfl (W := 0) (by show 2 * 0 + _ ≤ _; exact Nat.le_of_eq rfl) (hb hby at_647) (by decide) (by decide)
                  obtain ⟨rfl, Nq647, he647⟩ := hQ647
                  have N647 := Fr.app N513 Nq647
                  refine hst st647 ?_
                  show F T647 (mkF m 650 #[.val (.long q1), .second, .val (.int p2), .val (.int p3), .val (.int p4), .val (.int p5), .val (.int nv), .val (.int ng), .val (.int rf), .val (.int fv), .val (.int sv), .val (.int tv), .val (.long u), .second, .val (.long mq), .second, .val (.ref b96), .val (.int (0 : Int32)), .val (.long (-9223372036854775808 : Int64)), .second] [(.long (own_pp (own_pk B s' n M 20) f (s' + n)))])
                  refine hst (fun t₀ k₀ => XS.lload X647.here hx rfl (hb hby at_650) rfl k₀) ?_
                  show F T647 (mkF m 652 #[.val (.long q1), .second, .val (.int p2), .val (.int p3), .val (.int p4), .val (.int p5), .val (.int nv), .val (.int ng), .val (.int rf), .val (.int fv), .val (.int sv), .val (.int tv), .val (.long u), .second, .val (.long mq), .second, .val (.ref b96), .val (.int (0 : Int32)), .val (.long (-9223372036854775808 : Int64)), .second] [(.long (-9223372036854775808 : Int64)), (.long (own_pp (own_pk B s' n M 20) f (s' + n)))])
                  refine hst (fun t₀ k₀ => XS.lcmp X647.here hx rfl (hb hby at_652) rfl k₀) ?_
                  show F T647 (mkF m 653 #[.val (.long q1), .second, .val (.int p2), .val (.int p3), .val (.int p4), .val (.int p5), .val (.int nv), .val (.int ng), .val (.int rf), .val (.int fv), .val (.int sv), .val (.int tv), .val (.long u), .second, .val (.long mq), .second, .val (.ref b96), .val (.int (0 : Int32)), .val (.long (-9223372036854775808 : Int64)), .second] [(.int (lcmpW (own_pp (own_pk B s' n M 20) f (s' + n)) (-9223372036854775808 : Int64)))])
                  refine hst (fun t₀ k₀ => XS.ifNo X647.here hx rfl (hb hby at_653) rfl ((if0 _ _).trans (teq ((lw_eq _ _).mpr (hlaw.1 (Or.inl (by rw [hc605] at hn; omega))))).2) k₀) ?_
                  show F T647 (mkF m 656 #[.val (.long q1), .second, .val (.int p2), .val (.int p3), .val (.int p4), .val (.int p5), .val (.int nv), .val (.int ng), .val (.int rf), .val (.int fv), .val (.int sv), .val (.int tv), .val (.long u), .second, .val (.long mq), .second, .val (.ref b96), .val (.int (0 : Int32)), .val (.long (-9223372036854775808 : Int64)), .second] [])
                  refine hst (fun t₀ k₀ => XS.iconst X647.here hx rfl (hb hby at_656) k₀) ?_
                  show F T647 (mkF m 657 #[.val (.long q1), .second, .val (.int p2), .val (.int p3), .val (.int p4), .val (.int p5), .val (.int nv), .val (.int ng), .val (.int rf), .val (.int fv), .val (.int sv), .val (.int tv), .val (.long u), .second, .val (.long mq), .second, .val (.ref b96), .val (.int (0 : Int32)), .val (.long (-9223372036854775808 : Int64)), .second] [(.int (1 : Int32))])
                  refine hst (fun t₀ k₀ => XS.goto X647.here hx rfl (pc0 := 657) (pc' := 661) rfl (hb hby at_657) (by decide) (by decide) k₀) ?_
                  show F T647 (mkF m 661 #[.val (.long q1), .second, .val (.int p2), .val (.int p3), .val (.int p4), .val (.int p5), .val (.int nv), .val (.int ng), .val (.int rf), .val (.int fv), .val (.int sv), .val (.int tv), .val (.long u), .second, .val (.long mq), .second, .val (.ref b96), .val (.int (0 : Int32)), .val (.long (-9223372036854775808 : Int64)), .second] [(.int (1 : Int32))])
                  rw [hF]
                  refine own_retN X647 hx hret (by simp) hlk (hb hby at_661) (by decide) (by decide) ?_
                  rw [he647]
                  exact ⟨rfl, N647⟩
                · -- pc 605: not taken
                  refine hst (fun t₀ k₀ => XS.ifNo X513.here hx rfl (hb hby at_605) rfl ((if0 _ _).trans (feq hc605).1) k₀) ?_
                  show F T513 (mkF m 608 #[.val (.long q1), .second, .val (.int p2), .val (.int p3), .val (.int p4), .val (.int p5), .val (.int nv), .val (.int ng), .val (.int rf), .val (.int fv), .val (.int sv), .val (.int tv), .val (.long u), .second, .val (.long mq), .second, .val (.ref b96), .val (.int (0 : Int32)), .unset, .unset] [])
                  refine hst (fun t₀ k₀ => XS.iload X513.here hx rfl (hb hby at_608) rfl k₀) ?_
                  show F T513 (mkF m 610 #[.val (.long q1), .second, .val (.int p2), .val (.int p3), .val (.int p4), .val (.int p5), .val (.int nv), .val (.int ng), .val (.int rf), .val (.int fv), .val (.int sv), .val (.int tv), .val (.long u), .second, .val (.long mq), .second, .val (.ref b96), .val (.int (0 : Int32)), .unset, .unset] [(.int nv)])
                  refine hst (fun t₀ k₀ => XS.bipush X513.here hx rfl (hb hby at_610) k₀) ?_
                  show F T513 (mkF m 612 #[.val (.long q1), .second, .val (.int p2), .val (.int p3), .val (.int p4), .val (.int p5), .val (.int nv), .val (.int ng), .val (.int rf), .val (.int fv), .val (.int sv), .val (.int tv), .val (.long u), .second, .val (.long mq), .second, .val (.ref b96), .val (.int (0 : Int32)), .unset, .unset] [(.int (18 : Int32)), (.int nv)])
                  by_cases hc612 : (18 : Int32) < nv
                  · -- pc 612: taken
                    refine hst (fun t₀ k₀ => XS.icmpYes X513.here hx rfl (pc0 := 612) (pc' := 620) rfl (hb hby at_612) rfl (tlt hc612).2.2.1 (by decide) (by decide) k₀) ?_
                    show F T513 (mkF m 620 #[.val (.long q1), .second, .val (.int p2), .val (.int p3), .val (.int p4), .val (.int p5), .val (.int nv), .val (.int ng), .val (.int rf), .val (.int fv), .val (.int sv), .val (.int tv), .val (.long u), .second, .val (.long mq), .second, .val (.ref b96), .val (.int (0 : Int32)), .unset, .unset] [])
                    refine hst (fun t₀ k₀ => X513.ldc2J hx hown (mvT hZ (hw _ (List.mem_of_getElem? (i := 34) rfl))) (g := (mkF m 620 #[.val (.long q1), .second, .val (.int p2), .val (.int p3), .val (.int p4), .val (.int p5), .val (.int nv), .val (.int ng), .val (.int rf), .val (.int fv), .val (.int sv), .val (.int tv), .val (.long u), .second, .val (.long mq), .second, .val (.ref b96), .val (.int (0 : Int32)), .unset, .unset] [])) rfl (hb hby at_620) k₀) ?_
                    show F T513 (mkF m 623 #[.val (.long q1), .second, .val (.int p2), .val (.int p3), .val (.int p4), .val (.int p5), .val (.int nv), .val (.int ng), .val (.int rf), .val (.int fv), .val (.int sv), .val (.int tv), .val (.long u), .second, .val (.long mq), .second, .val (.ref b96), .val (.int (0 : Int32)), .unset, .unset] [(.long (-9223372036854775808 : Int64))])
                    refine hst (fun t₀ k₀ => XS.goto X513.here hx rfl (pc0 := 623) (pc' := 639) rfl (hb hby at_623) (by decide) (by decide) k₀) ?_
                    show F T513 (mkF m 639 #[.val (.long q1), .second, .val (.int p2), .val (.int p3), .val (.int p4), .val (.int p5), .val (.int nv), .val (.int ng), .val (.int rf), .val (.int fv), .val (.int sv), .val (.int tv), .val (.long u), .second, .val (.long mq), .second, .val (.ref b96), .val (.int (0 : Int32)), .unset, .unset] [(.long (-9223372036854775808 : Int64))])
                    refine hst (fun t₀ k₀ => XS.lstore X513.here hx rfl (hb hby at_639) rfl (l' := #[.val (.long q1), .second, .val (.int p2), .val (.int p3), .val (.int p4), .val (.int p5), .val (.int nv), .val (.int ng), .val (.int rf), .val (.int fv), .val (.int sv), .val (.int tv), .val (.long u), .second, .val (.long mq), .second, .val (.ref b96), .val (.int (0 : Int32)), .val (.long (-9223372036854775808 : Int64)), .second]) rfl k₀) ?_
                    show F T513 (mkF m 641 #[.val (.long q1), .second, .val (.int p2), .val (.int p3), .val (.int p4), .val (.int p5), .val (.int nv), .val (.int ng), .val (.int rf), .val (.int fv), .val (.int sv), .val (.int tv), .val (.long u), .second, .val (.long mq), .second, .val (.ref b96), .val (.int (0 : Int32)), .val (.long (-9223372036854775808 : Int64)), .second] [])
                    refine hst (fun t₀ k₀ => XS.aload X513.here hx rfl (hb hby at_641) rfl rfl k₀) ?_
                    show F T513 (mkF m 643 #[.val (.long q1), .second, .val (.int p2), .val (.int p3), .val (.int p4), .val (.int p5), .val (.int nv), .val (.int ng), .val (.int rf), .val (.int fv), .val (.int sv), .val (.int tv), .val (.long u), .second, .val (.long mq), .second, .val (.ref b96), .val (.int (0 : Int32)), .val (.long (-9223372036854775808 : Int64)), .second] [(.ref b96)])
                    refine hst (fun t₀ k₀ => XS.iload X513.here hx rfl (hb hby at_643) rfl k₀) ?_
                    show F T513 (mkF m 645 #[.val (.long q1), .second, .val (.int p2), .val (.int p3), .val (.int p4), .val (.int p5), .val (.int nv), .val (.int ng), .val (.int rf), .val (.int fv), .val (.int sv), .val (.int tv), .val (.long u), .second, .val (.long mq), .second, .val (.ref b96), .val (.int (0 : Int32)), .val (.long (-9223372036854775808 : Int64)), .second] [(.int fv), (.ref b96)])
                    refine hst (fun t₀ k₀ => XS.iload X513.here hx rfl (hb hby at_645) rfl k₀) ?_
                    show F T513 (mkF m 647 #[.val (.long q1), .second, .val (.int p2), .val (.int p3), .val (.int p4), .val (.int p5), .val (.int nv), .val (.int ng), .val (.int rf), .val (.int fv), .val (.int sv), .val (.int tv), .val (.long u), .second, .val (.long mq), .second, .val (.ref b96), .val (.int (0 : Int32)), .val (.long (-9223372036854775808 : Int64)), .second] [(.int tv), (.int fv), (.ref b96)])
                    obtain ⟨v647, T647, Lc647, X647, hQ647, st647⟩ := own_callS X513 hx hZ hown (y := (⟨"com/example/leafline/leafline/table/IntegerValue", "parsePlain", "([BII)J"⟩ : MethodName)) (hw _ (List.mem_of_getElem? (i := 29) rfl)) (hw _ (List.mem_of_getElem? (i := 30) rfl)) (hw _ (List.mem_of_getElem? (i := 31) rfl)) (hw _ (List.mem_of_getElem? (i := 32) rfl)) (by decide) rfl (rm3 l Z a0 hw [] b96 fv tv (own_pk B s' n M 20) 26 f (s' + n) T513.heap n0 Z0_p513 q1_513c hf ktv (by omega) (by omega) (by decide)) (by decide) (by decide) (g := (mkF m 647 #[.val (.long q1), .second, .val (.int p2), .val (.int p3), .val (.int p4), .val (.int p5), .val (.int nv), .val (.int ng), .val (.int rf), .val (.int fv), .val (.int sv), .val (.int tv), .val (.long u), .second, .val (.long mq), .second, .val (.ref b96), .val (.int (0 : Int32)), .val (.long (-9223372036854775808 : Int64)), .second] [(.int tv), (.int fv), (.ref b96)])) rfl (by rw [hml]; rfl) (argsL := [(.ref b96), (.int fv), (.int tv)]) (rest := []) (lenOf pd_1 rfl) rfl rfl (W := 0) (by show 2 * 0 + _ ≤ _; exact Nat.le_of_eq rfl) (hb hby at_647) (by decide) (by decide)
                    obtain ⟨rfl, Nq647, he647⟩ := hQ647
                    have N647 := Fr.app N513 Nq647
                    refine hst st647 ?_
                    show F T647 (mkF m 650 #[.val (.long q1), .second, .val (.int p2), .val (.int p3), .val (.int p4), .val (.int p5), .val (.int nv), .val (.int ng), .val (.int rf), .val (.int fv), .val (.int sv), .val (.int tv), .val (.long u), .second, .val (.long mq), .second, .val (.ref b96), .val (.int (0 : Int32)), .val (.long (-9223372036854775808 : Int64)), .second] [(.long (own_pp (own_pk B s' n M 20) f (s' + n)))])
                    refine hst (fun t₀ k₀ => XS.lload X647.here hx rfl (hb hby at_650) rfl k₀) ?_
                    show F T647 (mkF m 652 #[.val (.long q1), .second, .val (.int p2), .val (.int p3), .val (.int p4), .val (.int p5), .val (.int nv), .val (.int ng), .val (.int rf), .val (.int fv), .val (.int sv), .val (.int tv), .val (.long u), .second, .val (.long mq), .second, .val (.ref b96), .val (.int (0 : Int32)), .val (.long (-9223372036854775808 : Int64)), .second] [(.long (-9223372036854775808 : Int64)), (.long (own_pp (own_pk B s' n M 20) f (s' + n)))])
                    refine hst (fun t₀ k₀ => XS.lcmp X647.here hx rfl (hb hby at_652) rfl k₀) ?_
                    show F T647 (mkF m 653 #[.val (.long q1), .second, .val (.int p2), .val (.int p3), .val (.int p4), .val (.int p5), .val (.int nv), .val (.int ng), .val (.int rf), .val (.int fv), .val (.int sv), .val (.int tv), .val (.long u), .second, .val (.long mq), .second, .val (.ref b96), .val (.int (0 : Int32)), .val (.long (-9223372036854775808 : Int64)), .second] [(.int (lcmpW (own_pp (own_pk B s' n M 20) f (s' + n)) (-9223372036854775808 : Int64)))])
                    refine hst (fun t₀ k₀ => XS.ifNo X647.here hx rfl (hb hby at_653) rfl ((if0 _ _).trans (teq ((lw_eq _ _).mpr (hlaw.1 (Or.inr (Or.inl (by rw [own_lt32] at hc612; omega)))))).2) k₀) ?_
                    show F T647 (mkF m 656 #[.val (.long q1), .second, .val (.int p2), .val (.int p3), .val (.int p4), .val (.int p5), .val (.int nv), .val (.int ng), .val (.int rf), .val (.int fv), .val (.int sv), .val (.int tv), .val (.long u), .second, .val (.long mq), .second, .val (.ref b96), .val (.int (0 : Int32)), .val (.long (-9223372036854775808 : Int64)), .second] [])
                    refine hst (fun t₀ k₀ => XS.iconst X647.here hx rfl (hb hby at_656) k₀) ?_
                    show F T647 (mkF m 657 #[.val (.long q1), .second, .val (.int p2), .val (.int p3), .val (.int p4), .val (.int p5), .val (.int nv), .val (.int ng), .val (.int rf), .val (.int fv), .val (.int sv), .val (.int tv), .val (.long u), .second, .val (.long mq), .second, .val (.ref b96), .val (.int (0 : Int32)), .val (.long (-9223372036854775808 : Int64)), .second] [(.int (1 : Int32))])
                    refine hst (fun t₀ k₀ => XS.goto X647.here hx rfl (pc0 := 657) (pc' := 661) rfl (hb hby at_657) (by decide) (by decide) k₀) ?_
                    show F T647 (mkF m 661 #[.val (.long q1), .second, .val (.int p2), .val (.int p3), .val (.int p4), .val (.int p5), .val (.int nv), .val (.int ng), .val (.int rf), .val (.int fv), .val (.int sv), .val (.int tv), .val (.long u), .second, .val (.long mq), .second, .val (.ref b96), .val (.int (0 : Int32)), .val (.long (-9223372036854775808 : Int64)), .second] [(.int (1 : Int32))])
                    rw [hF]
                    refine own_retN X647 hx hret (by simp) hlk (hb hby at_661) (by decide) (by decide) ?_
                    rw [he647]
                    exact ⟨rfl, N647⟩
                  · -- pc 612: not taken
                    refine hst (fun t₀ k₀ => XS.icmpNo X513.here hx rfl (hb hby at_612) rfl (flt hc612).2.2.1 k₀) ?_
                    show F T513 (mkF m 615 #[.val (.long q1), .second, .val (.int p2), .val (.int p3), .val (.int p4), .val (.int p5), .val (.int nv), .val (.int ng), .val (.int rf), .val (.int fv), .val (.int sv), .val (.int tv), .val (.long u), .second, .val (.long mq), .second, .val (.ref b96), .val (.int (0 : Int32)), .unset, .unset] [])
                    refine hst (fun t₀ k₀ => XS.iload X513.here hx rfl (hb hby at_615) rfl k₀) ?_
                    show F T513 (mkF m 617 #[.val (.long q1), .second, .val (.int p2), .val (.int p3), .val (.int p4), .val (.int p5), .val (.int nv), .val (.int ng), .val (.int rf), .val (.int fv), .val (.int sv), .val (.int tv), .val (.long u), .second, .val (.long mq), .second, .val (.ref b96), .val (.int (0 : Int32)), .unset, .unset] [(.int (0 : Int32))])
                    refine hst (fun t₀ k₀ => XS.ifYes X513.here hx rfl (pc0 := 617) (pc' := 626) rfl (hb hby at_617) rfl ((if0 _ _).trans (teq (by decide)).1) (by decide) (by decide) k₀) ?_
                    show F T513 (mkF m 626 #[.val (.long q1), .second, .val (.int p2), .val (.int p3), .val (.int p4), .val (.int p5), .val (.int nv), .val (.int ng), .val (.int rf), .val (.int fv), .val (.int sv), .val (.int tv), .val (.long u), .second, .val (.long mq), .second, .val (.ref b96), .val (.int (0 : Int32)), .unset, .unset] [])
                    refine hst (fun t₀ k₀ => XS.iload X513.here hx rfl (hb hby at_626) rfl k₀) ?_
                    show F T513 (mkF m 628 #[.val (.long q1), .second, .val (.int p2), .val (.int p3), .val (.int p4), .val (.int p5), .val (.int nv), .val (.int ng), .val (.int rf), .val (.int fv), .val (.int sv), .val (.int tv), .val (.long u), .second, .val (.long mq), .second, .val (.ref b96), .val (.int (0 : Int32)), .unset, .unset] [(.int ng)])
                    by_cases hc628 : ng = (0 : Int32)
                    · -- pc 628: taken
                      refine hst (fun t₀ k₀ => XS.ifYes X513.here hx rfl (pc0 := 628) (pc' := 637) rfl (hb hby at_628) rfl ((if0 _ _).trans (teq hc628).1) (by decide) (by decide) k₀) ?_
                      show F T513 (mkF m 637 #[.val (.long q1), .second, .val (.int p2), .val (.int p3), .val (.int p4), .val (.int p5), .val (.int nv), .val (.int ng), .val (.int rf), .val (.int fv), .val (.int sv), .val (.int tv), .val (.long u), .second, .val (.long mq), .second, .val (.ref b96), .val (.int (0 : Int32)), .unset, .unset] [])
                      refine hst (fun t₀ k₀ => XS.lload X513.here hx rfl (hb hby at_637) rfl k₀) ?_
                      show F T513 (mkF m 639 #[.val (.long q1), .second, .val (.int p2), .val (.int p3), .val (.int p4), .val (.int p5), .val (.int nv), .val (.int ng), .val (.int rf), .val (.int fv), .val (.int sv), .val (.int tv), .val (.long u), .second, .val (.long mq), .second, .val (.ref b96), .val (.int (0 : Int32)), .unset, .unset] [(.long mq)])
                      refine hst (fun t₀ k₀ => XS.lstore X513.here hx rfl (hb hby at_639) rfl (l' := #[.val (.long q1), .second, .val (.int p2), .val (.int p3), .val (.int p4), .val (.int p5), .val (.int nv), .val (.int ng), .val (.int rf), .val (.int fv), .val (.int sv), .val (.int tv), .val (.long u), .second, .val (.long mq), .second, .val (.ref b96), .val (.int (0 : Int32)), .val (.long mq), .second]) rfl k₀) ?_
                      show F T513 (mkF m 641 #[.val (.long q1), .second, .val (.int p2), .val (.int p3), .val (.int p4), .val (.int p5), .val (.int nv), .val (.int ng), .val (.int rf), .val (.int fv), .val (.int sv), .val (.int tv), .val (.long u), .second, .val (.long mq), .second, .val (.ref b96), .val (.int (0 : Int32)), .val (.long mq), .second] [])
                      refine hst (fun t₀ k₀ => XS.aload X513.here hx rfl (hb hby at_641) rfl rfl k₀) ?_
                      show F T513 (mkF m 643 #[.val (.long q1), .second, .val (.int p2), .val (.int p3), .val (.int p4), .val (.int p5), .val (.int nv), .val (.int ng), .val (.int rf), .val (.int fv), .val (.int sv), .val (.int tv), .val (.long u), .second, .val (.long mq), .second, .val (.ref b96), .val (.int (0 : Int32)), .val (.long mq), .second] [(.ref b96)])
                      refine hst (fun t₀ k₀ => XS.iload X513.here hx rfl (hb hby at_643) rfl k₀) ?_
                      show F T513 (mkF m 645 #[.val (.long q1), .second, .val (.int p2), .val (.int p3), .val (.int p4), .val (.int p5), .val (.int nv), .val (.int ng), .val (.int rf), .val (.int fv), .val (.int sv), .val (.int tv), .val (.long u), .second, .val (.long mq), .second, .val (.ref b96), .val (.int (0 : Int32)), .val (.long mq), .second] [(.int fv), (.ref b96)])
                      refine hst (fun t₀ k₀ => XS.iload X513.here hx rfl (hb hby at_645) rfl k₀) ?_
                      show F T513 (mkF m 647 #[.val (.long q1), .second, .val (.int p2), .val (.int p3), .val (.int p4), .val (.int p5), .val (.int nv), .val (.int ng), .val (.int rf), .val (.int fv), .val (.int sv), .val (.int tv), .val (.long u), .second, .val (.long mq), .second, .val (.ref b96), .val (.int (0 : Int32)), .val (.long mq), .second] [(.int tv), (.int fv), (.ref b96)])
                      obtain ⟨v647, T647, Lc647, X647, hQ647, st647⟩ := own_callS X513 hx hZ hown (y := (⟨"com/example/leafline/leafline/table/IntegerValue", "parsePlain", "([BII)J"⟩ : MethodName)) (hw _ (List.mem_of_getElem? (i := 29) rfl)) (hw _ (List.mem_of_getElem? (i := 30) rfl)) (hw _ (List.mem_of_getElem? (i := 31) rfl)) (hw _ (List.mem_of_getElem? (i := 32) rfl)) (by decide) rfl (rm3 l Z a0 hw [] b96 fv tv (own_pk B s' n M 20) 26 f (s' + n) T513.heap n0 Z0_p513 q1_513c hf ktv (by omega) (by omega) (by decide)) (by decide) (by decide) (g := (mkF m 647 #[.val (.long q1), .second, .val (.int p2), .val (.int p3), .val (.int p4), .val (.int p5), .val (.int nv), .val (.int ng), .val (.int rf), .val (.int fv), .val (.int sv), .val (.int tv), .val (.long u), .second, .val (.long mq), .second, .val (.ref b96), .val (.int (0 : Int32)), .val (.long mq), .second] [(.int tv), (.int fv), (.ref b96)])) rfl (by rw [hml]; rfl) (argsL := [(.ref b96), (.int fv), (.int tv)]) (rest := []) (lenOf pd_1 rfl) rfl rfl (W := 0) (by show 2 * 0 + _ ≤ _; exact Nat.le_of_eq rfl) (hb hby at_647) (by decide) (by decide)
                      obtain ⟨rfl, Nq647, he647⟩ := hQ647
                      have N647 := Fr.app N513 Nq647
                      refine hst st647 ?_
                      show F T647 (mkF m 650 #[.val (.long q1), .second, .val (.int p2), .val (.int p3), .val (.int p4), .val (.int p5), .val (.int nv), .val (.int ng), .val (.int rf), .val (.int fv), .val (.int sv), .val (.int tv), .val (.long u), .second, .val (.long mq), .second, .val (.ref b96), .val (.int (0 : Int32)), .val (.long mq), .second] [(.long (own_pp (own_pk B s' n M 20) f (s' + n)))])
                      refine hst (fun t₀ k₀ => XS.lload X647.here hx rfl (hb hby at_650) rfl k₀) ?_
                      show F T647 (mkF m 652 #[.val (.long q1), .second, .val (.int p2), .val (.int p3), .val (.int p4), .val (.int p5), .val (.int nv), .val (.int ng), .val (.int rf), .val (.int fv), .val (.int sv), .val (.int tv), .val (.long u), .second, .val (.long mq), .second, .val (.ref b96), .val (.int (0 : Int32)), .val (.long mq), .second] [(.long mq), (.long (own_pp (own_pk B s' n M 20) f (s' + n)))])
                      refine hst (fun t₀ k₀ => XS.lcmp X647.here hx rfl (hb hby at_652) rfl k₀) ?_
                      show F T647 (mkF m 653 #[.val (.long q1), .second, .val (.int p2), .val (.int p3), .val (.int p4), .val (.int p5), .val (.int nv), .val (.int ng), .val (.int rf), .val (.int fv), .val (.int sv), .val (.int tv), .val (.long u), .second, .val (.long mq), .second, .val (.ref b96), .val (.int (0 : Int32)), .val (.long mq), .second] [(.int (lcmpW (own_pp (own_pk B s' n M 20) f (s' + n)) mq))])
                      refine hst (fun t₀ k₀ => XS.ifNo X647.here hx rfl (hb hby at_653) rfl ((if0 _ _).trans (teq ((lw_eq _ _).mpr (by rw [hlaw.2 mq (by have z : ¬ nv.toInt = (0 : Int32).toInt := fun q => hc605 (Int32.toInt_inj.mp q); omega) (by rw [own_lt32] at hc612; omega) rfl (hM2 (by rw [own_lt32] at hc612; omega)) hM]; first | rw [if_pos hc628] | rw [if_neg hc628]))).2) k₀) ?_
                      show F T647 (mkF m 656 #[.val (.long q1), .second, .val (.int p2), .val (.int p3), .val (.int p4), .val (.int p5), .val (.int nv), .val (.int ng), .val (.int rf), .val (.int fv), .val (.int sv), .val (.int tv), .val (.long u), .second, .val (.long mq), .second, .val (.ref b96), .val (.int (0 : Int32)), .val (.long mq), .second] [])
                      refine hst (fun t₀ k₀ => XS.iconst X647.here hx rfl (hb hby at_656) k₀) ?_
                      show F T647 (mkF m 657 #[.val (.long q1), .second, .val (.int p2), .val (.int p3), .val (.int p4), .val (.int p5), .val (.int nv), .val (.int ng), .val (.int rf), .val (.int fv), .val (.int sv), .val (.int tv), .val (.long u), .second, .val (.long mq), .second, .val (.ref b96), .val (.int (0 : Int32)), .val (.long mq), .second] [(.int (1 : Int32))])
                      refine hst (fun t₀ k₀ => XS.goto X647.here hx rfl (pc0 := 657) (pc' := 661) rfl (hb hby at_657) (by decide) (by decide) k₀) ?_
                      show F T647 (mkF m 661 #[.val (.long q1), .second, .val (.int p2), .val (.int p3), .val (.int p4), .val (.int p5), .val (.int nv), .val (.int ng), .val (.int rf), .val (.int fv), .val (.int sv), .val (.int tv), .val (.long u), .second, .val (.long mq), .second, .val (.ref b96), .val (.int (0 : Int32)), .val (.long mq), .second] [(.int (1 : Int32))])
                      rw [hF]
                      refine own_retN X647 hx hret (by simp) hlk (hb hby at_661) (by decide) (by decide) ?_
                      rw [he647]
                      exact ⟨rfl, N647⟩
                    · -- pc 628: not taken
                      refine hst (fun t₀ k₀ => XS.ifNo X513.here hx rfl (hb hby at_628) rfl ((if0 _ _).trans (feq hc628).1) k₀) ?_
                      show F T513 (mkF m 631 #[.val (.long q1), .second, .val (.int p2), .val (.int p3), .val (.int p4), .val (.int p5), .val (.int nv), .val (.int ng), .val (.int rf), .val (.int fv), .val (.int sv), .val (.int tv), .val (.long u), .second, .val (.long mq), .second, .val (.ref b96), .val (.int (0 : Int32)), .unset, .unset] [])
                      refine hst (fun t₀ k₀ => XS.lload X513.here hx rfl (hb hby at_631) rfl k₀) ?_
                      show F T513 (mkF m 633 #[.val (.long q1), .second, .val (.int p2), .val (.int p3), .val (.int p4), .val (.int p5), .val (.int nv), .val (.int ng), .val (.int rf), .val (.int fv), .val (.int sv), .val (.int tv), .val (.long u), .second, .val (.long mq), .second, .val (.ref b96), .val (.int (0 : Int32)), .unset, .unset] [(.long mq)])
                      refine hst (fun t₀ k₀ => XS.lneg X513.here hx rfl (hb hby at_633) rfl k₀) ?_
                      show F T513 (mkF m 634 #[.val (.long q1), .second, .val (.int p2), .val (.int p3), .val (.int p4), .val (.int p5), .val (.int nv), .val (.int ng), .val (.int rf), .val (.int fv), .val (.int sv), .val (.int tv), .val (.long u), .second, .val (.long mq), .second, .val (.ref b96), .val (.int (0 : Int32)), .unset, .unset] [(.long (-mq))])
                      refine hst (fun t₀ k₀ => XS.goto X513.here hx rfl (pc0 := 634) (pc' := 639) rfl (hb hby at_634) (by decide) (by decide) k₀) ?_
                      show F T513 (mkF m 639 #[.val (.long q1), .second, .val (.int p2), .val (.int p3), .val (.int p4), .val (.int p5), .val (.int nv), .val (.int ng), .val (.int rf), .val (.int fv), .val (.int sv), .val (.int tv), .val (.long u), .second, .val (.long mq), .second, .val (.ref b96), .val (.int (0 : Int32)), .unset, .unset] [(.long (-mq))])
                      refine hst (fun t₀ k₀ => XS.lstore X513.here hx rfl (hb hby at_639) rfl (l' := #[.val (.long q1), .second, .val (.int p2), .val (.int p3), .val (.int p4), .val (.int p5), .val (.int nv), .val (.int ng), .val (.int rf), .val (.int fv), .val (.int sv), .val (.int tv), .val (.long u), .second, .val (.long mq), .second, .val (.ref b96), .val (.int (0 : Int32)), .val (.long (-mq)), .second]) rfl k₀) ?_
                      show F T513 (mkF m 641 #[.val (.long q1), .second, .val (.int p2), .val (.int p3), .val (.int p4), .val (.int p5), .val (.int nv), .val (.int ng), .val (.int rf), .val (.int fv), .val (.int sv), .val (.int tv), .val (.long u), .second, .val (.long mq), .second, .val (.ref b96), .val (.int (0 : Int32)), .val (.long (-mq)), .second] [])
                      refine hst (fun t₀ k₀ => XS.aload X513.here hx rfl (hb hby at_641) rfl rfl k₀) ?_
                      show F T513 (mkF m 643 #[.val (.long q1), .second, .val (.int p2), .val (.int p3), .val (.int p4), .val (.int p5), .val (.int nv), .val (.int ng), .val (.int rf), .val (.int fv), .val (.int sv), .val (.int tv), .val (.long u), .second, .val (.long mq), .second, .val (.ref b96), .val (.int (0 : Int32)), .val (.long (-mq)), .second] [(.ref b96)])
                      refine hst (fun t₀ k₀ => XS.iload X513.here hx rfl (hb hby at_643) rfl k₀) ?_
                      show F T513 (mkF m 645 #[.val (.long q1), .second, .val (.int p2), .val (.int p3), .val (.int p4), .val (.int p5), .val (.int nv), .val (.int ng), .val (.int rf), .val (.int fv), .val (.int sv), .val (.int tv), .val (.long u), .second, .val (.long mq), .second, .val (.ref b96), .val (.int (0 : Int32)), .val (.long (-mq)), .second] [(.int fv), (.ref b96)])
                      refine hst (fun t₀ k₀ => XS.iload X513.here hx rfl (hb hby at_645) rfl k₀) ?_
                      show F T513 (mkF m 647 #[.val (.long q1), .second, .val (.int p2), .val (.int p3), .val (.int p4), .val (.int p5), .val (.int nv), .val (.int ng), .val (.int rf), .val (.int fv), .val (.int sv), .val (.int tv), .val (.long u), .second, .val (.long mq), .second, .val (.ref b96), .val (.int (0 : Int32)), .val (.long (-mq)), .second] [(.int tv), (.int fv), (.ref b96)])
                      obtain ⟨v647, T647, Lc647, X647, hQ647, st647⟩ := own_callS X513 hx hZ hown (y := (⟨"com/example/leafline/leafline/table/IntegerValue", "parsePlain", "([BII)J"⟩ : MethodName)) (hw _ (List.mem_of_getElem? (i := 29) rfl)) (hw _ (List.mem_of_getElem? (i := 30) rfl)) (hw _ (List.mem_of_getElem? (i := 31) rfl)) (hw _ (List.mem_of_getElem? (i := 32) rfl)) (by decide) rfl (rm3 l Z a0 hw [] b96 fv tv (own_pk B s' n M 20) 26 f (s' + n) T513.heap n0 Z0_p513 q1_513c hf ktv (by omega) (by omega) (by decide)) (by decide) (by decide) (g := (mkF m 647 #[.val (.long q1), .second, .val (.int p2), .val (.int p3), .val (.int p4), .val (.int p5), .val (.int nv), .val (.int ng), .val (.int rf), .val (.int fv), .val (.int sv), .val (.int tv), .val (.long u), .second, .val (.long mq), .second, .val (.ref b96), .val (.int (0 : Int32)), .val (.long (-mq)), .second] [(.int tv), (.int fv), (.ref b96)])) rfl (by rw [hml]; rfl) (argsL := [(.ref b96), (.int fv), (.int tv)]) (rest := []) (lenOf pd_1 rfl) rfl rfl (W := 0) (by show 2 * 0 + _ ≤ _; exact Nat.le_of_eq rfl) (hb hby at_647) (by decide) (by decide)
                      obtain ⟨rfl, Nq647, he647⟩ := hQ647
                      have N647 := Fr.app N513 Nq647
                      refine hst st647 ?_
                      show F T647 (mkF m 650 #[.val (.long q1), .second, .val (.int p2), .val (.int p3), .val (.int p4), .val (.int p5), .val (.int nv), .val (.int ng), .val (.int rf), .val (.int fv), .val (.int sv), .val (.int tv), .val (.long u), .second, .val (.long mq), .second, .val (.ref b96), .val (.int (0 : Int32)), .val (.long (-mq)), .second] [(.long (own_pp (own_pk B s' n M 20) f (s' + n)))])
                      refine hst (fun t₀ k₀ => XS.lload X647.here hx rfl (hb hby at_650) rfl k₀) ?_
                      show F T647 (mkF m 652 #[.val (.long q1), .second, .val (.int p2), .val (.int p3), .val (.int p4), .val (.int p5), .val (.int nv), .val (.int ng), .val (.int rf), .val (.int fv), .val (.int sv), .val (.int tv), .val (.long u), .second, .val (.long mq), .second, .val (.ref b96), .val (.int (0 : Int32)), .val (.long (-mq)), .second] [(.long (-mq)), (.long (own_pp (own_pk B s' n M 20) f (s' + n)))])
                      refine hst (fun t₀ k₀ => XS.lcmp X647.here hx rfl (hb hby at_652) rfl k₀) ?_
                      show F T647 (mkF m 653 #[.val (.long q1), .second, .val (.int p2), .val (.int p3), .val (.int p4), .val (.int p5), .val (.int nv), .val (.int ng), .val (.int rf), .val (.int fv), .val (.int sv), .val (.int tv), .val (.long u), .second, .val (.long mq), .second, .val (.ref b96), .val (.int (0 : Int32)), .val (.long (-mq)), .second] [(.int (lcmpW (own_pp (own_pk B s' n M 20) f (s' + n)) (-mq)))])
                      refine hst (fun t₀ k₀ => XS.ifNo X647.here hx rfl (hb hby at_653) rfl ((if0 _ _).trans (teq ((lw_eq _ _).mpr (by rw [hlaw.2 mq (by have z : ¬ nv.toInt = (0 : Int32).toInt := fun q => hc605 (Int32.toInt_inj.mp q); omega) (by rw [own_lt32] at hc612; omega) rfl (hM2 (by rw [own_lt32] at hc612; omega)) hM]; first | rw [if_pos hc628] | rw [if_neg hc628]))).2) k₀) ?_
                      show F T647 (mkF m 656 #[.val (.long q1), .second, .val (.int p2), .val (.int p3), .val (.int p4), .val (.int p5), .val (.int nv), .val (.int ng), .val (.int rf), .val (.int fv), .val (.int sv), .val (.int tv), .val (.long u), .second, .val (.long mq), .second, .val (.ref b96), .val (.int (0 : Int32)), .val (.long (-mq)), .second] [])
                      refine hst (fun t₀ k₀ => XS.iconst X647.here hx rfl (hb hby at_656) k₀) ?_
                      show F T647 (mkF m 657 #[.val (.long q1), .second, .val (.int p2), .val (.int p3), .val (.int p4), .val (.int p5), .val (.int nv), .val (.int ng), .val (.int rf), .val (.int fv), .val (.int sv), .val (.int tv), .val (.long u), .second, .val (.long mq), .second, .val (.ref b96), .val (.int (0 : Int32)), .val (.long (-mq)), .second] [(.int (1 : Int32))])
                      refine hst (fun t₀ k₀ => XS.goto X647.here hx rfl (pc0 := 657) (pc' := 661) rfl (hb hby at_657) (by decide) (by decide) k₀) ?_
                      show F T647 (mkF m 661 #[.val (.long q1), .second, .val (.int p2), .val (.int p3), .val (.int p4), .val (.int p5), .val (.int nv), .val (.int ng), .val (.int rf), .val (.int fv), .val (.int sv), .val (.int tv), .val (.long u), .second, .val (.long mq), .second, .val (.ref b96), .val (.int (0 : Int32)), .val (.long (-mq)), .second] [(.int (1 : Int32))])
                      rw [hF]
                      refine own_retN X647 hx hret (by simp) hlk (hb hby at_661) (by decide) (by decide) ?_
                      rw [he647]
                      exact ⟨rfl, N647⟩
          refine hst (fun t₀ k₀ => XS.iload X247.here hx rfl (hb hby at_250) rfl k₀) ?_
          show F T247 (mkF m 252 #[.val (.long q1), .second, .val (.int p2), .val (.int p3), .val (.int p4), .val (.int p5), .val (.int nv), .val (.int ng), .val (.int rf), .val (.int fv), .val (.int sv), .val (.int tv), .val (.long u), .second, .val (.long mq), .second, .val (.ref b96), .unset, .unset, .unset] [(.int ng)])
          by_cases hc252 : ng = (0 : Int32)
          · -- pc 252: taken
            refine hst (fun t₀ k₀ => XS.ifYes X247.here hx rfl (pc0 := 252) (pc' := 262) rfl (hb hby at_252) rfl ((if0 _ _).trans (teq hc252).1) (by decide) (by decide) k₀) ?_
            show F T247 (mkF m 262 #[.val (.long q1), .second, .val (.int p2), .val (.int p3), .val (.int p4), .val (.int p5), .val (.int nv), .val (.int ng), .val (.int rf), .val (.int fv), .val (.int sv), .val (.int tv), .val (.long u), .second, .val (.long mq), .second, .val (.ref b96), .unset, .unset, .unset] [])
            exact J262 (own_pre G 26) T247 _ X247 _ e247 N247 Z0_p247 A_b96_p247c (fun q => absurd (hc252.symm.trans q).symm n10)
          · -- pc 252: not taken
            refine hst (fun t₀ k₀ => XS.ifNo X247.here hx rfl (hb hby at_252) rfl ((if0 _ _).trans (feq hc252).1) k₀) ?_
            show F T247 (mkF m 255 #[.val (.long q1), .second, .val (.int p2), .val (.int p3), .val (.int p4), .val (.int p5), .val (.int nv), .val (.int ng), .val (.int rf), .val (.int fv), .val (.int sv), .val (.int tv), .val (.long u), .second, .val (.long mq), .second, .val (.ref b96), .unset, .unset, .unset] [])
            refine hst (fun t₀ k₀ => XS.aload X247.here hx rfl (hb hby at_255) rfl rfl k₀) ?_
            show F T247 (mkF m 257 #[.val (.long q1), .second, .val (.int p2), .val (.int p3), .val (.int p4), .val (.int p5), .val (.int nv), .val (.int ng), .val (.int rf), .val (.int fv), .val (.int sv), .val (.int tv), .val (.long u), .second, .val (.long mq), .second, .val (.ref b96), .unset, .unset, .unset] [(.ref b96)])
            refine hst (fun t₀ k₀ => XS.iload X247.here hx rfl (hb hby at_257) rfl k₀) ?_
            show F T247 (mkF m 259 #[.val (.long q1), .second, .val (.int p2), .val (.int p3), .val (.int p4), .val (.int p5), .val (.int nv), .val (.int ng), .val (.int rf), .val (.int fv), .val (.int sv), .val (.int tv), .val (.long u), .second, .val (.long mq), .second, .val (.ref b96), .unset, .unset, .unset] [(.int fv), (.ref b96)])
            refine hst (fun t₀ k₀ => XS.bipush X247.here hx rfl (hb hby at_259) k₀) ?_
            show F T247 (mkF m 261 #[.val (.long q1), .second, .val (.int p2), .val (.int p3), .val (.int p4), .val (.int p5), .val (.int nv), .val (.int ng), .val (.int rf), .val (.int fv), .val (.int sv), .val (.int tv), .val (.long u), .second, .val (.long mq), .second, .val (.ref b96), .unset, .unset, .unset] [(.int (45 : Int32)), (.int fv), (.ref b96)])
            obtain ⟨T261, h261, X261, e261, W261, st261⟩ := own_bastore X247 hx hZ e247 A_b96_p247c (own_idx fv 26 (by omega) (by omega)) (g := (mkF m 261 #[.val (.long q1), .second, .val (.int p2), .val (.int p3), .val (.int p4), .val (.int p5), .val (.int nv), .val (.int ng), .val (.int rf), .val (.int fv), .val (.int sv), .val (.int tv), .val (.long u), .second, .val (.long mq), .second, .val (.ref b96), .unset, .unset, .unset] [(.int (45 : Int32)), (.int fv), (.ref b96)])) rfl rfl (hb hby at_261)
            have N261 := Fr.snoc X261 N247 ge_b96
            have A_b96_p261 : own_A Z h261 b96 .byte 26 (fun i => if i = Int32.toNatClampNeg fv then (.int (nar .byte (45 : Int32))) else (fun j => .int (own_pre G 26 j)) i) := A_b96_p247c.set W261
            have Z0_p261 : n0 ≤ h261.size := Nat.le_trans Z0_p247 (Keep.of_wr W261).1
            refine hst st261 ?_
            have A_b96_p261c : own_A Z h261 b96 .byte 26 (fun j => .int (if j = f then nar .byte 45 else own_pre G 26 j)) := own_A.congr A_b96_p261 (fun j hj => by rw [own_clamp fv f hf]; split <;> rfl)
            show F T261 (mkF m 262 #[.val (.long q1), .second, .val (.int p2), .val (.int p3), .val (.int p4), .val (.int p5), .val (.int nv), .val (.int ng), .val (.int rf), .val (.int fv), .val (.int sv), .val (.int tv), .val (.long u), .second, .val (.long mq), .second, .val (.ref b96), .unset, .unset, .unset] [])
            exact J262 (fun j => if j = f then nar .byte 45 else own_pre G 26 j) T261 _ X261 _ e261 N261 Z0_p261 A_b96_p261c (fun _ => by (try dsimp only); rw [if_pos rfl]; decide)
        refine hst (fun t₀ k₀ => XS.iload XI.here hx rfl (hb hby at_72) rfl k₀) ?_
        show F s₁ (mkF m 74 #[.val (.long q1), .second, .val (.int p2), .val (.int p3), .val (.int p4), .val (.int p5), .val (.int nv), .val (.int ng), .val (.int rf), .val (.int fv), .val (.int sv), .val (.int tv), .val (.long u), .second, .unset, .unset, .unset, .unset, .unset, .unset] [(.int nv)])
        refine hst (fun t₀ k₀ => XS.bipush XI.here hx rfl (hb hby at_74) k₀) ?_
        show F s₁ (mkF m 76 #[.val (.long q1), .second, .val (.int p2), .val (.int p3), .val (.int p4), .val (.int p5), .val (.int nv), .val (.int ng), .val (.int rf), .val (.int fv), .val (.int sv), .val (.int tv), .val (.long u), .second, .unset, .unset, .unset, .unset, .unset, .unset] [(.int (18 : Int32)), (.int nv)])
        by_cases hc76 : (18 : Int32) < nv
        · -- pc 76: taken
          refine hst (fun t₀ k₀ => XS.icmpYes XI.here hx rfl (pc0 := 76) (pc' := 90) rfl (hb hby at_76) rfl (tlt hc76).2.2.1 (by decide) (by decide) k₀) ?_
          show F s₁ (mkF m 90 #[.val (.long q1), .second, .val (.int p2), .val (.int p3), .val (.int p4), .val (.int p5), .val (.int nv), .val (.int ng), .val (.int rf), .val (.int fv), .val (.int sv), .val (.int tv), .val (.long u), .second, .unset, .unset, .unset, .unset, .unset, .unset] [])
          refine hst (fun t₀ k₀ => XS.lload XI.here hx rfl (hb hby at_90) rfl k₀) ?_
          show F s₁ (mkF m 92 #[.val (.long q1), .second, .val (.int p2), .val (.int p3), .val (.int p4), .val (.int p5), .val (.int nv), .val (.int ng), .val (.int rf), .val (.int fv), .val (.int sv), .val (.int tv), .val (.long u), .second, .unset, .unset, .unset, .unset, .unset, .unset] [(.long u)])
          refine hst (fun t₀ k₀ => XS.lstore XI.here hx rfl (hb hby at_92) rfl (l' := #[.val (.long q1), .second, .val (.int p2), .val (.int p3), .val (.int p4), .val (.int p5), .val (.int nv), .val (.int ng), .val (.int rf), .val (.int fv), .val (.int sv), .val (.int tv), .val (.long u), .second, .val (.long u), .second, .unset, .unset, .unset, .unset]) rfl k₀) ?_
          show F s₁ (mkF m 94 #[.val (.long q1), .second, .val (.int p2), .val (.int p3), .val (.int p4), .val (.int p5), .val (.int nv), .val (.int ng), .val (.int rf), .val (.int fv), .val (.int sv), .val (.int tv), .val (.long u), .second, .val (.long u), .second, .unset, .unset, .unset, .unset] [])
          exact J94 s₁ _ (XI.more (by decide) (by decide)) _ eI NI Z0 _ U hU (fun q => absurd q (by rw [own_lt32] at hc76; omega))
        · -- pc 76: not taken
          refine hst (fun t₀ k₀ => XS.icmpNo XI.here hx rfl (hb hby at_76) rfl (flt hc76).2.2.1 k₀) ?_
          show F s₁ (mkF m 79 #[.val (.long q1), .second, .val (.int p2), .val (.int p3), .val (.int p4), .val (.int p5), .val (.int nv), .val (.int ng), .val (.int rf), .val (.int fv), .val (.int sv), .val (.int tv), .val (.long u), .second, .unset, .unset, .unset, .unset, .unset, .unset] [])
          refine hst (fun t₀ k₀ => XS.lload XI.here hx rfl (hb hby at_79) rfl k₀) ?_
          show F s₁ (mkF m 81 #[.val (.long q1), .second, .val (.int p2), .val (.int p3), .val (.int p4), .val (.int p5), .val (.int nv), .val (.int ng), .val (.int rf), .val (.int fv), .val (.int sv), .val (.int tv), .val (.long u), .second, .unset, .unset, .unset, .unset, .unset, .unset] [(.long u)])
          refine hst (fun t₀ k₀ => XS.iload XI.here hx rfl (hb hby at_81) rfl k₀) ?_
          show F s₁ (mkF m 83 #[.val (.long q1), .second, .val (.int p2), .val (.int p3), .val (.int p4), .val (.int p5), .val (.int nv), .val (.int ng), .val (.int rf), .val (.int fv), .val (.int sv), .val (.int tv), .val (.long u), .second, .unset, .unset, .unset, .unset, .unset, .unset] [(.int nv), (.long u)])
          obtain ⟨v83, T83, Lc83, X83, hQ83, st83⟩ := own_callS XI hx hZ hown (y := (⟨"com/example/leafline/leafline/table/IntegerValueParsePlain372PinLaw", "pow10", "(I)J"⟩ : MethodName)) (hw _ (List.mem_of_getElem? (i := 2) rfl)) (hw _ (List.mem_of_getElem? (i := 3) rfl)) (hw _ (List.mem_of_getElem? (i := 4) rfl)) (hw _ (List.mem_of_getElem? (i := 5) rfl)) (by decide) eI (rm1 l Z a0 hw [] nv n hI n0 Z0 hn (by rw [own_lt32] at hc76; omega)) (by decide) (by decide) (g := (mkF m 83 #[.val (.long q1), .second, .val (.int p2), .val (.int p3), .val (.int p4), .val (.int p5), .val (.int nv), .val (.int ng), .val (.int rf), .val (.int fv), .val (.int sv), .val (.int tv), .val (.long u), .second, .unset, .unset, .unset, .unset, .unset, .unset] [(.int nv), (.long u)])) rfl (by rw [hml]; rfl) (argsL := [(.int nv)]) (rest := [(.long u)]) (lenOf pd_0 rfl) rfl rfl (W := 2) (by show 2 * 0 + _ ≤ _; exact Nat.le_of_eq rfl) (hb hby at_83) (by decide) (by decide)
          obtain ⟨rfl, Nq83, K83⟩ := hQ83
          have N83 := Fr.app NI Nq83
          have Z0_p83 : n0 ≤ T83.heap.size := Nat.le_trans Z0 K83.1
          refine hst st83 ?_
          show F T83 (mkF m 86 #[.val (.long q1), .second, .val (.int p2), .val (.int p3), .val (.int p4), .val (.int p5), .val (.int nv), .val (.int ng), .val (.int rf), .val (.int fv), .val (.int sv), .val (.int tv), .val (.long u), .second, .unset, .unset, .unset, .unset, .unset, .unset] [(.long (Int64.ofNat (10 ^ n))), (.long u)])
          refine hst (fun t₀ k₀ => XS.lrem X83.here hx rfl (hb hby at_86) rfl (own_p0 _ (by rw [own_lt32] at hc76; omega)) k₀) ?_
          show F T83 (mkF m 87 #[.val (.long q1), .second, .val (.int p2), .val (.int p3), .val (.int p4), .val (.int p5), .val (.int nv), .val (.int ng), .val (.int rf), .val (.int fv), .val (.int sv), .val (.int tv), .val (.long u), .second, .unset, .unset, .unset, .unset, .unset, .unset] [(.long (u - (u / (Int64.ofNat (10 ^ n))) * (Int64.ofNat (10 ^ n))))])
          generalize hmv : (u - (u / (Int64.ofNat (10 ^ n))) * (Int64.ofNat (10 ^ n))) = mv
          show F T83 (mkF m 87 #[.val (.long q1), .second, .val (.int p2), .val (.int p3), .val (.int p4), .val (.int p5), .val (.int nv), .val (.int ng), .val (.int rf), .val (.int fv), .val (.int sv), .val (.int tv), .val (.long u), .second, .unset, .unset, .unset, .unset, .unset, .unset] [(.long mv)])
          have kmv : mv.toInt = ((U % 10 ^ n : Nat) : Int) := by rw [← hmv]; exact own_umod u U n hU (by rw [own_lt32] at hc76; omega)
          refine hst (fun t₀ k₀ => XS.goto X83.here hx rfl (pc0 := 87) (pc' := 92) rfl (hb hby at_87) (by decide) (by decide) k₀) ?_
          show F T83 (mkF m 92 #[.val (.long q1), .second, .val (.int p2), .val (.int p3), .val (.int p4), .val (.int p5), .val (.int nv), .val (.int ng), .val (.int rf), .val (.int fv), .val (.int sv), .val (.int tv), .val (.long u), .second, .unset, .unset, .unset, .unset, .unset, .unset] [(.long mv)])
          refine hst (fun t₀ k₀ => XS.lstore X83.here hx rfl (hb hby at_92) rfl (l' := #[.val (.long q1), .second, .val (.int p2), .val (.int p3), .val (.int p4), .val (.int p5), .val (.int nv), .val (.int ng), .val (.int rf), .val (.int fv), .val (.int sv), .val (.int tv), .val (.long u), .second, .val (.long mv), .second, .unset, .unset, .unset, .unset]) rfl k₀) ?_
          show F T83 (mkF m 94 #[.val (.long q1), .second, .val (.int p2), .val (.int p3), .val (.int p4), .val (.int p5), .val (.int nv), .val (.int ng), .val (.int rf), .val (.int fv), .val (.int sv), .val (.int tv), .val (.long u), .second, .val (.long mv), .second, .unset, .unset, .unset, .unset] [])
          exact J94 T83 _ X83 _ rfl N83 Z0_p83 _ (U % 10 ^ n) kmv (fun _ => Nat.mod_lt _ (Nat.pow_pos (by decide)))
      refine hst (fun t₀ k₀ => XS.iload XI.here hx rfl (hb hby at_42) rfl k₀) ?_
      show F s₁ (mkF m 44 #[.val (.long q1), .second, .val (.int p2), .val (.int p3), .val (.int p4), .val (.int p5), .val (.int nv), .val (.int ng), .val (.int rf), .val (.int fv), .unset, .unset, .unset, .unset, .unset, .unset, .unset, .unset, .unset, .unset] [(.int ng)])
      by_cases hc44 : ng = (0 : Int32)
      · -- pc 44: taken
        refine hst (fun t₀ k₀ => XS.ifYes XI.here hx rfl (pc0 := 44) (pc' := 54) rfl (hb hby at_44) rfl ((if0 _ _).trans (teq hc44).1) (by decide) (by decide) k₀) ?_
        show F s₁ (mkF m 54 #[.val (.long q1), .second, .val (.int p2), .val (.int p3), .val (.int p4), .val (.int p5), .val (.int nv), .val (.int ng), .val (.int rf), .val (.int fv), .unset, .unset, .unset, .unset, .unset, .unset, .unset, .unset, .unset, .unset] [])
        refine hst (fun t₀ k₀ => XS.iload XI.here hx rfl (hb hby at_54) rfl k₀) ?_
        show F s₁ (mkF m 56 #[.val (.long q1), .second, .val (.int p2), .val (.int p3), .val (.int p4), .val (.int p5), .val (.int nv), .val (.int ng), .val (.int rf), .val (.int fv), .unset, .unset, .unset, .unset, .unset, .unset, .unset, .unset, .unset, .unset] [(.int fv)])
        refine hst (fun t₀ k₀ => XS.istore XI.here hx rfl (hb hby at_56) rfl (l' := #[.val (.long q1), .second, .val (.int p2), .val (.int p3), .val (.int p4), .val (.int p5), .val (.int nv), .val (.int ng), .val (.int rf), .val (.int fv), .val (.int fv), .unset, .unset, .unset, .unset, .unset, .unset, .unset, .unset, .unset]) rfl k₀) ?_
        show F s₁ (mkF m 58 #[.val (.long q1), .second, .val (.int p2), .val (.int p3), .val (.int p4), .val (.int p5), .val (.int nv), .val (.int ng), .val (.int rf), .val (.int fv), .val (.int fv), .unset, .unset, .unset, .unset, .unset, .unset, .unset, .unset, .unset] [])
        exact J58 fv ⟨f, hf, Or.inl ⟨hc44, rfl⟩⟩
      · -- pc 44: not taken
        refine hst (fun t₀ k₀ => XS.ifNo XI.here hx rfl (hb hby at_44) rfl ((if0 _ _).trans (feq hc44).1) k₀) ?_
        show F s₁ (mkF m 47 #[.val (.long q1), .second, .val (.int p2), .val (.int p3), .val (.int p4), .val (.int p5), .val (.int nv), .val (.int ng), .val (.int rf), .val (.int fv), .unset, .unset, .unset, .unset, .unset, .unset, .unset, .unset, .unset, .unset] [])
        refine hst (fun t₀ k₀ => XS.iload XI.here hx rfl (hb hby at_47) rfl k₀) ?_
        show F s₁ (mkF m 49 #[.val (.long q1), .second, .val (.int p2), .val (.int p3), .val (.int p4), .val (.int p5), .val (.int nv), .val (.int ng), .val (.int rf), .val (.int fv), .unset, .unset, .unset, .unset, .unset, .unset, .unset, .unset, .unset, .unset] [(.int fv)])
        refine hst (fun t₀ k₀ => XS.iconst XI.here hx rfl (hb hby at_49) k₀) ?_
        show F s₁ (mkF m 50 #[.val (.long q1), .second, .val (.int p2), .val (.int p3), .val (.int p4), .val (.int p5), .val (.int nv), .val (.int ng), .val (.int rf), .val (.int fv), .unset, .unset, .unset, .unset, .unset, .unset, .unset, .unset, .unset, .unset] [(.int (1 : Int32)), (.int fv)])
        refine hst (fun t₀ k₀ => XS.iadd XI.here hx rfl (hb hby at_50) rfl k₀) ?_
        show F s₁ (mkF m 51 #[.val (.long q1), .second, .val (.int p2), .val (.int p3), .val (.int p4), .val (.int p5), .val (.int nv), .val (.int ng), .val (.int rf), .val (.int fv), .unset, .unset, .unset, .unset, .unset, .unset, .unset, .unset, .unset, .unset] [(.int (fv + (1 : Int32)))])
        refine hst (fun t₀ k₀ => XS.goto XI.here hx rfl (pc0 := 51) (pc' := 56) rfl (hb hby at_51) (by decide) (by decide) k₀) ?_
        show F s₁ (mkF m 56 #[.val (.long q1), .second, .val (.int p2), .val (.int p3), .val (.int p4), .val (.int p5), .val (.int nv), .val (.int ng), .val (.int rf), .val (.int fv), .unset, .unset, .unset, .unset, .unset, .unset, .unset, .unset, .unset, .unset] [(.int (fv + (1 : Int32)))])
        refine hst (fun t₀ k₀ => XS.istore XI.here hx rfl (hb hby at_56) rfl (l' := #[.val (.long q1), .second, .val (.int p2), .val (.int p3), .val (.int p4), .val (.int p5), .val (.int nv), .val (.int ng), .val (.int rf), .val (.int fv), .val (.int (fv + (1 : Int32))), .unset, .unset, .unset, .unset, .unset, .unset, .unset, .unset, .unset]) rfl k₀) ?_
        show F s₁ (mkF m 58 #[.val (.long q1), .second, .val (.int p2), .val (.int p3), .val (.int p4), .val (.int p5), .val (.int nv), .val (.int ng), .val (.int rf), .val (.int fv), .val (.int (fv + (1 : Int32))), .unset, .unset, .unset, .unset, .unset, .unset, .unset, .unset, .unset] [])
        exact J58 (fv + (1 : Int32)) ⟨f + 1, by have h1 := c_iadd fv 1; have h2 := rng32 (fv + 1); omega, Or.inr ⟨hng.resolve_left hc44, rfl⟩⟩
    by_cases hc25 : (p3 &&& (2 : Int32)) = (0 : Int32)
    · -- pc 25: taken
      refine hst (fun t₀ k₀ => XS.ifYes XI.here hx rfl (pc0 := 25) (pc' := 32) rfl (hb hby at_25) rfl ((if0 _ _).trans (teq hc25).1) (by decide) (by decide) k₀) ?_
      show F s₁ (mkF m 32 #[.val (.long q1), .second, .val (.int p2), .val (.int p3), .val (.int p4), .val (.int p5), .val (.int nv), .val (.int ng), .unset, .unset, .unset, .unset, .unset, .unset, .unset, .unset, .unset, .unset, .unset, .unset] [])
      refine hst (fun t₀ k₀ => XS.iconst XI.here hx rfl (hb hby at_32) k₀) ?_
      show F s₁ (mkF m 33 #[.val (.long q1), .second, .val (.int p2), .val (.int p3), .val (.int p4), .val (.int p5), .val (.int nv), .val (.int ng), .unset, .unset, .unset, .unset, .unset, .unset, .unset, .unset, .unset, .unset, .unset, .unset] [(.int (0 : Int32))])
      refine hst (fun t₀ k₀ => XS.istore XI.here hx rfl (hb hby at_33) rfl (l' := #[.val (.long q1), .second, .val (.int p2), .val (.int p3), .val (.int p4), .val (.int p5), .val (.int nv), .val (.int ng), .val (.int (0 : Int32)), .unset, .unset, .unset, .unset, .unset, .unset, .unset, .unset, .unset, .unset, .unset]) rfl k₀) ?_
      show F s₁ (mkF m 35 #[.val (.long q1), .second, .val (.int p2), .val (.int p3), .val (.int p4), .val (.int p5), .val (.int nv), .val (.int ng), .val (.int (0 : Int32)), .unset, .unset, .unset, .unset, .unset, .unset, .unset, .unset, .unset, .unset, .unset] [])
      exact J35 (0 : Int32) trivial
    · -- pc 25: not taken
      refine hst (fun t₀ k₀ => XS.ifNo XI.here hx rfl (hb hby at_25) rfl ((if0 _ _).trans (feq hc25).1) k₀) ?_
      show F s₁ (mkF m 28 #[.val (.long q1), .second, .val (.int p2), .val (.int p3), .val (.int p4), .val (.int p5), .val (.int nv), .val (.int ng), .unset, .unset, .unset, .unset, .unset, .unset, .unset, .unset, .unset, .unset, .unset, .unset] [])
      refine hst (fun t₀ k₀ => XS.iconst XI.here hx rfl (hb hby at_28) k₀) ?_
      show F s₁ (mkF m 29 #[.val (.long q1), .second, .val (.int p2), .val (.int p3), .val (.int p4), .val (.int p5), .val (.int nv), .val (.int ng), .unset, .unset, .unset, .unset, .unset, .unset, .unset, .unset, .unset, .unset, .unset, .unset] [(.int (1 : Int32))])
      refine hst (fun t₀ k₀ => XS.goto XI.here hx rfl (pc0 := 29) (pc' := 33) rfl (hb hby at_29) (by decide) (by decide) k₀) ?_
      show F s₁ (mkF m 33 #[.val (.long q1), .second, .val (.int p2), .val (.int p3), .val (.int p4), .val (.int p5), .val (.int nv), .val (.int ng), .unset, .unset, .unset, .unset, .unset, .unset, .unset, .unset, .unset, .unset, .unset, .unset] [(.int (1 : Int32))])
      refine hst (fun t₀ k₀ => XS.istore XI.here hx rfl (hb hby at_33) rfl (l' := #[.val (.long q1), .second, .val (.int p2), .val (.int p3), .val (.int p4), .val (.int p5), .val (.int nv), .val (.int ng), .val (.int (1 : Int32)), .unset, .unset, .unset, .unset, .unset, .unset, .unset, .unset, .unset, .unset, .unset]) rfl k₀) ?_
      show F s₁ (mkF m 35 #[.val (.long q1), .second, .val (.int p2), .val (.int p3), .val (.int p4), .val (.int p5), .val (.int nv), .val (.int ng), .val (.int (1 : Int32)), .unset, .unset, .unset, .unset, .unset, .unset, .unset, .unset, .unset, .unset, .unset] [])
      exact J35 (1 : Int32) trivial
  by_cases hc12 : (p3 &&& (1 : Int32)) = (0 : Int32)
  · -- pc 12: taken
    refine hst (fun t₀ k₀ => XS.ifYes XI.here hx rfl (pc0 := 12) (pc' := 19) rfl (hb hby at_12) rfl ((if0 _ _).trans (teq hc12).1) (by decide) (by decide) k₀) ?_
    show F s₁ (mkF m 19 #[.val (.long q1), .second, .val (.int p2), .val (.int p3), .val (.int p4), .val (.int p5), .val (.int nv), .unset, .unset, .unset, .unset, .unset, .unset, .unset, .unset, .unset, .unset, .unset, .unset, .unset] [])
    refine hst (fun t₀ k₀ => XS.iconst XI.here hx rfl (hb hby at_19) k₀) ?_
    show F s₁ (mkF m 20 #[.val (.long q1), .second, .val (.int p2), .val (.int p3), .val (.int p4), .val (.int p5), .val (.int nv), .unset, .unset, .unset, .unset, .unset, .unset, .unset, .unset, .unset, .unset, .unset, .unset, .unset] [(.int (0 : Int32))])
    refine hst (fun t₀ k₀ => XS.istore XI.here hx rfl (hb hby at_20) rfl (l' := #[.val (.long q1), .second, .val (.int p2), .val (.int p3), .val (.int p4), .val (.int p5), .val (.int nv), .val (.int (0 : Int32)), .unset, .unset, .unset, .unset, .unset, .unset, .unset, .unset, .unset, .unset, .unset, .unset]) rfl k₀) ?_
    show F s₁ (mkF m 22 #[.val (.long q1), .second, .val (.int p2), .val (.int p3), .val (.int p4), .val (.int p5), .val (.int nv), .val (.int (0 : Int32)), .unset, .unset, .unset, .unset, .unset, .unset, .unset, .unset, .unset, .unset, .unset, .unset] [])
    exact J22 (0 : Int32) (by first | exact Or.inl rfl | exact Or.inr rfl)
  · -- pc 12: not taken
    refine hst (fun t₀ k₀ => XS.ifNo XI.here hx rfl (hb hby at_12) rfl ((if0 _ _).trans (feq hc12).1) k₀) ?_
    show F s₁ (mkF m 15 #[.val (.long q1), .second, .val (.int p2), .val (.int p3), .val (.int p4), .val (.int p5), .val (.int nv), .unset, .unset, .unset, .unset, .unset, .unset, .unset, .unset, .unset, .unset, .unset, .unset, .unset] [])
    refine hst (fun t₀ k₀ => XS.iconst XI.here hx rfl (hb hby at_15) k₀) ?_
    show F s₁ (mkF m 16 #[.val (.long q1), .second, .val (.int p2), .val (.int p3), .val (.int p4), .val (.int p5), .val (.int nv), .unset, .unset, .unset, .unset, .unset, .unset, .unset, .unset, .unset, .unset, .unset, .unset, .unset] [(.int (1 : Int32))])
    refine hst (fun t₀ k₀ => XS.goto XI.here hx rfl (pc0 := 16) (pc' := 20) rfl (hb hby at_16) (by decide) (by decide) k₀) ?_
    show F s₁ (mkF m 20 #[.val (.long q1), .second, .val (.int p2), .val (.int p3), .val (.int p4), .val (.int p5), .val (.int nv), .unset, .unset, .unset, .unset, .unset, .unset, .unset, .unset, .unset, .unset, .unset, .unset, .unset] [(.int (1 : Int32))])
    refine hst (fun t₀ k₀ => XS.istore XI.here hx rfl (hb hby at_20) rfl (l' := #[.val (.long q1), .second, .val (.int p2), .val (.int p3), .val (.int p4), .val (.int p5), .val (.int nv), .val (.int (1 : Int32)), .unset, .unset, .unset, .unset, .unset, .unset, .unset, .unset, .unset, .unset, .unset, .unset]) rfl k₀) ?_
    show F s₁ (mkF m 22 #[.val (.long q1), .second, .val (.int p2), .val (.int p3), .val (.int p4), .val (.int p5), .val (.int nv), .val (.int (1 : Int32)), .unset, .unset, .unset, .unset, .unset, .unset, .unset, .unset, .unset, .unset, .unset, .unset] [])
    exact J22 (1 : Int32) (by first | exact Or.inl rfl | exact Or.inr rfl)
set_option maxRecDepth 65536 in
set_option maxHeartbeats 40000000 in
theorem comes_1 {Post : Tables → Env → Array Value → State → Outcome → State → Prop} (hpost : ∀ tb e args s v u, (limb_1_1.after args s (.returned v) u = true ∧ limb_1_2.after args s (.returned v) u = true ∧ True) → FrameEnd s (.returned v) u (Jvm.fieldLocs frame_1_writes args s ++ Jvm.arrayLocs frame_1_arrays args s ++ Jvm.staticLocs frame_1_statics s) 48 896 → Post tb e args s (.returned v) u) :
    ArmFor flags0 classFile x code maxLocals ret World_1 tables_1 room_1 Calls_1 rest_1 Pre_1 Post := by
  intro l hfl _ _ p e ha hc hk s m args below hf hA hF happ hP
  obtain ⟨hcalls, hrest, hpre⟩ := hP
  obtain ⟨-, -, -, hnamed, -, -, -, hat⟩ := (Spec.applies_iff hf).mp happ
  obtain ⟨hg, hn⟩ := and_e (Cond.before_iff.mp (show (Jvm.Cond.and given_1 narrow_1).before args s = true from hpre))
  obtain ⟨g1, g2⟩ := and_e hg
  obtain ⟨g3, g4⟩ := and_e g2
  obtain ⟨g5, g6⟩ := and_e g4
  obtain ⟨g7, g8⟩ := and_e g6
  obtain ⟨g9, g10⟩ := and_e g8
  obtain ⟨w0, w1, w2, w3, w4, rfl⟩ : ∃ w0 w1 w2 w3 w4 : Value, args = #[w0, w1, w2, w3, w4] := by
    have hs : args.size = 5 := by simpa [Cond.value, given_1] using g1
    obtain ⟨L⟩ := args
    match L, hs with
    | [w0, w1, w2, w3, w4], _ => exact ⟨w0, w1, w2, w3, w4, rfl⟩
  have hw := fun d (hd : d ∈ tables_1) => atoms_spec (ws := Jvm.Cond.code x code maxLocals ret :: tables_1) hat d (List.mem_cons_of_mem _ hd)
  obtain ⟨i0, ei0⟩ := isL_v g3
  obtain rfl : w0 = (.long i0) := Option.some.inj ei0
  obtain ⟨i1, ei1⟩ := is_v g5
  obtain rfl : w1 = (.int i1) := Option.some.inj ei1
  obtain ⟨i2, ei2⟩ := is_v g7
  obtain rfl : w2 = (.int i2) := Option.some.inj ei2
  obtain ⟨i3, ei3⟩ := is_v g9
  obtain rfl : w3 = (.int i3) := Option.some.inj ei3
  obtain ⟨i4, ei4⟩ := is_v g10
  obtain rfl : w4 = (.int i4) := Option.some.inj ei4
  obtain ⟨n, o, h1, h2, h3, _, L, rfl, ⟨rfl, N⟩, hq⟩ := rm0 l s _ hw tables_1 i0 i1 i2 i3 i4 s.heap s.heap.size (Nat.le_refl _) p e ha hc hk s m _ below hf ((Spec.applies_iff_loose hf).mp happ).1 ⟨rfl, State.Warmed39.refl s, rfl⟩ trivial
  refine ⟨n, _, h1, h2, h3, hpost _ _ _ _ _ _ ⟨Cond.after_iff.mpr rfl, Cond.after_iff.mpr (eq_i res_at (Term.int_eval (1)) rfl), trivial⟩ ⟨hq.1, hq.2.1, (hq.2.2.sift fun y hy => Or.inr (N y hy)).mono (by decide) (by decide)⟩⟩
theorem main_1_1 : Claimed_1_1 := comes_1 fun _ _ _ _ _ _ h hF => ⟨h.1, hF⟩
theorem main_1_2 : Claimed_1_2 := comes_1 fun _ _ _ _ _ _ h hF => ⟨h.2.1, hF⟩
end Jvm.Pilot.@@N@@
namespace Jvm.Pilot.@@N@@
open Jvm Jvm.ClassFile Sem Op Lib Jvm.Free Jvm.Stand Jvm.Pilot.@@N@@.Jvm.D
/-! MADE BY PROGRAM (witnessworld.py) out of the Statement's table words and the real class files: 14 classes; the members and pool entries that the words name. The judged class is class 1, her method 3. -/
namespace start1
open Jvm.ClassFile
def u (s : String) : CpInfo := .utf8 (stringToUtf16 s)
/-- a pool by its gaps: so many unusable entries, then the entry; so many at the end -/
def gap : Nat → List CpInfo → List CpInfo
  | 0, r => r
  | n + 1, r => .unusable :: gap n r
def poolList (es : List (Nat × CpInfo)) (last : Nat) : List CpInfo := es.foldr (fun e r => gap e.1 (e.2 :: r)) (gap last [])
def pool (es : List (Nat × CpInfo)) (last : Nat) : Array CpInfo := ⟨poolList es last⟩
def fileOf (pool : Array CpInfo) (this : Nat) (attrs : Array Attribute := #[]) (ms : Array MethodInfo := #[]) (fl : Nat := 33) (sup : Nat := 0) (ifs : Array Nat := #[]) (fds : Array FieldInfo := #[]) : ClassFile where
  minorVersion := 0
  majorVersion := 65
  constantPool := pool
  accessFlags := fl
  thisClass := this
  superClass := sup
  interfaces := ifs
  fields := fds
  methods := ms
  attributes := attrs
def plain (name : String) (sup : Option ClassId) : Class where
  name := name
  kind := .ordinary
  loader := none
  accessFlags := 33
  super := sup
  interfaces := #[]
  cf := none
  fields := #[]
  methods := #[]
  instanceTypes := #[]
  staticTypes := #[]
  resolved := #[]
  callSites := []
  init := .initialized
  statics := none
  mirror := none

def pool0 : Array CpInfo := pool [(5, u "<init>"), (0, u "()V"), (1, .class_ 10), (1, u "java/lang/Object")] 113

def k0m0 : Method := { name := "<init>", desc := "()V", sig := { parameters := [], returnType := none }, accessFlags := 1, code := none }
/-- java/lang/Object -/
def k0 : Class := { plain "java/lang/Object" none with
  accessFlags := 33
  interfaces := #[]
  cf := some (fileOf pool0 8 #[] #[{ accessFlags := 1, nameIndex := 5, descriptorIndex := 6, attributes := #[] }] 33 0 #[] #[])
  fields := #[]
  methods := #[k0m0]
  instanceTypes := #[]
  staticTypes := #[]
  resolved := Array.replicate 124 none
  statics := none }

def pool1 : Array CpInfo := pool [(2, .class_ 4), (1, u "java/lang/Object"), (0, u "<init>"), (0, u "()V"), (0, .long 10), (1, .long 100), (1, .long 1000), (1, .long 10000), (1, .long 100000), (1, .long 1000000), (1, .long 10000000), (1, .long 100000000), (1, .long 1000000000), (1, .long 10000000000), (1, .long 100000000000), (1, .long 1000000000000), (1, .long 10000000000000), (1, .long 100000000000000), (1, .long 1000000000000000), (1, .long 10000000000000000), (1, .long 100000000000000000), (1, .long 1000000000000000000), (1, .methodref 44 45), (0, .class_ 46), (0, .nameAndType 47 48), (0, u "com/example/leafline/leafline/table/IntegerValueParsePlain372PinLaw"), (0, u "pow10"), (0, u "(I)J"), (0, .integer 2147483647), (2, .long 9223372036854775807), (1, .methodref 44 55), (0, .nameAndType 56 57), (0, u "put"), (0, u "([BIIIJ)V"), (0, .class_ 59), (0, u "com/example/leafline/leafline/table/IntegerValue"), (0, .long 9223372036854775808), (1, .methodref 58 63), (0, .nameAndType 64 65), (0, u "parsePlain"), (0, u "([BII)J"), (3, u "law"), (0, u "(JIIII)Z")] 4

def k1m0 : Method := { name := "<init>", desc := "()V", sig := { parameters := [], returnType := none }, accessFlags := 2, code := none }
def k1c1 : Code := { maxStack := 5, maxLocals := 2, code := method_2_code, exceptionTable := #[], attributes := #[] }
def k1m1 : Method := { name := "pow10", desc := "(I)J", sig := { parameters := [.int], returnType := some .long }, accessFlags := 10, code := some k1c1 }
def k1c2 : Code := { maxStack := 4, maxLocals := 8, code := method_3_code, exceptionTable := #[], attributes := #[] }
def k1m2 : Method := { name := "put", desc := "([BIIIJ)V", sig := { parameters := [(.array .byte), .int, .int, .int, .long], returnType := none }, accessFlags := 10, code := some k1c2 }
def k1c3 : Code := { maxStack := 6, maxLocals := 20, code := code, exceptionTable := #[], attributes := #[] }
def k1m3 : Method := { name := "law", desc := "(JIIII)Z", sig := { parameters := [.long, .int, .int, .int, .int], returnType := some .boolean }, accessFlags := 9, code := some k1c3 }
/-- com/example/leafline/leafline/table/IntegerValueParsePlain372PinLaw -/
def k1 : Class := { plain "com/example/leafline/leafline/table/IntegerValueParsePlain372PinLaw" (some 0) with
  accessFlags := 49
  interfaces := #[]
  cf := some (fileOf pool1 44 #[] #[{ accessFlags := 2, nameIndex := 5, descriptorIndex := 6, attributes := #[] }, { accessFlags := 10, nameIndex := 47, descriptorIndex := 48, attributes := #[] }, { accessFlags := 10, nameIndex := 56, descriptorIndex := 57, attributes := #[] }, { accessFlags := 9, nameIndex := 69, descriptorIndex := 70, attributes := #[] }] 49 2 #[] #[])
  fields := #[]
  methods := #[k1m0, k1m1, k1m2, k1m3]
  instanceTypes := #[]
  staticTypes := #[]
  resolved := Array.replicate 75 none
  statics := none }

def pool2 : Array CpInfo := pool [(2, .class_ 4), (1, u "java/lang/Object"), (0, u "<init>"), (0, u "()V"), (0, .class_ 8), (0, u "java/lang/Record")] 13

def k2m0 : Method := { name := "<init>", desc := "()V", sig := { parameters := [], returnType := none }, accessFlags := 4, code := none }
/-- java/lang/Record -/
def k2 : Class := { plain "java/lang/Record" (some 0) with
  accessFlags := 1057
  interfaces := #[]
  cf := some (fileOf pool2 7 #[] #[{ accessFlags := 4, nameIndex := 5, descriptorIndex := 6, attributes := #[] }] 1057 2 #[] #[])
  fields := #[]
  methods := #[k2m0]
  instanceTypes := #[]
  staticTypes := #[]
  resolved := Array.replicate 22 none
  statics := none }

def pool3 : Array CpInfo := pool [(1, .class_ 2), (0, u "java/lang/Comparable"), (0, .class_ 4), (0, u "java/lang/Object")] 7

/-- java/lang/Comparable -/
def k3 : Class := { plain "java/lang/Comparable" (some 0) with
  accessFlags := 1537
  interfaces := #[]
  cf := some (fileOf pool3 1 #[] #[] 1537 3 #[] #[])
  fields := #[]
  methods := #[]
  instanceTypes := #[]
  staticTypes := #[]
  resolved := Array.replicate 12 none
  statics := none }

def pool4 : Array CpInfo := pool [(18, .class_ 20), (1, u "com/example/leafline/leafline/table/Value"), (0, u "NULL"), (0, u "Lcom/example/leafline/leafline/table/NullValue;"), (0, .class_ 24), (0, u "java/lang/Object"), (0, .class_ 26), (0, u "java/lang/Comparable")] 17

/-- com/example/leafline/leafline/table/Value -/
def k4 : Class := { plain "com/example/leafline/leafline/table/Value" (some 0) with
  accessFlags := 1537
  interfaces := #[3]
  cf := some (fileOf pool4 18 #[] #[] 1537 23 #[25] #[{ accessFlags := 25, nameIndex := 21, descriptorIndex := 22, attributes := #[] }])
  fields := #[{ name := "NULL", type := (.object "com/example/leafline/leafline/table/NullValue"), accessFlags := 25, slot := 0, constantValue := 0 }]
  methods := #[]
  instanceTypes := #[]
  staticTypes := #[(.object "com/example/leafline/leafline/table/NullValue")]
  resolved := Array.replicate 44 none
  statics := none }

def pool5 : Array CpInfo := pool [(4, .class_ 6), (1, u "java/lang/Record"), (3, .class_ 12), (1, u "com/example/leafline/leafline/table/IntegerValue"), (0, u "value"), (0, u "J"), (31, u "DIGITS"), (0, u "I"), (4, .long 10), (1, .long 9223372036854775808), (55, .class_ 111), (0, u "com/example/leafline/leafline/table/Value"), (5, u "PLAIN_DIGITS"), (2, u "NOT_PLAIN"), (8, u "parsePlain"), (0, u "([BII)J")] 26

def k5c0 : Code := { maxStack := 4, maxLocals := 9, code := prog_158_method_3_code, exceptionTable := #[], attributes := #[] }
def k5m0 : Method := { name := "parsePlain", desc := "([BII)J", sig := { parameters := [(.array .byte), .int, .int], returnType := some .long }, accessFlags := 8, code := some k5c0 }
/-- com/example/leafline/leafline/table/IntegerValue -/
def k5 : Class := { plain "com/example/leafline/leafline/table/IntegerValue" (some 2) with
  accessFlags := 49
  interfaces := #[4]
  cf := some (fileOf pool5 10 #[] #[{ accessFlags := 8, nameIndex := 129, descriptorIndex := 130, attributes := #[] }] 49 4 #[110] #[{ accessFlags := 18, nameIndex := 13, descriptorIndex := 14, attributes := #[] }, { accessFlags := 26, nameIndex := 46, descriptorIndex := 47, attributes := #[] }, { accessFlags := 26, nameIndex := 117, descriptorIndex := 47, attributes := #[] }, { accessFlags := 24, nameIndex := 120, descriptorIndex := 14, attributes := #[] }])
  fields := #[{ name := "value", type := .long, accessFlags := 18, slot := 0, constantValue := 0 }, { name := "DIGITS", type := .int, accessFlags := 26, slot := 0, constantValue := 0 }, { name := "PLAIN_DIGITS", type := .int, accessFlags := 26, slot := 1, constantValue := 0 }, { name := "NOT_PLAIN", type := .long, accessFlags := 24, slot := 2, constantValue := 0 }]
  methods := #[k5m0]
  instanceTypes := #[.long]
  staticTypes := #[.int, .int, .long]
  resolved := Array.replicate 157 none
  statics := none }

def pool6 : Array CpInfo := pool [(1, u "java/lang/Cloneable"), (0, .class_ 1), (0, u "java/lang/Object"), (0, .class_ 3)] 3

/-- java/lang/Cloneable -/
def k6 : Class := { plain "java/lang/Cloneable" (some 0) with
  accessFlags := 1537
  interfaces := #[]
  cf := some (fileOf pool6 2 #[] #[] 1537 4 #[] #[])
  fields := #[]
  methods := #[]
  instanceTypes := #[]
  staticTypes := #[]
  resolved := Array.replicate 8 none
  statics := none }

def pool7 : Array CpInfo := pool [(1, u "java/io/Serializable"), (0, .class_ 1), (0, u "java/lang/Object"), (0, .class_ 3)] 3

/-- java/io/Serializable -/
def k7 : Class := { plain "java/io/Serializable" (some 0) with
  accessFlags := 1537
  interfaces := #[]
  cf := some (fileOf pool7 2 #[] #[] 1537 4 #[] #[])
  fields := #[]
  methods := #[]
  instanceTypes := #[]
  staticTypes := #[]
  resolved := Array.replicate 8 none
  statics := none }

/-- the primitive byte -/
def k8 : Class := { plain "byte" none with kind := .primitive 'B', accessFlags := 0x411 }
/-- [B -/
def k9 : Class := { plain "[B" (some 0) with kind := .array 8 .byte, interfaces := #[6, 7], accessFlags := 1041 }

/-- the primitive int -/
def k10 : Class := { plain "int" none with kind := .primitive 'I', accessFlags := 0x411 }
/-- [I -/
def k11 : Class := { plain "[I" (some 0) with kind := .array 10 .int, interfaces := #[6, 7], accessFlags := 1041 }

/-- the primitive long -/
def k12 : Class := { plain "long" none with kind := .primitive 'J', accessFlags := 0x411 }
/-- [J -/
def k13 : Class := { plain "[J" (some 0) with kind := .array 12 .long, interfaces := #[6, 7], accessFlags := 1041 }

def heap : Heap := #[]
def classes : Array Class := #[k0, k1, k2, k3, k4, k5, k6, k7, k8, k9, k10, k11, k12, k13]
def interned : List (Array UInt16 × Addr) := []
def slotsUsed : Nat := 0
def theMethod : MethodId := ⟨1, 3⟩
def args0 : Array Value := #[.long 1, .int 2, .int 3, .int 4, .int 5]
def aboutOver (below : List Frame) : State where
  vm := { classes := classes, interned := interned.toArray }
  heap := heap
  slotsUsed := slotsUsed
  threads := #[{ frames := .invoking theMethod args0 :: below }]
def below0 : List Frame := [.native { method := ⟨0, 0⟩, args := #[] }]
def about1 : State := aboutOver below0
def p0 : Program := .bare "" "" ""
def e0 : Env := launch0.env 0 0 0
theorem w_frames : about1.frames = Frame.invoking theMethod args0 :: below0 := rfl
set_option maxRecDepth 65536 in
theorem w_args : argsFit about1.vm theMethod args0 = true := by decide +kernel
set_option maxRecDepth 65536 in
theorem w_heap : heapFits about1 = true := by decide +kernel
set_option maxRecDepth 65536 in
theorem w_runnable : about1.curStatus? = some .runnable := by decide +kernel
set_option maxRecDepth 65536 in
theorem w_alone : about1.alone = true := by decide +kernel
set_option maxRecDepth 65536 in
theorem w_named : about1.methodNamed? x = some theMethod := by decide +kernel
set_option maxRecDepth 65536 in
theorem w_hears : about1.hears theMethod below0 = true := by decide +kernel
set_option maxRecDepth 65536 in
theorem w_ripe : about1.ripe theMethod args0 below0 = true := by decide +kernel
theorem w_running : about1.status = .running := rfl
set_option maxRecDepth 65536 in
theorem w_room : about1.hasRoom e0.platform room_1 = true :=
  launch0.hasRoom_least _ room_1 (by decide +kernel) (by decide +kernel) (by decide +kernel) (by decide +kernel) (by decide +kernel) (by decide +kernel)
theorem allAtoms_all (ts : List Jvm.Cond) (a : Array Jvm.Value) (st : Jvm.State) : (allAtoms ts).before a st = ts.all (fun c => c.before a st) := by
  induction ts with
  | nil => rfl
  | cons c t ih =>
    show (Jvm.Cond.and c (allAtoms t)).before a st = _
    rw [Jvm.Cond.before_and, ih, List.all_cons]
def words1 : List Jvm.Cond := Jvm.Cond.code x code maxLocals ret :: tables_1
/-- a 'code' word, met by the world's own term for the bytes: nothing is compared byte by byte -/
theorem code_word {y : MethodName} {bytes : ByteArray} {mx : Nat} {rt : Option FieldType} {a : Array Value} {s : State} {m : MethodId} {meth : Method} {c : Code} (h1 : s.methodNamed? y = some m) (h2 : s.vm.method? m = some meth) (h3 : meth.code = some c) (h4 : c.code = bytes)
    (h5 : (c.maxLocals == mx && c.exceptionTable.isEmpty && decide (c.maxStack ≤ mostOperands) && decide (meth.sig.returnType = rt) && !meth.locks && decide (parseMethodDescriptor y.desc = some meth.sig)) = true) : (Jvm.Cond.code y bytes mx rt).before a s = true := by
  simp only [Bool.and_eq_true, beq_iff_eq, Bool.not_eq_true', decide_eq_true_eq] at h5
  obtain ⟨⟨⟨⟨⟨g1, g2⟩, g3⟩, g4⟩, g5⟩, g6⟩ := h5
  simp [Cond.before, Cond.holds, Cond.value, h1, h2, h3, h4, g1, g2, g3, g4, g5, g6]
def isCode : Jvm.Cond → Bool
  | .code _ _ _ _ => true
  | _ => false
theorem all_split {L : List Jvm.Cond} {P : Jvm.Cond → Bool} (h1 : L.all (fun c => isCode c || P c) = true) (h2 : ∀ c ∈ L.filter isCode, P c = true) : L.all P = true := by
  refine List.all_eq_true.mpr fun c hc => ?_
  have h := List.all_eq_true.mp h1 c hc
  rcases Bool.eq_false_or_eq_true (isCode c) with hi | hi
  · exact h2 c (List.mem_filter.mpr ⟨hc, hi⟩)
  · simpa [hi] using h
set_option maxRecDepth 65536 in
theorem w_c0 : (Jvm.Cond.code x code maxLocals ret).before args0 about1 = true := code_word (m := ⟨1, 3⟩) (meth := k1m3) (c := k1c3) (by decide +kernel) rfl rfl rfl (by decide +kernel)
set_option maxRecDepth 65536 in
theorem w_c1 : (Jvm.Cond.code ({ cls := "com/example/leafline/leafline/table/IntegerValueParsePlain372PinLaw", name := "pow10", desc := "(I)J" } : Jvm.MethodName) method_2_code (2 : Nat) (Option.some Jvm.ClassFile.FieldType.long)).before args0 about1 = true := code_word (m := ⟨1, 1⟩) (meth := k1m1) (c := k1c1) (by decide +kernel) rfl rfl rfl (by decide +kernel)
set_option maxRecDepth 65536 in
theorem w_c2 : (Jvm.Cond.code ({ cls := "com/example/leafline/leafline/table/IntegerValueParsePlain372PinLaw", name := "put", desc := "([BIIIJ)V" } : Jvm.MethodName) method_3_code (8 : Nat) (Option.none : Option Jvm.ClassFile.FieldType)).before args0 about1 = true := code_word (m := ⟨1, 2⟩) (meth := k1m2) (c := k1c2) (by decide +kernel) rfl rfl rfl (by decide +kernel)
set_option maxRecDepth 65536 in
theorem w_c3 : (Jvm.Cond.code ({ cls := "com/example/leafline/leafline/table/IntegerValue", name := "parsePlain", desc := "([BII)J" } : Jvm.MethodName) prog_158_method_3_code (9 : Nat) (Option.some Jvm.ClassFile.FieldType.long)).before args0 about1 = true := code_word (m := ⟨5, 0⟩) (meth := k5m0) (c := k5c0) (by decide +kernel) rfl rfl rfl (by decide +kernel)
def codes1 : List Jvm.Cond := [Jvm.Cond.code x code maxLocals ret, Jvm.Cond.code ({ cls := "com/example/leafline/leafline/table/IntegerValueParsePlain372PinLaw", name := "pow10", desc := "(I)J" } : Jvm.MethodName) method_2_code (2 : Nat) (Option.some Jvm.ClassFile.FieldType.long), Jvm.Cond.code ({ cls := "com/example/leafline/leafline/table/IntegerValueParsePlain372PinLaw", name := "put", desc := "([BIIIJ)V" } : Jvm.MethodName) method_3_code (8 : Nat) (Option.none : Option Jvm.ClassFile.FieldType), Jvm.Cond.code ({ cls := "com/example/leafline/leafline/table/IntegerValue", name := "parsePlain", desc := "([BII)J" } : Jvm.MethodName) prog_158_method_3_code (9 : Nat) (Option.some Jvm.ClassFile.FieldType.long)]
set_option maxRecDepth 65536 in
theorem codes_eq : words1.filter isCode = codes1 := rfl
theorem w_codes : ∀ c ∈ words1.filter isCode, c.before args0 about1 = true := by
  rw [codes_eq]
  intro c hc
  simp only [codes1, List.mem_cons, List.not_mem_nil, or_false] at hc
  rcases hc with rfl | rfl | rfl | rfl
  · exact w_c0
  · exact w_c1
  · exact w_c2
  · exact w_c3
set_option maxRecDepth 65536 in
theorem w_t1 : (words1.take 24).all (fun c => isCode c || c.before args0 about1) = true := by decide +kernel
set_option maxRecDepth 65536 in
theorem w_t2 : (words1.drop 24).all (fun c => isCode c || c.before args0 about1) = true := by decide +kernel
theorem w_tables : (allAtoms (Jvm.Cond.code x code maxLocals ret :: tables_1)).before args0 about1 = true := by
  rw [allAtoms_all]
  show words1.all (fun c => c.before args0 about1) = true
  refine all_split ?_ w_codes
  rw [← List.take_append_drop 24 words1, List.all_append, w_t1, w_t2]
  rfl
set_option maxRecDepth 65536 in
theorem w_case : (Jvm.Cond.and given_1 narrow_1).before args0 about1 = true := by decide +kernel
theorem w_applies : (headSpec (Jvm.Cond.code x code maxLocals ret :: tables_1) room_1).applies x e0.platform about1 = true :=
  (Spec.applies_iff w_frames).mpr ⟨w_running, w_runnable, w_alone, w_named, w_hears, w_ripe, w_room, w_tables⟩
theorem atStart : AtStart classFile x code maxLocals ret World_1 tables_1 room_1 Calls_1 rest_1 Pre_1 launch0 p0 e0 about1 theMethod args0 below0 :=
  ⟨lists_1, trivial, launch0.admits_env _ _ _, launch0.least_env, fairChoices_fair.cas, fairChoices_fair.clock, w_frames, w_args, w_heap, w_applies, trivial, trivial, w_case⟩
end start1
theorem witness_1 : WitnessClaimed_1 := ⟨start1.p0, start1.e0, start1.about1, start1.theMethod, start1.args0, start1.below0, start1.atStart⟩
end Jvm.Pilot.@@N@@
