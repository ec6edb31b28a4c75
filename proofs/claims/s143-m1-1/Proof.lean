import JvmDerived
import JvmDerived.Pilot.@@N@@Statement
import JvmDerived.Pilot.@@N@@Code
set_option linter.unusedVariables false
set_option linter.unusedSimpArgs false
namespace Jvm.Pilot.@@N@@
open Jvm Jvm.ClassFile Sem Op Lib Jvm.Free Jvm.Stand Jvm.LawKit Jvm.RoadKit Bundle Jvm.Pilot.@@N@@.Jvm.D
/-! ## the walk's own goal: from this frame the method comes to its end, and what it leaves is Q -/
def own_Fin (tb : Tables) (e : Env) (below : List Frame) (s : State) (R : Room) (Q : Option Value → Heap → List Loc → Prop) (T : State) (g : JFrame) : Prop :=
  ∃ s₂ o, Steps tb e below (T.setTop g) s₂ ∧ s₂.status = .running ∧ Ended s₂ below o ∧ ∃ v L, o = .returned v ∧ Q v s₂.heap L ∧ FrameEnd s o s₂ L R.cells R.slots
theorem own_st {tb : Tables} {e : Env} {below : List Frame} {s : State} {R : Room} {Q : Option Value → Heap → List Loc → Prop} {T T' : State} {g g' : JFrame}
    (h : ∀ t, Steps tb e below (T'.setTop g') t → Steps tb e below (T.setTop g) t) (k : own_Fin tb e below s R Q T' g') : own_Fin tb e below s R Q T g := by
  obtain ⟨s₂, o, h1, r⟩ := k
  exact ⟨s₂, o, h _ h1, r⟩
/-- an array: its kind, its length, what lies at each place -/
def own_A (Z : State) (h : Heap) (a : Addr) (ty : FieldType) (n : Nat) (f : Nat → Value) : Prop := ∃ c : Cell, Arr Z h a c ty ∧ c.slots.size = n ∧ ∀ i, i < n → c.slots[i]? = some (f i)
section OwnArr
variable {Z : State} {h h' : Heap} {a b : Addr} {ty : FieldType} {n : Nat} {f : Nat → Value} {ws : List Addr} {sl : Nat} {v : Value}
theorem own_A.lt (F : own_A Z h a ty n f) : a < h.size := by obtain ⟨c, A, -⟩ := F; exact A.lt
theorem own_A.ext (F : own_A Z h a ty n f) (E : Ext h h') : own_A Z h' a ty n f := by obtain ⟨c, A, r⟩ := F; exact ⟨c, A.ext E, r⟩
theorem own_A.other (F : own_A Z h a ty n f) (W : Wr h h' b sl v) (q : a ≠ b) : own_A Z h' a ty n f := by obtain ⟨c, A, r⟩ := F; exact ⟨c, A.other W q, r⟩
theorem own_A.keep (F : own_A Z h a ty n f) (K : Keep h h' ws) (q : a ∉ ws) : own_A Z h' a ty n f := by obtain ⟨c, A, r⟩ := F; exact ⟨c, ⟨K.2.1 a c A.1 q, A.2⟩, r⟩
theorem own_A.congr (F : own_A Z h a ty n f) {f' : Nat → Value} (q : ∀ i, i < n → f i = f' i) : own_A Z h a ty n f' := by
  obtain ⟨c, A, r1, r2⟩ := F
  exact ⟨c, A, r1, fun i hi => by rw [r2 i hi, q i hi]⟩
theorem own_A.new {k : ClassId} {z : Int32} (A : Arr Z h a (newA k ty z) ty) : own_A Z h a ty z.toNatClampNeg (fun _ => defaultValue ty) :=
  ⟨_, A, sz_new _ _ _, fun i hi => by simp [newA, hi]⟩
theorem own_A.set (F : own_A Z h a ty n f) (W : Wr h h' a sl v) : own_A Z h' a ty n (fun i => if i = sl then v else f i) := by
  obtain ⟨c, A, r1, r2⟩ := F
  refine ⟨_, A.same W, by rw [sz_set]; exact r1, fun i hi => ?_⟩
  by_cases q : i = sl
  · subst q; simp [Cell.setSlot, r1, hi]
  · simp only [Cell.setSlot, q, if_false]; rw [Array.getElem?_setIfInBounds_ne (Ne.symm q)]; exact r2 i hi
theorem own_ne_A {c : Nat} {C : String} {a0 : Array Value} (F : Exa Z h b C) (wi : (Jvm.Cond.instantiable C c).before a0 Z = true) (G : own_A Z h a ty n f) : b ≠ a := by
  obtain ⟨cl, A, -⟩ := G; exact ne_arr F wi A
end OwnArr
section OwnStand
variable {p : Program} {l : Launch} {e : Env} {R : Room} {s : State} {m : MethodId} {args : Array Value} {below : List Frame} {meth : Method} {c : Code} {T : State} {locs : List Loc} {cells slots : Nat} {Q : Option Value → Heap → List Loc → Prop} {Z : State} {a0 : Array Value} {h : Heap}
theorem own_ret {v : Option Value} {g : JFrame} (X : Stand p l e R s m args below meth c T locs cells slots) (hv : meth.sig.returnType = none → v = none) (hlocks : meth.locks = false) (hc : cells ≤ R.cells) (hs : slots ≤ R.slots) (hQ : Q v T.heap locs)
    (hstep : ∀ fs, (∀ (f : JFrame) (acts : List Action), f.method = m → f.locked = none → f.entered = [] → (doReturn e (T.setTop f) acts v).1 = T.setFrames fs) → Steps p.tables e below (T.setTop g) (T.setFrames fs)) : own_Fin p.tables e below s R Q T g := by
  obtain ⟨fs, hr, hrun, hended, hW, hsame⟩ := X.leave hv hlocks
  exact ⟨_, _, hstep fs hr, hrun, hended, _, _, rfl, hQ, ⟨_, rfl⟩, hW, hsame.mono hc hs⟩
theorem own_retI {pc : Nat} {Ls : Array Slot} {z : Int32} {rest : List Value} (X : Stand p l e R s m args below meth c T locs cells slots) (hx : p.tables.exec = Jvm.exec) (hret : meth.sig.returnType = some .int) (hlocks : meth.locks = false) (hd : decode c.code pc = .ok (.ireturn, 1))
    (hc : cells ≤ R.cells) (hs : slots ≤ R.slots) (hQ : Q (some (.int z)) T.heap locs) : own_Fin p.tables e below s R Q T (mkF m pc Ls (.int z :: rest)) :=
  own_ret X (fun h => by rw [hret] at h; cases h) hlocks hc hs hQ fun fs hr => retOut X hx hret rfl (Or.inl ⟨rfl, Or.inl rfl, _, rfl⟩) hd hr
theorem own_retJ {pc : Nat} {Ls : Array Slot} {z : Int64} {rest : List Value} (X : Stand p l e R s m args below meth c T locs cells slots) (hx : p.tables.exec = Jvm.exec) (hret : meth.sig.returnType = some .long) (hlocks : meth.locks = false) (hd : decode c.code pc = .ok (.lreturn, 1))
    (hc : cells ≤ R.cells) (hs : slots ≤ R.slots) (hQ : Q (some (.long z)) T.heap locs) : own_Fin p.tables e below s R Q T (mkF m pc Ls (.long z :: rest)) :=
  own_ret X (fun h => by rw [hret] at h; cases h) hlocks hc hs hQ fun fs hr => retOut X hx hret rfl (Or.inr (Or.inl ⟨rfl, rfl, _, rfl⟩)) hd hr
theorem own_retA {pc : Nat} {Ls : Array Slot} {t : FieldType} {b : Addr} {rest : List Value} (X : Stand p l e R s m args below meth c T locs cells slots) (hx : p.tables.exec = Jvm.exec) (hret : meth.sig.returnType = some t) (ht : t.isReference = true) (hn : narrow t (.ref b) = .ref b) (hlocks : meth.locks = false) (hd : decode c.code pc = .ok (.areturn, 1))
    (hc : cells ≤ R.cells) (hs : slots ≤ R.slots) (hQ : Q (some (.ref b)) T.heap locs) : own_Fin p.tables e below s R Q T (mkF m pc Ls (.ref b :: rest)) :=
  own_ret X (fun h => by rw [hret] at h; cases h) hlocks hc hs hQ fun fs hr => retOut X hx hret hn (Or.inr (Or.inr (Or.inr (Or.inr ⟨rfl, ht, rfl⟩)))) hd hr
theorem own_retN {pc : Nat} {Ls : Array Slot} {t : FieldType} {z : Int32} {rest : List Value} (X : Stand p l e R s m args below meth c T locs cells slots) (hx : p.tables.exec = Jvm.exec) (hret : meth.sig.returnType = some t) (ht : t = .boolean ∨ t = .byte ∨ t = .char ∨ t = .short) (hlocks : meth.locks = false) (hd : decode c.code pc = .ok (.ireturn, 1))
    (hc : cells ≤ R.cells) (hs : slots ≤ R.slots) (hQ : Q (some (.int (nar t z))) T.heap locs) : own_Fin p.tables e below s R Q T (mkF m pc Ls (.int z :: rest)) :=
  own_ret X (fun h => by rw [hret] at h; cases h) hlocks hc hs hQ fun fs hr => retN X hx hret ht hd hr
theorem own_retV {pc : Nat} {Ls : Array Slot} (X : Stand p l e R s m args below meth c T locs cells slots) (hx : p.tables.exec = Jvm.exec) (hret : meth.sig.returnType = none) (hlocks : meth.locks = false) (hd : decode c.code pc = .ok (.return_, 1))
    (hc : cells ≤ R.cells) (hs : slots ≤ R.slots) (hQ : Q none T.heap locs) : own_Fin p.tables e below s R Q T (mkF m pc Ls []) :=
  own_ret X (fun _ => rfl) hlocks hc hs hQ fun fs hr => X.returnOut hx hret hd hr
theorem own_iaload {n : Nat} {f : Nat → Value} {a : Addr} {j : Int32} {v : Value} {g : JFrame} {rest : List Value} (X : Stand p l e R s m args below meth c T locs cells slots) (hx : p.tables.exec = Jvm.exec) (hZ : Z.Warmed39 s.vm) (eT : T.heap = h) (F : own_A Z h a .int n f) (hj : ¬ (j < 0 ∨ n ≤ j.toNatClampNeg)) (hv : f j.toNatClampNeg = v)
    (hg : g.method = m) (hs : g.stack = .int j :: .ref a :: rest) (hd : decode c.code g.pc = .ok (.iaload, 1)) (t : State) (k : Steps p.tables e below (T.setTop { g with pc := g.pc + 1, stack := v :: rest }) t) : Steps p.tables e below (T.setTop g) t := by
  obtain ⟨cl, A, r1, r2⟩ := F
  exact X.iaload hx (by rw [eT]; exact A.1) (State.isArrayOf_alike hZ.alike A.2.1) A.2.2 (by rw [r1]; exact hj) (by rw [r2 _ (Nat.lt_of_not_le fun q => hj (Or.inr q)), hv]) hg hs hd t k
theorem own_laload {n : Nat} {f : Nat → Value} {a : Addr} {j : Int32} {v : Value} {g : JFrame} {rest : List Value} (X : Stand p l e R s m args below meth c T locs cells slots) (hx : p.tables.exec = Jvm.exec) (hZ : Z.Warmed39 s.vm) (eT : T.heap = h) (F : own_A Z h a .long n f) (hj : ¬ (j < 0 ∨ n ≤ j.toNatClampNeg)) (hv : f j.toNatClampNeg = v)
    (hg : g.method = m) (hs : g.stack = .int j :: .ref a :: rest) (hd : decode c.code g.pc = .ok (.laload, 1)) (t : State) (k : Steps p.tables e below (T.setTop { g with pc := g.pc + 1, stack := v :: rest }) t) : Steps p.tables e below (T.setTop g) t := by
  obtain ⟨cl, A, r1, r2⟩ := F
  exact X.laload hx (by rw [eT]; exact A.1) (State.isArrayOf_alike hZ.alike A.2.1) A.2.2 (by rw [r1]; exact hj) (by rw [r2 _ (Nat.lt_of_not_le fun q => hj (Or.inr q)), hv]) hg hs hd t k
theorem own_baload {n : Nat} {f : Nat → Value} {a : Addr} {j : Int32} {v : Value} {g : JFrame} {rest : List Value} (X : Stand p l e R s m args below meth c T locs cells slots) (hx : p.tables.exec = Jvm.exec) (hZ : Z.Warmed39 s.vm) (eT : T.heap = h) (F : own_A Z h a .byte n f) (hj : ¬ (j < 0 ∨ n ≤ j.toNatClampNeg)) (hv : f j.toNatClampNeg = v)
    (hg : g.method = m) (hs : g.stack = .int j :: .ref a :: rest) (hd : decode c.code g.pc = .ok (.baload, 1)) (t : State) (k : Steps p.tables e below (T.setTop { g with pc := g.pc + 1, stack := v :: rest }) t) : Steps p.tables e below (T.setTop g) t := by
  obtain ⟨cl, A, r1, r2⟩ := F
  exact X.baloadBytes hx (by rw [eT]; exact A.1) (State.isArrayOf_alike hZ.alike A.2.1) A.2.2 (by rw [r1]; exact hj) (by rw [r2 _ (Nat.lt_of_not_le fun q => hj (Or.inr q)), hv]) hg hs hd t k
theorem own_alen {ty : FieldType} {n : Nat} {f : Nat → Value} {a : Addr} {z : Int32} {g : JFrame} {rest : List Value} (X : Stand p l e R s m args below meth c T locs cells slots) (hx : p.tables.exec = Jvm.exec) (hZ : Z.Warmed39 s.vm) (eT : T.heap = h) (F : own_A Z h a ty n f) (hz : n.toInt32 = z)
    (hg : g.method = m) (hs : g.stack = .ref a :: rest) (hd : decode c.code g.pc = .ok (.arraylength, 1)) (t : State) (k : Steps p.tables e below (T.setTop { g with pc := g.pc + 1, stack := .int z :: rest }) t) : Steps p.tables e below (T.setTop g) t := by
  obtain ⟨cl, A, r1, r2⟩ := F
  subst hz
  exact X.arraylength hx (by rw [eT]; exact A.1) (State.isArrayOf_alike hZ.alike A.2.1) hg hs hd t (by rw [r1]; exact k)
theorem own_iastore {n : Nat} {f : Nat → Value} {a : Addr} {j x : Int32} {g : JFrame} {rest : List Value} (X : Stand p l e R s m args below meth c T locs cells slots) (hx : p.tables.exec = Jvm.exec) (hZ : Z.Warmed39 s.vm) (eT : T.heap = h) (F : own_A Z h a .int n f) (hj : ¬ (j < 0 ∨ n ≤ j.toNatClampNeg))
    (hg : g.method = m) (hs : g.stack = .int x :: .int j :: .ref a :: rest) (hd : decode c.code g.pc = .ok (.iastore, 1)) :
    ∃ T' h', Stand p l e R s m args below meth c T' (locs ++ [⟨a, j.toNatClampNeg⟩]) cells slots ∧ T'.heap = h' ∧ Wr h h' a j.toNatClampNeg (.int x) ∧ ∀ target, Steps p.tables e below (T'.setTop { g with pc := g.pc + 1, stack := rest }) target → Steps p.tables e below (T.setTop g) target := by
  obtain ⟨cl, A, r1, r2⟩ := F
  exact stI X hx hZ eT A (by rw [r1]; exact hj) hg hs hd
theorem own_lastore {n : Nat} {f : Nat → Value} {a : Addr} {j : Int32} {x : Int64} {g : JFrame} {rest : List Value} (X : Stand p l e R s m args below meth c T locs cells slots) (hx : p.tables.exec = Jvm.exec) (hZ : Z.Warmed39 s.vm) (eT : T.heap = h) (F : own_A Z h a .long n f) (hj : ¬ (j < 0 ∨ n ≤ j.toNatClampNeg))
    (hg : g.method = m) (hs : g.stack = .long x :: .int j :: .ref a :: rest) (hd : decode c.code g.pc = .ok (.lastore, 1)) :
    ∃ T' h', Stand p l e R s m args below meth c T' (locs ++ [⟨a, j.toNatClampNeg⟩]) cells slots ∧ T'.heap = h' ∧ Wr h h' a j.toNatClampNeg (.long x) ∧ ∀ target, Steps p.tables e below (T'.setTop { g with pc := g.pc + 1, stack := rest }) target → Steps p.tables e below (T.setTop g) target := by
  obtain ⟨cl, A, r1, r2⟩ := F
  exact stJ X hx hZ eT A (by rw [r1]; exact hj) hg hs hd
theorem own_bastore {n : Nat} {f : Nat → Value} {a : Addr} {j x : Int32} {g : JFrame} {rest : List Value} (X : Stand p l e R s m args below meth c T locs cells slots) (hx : p.tables.exec = Jvm.exec) (hZ : Z.Warmed39 s.vm) (eT : T.heap = h) (F : own_A Z h a .byte n f) (hj : ¬ (j < 0 ∨ n ≤ j.toNatClampNeg))
    (hg : g.method = m) (hs : g.stack = .int x :: .int j :: .ref a :: rest) (hd : decode c.code g.pc = .ok (.bastore, 1)) :
    ∃ T' h', Stand p l e R s m args below meth c T' (locs ++ [⟨a, j.toNatClampNeg⟩]) cells slots ∧ T'.heap = h' ∧ Wr h h' a j.toNatClampNeg (.int (nar .byte x)) ∧ ∀ target, Steps p.tables e below (T'.setTop { g with pc := g.pc + 1, stack := rest }) target → Steps p.tables e below (T.setTop g) target := by
  obtain ⟨cl, A, r1, r2⟩ := F
  exact stB X hx hZ eT A (by rw [r1]; exact hj) hg hs hd
theorem own_newarr {aty : ArrayType} {n : Int32} {rest : List Value} {g : JFrame} (X : Stand p l e R s m args below meth c T locs cells slots) (hx : p.tables.exec = Jvm.exec) (hZ : Z.Warmed39 s.vm) (w : (Jvm.Cond.arrayClass (newarray.typeOf aty)).before a0 Z = true) (eT : T.heap = h) (hg : g.method = m) (hd : decode c.code g.pc = .ok (.newarray aty, 2)) (hs : g.stack = .int n :: rest)
    (hn : ¬ n < 0) {cap : Nat} (hcap : n.toNatClampNeg ≤ cap) (hb : cap * 8 ≤ 536870912) (hc : cells + 1 ≤ R.cells) (hl : slots + cap ≤ R.slots) :
    ∃ T' h' a, Stand p l e R s m args below meth c T' locs (cells + 1) (slots + cap) ∧ T'.heap = h' ∧ a = h.size ∧ Ext h h' ∧ own_A Z h' a (newarray.typeOf aty) n.toNatClampNeg (fun _ => defaultValue (newarray.typeOf aty)) ∧
      ∀ target, Steps p.tables e below (T'.setTop { g with pc := g.pc + 2, stack := .ref a :: rest }) target → Steps p.tables e below (T.setTop g) target := by
  obtain ⟨T', h', cA, X', e', E', A', st⟩ := newP X hx hZ w eT hg hd hs hn hcap hb hc hl
  exact ⟨T', h', _, X', e', rfl, E', own_A.new A', st⟩
theorem own_new {own C : String} {index n : Nat} {g : JFrame} (X : Stand p l e R s m args below meth c T locs cells slots) (hx : p.tables.exec = Jvm.exec) (hZ : Z.Warmed39 s.vm) (hown : s.vm.findClass own = some m.cls) (w : (Jvm.Cond.classLink own index C).before a0 Z = true) (wi : (Jvm.Cond.instantiable C n).before a0 Z = true) (wz : (Jvm.Cond.initialized C).before a0 Z = true) (eT : T.heap = h)
    (hg : g.method = m) (hd : decode c.code g.pc = .ok (.new index, 3)) (hc : cells + 1 ≤ R.cells) (hl : slots + n ≤ R.slots) :
    ∃ T' h' a, Stand p l e R s m args below meth c T' locs (cells + 1) (slots + n) ∧ T'.heap = h' ∧ a = h.size ∧ Ext h h' ∧ Exa Z h' a C ∧ (∀ {O nm d : String} {ty : FieldType}, Laid Z a0 C O nm d → parseFieldDescriptor d = some ty → Fld Z h' a O nm d (defaultValue ty)) ∧
      ∀ target, Steps p.tables e below (T'.setTop { g with pc := g.pc + 3, stack := .ref a :: g.stack }) target → Steps p.tables e below (T.setTop g) target := by
  obtain ⟨T', h', X', e', E', A', D', -, st⟩ := newO X hx hZ hown w wi wz eT hg hd hc hl
  exact ⟨T', h', _, X', e', rfl, E', A', D', st⟩
theorem own_body {y : MethodName} {bytes : ByteArray} {maxL : Nat} {ret : Option FieldType} {ws : List Jvm.Cond} {rm : Room} {as' : Array Value} {h0 : Heap} (hpl : plainFor y = true)
    (body : ∀ (p : Program) (e : Env) (s : State) (m : MethodId) (below : List Frame) (meth : Method) (c : Code) (s₁ : State), p.tables.exec = Jvm.exec → c.code = bytes → c.maxLocals = maxL → s.vm.findClass y.cls = some m.cls → meth.name = y.name → meth.sig.returnType = ret → meth.locks = false → Z.Warmed39 s.vm → Stand p l e rm s m as' below meth c s₁ [] 0 0 → s₁.heap = h0 → own_Fin p.tables e below s rm Q s₁ (entryFrame m as' maxL)) :
    MetFree l y (head1 (Jvm.Cond.code y bytes maxL ret :: ws) rm) (fun a U => a = as' ∧ Z.Warmed39 U.vm ∧ U.heap = h0) (fun _ _ _ _ _ => True) (fun _ U o U' => ∃ v L, o = .returned v ∧ Q v U'.heap L ∧ FrameEnd U o U' L rm.cells rm.slots) := by
  refine MetFree.of_bodySF hpl hisR ?_
  intro p e s m args below meth c s₁ Bd hml0 hP hK
  obtain ⟨rfl, hZ, hh⟩ := hP
  exact body p e s m below meth c s₁ Bd.exec Bd.bytes hml0 (findClass_of_methodNamed Bd.named) (name_of_methodNamed Bd.named Bd.method).1 Bd.returns Bd.notSynchronized hZ (Stand.of_body Bd) (by rw [← hh, Bd.state]; rfl)
theorem own_callS {own : String} {index : Nat} {y : MethodName} {bytes : ByteArray} {maxL W : Nat} {ret : Option FieldType} {rm : Room} {as' : Array Value} {g : JFrame} {argsL rest : List Value}
    (X : Stand p l e R s m args below meth c T locs cells slots) (hx : p.tables.exec = Jvm.exec) (hZ : Z.Warmed39 s.vm) (hown : s.vm.findClass own = some m.cls)
    (w1 : (Jvm.Cond.methodLink own index y).before a0 Z = true) (w2 : (Jvm.Cond.static y).before a0 Z = true) (w3 : (Jvm.Cond.initialized y.cls).before a0 Z = true) (w4 : (Jvm.Cond.code y bytes maxL ret).before a0 Z = true)
    (hy : y.cls ≠ "java/lang/invoke/MethodHandle" ∧ y.cls ≠ "java/lang/invoke/VarHandle") (eT : T.heap = h)
    (hM : MetFree l y (head1 [Jvm.Cond.code y bytes maxL ret] rm) (fun a U => a = as' ∧ Z.Warmed39 U.vm ∧ U.heap = h) (fun _ _ _ _ _ => True) (fun _ U o U' => ∃ v L, o = .returned v ∧ Q v U'.heap L ∧ FrameEnd U o U' L rm.cells rm.slots))
    (hf : rm.frames + 1 ≤ R.frames) (hl : W + (maxL + 11) + rm.locals ≤ R.locals) (hg : g.method = m) (hsize : g.locals.size = c.maxLocals) (hlen : ∀ sig, parseMethodDescriptor y.desc = some sig → argsL.length = sig.parameters.length)
    (hstack : g.stack = argsL.reverse ++ rest) (has : argsL.toArray = as') (hW : 2 * g.monitorRoom + (rest.map fun v => v.category).sum ≤ W) (hdg : decode c.code g.pc = .ok (.invokestatic index, 3)) (hc : cells + rm.cells ≤ R.cells) (hs : slots + rm.slots ≤ R.slots) :
    ∃ (v : Option Value) (T' : State) (L : List Loc), Stand p l e R s m args below meth c T' (locs ++ L) (cells + rm.cells) (slots + rm.slots) ∧ Q v T'.heap L ∧
      ∀ target, Steps p.tables e below (T'.setTop { g with pc := g.pc + 3, stack := v.toList ++ rest }) target → Steps p.tables e below (T.setTop g) target := by
  obtain ⟨v, _, ⟨T', L', k', n'⟩, -, X', ⟨Lc, hQ, l', y', z'⟩, st⟩ := Jvm.LawKit.callS X hx (y := y) hown (mvT hZ w1) (mvT hZ w2) (mvT hZ w3) (mvT hZ w4) hy (backOf (W := W) hM hZ w4 w3 hf hl) hg hsize hlen hstack hW hdg (fun _ _ => ⟨has, eT, hc, hs⟩)
  dsimp only [Pt.U, Pt.locs, Pt.cells, Pt.slots] at X' l' y' z' st hQ
  subst l' y' z'
  exact ⟨v, T', Lc, X', hQ, st⟩
theorem own_callN {own : String} {index : Nat} {y : MethodName} {bytes : ByteArray} {maxL W : Nat} {rm : Room} {as' : Array Value} {g : JFrame} {a : Addr} {argsL rest : List Value}
    (X : Stand p l e R s m args below meth c T locs cells slots) (hx : p.tables.exec = Jvm.exec) (hZ : Z.Warmed39 s.vm) (hy1 : y.name = "<init>") (hown : s.vm.findClass own = some m.cls)
    (w1 : (Jvm.Cond.methodLink own index y).before a0 Z = true) (w2 : (Jvm.Cond.instanceMethod y).before a0 Z = true) (w3 : (Jvm.Cond.initialized y.cls).before a0 Z = true) (w4 : (Jvm.Cond.code y bytes maxL none).before a0 Z = true)
    (hy : y.cls ≠ "java/lang/invoke/MethodHandle" ∧ y.cls ≠ "java/lang/invoke/VarHandle") (eT : T.heap = h)
    (hM : MetFree l y (head1 [Jvm.Cond.code y bytes maxL none] rm) (fun a U => a = as' ∧ Z.Warmed39 U.vm ∧ U.heap = h) (fun _ _ _ _ _ => True) (fun _ U o U' => ∃ v L, o = .returned v ∧ Q v U'.heap L ∧ FrameEnd U o U' L rm.cells rm.slots))
    (hf : rm.frames + 1 ≤ R.frames) (hl : W + (maxL + 11) + rm.locals ≤ R.locals) (hg : g.method = m) (hsize : g.locals.size = c.maxLocals) (hlen : ∀ sig, parseMethodDescriptor y.desc = some sig → argsL.length = sig.parameters.length)
    (hstack : g.stack = argsL.reverse ++ .ref a :: rest) (has : (.ref a :: argsL).toArray = as') (hW : 2 * g.monitorRoom + (rest.map fun v => v.category).sum ≤ W) (hdg : decode c.code g.pc = .ok (.invokespecial index, 3)) (hc : cells + rm.cells ≤ R.cells) (hs : slots + rm.slots ≤ R.slots) :
    ∃ (v : Option Value) (T' : State) (L : List Loc), Stand p l e R s m args below meth c T' (locs ++ L) (cells + rm.cells) (slots + rm.slots) ∧ Q v T'.heap L ∧
      ∀ target, Steps p.tables e below (T'.setTop { g with pc := g.pc + 3, stack := v.toList ++ rest }) target → Steps p.tables e below (T.setTop g) target := by
  obtain ⟨v, _, ⟨T', L', k', n'⟩, -, X', ⟨Lc, hQ, l', y', z'⟩, st⟩ := X.specialBack hx (y := y) hy1 hown (mvT hZ w1) (mvT hZ w2) (mvT hZ w4) hy (backOf (W := W) hM hZ w4 w3 hf hl) hg hsize (Steps.refl _) (a := a) hlen hstack hW hdg (fun _ _ => ⟨has, eT, hc, hs⟩)
  dsimp only [Pt.U, Pt.locs, Pt.cells, Pt.slots] at X' l' y' z' st hQ
  subst l' y' z'
  exact ⟨v, T', Lc, X', hQ, fun _ k => st.trans k⟩
theorem own_callV {own C : String} {index : Nat} {y : MethodName} {bytes : ByteArray} {maxL W : Nat} {ret : Option FieldType} {rm : Room} {as' : Array Value} {g : JFrame} {a : Addr} {argsL rest : List Value}
    (X : Stand p l e R s m args below meth c T locs cells slots) (hx : p.tables.exec = Jvm.exec) (hZ : Z.Warmed39 s.vm) (hown : s.vm.findClass own = some m.cls)
    (w1 : (Jvm.Cond.methodLink own index y).before a0 Z = true) (w2 : (Jvm.Cond.declares y).before a0 Z = true) (w3 : (Jvm.Cond.selects C y y).before a0 Z = true) (w4 : (Jvm.Cond.instanceMethod y).before a0 Z = true) (w5 : (Jvm.Cond.initialized y.cls).before a0 Z = true) (w6 : (Jvm.Cond.code y bytes maxL ret).before a0 Z = true)
    (hy : y.cls ≠ "java/lang/invoke/MethodHandle" ∧ y.cls ≠ "java/lang/invoke/VarHandle") (eT : T.heap = h) (E : Exa Z h a C)
    (hM : MetFree l y (head1 [Jvm.Cond.code y bytes maxL ret] rm) (fun a U => a = as' ∧ Z.Warmed39 U.vm ∧ U.heap = h) (fun _ _ _ _ _ => True) (fun _ U o U' => ∃ v L, o = .returned v ∧ Q v U'.heap L ∧ FrameEnd U o U' L rm.cells rm.slots))
    (hf : rm.frames + 1 ≤ R.frames) (hl : W + (maxL + 11) + rm.locals ≤ R.locals) (hg : g.method = m) (hsize : g.locals.size = c.maxLocals) (hlen : ∀ sig, parseMethodDescriptor y.desc = some sig → argsL.length = sig.parameters.length)
    (hstack : g.stack = argsL.reverse ++ .ref a :: rest) (has : (.ref a :: argsL).toArray = as') (hW : 2 * g.monitorRoom + (rest.map fun v => v.category).sum ≤ W) (hdg : decode c.code g.pc = .ok (.invokevirtual index, 3)) (hc : cells + rm.cells ≤ R.cells) (hs : slots + rm.slots ≤ R.slots) :
    ∃ (v : Option Value) (T' : State) (L : List Loc), Stand p l e R s m args below meth c T' (locs ++ L) (cells + rm.cells) (slots + rm.slots) ∧ Q v T'.heap L ∧
      ∀ target, Steps p.tables e below (T'.setTop { g with pc := g.pc + 3, stack := v.toList ++ rest }) target → Steps p.tables e below (T.setTop g) target := by
  obtain ⟨cq, kq, qa, qb, qc⟩ := isOf hZ eT E
  obtain ⟨v, _, ⟨T', L', k', n'⟩, -, X', ⟨Lc, hQ, l', y', z'⟩, st⟩ := X.virtualBack hx (y := y) (z := y) hown (mvT hZ w1) (mvT hZ w2) (notFace_of_selects (args := args) (mvT hZ w3)) (mvT hZ w3) (mvT hZ w4) hy (backOf (W := W) hM hZ w6 w5 hf hl) qa qc hg hsize (Steps.refl _) hlen hstack hW hdg (fun _ _ => ⟨has, eT, hc, hs⟩)
  dsimp only [Pt.U, Pt.locs, Pt.cells, Pt.slots] at X' l' y' z' st hQ
  subst l' y' z'
  exact ⟨v, T', Lc, X', hQ, fun _ k => st.trans k⟩
end OwnStand
/-- the path's array: the count at 32, the entries from 33 on -/
def own_is (cf : Nat → Int32) (xs : List Int32) : Prop := cf 32 = Int32.ofNat xs.length ∧ ∀ i, i < xs.length → cf (33 + i) = xs.getD i 0
theorem own_ofNat (n : Nat) (h : n < 2147483648) : (Int32.ofNat n).toInt = n := Int32.toInt_ofNat_of_lt h
theorem own_idx (j : Int32) (n : Nat) (h0 : 0 ≤ j.toInt) (h1 : j.toInt < n) : ¬ (j < 0 ∨ n ≤ j.toNatClampNeg) := by
  have e : j.toNatClampNeg = j.toInt.toNat := rfl
  intro q
  rcases q with q | q
  · rw [Int32.lt_iff_toInt_lt] at q
    have : (0 : Int32).toInt = 0 := by decide
    omega
  · omega
theorem own_clamp (j : Int32) (k : Nat) (h : j.toInt = k) : j.toNatClampNeg = k := by
  have e : j.toNatClampNeg = j.toInt.toNat := rfl
  omega
theorem own_lt32 (x y : Int32) : x < y ↔ x.toInt < y.toInt := Int32.lt_iff_toInt_lt
theorem own_eq32 (x y : Int32) : x = y ↔ x.toInt = y.toInt := Int32.toInt_inj.symm
theorem own_dec (x : Int32) (h : 0 ≤ x.toInt) : (x + (-1 : Int32)).toInt = x.toInt - 1 := by
  rw [Int32.toInt_add, show (-1 : Int32).toInt = -1 by decide]
  have := x.toInt_lt
  exact Int.bmod_eq_of_le (by omega) (by omega)
/-- the last place below k that holds x, or -1 -/
def own_lif (xs : List Int32) (x : Int32) : Nat → Int32
  | 0 => -1
  | k + 1 => if xs.getD k 0 = x then Int32.ofNat k else own_lif xs x k
theorem own_is_enter {cf : Nat → Int32} {xs : List Int32} (x k : Int32) (h : own_is cf xs) (hk : cf 32 = k) (hl : xs.length < 8) : own_is (fun i => if i = 32 then k + 1 else if i = 33 + xs.length then x else cf i) (xs ++ [x]) := by
  refine ⟨?_, fun i hi => ?_⟩
  · show k + 1 = _
    rw [← hk, h.1, List.length_append]
    apply Int32.toInt_inj.mp
    have h1 := c_iadd (Int32.ofNat xs.length) 1
    have h2 := rng32 (Int32.ofNat xs.length + 1)
    have h3 := own_ofNat xs.length (by omega)
    have h4 := own_ofNat (xs.length + [x].length) (by simp; omega)
    have k1 : (1 : Int32).toInt = 1 := by decide
    have k2 : [x].length = 1 := rfl
    omega
  · have hi' : i < xs.length + 1 := by simpa using hi
    have n32 : ¬ 33 + i = 32 := by omega
    show (if 33 + i = 32 then k + 1 else if 33 + i = 33 + xs.length then x else cf (33 + i)) = _
    rw [if_neg n32]
    by_cases g : i = xs.length
    · subst g; simp
    · rw [if_neg (by omega), h.2 i (by omega)]
      simp only [List.getD_eq_getElem?_getD]
      rw [List.getElem?_append_left (by omega)]
theorem own_is_leave {cf : Nat → Int32} {xs : List Int32} (h : own_is cf xs) (h0 : 0 < xs.length) (hl : xs.length ≤ 8) : own_is (fun i => if i = 32 then cf 32 - 1 else cf i) xs.dropLast := by
  refine ⟨?_, fun i hi => ?_⟩
  · show cf 32 - 1 = _
    rw [h.1, List.length_dropLast]
    apply Int32.toInt_inj.mp
    have h1 := c_isub (Int32.ofNat xs.length) 1
    have h2 := rng32 (Int32.ofNat xs.length - 1)
    have h3 := own_ofNat xs.length (by omega)
    have h4 := own_ofNat (xs.length - 1) (by omega)
    have k1 : (1 : Int32).toInt = 1 := by decide
    omega
  · rw [List.length_dropLast] at hi
    have n32 : ¬ 33 + i = 32 := by omega
    show (if 33 + i = 32 then cf 32 - 1 else cf (33 + i)) = _
    rw [if_neg n32, h.2 i (by omega)]
    simp only [List.getD_eq_getElem?_getD]
    rw [List.getElem?_dropLast, if_pos hi]
theorem d1_0 : decode prog_4_method_1_code 0 = .ok (.aload_n 0, 1) := by decide +kernel
theorem d1_1 : decode prog_4_method_1_code 1 = .ok (.invokespecial 3, 3) := by decide +kernel
theorem d1_4 : decode prog_4_method_1_code 4 = .ok (.aload_n 0, 1) := by decide +kernel
theorem d1_5 : decode prog_4_method_1_code 5 = .ok (.bipush 73, 2) := by decide +kernel
theorem d1_7 : decode prog_4_method_1_code 7 = .ok (.newarray .int, 2) := by decide +kernel
theorem d1_9 : decode prog_4_method_1_code 9 = .ok (.putfield 9, 3) := by decide +kernel
theorem d1_12 : decode prog_4_method_1_code 12 = .ok (.return_, 1) := by decide +kernel
theorem pn_1 : plainFor (⟨"com/example/hoist/hoist/CreationPath", "<init>", "()V"⟩ : MethodName) = true := plainFor_of_name (by first | (simp [plainName, overriddenIn]; done) | decide +kernel)
theorem ef_1 (m : MethodId) (a : Addr) : entryFrame m #[(.ref a)] 1 = mkF m 0 #[.val (.ref a)] [] := by first | (simp [entryFrame, mkF, argsToLocals, Value.category]; done) | rfl
def Q1 (Z : State) (a : Addr) (hI : Heap) (n0 : Nat) (v : Option Value) (h : Heap) (L : List Loc) : Prop := ∃ (t : Addr), v = none ∧ Fr n0 L ∧ Keep hI h [a] ∧ Exa Z h a "com/example/hoist/hoist/CreationPath" ∧ Fld Z h a "com/example/hoist/hoist/CreationPath" "slots" "[I" (.ref t) ∧ own_A Z h t .int 73 (fun _ => .int (0 : Int32)) ∧ n0 ≤ t ∧ a ≠ t
set_option maxRecDepth 65536 in
set_option maxHeartbeats 40000000 in
theorem rm1 (l : Launch) (Z : State) (a0 : Array Value) (hw : ∀ d ∈ tables_1, d.before a0 Z = true) (ws : List Jvm.Cond) (a : Addr) (hI : Heap) (n0 : Nat) (Z0 : n0 ≤ hI.size) (E_a : Exa Z hI a "com/example/hoist/hoist/CreationPath") (ge_a : n0 ≤ a) (Ff : Fld Z hI a "com/example/hoist/hoist/CreationPath" "slots" "[I" .null) :
    MetFree l (⟨"com/example/hoist/hoist/CreationPath", "<init>", "()V"⟩ : MethodName) (head1 (Jvm.Cond.code (⟨"com/example/hoist/hoist/CreationPath", "<init>", "()V"⟩ : MethodName) prog_4_method_1_code 1 none :: ws) ({ frames := 1, cells := 1, slots := 73, locals := 12 } : Room)) (fun xa U => xa = #[(.ref a)] ∧ Z.Warmed39 U.vm ∧ U.heap = hI) (fun _ _ _ _ _ => True) (fun _ U o U' => ∃ v L, o = .returned v ∧ Q1 Z a hI n0 v U'.heap L ∧ FrameEnd U o U' L ({ frames := 1, cells := 1, slots := 73, locals := 12 } : Room).cells ({ frames := 1, cells := 1, slots := 73, locals := 12 } : Room).slots) := by
  refine own_body pn_1 ?_
  intro p e s m below meth c s₁ hx hby hml hown hnm hret hlk hZ XI eI
  obtain ⟨F, hF⟩ : ∃ F : State → JFrame → Prop, F = own_Fin p.tables e below s ({ frames := 1, cells := 1, slots := 73, locals := 12 } : Room) (Q1 Z a hI n0) := ⟨_, rfl⟩
  have hst : ∀ {T T' : State} {g g' : JFrame}, (∀ t, Steps p.tables e below (T'.setTop g') t → Steps p.tables e below (T.setTop g) t) → F T' g' → F T g := by subst hF; exact own_st
  have NI := Fr.nil n0
  show own_Fin p.tables e below s ({ frames := 1, cells := 1, slots := 73, locals := 12 } : Room) (Q1 Z a hI n0) s₁ (entryFrame m #[(.ref a)] 1)
  rw [← hF]
  rw [ef_1]
  show F s₁ (mkF m 0 #[.val (.ref a)] [])
  refine hst (fun t₀ k₀ => XS.aloadN XI.here hx rfl (hb hby d1_0) rfl rfl k₀) ?_
  show F s₁ (mkF m 1 #[.val (.ref a)] [(.ref a)])
  obtain ⟨T1, X1, e1, st1⟩ := initO XI hx hZ hown (hw _ (List.mem_of_getElem? (i := 6) rfl)) (hw _ (List.mem_of_getElem? (i := 7) rfl)) (hw _ (List.mem_of_getElem? (i := 8) rfl)) eI (g := (mkF m 1 #[.val (.ref a)] [(.ref a)])) rfl (by rw [hml]; rfl) rfl (hb hby d1_1) (by decide) (W := 0) (by show 2 * 0 + _ ≤ _; exact Nat.le_of_eq rfl) (by decide)
  refine hst st1 ?_
  show F T1 (mkF m 4 #[.val (.ref a)] [])
  refine hst (fun t₀ k₀ => XS.aloadN X1.here hx rfl (hb hby d1_4) rfl rfl k₀) ?_
  show F T1 (mkF m 5 #[.val (.ref a)] [(.ref a)])
  refine hst (fun t₀ k₀ => XS.bipush X1.here hx rfl (hb hby d1_5) k₀) ?_
  show F T1 (mkF m 7 #[.val (.ref a)] [(.int (73 : Int32)), (.ref a)])
  obtain ⟨T7, h7, b7, X7, e7, g7, E7, A7, st7⟩ := own_newarr X1 hx hZ (hw _ (List.mem_of_getElem? (i := 9) rfl)) e1 (g := (mkF m 7 #[.val (.ref a)] [(.int (73 : Int32)), (.ref a)])) rfl (hb hby d1_7) rfl (by decide) (cap := 73) (by decide) (by decide) (by decide) (by decide)
  have ne_a_b7 : a ≠ b7 := Nat.ne_of_lt (Nat.lt_of_lt_of_le E_a.lt (Nat.le_of_eq g7.symm))
  have ge_b7 : n0 ≤ b7 := Nat.le_trans Z0 (Nat.le_of_eq g7.symm)
  have sz_b7 : hI.size ≤ b7 := Nat.le_trans (Keep.refl hI [a]).1 (Nat.le_of_eq g7.symm)
  have E_a_p7 : Exa Z h7 a "com/example/hoist/hoist/CreationPath" := E_a.ext E7
  have Ff_p7 : Fld Z h7 a "com/example/hoist/hoist/CreationPath" "slots" "[I" .null := Ff.ext E7
  have Z0_p7 : n0 ≤ h7.size := (Nat.le_trans Z0 E7.1)
  have K_p7 : Keep hI h7 [a] := (Keep.refl hI [a]).ext E7
  have A_b7 : own_A Z h7 b7 .int 73 (fun _ => (.int (0 : Int32))) := A7
  refine hst st7 ?_
  show F T7 (mkF m 9 #[.val (.ref a)] [(.ref b7), (.ref a)])
  obtain ⟨T9, h9, X9, e9, W9, st9⟩ := putF X7 hx hZ hown (host := "") (Or.inl (hw _ (List.mem_of_getElem? (i := 10) rfl))) Via.refl e7 Ff_p7 E_a_p7 (Or.inl (hw _ (List.mem_of_getElem? (i := 11) rfl))) (hw _ (List.mem_of_getElem? (i := 1) rfl)) (ty := (.array .int)) (by decide) rfl rfl (g := (mkF m 9 #[.val (.ref a)] [(.ref b7), (.ref a)])) rfl rfl (hb hby d1_9)
  have N9 := Fr.snoc X9 NI ge_a
  have E_a_p9 : Exa Z h9 a "com/example/hoist/hoist/CreationPath" := E_a_p7.wr W9
  have Ff_p9 : Fld Z h9 a "com/example/hoist/hoist/CreationPath" "slots" "[I" (.ref b7) := Ff_p7.same W9
  have A_b7_p9 : own_A Z h9 b7 .int 73 (fun _ => (.int (0 : Int32))) := A_b7.other W9 (Ne.symm ne_a_b7)
  have Z0_p9 : n0 ≤ h9.size := Nat.le_trans Z0_p7 (Keep.of_wr W9).1
  have K_p9 : Keep hI h9 [a] := K_p7.wr W9 (Or.inl (List.mem_of_getElem? (i := 0) rfl))
  refine hst st9 ?_
  show F T9 (mkF m 12 #[.val (.ref a)] [])
  rw [hF]
  refine own_retV X9 hx hret hlk (hb hby d1_12) (by decide) (by decide) ?_
  rw [e9]
  exact ⟨b7, rfl, N9, K_p9, E_a_p9, Ff_p9, A_b7_p9, ge_b7, ne_a_b7⟩
theorem d4_0 : decode prog_4_method_2_code 0 = .ok (.aload_n 0, 1) := by decide +kernel
theorem d4_1 : decode prog_4_method_2_code 1 = .ok (.getfield 9, 3) := by decide +kernel
theorem d4_4 : decode prog_4_method_2_code 4 = .ok (.astore_n 2, 1) := by decide +kernel
theorem d4_5 : decode prog_4_method_2_code 5 = .ok (.aload_n 2, 1) := by decide +kernel
theorem d4_6 : decode prog_4_method_2_code 6 = .ok (.bipush 32, 2) := by decide +kernel
theorem d4_8 : decode prog_4_method_2_code 8 = .ok (.iaload, 1) := by decide +kernel
theorem d4_9 : decode prog_4_method_2_code 9 = .ok (.istore_n 3, 1) := by decide +kernel
theorem d4_10 : decode prog_4_method_2_code 10 = .ok (.bipush 33, 2) := by decide +kernel
theorem d4_12 : decode prog_4_method_2_code 12 = .ok (.iload_n 3, 1) := by decide +kernel
theorem d4_13 : decode prog_4_method_2_code 13 = .ok (.iadd, 1) := by decide +kernel
theorem d4_14 : decode prog_4_method_2_code 14 = .ok (.bipush 32, 2) := by decide +kernel
theorem d4_16 : decode prog_4_method_2_code 16 = .ok (.iadd, 1) := by decide +kernel
theorem d4_17 : decode prog_4_method_2_code 17 = .ok (.aload_n 2, 1) := by decide +kernel
theorem d4_18 : decode prog_4_method_2_code 18 = .ok (.arraylength, 1) := by decide +kernel
theorem d4_19 : decode prog_4_method_2_code 19 = .ok (.if_icmp .ne 22, 3) := by decide +kernel
theorem d4_41 : decode prog_4_method_2_code 41 = .ok (.aload_n 2, 1) := by decide +kernel
theorem d4_42 : decode prog_4_method_2_code 42 = .ok (.bipush 33, 2) := by decide +kernel
theorem d4_44 : decode prog_4_method_2_code 44 = .ok (.iload_n 3, 1) := by decide +kernel
theorem d4_45 : decode prog_4_method_2_code 45 = .ok (.iadd, 1) := by decide +kernel
theorem d4_46 : decode prog_4_method_2_code 46 = .ok (.iload_n 1, 1) := by decide +kernel
theorem d4_47 : decode prog_4_method_2_code 47 = .ok (.iastore, 1) := by decide +kernel
theorem d4_48 : decode prog_4_method_2_code 48 = .ok (.aload_n 2, 1) := by decide +kernel
theorem d4_49 : decode prog_4_method_2_code 49 = .ok (.bipush 32, 2) := by decide +kernel
theorem d4_51 : decode prog_4_method_2_code 51 = .ok (.iload_n 3, 1) := by decide +kernel
theorem d4_52 : decode prog_4_method_2_code 52 = .ok (.iconst 1, 1) := by decide +kernel
theorem d4_53 : decode prog_4_method_2_code 53 = .ok (.iadd, 1) := by decide +kernel
theorem d4_54 : decode prog_4_method_2_code 54 = .ok (.iastore, 1) := by decide +kernel
theorem d4_55 : decode prog_4_method_2_code 55 = .ok (.return_, 1) := by decide +kernel
theorem pn_4 : plainFor (⟨"com/example/hoist/hoist/CreationPath", "enter", "(I)V"⟩ : MethodName) = true := plainFor_of_name (by first | (simp [plainName, overriddenIn]; done) | decide +kernel)
theorem ef_4 (m : MethodId) (a : Addr) (x : Int32) : entryFrame m #[(.ref a), (.int x)] 4 = mkF m 0 #[.val (.ref a), .val (.int x), .unset, .unset] [] := by first | (simp [entryFrame, mkF, argsToLocals, Value.category]; done) | rfl
def Q4 (Z : State) (a : Addr) (x : Int32) (t : Addr) (cf : Nat → Int32) (xs : List Int32) (hI : Heap) (n0 : Nat) (v : Option Value) (h : Heap) (L : List Loc) : Prop := ∃ (cf2 : Nat → Int32), v = none ∧ Fr n0 L ∧ Keep hI h [t] ∧ own_A Z h t .int 73 (fun i => .int (cf2 i)) ∧ own_is cf2 (xs ++ [x])
set_option maxRecDepth 65536 in
set_option maxHeartbeats 40000000 in
theorem rm4 (l : Launch) (Z : State) (a0 : Array Value) (hw : ∀ d ∈ tables_1, d.before a0 Z = true) (ws : List Jvm.Cond) (a : Addr) (x : Int32) (t : Addr) (cf : Nat → Int32) (xs : List Int32) (hI : Heap) (n0 : Nat) (Z0 : n0 ≤ hI.size) (Ff : Fld Z hI a "com/example/hoist/hoist/CreationPath" "slots" "[I" (.ref t)) (Ar : own_A Z hI t .int 73 (fun i => .int (cf i))) (ge_t : n0 ≤ t) (his : own_is cf xs) (hl : xs.length < 8) (ne_a_t : a ≠ t) :
    MetFree l (⟨"com/example/hoist/hoist/CreationPath", "enter", "(I)V"⟩ : MethodName) (head1 (Jvm.Cond.code (⟨"com/example/hoist/hoist/CreationPath", "enter", "(I)V"⟩ : MethodName) prog_4_method_2_code 4 none :: ws) ({ frames := 0, cells := 0, slots := 0, locals := 0 } : Room)) (fun xa U => xa = #[(.ref a), (.int x)] ∧ Z.Warmed39 U.vm ∧ U.heap = hI) (fun _ _ _ _ _ => True) (fun _ U o U' => ∃ v L, o = .returned v ∧ Q4 Z a x t cf xs hI n0 v U'.heap L ∧ FrameEnd U o U' L ({ frames := 0, cells := 0, slots := 0, locals := 0 } : Room).cells ({ frames := 0, cells := 0, slots := 0, locals := 0 } : Room).slots) := by
  refine own_body pn_4 ?_
  intro p e s m below meth c s₁ hx hby hml hown hnm hret hlk hZ XI eI
  obtain ⟨F, hF⟩ : ∃ F : State → JFrame → Prop, F = own_Fin p.tables e below s ({ frames := 0, cells := 0, slots := 0, locals := 0 } : Room) (Q4 Z a x t cf xs hI n0) := ⟨_, rfl⟩
  have hst : ∀ {T T' : State} {g g' : JFrame}, (∀ t, Steps p.tables e below (T'.setTop g') t → Steps p.tables e below (T.setTop g) t) → F T' g' → F T g := by subst hF; exact own_st
  have NI := Fr.nil n0
  show own_Fin p.tables e below s ({ frames := 0, cells := 0, slots := 0, locals := 0 } : Room) (Q4 Z a x t cf xs hI n0) s₁ (entryFrame m #[(.ref a), (.int x)] 4)
  rw [← hF]
  rw [ef_4]
  show F s₁ (mkF m 0 #[.val (.ref a), .val (.int x), .unset, .unset] [])
  have k32 : (32 : Int32).toInt = 32 := by decide
  have k33 : (33 : Int32).toInt = 33 := by decide
  have k1 : (1 : Int32).toInt = 1 := by decide
  have k73 : (73 : Int32).toInt = 73 := by decide
  refine hst (fun t₀ k₀ => XS.aloadN XI.here hx rfl (hb hby d4_0) rfl rfl k₀) ?_
  show F s₁ (mkF m 1 #[.val (.ref a), .val (.int x), .unset, .unset] [(.ref a)])
  obtain ⟨T1, X1, e1, st1⟩ := getF XI hx hZ hown (host := "") (Or.inl (hw _ (List.mem_of_getElem? (i := 10) rfl))) Via.refl eI Ff (g := (mkF m 1 #[.val (.ref a), .val (.int x), .unset, .unset] [(.ref a)])) rfl rfl (hb hby d4_1)
  refine hst st1 ?_
  show F T1 (mkF m 4 #[.val (.ref a), .val (.int x), .unset, .unset] [(.ref t)])
  refine hst (fun t₀ k₀ => XS.astoreN X1.here hx rfl (hb hby d4_4) rfl rfl (l' := #[.val (.ref a), .val (.int x), .val (.ref t), .unset]) rfl k₀) ?_
  show F T1 (mkF m 5 #[.val (.ref a), .val (.int x), .val (.ref t), .unset] [])
  refine hst (fun t₀ k₀ => XS.aloadN X1.here hx rfl (hb hby d4_5) rfl rfl k₀) ?_
  show F T1 (mkF m 6 #[.val (.ref a), .val (.int x), .val (.ref t), .unset] [(.ref t)])
  refine hst (fun t₀ k₀ => XS.bipush X1.here hx rfl (hb hby d4_6) k₀) ?_
  show F T1 (mkF m 8 #[.val (.ref a), .val (.int x), .val (.ref t), .unset] [(.int (32 : Int32)), (.ref t)])
  refine hst (fun t₀ k₀ => own_iaload X1 hx hZ e1 Ar (by decide) (v := (.int (cf 32))) rfl (g := (mkF m 8 #[.val (.ref a), .val (.int x), .val (.ref t), .unset] [(.int (32 : Int32)), (.ref t)])) rfl rfl (hb hby d4_8) t₀ k₀) ?_
  show F T1 (mkF m 9 #[.val (.ref a), .val (.int x), .val (.ref t), .unset] [(.int (cf 32))])
  generalize hk : (cf 32) = k
  show F T1 (mkF m 9 #[.val (.ref a), .val (.int x), .val (.ref t), .unset] [(.int k)])
  have kk : k.toInt = xs.length := by rw [← hk, his.1]; exact own_ofNat _ (by omega)
  refine hst (fun t₀ k₀ => XS.istoreN X1.here hx rfl (hb hby d4_9) rfl (l' := #[.val (.ref a), .val (.int x), .val (.ref t), .val (.int k)]) rfl k₀) ?_
  show F T1 (mkF m 10 #[.val (.ref a), .val (.int x), .val (.ref t), .val (.int k)] [])
  refine hst (fun t₀ k₀ => XS.bipush X1.here hx rfl (hb hby d4_10) k₀) ?_
  show F T1 (mkF m 12 #[.val (.ref a), .val (.int x), .val (.ref t), .val (.int k)] [(.int (33 : Int32))])
  refine hst (fun t₀ k₀ => XS.iloadN X1.here hx rfl (hb hby d4_12) rfl k₀) ?_
  show F T1 (mkF m 13 #[.val (.ref a), .val (.int x), .val (.ref t), .val (.int k)] [(.int k), (.int (33 : Int32))])
  refine hst (fun t₀ k₀ => XS.iadd X1.here hx rfl (hb hby d4_13) rfl k₀) ?_
  show F T1 (mkF m 14 #[.val (.ref a), .val (.int x), .val (.ref t), .val (.int k)] [(.int ((33 : Int32) + k))])
  refine hst (fun t₀ k₀ => XS.bipush X1.here hx rfl (hb hby d4_14) k₀) ?_
  show F T1 (mkF m 16 #[.val (.ref a), .val (.int x), .val (.ref t), .val (.int k)] [(.int (32 : Int32)), (.int ((33 : Int32) + k))])
  refine hst (fun t₀ k₀ => XS.iadd X1.here hx rfl (hb hby d4_16) rfl k₀) ?_
  show F T1 (mkF m 17 #[.val (.ref a), .val (.int x), .val (.ref t), .val (.int k)] [(.int (((33 : Int32) + k) + (32 : Int32)))])
  refine hst (fun t₀ k₀ => XS.aloadN X1.here hx rfl (hb hby d4_17) rfl rfl k₀) ?_
  show F T1 (mkF m 18 #[.val (.ref a), .val (.int x), .val (.ref t), .val (.int k)] [(.ref t), (.int (((33 : Int32) + k) + (32 : Int32)))])
  refine hst (fun t₀ k₀ => own_alen X1 hx hZ e1 Ar (z := (73 : Int32)) (by decide) (g := (mkF m 18 #[.val (.ref a), .val (.int x), .val (.ref t), .val (.int k)] [(.ref t), (.int (((33 : Int32) + k) + (32 : Int32)))])) rfl rfl (hb hby d4_18) t₀ k₀) ?_
  show F T1 (mkF m 19 #[.val (.ref a), .val (.int x), .val (.ref t), .val (.int k)] [(.int (73 : Int32)), (.int (((33 : Int32) + k) + (32 : Int32)))])
  refine hst (fun t₀ k₀ => XS.icmpYes X1.here hx rfl (pc0 := 19) (pc' := 41) rfl (hb hby d4_19) rfl (feq (by intro q; rw [own_eq32] at q; have h1 := c_iadd 33 k; have h2 := c_iadd (33 + k) 32; have h3 := rng32 (33 + k); have h4 := rng32 (33 + k + 32); omega)).2 (by decide) (by decide) k₀) ?_
  show F T1 (mkF m 41 #[.val (.ref a), .val (.int x), .val (.ref t), .val (.int k)] [])
  refine hst (fun t₀ k₀ => XS.aloadN X1.here hx rfl (hb hby d4_41) rfl rfl k₀) ?_
  show F T1 (mkF m 42 #[.val (.ref a), .val (.int x), .val (.ref t), .val (.int k)] [(.ref t)])
  refine hst (fun t₀ k₀ => XS.bipush X1.here hx rfl (hb hby d4_42) k₀) ?_
  show F T1 (mkF m 44 #[.val (.ref a), .val (.int x), .val (.ref t), .val (.int k)] [(.int (33 : Int32)), (.ref t)])
  refine hst (fun t₀ k₀ => XS.iloadN X1.here hx rfl (hb hby d4_44) rfl k₀) ?_
  show F T1 (mkF m 45 #[.val (.ref a), .val (.int x), .val (.ref t), .val (.int k)] [(.int k), (.int (33 : Int32)), (.ref t)])
  refine hst (fun t₀ k₀ => XS.iadd X1.here hx rfl (hb hby d4_45) rfl k₀) ?_
  show F T1 (mkF m 46 #[.val (.ref a), .val (.int x), .val (.ref t), .val (.int k)] [(.int ((33 : Int32) + k)), (.ref t)])
  generalize hix : ((33 : Int32) + k) = ix
  show F T1 (mkF m 46 #[.val (.ref a), .val (.int x), .val (.ref t), .val (.int k)] [(.int ix), (.ref t)])
  have kix : ix.toInt = ((33 + xs.length : Nat) : Int) := by have h1 := c_iadd 33 k; have h2 := rng32 ix; rw [hix] at h1; omega
  refine hst (fun t₀ k₀ => XS.iloadN X1.here hx rfl (hb hby d4_46) rfl k₀) ?_
  show F T1 (mkF m 47 #[.val (.ref a), .val (.int x), .val (.ref t), .val (.int k)] [(.int x), (.int ix), (.ref t)])
  obtain ⟨T47, h47, X47, e47, W47, st47⟩ := own_iastore X1 hx hZ e1 Ar (own_idx ix 73 (by omega) (by omega)) (g := (mkF m 47 #[.val (.ref a), .val (.int x), .val (.ref t), .val (.int k)] [(.int x), (.int ix), (.ref t)])) rfl rfl (hb hby d4_47)
  have N47 := Fr.snoc X47 NI ge_t
  have Ff_p47 : Fld Z h47 a "com/example/hoist/hoist/CreationPath" "slots" "[I" (.ref t) := Ff.other W47 (Or.inl ne_a_t)
  have Ar_p47 : own_A Z h47 t .int 73 (fun i => if i = Int32.toNatClampNeg ix then (.int x) else (fun i => .int (cf i)) i) := Ar.set W47
  have Z0_p47 : n0 ≤ h47.size := Nat.le_trans Z0 (Keep.of_wr W47).1
  have K_p47 : Keep hI h47 [t] := (Keep.refl hI [t]).wr W47 (Or.inl (List.mem_of_getElem? (i := 0) rfl))
  refine hst st47 ?_
  have Ar_p47c : own_A Z h47 t .int 73 (fun i => .int (if i = 33 + xs.length then x else cf i)) := own_A.congr Ar_p47 (fun i hi => by rw [own_clamp ix _ kix]; split <;> rfl)
  show F T47 (mkF m 48 #[.val (.ref a), .val (.int x), .val (.ref t), .val (.int k)] [])
  refine hst (fun t₀ k₀ => XS.aloadN X47.here hx rfl (hb hby d4_48) rfl rfl k₀) ?_
  show F T47 (mkF m 49 #[.val (.ref a), .val (.int x), .val (.ref t), .val (.int k)] [(.ref t)])
  refine hst (fun t₀ k₀ => XS.bipush X47.here hx rfl (hb hby d4_49) k₀) ?_
  show F T47 (mkF m 51 #[.val (.ref a), .val (.int x), .val (.ref t), .val (.int k)] [(.int (32 : Int32)), (.ref t)])
  refine hst (fun t₀ k₀ => XS.iloadN X47.here hx rfl (hb hby d4_51) rfl k₀) ?_
  show F T47 (mkF m 52 #[.val (.ref a), .val (.int x), .val (.ref t), .val (.int k)] [(.int k), (.int (32 : Int32)), (.ref t)])
  refine hst (fun t₀ k₀ => XS.iconst X47.here hx rfl (hb hby d4_52) k₀) ?_
  show F T47 (mkF m 53 #[.val (.ref a), .val (.int x), .val (.ref t), .val (.int k)] [(.int (1 : Int32)), (.int k), (.int (32 : Int32)), (.ref t)])
  refine hst (fun t₀ k₀ => XS.iadd X47.here hx rfl (hb hby d4_53) rfl k₀) ?_
  show F T47 (mkF m 54 #[.val (.ref a), .val (.int x), .val (.ref t), .val (.int k)] [(.int (k + (1 : Int32))), (.int (32 : Int32)), (.ref t)])
  obtain ⟨T54, h54, X54, e54, W54, st54⟩ := own_iastore X47 hx hZ e47 Ar_p47c (by decide) (g := (mkF m 54 #[.val (.ref a), .val (.int x), .val (.ref t), .val (.int k)] [(.int (k + (1 : Int32))), (.int (32 : Int32)), (.ref t)])) rfl rfl (hb hby d4_54)
  have N54 := Fr.snoc X54 N47 ge_t
  have Ff_p54 : Fld Z h54 a "com/example/hoist/hoist/CreationPath" "slots" "[I" (.ref t) := Ff_p47.other W54 (Or.inl ne_a_t)
  have Ar_p54 : own_A Z h54 t .int 73 (fun i => if i = Int32.toNatClampNeg (32 : Int32) then (.int (k + (1 : Int32))) else (fun i => .int (if i = 33 + xs.length then x else cf i)) i) := Ar_p47c.set W54
  have Z0_p54 : n0 ≤ h54.size := Nat.le_trans Z0_p47 (Keep.of_wr W54).1
  have K_p54 : Keep hI h54 [t] := K_p47.wr W54 (Or.inl (List.mem_of_getElem? (i := 0) rfl))
  refine hst st54 ?_
  have Ar_p54c : own_A Z h54 t .int 73 (fun i => .int (if i = 32 then k + 1 else if i = 33 + xs.length then x else cf i)) := own_A.congr Ar_p54 (fun i hi => by rw [show Int32.toNatClampNeg 32 = 32 from rfl]; dsimp only; split <;> rfl)
  show F T54 (mkF m 55 #[.val (.ref a), .val (.int x), .val (.ref t), .val (.int k)] [])
  rw [hF]
  refine own_retV X54 hx hret hlk (hb hby d4_55) (by decide) (by decide) ?_
  rw [e54]
  exact ⟨_, rfl, N54, K_p54, Ar_p54c, (own_is_enter x k his hk hl)⟩
theorem d5_0 : decode prog_4_method_3_code 0 = .ok (.aload_n 0, 1) := by decide +kernel
theorem d5_1 : decode prog_4_method_3_code 1 = .ok (.getfield 9, 3) := by decide +kernel
theorem d5_4 : decode prog_4_method_3_code 4 = .ok (.bipush 32, 2) := by decide +kernel
theorem d5_6 : decode prog_4_method_3_code 6 = .ok (.dup2, 1) := by decide +kernel
theorem d5_7 : decode prog_4_method_3_code 7 = .ok (.iaload, 1) := by decide +kernel
theorem d5_8 : decode prog_4_method_3_code 8 = .ok (.iconst 1, 1) := by decide +kernel
theorem d5_9 : decode prog_4_method_3_code 9 = .ok (.isub, 1) := by decide +kernel
theorem d5_10 : decode prog_4_method_3_code 10 = .ok (.iastore, 1) := by decide +kernel
theorem d5_11 : decode prog_4_method_3_code 11 = .ok (.return_, 1) := by decide +kernel
theorem pn_5 : plainFor (⟨"com/example/hoist/hoist/CreationPath", "leave", "()V"⟩ : MethodName) = true := plainFor_of_name (by first | (simp [plainName, overriddenIn]; done) | decide +kernel)
theorem ef_5 (m : MethodId) (a : Addr) : entryFrame m #[(.ref a)] 1 = mkF m 0 #[.val (.ref a)] [] := by first | (simp [entryFrame, mkF, argsToLocals, Value.category]; done) | rfl
def Q5 (Z : State) (a : Addr) (t : Addr) (cf : Nat → Int32) (xs : List Int32) (hI : Heap) (n0 : Nat) (v : Option Value) (h : Heap) (L : List Loc) : Prop := ∃ (cf2 : Nat → Int32), v = none ∧ Fr n0 L ∧ Keep hI h [t] ∧ own_A Z h t .int 73 (fun i => .int (cf2 i)) ∧ own_is cf2 xs.dropLast
set_option maxRecDepth 65536 in
set_option maxHeartbeats 40000000 in
theorem rm5 (l : Launch) (Z : State) (a0 : Array Value) (hw : ∀ d ∈ tables_1, d.before a0 Z = true) (ws : List Jvm.Cond) (a : Addr) (t : Addr) (cf : Nat → Int32) (xs : List Int32) (hI : Heap) (n0 : Nat) (Z0 : n0 ≤ hI.size) (Ff : Fld Z hI a "com/example/hoist/hoist/CreationPath" "slots" "[I" (.ref t)) (Ar : own_A Z hI t .int 73 (fun i => .int (cf i))) (ge_t : n0 ≤ t) (his : own_is cf xs) (h0l : 0 < xs.length) (hl : xs.length ≤ 8) (ne_a_t : a ≠ t) :
    MetFree l (⟨"com/example/hoist/hoist/CreationPath", "leave", "()V"⟩ : MethodName) (head1 (Jvm.Cond.code (⟨"com/example/hoist/hoist/CreationPath", "leave", "()V"⟩ : MethodName) prog_4_method_3_code 1 none :: ws) ({ frames := 0, cells := 0, slots := 0, locals := 0 } : Room)) (fun xa U => xa = #[(.ref a)] ∧ Z.Warmed39 U.vm ∧ U.heap = hI) (fun _ _ _ _ _ => True) (fun _ U o U' => ∃ v L, o = .returned v ∧ Q5 Z a t cf xs hI n0 v U'.heap L ∧ FrameEnd U o U' L ({ frames := 0, cells := 0, slots := 0, locals := 0 } : Room).cells ({ frames := 0, cells := 0, slots := 0, locals := 0 } : Room).slots) := by
  refine own_body pn_5 ?_
  intro p e s m below meth c s₁ hx hby hml hown hnm hret hlk hZ XI eI
  obtain ⟨F, hF⟩ : ∃ F : State → JFrame → Prop, F = own_Fin p.tables e below s ({ frames := 0, cells := 0, slots := 0, locals := 0 } : Room) (Q5 Z a t cf xs hI n0) := ⟨_, rfl⟩
  have hst : ∀ {T T' : State} {g g' : JFrame}, (∀ t, Steps p.tables e below (T'.setTop g') t → Steps p.tables e below (T.setTop g) t) → F T' g' → F T g := by subst hF; exact own_st
  have NI := Fr.nil n0
  show own_Fin p.tables e below s ({ frames := 0, cells := 0, slots := 0, locals := 0 } : Room) (Q5 Z a t cf xs hI n0) s₁ (entryFrame m #[(.ref a)] 1)
  rw [← hF]
  rw [ef_5]
  show F s₁ (mkF m 0 #[.val (.ref a)] [])
  refine hst (fun t₀ k₀ => XS.aloadN XI.here hx rfl (hb hby d5_0) rfl rfl k₀) ?_
  show F s₁ (mkF m 1 #[.val (.ref a)] [(.ref a)])
  obtain ⟨T1, X1, e1, st1⟩ := getF XI hx hZ hown (host := "") (Or.inl (hw _ (List.mem_of_getElem? (i := 10) rfl))) Via.refl eI Ff (g := (mkF m 1 #[.val (.ref a)] [(.ref a)])) rfl rfl (hb hby d5_1)
  refine hst st1 ?_
  show F T1 (mkF m 4 #[.val (.ref a)] [(.ref t)])
  refine hst (fun t₀ k₀ => XS.bipush X1.here hx rfl (hb hby d5_4) k₀) ?_
  show F T1 (mkF m 6 #[.val (.ref a)] [(.int (32 : Int32)), (.ref t)])
  refine hst (fun t₀ k₀ => XT.dup2 X1.here hx rfl (hb hby d5_6) rfl rfl rfl k₀) ?_
  show F T1 (mkF m 7 #[.val (.ref a)] [(.int (32 : Int32)), (.ref t), (.int (32 : Int32)), (.ref t)])
  refine hst (fun t₀ k₀ => own_iaload X1 hx hZ e1 Ar (by decide) (v := (.int (cf 32))) rfl (g := (mkF m 7 #[.val (.ref a)] [(.int (32 : Int32)), (.ref t), (.int (32 : Int32)), (.ref t)])) rfl rfl (hb hby d5_7) t₀ k₀) ?_
  show F T1 (mkF m 8 #[.val (.ref a)] [(.int (cf 32)), (.int (32 : Int32)), (.ref t)])
  refine hst (fun t₀ k₀ => XS.iconst X1.here hx rfl (hb hby d5_8) k₀) ?_
  show F T1 (mkF m 9 #[.val (.ref a)] [(.int (1 : Int32)), (.int (cf 32)), (.int (32 : Int32)), (.ref t)])
  refine hst (fun t₀ k₀ => XS.isub X1.here hx rfl (hb hby d5_9) rfl k₀) ?_
  show F T1 (mkF m 10 #[.val (.ref a)] [(.int ((cf 32) - (1 : Int32))), (.int (32 : Int32)), (.ref t)])
  obtain ⟨T10, h10, X10, e10, W10, st10⟩ := own_iastore X1 hx hZ e1 Ar (by decide) (g := (mkF m 10 #[.val (.ref a)] [(.int ((cf 32) - (1 : Int32))), (.int (32 : Int32)), (.ref t)])) rfl rfl (hb hby d5_10)
  have N10 := Fr.snoc X10 NI ge_t
  have Ff_p10 : Fld Z h10 a "com/example/hoist/hoist/CreationPath" "slots" "[I" (.ref t) := Ff.other W10 (Or.inl ne_a_t)
  have Ar_p10 : own_A Z h10 t .int 73 (fun i => if i = Int32.toNatClampNeg (32 : Int32) then (.int ((cf 32) - (1 : Int32))) else (fun i => .int (cf i)) i) := Ar.set W10
  have Z0_p10 : n0 ≤ h10.size := Nat.le_trans Z0 (Keep.of_wr W10).1
  have K_p10 : Keep hI h10 [t] := (Keep.refl hI [t]).wr W10 (Or.inl (List.mem_of_getElem? (i := 0) rfl))
  refine hst st10 ?_
  have Ar_p10c : own_A Z h10 t .int 73 (fun i => .int (if i = 32 then cf 32 - 1 else cf i)) := own_A.congr Ar_p10 (fun i hi => by rw [show Int32.toNatClampNeg 32 = 32 from rfl]; dsimp only; split <;> rfl)
  show F T10 (mkF m 11 #[.val (.ref a)] [])
  rw [hF]
  refine own_retV X10 hx hret hlk (hb hby d5_11) (by decide) (by decide) ?_
  rw [e10]
  exact ⟨_, rfl, N10, K_p10, Ar_p10c, (own_is_leave his h0l hl)⟩
theorem d3_0 : decode prog_4_method_5_code 0 = .ok (.aload_n 0, 1) := by decide +kernel
theorem d3_1 : decode prog_4_method_5_code 1 = .ok (.getfield 9, 3) := by decide +kernel
theorem d3_4 : decode prog_4_method_5_code 4 = .ok (.astore_n 2, 1) := by decide +kernel
theorem d3_5 : decode prog_4_method_5_code 5 = .ok (.aload_n 2, 1) := by decide +kernel
theorem d3_6 : decode prog_4_method_5_code 6 = .ok (.bipush 32, 2) := by decide +kernel
theorem d3_8 : decode prog_4_method_5_code 8 = .ok (.iaload, 1) := by decide +kernel
theorem d3_9 : decode prog_4_method_5_code 9 = .ok (.iconst 1, 1) := by decide +kernel
theorem d3_10 : decode prog_4_method_5_code 10 = .ok (.isub, 1) := by decide +kernel
theorem d3_11 : decode prog_4_method_5_code 11 = .ok (.istore_n 3, 1) := by decide +kernel
theorem d3_12 : decode prog_4_method_5_code 12 = .ok (.iload_n 3, 1) := by decide +kernel
theorem d3_13 : decode prog_4_method_5_code 13 = .ok (.ifCond .lt 21, 3) := by decide +kernel
theorem d3_16 : decode prog_4_method_5_code 16 = .ok (.aload_n 2, 1) := by decide +kernel
theorem d3_17 : decode prog_4_method_5_code 17 = .ok (.bipush 33, 2) := by decide +kernel
theorem d3_19 : decode prog_4_method_5_code 19 = .ok (.iload_n 3, 1) := by decide +kernel
theorem d3_20 : decode prog_4_method_5_code 20 = .ok (.iadd, 1) := by decide +kernel
theorem d3_21 : decode prog_4_method_5_code 21 = .ok (.iaload, 1) := by decide +kernel
theorem d3_22 : decode prog_4_method_5_code 22 = .ok (.iload_n 1, 1) := by decide +kernel
theorem d3_23 : decode prog_4_method_5_code 23 = .ok (.if_icmp .ne 5, 3) := by decide +kernel
theorem d3_26 : decode prog_4_method_5_code 26 = .ok (.iload_n 3, 1) := by decide +kernel
theorem d3_27 : decode prog_4_method_5_code 27 = .ok (.ireturn, 1) := by decide +kernel
theorem d3_28 : decode prog_4_method_5_code 28 = .ok (.iinc 3 (-1), 3) := by decide +kernel
theorem d3_31 : decode prog_4_method_5_code 31 = .ok (.goto (-19), 3) := by decide +kernel
theorem d3_34 : decode prog_4_method_5_code 34 = .ok (.iconst (-1), 1) := by decide +kernel
theorem d3_35 : decode prog_4_method_5_code 35 = .ok (.ireturn, 1) := by decide +kernel
theorem pn_3 : plainFor (⟨"com/example/hoist/hoist/CreationPath", "lastIndexOf", "(I)I"⟩ : MethodName) = true := plainFor_of_name (by first | (simp [plainName, overriddenIn]; done) | decide +kernel)
theorem ef_3 (m : MethodId) (a : Addr) (x : Int32) : entryFrame m #[(.ref a), (.int x)] 4 = mkF m 0 #[.val (.ref a), .val (.int x), .unset, .unset] [] := by first | (simp [entryFrame, mkF, argsToLocals, Value.category]; done) | rfl
def Q3 (Z : State) (a : Addr) (x : Int32) (t : Addr) (cf : Nat → Int32) (xs : List Int32) (hI : Heap) (n0 : Nat) (v : Option Value) (h : Heap) (L : List Loc) : Prop := v = some (.int (own_lif xs x xs.length)) ∧ Fr n0 L ∧ h = hI
set_option maxRecDepth 65536 in
set_option maxHeartbeats 40000000 in
theorem rm3 (l : Launch) (Z : State) (a0 : Array Value) (hw : ∀ d ∈ tables_1, d.before a0 Z = true) (ws : List Jvm.Cond) (a : Addr) (x : Int32) (t : Addr) (cf : Nat → Int32) (xs : List Int32) (hI : Heap) (n0 : Nat) (Z0 : n0 ≤ hI.size) (Ff : Fld Z hI a "com/example/hoist/hoist/CreationPath" "slots" "[I" (.ref t)) (Ar : own_A Z hI t .int 73 (fun i => .int (cf i))) (his : own_is cf xs) (hl : xs.length ≤ 8) :
    MetFree l (⟨"com/example/hoist/hoist/CreationPath", "lastIndexOf", "(I)I"⟩ : MethodName) (head1 (Jvm.Cond.code (⟨"com/example/hoist/hoist/CreationPath", "lastIndexOf", "(I)I"⟩ : MethodName) prog_4_method_5_code 4 (some .int) :: ws) ({ frames := 0, cells := 0, slots := 0, locals := 0 } : Room)) (fun xa U => xa = #[(.ref a), (.int x)] ∧ Z.Warmed39 U.vm ∧ U.heap = hI) (fun _ _ _ _ _ => True) (fun _ U o U' => ∃ v L, o = .returned v ∧ Q3 Z a x t cf xs hI n0 v U'.heap L ∧ FrameEnd U o U' L ({ frames := 0, cells := 0, slots := 0, locals := 0 } : Room).cells ({ frames := 0, cells := 0, slots := 0, locals := 0 } : Room).slots) := by
  refine own_body pn_3 ?_
  intro p e s m below meth c s₁ hx hby hml hown hnm hret hlk hZ XI eI
  obtain ⟨F, hF⟩ : ∃ F : State → JFrame → Prop, F = own_Fin p.tables e below s ({ frames := 0, cells := 0, slots := 0, locals := 0 } : Room) (Q3 Z a x t cf xs hI n0) := ⟨_, rfl⟩
  have hst : ∀ {T T' : State} {g g' : JFrame}, (∀ t, Steps p.tables e below (T'.setTop g') t → Steps p.tables e below (T.setTop g) t) → F T' g' → F T g := by subst hF; exact own_st
  have NI := Fr.nil n0
  show own_Fin p.tables e below s ({ frames := 0, cells := 0, slots := 0, locals := 0 } : Room) (Q3 Z a x t cf xs hI n0) s₁ (entryFrame m #[(.ref a), (.int x)] 4)
  rw [← hF]
  rw [ef_3]
  show F s₁ (mkF m 0 #[.val (.ref a), .val (.int x), .unset, .unset] [])
  have k32 : (32 : Int32).toInt = 32 := by decide
  have k33 : (33 : Int32).toInt = 33 := by decide
  have k1 : (1 : Int32).toInt = 1 := by decide
  have k73 : (73 : Int32).toInt = 73 := by decide
  have k0 : (0 : Int32).toInt = 0 := by decide
  refine hst (fun t₀ k₀ => XS.aloadN XI.here hx rfl (hb hby d3_0) rfl rfl k₀) ?_
  show F s₁ (mkF m 1 #[.val (.ref a), .val (.int x), .unset, .unset] [(.ref a)])
  obtain ⟨T1, X1, e1, st1⟩ := getF XI hx hZ hown (host := "") (Or.inl (hw _ (List.mem_of_getElem? (i := 10) rfl))) Via.refl eI Ff (g := (mkF m 1 #[.val (.ref a), .val (.int x), .unset, .unset] [(.ref a)])) rfl rfl (hb hby d3_1)
  refine hst st1 ?_
  show F T1 (mkF m 4 #[.val (.ref a), .val (.int x), .unset, .unset] [(.ref t)])
  refine hst (fun t₀ k₀ => XS.astoreN X1.here hx rfl (hb hby d3_4) rfl rfl (l' := #[.val (.ref a), .val (.int x), .val (.ref t), .unset]) rfl k₀) ?_
  show F T1 (mkF m 5 #[.val (.ref a), .val (.int x), .val (.ref t), .unset] [])
  refine hst (fun t₀ k₀ => XS.aloadN X1.here hx rfl (hb hby d3_5) rfl rfl k₀) ?_
  show F T1 (mkF m 6 #[.val (.ref a), .val (.int x), .val (.ref t), .unset] [(.ref t)])
  refine hst (fun t₀ k₀ => XS.bipush X1.here hx rfl (hb hby d3_6) k₀) ?_
  show F T1 (mkF m 8 #[.val (.ref a), .val (.int x), .val (.ref t), .unset] [(.int (32 : Int32)), (.ref t)])
  refine hst (fun t₀ k₀ => own_iaload X1 hx hZ e1 Ar (by decide) (v := (.int (cf 32))) rfl (g := (mkF m 8 #[.val (.ref a), .val (.int x), .val (.ref t), .unset] [(.int (32 : Int32)), (.ref t)])) rfl rfl (hb hby d3_8) t₀ k₀) ?_
  show F T1 (mkF m 9 #[.val (.ref a), .val (.int x), .val (.ref t), .unset] [(.int (cf 32))])
  generalize hk : (cf 32) = k
  show F T1 (mkF m 9 #[.val (.ref a), .val (.int x), .val (.ref t), .unset] [(.int k)])
  have kk : k.toInt = xs.length := by rw [← hk, his.1]; exact own_ofNat _ (by omega)
  refine hst (fun t₀ k₀ => XS.iconst X1.here hx rfl (hb hby d3_9) k₀) ?_
  show F T1 (mkF m 10 #[.val (.ref a), .val (.int x), .val (.ref t), .unset] [(.int (1 : Int32)), (.int k)])
  refine hst (fun t₀ k₀ => XS.isub X1.here hx rfl (hb hby d3_10) rfl k₀) ?_
  show F T1 (mkF m 11 #[.val (.ref a), .val (.int x), .val (.ref t), .unset] [(.int (k - (1 : Int32)))])
  generalize hi0 : (k - (1 : Int32)) = i0
  show F T1 (mkF m 11 #[.val (.ref a), .val (.int x), .val (.ref t), .unset] [(.int i0)])
  have kiv : i0.toInt = (xs.length : Int) - 1 := by have h1 := c_isub k 1; have h2 := rng32 i0; rw [hi0] at h1; omega
  refine hst (fun t₀ k₀ => XS.istoreN X1.here hx rfl (hb hby d3_11) rfl (l' := #[.val (.ref a), .val (.int x), .val (.ref t), .val (.int i0)]) rfl k₀) ?_
  show F T1 (mkF m 12 #[.val (.ref a), .val (.int x), .val (.ref t), .val (.int i0)] [])
  have lp : ∀ (k : Nat), k ≤ xs.length → own_lif xs x k = own_lif xs x xs.length → ∀ iv : Int32, iv.toInt = (k : Int) - 1 → F T1 (mkF m 12 #[.val (.ref a), .val (.int x), .val (.ref t), .val (.int iv)] []) := by
    intro k
    induction k using Nat.strongRecOn with
    | _ k ih =>
      intro hk he iv hiv
      show F T1 (mkF m 12 #[.val (.ref a), .val (.int x), .val (.ref t), .val (.int iv)] [])
      refine hst (fun t₀ k₀ => XS.iloadN X1.here hx rfl (hb hby d3_12) rfl k₀) ?_
      show F T1 (mkF m 13 #[.val (.ref a), .val (.int x), .val (.ref t), .val (.int iv)] [(.int iv)])
      by_cases hc13 : iv < (0 : Int32)
      · -- pc 13: taken
        refine hst (fun t₀ k₀ => XS.ifYes X1.here hx rfl (pc0 := 13) (pc' := 34) rfl (hb hby d3_13) rfl ((if0 _ _).trans (tlt hc13).1) (by decide) (by decide) k₀) ?_
        show F T1 (mkF m 34 #[.val (.ref a), .val (.int x), .val (.ref t), .val (.int iv)] [])
        have q13 : k = 0 := by rw [own_lt32] at hc13; omega
        refine hst (fun t₀ k₀ => XS.iconst X1.here hx rfl (hb hby d3_34) k₀) ?_
        show F T1 (mkF m 35 #[.val (.ref a), .val (.int x), .val (.ref t), .val (.int iv)] [(.int (-1 : Int32))])
        rw [hF]
        refine own_retI X1 hx hret hlk (hb hby d3_35) (by decide) (by decide) ?_
        rw [e1]
        exact ⟨(by rw [← he, q13]; rfl), NI, rfl⟩
      · -- pc 13: not taken
        refine hst (fun t₀ k₀ => XS.ifNo X1.here hx rfl (hb hby d3_13) rfl ((if0 _ _).trans (flt hc13).1) k₀) ?_
        show F T1 (mkF m 16 #[.val (.ref a), .val (.int x), .val (.ref t), .val (.int iv)] [])
        obtain ⟨k', rfl⟩ : ∃ k', k = k' + 1 := ⟨k - 1, by rw [own_lt32] at hc13; omega⟩
        refine hst (fun t₀ k₀ => XS.aloadN X1.here hx rfl (hb hby d3_16) rfl rfl k₀) ?_
        show F T1 (mkF m 17 #[.val (.ref a), .val (.int x), .val (.ref t), .val (.int iv)] [(.ref t)])
        refine hst (fun t₀ k₀ => XS.bipush X1.here hx rfl (hb hby d3_17) k₀) ?_
        show F T1 (mkF m 19 #[.val (.ref a), .val (.int x), .val (.ref t), .val (.int iv)] [(.int (33 : Int32)), (.ref t)])
        refine hst (fun t₀ k₀ => XS.iloadN X1.here hx rfl (hb hby d3_19) rfl k₀) ?_
        show F T1 (mkF m 20 #[.val (.ref a), .val (.int x), .val (.ref t), .val (.int iv)] [(.int iv), (.int (33 : Int32)), (.ref t)])
        refine hst (fun t₀ k₀ => XS.iadd X1.here hx rfl (hb hby d3_20) rfl k₀) ?_
        show F T1 (mkF m 21 #[.val (.ref a), .val (.int x), .val (.ref t), .val (.int iv)] [(.int ((33 : Int32) + iv)), (.ref t)])
        generalize hix : ((33 : Int32) + iv) = ix
        show F T1 (mkF m 21 #[.val (.ref a), .val (.int x), .val (.ref t), .val (.int iv)] [(.int ix), (.ref t)])
        have kix : ix.toInt = ((33 + k' : Nat) : Int) := by have h1 := c_iadd 33 iv; have h2 := rng32 ix; rw [hix] at h1; omega
        refine hst (fun t₀ k₀ => own_iaload X1 hx hZ e1 Ar (own_idx ix 73 (by omega) (by omega)) (v := (.int (xs.getD k' 0))) (by show Value.int (cf ix.toNatClampNeg) = _; rw [own_clamp ix _ kix, his.2 _ (by omega)]) (g := (mkF m 21 #[.val (.ref a), .val (.int x), .val (.ref t), .val (.int iv)] [(.int ix), (.ref t)])) rfl rfl (hb hby d3_21) t₀ k₀) ?_
        show F T1 (mkF m 22 #[.val (.ref a), .val (.int x), .val (.ref t), .val (.int iv)] [(.int (xs.getD k' 0))])
        refine hst (fun t₀ k₀ => XS.iloadN X1.here hx rfl (hb hby d3_22) rfl k₀) ?_
        show F T1 (mkF m 23 #[.val (.ref a), .val (.int x), .val (.ref t), .val (.int iv)] [(.int x), (.int (xs.getD k' 0))])
        by_cases hc23 : (xs.getD k' 0) = x
        · -- pc 23: not taken
          refine hst (fun t₀ k₀ => XS.icmpNo X1.here hx rfl (hb hby d3_23) rfl (teq hc23).2 k₀) ?_
          show F T1 (mkF m 26 #[.val (.ref a), .val (.int x), .val (.ref t), .val (.int iv)] [])
          refine hst (fun t₀ k₀ => XS.iloadN X1.here hx rfl (hb hby d3_26) rfl k₀) ?_
          show F T1 (mkF m 27 #[.val (.ref a), .val (.int x), .val (.ref t), .val (.int iv)] [(.int iv)])
          rw [hF]
          refine own_retI X1 hx hret hlk (hb hby d3_27) (by decide) (by decide) ?_
          rw [e1]
          exact ⟨(by rw [← he, own_lif, if_pos hc23]; congr 2; apply Int32.toInt_inj.mp; rw [own_ofNat _ (by omega)]; omega), NI, rfl⟩
        · -- pc 23: taken
          refine hst (fun t₀ k₀ => XS.icmpYes X1.here hx rfl (pc0 := 23) (pc' := 28) rfl (hb hby d3_23) rfl (feq hc23).2 (by decide) (by decide) k₀) ?_
          show F T1 (mkF m 28 #[.val (.ref a), .val (.int x), .val (.ref t), .val (.int iv)] [])
          refine hst (fun t₀ k₀ => XS.iinc X1.here hx rfl (hb hby d3_28) rfl (l' := #[.val (.ref a), .val (.int x), .val (.ref t), .val (.int (iv + (-1 : Int32)))]) rfl k₀) ?_
          show F T1 (mkF m 31 #[.val (.ref a), .val (.int x), .val (.ref t), .val (.int (iv + (-1 : Int32)))] [])
          refine hst (fun t₀ k₀ => XS.goto X1.here hx rfl (pc0 := 31) (pc' := 12) rfl (hb hby d3_31) (by decide) (by decide) k₀) ?_
          show F T1 (mkF m 12 #[.val (.ref a), .val (.int x), .val (.ref t), .val (.int (iv + (-1 : Int32)))] [])
          exact ih k' (by omega) (by omega) (by rw [← he, own_lif, if_neg hc23]) _ (by rw [own_dec iv (by omega)]; omega)
  exact lp xs.length (Nat.le_refl _) rfl _ kiv
theorem pn_0 : plainFor x = true := plainFor_of_name (by first | (simp [plainName, overriddenIn]; done) | decide +kernel)
theorem pd_0 : parseMethodDescriptor "()V" = some ⟨[], none⟩ := by decide +kernel
theorem pd_1 : parseMethodDescriptor "(I)I" = some ⟨[.int], some .int⟩ := by decide +kernel
theorem pd_2 : parseMethodDescriptor "(I)V" = some ⟨[.int], none⟩ := by decide +kernel
theorem ef_0 (m : MethodId) (p1 : Int32) (p2 : Int32) (p3 : Int32) (p4 : Int32) (p5 : Int32) (p6 : Int32) : entryFrame m #[(.int p1), (.int p2), (.int p3), (.int p4), (.int p5), (.int p6)] maxLocals = mkF m 0 #[.val (.int p1), .val (.int p2), .val (.int p3), .val (.int p4), .val (.int p5), .val (.int p6), .unset, .unset, .unset, .unset, .unset, .unset] [] := by first | (simp [entryFrame, mkF, argsToLocals, Value.category, maxLocals]; done) | rfl
def Q0 (Z : State) (p1 : Int32) (p2 : Int32) (p3 : Int32) (p4 : Int32) (p5 : Int32) (p6 : Int32) (hI : Heap) (n0 : Nat) (v : Option Value) (h : Heap) (L : List Loc) : Prop := v = some (.int 1) ∧ Fr n0 L
set_option maxRecDepth 65536 in
set_option maxHeartbeats 40000000 in
theorem rm0 (l : Launch) (Z : State) (a0 : Array Value) (hw : ∀ d ∈ tables_1, d.before a0 Z = true) (ws : List Jvm.Cond) (p1 : Int32) (p2 : Int32) (p3 : Int32) (p4 : Int32) (p5 : Int32) (p6 : Int32) (hI : Heap) (n0 : Nat) (Z0 : n0 ≤ hI.size) :
    MetFree l x (head1 (Jvm.Cond.code x code maxLocals ret :: ws) room_1) (fun xa U => xa = #[(.int p1), (.int p2), (.int p3), (.int p4), (.int p5), (.int p6)] ∧ Z.Warmed39 U.vm ∧ U.heap = hI) (fun _ _ _ _ _ => True) (fun _ U o U' => ∃ v L, o = .returned v ∧ Q0 Z p1 p2 p3 p4 p5 p6 hI n0 v U'.heap L ∧ FrameEnd U o U' L room_1.cells room_1.slots) := by
  refine own_body pn_0 ?_
  intro p e s m below meth c s₁ hx hby hml hown hnm hret hlk hZ XI eI
  have hml : c.maxLocals = 12 := hml
  obtain ⟨F, hF⟩ : ∃ F : State → JFrame → Prop, F = own_Fin p.tables e below s room_1 (Q0 Z p1 p2 p3 p4 p5 p6 hI n0) := ⟨_, rfl⟩
  have hst : ∀ {T T' : State} {g g' : JFrame}, (∀ t, Steps p.tables e below (T'.setTop g') t → Steps p.tables e below (T.setTop g) t) → F T' g' → F T g := by subst hF; exact own_st
  have NI := Fr.nil n0
  show own_Fin p.tables e below s room_1 (Q0 Z p1 p2 p3 p4 p5 p6 hI n0) s₁ (entryFrame m #[(.int p1), (.int p2), (.int p3), (.int p4), (.int p5), (.int p6)] maxLocals)
  rw [← hF]
  rw [ef_0]
  show F s₁ (mkF m 0 #[.val (.int p1), .val (.int p2), .val (.int p3), .val (.int p4), .val (.int p5), .val (.int p6), .unset, .unset, .unset, .unset, .unset, .unset] [])
  have J73 : ∀ b c sel q : Int32, F s₁ (mkF m 73 #[.val (.int p1), .val (.int b), .val (.int c), .val (.int p4), .val (.int p5), .val (.int p6), .val (.int sel), .val (.int q), .unset, .unset, .unset, .unset] []) := by
    intro b c sel q
    show F s₁ (mkF m 73 #[.val (.int p1), .val (.int b), .val (.int c), .val (.int p4), .val (.int p5), .val (.int p6), .val (.int sel), .val (.int q), .unset, .unset, .unset, .unset] [])
    refine hst (fun t₀ k₀ => XS.iload XI.here hx rfl (hb hby at_73) rfl k₀) ?_
    show F s₁ (mkF m 75 #[.val (.int p1), .val (.int b), .val (.int c), .val (.int p4), .val (.int p5), .val (.int p6), .val (.int sel), .val (.int q), .unset, .unset, .unset, .unset] [(.int p5)])
    refine hst (fun t₀ k₀ => XS.iconst XI.here hx rfl (hb hby at_75) k₀) ?_
    show F s₁ (mkF m 76 #[.val (.int p1), .val (.int b), .val (.int c), .val (.int p4), .val (.int p5), .val (.int p6), .val (.int sel), .val (.int q), .unset, .unset, .unset, .unset] [(.int (3 : Int32)), (.int p5)])
    refine hst (fun t₀ k₀ => XS.iand XI.here hx rfl (hb hby at_76) rfl k₀) ?_
    show F s₁ (mkF m 77 #[.val (.int p1), .val (.int b), .val (.int c), .val (.int p4), .val (.int p5), .val (.int p6), .val (.int sel), .val (.int q), .unset, .unset, .unset, .unset] [(.int (p5 &&& (3 : Int32)))])
    generalize hn : (p5 &&& (3 : Int32)) = n
    show F s₁ (mkF m 77 #[.val (.int p1), .val (.int b), .val (.int c), .val (.int p4), .val (.int p5), .val (.int p6), .val (.int sel), .val (.int q), .unset, .unset, .unset, .unset] [(.int n)])
    have hn4 : n = 0 ∨ n = 1 ∨ n = 2 ∨ n = 3 := by
      have h1 := c_mask p5 3 2 (by decide) (by decide); rw [hn] at h1
      have k0 : (0 : Int32).toInt = 0 := by decide
      have k1 : (1 : Int32).toInt = 1 := by decide
      have k2 : (2 : Int32).toInt = 2 := by decide
      have k3 : (3 : Int32).toInt = 3 := by decide
      simp only [own_eq32]; omega
    clear hn
    refine hst (fun t₀ k₀ => XS.istore XI.here hx rfl (hb hby at_77) rfl (l' := #[.val (.int p1), .val (.int b), .val (.int c), .val (.int p4), .val (.int p5), .val (.int p6), .val (.int sel), .val (.int q), .val (.int n), .unset, .unset, .unset]) rfl k₀) ?_
    show F s₁ (mkF m 79 #[.val (.int p1), .val (.int b), .val (.int c), .val (.int p4), .val (.int p5), .val (.int p6), .val (.int sel), .val (.int q), .val (.int n), .unset, .unset, .unset] [])
    refine hst (fun t₀ k₀ => XS.iload XI.here hx rfl (hb hby at_79) rfl k₀) ?_
    show F s₁ (mkF m 81 #[.val (.int p1), .val (.int b), .val (.int c), .val (.int p4), .val (.int p5), .val (.int p6), .val (.int sel), .val (.int q), .val (.int n), .unset, .unset, .unset] [(.int p5)])
    refine hst (fun t₀ k₀ => XS.iconst XI.here hx rfl (hb hby at_81) k₀) ?_
    show F s₁ (mkF m 82 #[.val (.int p1), .val (.int b), .val (.int c), .val (.int p4), .val (.int p5), .val (.int p6), .val (.int sel), .val (.int q), .val (.int n), .unset, .unset, .unset] [(.int (4 : Int32)), (.int p5)])
    refine hst (fun t₀ k₀ => XS.iand XI.here hx rfl (hb hby at_82) rfl k₀) ?_
    show F s₁ (mkF m 83 #[.val (.int p1), .val (.int b), .val (.int c), .val (.int p4), .val (.int p5), .val (.int p6), .val (.int sel), .val (.int q), .val (.int n), .unset, .unset, .unset] [(.int (p5 &&& (4 : Int32)))])
    by_cases hc83 : (p5 &&& (4 : Int32)) = (0 : Int32)
    · -- pc 83: taken
      refine hst (fun t₀ k₀ => XS.ifYes XI.here hx rfl (pc0 := 83) (pc' := 90) rfl (hb hby at_83) rfl ((if0 _ _).trans (teq hc83).1) (by decide) (by decide) k₀) ?_
      show F s₁ (mkF m 90 #[.val (.int p1), .val (.int b), .val (.int c), .val (.int p4), .val (.int p5), .val (.int p6), .val (.int sel), .val (.int q), .val (.int n), .unset, .unset, .unset] [])
      refine hst (fun t₀ k₀ => XS.iconst XI.here hx rfl (hb hby at_90) k₀) ?_
      show F s₁ (mkF m 91 #[.val (.int p1), .val (.int b), .val (.int c), .val (.int p4), .val (.int p5), .val (.int p6), .val (.int sel), .val (.int q), .val (.int n), .unset, .unset, .unset] [(.int (0 : Int32))])
      refine hst (fun t₀ k₀ => XS.istore XI.here hx rfl (hb hby at_91) rfl (l' := #[.val (.int p1), .val (.int b), .val (.int c), .val (.int p4), .val (.int p5), .val (.int p6), .val (.int sel), .val (.int q), .val (.int n), .val (.int (0 : Int32)), .unset, .unset]) rfl k₀) ?_
      show F s₁ (mkF m 93 #[.val (.int p1), .val (.int b), .val (.int c), .val (.int p4), .val (.int p5), .val (.int p6), .val (.int sel), .val (.int q), .val (.int n), .val (.int (0 : Int32)), .unset, .unset] [])
      obtain ⟨T93, h93, b93, X93, e93, g93, E93, A93, D93, st93⟩ := own_new XI hx hZ hown (hw _ (List.mem_of_getElem? (i := 0) rfl)) (hw _ (List.mem_of_getElem? (i := 1) rfl)) (hw _ (List.mem_of_getElem? (i := 2) rfl)) eI (g := (mkF m 93 #[.val (.int p1), .val (.int b), .val (.int c), .val (.int p4), .val (.int p5), .val (.int p6), .val (.int sel), .val (.int q), .val (.int n), .val (.int (0 : Int32)), .unset, .unset] [])) rfl (hb hby at_93) (by decide) (by decide)
      have ge_b93 : n0 ≤ b93 := Nat.le_trans Z0 (Nat.le_of_eq g93.symm)
      have Z0_p93 : n0 ≤ h93.size := (Nat.le_trans Z0 E93.1)
      have F_slots_b93 : Fld Z h93 b93 "com/example/hoist/hoist/CreationPath" "slots" "[I" .null := D93 (Or.inl (hw _ (List.mem_of_getElem? (i := 11) rfl))) (ty := (.array .int)) (by decide)
      refine hst st93 ?_
      show F T93 (mkF m 96 #[.val (.int p1), .val (.int b), .val (.int c), .val (.int p4), .val (.int p5), .val (.int p6), .val (.int sel), .val (.int q), .val (.int n), .val (.int (0 : Int32)), .unset, .unset] [(.ref b93)])
      refine hst (fun t₀ k₀ => XS.dup X93.here hx rfl (hb hby at_96) rfl rfl k₀) ?_
      show F T93 (mkF m 97 #[.val (.int p1), .val (.int b), .val (.int c), .val (.int p4), .val (.int p5), .val (.int p6), .val (.int sel), .val (.int q), .val (.int n), .val (.int (0 : Int32)), .unset, .unset] [(.ref b93), (.ref b93)])
      obtain ⟨v97, T97, Lc97, X97, hQ97, st97⟩ := own_callN X93 hx hZ (y := (⟨"com/example/hoist/hoist/CreationPath", "<init>", "()V"⟩ : MethodName)) rfl hown (hw _ (List.mem_of_getElem? (i := 3) rfl)) (hw _ (List.mem_of_getElem? (i := 4) rfl)) (hw _ (List.mem_of_getElem? (i := 2) rfl)) (hw _ (List.mem_of_getElem? (i := 5) rfl)) (by decide) e93 (rm1 l Z a0 hw [] b93 h93 n0 Z0_p93 A93 ge_b93 F_slots_b93) (by decide) (by decide) (g := (mkF m 97 #[.val (.int p1), .val (.int b), .val (.int c), .val (.int p4), .val (.int p5), .val (.int p6), .val (.int sel), .val (.int q), .val (.int n), .val (.int (0 : Int32)), .unset, .unset] [(.ref b93), (.ref b93)])) rfl (by rw [hml]; rfl) (a := b93) (argsL := []) (rest := [(.ref b93)]) (lenOf pd_0 rfl) rfl rfl (W := 1) (by show 2 * 0 + _ ≤ _; exact Nat.le_of_eq rfl) (hb hby at_97) (by decide) (by decide)
      obtain ⟨t_97, rfl, Nq97, K97, q1_97, q2_97, q3_97, ge_t_97, ne_b93_t_97⟩ := hQ97
      have N97 := Fr.app NI Nq97
      have Z0_p97 : n0 ≤ T97.heap.size := Nat.le_trans Z0_p93 K97.1
      refine hst st97 ?_
      show F T97 (mkF m 100 #[.val (.int p1), .val (.int b), .val (.int c), .val (.int p4), .val (.int p5), .val (.int p6), .val (.int sel), .val (.int q), .val (.int n), .val (.int (0 : Int32)), .unset, .unset] [(.ref b93)])
      have is_97 : own_is (fun _ => (0 : Int32)) [] := ⟨rfl, fun i hi => absurd hi (Nat.not_lt_zero i)⟩
      refine hst (fun t₀ k₀ => XS.astore X97.here hx rfl (hb hby at_100) rfl rfl (l' := #[.val (.int p1), .val (.int b), .val (.int c), .val (.int p4), .val (.int p5), .val (.int p6), .val (.int sel), .val (.int q), .val (.int n), .val (.int (0 : Int32)), .val (.ref b93), .unset]) rfl k₀) ?_
      show F T97 (mkF m 102 #[.val (.int p1), .val (.int b), .val (.int c), .val (.int p4), .val (.int p5), .val (.int p6), .val (.int sel), .val (.int q), .val (.int n), .val (.int (0 : Int32)), .val (.ref b93), .unset] [])
      rcases hn4 with rfl | rfl | rfl | rfl
      · -- (0 : Int32)
        show F T97 (mkF m 102 #[.val (.int p1), .val (.int b), .val (.int c), .val (.int p4), .val (.int p5), .val (.int p6), .val (.int sel), .val (.int q), .val (.int (0 : Int32)), .val (.int (0 : Int32)), .val (.ref b93), .unset] [])
        refine hst (fun t₀ k₀ => XS.iload X97.here hx rfl (hb hby at_102) rfl k₀) ?_
        show F T97 (mkF m 104 #[.val (.int p1), .val (.int b), .val (.int c), .val (.int p4), .val (.int p5), .val (.int p6), .val (.int sel), .val (.int q), .val (.int (0 : Int32)), .val (.int (0 : Int32)), .val (.ref b93), .unset] [(.int (0 : Int32))])
        refine hst (fun t₀ k₀ => XS.iconst X97.here hx rfl (hb hby at_104) k₀) ?_
        show F T97 (mkF m 105 #[.val (.int p1), .val (.int b), .val (.int c), .val (.int p4), .val (.int p5), .val (.int p6), .val (.int sel), .val (.int q), .val (.int (0 : Int32)), .val (.int (0 : Int32)), .val (.ref b93), .unset] [(.int (1 : Int32)), (.int (0 : Int32))])
        refine hst (fun t₀ k₀ => XS.icmpYes X97.here hx rfl (pc0 := 105) (pc' := 114) rfl (hb hby at_105) rfl (tlt (by decide)).1 (by decide) (by decide) k₀) ?_
        show F T97 (mkF m 114 #[.val (.int p1), .val (.int b), .val (.int c), .val (.int p4), .val (.int p5), .val (.int p6), .val (.int sel), .val (.int q), .val (.int (0 : Int32)), .val (.int (0 : Int32)), .val (.ref b93), .unset] [])
        refine hst (fun t₀ k₀ => XS.iload X97.here hx rfl (hb hby at_114) rfl k₀) ?_
        show F T97 (mkF m 116 #[.val (.int p1), .val (.int b), .val (.int c), .val (.int p4), .val (.int p5), .val (.int p6), .val (.int sel), .val (.int q), .val (.int (0 : Int32)), .val (.int (0 : Int32)), .val (.ref b93), .unset] [(.int (0 : Int32))])
        refine hst (fun t₀ k₀ => XS.iconst X97.here hx rfl (hb hby at_116) k₀) ?_
        show F T97 (mkF m 117 #[.val (.int p1), .val (.int b), .val (.int c), .val (.int p4), .val (.int p5), .val (.int p6), .val (.int sel), .val (.int q), .val (.int (0 : Int32)), .val (.int (0 : Int32)), .val (.ref b93), .unset] [(.int (2 : Int32)), (.int (0 : Int32))])
        refine hst (fun t₀ k₀ => XS.icmpYes X97.here hx rfl (pc0 := 117) (pc' := 126) rfl (hb hby at_117) rfl (tlt (by decide)).1 (by decide) (by decide) k₀) ?_
        show F T97 (mkF m 126 #[.val (.int p1), .val (.int b), .val (.int c), .val (.int p4), .val (.int p5), .val (.int p6), .val (.int sel), .val (.int q), .val (.int (0 : Int32)), .val (.int (0 : Int32)), .val (.ref b93), .unset] [])
        refine hst (fun t₀ k₀ => XS.iload X97.here hx rfl (hb hby at_126) rfl k₀) ?_
        show F T97 (mkF m 128 #[.val (.int p1), .val (.int b), .val (.int c), .val (.int p4), .val (.int p5), .val (.int p6), .val (.int sel), .val (.int q), .val (.int (0 : Int32)), .val (.int (0 : Int32)), .val (.ref b93), .unset] [(.int (0 : Int32))])
        refine hst (fun t₀ k₀ => XS.iconst X97.here hx rfl (hb hby at_128) k₀) ?_
        show F T97 (mkF m 129 #[.val (.int p1), .val (.int b), .val (.int c), .val (.int p4), .val (.int p5), .val (.int p6), .val (.int sel), .val (.int q), .val (.int (0 : Int32)), .val (.int (0 : Int32)), .val (.ref b93), .unset] [(.int (3 : Int32)), (.int (0 : Int32))])
        refine hst (fun t₀ k₀ => XS.icmpYes X97.here hx rfl (pc0 := 129) (pc' := 138) rfl (hb hby at_129) rfl (tlt (by decide)).1 (by decide) (by decide) k₀) ?_
        show F T97 (mkF m 138 #[.val (.int p1), .val (.int b), .val (.int c), .val (.int p4), .val (.int p5), .val (.int p6), .val (.int sel), .val (.int q), .val (.int (0 : Int32)), .val (.int (0 : Int32)), .val (.ref b93), .unset] [])
        refine hst (fun t₀ k₀ => XS.iload X97.here hx rfl (hb hby at_138) rfl k₀) ?_
        show F T97 (mkF m 140 #[.val (.int p1), .val (.int b), .val (.int c), .val (.int p4), .val (.int p5), .val (.int p6), .val (.int sel), .val (.int q), .val (.int (0 : Int32)), .val (.int (0 : Int32)), .val (.ref b93), .unset] [(.int (0 : Int32))])
        refine hst (fun t₀ k₀ => XS.ifYes X97.here hx rfl (pc0 := 140) (pc' := 155) rfl (hb hby at_140) rfl ((if0 _ _).trans (teq (by decide)).1) (by decide) (by decide) k₀) ?_
        show F T97 (mkF m 155 #[.val (.int p1), .val (.int b), .val (.int c), .val (.int p4), .val (.int p5), .val (.int p6), .val (.int sel), .val (.int q), .val (.int (0 : Int32)), .val (.int (0 : Int32)), .val (.ref b93), .unset] [])
        refine hst (fun t₀ k₀ => XS.iconst X97.here hx rfl (hb hby at_155) k₀) ?_
        show F T97 (mkF m 156 #[.val (.int p1), .val (.int b), .val (.int c), .val (.int p4), .val (.int p5), .val (.int p6), .val (.int sel), .val (.int q), .val (.int (0 : Int32)), .val (.int (0 : Int32)), .val (.ref b93), .unset] [(.int (-1 : Int32))])
        refine hst (fun t₀ k₀ => XS.istore X97.here hx rfl (hb hby at_156) rfl (l' := #[.val (.int p1), .val (.int b), .val (.int c), .val (.int p4), .val (.int p5), .val (.int p6), .val (.int sel), .val (.int q), .val (.int (0 : Int32)), .val (.int (0 : Int32)), .val (.ref b93), .val (.int (-1 : Int32))]) rfl k₀) ?_
        show F T97 (mkF m 158 #[.val (.int p1), .val (.int b), .val (.int c), .val (.int p4), .val (.int p5), .val (.int p6), .val (.int sel), .val (.int q), .val (.int (0 : Int32)), .val (.int (0 : Int32)), .val (.ref b93), .val (.int (-1 : Int32))] [])
        refine hst (fun t₀ k₀ => XS.iload X97.here hx rfl (hb hby at_158) rfl k₀) ?_
        show F T97 (mkF m 160 #[.val (.int p1), .val (.int b), .val (.int c), .val (.int p4), .val (.int p5), .val (.int p6), .val (.int sel), .val (.int q), .val (.int (0 : Int32)), .val (.int (0 : Int32)), .val (.ref b93), .val (.int (-1 : Int32))] [(.int (0 : Int32))])
        refine hst (fun t₀ k₀ => XS.iconst X97.here hx rfl (hb hby at_160) k₀) ?_
        show F T97 (mkF m 161 #[.val (.int p1), .val (.int b), .val (.int c), .val (.int p4), .val (.int p5), .val (.int p6), .val (.int sel), .val (.int q), .val (.int (0 : Int32)), .val (.int (0 : Int32)), .val (.ref b93), .val (.int (-1 : Int32))] [(.int (3 : Int32)), (.int (0 : Int32))])
        refine hst (fun t₀ k₀ => XS.icmpYes X97.here hx rfl (pc0 := 161) (pc' := 176) rfl (hb hby at_161) rfl (tlt (by decide)).1 (by decide) (by decide) k₀) ?_
        show F T97 (mkF m 176 #[.val (.int p1), .val (.int b), .val (.int c), .val (.int p4), .val (.int p5), .val (.int p6), .val (.int sel), .val (.int q), .val (.int (0 : Int32)), .val (.int (0 : Int32)), .val (.ref b93), .val (.int (-1 : Int32))] [])
        refine hst (fun t₀ k₀ => XS.iload X97.here hx rfl (hb hby at_176) rfl k₀) ?_
        show F T97 (mkF m 178 #[.val (.int p1), .val (.int b), .val (.int c), .val (.int p4), .val (.int p5), .val (.int p6), .val (.int sel), .val (.int q), .val (.int (0 : Int32)), .val (.int (0 : Int32)), .val (.ref b93), .val (.int (-1 : Int32))] [(.int (0 : Int32))])
        refine hst (fun t₀ k₀ => XS.iconst X97.here hx rfl (hb hby at_178) k₀) ?_
        show F T97 (mkF m 179 #[.val (.int p1), .val (.int b), .val (.int c), .val (.int p4), .val (.int p5), .val (.int p6), .val (.int sel), .val (.int q), .val (.int (0 : Int32)), .val (.int (0 : Int32)), .val (.ref b93), .val (.int (-1 : Int32))] [(.int (2 : Int32)), (.int (0 : Int32))])
        refine hst (fun t₀ k₀ => XS.icmpYes X97.here hx rfl (pc0 := 179) (pc' := 194) rfl (hb hby at_179) rfl (tlt (by decide)).1 (by decide) (by decide) k₀) ?_
        show F T97 (mkF m 194 #[.val (.int p1), .val (.int b), .val (.int c), .val (.int p4), .val (.int p5), .val (.int p6), .val (.int sel), .val (.int q), .val (.int (0 : Int32)), .val (.int (0 : Int32)), .val (.ref b93), .val (.int (-1 : Int32))] [])
        refine hst (fun t₀ k₀ => XS.iload X97.here hx rfl (hb hby at_194) rfl k₀) ?_
        show F T97 (mkF m 196 #[.val (.int p1), .val (.int b), .val (.int c), .val (.int p4), .val (.int p5), .val (.int p6), .val (.int sel), .val (.int q), .val (.int (0 : Int32)), .val (.int (0 : Int32)), .val (.ref b93), .val (.int (-1 : Int32))] [(.int (0 : Int32))])
        refine hst (fun t₀ k₀ => XS.iconst X97.here hx rfl (hb hby at_196) k₀) ?_
        show F T97 (mkF m 197 #[.val (.int p1), .val (.int b), .val (.int c), .val (.int p4), .val (.int p5), .val (.int p6), .val (.int sel), .val (.int q), .val (.int (0 : Int32)), .val (.int (0 : Int32)), .val (.ref b93), .val (.int (-1 : Int32))] [(.int (1 : Int32)), (.int (0 : Int32))])
        refine hst (fun t₀ k₀ => XS.icmpYes X97.here hx rfl (pc0 := 197) (pc' := 209) rfl (hb hby at_197) rfl (tlt (by decide)).1 (by decide) (by decide) k₀) ?_
        show F T97 (mkF m 209 #[.val (.int p1), .val (.int b), .val (.int c), .val (.int p4), .val (.int p5), .val (.int p6), .val (.int sel), .val (.int q), .val (.int (0 : Int32)), .val (.int (0 : Int32)), .val (.ref b93), .val (.int (-1 : Int32))] [])
        refine hst (fun t₀ k₀ => XS.aload X97.here hx rfl (hb hby at_209) rfl rfl k₀) ?_
        show F T97 (mkF m 211 #[.val (.int p1), .val (.int b), .val (.int c), .val (.int p4), .val (.int p5), .val (.int p6), .val (.int sel), .val (.int q), .val (.int (0 : Int32)), .val (.int (0 : Int32)), .val (.ref b93), .val (.int (-1 : Int32))] [(.ref b93)])
        refine hst (fun t₀ k₀ => XS.iload X97.here hx rfl (hb hby at_211) rfl k₀) ?_
        show F T97 (mkF m 213 #[.val (.int p1), .val (.int b), .val (.int c), .val (.int p4), .val (.int p5), .val (.int p6), .val (.int sel), .val (.int q), .val (.int (0 : Int32)), .val (.int (0 : Int32)), .val (.ref b93), .val (.int (-1 : Int32))] [(.int q), (.ref b93)])
        obtain ⟨v213, T213, Lc213, X213, hQ213, st213⟩ := own_callV X97 hx hZ hown (y := (⟨"com/example/hoist/hoist/CreationPath", "lastIndexOf", "(I)I"⟩ : MethodName)) (hw _ (List.mem_of_getElem? (i := 12) rfl)) (hw _ (List.mem_of_getElem? (i := 13) rfl)) (hw _ (List.mem_of_getElem? (i := 15) rfl)) (hw _ (List.mem_of_getElem? (i := 14) rfl)) (hw _ (List.mem_of_getElem? (i := 2) rfl)) (hw _ (List.mem_of_getElem? (i := 16) rfl)) (by decide) rfl q1_97 (rm3 l Z a0 hw [] b93 q t_97 (fun _ => (0 : Int32)) ([] : List Int32) T97.heap n0 Z0_p97 q2_97 q3_97 is_97 (Nat.le_of_ble_eq_true rfl)) (by decide) (by decide) (g := (mkF m 213 #[.val (.int p1), .val (.int b), .val (.int c), .val (.int p4), .val (.int p5), .val (.int p6), .val (.int sel), .val (.int q), .val (.int (0 : Int32)), .val (.int (0 : Int32)), .val (.ref b93), .val (.int (-1 : Int32))] [(.int q), (.ref b93)])) rfl (by rw [hml]; rfl) (argsL := [(.int q)]) (rest := []) (lenOf pd_1 rfl) rfl rfl (W := 0) (by show 2 * 0 + _ ≤ _; exact Nat.le_of_eq rfl) (hb hby at_213) (by decide) (by decide)
        obtain ⟨rfl, Nq213, he213⟩ := hQ213
        have N213 := Fr.app N97 Nq213
        refine hst st213 ?_
        show F T213 (mkF m 216 #[.val (.int p1), .val (.int b), .val (.int c), .val (.int p4), .val (.int p5), .val (.int p6), .val (.int sel), .val (.int q), .val (.int (0 : Int32)), .val (.int (0 : Int32)), .val (.ref b93), .val (.int (-1 : Int32))] [(.int (own_lif ([] : List Int32) q ([] : List Int32).length))])
        refine hst (fun t₀ k₀ => XS.iload X213.here hx rfl (hb hby at_216) rfl k₀) ?_
        show F T213 (mkF m 218 #[.val (.int p1), .val (.int b), .val (.int c), .val (.int p4), .val (.int p5), .val (.int p6), .val (.int sel), .val (.int q), .val (.int (0 : Int32)), .val (.int (0 : Int32)), .val (.ref b93), .val (.int (-1 : Int32))] [(.int (-1 : Int32)), (.int (own_lif ([] : List Int32) q ([] : List Int32).length))])
        refine hst (fun t₀ k₀ => XS.icmpNo X213.here hx rfl (hb hby at_218) rfl (teq (by simp [own_lif, ])).2 k₀) ?_
        show F T213 (mkF m 221 #[.val (.int p1), .val (.int b), .val (.int c), .val (.int p4), .val (.int p5), .val (.int p6), .val (.int sel), .val (.int q), .val (.int (0 : Int32)), .val (.int (0 : Int32)), .val (.ref b93), .val (.int (-1 : Int32))] [])
        refine hst (fun t₀ k₀ => XS.iconst X213.here hx rfl (hb hby at_221) k₀) ?_
        show F T213 (mkF m 222 #[.val (.int p1), .val (.int b), .val (.int c), .val (.int p4), .val (.int p5), .val (.int p6), .val (.int sel), .val (.int q), .val (.int (0 : Int32)), .val (.int (0 : Int32)), .val (.ref b93), .val (.int (-1 : Int32))] [(.int (1 : Int32))])
        refine hst (fun t₀ k₀ => XS.goto X213.here hx rfl (pc0 := 222) (pc' := 226) rfl (hb hby at_222) (by decide) (by decide) k₀) ?_
        show F T213 (mkF m 226 #[.val (.int p1), .val (.int b), .val (.int c), .val (.int p4), .val (.int p5), .val (.int p6), .val (.int sel), .val (.int q), .val (.int (0 : Int32)), .val (.int (0 : Int32)), .val (.ref b93), .val (.int (-1 : Int32))] [(.int (1 : Int32))])
        rw [hF]
        refine own_retN X213 hx hret (by simp) hlk (hb hby at_226) (by decide) (by decide) ?_
        rw [he213]
        exact ⟨rfl, N213⟩
      · -- (1 : Int32)
        show F T97 (mkF m 102 #[.val (.int p1), .val (.int b), .val (.int c), .val (.int p4), .val (.int p5), .val (.int p6), .val (.int sel), .val (.int q), .val (.int (1 : Int32)), .val (.int (0 : Int32)), .val (.ref b93), .unset] [])
        refine hst (fun t₀ k₀ => XS.iload X97.here hx rfl (hb hby at_102) rfl k₀) ?_
        show F T97 (mkF m 104 #[.val (.int p1), .val (.int b), .val (.int c), .val (.int p4), .val (.int p5), .val (.int p6), .val (.int sel), .val (.int q), .val (.int (1 : Int32)), .val (.int (0 : Int32)), .val (.ref b93), .unset] [(.int (1 : Int32))])
        refine hst (fun t₀ k₀ => XS.iconst X97.here hx rfl (hb hby at_104) k₀) ?_
        show F T97 (mkF m 105 #[.val (.int p1), .val (.int b), .val (.int c), .val (.int p4), .val (.int p5), .val (.int p6), .val (.int sel), .val (.int q), .val (.int (1 : Int32)), .val (.int (0 : Int32)), .val (.ref b93), .unset] [(.int (1 : Int32)), (.int (1 : Int32))])
        refine hst (fun t₀ k₀ => XS.icmpNo X97.here hx rfl (hb hby at_105) rfl (flt (by decide)).1 k₀) ?_
        show F T97 (mkF m 108 #[.val (.int p1), .val (.int b), .val (.int c), .val (.int p4), .val (.int p5), .val (.int p6), .val (.int sel), .val (.int q), .val (.int (1 : Int32)), .val (.int (0 : Int32)), .val (.ref b93), .unset] [])
        refine hst (fun t₀ k₀ => XS.aload X97.here hx rfl (hb hby at_108) rfl rfl k₀) ?_
        show F T97 (mkF m 110 #[.val (.int p1), .val (.int b), .val (.int c), .val (.int p4), .val (.int p5), .val (.int p6), .val (.int sel), .val (.int q), .val (.int (1 : Int32)), .val (.int (0 : Int32)), .val (.ref b93), .unset] [(.ref b93)])
        refine hst (fun t₀ k₀ => XS.iloadN X97.here hx rfl (hb hby at_110) rfl k₀) ?_
        show F T97 (mkF m 111 #[.val (.int p1), .val (.int b), .val (.int c), .val (.int p4), .val (.int p5), .val (.int p6), .val (.int sel), .val (.int q), .val (.int (1 : Int32)), .val (.int (0 : Int32)), .val (.ref b93), .unset] [(.int p1), (.ref b93)])
        obtain ⟨v111, T111, Lc111, X111, hQ111, st111⟩ := own_callV X97 hx hZ hown (y := (⟨"com/example/hoist/hoist/CreationPath", "enter", "(I)V"⟩ : MethodName)) (hw _ (List.mem_of_getElem? (i := 17) rfl)) (hw _ (List.mem_of_getElem? (i := 18) rfl)) (hw _ (List.mem_of_getElem? (i := 20) rfl)) (hw _ (List.mem_of_getElem? (i := 19) rfl)) (hw _ (List.mem_of_getElem? (i := 2) rfl)) (hw _ (List.mem_of_getElem? (i := 21) rfl)) (by decide) rfl q1_97 (rm4 l Z a0 hw [] b93 p1 t_97 (fun _ => (0 : Int32)) ([] : List Int32) T97.heap n0 Z0_p97 q2_97 q3_97 ge_t_97 is_97 (Nat.le_of_ble_eq_true rfl) ne_b93_t_97) (by decide) (by decide) (g := (mkF m 111 #[.val (.int p1), .val (.int b), .val (.int c), .val (.int p4), .val (.int p5), .val (.int p6), .val (.int sel), .val (.int q), .val (.int (1 : Int32)), .val (.int (0 : Int32)), .val (.ref b93), .unset] [(.int p1), (.ref b93)])) rfl (by rw [hml]; rfl) (argsL := [(.int p1)]) (rest := []) (lenOf pd_2 rfl) rfl rfl (W := 0) (by show 2 * 0 + _ ≤ _; exact Nat.le_of_eq rfl) (hb hby at_111) (by decide) (by decide)
        obtain ⟨cf2_111, rfl, Nq111, K111, q1_111, is2_111⟩ := hQ111
        have N111 := Fr.app N97 Nq111
        have q1_97_p111 : Exa Z T111.heap b93 "com/example/hoist/hoist/CreationPath" := q1_97.keep K111
        have q2_97_p111 : Fld Z T111.heap b93 "com/example/hoist/hoist/CreationPath" "slots" "[I" (.ref t_97) := q2_97.keep K111 (by simp only [List.mem_cons, List.not_mem_nil, or_false, not_or]; exact ne_b93_t_97)
        have Z0_p111 : n0 ≤ T111.heap.size := Nat.le_trans Z0_p97 K111.1
        refine hst st111 ?_
        show F T111 (mkF m 114 #[.val (.int p1), .val (.int b), .val (.int c), .val (.int p4), .val (.int p5), .val (.int p6), .val (.int sel), .val (.int q), .val (.int (1 : Int32)), .val (.int (0 : Int32)), .val (.ref b93), .unset] [])
        refine hst (fun t₀ k₀ => XS.iload X111.here hx rfl (hb hby at_114) rfl k₀) ?_
        show F T111 (mkF m 116 #[.val (.int p1), .val (.int b), .val (.int c), .val (.int p4), .val (.int p5), .val (.int p6), .val (.int sel), .val (.int q), .val (.int (1 : Int32)), .val (.int (0 : Int32)), .val (.ref b93), .unset] [(.int (1 : Int32))])
        refine hst (fun t₀ k₀ => XS.iconst X111.here hx rfl (hb hby at_116) k₀) ?_
        show F T111 (mkF m 117 #[.val (.int p1), .val (.int b), .val (.int c), .val (.int p4), .val (.int p5), .val (.int p6), .val (.int sel), .val (.int q), .val (.int (1 : Int32)), .val (.int (0 : Int32)), .val (.ref b93), .unset] [(.int (2 : Int32)), (.int (1 : Int32))])
        refine hst (fun t₀ k₀ => XS.icmpYes X111.here hx rfl (pc0 := 117) (pc' := 126) rfl (hb hby at_117) rfl (tlt (by decide)).1 (by decide) (by decide) k₀) ?_
        show F T111 (mkF m 126 #[.val (.int p1), .val (.int b), .val (.int c), .val (.int p4), .val (.int p5), .val (.int p6), .val (.int sel), .val (.int q), .val (.int (1 : Int32)), .val (.int (0 : Int32)), .val (.ref b93), .unset] [])
        refine hst (fun t₀ k₀ => XS.iload X111.here hx rfl (hb hby at_126) rfl k₀) ?_
        show F T111 (mkF m 128 #[.val (.int p1), .val (.int b), .val (.int c), .val (.int p4), .val (.int p5), .val (.int p6), .val (.int sel), .val (.int q), .val (.int (1 : Int32)), .val (.int (0 : Int32)), .val (.ref b93), .unset] [(.int (1 : Int32))])
        refine hst (fun t₀ k₀ => XS.iconst X111.here hx rfl (hb hby at_128) k₀) ?_
        show F T111 (mkF m 129 #[.val (.int p1), .val (.int b), .val (.int c), .val (.int p4), .val (.int p5), .val (.int p6), .val (.int sel), .val (.int q), .val (.int (1 : Int32)), .val (.int (0 : Int32)), .val (.ref b93), .unset] [(.int (3 : Int32)), (.int (1 : Int32))])
        refine hst (fun t₀ k₀ => XS.icmpYes X111.here hx rfl (pc0 := 129) (pc' := 138) rfl (hb hby at_129) rfl (tlt (by decide)).1 (by decide) (by decide) k₀) ?_
        show F T111 (mkF m 138 #[.val (.int p1), .val (.int b), .val (.int c), .val (.int p4), .val (.int p5), .val (.int p6), .val (.int sel), .val (.int q), .val (.int (1 : Int32)), .val (.int (0 : Int32)), .val (.ref b93), .unset] [])
        refine hst (fun t₀ k₀ => XS.iload X111.here hx rfl (hb hby at_138) rfl k₀) ?_
        show F T111 (mkF m 140 #[.val (.int p1), .val (.int b), .val (.int c), .val (.int p4), .val (.int p5), .val (.int p6), .val (.int sel), .val (.int q), .val (.int (1 : Int32)), .val (.int (0 : Int32)), .val (.ref b93), .unset] [(.int (0 : Int32))])
        refine hst (fun t₀ k₀ => XS.ifYes X111.here hx rfl (pc0 := 140) (pc' := 155) rfl (hb hby at_140) rfl ((if0 _ _).trans (teq (by decide)).1) (by decide) (by decide) k₀) ?_
        show F T111 (mkF m 155 #[.val (.int p1), .val (.int b), .val (.int c), .val (.int p4), .val (.int p5), .val (.int p6), .val (.int sel), .val (.int q), .val (.int (1 : Int32)), .val (.int (0 : Int32)), .val (.ref b93), .unset] [])
        refine hst (fun t₀ k₀ => XS.iconst X111.here hx rfl (hb hby at_155) k₀) ?_
        show F T111 (mkF m 156 #[.val (.int p1), .val (.int b), .val (.int c), .val (.int p4), .val (.int p5), .val (.int p6), .val (.int sel), .val (.int q), .val (.int (1 : Int32)), .val (.int (0 : Int32)), .val (.ref b93), .unset] [(.int (-1 : Int32))])
        refine hst (fun t₀ k₀ => XS.istore X111.here hx rfl (hb hby at_156) rfl (l' := #[.val (.int p1), .val (.int b), .val (.int c), .val (.int p4), .val (.int p5), .val (.int p6), .val (.int sel), .val (.int q), .val (.int (1 : Int32)), .val (.int (0 : Int32)), .val (.ref b93), .val (.int (-1 : Int32))]) rfl k₀) ?_
        show F T111 (mkF m 158 #[.val (.int p1), .val (.int b), .val (.int c), .val (.int p4), .val (.int p5), .val (.int p6), .val (.int sel), .val (.int q), .val (.int (1 : Int32)), .val (.int (0 : Int32)), .val (.ref b93), .val (.int (-1 : Int32))] [])
        refine hst (fun t₀ k₀ => XS.iload X111.here hx rfl (hb hby at_158) rfl k₀) ?_
        show F T111 (mkF m 160 #[.val (.int p1), .val (.int b), .val (.int c), .val (.int p4), .val (.int p5), .val (.int p6), .val (.int sel), .val (.int q), .val (.int (1 : Int32)), .val (.int (0 : Int32)), .val (.ref b93), .val (.int (-1 : Int32))] [(.int (1 : Int32))])
        refine hst (fun t₀ k₀ => XS.iconst X111.here hx rfl (hb hby at_160) k₀) ?_
        show F T111 (mkF m 161 #[.val (.int p1), .val (.int b), .val (.int c), .val (.int p4), .val (.int p5), .val (.int p6), .val (.int sel), .val (.int q), .val (.int (1 : Int32)), .val (.int (0 : Int32)), .val (.ref b93), .val (.int (-1 : Int32))] [(.int (3 : Int32)), (.int (1 : Int32))])
        refine hst (fun t₀ k₀ => XS.icmpYes X111.here hx rfl (pc0 := 161) (pc' := 176) rfl (hb hby at_161) rfl (tlt (by decide)).1 (by decide) (by decide) k₀) ?_
        show F T111 (mkF m 176 #[.val (.int p1), .val (.int b), .val (.int c), .val (.int p4), .val (.int p5), .val (.int p6), .val (.int sel), .val (.int q), .val (.int (1 : Int32)), .val (.int (0 : Int32)), .val (.ref b93), .val (.int (-1 : Int32))] [])
        refine hst (fun t₀ k₀ => XS.iload X111.here hx rfl (hb hby at_176) rfl k₀) ?_
        show F T111 (mkF m 178 #[.val (.int p1), .val (.int b), .val (.int c), .val (.int p4), .val (.int p5), .val (.int p6), .val (.int sel), .val (.int q), .val (.int (1 : Int32)), .val (.int (0 : Int32)), .val (.ref b93), .val (.int (-1 : Int32))] [(.int (1 : Int32))])
        refine hst (fun t₀ k₀ => XS.iconst X111.here hx rfl (hb hby at_178) k₀) ?_
        show F T111 (mkF m 179 #[.val (.int p1), .val (.int b), .val (.int c), .val (.int p4), .val (.int p5), .val (.int p6), .val (.int sel), .val (.int q), .val (.int (1 : Int32)), .val (.int (0 : Int32)), .val (.ref b93), .val (.int (-1 : Int32))] [(.int (2 : Int32)), (.int (1 : Int32))])
        refine hst (fun t₀ k₀ => XS.icmpYes X111.here hx rfl (pc0 := 179) (pc' := 194) rfl (hb hby at_179) rfl (tlt (by decide)).1 (by decide) (by decide) k₀) ?_
        show F T111 (mkF m 194 #[.val (.int p1), .val (.int b), .val (.int c), .val (.int p4), .val (.int p5), .val (.int p6), .val (.int sel), .val (.int q), .val (.int (1 : Int32)), .val (.int (0 : Int32)), .val (.ref b93), .val (.int (-1 : Int32))] [])
        refine hst (fun t₀ k₀ => XS.iload X111.here hx rfl (hb hby at_194) rfl k₀) ?_
        show F T111 (mkF m 196 #[.val (.int p1), .val (.int b), .val (.int c), .val (.int p4), .val (.int p5), .val (.int p6), .val (.int sel), .val (.int q), .val (.int (1 : Int32)), .val (.int (0 : Int32)), .val (.ref b93), .val (.int (-1 : Int32))] [(.int (1 : Int32))])
        refine hst (fun t₀ k₀ => XS.iconst X111.here hx rfl (hb hby at_196) k₀) ?_
        show F T111 (mkF m 197 #[.val (.int p1), .val (.int b), .val (.int c), .val (.int p4), .val (.int p5), .val (.int p6), .val (.int sel), .val (.int q), .val (.int (1 : Int32)), .val (.int (0 : Int32)), .val (.ref b93), .val (.int (-1 : Int32))] [(.int (1 : Int32)), (.int (1 : Int32))])
        refine hst (fun t₀ k₀ => XS.icmpNo X111.here hx rfl (hb hby at_197) rfl (flt (by decide)).1 k₀) ?_
        show F T111 (mkF m 200 #[.val (.int p1), .val (.int b), .val (.int c), .val (.int p4), .val (.int p5), .val (.int p6), .val (.int sel), .val (.int q), .val (.int (1 : Int32)), .val (.int (0 : Int32)), .val (.ref b93), .val (.int (-1 : Int32))] [])
        refine hst (fun t₀ k₀ => XS.iloadN X111.here hx rfl (hb hby at_200) rfl k₀) ?_
        show F T111 (mkF m 201 #[.val (.int p1), .val (.int b), .val (.int c), .val (.int p4), .val (.int p5), .val (.int p6), .val (.int sel), .val (.int q), .val (.int (1 : Int32)), .val (.int (0 : Int32)), .val (.ref b93), .val (.int (-1 : Int32))] [(.int p1)])
        refine hst (fun t₀ k₀ => XS.iload X111.here hx rfl (hb hby at_201) rfl k₀) ?_
        show F T111 (mkF m 203 #[.val (.int p1), .val (.int b), .val (.int c), .val (.int p4), .val (.int p5), .val (.int p6), .val (.int sel), .val (.int q), .val (.int (1 : Int32)), .val (.int (0 : Int32)), .val (.ref b93), .val (.int (-1 : Int32))] [(.int q), (.int p1)])
        by_cases hc203 : p1 = q
        · -- pc 203: not taken
          refine hst (fun t₀ k₀ => XS.icmpNo X111.here hx rfl (hb hby at_203) rfl (teq hc203).2 k₀) ?_
          show F T111 (mkF m 206 #[.val (.int p1), .val (.int b), .val (.int c), .val (.int p4), .val (.int p5), .val (.int p6), .val (.int sel), .val (.int q), .val (.int (1 : Int32)), .val (.int (0 : Int32)), .val (.ref b93), .val (.int (-1 : Int32))] [])
          refine hst (fun t₀ k₀ => XS.iconst X111.here hx rfl (hb hby at_206) k₀) ?_
          show F T111 (mkF m 207 #[.val (.int p1), .val (.int b), .val (.int c), .val (.int p4), .val (.int p5), .val (.int p6), .val (.int sel), .val (.int q), .val (.int (1 : Int32)), .val (.int (0 : Int32)), .val (.ref b93), .val (.int (-1 : Int32))] [(.int (0 : Int32))])
          refine hst (fun t₀ k₀ => XS.istore X111.here hx rfl (hb hby at_207) rfl (l' := #[.val (.int p1), .val (.int b), .val (.int c), .val (.int p4), .val (.int p5), .val (.int p6), .val (.int sel), .val (.int q), .val (.int (1 : Int32)), .val (.int (0 : Int32)), .val (.ref b93), .val (.int (0 : Int32))]) rfl k₀) ?_
          show F T111 (mkF m 209 #[.val (.int p1), .val (.int b), .val (.int c), .val (.int p4), .val (.int p5), .val (.int p6), .val (.int sel), .val (.int q), .val (.int (1 : Int32)), .val (.int (0 : Int32)), .val (.ref b93), .val (.int (0 : Int32))] [])
          refine hst (fun t₀ k₀ => XS.aload X111.here hx rfl (hb hby at_209) rfl rfl k₀) ?_
          show F T111 (mkF m 211 #[.val (.int p1), .val (.int b), .val (.int c), .val (.int p4), .val (.int p5), .val (.int p6), .val (.int sel), .val (.int q), .val (.int (1 : Int32)), .val (.int (0 : Int32)), .val (.ref b93), .val (.int (0 : Int32))] [(.ref b93)])
          refine hst (fun t₀ k₀ => XS.iload X111.here hx rfl (hb hby at_211) rfl k₀) ?_
          show F T111 (mkF m 213 #[.val (.int p1), .val (.int b), .val (.int c), .val (.int p4), .val (.int p5), .val (.int p6), .val (.int sel), .val (.int q), .val (.int (1 : Int32)), .val (.int (0 : Int32)), .val (.ref b93), .val (.int (0 : Int32))] [(.int q), (.ref b93)])
          obtain ⟨v213, T213, Lc213, X213, hQ213, st213⟩ := own_callV X111 hx hZ hown (y := (⟨"com/example/hoist/hoist/CreationPath", "lastIndexOf", "(I)I"⟩ : MethodName)) (hw _ (List.mem_of_getElem? (i := 12) rfl)) (hw _ (List.mem_of_getElem? (i := 13) rfl)) (hw _ (List.mem_of_getElem? (i := 15) rfl)) (hw _ (List.mem_of_getElem? (i := 14) rfl)) (hw _ (List.mem_of_getElem? (i := 2) rfl)) (hw _ (List.mem_of_getElem? (i := 16) rfl)) (by decide) rfl q1_97_p111 (rm3 l Z a0 hw [] b93 q t_97 cf2_111 ([p1] : List Int32) T111.heap n0 Z0_p111 q2_97_p111 q1_111 is2_111 (Nat.le_of_ble_eq_true rfl)) (by decide) (by decide) (g := (mkF m 213 #[.val (.int p1), .val (.int b), .val (.int c), .val (.int p4), .val (.int p5), .val (.int p6), .val (.int sel), .val (.int q), .val (.int (1 : Int32)), .val (.int (0 : Int32)), .val (.ref b93), .val (.int (0 : Int32))] [(.int q), (.ref b93)])) rfl (by rw [hml]; rfl) (argsL := [(.int q)]) (rest := []) (lenOf pd_1 rfl) rfl rfl (W := 0) (by show 2 * 0 + _ ≤ _; exact Nat.le_of_eq rfl) (hb hby at_213) (by decide) (by decide)
          obtain ⟨rfl, Nq213, he213⟩ := hQ213
          have N213 := Fr.app N111 Nq213
          refine hst st213 ?_
          show F T213 (mkF m 216 #[.val (.int p1), .val (.int b), .val (.int c), .val (.int p4), .val (.int p5), .val (.int p6), .val (.int sel), .val (.int q), .val (.int (1 : Int32)), .val (.int (0 : Int32)), .val (.ref b93), .val (.int (0 : Int32))] [(.int (own_lif ([p1] : List Int32) q ([p1] : List Int32).length))])
          refine hst (fun t₀ k₀ => XS.iload X213.here hx rfl (hb hby at_216) rfl k₀) ?_
          show F T213 (mkF m 218 #[.val (.int p1), .val (.int b), .val (.int c), .val (.int p4), .val (.int p5), .val (.int p6), .val (.int sel), .val (.int q), .val (.int (1 : Int32)), .val (.int (0 : Int32)), .val (.ref b93), .val (.int (0 : Int32))] [(.int (0 : Int32)), (.int (own_lif ([p1] : List Int32) q ([p1] : List Int32).length))])
          refine hst (fun t₀ k₀ => XS.icmpNo X213.here hx rfl (hb hby at_218) rfl (teq (by simp [own_lif, hc203])).2 k₀) ?_
          show F T213 (mkF m 221 #[.val (.int p1), .val (.int b), .val (.int c), .val (.int p4), .val (.int p5), .val (.int p6), .val (.int sel), .val (.int q), .val (.int (1 : Int32)), .val (.int (0 : Int32)), .val (.ref b93), .val (.int (0 : Int32))] [])
          refine hst (fun t₀ k₀ => XS.iconst X213.here hx rfl (hb hby at_221) k₀) ?_
          show F T213 (mkF m 222 #[.val (.int p1), .val (.int b), .val (.int c), .val (.int p4), .val (.int p5), .val (.int p6), .val (.int sel), .val (.int q), .val (.int (1 : Int32)), .val (.int (0 : Int32)), .val (.ref b93), .val (.int (0 : Int32))] [(.int (1 : Int32))])
          refine hst (fun t₀ k₀ => XS.goto X213.here hx rfl (pc0 := 222) (pc' := 226) rfl (hb hby at_222) (by decide) (by decide) k₀) ?_
          show F T213 (mkF m 226 #[.val (.int p1), .val (.int b), .val (.int c), .val (.int p4), .val (.int p5), .val (.int p6), .val (.int sel), .val (.int q), .val (.int (1 : Int32)), .val (.int (0 : Int32)), .val (.ref b93), .val (.int (0 : Int32))] [(.int (1 : Int32))])
          rw [hF]
          refine own_retN X213 hx hret (by simp) hlk (hb hby at_226) (by decide) (by decide) ?_
          rw [he213]
          exact ⟨rfl, N213⟩
        · -- pc 203: taken
          refine hst (fun t₀ k₀ => XS.icmpYes X111.here hx rfl (pc0 := 203) (pc' := 209) rfl (hb hby at_203) rfl (feq hc203).2 (by decide) (by decide) k₀) ?_
          show F T111 (mkF m 209 #[.val (.int p1), .val (.int b), .val (.int c), .val (.int p4), .val (.int p5), .val (.int p6), .val (.int sel), .val (.int q), .val (.int (1 : Int32)), .val (.int (0 : Int32)), .val (.ref b93), .val (.int (-1 : Int32))] [])
          refine hst (fun t₀ k₀ => XS.aload X111.here hx rfl (hb hby at_209) rfl rfl k₀) ?_
          show F T111 (mkF m 211 #[.val (.int p1), .val (.int b), .val (.int c), .val (.int p4), .val (.int p5), .val (.int p6), .val (.int sel), .val (.int q), .val (.int (1 : Int32)), .val (.int (0 : Int32)), .val (.ref b93), .val (.int (-1 : Int32))] [(.ref b93)])
          refine hst (fun t₀ k₀ => XS.iload X111.here hx rfl (hb hby at_211) rfl k₀) ?_
          show F T111 (mkF m 213 #[.val (.int p1), .val (.int b), .val (.int c), .val (.int p4), .val (.int p5), .val (.int p6), .val (.int sel), .val (.int q), .val (.int (1 : Int32)), .val (.int (0 : Int32)), .val (.ref b93), .val (.int (-1 : Int32))] [(.int q), (.ref b93)])
          obtain ⟨v213, T213, Lc213, X213, hQ213, st213⟩ := own_callV X111 hx hZ hown (y := (⟨"com/example/hoist/hoist/CreationPath", "lastIndexOf", "(I)I"⟩ : MethodName)) (hw _ (List.mem_of_getElem? (i := 12) rfl)) (hw _ (List.mem_of_getElem? (i := 13) rfl)) (hw _ (List.mem_of_getElem? (i := 15) rfl)) (hw _ (List.mem_of_getElem? (i := 14) rfl)) (hw _ (List.mem_of_getElem? (i := 2) rfl)) (hw _ (List.mem_of_getElem? (i := 16) rfl)) (by decide) rfl q1_97_p111 (rm3 l Z a0 hw [] b93 q t_97 cf2_111 ([p1] : List Int32) T111.heap n0 Z0_p111 q2_97_p111 q1_111 is2_111 (Nat.le_of_ble_eq_true rfl)) (by decide) (by decide) (g := (mkF m 213 #[.val (.int p1), .val (.int b), .val (.int c), .val (.int p4), .val (.int p5), .val (.int p6), .val (.int sel), .val (.int q), .val (.int (1 : Int32)), .val (.int (0 : Int32)), .val (.ref b93), .val (.int (-1 : Int32))] [(.int q), (.ref b93)])) rfl (by rw [hml]; rfl) (argsL := [(.int q)]) (rest := []) (lenOf pd_1 rfl) rfl rfl (W := 0) (by show 2 * 0 + _ ≤ _; exact Nat.le_of_eq rfl) (hb hby at_213) (by decide) (by decide)
          obtain ⟨rfl, Nq213, he213⟩ := hQ213
          have N213 := Fr.app N111 Nq213
          refine hst st213 ?_
          show F T213 (mkF m 216 #[.val (.int p1), .val (.int b), .val (.int c), .val (.int p4), .val (.int p5), .val (.int p6), .val (.int sel), .val (.int q), .val (.int (1 : Int32)), .val (.int (0 : Int32)), .val (.ref b93), .val (.int (-1 : Int32))] [(.int (own_lif ([p1] : List Int32) q ([p1] : List Int32).length))])
          refine hst (fun t₀ k₀ => XS.iload X213.here hx rfl (hb hby at_216) rfl k₀) ?_
          show F T213 (mkF m 218 #[.val (.int p1), .val (.int b), .val (.int c), .val (.int p4), .val (.int p5), .val (.int p6), .val (.int sel), .val (.int q), .val (.int (1 : Int32)), .val (.int (0 : Int32)), .val (.ref b93), .val (.int (-1 : Int32))] [(.int (-1 : Int32)), (.int (own_lif ([p1] : List Int32) q ([p1] : List Int32).length))])
          refine hst (fun t₀ k₀ => XS.icmpNo X213.here hx rfl (hb hby at_218) rfl (teq (by simp [own_lif, hc203])).2 k₀) ?_
          show F T213 (mkF m 221 #[.val (.int p1), .val (.int b), .val (.int c), .val (.int p4), .val (.int p5), .val (.int p6), .val (.int sel), .val (.int q), .val (.int (1 : Int32)), .val (.int (0 : Int32)), .val (.ref b93), .val (.int (-1 : Int32))] [])
          refine hst (fun t₀ k₀ => XS.iconst X213.here hx rfl (hb hby at_221) k₀) ?_
          show F T213 (mkF m 222 #[.val (.int p1), .val (.int b), .val (.int c), .val (.int p4), .val (.int p5), .val (.int p6), .val (.int sel), .val (.int q), .val (.int (1 : Int32)), .val (.int (0 : Int32)), .val (.ref b93), .val (.int (-1 : Int32))] [(.int (1 : Int32))])
          refine hst (fun t₀ k₀ => XS.goto X213.here hx rfl (pc0 := 222) (pc' := 226) rfl (hb hby at_222) (by decide) (by decide) k₀) ?_
          show F T213 (mkF m 226 #[.val (.int p1), .val (.int b), .val (.int c), .val (.int p4), .val (.int p5), .val (.int p6), .val (.int sel), .val (.int q), .val (.int (1 : Int32)), .val (.int (0 : Int32)), .val (.ref b93), .val (.int (-1 : Int32))] [(.int (1 : Int32))])
          rw [hF]
          refine own_retN X213 hx hret (by simp) hlk (hb hby at_226) (by decide) (by decide) ?_
          rw [he213]
          exact ⟨rfl, N213⟩
      · -- (2 : Int32)
        show F T97 (mkF m 102 #[.val (.int p1), .val (.int b), .val (.int c), .val (.int p4), .val (.int p5), .val (.int p6), .val (.int sel), .val (.int q), .val (.int (2 : Int32)), .val (.int (0 : Int32)), .val (.ref b93), .unset] [])
        refine hst (fun t₀ k₀ => XS.iload X97.here hx rfl (hb hby at_102) rfl k₀) ?_
        show F T97 (mkF m 104 #[.val (.int p1), .val (.int b), .val (.int c), .val (.int p4), .val (.int p5), .val (.int p6), .val (.int sel), .val (.int q), .val (.int (2 : Int32)), .val (.int (0 : Int32)), .val (.ref b93), .unset] [(.int (2 : Int32))])
        refine hst (fun t₀ k₀ => XS.iconst X97.here hx rfl (hb hby at_104) k₀) ?_
        show F T97 (mkF m 105 #[.val (.int p1), .val (.int b), .val (.int c), .val (.int p4), .val (.int p5), .val (.int p6), .val (.int sel), .val (.int q), .val (.int (2 : Int32)), .val (.int (0 : Int32)), .val (.ref b93), .unset] [(.int (1 : Int32)), (.int (2 : Int32))])
        refine hst (fun t₀ k₀ => XS.icmpNo X97.here hx rfl (hb hby at_105) rfl (flt (by decide)).1 k₀) ?_
        show F T97 (mkF m 108 #[.val (.int p1), .val (.int b), .val (.int c), .val (.int p4), .val (.int p5), .val (.int p6), .val (.int sel), .val (.int q), .val (.int (2 : Int32)), .val (.int (0 : Int32)), .val (.ref b93), .unset] [])
        refine hst (fun t₀ k₀ => XS.aload X97.here hx rfl (hb hby at_108) rfl rfl k₀) ?_
        show F T97 (mkF m 110 #[.val (.int p1), .val (.int b), .val (.int c), .val (.int p4), .val (.int p5), .val (.int p6), .val (.int sel), .val (.int q), .val (.int (2 : Int32)), .val (.int (0 : Int32)), .val (.ref b93), .unset] [(.ref b93)])
        refine hst (fun t₀ k₀ => XS.iloadN X97.here hx rfl (hb hby at_110) rfl k₀) ?_
        show F T97 (mkF m 111 #[.val (.int p1), .val (.int b), .val (.int c), .val (.int p4), .val (.int p5), .val (.int p6), .val (.int sel), .val (.int q), .val (.int (2 : Int32)), .val (.int (0 : Int32)), .val (.ref b93), .unset] [(.int p1), (.ref b93)])
        obtain ⟨v111, T111, Lc111, X111, hQ111, st111⟩ := own_callV X97 hx hZ hown (y := (⟨"com/example/hoist/hoist/CreationPath", "enter", "(I)V"⟩ : MethodName)) (hw _ (List.mem_of_getElem? (i := 17) rfl)) (hw _ (List.mem_of_getElem? (i := 18) rfl)) (hw _ (List.mem_of_getElem? (i := 20) rfl)) (hw _ (List.mem_of_getElem? (i := 19) rfl)) (hw _ (List.mem_of_getElem? (i := 2) rfl)) (hw _ (List.mem_of_getElem? (i := 21) rfl)) (by decide) rfl q1_97 (rm4 l Z a0 hw [] b93 p1 t_97 (fun _ => (0 : Int32)) ([] : List Int32) T97.heap n0 Z0_p97 q2_97 q3_97 ge_t_97 is_97 (Nat.le_of_ble_eq_true rfl) ne_b93_t_97) (by decide) (by decide) (g := (mkF m 111 #[.val (.int p1), .val (.int b), .val (.int c), .val (.int p4), .val (.int p5), .val (.int p6), .val (.int sel), .val (.int q), .val (.int (2 : Int32)), .val (.int (0 : Int32)), .val (.ref b93), .unset] [(.int p1), (.ref b93)])) rfl (by rw [hml]; rfl) (argsL := [(.int p1)]) (rest := []) (lenOf pd_2 rfl) rfl rfl (W := 0) (by show 2 * 0 + _ ≤ _; exact Nat.le_of_eq rfl) (hb hby at_111) (by decide) (by decide)
        obtain ⟨cf2_111, rfl, Nq111, K111, q1_111, is2_111⟩ := hQ111
        have N111 := Fr.app N97 Nq111
        have q1_97_p111 : Exa Z T111.heap b93 "com/example/hoist/hoist/CreationPath" := q1_97.keep K111
        have q2_97_p111 : Fld Z T111.heap b93 "com/example/hoist/hoist/CreationPath" "slots" "[I" (.ref t_97) := q2_97.keep K111 (by simp only [List.mem_cons, List.not_mem_nil, or_false, not_or]; exact ne_b93_t_97)
        have Z0_p111 : n0 ≤ T111.heap.size := Nat.le_trans Z0_p97 K111.1
        refine hst st111 ?_
        show F T111 (mkF m 114 #[.val (.int p1), .val (.int b), .val (.int c), .val (.int p4), .val (.int p5), .val (.int p6), .val (.int sel), .val (.int q), .val (.int (2 : Int32)), .val (.int (0 : Int32)), .val (.ref b93), .unset] [])
        refine hst (fun t₀ k₀ => XS.iload X111.here hx rfl (hb hby at_114) rfl k₀) ?_
        show F T111 (mkF m 116 #[.val (.int p1), .val (.int b), .val (.int c), .val (.int p4), .val (.int p5), .val (.int p6), .val (.int sel), .val (.int q), .val (.int (2 : Int32)), .val (.int (0 : Int32)), .val (.ref b93), .unset] [(.int (2 : Int32))])
        refine hst (fun t₀ k₀ => XS.iconst X111.here hx rfl (hb hby at_116) k₀) ?_
        show F T111 (mkF m 117 #[.val (.int p1), .val (.int b), .val (.int c), .val (.int p4), .val (.int p5), .val (.int p6), .val (.int sel), .val (.int q), .val (.int (2 : Int32)), .val (.int (0 : Int32)), .val (.ref b93), .unset] [(.int (2 : Int32)), (.int (2 : Int32))])
        refine hst (fun t₀ k₀ => XS.icmpNo X111.here hx rfl (hb hby at_117) rfl (flt (by decide)).1 k₀) ?_
        show F T111 (mkF m 120 #[.val (.int p1), .val (.int b), .val (.int c), .val (.int p4), .val (.int p5), .val (.int p6), .val (.int sel), .val (.int q), .val (.int (2 : Int32)), .val (.int (0 : Int32)), .val (.ref b93), .unset] [])
        refine hst (fun t₀ k₀ => XS.aload X111.here hx rfl (hb hby at_120) rfl rfl k₀) ?_
        show F T111 (mkF m 122 #[.val (.int p1), .val (.int b), .val (.int c), .val (.int p4), .val (.int p5), .val (.int p6), .val (.int sel), .val (.int q), .val (.int (2 : Int32)), .val (.int (0 : Int32)), .val (.ref b93), .unset] [(.ref b93)])
        refine hst (fun t₀ k₀ => XS.iloadN X111.here hx rfl (hb hby at_122) rfl k₀) ?_
        show F T111 (mkF m 123 #[.val (.int p1), .val (.int b), .val (.int c), .val (.int p4), .val (.int p5), .val (.int p6), .val (.int sel), .val (.int q), .val (.int (2 : Int32)), .val (.int (0 : Int32)), .val (.ref b93), .unset] [(.int b), (.ref b93)])
        obtain ⟨v123, T123, Lc123, X123, hQ123, st123⟩ := own_callV X111 hx hZ hown (y := (⟨"com/example/hoist/hoist/CreationPath", "enter", "(I)V"⟩ : MethodName)) (hw _ (List.mem_of_getElem? (i := 17) rfl)) (hw _ (List.mem_of_getElem? (i := 18) rfl)) (hw _ (List.mem_of_getElem? (i := 20) rfl)) (hw _ (List.mem_of_getElem? (i := 19) rfl)) (hw _ (List.mem_of_getElem? (i := 2) rfl)) (hw _ (List.mem_of_getElem? (i := 21) rfl)) (by decide) rfl q1_97_p111 (rm4 l Z a0 hw [] b93 b t_97 cf2_111 ([p1] : List Int32) T111.heap n0 Z0_p111 q2_97_p111 q1_111 ge_t_97 is2_111 (Nat.le_of_ble_eq_true rfl) ne_b93_t_97) (by decide) (by decide) (g := (mkF m 123 #[.val (.int p1), .val (.int b), .val (.int c), .val (.int p4), .val (.int p5), .val (.int p6), .val (.int sel), .val (.int q), .val (.int (2 : Int32)), .val (.int (0 : Int32)), .val (.ref b93), .unset] [(.int b), (.ref b93)])) rfl (by rw [hml]; rfl) (argsL := [(.int b)]) (rest := []) (lenOf pd_2 rfl) rfl rfl (W := 0) (by show 2 * 0 + _ ≤ _; exact Nat.le_of_eq rfl) (hb hby at_123) (by decide) (by decide)
        obtain ⟨cf2_123, rfl, Nq123, K123, q1_123, is2_123⟩ := hQ123
        have N123 := Fr.app N111 Nq123
        have q1_97_p123 : Exa Z T123.heap b93 "com/example/hoist/hoist/CreationPath" := q1_97_p111.keep K123
        have q2_97_p123 : Fld Z T123.heap b93 "com/example/hoist/hoist/CreationPath" "slots" "[I" (.ref t_97) := q2_97_p111.keep K123 (by simp only [List.mem_cons, List.not_mem_nil, or_false, not_or]; exact ne_b93_t_97)
        have Z0_p123 : n0 ≤ T123.heap.size := Nat.le_trans Z0_p111 K123.1
        refine hst st123 ?_
        show F T123 (mkF m 126 #[.val (.int p1), .val (.int b), .val (.int c), .val (.int p4), .val (.int p5), .val (.int p6), .val (.int sel), .val (.int q), .val (.int (2 : Int32)), .val (.int (0 : Int32)), .val (.ref b93), .unset] [])
        refine hst (fun t₀ k₀ => XS.iload X123.here hx rfl (hb hby at_126) rfl k₀) ?_
        show F T123 (mkF m 128 #[.val (.int p1), .val (.int b), .val (.int c), .val (.int p4), .val (.int p5), .val (.int p6), .val (.int sel), .val (.int q), .val (.int (2 : Int32)), .val (.int (0 : Int32)), .val (.ref b93), .unset] [(.int (2 : Int32))])
        refine hst (fun t₀ k₀ => XS.iconst X123.here hx rfl (hb hby at_128) k₀) ?_
        show F T123 (mkF m 129 #[.val (.int p1), .val (.int b), .val (.int c), .val (.int p4), .val (.int p5), .val (.int p6), .val (.int sel), .val (.int q), .val (.int (2 : Int32)), .val (.int (0 : Int32)), .val (.ref b93), .unset] [(.int (3 : Int32)), (.int (2 : Int32))])
        refine hst (fun t₀ k₀ => XS.icmpYes X123.here hx rfl (pc0 := 129) (pc' := 138) rfl (hb hby at_129) rfl (tlt (by decide)).1 (by decide) (by decide) k₀) ?_
        show F T123 (mkF m 138 #[.val (.int p1), .val (.int b), .val (.int c), .val (.int p4), .val (.int p5), .val (.int p6), .val (.int sel), .val (.int q), .val (.int (2 : Int32)), .val (.int (0 : Int32)), .val (.ref b93), .unset] [])
        refine hst (fun t₀ k₀ => XS.iload X123.here hx rfl (hb hby at_138) rfl k₀) ?_
        show F T123 (mkF m 140 #[.val (.int p1), .val (.int b), .val (.int c), .val (.int p4), .val (.int p5), .val (.int p6), .val (.int sel), .val (.int q), .val (.int (2 : Int32)), .val (.int (0 : Int32)), .val (.ref b93), .unset] [(.int (0 : Int32))])
        refine hst (fun t₀ k₀ => XS.ifYes X123.here hx rfl (pc0 := 140) (pc' := 155) rfl (hb hby at_140) rfl ((if0 _ _).trans (teq (by decide)).1) (by decide) (by decide) k₀) ?_
        show F T123 (mkF m 155 #[.val (.int p1), .val (.int b), .val (.int c), .val (.int p4), .val (.int p5), .val (.int p6), .val (.int sel), .val (.int q), .val (.int (2 : Int32)), .val (.int (0 : Int32)), .val (.ref b93), .unset] [])
        refine hst (fun t₀ k₀ => XS.iconst X123.here hx rfl (hb hby at_155) k₀) ?_
        show F T123 (mkF m 156 #[.val (.int p1), .val (.int b), .val (.int c), .val (.int p4), .val (.int p5), .val (.int p6), .val (.int sel), .val (.int q), .val (.int (2 : Int32)), .val (.int (0 : Int32)), .val (.ref b93), .unset] [(.int (-1 : Int32))])
        refine hst (fun t₀ k₀ => XS.istore X123.here hx rfl (hb hby at_156) rfl (l' := #[.val (.int p1), .val (.int b), .val (.int c), .val (.int p4), .val (.int p5), .val (.int p6), .val (.int sel), .val (.int q), .val (.int (2 : Int32)), .val (.int (0 : Int32)), .val (.ref b93), .val (.int (-1 : Int32))]) rfl k₀) ?_
        show F T123 (mkF m 158 #[.val (.int p1), .val (.int b), .val (.int c), .val (.int p4), .val (.int p5), .val (.int p6), .val (.int sel), .val (.int q), .val (.int (2 : Int32)), .val (.int (0 : Int32)), .val (.ref b93), .val (.int (-1 : Int32))] [])
        refine hst (fun t₀ k₀ => XS.iload X123.here hx rfl (hb hby at_158) rfl k₀) ?_
        show F T123 (mkF m 160 #[.val (.int p1), .val (.int b), .val (.int c), .val (.int p4), .val (.int p5), .val (.int p6), .val (.int sel), .val (.int q), .val (.int (2 : Int32)), .val (.int (0 : Int32)), .val (.ref b93), .val (.int (-1 : Int32))] [(.int (2 : Int32))])
        refine hst (fun t₀ k₀ => XS.iconst X123.here hx rfl (hb hby at_160) k₀) ?_
        show F T123 (mkF m 161 #[.val (.int p1), .val (.int b), .val (.int c), .val (.int p4), .val (.int p5), .val (.int p6), .val (.int sel), .val (.int q), .val (.int (2 : Int32)), .val (.int (0 : Int32)), .val (.ref b93), .val (.int (-1 : Int32))] [(.int (3 : Int32)), (.int (2 : Int32))])
        refine hst (fun t₀ k₀ => XS.icmpYes X123.here hx rfl (pc0 := 161) (pc' := 176) rfl (hb hby at_161) rfl (tlt (by decide)).1 (by decide) (by decide) k₀) ?_
        show F T123 (mkF m 176 #[.val (.int p1), .val (.int b), .val (.int c), .val (.int p4), .val (.int p5), .val (.int p6), .val (.int sel), .val (.int q), .val (.int (2 : Int32)), .val (.int (0 : Int32)), .val (.ref b93), .val (.int (-1 : Int32))] [])
        refine hst (fun t₀ k₀ => XS.iload X123.here hx rfl (hb hby at_176) rfl k₀) ?_
        show F T123 (mkF m 178 #[.val (.int p1), .val (.int b), .val (.int c), .val (.int p4), .val (.int p5), .val (.int p6), .val (.int sel), .val (.int q), .val (.int (2 : Int32)), .val (.int (0 : Int32)), .val (.ref b93), .val (.int (-1 : Int32))] [(.int (2 : Int32))])
        refine hst (fun t₀ k₀ => XS.iconst X123.here hx rfl (hb hby at_178) k₀) ?_
        show F T123 (mkF m 179 #[.val (.int p1), .val (.int b), .val (.int c), .val (.int p4), .val (.int p5), .val (.int p6), .val (.int sel), .val (.int q), .val (.int (2 : Int32)), .val (.int (0 : Int32)), .val (.ref b93), .val (.int (-1 : Int32))] [(.int (2 : Int32)), (.int (2 : Int32))])
        refine hst (fun t₀ k₀ => XS.icmpNo X123.here hx rfl (hb hby at_179) rfl (flt (by decide)).1 k₀) ?_
        show F T123 (mkF m 182 #[.val (.int p1), .val (.int b), .val (.int c), .val (.int p4), .val (.int p5), .val (.int p6), .val (.int sel), .val (.int q), .val (.int (2 : Int32)), .val (.int (0 : Int32)), .val (.ref b93), .val (.int (-1 : Int32))] [])
        refine hst (fun t₀ k₀ => XS.iloadN X123.here hx rfl (hb hby at_182) rfl k₀) ?_
        show F T123 (mkF m 183 #[.val (.int p1), .val (.int b), .val (.int c), .val (.int p4), .val (.int p5), .val (.int p6), .val (.int sel), .val (.int q), .val (.int (2 : Int32)), .val (.int (0 : Int32)), .val (.ref b93), .val (.int (-1 : Int32))] [(.int b)])
        refine hst (fun t₀ k₀ => XS.iload X123.here hx rfl (hb hby at_183) rfl k₀) ?_
        show F T123 (mkF m 185 #[.val (.int p1), .val (.int b), .val (.int c), .val (.int p4), .val (.int p5), .val (.int p6), .val (.int sel), .val (.int q), .val (.int (2 : Int32)), .val (.int (0 : Int32)), .val (.ref b93), .val (.int (-1 : Int32))] [(.int q), (.int b)])
        by_cases hc185 : b = q
        · -- pc 185: not taken
          refine hst (fun t₀ k₀ => XS.icmpNo X123.here hx rfl (hb hby at_185) rfl (teq hc185).2 k₀) ?_
          show F T123 (mkF m 188 #[.val (.int p1), .val (.int b), .val (.int c), .val (.int p4), .val (.int p5), .val (.int p6), .val (.int sel), .val (.int q), .val (.int (2 : Int32)), .val (.int (0 : Int32)), .val (.ref b93), .val (.int (-1 : Int32))] [])
          refine hst (fun t₀ k₀ => XS.iconst X123.here hx rfl (hb hby at_188) k₀) ?_
          show F T123 (mkF m 189 #[.val (.int p1), .val (.int b), .val (.int c), .val (.int p4), .val (.int p5), .val (.int p6), .val (.int sel), .val (.int q), .val (.int (2 : Int32)), .val (.int (0 : Int32)), .val (.ref b93), .val (.int (-1 : Int32))] [(.int (1 : Int32))])
          refine hst (fun t₀ k₀ => XS.istore X123.here hx rfl (hb hby at_189) rfl (l' := #[.val (.int p1), .val (.int b), .val (.int c), .val (.int p4), .val (.int p5), .val (.int p6), .val (.int sel), .val (.int q), .val (.int (2 : Int32)), .val (.int (0 : Int32)), .val (.ref b93), .val (.int (1 : Int32))]) rfl k₀) ?_
          show F T123 (mkF m 191 #[.val (.int p1), .val (.int b), .val (.int c), .val (.int p4), .val (.int p5), .val (.int p6), .val (.int sel), .val (.int q), .val (.int (2 : Int32)), .val (.int (0 : Int32)), .val (.ref b93), .val (.int (1 : Int32))] [])
          refine hst (fun t₀ k₀ => XS.goto X123.here hx rfl (pc0 := 191) (pc' := 209) rfl (hb hby at_191) (by decide) (by decide) k₀) ?_
          show F T123 (mkF m 209 #[.val (.int p1), .val (.int b), .val (.int c), .val (.int p4), .val (.int p5), .val (.int p6), .val (.int sel), .val (.int q), .val (.int (2 : Int32)), .val (.int (0 : Int32)), .val (.ref b93), .val (.int (1 : Int32))] [])
          refine hst (fun t₀ k₀ => XS.aload X123.here hx rfl (hb hby at_209) rfl rfl k₀) ?_
          show F T123 (mkF m 211 #[.val (.int p1), .val (.int b), .val (.int c), .val (.int p4), .val (.int p5), .val (.int p6), .val (.int sel), .val (.int q), .val (.int (2 : Int32)), .val (.int (0 : Int32)), .val (.ref b93), .val (.int (1 : Int32))] [(.ref b93)])
          refine hst (fun t₀ k₀ => XS.iload X123.here hx rfl (hb hby at_211) rfl k₀) ?_
          show F T123 (mkF m 213 #[.val (.int p1), .val (.int b), .val (.int c), .val (.int p4), .val (.int p5), .val (.int p6), .val (.int sel), .val (.int q), .val (.int (2 : Int32)), .val (.int (0 : Int32)), .val (.ref b93), .val (.int (1 : Int32))] [(.int q), (.ref b93)])
          obtain ⟨v213, T213, Lc213, X213, hQ213, st213⟩ := own_callV X123 hx hZ hown (y := (⟨"com/example/hoist/hoist/CreationPath", "lastIndexOf", "(I)I"⟩ : MethodName)) (hw _ (List.mem_of_getElem? (i := 12) rfl)) (hw _ (List.mem_of_getElem? (i := 13) rfl)) (hw _ (List.mem_of_getElem? (i := 15) rfl)) (hw _ (List.mem_of_getElem? (i := 14) rfl)) (hw _ (List.mem_of_getElem? (i := 2) rfl)) (hw _ (List.mem_of_getElem? (i := 16) rfl)) (by decide) rfl q1_97_p123 (rm3 l Z a0 hw [] b93 q t_97 cf2_123 ([p1, b] : List Int32) T123.heap n0 Z0_p123 q2_97_p123 q1_123 is2_123 (Nat.le_of_ble_eq_true rfl)) (by decide) (by decide) (g := (mkF m 213 #[.val (.int p1), .val (.int b), .val (.int c), .val (.int p4), .val (.int p5), .val (.int p6), .val (.int sel), .val (.int q), .val (.int (2 : Int32)), .val (.int (0 : Int32)), .val (.ref b93), .val (.int (1 : Int32))] [(.int q), (.ref b93)])) rfl (by rw [hml]; rfl) (argsL := [(.int q)]) (rest := []) (lenOf pd_1 rfl) rfl rfl (W := 0) (by show 2 * 0 + _ ≤ _; exact Nat.le_of_eq rfl) (hb hby at_213) (by decide) (by decide)
          obtain ⟨rfl, Nq213, he213⟩ := hQ213
          have N213 := Fr.app N123 Nq213
          refine hst st213 ?_
          show F T213 (mkF m 216 #[.val (.int p1), .val (.int b), .val (.int c), .val (.int p4), .val (.int p5), .val (.int p6), .val (.int sel), .val (.int q), .val (.int (2 : Int32)), .val (.int (0 : Int32)), .val (.ref b93), .val (.int (1 : Int32))] [(.int (own_lif ([p1, b] : List Int32) q ([p1, b] : List Int32).length))])
          refine hst (fun t₀ k₀ => XS.iload X213.here hx rfl (hb hby at_216) rfl k₀) ?_
          show F T213 (mkF m 218 #[.val (.int p1), .val (.int b), .val (.int c), .val (.int p4), .val (.int p5), .val (.int p6), .val (.int sel), .val (.int q), .val (.int (2 : Int32)), .val (.int (0 : Int32)), .val (.ref b93), .val (.int (1 : Int32))] [(.int (1 : Int32)), (.int (own_lif ([p1, b] : List Int32) q ([p1, b] : List Int32).length))])
          refine hst (fun t₀ k₀ => XS.icmpNo X213.here hx rfl (hb hby at_218) rfl (teq (by simp [own_lif, hc185])).2 k₀) ?_
          show F T213 (mkF m 221 #[.val (.int p1), .val (.int b), .val (.int c), .val (.int p4), .val (.int p5), .val (.int p6), .val (.int sel), .val (.int q), .val (.int (2 : Int32)), .val (.int (0 : Int32)), .val (.ref b93), .val (.int (1 : Int32))] [])
          refine hst (fun t₀ k₀ => XS.iconst X213.here hx rfl (hb hby at_221) k₀) ?_
          show F T213 (mkF m 222 #[.val (.int p1), .val (.int b), .val (.int c), .val (.int p4), .val (.int p5), .val (.int p6), .val (.int sel), .val (.int q), .val (.int (2 : Int32)), .val (.int (0 : Int32)), .val (.ref b93), .val (.int (1 : Int32))] [(.int (1 : Int32))])
          refine hst (fun t₀ k₀ => XS.goto X213.here hx rfl (pc0 := 222) (pc' := 226) rfl (hb hby at_222) (by decide) (by decide) k₀) ?_
          show F T213 (mkF m 226 #[.val (.int p1), .val (.int b), .val (.int c), .val (.int p4), .val (.int p5), .val (.int p6), .val (.int sel), .val (.int q), .val (.int (2 : Int32)), .val (.int (0 : Int32)), .val (.ref b93), .val (.int (1 : Int32))] [(.int (1 : Int32))])
          rw [hF]
          refine own_retN X213 hx hret (by simp) hlk (hb hby at_226) (by decide) (by decide) ?_
          rw [he213]
          exact ⟨rfl, N213⟩
        · -- pc 185: taken
          refine hst (fun t₀ k₀ => XS.icmpYes X123.here hx rfl (pc0 := 185) (pc' := 194) rfl (hb hby at_185) rfl (feq hc185).2 (by decide) (by decide) k₀) ?_
          show F T123 (mkF m 194 #[.val (.int p1), .val (.int b), .val (.int c), .val (.int p4), .val (.int p5), .val (.int p6), .val (.int sel), .val (.int q), .val (.int (2 : Int32)), .val (.int (0 : Int32)), .val (.ref b93), .val (.int (-1 : Int32))] [])
          refine hst (fun t₀ k₀ => XS.iload X123.here hx rfl (hb hby at_194) rfl k₀) ?_
          show F T123 (mkF m 196 #[.val (.int p1), .val (.int b), .val (.int c), .val (.int p4), .val (.int p5), .val (.int p6), .val (.int sel), .val (.int q), .val (.int (2 : Int32)), .val (.int (0 : Int32)), .val (.ref b93), .val (.int (-1 : Int32))] [(.int (2 : Int32))])
          refine hst (fun t₀ k₀ => XS.iconst X123.here hx rfl (hb hby at_196) k₀) ?_
          show F T123 (mkF m 197 #[.val (.int p1), .val (.int b), .val (.int c), .val (.int p4), .val (.int p5), .val (.int p6), .val (.int sel), .val (.int q), .val (.int (2 : Int32)), .val (.int (0 : Int32)), .val (.ref b93), .val (.int (-1 : Int32))] [(.int (1 : Int32)), (.int (2 : Int32))])
          refine hst (fun t₀ k₀ => XS.icmpNo X123.here hx rfl (hb hby at_197) rfl (flt (by decide)).1 k₀) ?_
          show F T123 (mkF m 200 #[.val (.int p1), .val (.int b), .val (.int c), .val (.int p4), .val (.int p5), .val (.int p6), .val (.int sel), .val (.int q), .val (.int (2 : Int32)), .val (.int (0 : Int32)), .val (.ref b93), .val (.int (-1 : Int32))] [])
          refine hst (fun t₀ k₀ => XS.iloadN X123.here hx rfl (hb hby at_200) rfl k₀) ?_
          show F T123 (mkF m 201 #[.val (.int p1), .val (.int b), .val (.int c), .val (.int p4), .val (.int p5), .val (.int p6), .val (.int sel), .val (.int q), .val (.int (2 : Int32)), .val (.int (0 : Int32)), .val (.ref b93), .val (.int (-1 : Int32))] [(.int p1)])
          refine hst (fun t₀ k₀ => XS.iload X123.here hx rfl (hb hby at_201) rfl k₀) ?_
          show F T123 (mkF m 203 #[.val (.int p1), .val (.int b), .val (.int c), .val (.int p4), .val (.int p5), .val (.int p6), .val (.int sel), .val (.int q), .val (.int (2 : Int32)), .val (.int (0 : Int32)), .val (.ref b93), .val (.int (-1 : Int32))] [(.int q), (.int p1)])
          by_cases hc203 : p1 = q
          · -- pc 203: not taken
            refine hst (fun t₀ k₀ => XS.icmpNo X123.here hx rfl (hb hby at_203) rfl (teq hc203).2 k₀) ?_
            show F T123 (mkF m 206 #[.val (.int p1), .val (.int b), .val (.int c), .val (.int p4), .val (.int p5), .val (.int p6), .val (.int sel), .val (.int q), .val (.int (2 : Int32)), .val (.int (0 : Int32)), .val (.ref b93), .val (.int (-1 : Int32))] [])
            refine hst (fun t₀ k₀ => XS.iconst X123.here hx rfl (hb hby at_206) k₀) ?_
            show F T123 (mkF m 207 #[.val (.int p1), .val (.int b), .val (.int c), .val (.int p4), .val (.int p5), .val (.int p6), .val (.int sel), .val (.int q), .val (.int (2 : Int32)), .val (.int (0 : Int32)), .val (.ref b93), .val (.int (-1 : Int32))] [(.int (0 : Int32))])
            refine hst (fun t₀ k₀ => XS.istore X123.here hx rfl (hb hby at_207) rfl (l' := #[.val (.int p1), .val (.int b), .val (.int c), .val (.int p4), .val (.int p5), .val (.int p6), .val (.int sel), .val (.int q), .val (.int (2 : Int32)), .val (.int (0 : Int32)), .val (.ref b93), .val (.int (0 : Int32))]) rfl k₀) ?_
            show F T123 (mkF m 209 #[.val (.int p1), .val (.int b), .val (.int c), .val (.int p4), .val (.int p5), .val (.int p6), .val (.int sel), .val (.int q), .val (.int (2 : Int32)), .val (.int (0 : Int32)), .val (.ref b93), .val (.int (0 : Int32))] [])
            refine hst (fun t₀ k₀ => XS.aload X123.here hx rfl (hb hby at_209) rfl rfl k₀) ?_
            show F T123 (mkF m 211 #[.val (.int p1), .val (.int b), .val (.int c), .val (.int p4), .val (.int p5), .val (.int p6), .val (.int sel), .val (.int q), .val (.int (2 : Int32)), .val (.int (0 : Int32)), .val (.ref b93), .val (.int (0 : Int32))] [(.ref b93)])
            refine hst (fun t₀ k₀ => XS.iload X123.here hx rfl (hb hby at_211) rfl k₀) ?_
            show F T123 (mkF m 213 #[.val (.int p1), .val (.int b), .val (.int c), .val (.int p4), .val (.int p5), .val (.int p6), .val (.int sel), .val (.int q), .val (.int (2 : Int32)), .val (.int (0 : Int32)), .val (.ref b93), .val (.int (0 : Int32))] [(.int q), (.ref b93)])
            obtain ⟨v213, T213, Lc213, X213, hQ213, st213⟩ := own_callV X123 hx hZ hown (y := (⟨"com/example/hoist/hoist/CreationPath", "lastIndexOf", "(I)I"⟩ : MethodName)) (hw _ (List.mem_of_getElem? (i := 12) rfl)) (hw _ (List.mem_of_getElem? (i := 13) rfl)) (hw _ (List.mem_of_getElem? (i := 15) rfl)) (hw _ (List.mem_of_getElem? (i := 14) rfl)) (hw _ (List.mem_of_getElem? (i := 2) rfl)) (hw _ (List.mem_of_getElem? (i := 16) rfl)) (by decide) rfl q1_97_p123 (rm3 l Z a0 hw [] b93 q t_97 cf2_123 ([p1, b] : List Int32) T123.heap n0 Z0_p123 q2_97_p123 q1_123 is2_123 (Nat.le_of_ble_eq_true rfl)) (by decide) (by decide) (g := (mkF m 213 #[.val (.int p1), .val (.int b), .val (.int c), .val (.int p4), .val (.int p5), .val (.int p6), .val (.int sel), .val (.int q), .val (.int (2 : Int32)), .val (.int (0 : Int32)), .val (.ref b93), .val (.int (0 : Int32))] [(.int q), (.ref b93)])) rfl (by rw [hml]; rfl) (argsL := [(.int q)]) (rest := []) (lenOf pd_1 rfl) rfl rfl (W := 0) (by show 2 * 0 + _ ≤ _; exact Nat.le_of_eq rfl) (hb hby at_213) (by decide) (by decide)
            obtain ⟨rfl, Nq213, he213⟩ := hQ213
            have N213 := Fr.app N123 Nq213
            refine hst st213 ?_
            show F T213 (mkF m 216 #[.val (.int p1), .val (.int b), .val (.int c), .val (.int p4), .val (.int p5), .val (.int p6), .val (.int sel), .val (.int q), .val (.int (2 : Int32)), .val (.int (0 : Int32)), .val (.ref b93), .val (.int (0 : Int32))] [(.int (own_lif ([p1, b] : List Int32) q ([p1, b] : List Int32).length))])
            refine hst (fun t₀ k₀ => XS.iload X213.here hx rfl (hb hby at_216) rfl k₀) ?_
            show F T213 (mkF m 218 #[.val (.int p1), .val (.int b), .val (.int c), .val (.int p4), .val (.int p5), .val (.int p6), .val (.int sel), .val (.int q), .val (.int (2 : Int32)), .val (.int (0 : Int32)), .val (.ref b93), .val (.int (0 : Int32))] [(.int (0 : Int32)), (.int (own_lif ([p1, b] : List Int32) q ([p1, b] : List Int32).length))])
            refine hst (fun t₀ k₀ => XS.icmpNo X213.here hx rfl (hb hby at_218) rfl (teq (by simp [own_lif, hc185, hc203])).2 k₀) ?_
            show F T213 (mkF m 221 #[.val (.int p1), .val (.int b), .val (.int c), .val (.int p4), .val (.int p5), .val (.int p6), .val (.int sel), .val (.int q), .val (.int (2 : Int32)), .val (.int (0 : Int32)), .val (.ref b93), .val (.int (0 : Int32))] [])
            refine hst (fun t₀ k₀ => XS.iconst X213.here hx rfl (hb hby at_221) k₀) ?_
            show F T213 (mkF m 222 #[.val (.int p1), .val (.int b), .val (.int c), .val (.int p4), .val (.int p5), .val (.int p6), .val (.int sel), .val (.int q), .val (.int (2 : Int32)), .val (.int (0 : Int32)), .val (.ref b93), .val (.int (0 : Int32))] [(.int (1 : Int32))])
            refine hst (fun t₀ k₀ => XS.goto X213.here hx rfl (pc0 := 222) (pc' := 226) rfl (hb hby at_222) (by decide) (by decide) k₀) ?_
            show F T213 (mkF m 226 #[.val (.int p1), .val (.int b), .val (.int c), .val (.int p4), .val (.int p5), .val (.int p6), .val (.int sel), .val (.int q), .val (.int (2 : Int32)), .val (.int (0 : Int32)), .val (.ref b93), .val (.int (0 : Int32))] [(.int (1 : Int32))])
            rw [hF]
            refine own_retN X213 hx hret (by simp) hlk (hb hby at_226) (by decide) (by decide) ?_
            rw [he213]
            exact ⟨rfl, N213⟩
          · -- pc 203: taken
            refine hst (fun t₀ k₀ => XS.icmpYes X123.here hx rfl (pc0 := 203) (pc' := 209) rfl (hb hby at_203) rfl (feq hc203).2 (by decide) (by decide) k₀) ?_
            show F T123 (mkF m 209 #[.val (.int p1), .val (.int b), .val (.int c), .val (.int p4), .val (.int p5), .val (.int p6), .val (.int sel), .val (.int q), .val (.int (2 : Int32)), .val (.int (0 : Int32)), .val (.ref b93), .val (.int (-1 : Int32))] [])
            refine hst (fun t₀ k₀ => XS.aload X123.here hx rfl (hb hby at_209) rfl rfl k₀) ?_
            show F T123 (mkF m 211 #[.val (.int p1), .val (.int b), .val (.int c), .val (.int p4), .val (.int p5), .val (.int p6), .val (.int sel), .val (.int q), .val (.int (2 : Int32)), .val (.int (0 : Int32)), .val (.ref b93), .val (.int (-1 : Int32))] [(.ref b93)])
            refine hst (fun t₀ k₀ => XS.iload X123.here hx rfl (hb hby at_211) rfl k₀) ?_
            show F T123 (mkF m 213 #[.val (.int p1), .val (.int b), .val (.int c), .val (.int p4), .val (.int p5), .val (.int p6), .val (.int sel), .val (.int q), .val (.int (2 : Int32)), .val (.int (0 : Int32)), .val (.ref b93), .val (.int (-1 : Int32))] [(.int q), (.ref b93)])
            obtain ⟨v213, T213, Lc213, X213, hQ213, st213⟩ := own_callV X123 hx hZ hown (y := (⟨"com/example/hoist/hoist/CreationPath", "lastIndexOf", "(I)I"⟩ : MethodName)) (hw _ (List.mem_of_getElem? (i := 12) rfl)) (hw _ (List.mem_of_getElem? (i := 13) rfl)) (hw _ (List.mem_of_getElem? (i := 15) rfl)) (hw _ (List.mem_of_getElem? (i := 14) rfl)) (hw _ (List.mem_of_getElem? (i := 2) rfl)) (hw _ (List.mem_of_getElem? (i := 16) rfl)) (by decide) rfl q1_97_p123 (rm3 l Z a0 hw [] b93 q t_97 cf2_123 ([p1, b] : List Int32) T123.heap n0 Z0_p123 q2_97_p123 q1_123 is2_123 (Nat.le_of_ble_eq_true rfl)) (by decide) (by decide) (g := (mkF m 213 #[.val (.int p1), .val (.int b), .val (.int c), .val (.int p4), .val (.int p5), .val (.int p6), .val (.int sel), .val (.int q), .val (.int (2 : Int32)), .val (.int (0 : Int32)), .val (.ref b93), .val (.int (-1 : Int32))] [(.int q), (.ref b93)])) rfl (by rw [hml]; rfl) (argsL := [(.int q)]) (rest := []) (lenOf pd_1 rfl) rfl rfl (W := 0) (by show 2 * 0 + _ ≤ _; exact Nat.le_of_eq rfl) (hb hby at_213) (by decide) (by decide)
            obtain ⟨rfl, Nq213, he213⟩ := hQ213
            have N213 := Fr.app N123 Nq213
            refine hst st213 ?_
            show F T213 (mkF m 216 #[.val (.int p1), .val (.int b), .val (.int c), .val (.int p4), .val (.int p5), .val (.int p6), .val (.int sel), .val (.int q), .val (.int (2 : Int32)), .val (.int (0 : Int32)), .val (.ref b93), .val (.int (-1 : Int32))] [(.int (own_lif ([p1, b] : List Int32) q ([p1, b] : List Int32).length))])
            refine hst (fun t₀ k₀ => XS.iload X213.here hx rfl (hb hby at_216) rfl k₀) ?_
            show F T213 (mkF m 218 #[.val (.int p1), .val (.int b), .val (.int c), .val (.int p4), .val (.int p5), .val (.int p6), .val (.int sel), .val (.int q), .val (.int (2 : Int32)), .val (.int (0 : Int32)), .val (.ref b93), .val (.int (-1 : Int32))] [(.int (-1 : Int32)), (.int (own_lif ([p1, b] : List Int32) q ([p1, b] : List Int32).length))])
            refine hst (fun t₀ k₀ => XS.icmpNo X213.here hx rfl (hb hby at_218) rfl (teq (by simp [own_lif, hc185, hc203])).2 k₀) ?_
            show F T213 (mkF m 221 #[.val (.int p1), .val (.int b), .val (.int c), .val (.int p4), .val (.int p5), .val (.int p6), .val (.int sel), .val (.int q), .val (.int (2 : Int32)), .val (.int (0 : Int32)), .val (.ref b93), .val (.int (-1 : Int32))] [])
            refine hst (fun t₀ k₀ => XS.iconst X213.here hx rfl (hb hby at_221) k₀) ?_
            show F T213 (mkF m 222 #[.val (.int p1), .val (.int b), .val (.int c), .val (.int p4), .val (.int p5), .val (.int p6), .val (.int sel), .val (.int q), .val (.int (2 : Int32)), .val (.int (0 : Int32)), .val (.ref b93), .val (.int (-1 : Int32))] [(.int (1 : Int32))])
            refine hst (fun t₀ k₀ => XS.goto X213.here hx rfl (pc0 := 222) (pc' := 226) rfl (hb hby at_222) (by decide) (by decide) k₀) ?_
            show F T213 (mkF m 226 #[.val (.int p1), .val (.int b), .val (.int c), .val (.int p4), .val (.int p5), .val (.int p6), .val (.int sel), .val (.int q), .val (.int (2 : Int32)), .val (.int (0 : Int32)), .val (.ref b93), .val (.int (-1 : Int32))] [(.int (1 : Int32))])
            rw [hF]
            refine own_retN X213 hx hret (by simp) hlk (hb hby at_226) (by decide) (by decide) ?_
            rw [he213]
            exact ⟨rfl, N213⟩
      · -- (3 : Int32)
        show F T97 (mkF m 102 #[.val (.int p1), .val (.int b), .val (.int c), .val (.int p4), .val (.int p5), .val (.int p6), .val (.int sel), .val (.int q), .val (.int (3 : Int32)), .val (.int (0 : Int32)), .val (.ref b93), .unset] [])
        refine hst (fun t₀ k₀ => XS.iload X97.here hx rfl (hb hby at_102) rfl k₀) ?_
        show F T97 (mkF m 104 #[.val (.int p1), .val (.int b), .val (.int c), .val (.int p4), .val (.int p5), .val (.int p6), .val (.int sel), .val (.int q), .val (.int (3 : Int32)), .val (.int (0 : Int32)), .val (.ref b93), .unset] [(.int (3 : Int32))])
        refine hst (fun t₀ k₀ => XS.iconst X97.here hx rfl (hb hby at_104) k₀) ?_
        show F T97 (mkF m 105 #[.val (.int p1), .val (.int b), .val (.int c), .val (.int p4), .val (.int p5), .val (.int p6), .val (.int sel), .val (.int q), .val (.int (3 : Int32)), .val (.int (0 : Int32)), .val (.ref b93), .unset] [(.int (1 : Int32)), (.int (3 : Int32))])
        refine hst (fun t₀ k₀ => XS.icmpNo X97.here hx rfl (hb hby at_105) rfl (flt (by decide)).1 k₀) ?_
        show F T97 (mkF m 108 #[.val (.int p1), .val (.int b), .val (.int c), .val (.int p4), .val (.int p5), .val (.int p6), .val (.int sel), .val (.int q), .val (.int (3 : Int32)), .val (.int (0 : Int32)), .val (.ref b93), .unset] [])
        refine hst (fun t₀ k₀ => XS.aload X97.here hx rfl (hb hby at_108) rfl rfl k₀) ?_
        show F T97 (mkF m 110 #[.val (.int p1), .val (.int b), .val (.int c), .val (.int p4), .val (.int p5), .val (.int p6), .val (.int sel), .val (.int q), .val (.int (3 : Int32)), .val (.int (0 : Int32)), .val (.ref b93), .unset] [(.ref b93)])
        refine hst (fun t₀ k₀ => XS.iloadN X97.here hx rfl (hb hby at_110) rfl k₀) ?_
        show F T97 (mkF m 111 #[.val (.int p1), .val (.int b), .val (.int c), .val (.int p4), .val (.int p5), .val (.int p6), .val (.int sel), .val (.int q), .val (.int (3 : Int32)), .val (.int (0 : Int32)), .val (.ref b93), .unset] [(.int p1), (.ref b93)])
        obtain ⟨v111, T111, Lc111, X111, hQ111, st111⟩ := own_callV X97 hx hZ hown (y := (⟨"com/example/hoist/hoist/CreationPath", "enter", "(I)V"⟩ : MethodName)) (hw _ (List.mem_of_getElem? (i := 17) rfl)) (hw _ (List.mem_of_getElem? (i := 18) rfl)) (hw _ (List.mem_of_getElem? (i := 20) rfl)) (hw _ (List.mem_of_getElem? (i := 19) rfl)) (hw _ (List.mem_of_getElem? (i := 2) rfl)) (hw _ (List.mem_of_getElem? (i := 21) rfl)) (by decide) rfl q1_97 (rm4 l Z a0 hw [] b93 p1 t_97 (fun _ => (0 : Int32)) ([] : List Int32) T97.heap n0 Z0_p97 q2_97 q3_97 ge_t_97 is_97 (Nat.le_of_ble_eq_true rfl) ne_b93_t_97) (by decide) (by decide) (g := (mkF m 111 #[.val (.int p1), .val (.int b), .val (.int c), .val (.int p4), .val (.int p5), .val (.int p6), .val (.int sel), .val (.int q), .val (.int (3 : Int32)), .val (.int (0 : Int32)), .val (.ref b93), .unset] [(.int p1), (.ref b93)])) rfl (by rw [hml]; rfl) (argsL := [(.int p1)]) (rest := []) (lenOf pd_2 rfl) rfl rfl (W := 0) (by show 2 * 0 + _ ≤ _; exact Nat.le_of_eq rfl) (hb hby at_111) (by decide) (by decide)
        obtain ⟨cf2_111, rfl, Nq111, K111, q1_111, is2_111⟩ := hQ111
        have N111 := Fr.app N97 Nq111
        have q1_97_p111 : Exa Z T111.heap b93 "com/example/hoist/hoist/CreationPath" := q1_97.keep K111
        have q2_97_p111 : Fld Z T111.heap b93 "com/example/hoist/hoist/CreationPath" "slots" "[I" (.ref t_97) := q2_97.keep K111 (by simp only [List.mem_cons, List.not_mem_nil, or_false, not_or]; exact ne_b93_t_97)
        have Z0_p111 : n0 ≤ T111.heap.size := Nat.le_trans Z0_p97 K111.1
        refine hst st111 ?_
        show F T111 (mkF m 114 #[.val (.int p1), .val (.int b), .val (.int c), .val (.int p4), .val (.int p5), .val (.int p6), .val (.int sel), .val (.int q), .val (.int (3 : Int32)), .val (.int (0 : Int32)), .val (.ref b93), .unset] [])
        refine hst (fun t₀ k₀ => XS.iload X111.here hx rfl (hb hby at_114) rfl k₀) ?_
        show F T111 (mkF m 116 #[.val (.int p1), .val (.int b), .val (.int c), .val (.int p4), .val (.int p5), .val (.int p6), .val (.int sel), .val (.int q), .val (.int (3 : Int32)), .val (.int (0 : Int32)), .val (.ref b93), .unset] [(.int (3 : Int32))])
        refine hst (fun t₀ k₀ => XS.iconst X111.here hx rfl (hb hby at_116) k₀) ?_
        show F T111 (mkF m 117 #[.val (.int p1), .val (.int b), .val (.int c), .val (.int p4), .val (.int p5), .val (.int p6), .val (.int sel), .val (.int q), .val (.int (3 : Int32)), .val (.int (0 : Int32)), .val (.ref b93), .unset] [(.int (2 : Int32)), (.int (3 : Int32))])
        refine hst (fun t₀ k₀ => XS.icmpNo X111.here hx rfl (hb hby at_117) rfl (flt (by decide)).1 k₀) ?_
        show F T111 (mkF m 120 #[.val (.int p1), .val (.int b), .val (.int c), .val (.int p4), .val (.int p5), .val (.int p6), .val (.int sel), .val (.int q), .val (.int (3 : Int32)), .val (.int (0 : Int32)), .val (.ref b93), .unset] [])
        refine hst (fun t₀ k₀ => XS.aload X111.here hx rfl (hb hby at_120) rfl rfl k₀) ?_
        show F T111 (mkF m 122 #[.val (.int p1), .val (.int b), .val (.int c), .val (.int p4), .val (.int p5), .val (.int p6), .val (.int sel), .val (.int q), .val (.int (3 : Int32)), .val (.int (0 : Int32)), .val (.ref b93), .unset] [(.ref b93)])
        refine hst (fun t₀ k₀ => XS.iloadN X111.here hx rfl (hb hby at_122) rfl k₀) ?_
        show F T111 (mkF m 123 #[.val (.int p1), .val (.int b), .val (.int c), .val (.int p4), .val (.int p5), .val (.int p6), .val (.int sel), .val (.int q), .val (.int (3 : Int32)), .val (.int (0 : Int32)), .val (.ref b93), .unset] [(.int b), (.ref b93)])
        obtain ⟨v123, T123, Lc123, X123, hQ123, st123⟩ := own_callV X111 hx hZ hown (y := (⟨"com/example/hoist/hoist/CreationPath", "enter", "(I)V"⟩ : MethodName)) (hw _ (List.mem_of_getElem? (i := 17) rfl)) (hw _ (List.mem_of_getElem? (i := 18) rfl)) (hw _ (List.mem_of_getElem? (i := 20) rfl)) (hw _ (List.mem_of_getElem? (i := 19) rfl)) (hw _ (List.mem_of_getElem? (i := 2) rfl)) (hw _ (List.mem_of_getElem? (i := 21) rfl)) (by decide) rfl q1_97_p111 (rm4 l Z a0 hw [] b93 b t_97 cf2_111 ([p1] : List Int32) T111.heap n0 Z0_p111 q2_97_p111 q1_111 ge_t_97 is2_111 (Nat.le_of_ble_eq_true rfl) ne_b93_t_97) (by decide) (by decide) (g := (mkF m 123 #[.val (.int p1), .val (.int b), .val (.int c), .val (.int p4), .val (.int p5), .val (.int p6), .val (.int sel), .val (.int q), .val (.int (3 : Int32)), .val (.int (0 : Int32)), .val (.ref b93), .unset] [(.int b), (.ref b93)])) rfl (by rw [hml]; rfl) (argsL := [(.int b)]) (rest := []) (lenOf pd_2 rfl) rfl rfl (W := 0) (by show 2 * 0 + _ ≤ _; exact Nat.le_of_eq rfl) (hb hby at_123) (by decide) (by decide)
        obtain ⟨cf2_123, rfl, Nq123, K123, q1_123, is2_123⟩ := hQ123
        have N123 := Fr.app N111 Nq123
        have q1_97_p123 : Exa Z T123.heap b93 "com/example/hoist/hoist/CreationPath" := q1_97_p111.keep K123
        have q2_97_p123 : Fld Z T123.heap b93 "com/example/hoist/hoist/CreationPath" "slots" "[I" (.ref t_97) := q2_97_p111.keep K123 (by simp only [List.mem_cons, List.not_mem_nil, or_false, not_or]; exact ne_b93_t_97)
        have Z0_p123 : n0 ≤ T123.heap.size := Nat.le_trans Z0_p111 K123.1
        refine hst st123 ?_
        show F T123 (mkF m 126 #[.val (.int p1), .val (.int b), .val (.int c), .val (.int p4), .val (.int p5), .val (.int p6), .val (.int sel), .val (.int q), .val (.int (3 : Int32)), .val (.int (0 : Int32)), .val (.ref b93), .unset] [])
        refine hst (fun t₀ k₀ => XS.iload X123.here hx rfl (hb hby at_126) rfl k₀) ?_
        show F T123 (mkF m 128 #[.val (.int p1), .val (.int b), .val (.int c), .val (.int p4), .val (.int p5), .val (.int p6), .val (.int sel), .val (.int q), .val (.int (3 : Int32)), .val (.int (0 : Int32)), .val (.ref b93), .unset] [(.int (3 : Int32))])
        refine hst (fun t₀ k₀ => XS.iconst X123.here hx rfl (hb hby at_128) k₀) ?_
        show F T123 (mkF m 129 #[.val (.int p1), .val (.int b), .val (.int c), .val (.int p4), .val (.int p5), .val (.int p6), .val (.int sel), .val (.int q), .val (.int (3 : Int32)), .val (.int (0 : Int32)), .val (.ref b93), .unset] [(.int (3 : Int32)), (.int (3 : Int32))])
        refine hst (fun t₀ k₀ => XS.icmpNo X123.here hx rfl (hb hby at_129) rfl (flt (by decide)).1 k₀) ?_
        show F T123 (mkF m 132 #[.val (.int p1), .val (.int b), .val (.int c), .val (.int p4), .val (.int p5), .val (.int p6), .val (.int sel), .val (.int q), .val (.int (3 : Int32)), .val (.int (0 : Int32)), .val (.ref b93), .unset] [])
        refine hst (fun t₀ k₀ => XS.aload X123.here hx rfl (hb hby at_132) rfl rfl k₀) ?_
        show F T123 (mkF m 134 #[.val (.int p1), .val (.int b), .val (.int c), .val (.int p4), .val (.int p5), .val (.int p6), .val (.int sel), .val (.int q), .val (.int (3 : Int32)), .val (.int (0 : Int32)), .val (.ref b93), .unset] [(.ref b93)])
        refine hst (fun t₀ k₀ => XS.iloadN X123.here hx rfl (hb hby at_134) rfl k₀) ?_
        show F T123 (mkF m 135 #[.val (.int p1), .val (.int b), .val (.int c), .val (.int p4), .val (.int p5), .val (.int p6), .val (.int sel), .val (.int q), .val (.int (3 : Int32)), .val (.int (0 : Int32)), .val (.ref b93), .unset] [(.int c), (.ref b93)])
        obtain ⟨v135, T135, Lc135, X135, hQ135, st135⟩ := own_callV X123 hx hZ hown (y := (⟨"com/example/hoist/hoist/CreationPath", "enter", "(I)V"⟩ : MethodName)) (hw _ (List.mem_of_getElem? (i := 17) rfl)) (hw _ (List.mem_of_getElem? (i := 18) rfl)) (hw _ (List.mem_of_getElem? (i := 20) rfl)) (hw _ (List.mem_of_getElem? (i := 19) rfl)) (hw _ (List.mem_of_getElem? (i := 2) rfl)) (hw _ (List.mem_of_getElem? (i := 21) rfl)) (by decide) rfl q1_97_p123 (rm4 l Z a0 hw [] b93 c t_97 cf2_123 ([p1, b] : List Int32) T123.heap n0 Z0_p123 q2_97_p123 q1_123 ge_t_97 is2_123 (Nat.le_of_ble_eq_true rfl) ne_b93_t_97) (by decide) (by decide) (g := (mkF m 135 #[.val (.int p1), .val (.int b), .val (.int c), .val (.int p4), .val (.int p5), .val (.int p6), .val (.int sel), .val (.int q), .val (.int (3 : Int32)), .val (.int (0 : Int32)), .val (.ref b93), .unset] [(.int c), (.ref b93)])) rfl (by rw [hml]; rfl) (argsL := [(.int c)]) (rest := []) (lenOf pd_2 rfl) rfl rfl (W := 0) (by show 2 * 0 + _ ≤ _; exact Nat.le_of_eq rfl) (hb hby at_135) (by decide) (by decide)
        obtain ⟨cf2_135, rfl, Nq135, K135, q1_135, is2_135⟩ := hQ135
        have N135 := Fr.app N123 Nq135
        have q1_97_p135 : Exa Z T135.heap b93 "com/example/hoist/hoist/CreationPath" := q1_97_p123.keep K135
        have q2_97_p135 : Fld Z T135.heap b93 "com/example/hoist/hoist/CreationPath" "slots" "[I" (.ref t_97) := q2_97_p123.keep K135 (by simp only [List.mem_cons, List.not_mem_nil, or_false, not_or]; exact ne_b93_t_97)
        have Z0_p135 : n0 ≤ T135.heap.size := Nat.le_trans Z0_p123 K135.1
        refine hst st135 ?_
        show F T135 (mkF m 138 #[.val (.int p1), .val (.int b), .val (.int c), .val (.int p4), .val (.int p5), .val (.int p6), .val (.int sel), .val (.int q), .val (.int (3 : Int32)), .val (.int (0 : Int32)), .val (.ref b93), .unset] [])
        refine hst (fun t₀ k₀ => XS.iload X135.here hx rfl (hb hby at_138) rfl k₀) ?_
        show F T135 (mkF m 140 #[.val (.int p1), .val (.int b), .val (.int c), .val (.int p4), .val (.int p5), .val (.int p6), .val (.int sel), .val (.int q), .val (.int (3 : Int32)), .val (.int (0 : Int32)), .val (.ref b93), .unset] [(.int (0 : Int32))])
        refine hst (fun t₀ k₀ => XS.ifYes X135.here hx rfl (pc0 := 140) (pc' := 155) rfl (hb hby at_140) rfl ((if0 _ _).trans (teq (by decide)).1) (by decide) (by decide) k₀) ?_
        show F T135 (mkF m 155 #[.val (.int p1), .val (.int b), .val (.int c), .val (.int p4), .val (.int p5), .val (.int p6), .val (.int sel), .val (.int q), .val (.int (3 : Int32)), .val (.int (0 : Int32)), .val (.ref b93), .unset] [])
        refine hst (fun t₀ k₀ => XS.iconst X135.here hx rfl (hb hby at_155) k₀) ?_
        show F T135 (mkF m 156 #[.val (.int p1), .val (.int b), .val (.int c), .val (.int p4), .val (.int p5), .val (.int p6), .val (.int sel), .val (.int q), .val (.int (3 : Int32)), .val (.int (0 : Int32)), .val (.ref b93), .unset] [(.int (-1 : Int32))])
        refine hst (fun t₀ k₀ => XS.istore X135.here hx rfl (hb hby at_156) rfl (l' := #[.val (.int p1), .val (.int b), .val (.int c), .val (.int p4), .val (.int p5), .val (.int p6), .val (.int sel), .val (.int q), .val (.int (3 : Int32)), .val (.int (0 : Int32)), .val (.ref b93), .val (.int (-1 : Int32))]) rfl k₀) ?_
        show F T135 (mkF m 158 #[.val (.int p1), .val (.int b), .val (.int c), .val (.int p4), .val (.int p5), .val (.int p6), .val (.int sel), .val (.int q), .val (.int (3 : Int32)), .val (.int (0 : Int32)), .val (.ref b93), .val (.int (-1 : Int32))] [])
        refine hst (fun t₀ k₀ => XS.iload X135.here hx rfl (hb hby at_158) rfl k₀) ?_
        show F T135 (mkF m 160 #[.val (.int p1), .val (.int b), .val (.int c), .val (.int p4), .val (.int p5), .val (.int p6), .val (.int sel), .val (.int q), .val (.int (3 : Int32)), .val (.int (0 : Int32)), .val (.ref b93), .val (.int (-1 : Int32))] [(.int (3 : Int32))])
        refine hst (fun t₀ k₀ => XS.iconst X135.here hx rfl (hb hby at_160) k₀) ?_
        show F T135 (mkF m 161 #[.val (.int p1), .val (.int b), .val (.int c), .val (.int p4), .val (.int p5), .val (.int p6), .val (.int sel), .val (.int q), .val (.int (3 : Int32)), .val (.int (0 : Int32)), .val (.ref b93), .val (.int (-1 : Int32))] [(.int (3 : Int32)), (.int (3 : Int32))])
        refine hst (fun t₀ k₀ => XS.icmpNo X135.here hx rfl (hb hby at_161) rfl (flt (by decide)).1 k₀) ?_
        show F T135 (mkF m 164 #[.val (.int p1), .val (.int b), .val (.int c), .val (.int p4), .val (.int p5), .val (.int p6), .val (.int sel), .val (.int q), .val (.int (3 : Int32)), .val (.int (0 : Int32)), .val (.ref b93), .val (.int (-1 : Int32))] [])
        refine hst (fun t₀ k₀ => XS.iloadN X135.here hx rfl (hb hby at_164) rfl k₀) ?_
        show F T135 (mkF m 165 #[.val (.int p1), .val (.int b), .val (.int c), .val (.int p4), .val (.int p5), .val (.int p6), .val (.int sel), .val (.int q), .val (.int (3 : Int32)), .val (.int (0 : Int32)), .val (.ref b93), .val (.int (-1 : Int32))] [(.int c)])
        refine hst (fun t₀ k₀ => XS.iload X135.here hx rfl (hb hby at_165) rfl k₀) ?_
        show F T135 (mkF m 167 #[.val (.int p1), .val (.int b), .val (.int c), .val (.int p4), .val (.int p5), .val (.int p6), .val (.int sel), .val (.int q), .val (.int (3 : Int32)), .val (.int (0 : Int32)), .val (.ref b93), .val (.int (-1 : Int32))] [(.int q), (.int c)])
        by_cases hc167 : c = q
        · -- pc 167: not taken
          refine hst (fun t₀ k₀ => XS.icmpNo X135.here hx rfl (hb hby at_167) rfl (teq hc167).2 k₀) ?_
          show F T135 (mkF m 170 #[.val (.int p1), .val (.int b), .val (.int c), .val (.int p4), .val (.int p5), .val (.int p6), .val (.int sel), .val (.int q), .val (.int (3 : Int32)), .val (.int (0 : Int32)), .val (.ref b93), .val (.int (-1 : Int32))] [])
          refine hst (fun t₀ k₀ => XS.iconst X135.here hx rfl (hb hby at_170) k₀) ?_
          show F T135 (mkF m 171 #[.val (.int p1), .val (.int b), .val (.int c), .val (.int p4), .val (.int p5), .val (.int p6), .val (.int sel), .val (.int q), .val (.int (3 : Int32)), .val (.int (0 : Int32)), .val (.ref b93), .val (.int (-1 : Int32))] [(.int (2 : Int32))])
          refine hst (fun t₀ k₀ => XS.istore X135.here hx rfl (hb hby at_171) rfl (l' := #[.val (.int p1), .val (.int b), .val (.int c), .val (.int p4), .val (.int p5), .val (.int p6), .val (.int sel), .val (.int q), .val (.int (3 : Int32)), .val (.int (0 : Int32)), .val (.ref b93), .val (.int (2 : Int32))]) rfl k₀) ?_
          show F T135 (mkF m 173 #[.val (.int p1), .val (.int b), .val (.int c), .val (.int p4), .val (.int p5), .val (.int p6), .val (.int sel), .val (.int q), .val (.int (3 : Int32)), .val (.int (0 : Int32)), .val (.ref b93), .val (.int (2 : Int32))] [])
          refine hst (fun t₀ k₀ => XS.goto X135.here hx rfl (pc0 := 173) (pc' := 209) rfl (hb hby at_173) (by decide) (by decide) k₀) ?_
          show F T135 (mkF m 209 #[.val (.int p1), .val (.int b), .val (.int c), .val (.int p4), .val (.int p5), .val (.int p6), .val (.int sel), .val (.int q), .val (.int (3 : Int32)), .val (.int (0 : Int32)), .val (.ref b93), .val (.int (2 : Int32))] [])
          refine hst (fun t₀ k₀ => XS.aload X135.here hx rfl (hb hby at_209) rfl rfl k₀) ?_
          show F T135 (mkF m 211 #[.val (.int p1), .val (.int b), .val (.int c), .val (.int p4), .val (.int p5), .val (.int p6), .val (.int sel), .val (.int q), .val (.int (3 : Int32)), .val (.int (0 : Int32)), .val (.ref b93), .val (.int (2 : Int32))] [(.ref b93)])
          refine hst (fun t₀ k₀ => XS.iload X135.here hx rfl (hb hby at_211) rfl k₀) ?_
          show F T135 (mkF m 213 #[.val (.int p1), .val (.int b), .val (.int c), .val (.int p4), .val (.int p5), .val (.int p6), .val (.int sel), .val (.int q), .val (.int (3 : Int32)), .val (.int (0 : Int32)), .val (.ref b93), .val (.int (2 : Int32))] [(.int q), (.ref b93)])
          obtain ⟨v213, T213, Lc213, X213, hQ213, st213⟩ := own_callV X135 hx hZ hown (y := (⟨"com/example/hoist/hoist/CreationPath", "lastIndexOf", "(I)I"⟩ : MethodName)) (hw _ (List.mem_of_getElem? (i := 12) rfl)) (hw _ (List.mem_of_getElem? (i := 13) rfl)) (hw _ (List.mem_of_getElem? (i := 15) rfl)) (hw _ (List.mem_of_getElem? (i := 14) rfl)) (hw _ (List.mem_of_getElem? (i := 2) rfl)) (hw _ (List.mem_of_getElem? (i := 16) rfl)) (by decide) rfl q1_97_p135 (rm3 l Z a0 hw [] b93 q t_97 cf2_135 ([p1, b, c] : List Int32) T135.heap n0 Z0_p135 q2_97_p135 q1_135 is2_135 (Nat.le_of_ble_eq_true rfl)) (by decide) (by decide) (g := (mkF m 213 #[.val (.int p1), .val (.int b), .val (.int c), .val (.int p4), .val (.int p5), .val (.int p6), .val (.int sel), .val (.int q), .val (.int (3 : Int32)), .val (.int (0 : Int32)), .val (.ref b93), .val (.int (2 : Int32))] [(.int q), (.ref b93)])) rfl (by rw [hml]; rfl) (argsL := [(.int q)]) (rest := []) (lenOf pd_1 rfl) rfl rfl (W := 0) (by show 2 * 0 + _ ≤ _; exact Nat.le_of_eq rfl) (hb hby at_213) (by decide) (by decide)
          obtain ⟨rfl, Nq213, he213⟩ := hQ213
          have N213 := Fr.app N135 Nq213
          refine hst st213 ?_
          show F T213 (mkF m 216 #[.val (.int p1), .val (.int b), .val (.int c), .val (.int p4), .val (.int p5), .val (.int p6), .val (.int sel), .val (.int q), .val (.int (3 : Int32)), .val (.int (0 : Int32)), .val (.ref b93), .val (.int (2 : Int32))] [(.int (own_lif ([p1, b, c] : List Int32) q ([p1, b, c] : List Int32).length))])
          refine hst (fun t₀ k₀ => XS.iload X213.here hx rfl (hb hby at_216) rfl k₀) ?_
          show F T213 (mkF m 218 #[.val (.int p1), .val (.int b), .val (.int c), .val (.int p4), .val (.int p5), .val (.int p6), .val (.int sel), .val (.int q), .val (.int (3 : Int32)), .val (.int (0 : Int32)), .val (.ref b93), .val (.int (2 : Int32))] [(.int (2 : Int32)), (.int (own_lif ([p1, b, c] : List Int32) q ([p1, b, c] : List Int32).length))])
          refine hst (fun t₀ k₀ => XS.icmpNo X213.here hx rfl (hb hby at_218) rfl (teq (by simp [own_lif, hc167])).2 k₀) ?_
          show F T213 (mkF m 221 #[.val (.int p1), .val (.int b), .val (.int c), .val (.int p4), .val (.int p5), .val (.int p6), .val (.int sel), .val (.int q), .val (.int (3 : Int32)), .val (.int (0 : Int32)), .val (.ref b93), .val (.int (2 : Int32))] [])
          refine hst (fun t₀ k₀ => XS.iconst X213.here hx rfl (hb hby at_221) k₀) ?_
          show F T213 (mkF m 222 #[.val (.int p1), .val (.int b), .val (.int c), .val (.int p4), .val (.int p5), .val (.int p6), .val (.int sel), .val (.int q), .val (.int (3 : Int32)), .val (.int (0 : Int32)), .val (.ref b93), .val (.int (2 : Int32))] [(.int (1 : Int32))])
          refine hst (fun t₀ k₀ => XS.goto X213.here hx rfl (pc0 := 222) (pc' := 226) rfl (hb hby at_222) (by decide) (by decide) k₀) ?_
          show F T213 (mkF m 226 #[.val (.int p1), .val (.int b), .val (.int c), .val (.int p4), .val (.int p5), .val (.int p6), .val (.int sel), .val (.int q), .val (.int (3 : Int32)), .val (.int (0 : Int32)), .val (.ref b93), .val (.int (2 : Int32))] [(.int (1 : Int32))])
          rw [hF]
          refine own_retN X213 hx hret (by simp) hlk (hb hby at_226) (by decide) (by decide) ?_
          rw [he213]
          exact ⟨rfl, N213⟩
        · -- pc 167: taken
          refine hst (fun t₀ k₀ => XS.icmpYes X135.here hx rfl (pc0 := 167) (pc' := 176) rfl (hb hby at_167) rfl (feq hc167).2 (by decide) (by decide) k₀) ?_
          show F T135 (mkF m 176 #[.val (.int p1), .val (.int b), .val (.int c), .val (.int p4), .val (.int p5), .val (.int p6), .val (.int sel), .val (.int q), .val (.int (3 : Int32)), .val (.int (0 : Int32)), .val (.ref b93), .val (.int (-1 : Int32))] [])
          refine hst (fun t₀ k₀ => XS.iload X135.here hx rfl (hb hby at_176) rfl k₀) ?_
          show F T135 (mkF m 178 #[.val (.int p1), .val (.int b), .val (.int c), .val (.int p4), .val (.int p5), .val (.int p6), .val (.int sel), .val (.int q), .val (.int (3 : Int32)), .val (.int (0 : Int32)), .val (.ref b93), .val (.int (-1 : Int32))] [(.int (3 : Int32))])
          refine hst (fun t₀ k₀ => XS.iconst X135.here hx rfl (hb hby at_178) k₀) ?_
          show F T135 (mkF m 179 #[.val (.int p1), .val (.int b), .val (.int c), .val (.int p4), .val (.int p5), .val (.int p6), .val (.int sel), .val (.int q), .val (.int (3 : Int32)), .val (.int (0 : Int32)), .val (.ref b93), .val (.int (-1 : Int32))] [(.int (2 : Int32)), (.int (3 : Int32))])
          refine hst (fun t₀ k₀ => XS.icmpNo X135.here hx rfl (hb hby at_179) rfl (flt (by decide)).1 k₀) ?_
          show F T135 (mkF m 182 #[.val (.int p1), .val (.int b), .val (.int c), .val (.int p4), .val (.int p5), .val (.int p6), .val (.int sel), .val (.int q), .val (.int (3 : Int32)), .val (.int (0 : Int32)), .val (.ref b93), .val (.int (-1 : Int32))] [])
          refine hst (fun t₀ k₀ => XS.iloadN X135.here hx rfl (hb hby at_182) rfl k₀) ?_
          show F T135 (mkF m 183 #[.val (.int p1), .val (.int b), .val (.int c), .val (.int p4), .val (.int p5), .val (.int p6), .val (.int sel), .val (.int q), .val (.int (3 : Int32)), .val (.int (0 : Int32)), .val (.ref b93), .val (.int (-1 : Int32))] [(.int b)])
          refine hst (fun t₀ k₀ => XS.iload X135.here hx rfl (hb hby at_183) rfl k₀) ?_
          show F T135 (mkF m 185 #[.val (.int p1), .val (.int b), .val (.int c), .val (.int p4), .val (.int p5), .val (.int p6), .val (.int sel), .val (.int q), .val (.int (3 : Int32)), .val (.int (0 : Int32)), .val (.ref b93), .val (.int (-1 : Int32))] [(.int q), (.int b)])
          by_cases hc185 : b = q
          · -- pc 185: not taken
            refine hst (fun t₀ k₀ => XS.icmpNo X135.here hx rfl (hb hby at_185) rfl (teq hc185).2 k₀) ?_
            show F T135 (mkF m 188 #[.val (.int p1), .val (.int b), .val (.int c), .val (.int p4), .val (.int p5), .val (.int p6), .val (.int sel), .val (.int q), .val (.int (3 : Int32)), .val (.int (0 : Int32)), .val (.ref b93), .val (.int (-1 : Int32))] [])
            refine hst (fun t₀ k₀ => XS.iconst X135.here hx rfl (hb hby at_188) k₀) ?_
            show F T135 (mkF m 189 #[.val (.int p1), .val (.int b), .val (.int c), .val (.int p4), .val (.int p5), .val (.int p6), .val (.int sel), .val (.int q), .val (.int (3 : Int32)), .val (.int (0 : Int32)), .val (.ref b93), .val (.int (-1 : Int32))] [(.int (1 : Int32))])
            refine hst (fun t₀ k₀ => XS.istore X135.here hx rfl (hb hby at_189) rfl (l' := #[.val (.int p1), .val (.int b), .val (.int c), .val (.int p4), .val (.int p5), .val (.int p6), .val (.int sel), .val (.int q), .val (.int (3 : Int32)), .val (.int (0 : Int32)), .val (.ref b93), .val (.int (1 : Int32))]) rfl k₀) ?_
            show F T135 (mkF m 191 #[.val (.int p1), .val (.int b), .val (.int c), .val (.int p4), .val (.int p5), .val (.int p6), .val (.int sel), .val (.int q), .val (.int (3 : Int32)), .val (.int (0 : Int32)), .val (.ref b93), .val (.int (1 : Int32))] [])
            refine hst (fun t₀ k₀ => XS.goto X135.here hx rfl (pc0 := 191) (pc' := 209) rfl (hb hby at_191) (by decide) (by decide) k₀) ?_
            show F T135 (mkF m 209 #[.val (.int p1), .val (.int b), .val (.int c), .val (.int p4), .val (.int p5), .val (.int p6), .val (.int sel), .val (.int q), .val (.int (3 : Int32)), .val (.int (0 : Int32)), .val (.ref b93), .val (.int (1 : Int32))] [])
            refine hst (fun t₀ k₀ => XS.aload X135.here hx rfl (hb hby at_209) rfl rfl k₀) ?_
            show F T135 (mkF m 211 #[.val (.int p1), .val (.int b), .val (.int c), .val (.int p4), .val (.int p5), .val (.int p6), .val (.int sel), .val (.int q), .val (.int (3 : Int32)), .val (.int (0 : Int32)), .val (.ref b93), .val (.int (1 : Int32))] [(.ref b93)])
            refine hst (fun t₀ k₀ => XS.iload X135.here hx rfl (hb hby at_211) rfl k₀) ?_
            show F T135 (mkF m 213 #[.val (.int p1), .val (.int b), .val (.int c), .val (.int p4), .val (.int p5), .val (.int p6), .val (.int sel), .val (.int q), .val (.int (3 : Int32)), .val (.int (0 : Int32)), .val (.ref b93), .val (.int (1 : Int32))] [(.int q), (.ref b93)])
            obtain ⟨v213, T213, Lc213, X213, hQ213, st213⟩ := own_callV X135 hx hZ hown (y := (⟨"com/example/hoist/hoist/CreationPath", "lastIndexOf", "(I)I"⟩ : MethodName)) (hw _ (List.mem_of_getElem? (i := 12) rfl)) (hw _ (List.mem_of_getElem? (i := 13) rfl)) (hw _ (List.mem_of_getElem? (i := 15) rfl)) (hw _ (List.mem_of_getElem? (i := 14) rfl)) (hw _ (List.mem_of_getElem? (i := 2) rfl)) (hw _ (List.mem_of_getElem? (i := 16) rfl)) (by decide) rfl q1_97_p135 (rm3 l Z a0 hw [] b93 q t_97 cf2_135 ([p1, b, c] : List Int32) T135.heap n0 Z0_p135 q2_97_p135 q1_135 is2_135 (Nat.le_of_ble_eq_true rfl)) (by decide) (by decide) (g := (mkF m 213 #[.val (.int p1), .val (.int b), .val (.int c), .val (.int p4), .val (.int p5), .val (.int p6), .val (.int sel), .val (.int q), .val (.int (3 : Int32)), .val (.int (0 : Int32)), .val (.ref b93), .val (.int (1 : Int32))] [(.int q), (.ref b93)])) rfl (by rw [hml]; rfl) (argsL := [(.int q)]) (rest := []) (lenOf pd_1 rfl) rfl rfl (W := 0) (by show 2 * 0 + _ ≤ _; exact Nat.le_of_eq rfl) (hb hby at_213) (by decide) (by decide)
            obtain ⟨rfl, Nq213, he213⟩ := hQ213
            have N213 := Fr.app N135 Nq213
            refine hst st213 ?_
            show F T213 (mkF m 216 #[.val (.int p1), .val (.int b), .val (.int c), .val (.int p4), .val (.int p5), .val (.int p6), .val (.int sel), .val (.int q), .val (.int (3 : Int32)), .val (.int (0 : Int32)), .val (.ref b93), .val (.int (1 : Int32))] [(.int (own_lif ([p1, b, c] : List Int32) q ([p1, b, c] : List Int32).length))])
            refine hst (fun t₀ k₀ => XS.iload X213.here hx rfl (hb hby at_216) rfl k₀) ?_
            show F T213 (mkF m 218 #[.val (.int p1), .val (.int b), .val (.int c), .val (.int p4), .val (.int p5), .val (.int p6), .val (.int sel), .val (.int q), .val (.int (3 : Int32)), .val (.int (0 : Int32)), .val (.ref b93), .val (.int (1 : Int32))] [(.int (1 : Int32)), (.int (own_lif ([p1, b, c] : List Int32) q ([p1, b, c] : List Int32).length))])
            refine hst (fun t₀ k₀ => XS.icmpNo X213.here hx rfl (hb hby at_218) rfl (teq (by simp [own_lif, hc167, hc185])).2 k₀) ?_
            show F T213 (mkF m 221 #[.val (.int p1), .val (.int b), .val (.int c), .val (.int p4), .val (.int p5), .val (.int p6), .val (.int sel), .val (.int q), .val (.int (3 : Int32)), .val (.int (0 : Int32)), .val (.ref b93), .val (.int (1 : Int32))] [])
            refine hst (fun t₀ k₀ => XS.iconst X213.here hx rfl (hb hby at_221) k₀) ?_
            show F T213 (mkF m 222 #[.val (.int p1), .val (.int b), .val (.int c), .val (.int p4), .val (.int p5), .val (.int p6), .val (.int sel), .val (.int q), .val (.int (3 : Int32)), .val (.int (0 : Int32)), .val (.ref b93), .val (.int (1 : Int32))] [(.int (1 : Int32))])
            refine hst (fun t₀ k₀ => XS.goto X213.here hx rfl (pc0 := 222) (pc' := 226) rfl (hb hby at_222) (by decide) (by decide) k₀) ?_
            show F T213 (mkF m 226 #[.val (.int p1), .val (.int b), .val (.int c), .val (.int p4), .val (.int p5), .val (.int p6), .val (.int sel), .val (.int q), .val (.int (3 : Int32)), .val (.int (0 : Int32)), .val (.ref b93), .val (.int (1 : Int32))] [(.int (1 : Int32))])
            rw [hF]
            refine own_retN X213 hx hret (by simp) hlk (hb hby at_226) (by decide) (by decide) ?_
            rw [he213]
            exact ⟨rfl, N213⟩
          · -- pc 185: taken
            refine hst (fun t₀ k₀ => XS.icmpYes X135.here hx rfl (pc0 := 185) (pc' := 194) rfl (hb hby at_185) rfl (feq hc185).2 (by decide) (by decide) k₀) ?_
            show F T135 (mkF m 194 #[.val (.int p1), .val (.int b), .val (.int c), .val (.int p4), .val (.int p5), .val (.int p6), .val (.int sel), .val (.int q), .val (.int (3 : Int32)), .val (.int (0 : Int32)), .val (.ref b93), .val (.int (-1 : Int32))] [])
            refine hst (fun t₀ k₀ => XS.iload X135.here hx rfl (hb hby at_194) rfl k₀) ?_
            show F T135 (mkF m 196 #[.val (.int p1), .val (.int b), .val (.int c), .val (.int p4), .val (.int p5), .val (.int p6), .val (.int sel), .val (.int q), .val (.int (3 : Int32)), .val (.int (0 : Int32)), .val (.ref b93), .val (.int (-1 : Int32))] [(.int (3 : Int32))])
            refine hst (fun t₀ k₀ => XS.iconst X135.here hx rfl (hb hby at_196) k₀) ?_
            show F T135 (mkF m 197 #[.val (.int p1), .val (.int b), .val (.int c), .val (.int p4), .val (.int p5), .val (.int p6), .val (.int sel), .val (.int q), .val (.int (3 : Int32)), .val (.int (0 : Int32)), .val (.ref b93), .val (.int (-1 : Int32))] [(.int (1 : Int32)), (.int (3 : Int32))])
            refine hst (fun t₀ k₀ => XS.icmpNo X135.here hx rfl (hb hby at_197) rfl (flt (by decide)).1 k₀) ?_
            show F T135 (mkF m 200 #[.val (.int p1), .val (.int b), .val (.int c), .val (.int p4), .val (.int p5), .val (.int p6), .val (.int sel), .val (.int q), .val (.int (3 : Int32)), .val (.int (0 : Int32)), .val (.ref b93), .val (.int (-1 : Int32))] [])
            refine hst (fun t₀ k₀ => XS.iloadN X135.here hx rfl (hb hby at_200) rfl k₀) ?_
            show F T135 (mkF m 201 #[.val (.int p1), .val (.int b), .val (.int c), .val (.int p4), .val (.int p5), .val (.int p6), .val (.int sel), .val (.int q), .val (.int (3 : Int32)), .val (.int (0 : Int32)), .val (.ref b93), .val (.int (-1 : Int32))] [(.int p1)])
            refine hst (fun t₀ k₀ => XS.iload X135.here hx rfl (hb hby at_201) rfl k₀) ?_
            show F T135 (mkF m 203 #[.val (.int p1), .val (.int b), .val (.int c), .val (.int p4), .val (.int p5), .val (.int p6), .val (.int sel), .val (.int q), .val (.int (3 : Int32)), .val (.int (0 : Int32)), .val (.ref b93), .val (.int (-1 : Int32))] [(.int q), (.int p1)])
            by_cases hc203 : p1 = q
            · -- pc 203: not taken
              refine hst (fun t₀ k₀ => XS.icmpNo X135.here hx rfl (hb hby at_203) rfl (teq hc203).2 k₀) ?_
              show F T135 (mkF m 206 #[.val (.int p1), .val (.int b), .val (.int c), .val (.int p4), .val (.int p5), .val (.int p6), .val (.int sel), .val (.int q), .val (.int (3 : Int32)), .val (.int (0 : Int32)), .val (.ref b93), .val (.int (-1 : Int32))] [])
              refine hst (fun t₀ k₀ => XS.iconst X135.here hx rfl (hb hby at_206) k₀) ?_
              show F T135 (mkF m 207 #[.val (.int p1), .val (.int b), .val (.int c), .val (.int p4), .val (.int p5), .val (.int p6), .val (.int sel), .val (.int q), .val (.int (3 : Int32)), .val (.int (0 : Int32)), .val (.ref b93), .val (.int (-1 : Int32))] [(.int (0 : Int32))])
              refine hst (fun t₀ k₀ => XS.istore X135.here hx rfl (hb hby at_207) rfl (l' := #[.val (.int p1), .val (.int b), .val (.int c), .val (.int p4), .val (.int p5), .val (.int p6), .val (.int sel), .val (.int q), .val (.int (3 : Int32)), .val (.int (0 : Int32)), .val (.ref b93), .val (.int (0 : Int32))]) rfl k₀) ?_
              show F T135 (mkF m 209 #[.val (.int p1), .val (.int b), .val (.int c), .val (.int p4), .val (.int p5), .val (.int p6), .val (.int sel), .val (.int q), .val (.int (3 : Int32)), .val (.int (0 : Int32)), .val (.ref b93), .val (.int (0 : Int32))] [])
              refine hst (fun t₀ k₀ => XS.aload X135.here hx rfl (hb hby at_209) rfl rfl k₀) ?_
              show F T135 (mkF m 211 #[.val (.int p1), .val (.int b), .val (.int c), .val (.int p4), .val (.int p5), .val (.int p6), .val (.int sel), .val (.int q), .val (.int (3 : Int32)), .val (.int (0 : Int32)), .val (.ref b93), .val (.int (0 : Int32))] [(.ref b93)])
              refine hst (fun t₀ k₀ => XS.iload X135.here hx rfl (hb hby at_211) rfl k₀) ?_
              show F T135 (mkF m 213 #[.val (.int p1), .val (.int b), .val (.int c), .val (.int p4), .val (.int p5), .val (.int p6), .val (.int sel), .val (.int q), .val (.int (3 : Int32)), .val (.int (0 : Int32)), .val (.ref b93), .val (.int (0 : Int32))] [(.int q), (.ref b93)])
              obtain ⟨v213, T213, Lc213, X213, hQ213, st213⟩ := own_callV X135 hx hZ hown (y := (⟨"com/example/hoist/hoist/CreationPath", "lastIndexOf", "(I)I"⟩ : MethodName)) (hw _ (List.mem_of_getElem? (i := 12) rfl)) (hw _ (List.mem_of_getElem? (i := 13) rfl)) (hw _ (List.mem_of_getElem? (i := 15) rfl)) (hw _ (List.mem_of_getElem? (i := 14) rfl)) (hw _ (List.mem_of_getElem? (i := 2) rfl)) (hw _ (List.mem_of_getElem? (i := 16) rfl)) (by decide) rfl q1_97_p135 (rm3 l Z a0 hw [] b93 q t_97 cf2_135 ([p1, b, c] : List Int32) T135.heap n0 Z0_p135 q2_97_p135 q1_135 is2_135 (Nat.le_of_ble_eq_true rfl)) (by decide) (by decide) (g := (mkF m 213 #[.val (.int p1), .val (.int b), .val (.int c), .val (.int p4), .val (.int p5), .val (.int p6), .val (.int sel), .val (.int q), .val (.int (3 : Int32)), .val (.int (0 : Int32)), .val (.ref b93), .val (.int (0 : Int32))] [(.int q), (.ref b93)])) rfl (by rw [hml]; rfl) (argsL := [(.int q)]) (rest := []) (lenOf pd_1 rfl) rfl rfl (W := 0) (by show 2 * 0 + _ ≤ _; exact Nat.le_of_eq rfl) (hb hby at_213) (by decide) (by decide)
              obtain ⟨rfl, Nq213, he213⟩ := hQ213
              have N213 := Fr.app N135 Nq213
              refine hst st213 ?_
              show F T213 (mkF m 216 #[.val (.int p1), .val (.int b), .val (.int c), .val (.int p4), .val (.int p5), .val (.int p6), .val (.int sel), .val (.int q), .val (.int (3 : Int32)), .val (.int (0 : Int32)), .val (.ref b93), .val (.int (0 : Int32))] [(.int (own_lif ([p1, b, c] : List Int32) q ([p1, b, c] : List Int32).length))])
              refine hst (fun t₀ k₀ => XS.iload X213.here hx rfl (hb hby at_216) rfl k₀) ?_
              show F T213 (mkF m 218 #[.val (.int p1), .val (.int b), .val (.int c), .val (.int p4), .val (.int p5), .val (.int p6), .val (.int sel), .val (.int q), .val (.int (3 : Int32)), .val (.int (0 : Int32)), .val (.ref b93), .val (.int (0 : Int32))] [(.int (0 : Int32)), (.int (own_lif ([p1, b, c] : List Int32) q ([p1, b, c] : List Int32).length))])
              refine hst (fun t₀ k₀ => XS.icmpNo X213.here hx rfl (hb hby at_218) rfl (teq (by simp [own_lif, hc167, hc185, hc203])).2 k₀) ?_
              show F T213 (mkF m 221 #[.val (.int p1), .val (.int b), .val (.int c), .val (.int p4), .val (.int p5), .val (.int p6), .val (.int sel), .val (.int q), .val (.int (3 : Int32)), .val (.int (0 : Int32)), .val (.ref b93), .val (.int (0 : Int32))] [])
              refine hst (fun t₀ k₀ => XS.iconst X213.here hx rfl (hb hby at_221) k₀) ?_
              show F T213 (mkF m 222 #[.val (.int p1), .val (.int b), .val (.int c), .val (.int p4), .val (.int p5), .val (.int p6), .val (.int sel), .val (.int q), .val (.int (3 : Int32)), .val (.int (0 : Int32)), .val (.ref b93), .val (.int (0 : Int32))] [(.int (1 : Int32))])
              refine hst (fun t₀ k₀ => XS.goto X213.here hx rfl (pc0 := 222) (pc' := 226) rfl (hb hby at_222) (by decide) (by decide) k₀) ?_
              show F T213 (mkF m 226 #[.val (.int p1), .val (.int b), .val (.int c), .val (.int p4), .val (.int p5), .val (.int p6), .val (.int sel), .val (.int q), .val (.int (3 : Int32)), .val (.int (0 : Int32)), .val (.ref b93), .val (.int (0 : Int32))] [(.int (1 : Int32))])
              rw [hF]
              refine own_retN X213 hx hret (by simp) hlk (hb hby at_226) (by decide) (by decide) ?_
              rw [he213]
              exact ⟨rfl, N213⟩
            · -- pc 203: taken
              refine hst (fun t₀ k₀ => XS.icmpYes X135.here hx rfl (pc0 := 203) (pc' := 209) rfl (hb hby at_203) rfl (feq hc203).2 (by decide) (by decide) k₀) ?_
              show F T135 (mkF m 209 #[.val (.int p1), .val (.int b), .val (.int c), .val (.int p4), .val (.int p5), .val (.int p6), .val (.int sel), .val (.int q), .val (.int (3 : Int32)), .val (.int (0 : Int32)), .val (.ref b93), .val (.int (-1 : Int32))] [])
              refine hst (fun t₀ k₀ => XS.aload X135.here hx rfl (hb hby at_209) rfl rfl k₀) ?_
              show F T135 (mkF m 211 #[.val (.int p1), .val (.int b), .val (.int c), .val (.int p4), .val (.int p5), .val (.int p6), .val (.int sel), .val (.int q), .val (.int (3 : Int32)), .val (.int (0 : Int32)), .val (.ref b93), .val (.int (-1 : Int32))] [(.ref b93)])
              refine hst (fun t₀ k₀ => XS.iload X135.here hx rfl (hb hby at_211) rfl k₀) ?_
              show F T135 (mkF m 213 #[.val (.int p1), .val (.int b), .val (.int c), .val (.int p4), .val (.int p5), .val (.int p6), .val (.int sel), .val (.int q), .val (.int (3 : Int32)), .val (.int (0 : Int32)), .val (.ref b93), .val (.int (-1 : Int32))] [(.int q), (.ref b93)])
              obtain ⟨v213, T213, Lc213, X213, hQ213, st213⟩ := own_callV X135 hx hZ hown (y := (⟨"com/example/hoist/hoist/CreationPath", "lastIndexOf", "(I)I"⟩ : MethodName)) (hw _ (List.mem_of_getElem? (i := 12) rfl)) (hw _ (List.mem_of_getElem? (i := 13) rfl)) (hw _ (List.mem_of_getElem? (i := 15) rfl)) (hw _ (List.mem_of_getElem? (i := 14) rfl)) (hw _ (List.mem_of_getElem? (i := 2) rfl)) (hw _ (List.mem_of_getElem? (i := 16) rfl)) (by decide) rfl q1_97_p135 (rm3 l Z a0 hw [] b93 q t_97 cf2_135 ([p1, b, c] : List Int32) T135.heap n0 Z0_p135 q2_97_p135 q1_135 is2_135 (Nat.le_of_ble_eq_true rfl)) (by decide) (by decide) (g := (mkF m 213 #[.val (.int p1), .val (.int b), .val (.int c), .val (.int p4), .val (.int p5), .val (.int p6), .val (.int sel), .val (.int q), .val (.int (3 : Int32)), .val (.int (0 : Int32)), .val (.ref b93), .val (.int (-1 : Int32))] [(.int q), (.ref b93)])) rfl (by rw [hml]; rfl) (argsL := [(.int q)]) (rest := []) (lenOf pd_1 rfl) rfl rfl (W := 0) (by show 2 * 0 + _ ≤ _; exact Nat.le_of_eq rfl) (hb hby at_213) (by decide) (by decide)
              obtain ⟨rfl, Nq213, he213⟩ := hQ213
              have N213 := Fr.app N135 Nq213
              refine hst st213 ?_
              show F T213 (mkF m 216 #[.val (.int p1), .val (.int b), .val (.int c), .val (.int p4), .val (.int p5), .val (.int p6), .val (.int sel), .val (.int q), .val (.int (3 : Int32)), .val (.int (0 : Int32)), .val (.ref b93), .val (.int (-1 : Int32))] [(.int (own_lif ([p1, b, c] : List Int32) q ([p1, b, c] : List Int32).length))])
              refine hst (fun t₀ k₀ => XS.iload X213.here hx rfl (hb hby at_216) rfl k₀) ?_
              show F T213 (mkF m 218 #[.val (.int p1), .val (.int b), .val (.int c), .val (.int p4), .val (.int p5), .val (.int p6), .val (.int sel), .val (.int q), .val (.int (3 : Int32)), .val (.int (0 : Int32)), .val (.ref b93), .val (.int (-1 : Int32))] [(.int (-1 : Int32)), (.int (own_lif ([p1, b, c] : List Int32) q ([p1, b, c] : List Int32).length))])
              refine hst (fun t₀ k₀ => XS.icmpNo X213.here hx rfl (hb hby at_218) rfl (teq (by simp [own_lif, hc167, hc185, hc203])).2 k₀) ?_
              show F T213 (mkF m 221 #[.val (.int p1), .val (.int b), .val (.int c), .val (.int p4), .val (.int p5), .val (.int p6), .val (.int sel), .val (.int q), .val (.int (3 : Int32)), .val (.int (0 : Int32)), .val (.ref b93), .val (.int (-1 : Int32))] [])
              refine hst (fun t₀ k₀ => XS.iconst X213.here hx rfl (hb hby at_221) k₀) ?_
              show F T213 (mkF m 222 #[.val (.int p1), .val (.int b), .val (.int c), .val (.int p4), .val (.int p5), .val (.int p6), .val (.int sel), .val (.int q), .val (.int (3 : Int32)), .val (.int (0 : Int32)), .val (.ref b93), .val (.int (-1 : Int32))] [(.int (1 : Int32))])
              refine hst (fun t₀ k₀ => XS.goto X213.here hx rfl (pc0 := 222) (pc' := 226) rfl (hb hby at_222) (by decide) (by decide) k₀) ?_
              show F T213 (mkF m 226 #[.val (.int p1), .val (.int b), .val (.int c), .val (.int p4), .val (.int p5), .val (.int p6), .val (.int sel), .val (.int q), .val (.int (3 : Int32)), .val (.int (0 : Int32)), .val (.ref b93), .val (.int (-1 : Int32))] [(.int (1 : Int32))])
              rw [hF]
              refine own_retN X213 hx hret (by simp) hlk (hb hby at_226) (by decide) (by decide) ?_
              rw [he213]
              exact ⟨rfl, N213⟩
    · -- pc 83: not taken
      refine hst (fun t₀ k₀ => XS.ifNo XI.here hx rfl (hb hby at_83) rfl ((if0 _ _).trans (feq hc83).1) k₀) ?_
      show F s₁ (mkF m 86 #[.val (.int p1), .val (.int b), .val (.int c), .val (.int p4), .val (.int p5), .val (.int p6), .val (.int sel), .val (.int q), .val (.int n), .unset, .unset, .unset] [])
      refine hst (fun t₀ k₀ => XS.iconst XI.here hx rfl (hb hby at_86) k₀) ?_
      show F s₁ (mkF m 87 #[.val (.int p1), .val (.int b), .val (.int c), .val (.int p4), .val (.int p5), .val (.int p6), .val (.int sel), .val (.int q), .val (.int n), .unset, .unset, .unset] [(.int (1 : Int32))])
      refine hst (fun t₀ k₀ => XS.goto XI.here hx rfl (pc0 := 87) (pc' := 91) rfl (hb hby at_87) (by decide) (by decide) k₀) ?_
      show F s₁ (mkF m 91 #[.val (.int p1), .val (.int b), .val (.int c), .val (.int p4), .val (.int p5), .val (.int p6), .val (.int sel), .val (.int q), .val (.int n), .unset, .unset, .unset] [(.int (1 : Int32))])
      refine hst (fun t₀ k₀ => XS.istore XI.here hx rfl (hb hby at_91) rfl (l' := #[.val (.int p1), .val (.int b), .val (.int c), .val (.int p4), .val (.int p5), .val (.int p6), .val (.int sel), .val (.int q), .val (.int n), .val (.int (1 : Int32)), .unset, .unset]) rfl k₀) ?_
      show F s₁ (mkF m 93 #[.val (.int p1), .val (.int b), .val (.int c), .val (.int p4), .val (.int p5), .val (.int p6), .val (.int sel), .val (.int q), .val (.int n), .val (.int (1 : Int32)), .unset, .unset] [])
      obtain ⟨T93, h93, b93, X93, e93, g93, E93, A93, D93, st93⟩ := own_new XI hx hZ hown (hw _ (List.mem_of_getElem? (i := 0) rfl)) (hw _ (List.mem_of_getElem? (i := 1) rfl)) (hw _ (List.mem_of_getElem? (i := 2) rfl)) eI (g := (mkF m 93 #[.val (.int p1), .val (.int b), .val (.int c), .val (.int p4), .val (.int p5), .val (.int p6), .val (.int sel), .val (.int q), .val (.int n), .val (.int (1 : Int32)), .unset, .unset] [])) rfl (hb hby at_93) (by decide) (by decide)
      have ge_b93 : n0 ≤ b93 := Nat.le_trans Z0 (Nat.le_of_eq g93.symm)
      have Z0_p93 : n0 ≤ h93.size := (Nat.le_trans Z0 E93.1)
      have F_slots_b93 : Fld Z h93 b93 "com/example/hoist/hoist/CreationPath" "slots" "[I" .null := D93 (Or.inl (hw _ (List.mem_of_getElem? (i := 11) rfl))) (ty := (.array .int)) (by decide)
      refine hst st93 ?_
      show F T93 (mkF m 96 #[.val (.int p1), .val (.int b), .val (.int c), .val (.int p4), .val (.int p5), .val (.int p6), .val (.int sel), .val (.int q), .val (.int n), .val (.int (1 : Int32)), .unset, .unset] [(.ref b93)])
      refine hst (fun t₀ k₀ => XS.dup X93.here hx rfl (hb hby at_96) rfl rfl k₀) ?_
      show F T93 (mkF m 97 #[.val (.int p1), .val (.int b), .val (.int c), .val (.int p4), .val (.int p5), .val (.int p6), .val (.int sel), .val (.int q), .val (.int n), .val (.int (1 : Int32)), .unset, .unset] [(.ref b93), (.ref b93)])
      obtain ⟨v97, T97, Lc97, X97, hQ97, st97⟩ := own_callN X93 hx hZ (y := (⟨"com/example/hoist/hoist/CreationPath", "<init>", "()V"⟩ : MethodName)) rfl hown (hw _ (List.mem_of_getElem? (i := 3) rfl)) (hw _ (List.mem_of_getElem? (i := 4) rfl)) (hw _ (List.mem_of_getElem? (i := 2) rfl)) (hw _ (List.mem_of_getElem? (i := 5) rfl)) (by decide) e93 (rm1 l Z a0 hw [] b93 h93 n0 Z0_p93 A93 ge_b93 F_slots_b93) (by decide) (by decide) (g := (mkF m 97 #[.val (.int p1), .val (.int b), .val (.int c), .val (.int p4), .val (.int p5), .val (.int p6), .val (.int sel), .val (.int q), .val (.int n), .val (.int (1 : Int32)), .unset, .unset] [(.ref b93), (.ref b93)])) rfl (by rw [hml]; rfl) (a := b93) (argsL := []) (rest := [(.ref b93)]) (lenOf pd_0 rfl) rfl rfl (W := 1) (by show 2 * 0 + _ ≤ _; exact Nat.le_of_eq rfl) (hb hby at_97) (by decide) (by decide)
      obtain ⟨t_97, rfl, Nq97, K97, q1_97, q2_97, q3_97, ge_t_97, ne_b93_t_97⟩ := hQ97
      have N97 := Fr.app NI Nq97
      have Z0_p97 : n0 ≤ T97.heap.size := Nat.le_trans Z0_p93 K97.1
      refine hst st97 ?_
      show F T97 (mkF m 100 #[.val (.int p1), .val (.int b), .val (.int c), .val (.int p4), .val (.int p5), .val (.int p6), .val (.int sel), .val (.int q), .val (.int n), .val (.int (1 : Int32)), .unset, .unset] [(.ref b93)])
      have is_97 : own_is (fun _ => (0 : Int32)) [] := ⟨rfl, fun i hi => absurd hi (Nat.not_lt_zero i)⟩
      refine hst (fun t₀ k₀ => XS.astore X97.here hx rfl (hb hby at_100) rfl rfl (l' := #[.val (.int p1), .val (.int b), .val (.int c), .val (.int p4), .val (.int p5), .val (.int p6), .val (.int sel), .val (.int q), .val (.int n), .val (.int (1 : Int32)), .val (.ref b93), .unset]) rfl k₀) ?_
      show F T97 (mkF m 102 #[.val (.int p1), .val (.int b), .val (.int c), .val (.int p4), .val (.int p5), .val (.int p6), .val (.int sel), .val (.int q), .val (.int n), .val (.int (1 : Int32)), .val (.ref b93), .unset] [])
      rcases hn4 with rfl | rfl | rfl | rfl
      · -- (0 : Int32)
        show F T97 (mkF m 102 #[.val (.int p1), .val (.int b), .val (.int c), .val (.int p4), .val (.int p5), .val (.int p6), .val (.int sel), .val (.int q), .val (.int (0 : Int32)), .val (.int (1 : Int32)), .val (.ref b93), .unset] [])
        refine hst (fun t₀ k₀ => XS.iload X97.here hx rfl (hb hby at_102) rfl k₀) ?_
        show F T97 (mkF m 104 #[.val (.int p1), .val (.int b), .val (.int c), .val (.int p4), .val (.int p5), .val (.int p6), .val (.int sel), .val (.int q), .val (.int (0 : Int32)), .val (.int (1 : Int32)), .val (.ref b93), .unset] [(.int (0 : Int32))])
        refine hst (fun t₀ k₀ => XS.iconst X97.here hx rfl (hb hby at_104) k₀) ?_
        show F T97 (mkF m 105 #[.val (.int p1), .val (.int b), .val (.int c), .val (.int p4), .val (.int p5), .val (.int p6), .val (.int sel), .val (.int q), .val (.int (0 : Int32)), .val (.int (1 : Int32)), .val (.ref b93), .unset] [(.int (1 : Int32)), (.int (0 : Int32))])
        refine hst (fun t₀ k₀ => XS.icmpYes X97.here hx rfl (pc0 := 105) (pc' := 114) rfl (hb hby at_105) rfl (tlt (by decide)).1 (by decide) (by decide) k₀) ?_
        show F T97 (mkF m 114 #[.val (.int p1), .val (.int b), .val (.int c), .val (.int p4), .val (.int p5), .val (.int p6), .val (.int sel), .val (.int q), .val (.int (0 : Int32)), .val (.int (1 : Int32)), .val (.ref b93), .unset] [])
        refine hst (fun t₀ k₀ => XS.iload X97.here hx rfl (hb hby at_114) rfl k₀) ?_
        show F T97 (mkF m 116 #[.val (.int p1), .val (.int b), .val (.int c), .val (.int p4), .val (.int p5), .val (.int p6), .val (.int sel), .val (.int q), .val (.int (0 : Int32)), .val (.int (1 : Int32)), .val (.ref b93), .unset] [(.int (0 : Int32))])
        refine hst (fun t₀ k₀ => XS.iconst X97.here hx rfl (hb hby at_116) k₀) ?_
        show F T97 (mkF m 117 #[.val (.int p1), .val (.int b), .val (.int c), .val (.int p4), .val (.int p5), .val (.int p6), .val (.int sel), .val (.int q), .val (.int (0 : Int32)), .val (.int (1 : Int32)), .val (.ref b93), .unset] [(.int (2 : Int32)), (.int (0 : Int32))])
        refine hst (fun t₀ k₀ => XS.icmpYes X97.here hx rfl (pc0 := 117) (pc' := 126) rfl (hb hby at_117) rfl (tlt (by decide)).1 (by decide) (by decide) k₀) ?_
        show F T97 (mkF m 126 #[.val (.int p1), .val (.int b), .val (.int c), .val (.int p4), .val (.int p5), .val (.int p6), .val (.int sel), .val (.int q), .val (.int (0 : Int32)), .val (.int (1 : Int32)), .val (.ref b93), .unset] [])
        refine hst (fun t₀ k₀ => XS.iload X97.here hx rfl (hb hby at_126) rfl k₀) ?_
        show F T97 (mkF m 128 #[.val (.int p1), .val (.int b), .val (.int c), .val (.int p4), .val (.int p5), .val (.int p6), .val (.int sel), .val (.int q), .val (.int (0 : Int32)), .val (.int (1 : Int32)), .val (.ref b93), .unset] [(.int (0 : Int32))])
        refine hst (fun t₀ k₀ => XS.iconst X97.here hx rfl (hb hby at_128) k₀) ?_
        show F T97 (mkF m 129 #[.val (.int p1), .val (.int b), .val (.int c), .val (.int p4), .val (.int p5), .val (.int p6), .val (.int sel), .val (.int q), .val (.int (0 : Int32)), .val (.int (1 : Int32)), .val (.ref b93), .unset] [(.int (3 : Int32)), (.int (0 : Int32))])
        refine hst (fun t₀ k₀ => XS.icmpYes X97.here hx rfl (pc0 := 129) (pc' := 138) rfl (hb hby at_129) rfl (tlt (by decide)).1 (by decide) (by decide) k₀) ?_
        show F T97 (mkF m 138 #[.val (.int p1), .val (.int b), .val (.int c), .val (.int p4), .val (.int p5), .val (.int p6), .val (.int sel), .val (.int q), .val (.int (0 : Int32)), .val (.int (1 : Int32)), .val (.ref b93), .unset] [])
        refine hst (fun t₀ k₀ => XS.iload X97.here hx rfl (hb hby at_138) rfl k₀) ?_
        show F T97 (mkF m 140 #[.val (.int p1), .val (.int b), .val (.int c), .val (.int p4), .val (.int p5), .val (.int p6), .val (.int sel), .val (.int q), .val (.int (0 : Int32)), .val (.int (1 : Int32)), .val (.ref b93), .unset] [(.int (1 : Int32))])
        refine hst (fun t₀ k₀ => XS.ifNo X97.here hx rfl (hb hby at_140) rfl ((if0 _ _).trans (feq (by decide)).1) k₀) ?_
        show F T97 (mkF m 143 #[.val (.int p1), .val (.int b), .val (.int c), .val (.int p4), .val (.int p5), .val (.int p6), .val (.int sel), .val (.int q), .val (.int (0 : Int32)), .val (.int (1 : Int32)), .val (.ref b93), .unset] [])
        refine hst (fun t₀ k₀ => XS.aload X97.here hx rfl (hb hby at_143) rfl rfl k₀) ?_
        show F T97 (mkF m 145 #[.val (.int p1), .val (.int b), .val (.int c), .val (.int p4), .val (.int p5), .val (.int p6), .val (.int sel), .val (.int q), .val (.int (0 : Int32)), .val (.int (1 : Int32)), .val (.ref b93), .unset] [(.ref b93)])
        refine hst (fun t₀ k₀ => XS.iload X97.here hx rfl (hb hby at_145) rfl k₀) ?_
        show F T97 (mkF m 147 #[.val (.int p1), .val (.int b), .val (.int c), .val (.int p4), .val (.int p5), .val (.int p6), .val (.int sel), .val (.int q), .val (.int (0 : Int32)), .val (.int (1 : Int32)), .val (.ref b93), .unset] [(.int q), (.ref b93)])
        obtain ⟨v147, T147, Lc147, X147, hQ147, st147⟩ := own_callV X97 hx hZ hown (y := (⟨"com/example/hoist/hoist/CreationPath", "enter", "(I)V"⟩ : MethodName)) (hw _ (List.mem_of_getElem? (i := 17) rfl)) (hw _ (List.mem_of_getElem? (i := 18) rfl)) (hw _ (List.mem_of_getElem? (i := 20) rfl)) (hw _ (List.mem_of_getElem? (i := 19) rfl)) (hw _ (List.mem_of_getElem? (i := 2) rfl)) (hw _ (List.mem_of_getElem? (i := 21) rfl)) (by decide) rfl q1_97 (rm4 l Z a0 hw [] b93 q t_97 (fun _ => (0 : Int32)) ([] : List Int32) T97.heap n0 Z0_p97 q2_97 q3_97 ge_t_97 is_97 (Nat.le_of_ble_eq_true rfl) ne_b93_t_97) (by decide) (by decide) (g := (mkF m 147 #[.val (.int p1), .val (.int b), .val (.int c), .val (.int p4), .val (.int p5), .val (.int p6), .val (.int sel), .val (.int q), .val (.int (0 : Int32)), .val (.int (1 : Int32)), .val (.ref b93), .unset] [(.int q), (.ref b93)])) rfl (by rw [hml]; rfl) (argsL := [(.int q)]) (rest := []) (lenOf pd_2 rfl) rfl rfl (W := 0) (by show 2 * 0 + _ ≤ _; exact Nat.le_of_eq rfl) (hb hby at_147) (by decide) (by decide)
        obtain ⟨cf2_147, rfl, Nq147, K147, q1_147, is2_147⟩ := hQ147
        have N147 := Fr.app N97 Nq147
        have q1_97_p147 : Exa Z T147.heap b93 "com/example/hoist/hoist/CreationPath" := q1_97.keep K147
        have q2_97_p147 : Fld Z T147.heap b93 "com/example/hoist/hoist/CreationPath" "slots" "[I" (.ref t_97) := q2_97.keep K147 (by simp only [List.mem_cons, List.not_mem_nil, or_false, not_or]; exact ne_b93_t_97)
        have Z0_p147 : n0 ≤ T147.heap.size := Nat.le_trans Z0_p97 K147.1
        refine hst st147 ?_
        show F T147 (mkF m 150 #[.val (.int p1), .val (.int b), .val (.int c), .val (.int p4), .val (.int p5), .val (.int p6), .val (.int sel), .val (.int q), .val (.int (0 : Int32)), .val (.int (1 : Int32)), .val (.ref b93), .unset] [])
        refine hst (fun t₀ k₀ => XS.aload X147.here hx rfl (hb hby at_150) rfl rfl k₀) ?_
        show F T147 (mkF m 152 #[.val (.int p1), .val (.int b), .val (.int c), .val (.int p4), .val (.int p5), .val (.int p6), .val (.int sel), .val (.int q), .val (.int (0 : Int32)), .val (.int (1 : Int32)), .val (.ref b93), .unset] [(.ref b93)])
        obtain ⟨v152, T152, Lc152, X152, hQ152, st152⟩ := own_callV X147 hx hZ hown (y := (⟨"com/example/hoist/hoist/CreationPath", "leave", "()V"⟩ : MethodName)) (hw _ (List.mem_of_getElem? (i := 22) rfl)) (hw _ (List.mem_of_getElem? (i := 23) rfl)) (hw _ (List.mem_of_getElem? (i := 25) rfl)) (hw _ (List.mem_of_getElem? (i := 24) rfl)) (hw _ (List.mem_of_getElem? (i := 2) rfl)) (hw _ (List.mem_of_getElem? (i := 26) rfl)) (by decide) rfl q1_97_p147 (rm5 l Z a0 hw [] b93 t_97 cf2_147 ([q] : List Int32) T147.heap n0 Z0_p147 q2_97_p147 q1_147 ge_t_97 is2_147 (Nat.le_of_ble_eq_true rfl) (Nat.le_of_ble_eq_true rfl) ne_b93_t_97) (by decide) (by decide) (g := (mkF m 152 #[.val (.int p1), .val (.int b), .val (.int c), .val (.int p4), .val (.int p5), .val (.int p6), .val (.int sel), .val (.int q), .val (.int (0 : Int32)), .val (.int (1 : Int32)), .val (.ref b93), .unset] [(.ref b93)])) rfl (by rw [hml]; rfl) (argsL := []) (rest := []) (lenOf pd_0 rfl) rfl rfl (W := 0) (by show 2 * 0 + _ ≤ _; exact Nat.le_of_eq rfl) (hb hby at_152) (by decide) (by decide)
        obtain ⟨cf2_152, rfl, Nq152, K152, q1_152, is2_152⟩ := hQ152
        have N152 := Fr.app N147 Nq152
        have q1_97_p152 : Exa Z T152.heap b93 "com/example/hoist/hoist/CreationPath" := q1_97_p147.keep K152
        have q2_97_p152 : Fld Z T152.heap b93 "com/example/hoist/hoist/CreationPath" "slots" "[I" (.ref t_97) := q2_97_p147.keep K152 (by simp only [List.mem_cons, List.not_mem_nil, or_false, not_or]; exact ne_b93_t_97)
        have Z0_p152 : n0 ≤ T152.heap.size := Nat.le_trans Z0_p147 K152.1
        refine hst st152 ?_
        show F T152 (mkF m 155 #[.val (.int p1), .val (.int b), .val (.int c), .val (.int p4), .val (.int p5), .val (.int p6), .val (.int sel), .val (.int q), .val (.int (0 : Int32)), .val (.int (1 : Int32)), .val (.ref b93), .unset] [])
        refine hst (fun t₀ k₀ => XS.iconst X152.here hx rfl (hb hby at_155) k₀) ?_
        show F T152 (mkF m 156 #[.val (.int p1), .val (.int b), .val (.int c), .val (.int p4), .val (.int p5), .val (.int p6), .val (.int sel), .val (.int q), .val (.int (0 : Int32)), .val (.int (1 : Int32)), .val (.ref b93), .unset] [(.int (-1 : Int32))])
        refine hst (fun t₀ k₀ => XS.istore X152.here hx rfl (hb hby at_156) rfl (l' := #[.val (.int p1), .val (.int b), .val (.int c), .val (.int p4), .val (.int p5), .val (.int p6), .val (.int sel), .val (.int q), .val (.int (0 : Int32)), .val (.int (1 : Int32)), .val (.ref b93), .val (.int (-1 : Int32))]) rfl k₀) ?_
        show F T152 (mkF m 158 #[.val (.int p1), .val (.int b), .val (.int c), .val (.int p4), .val (.int p5), .val (.int p6), .val (.int sel), .val (.int q), .val (.int (0 : Int32)), .val (.int (1 : Int32)), .val (.ref b93), .val (.int (-1 : Int32))] [])
        refine hst (fun t₀ k₀ => XS.iload X152.here hx rfl (hb hby at_158) rfl k₀) ?_
        show F T152 (mkF m 160 #[.val (.int p1), .val (.int b), .val (.int c), .val (.int p4), .val (.int p5), .val (.int p6), .val (.int sel), .val (.int q), .val (.int (0 : Int32)), .val (.int (1 : Int32)), .val (.ref b93), .val (.int (-1 : Int32))] [(.int (0 : Int32))])
        refine hst (fun t₀ k₀ => XS.iconst X152.here hx rfl (hb hby at_160) k₀) ?_
        show F T152 (mkF m 161 #[.val (.int p1), .val (.int b), .val (.int c), .val (.int p4), .val (.int p5), .val (.int p6), .val (.int sel), .val (.int q), .val (.int (0 : Int32)), .val (.int (1 : Int32)), .val (.ref b93), .val (.int (-1 : Int32))] [(.int (3 : Int32)), (.int (0 : Int32))])
        refine hst (fun t₀ k₀ => XS.icmpYes X152.here hx rfl (pc0 := 161) (pc' := 176) rfl (hb hby at_161) rfl (tlt (by decide)).1 (by decide) (by decide) k₀) ?_
        show F T152 (mkF m 176 #[.val (.int p1), .val (.int b), .val (.int c), .val (.int p4), .val (.int p5), .val (.int p6), .val (.int sel), .val (.int q), .val (.int (0 : Int32)), .val (.int (1 : Int32)), .val (.ref b93), .val (.int (-1 : Int32))] [])
        refine hst (fun t₀ k₀ => XS.iload X152.here hx rfl (hb hby at_176) rfl k₀) ?_
        show F T152 (mkF m 178 #[.val (.int p1), .val (.int b), .val (.int c), .val (.int p4), .val (.int p5), .val (.int p6), .val (.int sel), .val (.int q), .val (.int (0 : Int32)), .val (.int (1 : Int32)), .val (.ref b93), .val (.int (-1 : Int32))] [(.int (0 : Int32))])
        refine hst (fun t₀ k₀ => XS.iconst X152.here hx rfl (hb hby at_178) k₀) ?_
        show F T152 (mkF m 179 #[.val (.int p1), .val (.int b), .val (.int c), .val (.int p4), .val (.int p5), .val (.int p6), .val (.int sel), .val (.int q), .val (.int (0 : Int32)), .val (.int (1 : Int32)), .val (.ref b93), .val (.int (-1 : Int32))] [(.int (2 : Int32)), (.int (0 : Int32))])
        refine hst (fun t₀ k₀ => XS.icmpYes X152.here hx rfl (pc0 := 179) (pc' := 194) rfl (hb hby at_179) rfl (tlt (by decide)).1 (by decide) (by decide) k₀) ?_
        show F T152 (mkF m 194 #[.val (.int p1), .val (.int b), .val (.int c), .val (.int p4), .val (.int p5), .val (.int p6), .val (.int sel), .val (.int q), .val (.int (0 : Int32)), .val (.int (1 : Int32)), .val (.ref b93), .val (.int (-1 : Int32))] [])
        refine hst (fun t₀ k₀ => XS.iload X152.here hx rfl (hb hby at_194) rfl k₀) ?_
        show F T152 (mkF m 196 #[.val (.int p1), .val (.int b), .val (.int c), .val (.int p4), .val (.int p5), .val (.int p6), .val (.int sel), .val (.int q), .val (.int (0 : Int32)), .val (.int (1 : Int32)), .val (.ref b93), .val (.int (-1 : Int32))] [(.int (0 : Int32))])
        refine hst (fun t₀ k₀ => XS.iconst X152.here hx rfl (hb hby at_196) k₀) ?_
        show F T152 (mkF m 197 #[.val (.int p1), .val (.int b), .val (.int c), .val (.int p4), .val (.int p5), .val (.int p6), .val (.int sel), .val (.int q), .val (.int (0 : Int32)), .val (.int (1 : Int32)), .val (.ref b93), .val (.int (-1 : Int32))] [(.int (1 : Int32)), (.int (0 : Int32))])
        refine hst (fun t₀ k₀ => XS.icmpYes X152.here hx rfl (pc0 := 197) (pc' := 209) rfl (hb hby at_197) rfl (tlt (by decide)).1 (by decide) (by decide) k₀) ?_
        show F T152 (mkF m 209 #[.val (.int p1), .val (.int b), .val (.int c), .val (.int p4), .val (.int p5), .val (.int p6), .val (.int sel), .val (.int q), .val (.int (0 : Int32)), .val (.int (1 : Int32)), .val (.ref b93), .val (.int (-1 : Int32))] [])
        refine hst (fun t₀ k₀ => XS.aload X152.here hx rfl (hb hby at_209) rfl rfl k₀) ?_
        show F T152 (mkF m 211 #[.val (.int p1), .val (.int b), .val (.int c), .val (.int p4), .val (.int p5), .val (.int p6), .val (.int sel), .val (.int q), .val (.int (0 : Int32)), .val (.int (1 : Int32)), .val (.ref b93), .val (.int (-1 : Int32))] [(.ref b93)])
        refine hst (fun t₀ k₀ => XS.iload X152.here hx rfl (hb hby at_211) rfl k₀) ?_
        show F T152 (mkF m 213 #[.val (.int p1), .val (.int b), .val (.int c), .val (.int p4), .val (.int p5), .val (.int p6), .val (.int sel), .val (.int q), .val (.int (0 : Int32)), .val (.int (1 : Int32)), .val (.ref b93), .val (.int (-1 : Int32))] [(.int q), (.ref b93)])
        obtain ⟨v213, T213, Lc213, X213, hQ213, st213⟩ := own_callV X152 hx hZ hown (y := (⟨"com/example/hoist/hoist/CreationPath", "lastIndexOf", "(I)I"⟩ : MethodName)) (hw _ (List.mem_of_getElem? (i := 12) rfl)) (hw _ (List.mem_of_getElem? (i := 13) rfl)) (hw _ (List.mem_of_getElem? (i := 15) rfl)) (hw _ (List.mem_of_getElem? (i := 14) rfl)) (hw _ (List.mem_of_getElem? (i := 2) rfl)) (hw _ (List.mem_of_getElem? (i := 16) rfl)) (by decide) rfl q1_97_p152 (rm3 l Z a0 hw [] b93 q t_97 cf2_152 ([] : List Int32) T152.heap n0 Z0_p152 q2_97_p152 q1_152 is2_152 (Nat.le_of_ble_eq_true rfl)) (by decide) (by decide) (g := (mkF m 213 #[.val (.int p1), .val (.int b), .val (.int c), .val (.int p4), .val (.int p5), .val (.int p6), .val (.int sel), .val (.int q), .val (.int (0 : Int32)), .val (.int (1 : Int32)), .val (.ref b93), .val (.int (-1 : Int32))] [(.int q), (.ref b93)])) rfl (by rw [hml]; rfl) (argsL := [(.int q)]) (rest := []) (lenOf pd_1 rfl) rfl rfl (W := 0) (by show 2 * 0 + _ ≤ _; exact Nat.le_of_eq rfl) (hb hby at_213) (by decide) (by decide)
        obtain ⟨rfl, Nq213, he213⟩ := hQ213
        have N213 := Fr.app N152 Nq213
        refine hst st213 ?_
        show F T213 (mkF m 216 #[.val (.int p1), .val (.int b), .val (.int c), .val (.int p4), .val (.int p5), .val (.int p6), .val (.int sel), .val (.int q), .val (.int (0 : Int32)), .val (.int (1 : Int32)), .val (.ref b93), .val (.int (-1 : Int32))] [(.int (own_lif ([] : List Int32) q ([] : List Int32).length))])
        refine hst (fun t₀ k₀ => XS.iload X213.here hx rfl (hb hby at_216) rfl k₀) ?_
        show F T213 (mkF m 218 #[.val (.int p1), .val (.int b), .val (.int c), .val (.int p4), .val (.int p5), .val (.int p6), .val (.int sel), .val (.int q), .val (.int (0 : Int32)), .val (.int (1 : Int32)), .val (.ref b93), .val (.int (-1 : Int32))] [(.int (-1 : Int32)), (.int (own_lif ([] : List Int32) q ([] : List Int32).length))])
        refine hst (fun t₀ k₀ => XS.icmpNo X213.here hx rfl (hb hby at_218) rfl (teq (by simp [own_lif, ])).2 k₀) ?_
        show F T213 (mkF m 221 #[.val (.int p1), .val (.int b), .val (.int c), .val (.int p4), .val (.int p5), .val (.int p6), .val (.int sel), .val (.int q), .val (.int (0 : Int32)), .val (.int (1 : Int32)), .val (.ref b93), .val (.int (-1 : Int32))] [])
        refine hst (fun t₀ k₀ => XS.iconst X213.here hx rfl (hb hby at_221) k₀) ?_
        show F T213 (mkF m 222 #[.val (.int p1), .val (.int b), .val (.int c), .val (.int p4), .val (.int p5), .val (.int p6), .val (.int sel), .val (.int q), .val (.int (0 : Int32)), .val (.int (1 : Int32)), .val (.ref b93), .val (.int (-1 : Int32))] [(.int (1 : Int32))])
        refine hst (fun t₀ k₀ => XS.goto X213.here hx rfl (pc0 := 222) (pc' := 226) rfl (hb hby at_222) (by decide) (by decide) k₀) ?_
        show F T213 (mkF m 226 #[.val (.int p1), .val (.int b), .val (.int c), .val (.int p4), .val (.int p5), .val (.int p6), .val (.int sel), .val (.int q), .val (.int (0 : Int32)), .val (.int (1 : Int32)), .val (.ref b93), .val (.int (-1 : Int32))] [(.int (1 : Int32))])
        rw [hF]
        refine own_retN X213 hx hret (by simp) hlk (hb hby at_226) (by decide) (by decide) ?_
        rw [he213]
        exact ⟨rfl, N213⟩
      · -- (1 : Int32)
        show F T97 (mkF m 102 #[.val (.int p1), .val (.int b), .val (.int c), .val (.int p4), .val (.int p5), .val (.int p6), .val (.int sel), .val (.int q), .val (.int (1 : Int32)), .val (.int (1 : Int32)), .val (.ref b93), .unset] [])
        refine hst (fun t₀ k₀ => XS.iload X97.here hx rfl (hb hby at_102) rfl k₀) ?_
        show F T97 (mkF m 104 #[.val (.int p1), .val (.int b), .val (.int c), .val (.int p4), .val (.int p5), .val (.int p6), .val (.int sel), .val (.int q), .val (.int (1 : Int32)), .val (.int (1 : Int32)), .val (.ref b93), .unset] [(.int (1 : Int32))])
        refine hst (fun t₀ k₀ => XS.iconst X97.here hx rfl (hb hby at_104) k₀) ?_
        show F T97 (mkF m 105 #[.val (.int p1), .val (.int b), .val (.int c), .val (.int p4), .val (.int p5), .val (.int p6), .val (.int sel), .val (.int q), .val (.int (1 : Int32)), .val (.int (1 : Int32)), .val (.ref b93), .unset] [(.int (1 : Int32)), (.int (1 : Int32))])
        refine hst (fun t₀ k₀ => XS.icmpNo X97.here hx rfl (hb hby at_105) rfl (flt (by decide)).1 k₀) ?_
        show F T97 (mkF m 108 #[.val (.int p1), .val (.int b), .val (.int c), .val (.int p4), .val (.int p5), .val (.int p6), .val (.int sel), .val (.int q), .val (.int (1 : Int32)), .val (.int (1 : Int32)), .val (.ref b93), .unset] [])
        refine hst (fun t₀ k₀ => XS.aload X97.here hx rfl (hb hby at_108) rfl rfl k₀) ?_
        show F T97 (mkF m 110 #[.val (.int p1), .val (.int b), .val (.int c), .val (.int p4), .val (.int p5), .val (.int p6), .val (.int sel), .val (.int q), .val (.int (1 : Int32)), .val (.int (1 : Int32)), .val (.ref b93), .unset] [(.ref b93)])
        refine hst (fun t₀ k₀ => XS.iloadN X97.here hx rfl (hb hby at_110) rfl k₀) ?_
        show F T97 (mkF m 111 #[.val (.int p1), .val (.int b), .val (.int c), .val (.int p4), .val (.int p5), .val (.int p6), .val (.int sel), .val (.int q), .val (.int (1 : Int32)), .val (.int (1 : Int32)), .val (.ref b93), .unset] [(.int p1), (.ref b93)])
        obtain ⟨v111, T111, Lc111, X111, hQ111, st111⟩ := own_callV X97 hx hZ hown (y := (⟨"com/example/hoist/hoist/CreationPath", "enter", "(I)V"⟩ : MethodName)) (hw _ (List.mem_of_getElem? (i := 17) rfl)) (hw _ (List.mem_of_getElem? (i := 18) rfl)) (hw _ (List.mem_of_getElem? (i := 20) rfl)) (hw _ (List.mem_of_getElem? (i := 19) rfl)) (hw _ (List.mem_of_getElem? (i := 2) rfl)) (hw _ (List.mem_of_getElem? (i := 21) rfl)) (by decide) rfl q1_97 (rm4 l Z a0 hw [] b93 p1 t_97 (fun _ => (0 : Int32)) ([] : List Int32) T97.heap n0 Z0_p97 q2_97 q3_97 ge_t_97 is_97 (Nat.le_of_ble_eq_true rfl) ne_b93_t_97) (by decide) (by decide) (g := (mkF m 111 #[.val (.int p1), .val (.int b), .val (.int c), .val (.int p4), .val (.int p5), .val (.int p6), .val (.int sel), .val (.int q), .val (.int (1 : Int32)), .val (.int (1 : Int32)), .val (.ref b93), .unset] [(.int p1), (.ref b93)])) rfl (by rw [hml]; rfl) (argsL := [(.int p1)]) (rest := []) (lenOf pd_2 rfl) rfl rfl (W := 0) (by show 2 * 0 + _ ≤ _; exact Nat.le_of_eq rfl) (hb hby at_111) (by decide) (by decide)
        obtain ⟨cf2_111, rfl, Nq111, K111, q1_111, is2_111⟩ := hQ111
        have N111 := Fr.app N97 Nq111
        have q1_97_p111 : Exa Z T111.heap b93 "com/example/hoist/hoist/CreationPath" := q1_97.keep K111
        have q2_97_p111 : Fld Z T111.heap b93 "com/example/hoist/hoist/CreationPath" "slots" "[I" (.ref t_97) := q2_97.keep K111 (by simp only [List.mem_cons, List.not_mem_nil, or_false, not_or]; exact ne_b93_t_97)
        have Z0_p111 : n0 ≤ T111.heap.size := Nat.le_trans Z0_p97 K111.1
        refine hst st111 ?_
        show F T111 (mkF m 114 #[.val (.int p1), .val (.int b), .val (.int c), .val (.int p4), .val (.int p5), .val (.int p6), .val (.int sel), .val (.int q), .val (.int (1 : Int32)), .val (.int (1 : Int32)), .val (.ref b93), .unset] [])
        refine hst (fun t₀ k₀ => XS.iload X111.here hx rfl (hb hby at_114) rfl k₀) ?_
        show F T111 (mkF m 116 #[.val (.int p1), .val (.int b), .val (.int c), .val (.int p4), .val (.int p5), .val (.int p6), .val (.int sel), .val (.int q), .val (.int (1 : Int32)), .val (.int (1 : Int32)), .val (.ref b93), .unset] [(.int (1 : Int32))])
        refine hst (fun t₀ k₀ => XS.iconst X111.here hx rfl (hb hby at_116) k₀) ?_
        show F T111 (mkF m 117 #[.val (.int p1), .val (.int b), .val (.int c), .val (.int p4), .val (.int p5), .val (.int p6), .val (.int sel), .val (.int q), .val (.int (1 : Int32)), .val (.int (1 : Int32)), .val (.ref b93), .unset] [(.int (2 : Int32)), (.int (1 : Int32))])
        refine hst (fun t₀ k₀ => XS.icmpYes X111.here hx rfl (pc0 := 117) (pc' := 126) rfl (hb hby at_117) rfl (tlt (by decide)).1 (by decide) (by decide) k₀) ?_
        show F T111 (mkF m 126 #[.val (.int p1), .val (.int b), .val (.int c), .val (.int p4), .val (.int p5), .val (.int p6), .val (.int sel), .val (.int q), .val (.int (1 : Int32)), .val (.int (1 : Int32)), .val (.ref b93), .unset] [])
        refine hst (fun t₀ k₀ => XS.iload X111.here hx rfl (hb hby at_126) rfl k₀) ?_
        show F T111 (mkF m 128 #[.val (.int p1), .val (.int b), .val (.int c), .val (.int p4), .val (.int p5), .val (.int p6), .val (.int sel), .val (.int q), .val (.int (1 : Int32)), .val (.int (1 : Int32)), .val (.ref b93), .unset] [(.int (1 : Int32))])
        refine hst (fun t₀ k₀ => XS.iconst X111.here hx rfl (hb hby at_128) k₀) ?_
        show F T111 (mkF m 129 #[.val (.int p1), .val (.int b), .val (.int c), .val (.int p4), .val (.int p5), .val (.int p6), .val (.int sel), .val (.int q), .val (.int (1 : Int32)), .val (.int (1 : Int32)), .val (.ref b93), .unset] [(.int (3 : Int32)), (.int (1 : Int32))])
        refine hst (fun t₀ k₀ => XS.icmpYes X111.here hx rfl (pc0 := 129) (pc' := 138) rfl (hb hby at_129) rfl (tlt (by decide)).1 (by decide) (by decide) k₀) ?_
        show F T111 (mkF m 138 #[.val (.int p1), .val (.int b), .val (.int c), .val (.int p4), .val (.int p5), .val (.int p6), .val (.int sel), .val (.int q), .val (.int (1 : Int32)), .val (.int (1 : Int32)), .val (.ref b93), .unset] [])
        refine hst (fun t₀ k₀ => XS.iload X111.here hx rfl (hb hby at_138) rfl k₀) ?_
        show F T111 (mkF m 140 #[.val (.int p1), .val (.int b), .val (.int c), .val (.int p4), .val (.int p5), .val (.int p6), .val (.int sel), .val (.int q), .val (.int (1 : Int32)), .val (.int (1 : Int32)), .val (.ref b93), .unset] [(.int (1 : Int32))])
        refine hst (fun t₀ k₀ => XS.ifNo X111.here hx rfl (hb hby at_140) rfl ((if0 _ _).trans (feq (by decide)).1) k₀) ?_
        show F T111 (mkF m 143 #[.val (.int p1), .val (.int b), .val (.int c), .val (.int p4), .val (.int p5), .val (.int p6), .val (.int sel), .val (.int q), .val (.int (1 : Int32)), .val (.int (1 : Int32)), .val (.ref b93), .unset] [])
        refine hst (fun t₀ k₀ => XS.aload X111.here hx rfl (hb hby at_143) rfl rfl k₀) ?_
        show F T111 (mkF m 145 #[.val (.int p1), .val (.int b), .val (.int c), .val (.int p4), .val (.int p5), .val (.int p6), .val (.int sel), .val (.int q), .val (.int (1 : Int32)), .val (.int (1 : Int32)), .val (.ref b93), .unset] [(.ref b93)])
        refine hst (fun t₀ k₀ => XS.iload X111.here hx rfl (hb hby at_145) rfl k₀) ?_
        show F T111 (mkF m 147 #[.val (.int p1), .val (.int b), .val (.int c), .val (.int p4), .val (.int p5), .val (.int p6), .val (.int sel), .val (.int q), .val (.int (1 : Int32)), .val (.int (1 : Int32)), .val (.ref b93), .unset] [(.int q), (.ref b93)])
        obtain ⟨v147, T147, Lc147, X147, hQ147, st147⟩ := own_callV X111 hx hZ hown (y := (⟨"com/example/hoist/hoist/CreationPath", "enter", "(I)V"⟩ : MethodName)) (hw _ (List.mem_of_getElem? (i := 17) rfl)) (hw _ (List.mem_of_getElem? (i := 18) rfl)) (hw _ (List.mem_of_getElem? (i := 20) rfl)) (hw _ (List.mem_of_getElem? (i := 19) rfl)) (hw _ (List.mem_of_getElem? (i := 2) rfl)) (hw _ (List.mem_of_getElem? (i := 21) rfl)) (by decide) rfl q1_97_p111 (rm4 l Z a0 hw [] b93 q t_97 cf2_111 ([p1] : List Int32) T111.heap n0 Z0_p111 q2_97_p111 q1_111 ge_t_97 is2_111 (Nat.le_of_ble_eq_true rfl) ne_b93_t_97) (by decide) (by decide) (g := (mkF m 147 #[.val (.int p1), .val (.int b), .val (.int c), .val (.int p4), .val (.int p5), .val (.int p6), .val (.int sel), .val (.int q), .val (.int (1 : Int32)), .val (.int (1 : Int32)), .val (.ref b93), .unset] [(.int q), (.ref b93)])) rfl (by rw [hml]; rfl) (argsL := [(.int q)]) (rest := []) (lenOf pd_2 rfl) rfl rfl (W := 0) (by show 2 * 0 + _ ≤ _; exact Nat.le_of_eq rfl) (hb hby at_147) (by decide) (by decide)
        obtain ⟨cf2_147, rfl, Nq147, K147, q1_147, is2_147⟩ := hQ147
        have N147 := Fr.app N111 Nq147
        have q1_97_p147 : Exa Z T147.heap b93 "com/example/hoist/hoist/CreationPath" := q1_97_p111.keep K147
        have q2_97_p147 : Fld Z T147.heap b93 "com/example/hoist/hoist/CreationPath" "slots" "[I" (.ref t_97) := q2_97_p111.keep K147 (by simp only [List.mem_cons, List.not_mem_nil, or_false, not_or]; exact ne_b93_t_97)
        have Z0_p147 : n0 ≤ T147.heap.size := Nat.le_trans Z0_p111 K147.1
        refine hst st147 ?_
        show F T147 (mkF m 150 #[.val (.int p1), .val (.int b), .val (.int c), .val (.int p4), .val (.int p5), .val (.int p6), .val (.int sel), .val (.int q), .val (.int (1 : Int32)), .val (.int (1 : Int32)), .val (.ref b93), .unset] [])
        refine hst (fun t₀ k₀ => XS.aload X147.here hx rfl (hb hby at_150) rfl rfl k₀) ?_
        show F T147 (mkF m 152 #[.val (.int p1), .val (.int b), .val (.int c), .val (.int p4), .val (.int p5), .val (.int p6), .val (.int sel), .val (.int q), .val (.int (1 : Int32)), .val (.int (1 : Int32)), .val (.ref b93), .unset] [(.ref b93)])
        obtain ⟨v152, T152, Lc152, X152, hQ152, st152⟩ := own_callV X147 hx hZ hown (y := (⟨"com/example/hoist/hoist/CreationPath", "leave", "()V"⟩ : MethodName)) (hw _ (List.mem_of_getElem? (i := 22) rfl)) (hw _ (List.mem_of_getElem? (i := 23) rfl)) (hw _ (List.mem_of_getElem? (i := 25) rfl)) (hw _ (List.mem_of_getElem? (i := 24) rfl)) (hw _ (List.mem_of_getElem? (i := 2) rfl)) (hw _ (List.mem_of_getElem? (i := 26) rfl)) (by decide) rfl q1_97_p147 (rm5 l Z a0 hw [] b93 t_97 cf2_147 ([p1, q] : List Int32) T147.heap n0 Z0_p147 q2_97_p147 q1_147 ge_t_97 is2_147 (Nat.le_of_ble_eq_true rfl) (Nat.le_of_ble_eq_true rfl) ne_b93_t_97) (by decide) (by decide) (g := (mkF m 152 #[.val (.int p1), .val (.int b), .val (.int c), .val (.int p4), .val (.int p5), .val (.int p6), .val (.int sel), .val (.int q), .val (.int (1 : Int32)), .val (.int (1 : Int32)), .val (.ref b93), .unset] [(.ref b93)])) rfl (by rw [hml]; rfl) (argsL := []) (rest := []) (lenOf pd_0 rfl) rfl rfl (W := 0) (by show 2 * 0 + _ ≤ _; exact Nat.le_of_eq rfl) (hb hby at_152) (by decide) (by decide)
        obtain ⟨cf2_152, rfl, Nq152, K152, q1_152, is2_152⟩ := hQ152
        have N152 := Fr.app N147 Nq152
        have q1_97_p152 : Exa Z T152.heap b93 "com/example/hoist/hoist/CreationPath" := q1_97_p147.keep K152
        have q2_97_p152 : Fld Z T152.heap b93 "com/example/hoist/hoist/CreationPath" "slots" "[I" (.ref t_97) := q2_97_p147.keep K152 (by simp only [List.mem_cons, List.not_mem_nil, or_false, not_or]; exact ne_b93_t_97)
        have Z0_p152 : n0 ≤ T152.heap.size := Nat.le_trans Z0_p147 K152.1
        refine hst st152 ?_
        show F T152 (mkF m 155 #[.val (.int p1), .val (.int b), .val (.int c), .val (.int p4), .val (.int p5), .val (.int p6), .val (.int sel), .val (.int q), .val (.int (1 : Int32)), .val (.int (1 : Int32)), .val (.ref b93), .unset] [])
        refine hst (fun t₀ k₀ => XS.iconst X152.here hx rfl (hb hby at_155) k₀) ?_
        show F T152 (mkF m 156 #[.val (.int p1), .val (.int b), .val (.int c), .val (.int p4), .val (.int p5), .val (.int p6), .val (.int sel), .val (.int q), .val (.int (1 : Int32)), .val (.int (1 : Int32)), .val (.ref b93), .unset] [(.int (-1 : Int32))])
        refine hst (fun t₀ k₀ => XS.istore X152.here hx rfl (hb hby at_156) rfl (l' := #[.val (.int p1), .val (.int b), .val (.int c), .val (.int p4), .val (.int p5), .val (.int p6), .val (.int sel), .val (.int q), .val (.int (1 : Int32)), .val (.int (1 : Int32)), .val (.ref b93), .val (.int (-1 : Int32))]) rfl k₀) ?_
        show F T152 (mkF m 158 #[.val (.int p1), .val (.int b), .val (.int c), .val (.int p4), .val (.int p5), .val (.int p6), .val (.int sel), .val (.int q), .val (.int (1 : Int32)), .val (.int (1 : Int32)), .val (.ref b93), .val (.int (-1 : Int32))] [])
        refine hst (fun t₀ k₀ => XS.iload X152.here hx rfl (hb hby at_158) rfl k₀) ?_
        show F T152 (mkF m 160 #[.val (.int p1), .val (.int b), .val (.int c), .val (.int p4), .val (.int p5), .val (.int p6), .val (.int sel), .val (.int q), .val (.int (1 : Int32)), .val (.int (1 : Int32)), .val (.ref b93), .val (.int (-1 : Int32))] [(.int (1 : Int32))])
        refine hst (fun t₀ k₀ => XS.iconst X152.here hx rfl (hb hby at_160) k₀) ?_
        show F T152 (mkF m 161 #[.val (.int p1), .val (.int b), .val (.int c), .val (.int p4), .val (.int p5), .val (.int p6), .val (.int sel), .val (.int q), .val (.int (1 : Int32)), .val (.int (1 : Int32)), .val (.ref b93), .val (.int (-1 : Int32))] [(.int (3 : Int32)), (.int (1 : Int32))])
        refine hst (fun t₀ k₀ => XS.icmpYes X152.here hx rfl (pc0 := 161) (pc' := 176) rfl (hb hby at_161) rfl (tlt (by decide)).1 (by decide) (by decide) k₀) ?_
        show F T152 (mkF m 176 #[.val (.int p1), .val (.int b), .val (.int c), .val (.int p4), .val (.int p5), .val (.int p6), .val (.int sel), .val (.int q), .val (.int (1 : Int32)), .val (.int (1 : Int32)), .val (.ref b93), .val (.int (-1 : Int32))] [])
        refine hst (fun t₀ k₀ => XS.iload X152.here hx rfl (hb hby at_176) rfl k₀) ?_
        show F T152 (mkF m 178 #[.val (.int p1), .val (.int b), .val (.int c), .val (.int p4), .val (.int p5), .val (.int p6), .val (.int sel), .val (.int q), .val (.int (1 : Int32)), .val (.int (1 : Int32)), .val (.ref b93), .val (.int (-1 : Int32))] [(.int (1 : Int32))])
        refine hst (fun t₀ k₀ => XS.iconst X152.here hx rfl (hb hby at_178) k₀) ?_
        show F T152 (mkF m 179 #[.val (.int p1), .val (.int b), .val (.int c), .val (.int p4), .val (.int p5), .val (.int p6), .val (.int sel), .val (.int q), .val (.int (1 : Int32)), .val (.int (1 : Int32)), .val (.ref b93), .val (.int (-1 : Int32))] [(.int (2 : Int32)), (.int (1 : Int32))])
        refine hst (fun t₀ k₀ => XS.icmpYes X152.here hx rfl (pc0 := 179) (pc' := 194) rfl (hb hby at_179) rfl (tlt (by decide)).1 (by decide) (by decide) k₀) ?_
        show F T152 (mkF m 194 #[.val (.int p1), .val (.int b), .val (.int c), .val (.int p4), .val (.int p5), .val (.int p6), .val (.int sel), .val (.int q), .val (.int (1 : Int32)), .val (.int (1 : Int32)), .val (.ref b93), .val (.int (-1 : Int32))] [])
        refine hst (fun t₀ k₀ => XS.iload X152.here hx rfl (hb hby at_194) rfl k₀) ?_
        show F T152 (mkF m 196 #[.val (.int p1), .val (.int b), .val (.int c), .val (.int p4), .val (.int p5), .val (.int p6), .val (.int sel), .val (.int q), .val (.int (1 : Int32)), .val (.int (1 : Int32)), .val (.ref b93), .val (.int (-1 : Int32))] [(.int (1 : Int32))])
        refine hst (fun t₀ k₀ => XS.iconst X152.here hx rfl (hb hby at_196) k₀) ?_
        show F T152 (mkF m 197 #[.val (.int p1), .val (.int b), .val (.int c), .val (.int p4), .val (.int p5), .val (.int p6), .val (.int sel), .val (.int q), .val (.int (1 : Int32)), .val (.int (1 : Int32)), .val (.ref b93), .val (.int (-1 : Int32))] [(.int (1 : Int32)), (.int (1 : Int32))])
        refine hst (fun t₀ k₀ => XS.icmpNo X152.here hx rfl (hb hby at_197) rfl (flt (by decide)).1 k₀) ?_
        show F T152 (mkF m 200 #[.val (.int p1), .val (.int b), .val (.int c), .val (.int p4), .val (.int p5), .val (.int p6), .val (.int sel), .val (.int q), .val (.int (1 : Int32)), .val (.int (1 : Int32)), .val (.ref b93), .val (.int (-1 : Int32))] [])
        refine hst (fun t₀ k₀ => XS.iloadN X152.here hx rfl (hb hby at_200) rfl k₀) ?_
        show F T152 (mkF m 201 #[.val (.int p1), .val (.int b), .val (.int c), .val (.int p4), .val (.int p5), .val (.int p6), .val (.int sel), .val (.int q), .val (.int (1 : Int32)), .val (.int (1 : Int32)), .val (.ref b93), .val (.int (-1 : Int32))] [(.int p1)])
        refine hst (fun t₀ k₀ => XS.iload X152.here hx rfl (hb hby at_201) rfl k₀) ?_
        show F T152 (mkF m 203 #[.val (.int p1), .val (.int b), .val (.int c), .val (.int p4), .val (.int p5), .val (.int p6), .val (.int sel), .val (.int q), .val (.int (1 : Int32)), .val (.int (1 : Int32)), .val (.ref b93), .val (.int (-1 : Int32))] [(.int q), (.int p1)])
        by_cases hc203 : p1 = q
        · -- pc 203: not taken
          refine hst (fun t₀ k₀ => XS.icmpNo X152.here hx rfl (hb hby at_203) rfl (teq hc203).2 k₀) ?_
          show F T152 (mkF m 206 #[.val (.int p1), .val (.int b), .val (.int c), .val (.int p4), .val (.int p5), .val (.int p6), .val (.int sel), .val (.int q), .val (.int (1 : Int32)), .val (.int (1 : Int32)), .val (.ref b93), .val (.int (-1 : Int32))] [])
          refine hst (fun t₀ k₀ => XS.iconst X152.here hx rfl (hb hby at_206) k₀) ?_
          show F T152 (mkF m 207 #[.val (.int p1), .val (.int b), .val (.int c), .val (.int p4), .val (.int p5), .val (.int p6), .val (.int sel), .val (.int q), .val (.int (1 : Int32)), .val (.int (1 : Int32)), .val (.ref b93), .val (.int (-1 : Int32))] [(.int (0 : Int32))])
          refine hst (fun t₀ k₀ => XS.istore X152.here hx rfl (hb hby at_207) rfl (l' := #[.val (.int p1), .val (.int b), .val (.int c), .val (.int p4), .val (.int p5), .val (.int p6), .val (.int sel), .val (.int q), .val (.int (1 : Int32)), .val (.int (1 : Int32)), .val (.ref b93), .val (.int (0 : Int32))]) rfl k₀) ?_
          show F T152 (mkF m 209 #[.val (.int p1), .val (.int b), .val (.int c), .val (.int p4), .val (.int p5), .val (.int p6), .val (.int sel), .val (.int q), .val (.int (1 : Int32)), .val (.int (1 : Int32)), .val (.ref b93), .val (.int (0 : Int32))] [])
          refine hst (fun t₀ k₀ => XS.aload X152.here hx rfl (hb hby at_209) rfl rfl k₀) ?_
          show F T152 (mkF m 211 #[.val (.int p1), .val (.int b), .val (.int c), .val (.int p4), .val (.int p5), .val (.int p6), .val (.int sel), .val (.int q), .val (.int (1 : Int32)), .val (.int (1 : Int32)), .val (.ref b93), .val (.int (0 : Int32))] [(.ref b93)])
          refine hst (fun t₀ k₀ => XS.iload X152.here hx rfl (hb hby at_211) rfl k₀) ?_
          show F T152 (mkF m 213 #[.val (.int p1), .val (.int b), .val (.int c), .val (.int p4), .val (.int p5), .val (.int p6), .val (.int sel), .val (.int q), .val (.int (1 : Int32)), .val (.int (1 : Int32)), .val (.ref b93), .val (.int (0 : Int32))] [(.int q), (.ref b93)])
          obtain ⟨v213, T213, Lc213, X213, hQ213, st213⟩ := own_callV X152 hx hZ hown (y := (⟨"com/example/hoist/hoist/CreationPath", "lastIndexOf", "(I)I"⟩ : MethodName)) (hw _ (List.mem_of_getElem? (i := 12) rfl)) (hw _ (List.mem_of_getElem? (i := 13) rfl)) (hw _ (List.mem_of_getElem? (i := 15) rfl)) (hw _ (List.mem_of_getElem? (i := 14) rfl)) (hw _ (List.mem_of_getElem? (i := 2) rfl)) (hw _ (List.mem_of_getElem? (i := 16) rfl)) (by decide) rfl q1_97_p152 (rm3 l Z a0 hw [] b93 q t_97 cf2_152 ([p1] : List Int32) T152.heap n0 Z0_p152 q2_97_p152 q1_152 is2_152 (Nat.le_of_ble_eq_true rfl)) (by decide) (by decide) (g := (mkF m 213 #[.val (.int p1), .val (.int b), .val (.int c), .val (.int p4), .val (.int p5), .val (.int p6), .val (.int sel), .val (.int q), .val (.int (1 : Int32)), .val (.int (1 : Int32)), .val (.ref b93), .val (.int (0 : Int32))] [(.int q), (.ref b93)])) rfl (by rw [hml]; rfl) (argsL := [(.int q)]) (rest := []) (lenOf pd_1 rfl) rfl rfl (W := 0) (by show 2 * 0 + _ ≤ _; exact Nat.le_of_eq rfl) (hb hby at_213) (by decide) (by decide)
          obtain ⟨rfl, Nq213, he213⟩ := hQ213
          have N213 := Fr.app N152 Nq213
          refine hst st213 ?_
          show F T213 (mkF m 216 #[.val (.int p1), .val (.int b), .val (.int c), .val (.int p4), .val (.int p5), .val (.int p6), .val (.int sel), .val (.int q), .val (.int (1 : Int32)), .val (.int (1 : Int32)), .val (.ref b93), .val (.int (0 : Int32))] [(.int (own_lif ([p1] : List Int32) q ([p1] : List Int32).length))])
          refine hst (fun t₀ k₀ => XS.iload X213.here hx rfl (hb hby at_216) rfl k₀) ?_
          show F T213 (mkF m 218 #[.val (.int p1), .val (.int b), .val (.int c), .val (.int p4), .val (.int p5), .val (.int p6), .val (.int sel), .val (.int q), .val (.int (1 : Int32)), .val (.int (1 : Int32)), .val (.ref b93), .val (.int (0 : Int32))] [(.int (0 : Int32)), (.int (own_lif ([p1] : List Int32) q ([p1] : List Int32).length))])
          refine hst (fun t₀ k₀ => XS.icmpNo X213.here hx rfl (hb hby at_218) rfl (teq (by simp [own_lif, hc203])).2 k₀) ?_
          show F T213 (mkF m 221 #[.val (.int p1), .val (.int b), .val (.int c), .val (.int p4), .val (.int p5), .val (.int p6), .val (.int sel), .val (.int q), .val (.int (1 : Int32)), .val (.int (1 : Int32)), .val (.ref b93), .val (.int (0 : Int32))] [])
          refine hst (fun t₀ k₀ => XS.iconst X213.here hx rfl (hb hby at_221) k₀) ?_
          show F T213 (mkF m 222 #[.val (.int p1), .val (.int b), .val (.int c), .val (.int p4), .val (.int p5), .val (.int p6), .val (.int sel), .val (.int q), .val (.int (1 : Int32)), .val (.int (1 : Int32)), .val (.ref b93), .val (.int (0 : Int32))] [(.int (1 : Int32))])
          refine hst (fun t₀ k₀ => XS.goto X213.here hx rfl (pc0 := 222) (pc' := 226) rfl (hb hby at_222) (by decide) (by decide) k₀) ?_
          show F T213 (mkF m 226 #[.val (.int p1), .val (.int b), .val (.int c), .val (.int p4), .val (.int p5), .val (.int p6), .val (.int sel), .val (.int q), .val (.int (1 : Int32)), .val (.int (1 : Int32)), .val (.ref b93), .val (.int (0 : Int32))] [(.int (1 : Int32))])
          rw [hF]
          refine own_retN X213 hx hret (by simp) hlk (hb hby at_226) (by decide) (by decide) ?_
          rw [he213]
          exact ⟨rfl, N213⟩
        · -- pc 203: taken
          refine hst (fun t₀ k₀ => XS.icmpYes X152.here hx rfl (pc0 := 203) (pc' := 209) rfl (hb hby at_203) rfl (feq hc203).2 (by decide) (by decide) k₀) ?_
          show F T152 (mkF m 209 #[.val (.int p1), .val (.int b), .val (.int c), .val (.int p4), .val (.int p5), .val (.int p6), .val (.int sel), .val (.int q), .val (.int (1 : Int32)), .val (.int (1 : Int32)), .val (.ref b93), .val (.int (-1 : Int32))] [])
          refine hst (fun t₀ k₀ => XS.aload X152.here hx rfl (hb hby at_209) rfl rfl k₀) ?_
          show F T152 (mkF m 211 #[.val (.int p1), .val (.int b), .val (.int c), .val (.int p4), .val (.int p5), .val (.int p6), .val (.int sel), .val (.int q), .val (.int (1 : Int32)), .val (.int (1 : Int32)), .val (.ref b93), .val (.int (-1 : Int32))] [(.ref b93)])
          refine hst (fun t₀ k₀ => XS.iload X152.here hx rfl (hb hby at_211) rfl k₀) ?_
          show F T152 (mkF m 213 #[.val (.int p1), .val (.int b), .val (.int c), .val (.int p4), .val (.int p5), .val (.int p6), .val (.int sel), .val (.int q), .val (.int (1 : Int32)), .val (.int (1 : Int32)), .val (.ref b93), .val (.int (-1 : Int32))] [(.int q), (.ref b93)])
          obtain ⟨v213, T213, Lc213, X213, hQ213, st213⟩ := own_callV X152 hx hZ hown (y := (⟨"com/example/hoist/hoist/CreationPath", "lastIndexOf", "(I)I"⟩ : MethodName)) (hw _ (List.mem_of_getElem? (i := 12) rfl)) (hw _ (List.mem_of_getElem? (i := 13) rfl)) (hw _ (List.mem_of_getElem? (i := 15) rfl)) (hw _ (List.mem_of_getElem? (i := 14) rfl)) (hw _ (List.mem_of_getElem? (i := 2) rfl)) (hw _ (List.mem_of_getElem? (i := 16) rfl)) (by decide) rfl q1_97_p152 (rm3 l Z a0 hw [] b93 q t_97 cf2_152 ([p1] : List Int32) T152.heap n0 Z0_p152 q2_97_p152 q1_152 is2_152 (Nat.le_of_ble_eq_true rfl)) (by decide) (by decide) (g := (mkF m 213 #[.val (.int p1), .val (.int b), .val (.int c), .val (.int p4), .val (.int p5), .val (.int p6), .val (.int sel), .val (.int q), .val (.int (1 : Int32)), .val (.int (1 : Int32)), .val (.ref b93), .val (.int (-1 : Int32))] [(.int q), (.ref b93)])) rfl (by rw [hml]; rfl) (argsL := [(.int q)]) (rest := []) (lenOf pd_1 rfl) rfl rfl (W := 0) (by show 2 * 0 + _ ≤ _; exact Nat.le_of_eq rfl) (hb hby at_213) (by decide) (by decide)
          obtain ⟨rfl, Nq213, he213⟩ := hQ213
          have N213 := Fr.app N152 Nq213
          refine hst st213 ?_
          show F T213 (mkF m 216 #[.val (.int p1), .val (.int b), .val (.int c), .val (.int p4), .val (.int p5), .val (.int p6), .val (.int sel), .val (.int q), .val (.int (1 : Int32)), .val (.int (1 : Int32)), .val (.ref b93), .val (.int (-1 : Int32))] [(.int (own_lif ([p1] : List Int32) q ([p1] : List Int32).length))])
          refine hst (fun t₀ k₀ => XS.iload X213.here hx rfl (hb hby at_216) rfl k₀) ?_
          show F T213 (mkF m 218 #[.val (.int p1), .val (.int b), .val (.int c), .val (.int p4), .val (.int p5), .val (.int p6), .val (.int sel), .val (.int q), .val (.int (1 : Int32)), .val (.int (1 : Int32)), .val (.ref b93), .val (.int (-1 : Int32))] [(.int (-1 : Int32)), (.int (own_lif ([p1] : List Int32) q ([p1] : List Int32).length))])
          refine hst (fun t₀ k₀ => XS.icmpNo X213.here hx rfl (hb hby at_218) rfl (teq (by simp [own_lif, hc203])).2 k₀) ?_
          show F T213 (mkF m 221 #[.val (.int p1), .val (.int b), .val (.int c), .val (.int p4), .val (.int p5), .val (.int p6), .val (.int sel), .val (.int q), .val (.int (1 : Int32)), .val (.int (1 : Int32)), .val (.ref b93), .val (.int (-1 : Int32))] [])
          refine hst (fun t₀ k₀ => XS.iconst X213.here hx rfl (hb hby at_221) k₀) ?_
          show F T213 (mkF m 222 #[.val (.int p1), .val (.int b), .val (.int c), .val (.int p4), .val (.int p5), .val (.int p6), .val (.int sel), .val (.int q), .val (.int (1 : Int32)), .val (.int (1 : Int32)), .val (.ref b93), .val (.int (-1 : Int32))] [(.int (1 : Int32))])
          refine hst (fun t₀ k₀ => XS.goto X213.here hx rfl (pc0 := 222) (pc' := 226) rfl (hb hby at_222) (by decide) (by decide) k₀) ?_
          show F T213 (mkF m 226 #[.val (.int p1), .val (.int b), .val (.int c), .val (.int p4), .val (.int p5), .val (.int p6), .val (.int sel), .val (.int q), .val (.int (1 : Int32)), .val (.int (1 : Int32)), .val (.ref b93), .val (.int (-1 : Int32))] [(.int (1 : Int32))])
          rw [hF]
          refine own_retN X213 hx hret (by simp) hlk (hb hby at_226) (by decide) (by decide) ?_
          rw [he213]
          exact ⟨rfl, N213⟩
      · -- (2 : Int32)
        show F T97 (mkF m 102 #[.val (.int p1), .val (.int b), .val (.int c), .val (.int p4), .val (.int p5), .val (.int p6), .val (.int sel), .val (.int q), .val (.int (2 : Int32)), .val (.int (1 : Int32)), .val (.ref b93), .unset] [])
        refine hst (fun t₀ k₀ => XS.iload X97.here hx rfl (hb hby at_102) rfl k₀) ?_
        show F T97 (mkF m 104 #[.val (.int p1), .val (.int b), .val (.int c), .val (.int p4), .val (.int p5), .val (.int p6), .val (.int sel), .val (.int q), .val (.int (2 : Int32)), .val (.int (1 : Int32)), .val (.ref b93), .unset] [(.int (2 : Int32))])
        refine hst (fun t₀ k₀ => XS.iconst X97.here hx rfl (hb hby at_104) k₀) ?_
        show F T97 (mkF m 105 #[.val (.int p1), .val (.int b), .val (.int c), .val (.int p4), .val (.int p5), .val (.int p6), .val (.int sel), .val (.int q), .val (.int (2 : Int32)), .val (.int (1 : Int32)), .val (.ref b93), .unset] [(.int (1 : Int32)), (.int (2 : Int32))])
        refine hst (fun t₀ k₀ => XS.icmpNo X97.here hx rfl (hb hby at_105) rfl (flt (by decide)).1 k₀) ?_
        show F T97 (mkF m 108 #[.val (.int p1), .val (.int b), .val (.int c), .val (.int p4), .val (.int p5), .val (.int p6), .val (.int sel), .val (.int q), .val (.int (2 : Int32)), .val (.int (1 : Int32)), .val (.ref b93), .unset] [])
        refine hst (fun t₀ k₀ => XS.aload X97.here hx rfl (hb hby at_108) rfl rfl k₀) ?_
        show F T97 (mkF m 110 #[.val (.int p1), .val (.int b), .val (.int c), .val (.int p4), .val (.int p5), .val (.int p6), .val (.int sel), .val (.int q), .val (.int (2 : Int32)), .val (.int (1 : Int32)), .val (.ref b93), .unset] [(.ref b93)])
        refine hst (fun t₀ k₀ => XS.iloadN X97.here hx rfl (hb hby at_110) rfl k₀) ?_
        show F T97 (mkF m 111 #[.val (.int p1), .val (.int b), .val (.int c), .val (.int p4), .val (.int p5), .val (.int p6), .val (.int sel), .val (.int q), .val (.int (2 : Int32)), .val (.int (1 : Int32)), .val (.ref b93), .unset] [(.int p1), (.ref b93)])
        obtain ⟨v111, T111, Lc111, X111, hQ111, st111⟩ := own_callV X97 hx hZ hown (y := (⟨"com/example/hoist/hoist/CreationPath", "enter", "(I)V"⟩ : MethodName)) (hw _ (List.mem_of_getElem? (i := 17) rfl)) (hw _ (List.mem_of_getElem? (i := 18) rfl)) (hw _ (List.mem_of_getElem? (i := 20) rfl)) (hw _ (List.mem_of_getElem? (i := 19) rfl)) (hw _ (List.mem_of_getElem? (i := 2) rfl)) (hw _ (List.mem_of_getElem? (i := 21) rfl)) (by decide) rfl q1_97 (rm4 l Z a0 hw [] b93 p1 t_97 (fun _ => (0 : Int32)) ([] : List Int32) T97.heap n0 Z0_p97 q2_97 q3_97 ge_t_97 is_97 (Nat.le_of_ble_eq_true rfl) ne_b93_t_97) (by decide) (by decide) (g := (mkF m 111 #[.val (.int p1), .val (.int b), .val (.int c), .val (.int p4), .val (.int p5), .val (.int p6), .val (.int sel), .val (.int q), .val (.int (2 : Int32)), .val (.int (1 : Int32)), .val (.ref b93), .unset] [(.int p1), (.ref b93)])) rfl (by rw [hml]; rfl) (argsL := [(.int p1)]) (rest := []) (lenOf pd_2 rfl) rfl rfl (W := 0) (by show 2 * 0 + _ ≤ _; exact Nat.le_of_eq rfl) (hb hby at_111) (by decide) (by decide)
        obtain ⟨cf2_111, rfl, Nq111, K111, q1_111, is2_111⟩ := hQ111
        have N111 := Fr.app N97 Nq111
        have q1_97_p111 : Exa Z T111.heap b93 "com/example/hoist/hoist/CreationPath" := q1_97.keep K111
        have q2_97_p111 : Fld Z T111.heap b93 "com/example/hoist/hoist/CreationPath" "slots" "[I" (.ref t_97) := q2_97.keep K111 (by simp only [List.mem_cons, List.not_mem_nil, or_false, not_or]; exact ne_b93_t_97)
        have Z0_p111 : n0 ≤ T111.heap.size := Nat.le_trans Z0_p97 K111.1
        refine hst st111 ?_
        show F T111 (mkF m 114 #[.val (.int p1), .val (.int b), .val (.int c), .val (.int p4), .val (.int p5), .val (.int p6), .val (.int sel), .val (.int q), .val (.int (2 : Int32)), .val (.int (1 : Int32)), .val (.ref b93), .unset] [])
        refine hst (fun t₀ k₀ => XS.iload X111.here hx rfl (hb hby at_114) rfl k₀) ?_
        show F T111 (mkF m 116 #[.val (.int p1), .val (.int b), .val (.int c), .val (.int p4), .val (.int p5), .val (.int p6), .val (.int sel), .val (.int q), .val (.int (2 : Int32)), .val (.int (1 : Int32)), .val (.ref b93), .unset] [(.int (2 : Int32))])
        refine hst (fun t₀ k₀ => XS.iconst X111.here hx rfl (hb hby at_116) k₀) ?_
        show F T111 (mkF m 117 #[.val (.int p1), .val (.int b), .val (.int c), .val (.int p4), .val (.int p5), .val (.int p6), .val (.int sel), .val (.int q), .val (.int (2 : Int32)), .val (.int (1 : Int32)), .val (.ref b93), .unset] [(.int (2 : Int32)), (.int (2 : Int32))])
        refine hst (fun t₀ k₀ => XS.icmpNo X111.here hx rfl (hb hby at_117) rfl (flt (by decide)).1 k₀) ?_
        show F T111 (mkF m 120 #[.val (.int p1), .val (.int b), .val (.int c), .val (.int p4), .val (.int p5), .val (.int p6), .val (.int sel), .val (.int q), .val (.int (2 : Int32)), .val (.int (1 : Int32)), .val (.ref b93), .unset] [])
        refine hst (fun t₀ k₀ => XS.aload X111.here hx rfl (hb hby at_120) rfl rfl k₀) ?_
        show F T111 (mkF m 122 #[.val (.int p1), .val (.int b), .val (.int c), .val (.int p4), .val (.int p5), .val (.int p6), .val (.int sel), .val (.int q), .val (.int (2 : Int32)), .val (.int (1 : Int32)), .val (.ref b93), .unset] [(.ref b93)])
        refine hst (fun t₀ k₀ => XS.iloadN X111.here hx rfl (hb hby at_122) rfl k₀) ?_
        show F T111 (mkF m 123 #[.val (.int p1), .val (.int b), .val (.int c), .val (.int p4), .val (.int p5), .val (.int p6), .val (.int sel), .val (.int q), .val (.int (2 : Int32)), .val (.int (1 : Int32)), .val (.ref b93), .unset] [(.int b), (.ref b93)])
        obtain ⟨v123, T123, Lc123, X123, hQ123, st123⟩ := own_callV X111 hx hZ hown (y := (⟨"com/example/hoist/hoist/CreationPath", "enter", "(I)V"⟩ : MethodName)) (hw _ (List.mem_of_getElem? (i := 17) rfl)) (hw _ (List.mem_of_getElem? (i := 18) rfl)) (hw _ (List.mem_of_getElem? (i := 20) rfl)) (hw _ (List.mem_of_getElem? (i := 19) rfl)) (hw _ (List.mem_of_getElem? (i := 2) rfl)) (hw _ (List.mem_of_getElem? (i := 21) rfl)) (by decide) rfl q1_97_p111 (rm4 l Z a0 hw [] b93 b t_97 cf2_111 ([p1] : List Int32) T111.heap n0 Z0_p111 q2_97_p111 q1_111 ge_t_97 is2_111 (Nat.le_of_ble_eq_true rfl) ne_b93_t_97) (by decide) (by decide) (g := (mkF m 123 #[.val (.int p1), .val (.int b), .val (.int c), .val (.int p4), .val (.int p5), .val (.int p6), .val (.int sel), .val (.int q), .val (.int (2 : Int32)), .val (.int (1 : Int32)), .val (.ref b93), .unset] [(.int b), (.ref b93)])) rfl (by rw [hml]; rfl) (argsL := [(.int b)]) (rest := []) (lenOf pd_2 rfl) rfl rfl (W := 0) (by show 2 * 0 + _ ≤ _; exact Nat.le_of_eq rfl) (hb hby at_123) (by decide) (by decide)
        obtain ⟨cf2_123, rfl, Nq123, K123, q1_123, is2_123⟩ := hQ123
        have N123 := Fr.app N111 Nq123
        have q1_97_p123 : Exa Z T123.heap b93 "com/example/hoist/hoist/CreationPath" := q1_97_p111.keep K123
        have q2_97_p123 : Fld Z T123.heap b93 "com/example/hoist/hoist/CreationPath" "slots" "[I" (.ref t_97) := q2_97_p111.keep K123 (by simp only [List.mem_cons, List.not_mem_nil, or_false, not_or]; exact ne_b93_t_97)
        have Z0_p123 : n0 ≤ T123.heap.size := Nat.le_trans Z0_p111 K123.1
        refine hst st123 ?_
        show F T123 (mkF m 126 #[.val (.int p1), .val (.int b), .val (.int c), .val (.int p4), .val (.int p5), .val (.int p6), .val (.int sel), .val (.int q), .val (.int (2 : Int32)), .val (.int (1 : Int32)), .val (.ref b93), .unset] [])
        refine hst (fun t₀ k₀ => XS.iload X123.here hx rfl (hb hby at_126) rfl k₀) ?_
        show F T123 (mkF m 128 #[.val (.int p1), .val (.int b), .val (.int c), .val (.int p4), .val (.int p5), .val (.int p6), .val (.int sel), .val (.int q), .val (.int (2 : Int32)), .val (.int (1 : Int32)), .val (.ref b93), .unset] [(.int (2 : Int32))])
        refine hst (fun t₀ k₀ => XS.iconst X123.here hx rfl (hb hby at_128) k₀) ?_
        show F T123 (mkF m 129 #[.val (.int p1), .val (.int b), .val (.int c), .val (.int p4), .val (.int p5), .val (.int p6), .val (.int sel), .val (.int q), .val (.int (2 : Int32)), .val (.int (1 : Int32)), .val (.ref b93), .unset] [(.int (3 : Int32)), (.int (2 : Int32))])
        refine hst (fun t₀ k₀ => XS.icmpYes X123.here hx rfl (pc0 := 129) (pc' := 138) rfl (hb hby at_129) rfl (tlt (by decide)).1 (by decide) (by decide) k₀) ?_
        show F T123 (mkF m 138 #[.val (.int p1), .val (.int b), .val (.int c), .val (.int p4), .val (.int p5), .val (.int p6), .val (.int sel), .val (.int q), .val (.int (2 : Int32)), .val (.int (1 : Int32)), .val (.ref b93), .unset] [])
        refine hst (fun t₀ k₀ => XS.iload X123.here hx rfl (hb hby at_138) rfl k₀) ?_
        show F T123 (mkF m 140 #[.val (.int p1), .val (.int b), .val (.int c), .val (.int p4), .val (.int p5), .val (.int p6), .val (.int sel), .val (.int q), .val (.int (2 : Int32)), .val (.int (1 : Int32)), .val (.ref b93), .unset] [(.int (1 : Int32))])
        refine hst (fun t₀ k₀ => XS.ifNo X123.here hx rfl (hb hby at_140) rfl ((if0 _ _).trans (feq (by decide)).1) k₀) ?_
        show F T123 (mkF m 143 #[.val (.int p1), .val (.int b), .val (.int c), .val (.int p4), .val (.int p5), .val (.int p6), .val (.int sel), .val (.int q), .val (.int (2 : Int32)), .val (.int (1 : Int32)), .val (.ref b93), .unset] [])
        refine hst (fun t₀ k₀ => XS.aload X123.here hx rfl (hb hby at_143) rfl rfl k₀) ?_
        show F T123 (mkF m 145 #[.val (.int p1), .val (.int b), .val (.int c), .val (.int p4), .val (.int p5), .val (.int p6), .val (.int sel), .val (.int q), .val (.int (2 : Int32)), .val (.int (1 : Int32)), .val (.ref b93), .unset] [(.ref b93)])
        refine hst (fun t₀ k₀ => XS.iload X123.here hx rfl (hb hby at_145) rfl k₀) ?_
        show F T123 (mkF m 147 #[.val (.int p1), .val (.int b), .val (.int c), .val (.int p4), .val (.int p5), .val (.int p6), .val (.int sel), .val (.int q), .val (.int (2 : Int32)), .val (.int (1 : Int32)), .val (.ref b93), .unset] [(.int q), (.ref b93)])
        obtain ⟨v147, T147, Lc147, X147, hQ147, st147⟩ := own_callV X123 hx hZ hown (y := (⟨"com/example/hoist/hoist/CreationPath", "enter", "(I)V"⟩ : MethodName)) (hw _ (List.mem_of_getElem? (i := 17) rfl)) (hw _ (List.mem_of_getElem? (i := 18) rfl)) (hw _ (List.mem_of_getElem? (i := 20) rfl)) (hw _ (List.mem_of_getElem? (i := 19) rfl)) (hw _ (List.mem_of_getElem? (i := 2) rfl)) (hw _ (List.mem_of_getElem? (i := 21) rfl)) (by decide) rfl q1_97_p123 (rm4 l Z a0 hw [] b93 q t_97 cf2_123 ([p1, b] : List Int32) T123.heap n0 Z0_p123 q2_97_p123 q1_123 ge_t_97 is2_123 (Nat.le_of_ble_eq_true rfl) ne_b93_t_97) (by decide) (by decide) (g := (mkF m 147 #[.val (.int p1), .val (.int b), .val (.int c), .val (.int p4), .val (.int p5), .val (.int p6), .val (.int sel), .val (.int q), .val (.int (2 : Int32)), .val (.int (1 : Int32)), .val (.ref b93), .unset] [(.int q), (.ref b93)])) rfl (by rw [hml]; rfl) (argsL := [(.int q)]) (rest := []) (lenOf pd_2 rfl) rfl rfl (W := 0) (by show 2 * 0 + _ ≤ _; exact Nat.le_of_eq rfl) (hb hby at_147) (by decide) (by decide)
        obtain ⟨cf2_147, rfl, Nq147, K147, q1_147, is2_147⟩ := hQ147
        have N147 := Fr.app N123 Nq147
        have q1_97_p147 : Exa Z T147.heap b93 "com/example/hoist/hoist/CreationPath" := q1_97_p123.keep K147
        have q2_97_p147 : Fld Z T147.heap b93 "com/example/hoist/hoist/CreationPath" "slots" "[I" (.ref t_97) := q2_97_p123.keep K147 (by simp only [List.mem_cons, List.not_mem_nil, or_false, not_or]; exact ne_b93_t_97)
        have Z0_p147 : n0 ≤ T147.heap.size := Nat.le_trans Z0_p123 K147.1
        refine hst st147 ?_
        show F T147 (mkF m 150 #[.val (.int p1), .val (.int b), .val (.int c), .val (.int p4), .val (.int p5), .val (.int p6), .val (.int sel), .val (.int q), .val (.int (2 : Int32)), .val (.int (1 : Int32)), .val (.ref b93), .unset] [])
        refine hst (fun t₀ k₀ => XS.aload X147.here hx rfl (hb hby at_150) rfl rfl k₀) ?_
        show F T147 (mkF m 152 #[.val (.int p1), .val (.int b), .val (.int c), .val (.int p4), .val (.int p5), .val (.int p6), .val (.int sel), .val (.int q), .val (.int (2 : Int32)), .val (.int (1 : Int32)), .val (.ref b93), .unset] [(.ref b93)])
        obtain ⟨v152, T152, Lc152, X152, hQ152, st152⟩ := own_callV X147 hx hZ hown (y := (⟨"com/example/hoist/hoist/CreationPath", "leave", "()V"⟩ : MethodName)) (hw _ (List.mem_of_getElem? (i := 22) rfl)) (hw _ (List.mem_of_getElem? (i := 23) rfl)) (hw _ (List.mem_of_getElem? (i := 25) rfl)) (hw _ (List.mem_of_getElem? (i := 24) rfl)) (hw _ (List.mem_of_getElem? (i := 2) rfl)) (hw _ (List.mem_of_getElem? (i := 26) rfl)) (by decide) rfl q1_97_p147 (rm5 l Z a0 hw [] b93 t_97 cf2_147 ([p1, b, q] : List Int32) T147.heap n0 Z0_p147 q2_97_p147 q1_147 ge_t_97 is2_147 (Nat.le_of_ble_eq_true rfl) (Nat.le_of_ble_eq_true rfl) ne_b93_t_97) (by decide) (by decide) (g := (mkF m 152 #[.val (.int p1), .val (.int b), .val (.int c), .val (.int p4), .val (.int p5), .val (.int p6), .val (.int sel), .val (.int q), .val (.int (2 : Int32)), .val (.int (1 : Int32)), .val (.ref b93), .unset] [(.ref b93)])) rfl (by rw [hml]; rfl) (argsL := []) (rest := []) (lenOf pd_0 rfl) rfl rfl (W := 0) (by show 2 * 0 + _ ≤ _; exact Nat.le_of_eq rfl) (hb hby at_152) (by decide) (by decide)
        obtain ⟨cf2_152, rfl, Nq152, K152, q1_152, is2_152⟩ := hQ152
        have N152 := Fr.app N147 Nq152
        have q1_97_p152 : Exa Z T152.heap b93 "com/example/hoist/hoist/CreationPath" := q1_97_p147.keep K152
        have q2_97_p152 : Fld Z T152.heap b93 "com/example/hoist/hoist/CreationPath" "slots" "[I" (.ref t_97) := q2_97_p147.keep K152 (by simp only [List.mem_cons, List.not_mem_nil, or_false, not_or]; exact ne_b93_t_97)
        have Z0_p152 : n0 ≤ T152.heap.size := Nat.le_trans Z0_p147 K152.1
        refine hst st152 ?_
        show F T152 (mkF m 155 #[.val (.int p1), .val (.int b), .val (.int c), .val (.int p4), .val (.int p5), .val (.int p6), .val (.int sel), .val (.int q), .val (.int (2 : Int32)), .val (.int (1 : Int32)), .val (.ref b93), .unset] [])
        refine hst (fun t₀ k₀ => XS.iconst X152.here hx rfl (hb hby at_155) k₀) ?_
        show F T152 (mkF m 156 #[.val (.int p1), .val (.int b), .val (.int c), .val (.int p4), .val (.int p5), .val (.int p6), .val (.int sel), .val (.int q), .val (.int (2 : Int32)), .val (.int (1 : Int32)), .val (.ref b93), .unset] [(.int (-1 : Int32))])
        refine hst (fun t₀ k₀ => XS.istore X152.here hx rfl (hb hby at_156) rfl (l' := #[.val (.int p1), .val (.int b), .val (.int c), .val (.int p4), .val (.int p5), .val (.int p6), .val (.int sel), .val (.int q), .val (.int (2 : Int32)), .val (.int (1 : Int32)), .val (.ref b93), .val (.int (-1 : Int32))]) rfl k₀) ?_
        show F T152 (mkF m 158 #[.val (.int p1), .val (.int b), .val (.int c), .val (.int p4), .val (.int p5), .val (.int p6), .val (.int sel), .val (.int q), .val (.int (2 : Int32)), .val (.int (1 : Int32)), .val (.ref b93), .val (.int (-1 : Int32))] [])
        refine hst (fun t₀ k₀ => XS.iload X152.here hx rfl (hb hby at_158) rfl k₀) ?_
        show F T152 (mkF m 160 #[.val (.int p1), .val (.int b), .val (.int c), .val (.int p4), .val (.int p5), .val (.int p6), .val (.int sel), .val (.int q), .val (.int (2 : Int32)), .val (.int (1 : Int32)), .val (.ref b93), .val (.int (-1 : Int32))] [(.int (2 : Int32))])
        refine hst (fun t₀ k₀ => XS.iconst X152.here hx rfl (hb hby at_160) k₀) ?_
        show F T152 (mkF m 161 #[.val (.int p1), .val (.int b), .val (.int c), .val (.int p4), .val (.int p5), .val (.int p6), .val (.int sel), .val (.int q), .val (.int (2 : Int32)), .val (.int (1 : Int32)), .val (.ref b93), .val (.int (-1 : Int32))] [(.int (3 : Int32)), (.int (2 : Int32))])
        refine hst (fun t₀ k₀ => XS.icmpYes X152.here hx rfl (pc0 := 161) (pc' := 176) rfl (hb hby at_161) rfl (tlt (by decide)).1 (by decide) (by decide) k₀) ?_
        show F T152 (mkF m 176 #[.val (.int p1), .val (.int b), .val (.int c), .val (.int p4), .val (.int p5), .val (.int p6), .val (.int sel), .val (.int q), .val (.int (2 : Int32)), .val (.int (1 : Int32)), .val (.ref b93), .val (.int (-1 : Int32))] [])
        refine hst (fun t₀ k₀ => XS.iload X152.here hx rfl (hb hby at_176) rfl k₀) ?_
        show F T152 (mkF m 178 #[.val (.int p1), .val (.int b), .val (.int c), .val (.int p4), .val (.int p5), .val (.int p6), .val (.int sel), .val (.int q), .val (.int (2 : Int32)), .val (.int (1 : Int32)), .val (.ref b93), .val (.int (-1 : Int32))] [(.int (2 : Int32))])
        refine hst (fun t₀ k₀ => XS.iconst X152.here hx rfl (hb hby at_178) k₀) ?_
        show F T152 (mkF m 179 #[.val (.int p1), .val (.int b), .val (.int c), .val (.int p4), .val (.int p5), .val (.int p6), .val (.int sel), .val (.int q), .val (.int (2 : Int32)), .val (.int (1 : Int32)), .val (.ref b93), .val (.int (-1 : Int32))] [(.int (2 : Int32)), (.int (2 : Int32))])
        refine hst (fun t₀ k₀ => XS.icmpNo X152.here hx rfl (hb hby at_179) rfl (flt (by decide)).1 k₀) ?_
        show F T152 (mkF m 182 #[.val (.int p1), .val (.int b), .val (.int c), .val (.int p4), .val (.int p5), .val (.int p6), .val (.int sel), .val (.int q), .val (.int (2 : Int32)), .val (.int (1 : Int32)), .val (.ref b93), .val (.int (-1 : Int32))] [])
        refine hst (fun t₀ k₀ => XS.iloadN X152.here hx rfl (hb hby at_182) rfl k₀) ?_
        show F T152 (mkF m 183 #[.val (.int p1), .val (.int b), .val (.int c), .val (.int p4), .val (.int p5), .val (.int p6), .val (.int sel), .val (.int q), .val (.int (2 : Int32)), .val (.int (1 : Int32)), .val (.ref b93), .val (.int (-1 : Int32))] [(.int b)])
        refine hst (fun t₀ k₀ => XS.iload X152.here hx rfl (hb hby at_183) rfl k₀) ?_
        show F T152 (mkF m 185 #[.val (.int p1), .val (.int b), .val (.int c), .val (.int p4), .val (.int p5), .val (.int p6), .val (.int sel), .val (.int q), .val (.int (2 : Int32)), .val (.int (1 : Int32)), .val (.ref b93), .val (.int (-1 : Int32))] [(.int q), (.int b)])
        by_cases hc185 : b = q
        · -- pc 185: not taken
          refine hst (fun t₀ k₀ => XS.icmpNo X152.here hx rfl (hb hby at_185) rfl (teq hc185).2 k₀) ?_
          show F T152 (mkF m 188 #[.val (.int p1), .val (.int b), .val (.int c), .val (.int p4), .val (.int p5), .val (.int p6), .val (.int sel), .val (.int q), .val (.int (2 : Int32)), .val (.int (1 : Int32)), .val (.ref b93), .val (.int (-1 : Int32))] [])
          refine hst (fun t₀ k₀ => XS.iconst X152.here hx rfl (hb hby at_188) k₀) ?_
          show F T152 (mkF m 189 #[.val (.int p1), .val (.int b), .val (.int c), .val (.int p4), .val (.int p5), .val (.int p6), .val (.int sel), .val (.int q), .val (.int (2 : Int32)), .val (.int (1 : Int32)), .val (.ref b93), .val (.int (-1 : Int32))] [(.int (1 : Int32))])
          refine hst (fun t₀ k₀ => XS.istore X152.here hx rfl (hb hby at_189) rfl (l' := #[.val (.int p1), .val (.int b), .val (.int c), .val (.int p4), .val (.int p5), .val (.int p6), .val (.int sel), .val (.int q), .val (.int (2 : Int32)), .val (.int (1 : Int32)), .val (.ref b93), .val (.int (1 : Int32))]) rfl k₀) ?_
          show F T152 (mkF m 191 #[.val (.int p1), .val (.int b), .val (.int c), .val (.int p4), .val (.int p5), .val (.int p6), .val (.int sel), .val (.int q), .val (.int (2 : Int32)), .val (.int (1 : Int32)), .val (.ref b93), .val (.int (1 : Int32))] [])
          refine hst (fun t₀ k₀ => XS.goto X152.here hx rfl (pc0 := 191) (pc' := 209) rfl (hb hby at_191) (by decide) (by decide) k₀) ?_
          show F T152 (mkF m 209 #[.val (.int p1), .val (.int b), .val (.int c), .val (.int p4), .val (.int p5), .val (.int p6), .val (.int sel), .val (.int q), .val (.int (2 : Int32)), .val (.int (1 : Int32)), .val (.ref b93), .val (.int (1 : Int32))] [])
          refine hst (fun t₀ k₀ => XS.aload X152.here hx rfl (hb hby at_209) rfl rfl k₀) ?_
          show F T152 (mkF m 211 #[.val (.int p1), .val (.int b), .val (.int c), .val (.int p4), .val (.int p5), .val (.int p6), .val (.int sel), .val (.int q), .val (.int (2 : Int32)), .val (.int (1 : Int32)), .val (.ref b93), .val (.int (1 : Int32))] [(.ref b93)])
          refine hst (fun t₀ k₀ => XS.iload X152.here hx rfl (hb hby at_211) rfl k₀) ?_
          show F T152 (mkF m 213 #[.val (.int p1), .val (.int b), .val (.int c), .val (.int p4), .val (.int p5), .val (.int p6), .val (.int sel), .val (.int q), .val (.int (2 : Int32)), .val (.int (1 : Int32)), .val (.ref b93), .val (.int (1 : Int32))] [(.int q), (.ref b93)])
          obtain ⟨v213, T213, Lc213, X213, hQ213, st213⟩ := own_callV X152 hx hZ hown (y := (⟨"com/example/hoist/hoist/CreationPath", "lastIndexOf", "(I)I"⟩ : MethodName)) (hw _ (List.mem_of_getElem? (i := 12) rfl)) (hw _ (List.mem_of_getElem? (i := 13) rfl)) (hw _ (List.mem_of_getElem? (i := 15) rfl)) (hw _ (List.mem_of_getElem? (i := 14) rfl)) (hw _ (List.mem_of_getElem? (i := 2) rfl)) (hw _ (List.mem_of_getElem? (i := 16) rfl)) (by decide) rfl q1_97_p152 (rm3 l Z a0 hw [] b93 q t_97 cf2_152 ([p1, b] : List Int32) T152.heap n0 Z0_p152 q2_97_p152 q1_152 is2_152 (Nat.le_of_ble_eq_true rfl)) (by decide) (by decide) (g := (mkF m 213 #[.val (.int p1), .val (.int b), .val (.int c), .val (.int p4), .val (.int p5), .val (.int p6), .val (.int sel), .val (.int q), .val (.int (2 : Int32)), .val (.int (1 : Int32)), .val (.ref b93), .val (.int (1 : Int32))] [(.int q), (.ref b93)])) rfl (by rw [hml]; rfl) (argsL := [(.int q)]) (rest := []) (lenOf pd_1 rfl) rfl rfl (W := 0) (by show 2 * 0 + _ ≤ _; exact Nat.le_of_eq rfl) (hb hby at_213) (by decide) (by decide)
          obtain ⟨rfl, Nq213, he213⟩ := hQ213
          have N213 := Fr.app N152 Nq213
          refine hst st213 ?_
          show F T213 (mkF m 216 #[.val (.int p1), .val (.int b), .val (.int c), .val (.int p4), .val (.int p5), .val (.int p6), .val (.int sel), .val (.int q), .val (.int (2 : Int32)), .val (.int (1 : Int32)), .val (.ref b93), .val (.int (1 : Int32))] [(.int (own_lif ([p1, b] : List Int32) q ([p1, b] : List Int32).length))])
          refine hst (fun t₀ k₀ => XS.iload X213.here hx rfl (hb hby at_216) rfl k₀) ?_
          show F T213 (mkF m 218 #[.val (.int p1), .val (.int b), .val (.int c), .val (.int p4), .val (.int p5), .val (.int p6), .val (.int sel), .val (.int q), .val (.int (2 : Int32)), .val (.int (1 : Int32)), .val (.ref b93), .val (.int (1 : Int32))] [(.int (1 : Int32)), (.int (own_lif ([p1, b] : List Int32) q ([p1, b] : List Int32).length))])
          refine hst (fun t₀ k₀ => XS.icmpNo X213.here hx rfl (hb hby at_218) rfl (teq (by simp [own_lif, hc185])).2 k₀) ?_
          show F T213 (mkF m 221 #[.val (.int p1), .val (.int b), .val (.int c), .val (.int p4), .val (.int p5), .val (.int p6), .val (.int sel), .val (.int q), .val (.int (2 : Int32)), .val (.int (1 : Int32)), .val (.ref b93), .val (.int (1 : Int32))] [])
          refine hst (fun t₀ k₀ => XS.iconst X213.here hx rfl (hb hby at_221) k₀) ?_
          show F T213 (mkF m 222 #[.val (.int p1), .val (.int b), .val (.int c), .val (.int p4), .val (.int p5), .val (.int p6), .val (.int sel), .val (.int q), .val (.int (2 : Int32)), .val (.int (1 : Int32)), .val (.ref b93), .val (.int (1 : Int32))] [(.int (1 : Int32))])
          refine hst (fun t₀ k₀ => XS.goto X213.here hx rfl (pc0 := 222) (pc' := 226) rfl (hb hby at_222) (by decide) (by decide) k₀) ?_
          show F T213 (mkF m 226 #[.val (.int p1), .val (.int b), .val (.int c), .val (.int p4), .val (.int p5), .val (.int p6), .val (.int sel), .val (.int q), .val (.int (2 : Int32)), .val (.int (1 : Int32)), .val (.ref b93), .val (.int (1 : Int32))] [(.int (1 : Int32))])
          rw [hF]
          refine own_retN X213 hx hret (by simp) hlk (hb hby at_226) (by decide) (by decide) ?_
          rw [he213]
          exact ⟨rfl, N213⟩
        · -- pc 185: taken
          refine hst (fun t₀ k₀ => XS.icmpYes X152.here hx rfl (pc0 := 185) (pc' := 194) rfl (hb hby at_185) rfl (feq hc185).2 (by decide) (by decide) k₀) ?_
          show F T152 (mkF m 194 #[.val (.int p1), .val (.int b), .val (.int c), .val (.int p4), .val (.int p5), .val (.int p6), .val (.int sel), .val (.int q), .val (.int (2 : Int32)), .val (.int (1 : Int32)), .val (.ref b93), .val (.int (-1 : Int32))] [])
          refine hst (fun t₀ k₀ => XS.iload X152.here hx rfl (hb hby at_194) rfl k₀) ?_
          show F T152 (mkF m 196 #[.val (.int p1), .val (.int b), .val (.int c), .val (.int p4), .val (.int p5), .val (.int p6), .val (.int sel), .val (.int q), .val (.int (2 : Int32)), .val (.int (1 : Int32)), .val (.ref b93), .val (.int (-1 : Int32))] [(.int (2 : Int32))])
          refine hst (fun t₀ k₀ => XS.iconst X152.here hx rfl (hb hby at_196) k₀) ?_
          show F T152 (mkF m 197 #[.val (.int p1), .val (.int b), .val (.int c), .val (.int p4), .val (.int p5), .val (.int p6), .val (.int sel), .val (.int q), .val (.int (2 : Int32)), .val (.int (1 : Int32)), .val (.ref b93), .val (.int (-1 : Int32))] [(.int (1 : Int32)), (.int (2 : Int32))])
          refine hst (fun t₀ k₀ => XS.icmpNo X152.here hx rfl (hb hby at_197) rfl (flt (by decide)).1 k₀) ?_
          show F T152 (mkF m 200 #[.val (.int p1), .val (.int b), .val (.int c), .val (.int p4), .val (.int p5), .val (.int p6), .val (.int sel), .val (.int q), .val (.int (2 : Int32)), .val (.int (1 : Int32)), .val (.ref b93), .val (.int (-1 : Int32))] [])
          refine hst (fun t₀ k₀ => XS.iloadN X152.here hx rfl (hb hby at_200) rfl k₀) ?_
          show F T152 (mkF m 201 #[.val (.int p1), .val (.int b), .val (.int c), .val (.int p4), .val (.int p5), .val (.int p6), .val (.int sel), .val (.int q), .val (.int (2 : Int32)), .val (.int (1 : Int32)), .val (.ref b93), .val (.int (-1 : Int32))] [(.int p1)])
          refine hst (fun t₀ k₀ => XS.iload X152.here hx rfl (hb hby at_201) rfl k₀) ?_
          show F T152 (mkF m 203 #[.val (.int p1), .val (.int b), .val (.int c), .val (.int p4), .val (.int p5), .val (.int p6), .val (.int sel), .val (.int q), .val (.int (2 : Int32)), .val (.int (1 : Int32)), .val (.ref b93), .val (.int (-1 : Int32))] [(.int q), (.int p1)])
          by_cases hc203 : p1 = q
          · -- pc 203: not taken
            refine hst (fun t₀ k₀ => XS.icmpNo X152.here hx rfl (hb hby at_203) rfl (teq hc203).2 k₀) ?_
            show F T152 (mkF m 206 #[.val (.int p1), .val (.int b), .val (.int c), .val (.int p4), .val (.int p5), .val (.int p6), .val (.int sel), .val (.int q), .val (.int (2 : Int32)), .val (.int (1 : Int32)), .val (.ref b93), .val (.int (-1 : Int32))] [])
            refine hst (fun t₀ k₀ => XS.iconst X152.here hx rfl (hb hby at_206) k₀) ?_
            show F T152 (mkF m 207 #[.val (.int p1), .val (.int b), .val (.int c), .val (.int p4), .val (.int p5), .val (.int p6), .val (.int sel), .val (.int q), .val (.int (2 : Int32)), .val (.int (1 : Int32)), .val (.ref b93), .val (.int (-1 : Int32))] [(.int (0 : Int32))])
            refine hst (fun t₀ k₀ => XS.istore X152.here hx rfl (hb hby at_207) rfl (l' := #[.val (.int p1), .val (.int b), .val (.int c), .val (.int p4), .val (.int p5), .val (.int p6), .val (.int sel), .val (.int q), .val (.int (2 : Int32)), .val (.int (1 : Int32)), .val (.ref b93), .val (.int (0 : Int32))]) rfl k₀) ?_
            show F T152 (mkF m 209 #[.val (.int p1), .val (.int b), .val (.int c), .val (.int p4), .val (.int p5), .val (.int p6), .val (.int sel), .val (.int q), .val (.int (2 : Int32)), .val (.int (1 : Int32)), .val (.ref b93), .val (.int (0 : Int32))] [])
            refine hst (fun t₀ k₀ => XS.aload X152.here hx rfl (hb hby at_209) rfl rfl k₀) ?_
            show F T152 (mkF m 211 #[.val (.int p1), .val (.int b), .val (.int c), .val (.int p4), .val (.int p5), .val (.int p6), .val (.int sel), .val (.int q), .val (.int (2 : Int32)), .val (.int (1 : Int32)), .val (.ref b93), .val (.int (0 : Int32))] [(.ref b93)])
            refine hst (fun t₀ k₀ => XS.iload X152.here hx rfl (hb hby at_211) rfl k₀) ?_
            show F T152 (mkF m 213 #[.val (.int p1), .val (.int b), .val (.int c), .val (.int p4), .val (.int p5), .val (.int p6), .val (.int sel), .val (.int q), .val (.int (2 : Int32)), .val (.int (1 : Int32)), .val (.ref b93), .val (.int (0 : Int32))] [(.int q), (.ref b93)])
            obtain ⟨v213, T213, Lc213, X213, hQ213, st213⟩ := own_callV X152 hx hZ hown (y := (⟨"com/example/hoist/hoist/CreationPath", "lastIndexOf", "(I)I"⟩ : MethodName)) (hw _ (List.mem_of_getElem? (i := 12) rfl)) (hw _ (List.mem_of_getElem? (i := 13) rfl)) (hw _ (List.mem_of_getElem? (i := 15) rfl)) (hw _ (List.mem_of_getElem? (i := 14) rfl)) (hw _ (List.mem_of_getElem? (i := 2) rfl)) (hw _ (List.mem_of_getElem? (i := 16) rfl)) (by decide) rfl q1_97_p152 (rm3 l Z a0 hw [] b93 q t_97 cf2_152 ([p1, b] : List Int32) T152.heap n0 Z0_p152 q2_97_p152 q1_152 is2_152 (Nat.le_of_ble_eq_true rfl)) (by decide) (by decide) (g := (mkF m 213 #[.val (.int p1), .val (.int b), .val (.int c), .val (.int p4), .val (.int p5), .val (.int p6), .val (.int sel), .val (.int q), .val (.int (2 : Int32)), .val (.int (1 : Int32)), .val (.ref b93), .val (.int (0 : Int32))] [(.int q), (.ref b93)])) rfl (by rw [hml]; rfl) (argsL := [(.int q)]) (rest := []) (lenOf pd_1 rfl) rfl rfl (W := 0) (by show 2 * 0 + _ ≤ _; exact Nat.le_of_eq rfl) (hb hby at_213) (by decide) (by decide)
            obtain ⟨rfl, Nq213, he213⟩ := hQ213
            have N213 := Fr.app N152 Nq213
            refine hst st213 ?_
            show F T213 (mkF m 216 #[.val (.int p1), .val (.int b), .val (.int c), .val (.int p4), .val (.int p5), .val (.int p6), .val (.int sel), .val (.int q), .val (.int (2 : Int32)), .val (.int (1 : Int32)), .val (.ref b93), .val (.int (0 : Int32))] [(.int (own_lif ([p1, b] : List Int32) q ([p1, b] : List Int32).length))])
            refine hst (fun t₀ k₀ => XS.iload X213.here hx rfl (hb hby at_216) rfl k₀) ?_
            show F T213 (mkF m 218 #[.val (.int p1), .val (.int b), .val (.int c), .val (.int p4), .val (.int p5), .val (.int p6), .val (.int sel), .val (.int q), .val (.int (2 : Int32)), .val (.int (1 : Int32)), .val (.ref b93), .val (.int (0 : Int32))] [(.int (0 : Int32)), (.int (own_lif ([p1, b] : List Int32) q ([p1, b] : List Int32).length))])
            refine hst (fun t₀ k₀ => XS.icmpNo X213.here hx rfl (hb hby at_218) rfl (teq (by simp [own_lif, hc185, hc203])).2 k₀) ?_
            show F T213 (mkF m 221 #[.val (.int p1), .val (.int b), .val (.int c), .val (.int p4), .val (.int p5), .val (.int p6), .val (.int sel), .val (.int q), .val (.int (2 : Int32)), .val (.int (1 : Int32)), .val (.ref b93), .val (.int (0 : Int32))] [])
            refine hst (fun t₀ k₀ => XS.iconst X213.here hx rfl (hb hby at_221) k₀) ?_
            show F T213 (mkF m 222 #[.val (.int p1), .val (.int b), .val (.int c), .val (.int p4), .val (.int p5), .val (.int p6), .val (.int sel), .val (.int q), .val (.int (2 : Int32)), .val (.int (1 : Int32)), .val (.ref b93), .val (.int (0 : Int32))] [(.int (1 : Int32))])
            refine hst (fun t₀ k₀ => XS.goto X213.here hx rfl (pc0 := 222) (pc' := 226) rfl (hb hby at_222) (by decide) (by decide) k₀) ?_
            show F T213 (mkF m 226 #[.val (.int p1), .val (.int b), .val (.int c), .val (.int p4), .val (.int p5), .val (.int p6), .val (.int sel), .val (.int q), .val (.int (2 : Int32)), .val (.int (1 : Int32)), .val (.ref b93), .val (.int (0 : Int32))] [(.int (1 : Int32))])
            rw [hF]
            refine own_retN X213 hx hret (by simp) hlk (hb hby at_226) (by decide) (by decide) ?_
            rw [he213]
            exact ⟨rfl, N213⟩
          · -- pc 203: taken
            refine hst (fun t₀ k₀ => XS.icmpYes X152.here hx rfl (pc0 := 203) (pc' := 209) rfl (hb hby at_203) rfl (feq hc203).2 (by decide) (by decide) k₀) ?_
            show F T152 (mkF m 209 #[.val (.int p1), .val (.int b), .val (.int c), .val (.int p4), .val (.int p5), .val (.int p6), .val (.int sel), .val (.int q), .val (.int (2 : Int32)), .val (.int (1 : Int32)), .val (.ref b93), .val (.int (-1 : Int32))] [])
            refine hst (fun t₀ k₀ => XS.aload X152.here hx rfl (hb hby at_209) rfl rfl k₀) ?_
            show F T152 (mkF m 211 #[.val (.int p1), .val (.int b), .val (.int c), .val (.int p4), .val (.int p5), .val (.int p6), .val (.int sel), .val (.int q), .val (.int (2 : Int32)), .val (.int (1 : Int32)), .val (.ref b93), .val (.int (-1 : Int32))] [(.ref b93)])
            refine hst (fun t₀ k₀ => XS.iload X152.here hx rfl (hb hby at_211) rfl k₀) ?_
            show F T152 (mkF m 213 #[.val (.int p1), .val (.int b), .val (.int c), .val (.int p4), .val (.int p5), .val (.int p6), .val (.int sel), .val (.int q), .val (.int (2 : Int32)), .val (.int (1 : Int32)), .val (.ref b93), .val (.int (-1 : Int32))] [(.int q), (.ref b93)])
            obtain ⟨v213, T213, Lc213, X213, hQ213, st213⟩ := own_callV X152 hx hZ hown (y := (⟨"com/example/hoist/hoist/CreationPath", "lastIndexOf", "(I)I"⟩ : MethodName)) (hw _ (List.mem_of_getElem? (i := 12) rfl)) (hw _ (List.mem_of_getElem? (i := 13) rfl)) (hw _ (List.mem_of_getElem? (i := 15) rfl)) (hw _ (List.mem_of_getElem? (i := 14) rfl)) (hw _ (List.mem_of_getElem? (i := 2) rfl)) (hw _ (List.mem_of_getElem? (i := 16) rfl)) (by decide) rfl q1_97_p152 (rm3 l Z a0 hw [] b93 q t_97 cf2_152 ([p1, b] : List Int32) T152.heap n0 Z0_p152 q2_97_p152 q1_152 is2_152 (Nat.le_of_ble_eq_true rfl)) (by decide) (by decide) (g := (mkF m 213 #[.val (.int p1), .val (.int b), .val (.int c), .val (.int p4), .val (.int p5), .val (.int p6), .val (.int sel), .val (.int q), .val (.int (2 : Int32)), .val (.int (1 : Int32)), .val (.ref b93), .val (.int (-1 : Int32))] [(.int q), (.ref b93)])) rfl (by rw [hml]; rfl) (argsL := [(.int q)]) (rest := []) (lenOf pd_1 rfl) rfl rfl (W := 0) (by show 2 * 0 + _ ≤ _; exact Nat.le_of_eq rfl) (hb hby at_213) (by decide) (by decide)
            obtain ⟨rfl, Nq213, he213⟩ := hQ213
            have N213 := Fr.app N152 Nq213
            refine hst st213 ?_
            show F T213 (mkF m 216 #[.val (.int p1), .val (.int b), .val (.int c), .val (.int p4), .val (.int p5), .val (.int p6), .val (.int sel), .val (.int q), .val (.int (2 : Int32)), .val (.int (1 : Int32)), .val (.ref b93), .val (.int (-1 : Int32))] [(.int (own_lif ([p1, b] : List Int32) q ([p1, b] : List Int32).length))])
            refine hst (fun t₀ k₀ => XS.iload X213.here hx rfl (hb hby at_216) rfl k₀) ?_
            show F T213 (mkF m 218 #[.val (.int p1), .val (.int b), .val (.int c), .val (.int p4), .val (.int p5), .val (.int p6), .val (.int sel), .val (.int q), .val (.int (2 : Int32)), .val (.int (1 : Int32)), .val (.ref b93), .val (.int (-1 : Int32))] [(.int (-1 : Int32)), (.int (own_lif ([p1, b] : List Int32) q ([p1, b] : List Int32).length))])
            refine hst (fun t₀ k₀ => XS.icmpNo X213.here hx rfl (hb hby at_218) rfl (teq (by simp [own_lif, hc185, hc203])).2 k₀) ?_
            show F T213 (mkF m 221 #[.val (.int p1), .val (.int b), .val (.int c), .val (.int p4), .val (.int p5), .val (.int p6), .val (.int sel), .val (.int q), .val (.int (2 : Int32)), .val (.int (1 : Int32)), .val (.ref b93), .val (.int (-1 : Int32))] [])
            refine hst (fun t₀ k₀ => XS.iconst X213.here hx rfl (hb hby at_221) k₀) ?_
            show F T213 (mkF m 222 #[.val (.int p1), .val (.int b), .val (.int c), .val (.int p4), .val (.int p5), .val (.int p6), .val (.int sel), .val (.int q), .val (.int (2 : Int32)), .val (.int (1 : Int32)), .val (.ref b93), .val (.int (-1 : Int32))] [(.int (1 : Int32))])
            refine hst (fun t₀ k₀ => XS.goto X213.here hx rfl (pc0 := 222) (pc' := 226) rfl (hb hby at_222) (by decide) (by decide) k₀) ?_
            show F T213 (mkF m 226 #[.val (.int p1), .val (.int b), .val (.int c), .val (.int p4), .val (.int p5), .val (.int p6), .val (.int sel), .val (.int q), .val (.int (2 : Int32)), .val (.int (1 : Int32)), .val (.ref b93), .val (.int (-1 : Int32))] [(.int (1 : Int32))])
            rw [hF]
            refine own_retN X213 hx hret (by simp) hlk (hb hby at_226) (by decide) (by decide) ?_
            rw [he213]
            exact ⟨rfl, N213⟩
      · -- (3 : Int32)
        show F T97 (mkF m 102 #[.val (.int p1), .val (.int b), .val (.int c), .val (.int p4), .val (.int p5), .val (.int p6), .val (.int sel), .val (.int q), .val (.int (3 : Int32)), .val (.int (1 : Int32)), .val (.ref b93), .unset] [])
        refine hst (fun t₀ k₀ => XS.iload X97.here hx rfl (hb hby at_102) rfl k₀) ?_
        show F T97 (mkF m 104 #[.val (.int p1), .val (.int b), .val (.int c), .val (.int p4), .val (.int p5), .val (.int p6), .val (.int sel), .val (.int q), .val (.int (3 : Int32)), .val (.int (1 : Int32)), .val (.ref b93), .unset] [(.int (3 : Int32))])
        refine hst (fun t₀ k₀ => XS.iconst X97.here hx rfl (hb hby at_104) k₀) ?_
        show F T97 (mkF m 105 #[.val (.int p1), .val (.int b), .val (.int c), .val (.int p4), .val (.int p5), .val (.int p6), .val (.int sel), .val (.int q), .val (.int (3 : Int32)), .val (.int (1 : Int32)), .val (.ref b93), .unset] [(.int (1 : Int32)), (.int (3 : Int32))])
        refine hst (fun t₀ k₀ => XS.icmpNo X97.here hx rfl (hb hby at_105) rfl (flt (by decide)).1 k₀) ?_
        show F T97 (mkF m 108 #[.val (.int p1), .val (.int b), .val (.int c), .val (.int p4), .val (.int p5), .val (.int p6), .val (.int sel), .val (.int q), .val (.int (3 : Int32)), .val (.int (1 : Int32)), .val (.ref b93), .unset] [])
        refine hst (fun t₀ k₀ => XS.aload X97.here hx rfl (hb hby at_108) rfl rfl k₀) ?_
        show F T97 (mkF m 110 #[.val (.int p1), .val (.int b), .val (.int c), .val (.int p4), .val (.int p5), .val (.int p6), .val (.int sel), .val (.int q), .val (.int (3 : Int32)), .val (.int (1 : Int32)), .val (.ref b93), .unset] [(.ref b93)])
        refine hst (fun t₀ k₀ => XS.iloadN X97.here hx rfl (hb hby at_110) rfl k₀) ?_
        show F T97 (mkF m 111 #[.val (.int p1), .val (.int b), .val (.int c), .val (.int p4), .val (.int p5), .val (.int p6), .val (.int sel), .val (.int q), .val (.int (3 : Int32)), .val (.int (1 : Int32)), .val (.ref b93), .unset] [(.int p1), (.ref b93)])
        obtain ⟨v111, T111, Lc111, X111, hQ111, st111⟩ := own_callV X97 hx hZ hown (y := (⟨"com/example/hoist/hoist/CreationPath", "enter", "(I)V"⟩ : MethodName)) (hw _ (List.mem_of_getElem? (i := 17) rfl)) (hw _ (List.mem_of_getElem? (i := 18) rfl)) (hw _ (List.mem_of_getElem? (i := 20) rfl)) (hw _ (List.mem_of_getElem? (i := 19) rfl)) (hw _ (List.mem_of_getElem? (i := 2) rfl)) (hw _ (List.mem_of_getElem? (i := 21) rfl)) (by decide) rfl q1_97 (rm4 l Z a0 hw [] b93 p1 t_97 (fun _ => (0 : Int32)) ([] : List Int32) T97.heap n0 Z0_p97 q2_97 q3_97 ge_t_97 is_97 (Nat.le_of_ble_eq_true rfl) ne_b93_t_97) (by decide) (by decide) (g := (mkF m 111 #[.val (.int p1), .val (.int b), .val (.int c), .val (.int p4), .val (.int p5), .val (.int p6), .val (.int sel), .val (.int q), .val (.int (3 : Int32)), .val (.int (1 : Int32)), .val (.ref b93), .unset] [(.int p1), (.ref b93)])) rfl (by rw [hml]; rfl) (argsL := [(.int p1)]) (rest := []) (lenOf pd_2 rfl) rfl rfl (W := 0) (by show 2 * 0 + _ ≤ _; exact Nat.le_of_eq rfl) (hb hby at_111) (by decide) (by decide)
        obtain ⟨cf2_111, rfl, Nq111, K111, q1_111, is2_111⟩ := hQ111
        have N111 := Fr.app N97 Nq111
        have q1_97_p111 : Exa Z T111.heap b93 "com/example/hoist/hoist/CreationPath" := q1_97.keep K111
        have q2_97_p111 : Fld Z T111.heap b93 "com/example/hoist/hoist/CreationPath" "slots" "[I" (.ref t_97) := q2_97.keep K111 (by simp only [List.mem_cons, List.not_mem_nil, or_false, not_or]; exact ne_b93_t_97)
        have Z0_p111 : n0 ≤ T111.heap.size := Nat.le_trans Z0_p97 K111.1
        refine hst st111 ?_
        show F T111 (mkF m 114 #[.val (.int p1), .val (.int b), .val (.int c), .val (.int p4), .val (.int p5), .val (.int p6), .val (.int sel), .val (.int q), .val (.int (3 : Int32)), .val (.int (1 : Int32)), .val (.ref b93), .unset] [])
        refine hst (fun t₀ k₀ => XS.iload X111.here hx rfl (hb hby at_114) rfl k₀) ?_
        show F T111 (mkF m 116 #[.val (.int p1), .val (.int b), .val (.int c), .val (.int p4), .val (.int p5), .val (.int p6), .val (.int sel), .val (.int q), .val (.int (3 : Int32)), .val (.int (1 : Int32)), .val (.ref b93), .unset] [(.int (3 : Int32))])
        refine hst (fun t₀ k₀ => XS.iconst X111.here hx rfl (hb hby at_116) k₀) ?_
        show F T111 (mkF m 117 #[.val (.int p1), .val (.int b), .val (.int c), .val (.int p4), .val (.int p5), .val (.int p6), .val (.int sel), .val (.int q), .val (.int (3 : Int32)), .val (.int (1 : Int32)), .val (.ref b93), .unset] [(.int (2 : Int32)), (.int (3 : Int32))])
        refine hst (fun t₀ k₀ => XS.icmpNo X111.here hx rfl (hb hby at_117) rfl (flt (by decide)).1 k₀) ?_
        show F T111 (mkF m 120 #[.val (.int p1), .val (.int b), .val (.int c), .val (.int p4), .val (.int p5), .val (.int p6), .val (.int sel), .val (.int q), .val (.int (3 : Int32)), .val (.int (1 : Int32)), .val (.ref b93), .unset] [])
        refine hst (fun t₀ k₀ => XS.aload X111.here hx rfl (hb hby at_120) rfl rfl k₀) ?_
        show F T111 (mkF m 122 #[.val (.int p1), .val (.int b), .val (.int c), .val (.int p4), .val (.int p5), .val (.int p6), .val (.int sel), .val (.int q), .val (.int (3 : Int32)), .val (.int (1 : Int32)), .val (.ref b93), .unset] [(.ref b93)])
        refine hst (fun t₀ k₀ => XS.iloadN X111.here hx rfl (hb hby at_122) rfl k₀) ?_
        show F T111 (mkF m 123 #[.val (.int p1), .val (.int b), .val (.int c), .val (.int p4), .val (.int p5), .val (.int p6), .val (.int sel), .val (.int q), .val (.int (3 : Int32)), .val (.int (1 : Int32)), .val (.ref b93), .unset] [(.int b), (.ref b93)])
        obtain ⟨v123, T123, Lc123, X123, hQ123, st123⟩ := own_callV X111 hx hZ hown (y := (⟨"com/example/hoist/hoist/CreationPath", "enter", "(I)V"⟩ : MethodName)) (hw _ (List.mem_of_getElem? (i := 17) rfl)) (hw _ (List.mem_of_getElem? (i := 18) rfl)) (hw _ (List.mem_of_getElem? (i := 20) rfl)) (hw _ (List.mem_of_getElem? (i := 19) rfl)) (hw _ (List.mem_of_getElem? (i := 2) rfl)) (hw _ (List.mem_of_getElem? (i := 21) rfl)) (by decide) rfl q1_97_p111 (rm4 l Z a0 hw [] b93 b t_97 cf2_111 ([p1] : List Int32) T111.heap n0 Z0_p111 q2_97_p111 q1_111 ge_t_97 is2_111 (Nat.le_of_ble_eq_true rfl) ne_b93_t_97) (by decide) (by decide) (g := (mkF m 123 #[.val (.int p1), .val (.int b), .val (.int c), .val (.int p4), .val (.int p5), .val (.int p6), .val (.int sel), .val (.int q), .val (.int (3 : Int32)), .val (.int (1 : Int32)), .val (.ref b93), .unset] [(.int b), (.ref b93)])) rfl (by rw [hml]; rfl) (argsL := [(.int b)]) (rest := []) (lenOf pd_2 rfl) rfl rfl (W := 0) (by show 2 * 0 + _ ≤ _; exact Nat.le_of_eq rfl) (hb hby at_123) (by decide) (by decide)
        obtain ⟨cf2_123, rfl, Nq123, K123, q1_123, is2_123⟩ := hQ123
        have N123 := Fr.app N111 Nq123
        have q1_97_p123 : Exa Z T123.heap b93 "com/example/hoist/hoist/CreationPath" := q1_97_p111.keep K123
        have q2_97_p123 : Fld Z T123.heap b93 "com/example/hoist/hoist/CreationPath" "slots" "[I" (.ref t_97) := q2_97_p111.keep K123 (by simp only [List.mem_cons, List.not_mem_nil, or_false, not_or]; exact ne_b93_t_97)
        have Z0_p123 : n0 ≤ T123.heap.size := Nat.le_trans Z0_p111 K123.1
        refine hst st123 ?_
        show F T123 (mkF m 126 #[.val (.int p1), .val (.int b), .val (.int c), .val (.int p4), .val (.int p5), .val (.int p6), .val (.int sel), .val (.int q), .val (.int (3 : Int32)), .val (.int (1 : Int32)), .val (.ref b93), .unset] [])
        refine hst (fun t₀ k₀ => XS.iload X123.here hx rfl (hb hby at_126) rfl k₀) ?_
        show F T123 (mkF m 128 #[.val (.int p1), .val (.int b), .val (.int c), .val (.int p4), .val (.int p5), .val (.int p6), .val (.int sel), .val (.int q), .val (.int (3 : Int32)), .val (.int (1 : Int32)), .val (.ref b93), .unset] [(.int (3 : Int32))])
        refine hst (fun t₀ k₀ => XS.iconst X123.here hx rfl (hb hby at_128) k₀) ?_
        show F T123 (mkF m 129 #[.val (.int p1), .val (.int b), .val (.int c), .val (.int p4), .val (.int p5), .val (.int p6), .val (.int sel), .val (.int q), .val (.int (3 : Int32)), .val (.int (1 : Int32)), .val (.ref b93), .unset] [(.int (3 : Int32)), (.int (3 : Int32))])
        refine hst (fun t₀ k₀ => XS.icmpNo X123.here hx rfl (hb hby at_129) rfl (flt (by decide)).1 k₀) ?_
        show F T123 (mkF m 132 #[.val (.int p1), .val (.int b), .val (.int c), .val (.int p4), .val (.int p5), .val (.int p6), .val (.int sel), .val (.int q), .val (.int (3 : Int32)), .val (.int (1 : Int32)), .val (.ref b93), .unset] [])
        refine hst (fun t₀ k₀ => XS.aload X123.here hx rfl (hb hby at_132) rfl rfl k₀) ?_
        show F T123 (mkF m 134 #[.val (.int p1), .val (.int b), .val (.int c), .val (.int p4), .val (.int p5), .val (.int p6), .val (.int sel), .val (.int q), .val (.int (3 : Int32)), .val (.int (1 : Int32)), .val (.ref b93), .unset] [(.ref b93)])
        refine hst (fun t₀ k₀ => XS.iloadN X123.here hx rfl (hb hby at_134) rfl k₀) ?_
        show F T123 (mkF m 135 #[.val (.int p1), .val (.int b), .val (.int c), .val (.int p4), .val (.int p5), .val (.int p6), .val (.int sel), .val (.int q), .val (.int (3 : Int32)), .val (.int (1 : Int32)), .val (.ref b93), .unset] [(.int c), (.ref b93)])
        obtain ⟨v135, T135, Lc135, X135, hQ135, st135⟩ := own_callV X123 hx hZ hown (y := (⟨"com/example/hoist/hoist/CreationPath", "enter", "(I)V"⟩ : MethodName)) (hw _ (List.mem_of_getElem? (i := 17) rfl)) (hw _ (List.mem_of_getElem? (i := 18) rfl)) (hw _ (List.mem_of_getElem? (i := 20) rfl)) (hw _ (List.mem_of_getElem? (i := 19) rfl)) (hw _ (List.mem_of_getElem? (i := 2) rfl)) (hw _ (List.mem_of_getElem? (i := 21) rfl)) (by decide) rfl q1_97_p123 (rm4 l Z a0 hw [] b93 c t_97 cf2_123 ([p1, b] : List Int32) T123.heap n0 Z0_p123 q2_97_p123 q1_123 ge_t_97 is2_123 (Nat.le_of_ble_eq_true rfl) ne_b93_t_97) (by decide) (by decide) (g := (mkF m 135 #[.val (.int p1), .val (.int b), .val (.int c), .val (.int p4), .val (.int p5), .val (.int p6), .val (.int sel), .val (.int q), .val (.int (3 : Int32)), .val (.int (1 : Int32)), .val (.ref b93), .unset] [(.int c), (.ref b93)])) rfl (by rw [hml]; rfl) (argsL := [(.int c)]) (rest := []) (lenOf pd_2 rfl) rfl rfl (W := 0) (by show 2 * 0 + _ ≤ _; exact Nat.le_of_eq rfl) (hb hby at_135) (by decide) (by decide)
        obtain ⟨cf2_135, rfl, Nq135, K135, q1_135, is2_135⟩ := hQ135
        have N135 := Fr.app N123 Nq135
        have q1_97_p135 : Exa Z T135.heap b93 "com/example/hoist/hoist/CreationPath" := q1_97_p123.keep K135
        have q2_97_p135 : Fld Z T135.heap b93 "com/example/hoist/hoist/CreationPath" "slots" "[I" (.ref t_97) := q2_97_p123.keep K135 (by simp only [List.mem_cons, List.not_mem_nil, or_false, not_or]; exact ne_b93_t_97)
        have Z0_p135 : n0 ≤ T135.heap.size := Nat.le_trans Z0_p123 K135.1
        refine hst st135 ?_
        show F T135 (mkF m 138 #[.val (.int p1), .val (.int b), .val (.int c), .val (.int p4), .val (.int p5), .val (.int p6), .val (.int sel), .val (.int q), .val (.int (3 : Int32)), .val (.int (1 : Int32)), .val (.ref b93), .unset] [])
        refine hst (fun t₀ k₀ => XS.iload X135.here hx rfl (hb hby at_138) rfl k₀) ?_
        show F T135 (mkF m 140 #[.val (.int p1), .val (.int b), .val (.int c), .val (.int p4), .val (.int p5), .val (.int p6), .val (.int sel), .val (.int q), .val (.int (3 : Int32)), .val (.int (1 : Int32)), .val (.ref b93), .unset] [(.int (1 : Int32))])
        refine hst (fun t₀ k₀ => XS.ifNo X135.here hx rfl (hb hby at_140) rfl ((if0 _ _).trans (feq (by decide)).1) k₀) ?_
        show F T135 (mkF m 143 #[.val (.int p1), .val (.int b), .val (.int c), .val (.int p4), .val (.int p5), .val (.int p6), .val (.int sel), .val (.int q), .val (.int (3 : Int32)), .val (.int (1 : Int32)), .val (.ref b93), .unset] [])
        refine hst (fun t₀ k₀ => XS.aload X135.here hx rfl (hb hby at_143) rfl rfl k₀) ?_
        show F T135 (mkF m 145 #[.val (.int p1), .val (.int b), .val (.int c), .val (.int p4), .val (.int p5), .val (.int p6), .val (.int sel), .val (.int q), .val (.int (3 : Int32)), .val (.int (1 : Int32)), .val (.ref b93), .unset] [(.ref b93)])
        refine hst (fun t₀ k₀ => XS.iload X135.here hx rfl (hb hby at_145) rfl k₀) ?_
        show F T135 (mkF m 147 #[.val (.int p1), .val (.int b), .val (.int c), .val (.int p4), .val (.int p5), .val (.int p6), .val (.int sel), .val (.int q), .val (.int (3 : Int32)), .val (.int (1 : Int32)), .val (.ref b93), .unset] [(.int q), (.ref b93)])
        obtain ⟨v147, T147, Lc147, X147, hQ147, st147⟩ := own_callV X135 hx hZ hown (y := (⟨"com/example/hoist/hoist/CreationPath", "enter", "(I)V"⟩ : MethodName)) (hw _ (List.mem_of_getElem? (i := 17) rfl)) (hw _ (List.mem_of_getElem? (i := 18) rfl)) (hw _ (List.mem_of_getElem? (i := 20) rfl)) (hw _ (List.mem_of_getElem? (i := 19) rfl)) (hw _ (List.mem_of_getElem? (i := 2) rfl)) (hw _ (List.mem_of_getElem? (i := 21) rfl)) (by decide) rfl q1_97_p135 (rm4 l Z a0 hw [] b93 q t_97 cf2_135 ([p1, b, c] : List Int32) T135.heap n0 Z0_p135 q2_97_p135 q1_135 ge_t_97 is2_135 (Nat.le_of_ble_eq_true rfl) ne_b93_t_97) (by decide) (by decide) (g := (mkF m 147 #[.val (.int p1), .val (.int b), .val (.int c), .val (.int p4), .val (.int p5), .val (.int p6), .val (.int sel), .val (.int q), .val (.int (3 : Int32)), .val (.int (1 : Int32)), .val (.ref b93), .unset] [(.int q), (.ref b93)])) rfl (by rw [hml]; rfl) (argsL := [(.int q)]) (rest := []) (lenOf pd_2 rfl) rfl rfl (W := 0) (by show 2 * 0 + _ ≤ _; exact Nat.le_of_eq rfl) (hb hby at_147) (by decide) (by decide)
        obtain ⟨cf2_147, rfl, Nq147, K147, q1_147, is2_147⟩ := hQ147
        have N147 := Fr.app N135 Nq147
        have q1_97_p147 : Exa Z T147.heap b93 "com/example/hoist/hoist/CreationPath" := q1_97_p135.keep K147
        have q2_97_p147 : Fld Z T147.heap b93 "com/example/hoist/hoist/CreationPath" "slots" "[I" (.ref t_97) := q2_97_p135.keep K147 (by simp only [List.mem_cons, List.not_mem_nil, or_false, not_or]; exact ne_b93_t_97)
        have Z0_p147 : n0 ≤ T147.heap.size := Nat.le_trans Z0_p135 K147.1
        refine hst st147 ?_
        show F T147 (mkF m 150 #[.val (.int p1), .val (.int b), .val (.int c), .val (.int p4), .val (.int p5), .val (.int p6), .val (.int sel), .val (.int q), .val (.int (3 : Int32)), .val (.int (1 : Int32)), .val (.ref b93), .unset] [])
        refine hst (fun t₀ k₀ => XS.aload X147.here hx rfl (hb hby at_150) rfl rfl k₀) ?_
        show F T147 (mkF m 152 #[.val (.int p1), .val (.int b), .val (.int c), .val (.int p4), .val (.int p5), .val (.int p6), .val (.int sel), .val (.int q), .val (.int (3 : Int32)), .val (.int (1 : Int32)), .val (.ref b93), .unset] [(.ref b93)])
        obtain ⟨v152, T152, Lc152, X152, hQ152, st152⟩ := own_callV X147 hx hZ hown (y := (⟨"com/example/hoist/hoist/CreationPath", "leave", "()V"⟩ : MethodName)) (hw _ (List.mem_of_getElem? (i := 22) rfl)) (hw _ (List.mem_of_getElem? (i := 23) rfl)) (hw _ (List.mem_of_getElem? (i := 25) rfl)) (hw _ (List.mem_of_getElem? (i := 24) rfl)) (hw _ (List.mem_of_getElem? (i := 2) rfl)) (hw _ (List.mem_of_getElem? (i := 26) rfl)) (by decide) rfl q1_97_p147 (rm5 l Z a0 hw [] b93 t_97 cf2_147 ([p1, b, c, q] : List Int32) T147.heap n0 Z0_p147 q2_97_p147 q1_147 ge_t_97 is2_147 (Nat.le_of_ble_eq_true rfl) (Nat.le_of_ble_eq_true rfl) ne_b93_t_97) (by decide) (by decide) (g := (mkF m 152 #[.val (.int p1), .val (.int b), .val (.int c), .val (.int p4), .val (.int p5), .val (.int p6), .val (.int sel), .val (.int q), .val (.int (3 : Int32)), .val (.int (1 : Int32)), .val (.ref b93), .unset] [(.ref b93)])) rfl (by rw [hml]; rfl) (argsL := []) (rest := []) (lenOf pd_0 rfl) rfl rfl (W := 0) (by show 2 * 0 + _ ≤ _; exact Nat.le_of_eq rfl) (hb hby at_152) (by decide) (by decide)
        obtain ⟨cf2_152, rfl, Nq152, K152, q1_152, is2_152⟩ := hQ152
        have N152 := Fr.app N147 Nq152
        have q1_97_p152 : Exa Z T152.heap b93 "com/example/hoist/hoist/CreationPath" := q1_97_p147.keep K152
        have q2_97_p152 : Fld Z T152.heap b93 "com/example/hoist/hoist/CreationPath" "slots" "[I" (.ref t_97) := q2_97_p147.keep K152 (by simp only [List.mem_cons, List.not_mem_nil, or_false, not_or]; exact ne_b93_t_97)
        have Z0_p152 : n0 ≤ T152.heap.size := Nat.le_trans Z0_p147 K152.1
        refine hst st152 ?_
        show F T152 (mkF m 155 #[.val (.int p1), .val (.int b), .val (.int c), .val (.int p4), .val (.int p5), .val (.int p6), .val (.int sel), .val (.int q), .val (.int (3 : Int32)), .val (.int (1 : Int32)), .val (.ref b93), .unset] [])
        refine hst (fun t₀ k₀ => XS.iconst X152.here hx rfl (hb hby at_155) k₀) ?_
        show F T152 (mkF m 156 #[.val (.int p1), .val (.int b), .val (.int c), .val (.int p4), .val (.int p5), .val (.int p6), .val (.int sel), .val (.int q), .val (.int (3 : Int32)), .val (.int (1 : Int32)), .val (.ref b93), .unset] [(.int (-1 : Int32))])
        refine hst (fun t₀ k₀ => XS.istore X152.here hx rfl (hb hby at_156) rfl (l' := #[.val (.int p1), .val (.int b), .val (.int c), .val (.int p4), .val (.int p5), .val (.int p6), .val (.int sel), .val (.int q), .val (.int (3 : Int32)), .val (.int (1 : Int32)), .val (.ref b93), .val (.int (-1 : Int32))]) rfl k₀) ?_
        show F T152 (mkF m 158 #[.val (.int p1), .val (.int b), .val (.int c), .val (.int p4), .val (.int p5), .val (.int p6), .val (.int sel), .val (.int q), .val (.int (3 : Int32)), .val (.int (1 : Int32)), .val (.ref b93), .val (.int (-1 : Int32))] [])
        refine hst (fun t₀ k₀ => XS.iload X152.here hx rfl (hb hby at_158) rfl k₀) ?_
        show F T152 (mkF m 160 #[.val (.int p1), .val (.int b), .val (.int c), .val (.int p4), .val (.int p5), .val (.int p6), .val (.int sel), .val (.int q), .val (.int (3 : Int32)), .val (.int (1 : Int32)), .val (.ref b93), .val (.int (-1 : Int32))] [(.int (3 : Int32))])
        refine hst (fun t₀ k₀ => XS.iconst X152.here hx rfl (hb hby at_160) k₀) ?_
        show F T152 (mkF m 161 #[.val (.int p1), .val (.int b), .val (.int c), .val (.int p4), .val (.int p5), .val (.int p6), .val (.int sel), .val (.int q), .val (.int (3 : Int32)), .val (.int (1 : Int32)), .val (.ref b93), .val (.int (-1 : Int32))] [(.int (3 : Int32)), (.int (3 : Int32))])
        refine hst (fun t₀ k₀ => XS.icmpNo X152.here hx rfl (hb hby at_161) rfl (flt (by decide)).1 k₀) ?_
        show F T152 (mkF m 164 #[.val (.int p1), .val (.int b), .val (.int c), .val (.int p4), .val (.int p5), .val (.int p6), .val (.int sel), .val (.int q), .val (.int (3 : Int32)), .val (.int (1 : Int32)), .val (.ref b93), .val (.int (-1 : Int32))] [])
        refine hst (fun t₀ k₀ => XS.iloadN X152.here hx rfl (hb hby at_164) rfl k₀) ?_
        show F T152 (mkF m 165 #[.val (.int p1), .val (.int b), .val (.int c), .val (.int p4), .val (.int p5), .val (.int p6), .val (.int sel), .val (.int q), .val (.int (3 : Int32)), .val (.int (1 : Int32)), .val (.ref b93), .val (.int (-1 : Int32))] [(.int c)])
        refine hst (fun t₀ k₀ => XS.iload X152.here hx rfl (hb hby at_165) rfl k₀) ?_
        show F T152 (mkF m 167 #[.val (.int p1), .val (.int b), .val (.int c), .val (.int p4), .val (.int p5), .val (.int p6), .val (.int sel), .val (.int q), .val (.int (3 : Int32)), .val (.int (1 : Int32)), .val (.ref b93), .val (.int (-1 : Int32))] [(.int q), (.int c)])
        by_cases hc167 : c = q
        · -- pc 167: not taken
          refine hst (fun t₀ k₀ => XS.icmpNo X152.here hx rfl (hb hby at_167) rfl (teq hc167).2 k₀) ?_
          show F T152 (mkF m 170 #[.val (.int p1), .val (.int b), .val (.int c), .val (.int p4), .val (.int p5), .val (.int p6), .val (.int sel), .val (.int q), .val (.int (3 : Int32)), .val (.int (1 : Int32)), .val (.ref b93), .val (.int (-1 : Int32))] [])
          refine hst (fun t₀ k₀ => XS.iconst X152.here hx rfl (hb hby at_170) k₀) ?_
          show F T152 (mkF m 171 #[.val (.int p1), .val (.int b), .val (.int c), .val (.int p4), .val (.int p5), .val (.int p6), .val (.int sel), .val (.int q), .val (.int (3 : Int32)), .val (.int (1 : Int32)), .val (.ref b93), .val (.int (-1 : Int32))] [(.int (2 : Int32))])
          refine hst (fun t₀ k₀ => XS.istore X152.here hx rfl (hb hby at_171) rfl (l' := #[.val (.int p1), .val (.int b), .val (.int c), .val (.int p4), .val (.int p5), .val (.int p6), .val (.int sel), .val (.int q), .val (.int (3 : Int32)), .val (.int (1 : Int32)), .val (.ref b93), .val (.int (2 : Int32))]) rfl k₀) ?_
          show F T152 (mkF m 173 #[.val (.int p1), .val (.int b), .val (.int c), .val (.int p4), .val (.int p5), .val (.int p6), .val (.int sel), .val (.int q), .val (.int (3 : Int32)), .val (.int (1 : Int32)), .val (.ref b93), .val (.int (2 : Int32))] [])
          refine hst (fun t₀ k₀ => XS.goto X152.here hx rfl (pc0 := 173) (pc' := 209) rfl (hb hby at_173) (by decide) (by decide) k₀) ?_
          show F T152 (mkF m 209 #[.val (.int p1), .val (.int b), .val (.int c), .val (.int p4), .val (.int p5), .val (.int p6), .val (.int sel), .val (.int q), .val (.int (3 : Int32)), .val (.int (1 : Int32)), .val (.ref b93), .val (.int (2 : Int32))] [])
          refine hst (fun t₀ k₀ => XS.aload X152.here hx rfl (hb hby at_209) rfl rfl k₀) ?_
          show F T152 (mkF m 211 #[.val (.int p1), .val (.int b), .val (.int c), .val (.int p4), .val (.int p5), .val (.int p6), .val (.int sel), .val (.int q), .val (.int (3 : Int32)), .val (.int (1 : Int32)), .val (.ref b93), .val (.int (2 : Int32))] [(.ref b93)])
          refine hst (fun t₀ k₀ => XS.iload X152.here hx rfl (hb hby at_211) rfl k₀) ?_
          show F T152 (mkF m 213 #[.val (.int p1), .val (.int b), .val (.int c), .val (.int p4), .val (.int p5), .val (.int p6), .val (.int sel), .val (.int q), .val (.int (3 : Int32)), .val (.int (1 : Int32)), .val (.ref b93), .val (.int (2 : Int32))] [(.int q), (.ref b93)])
          obtain ⟨v213, T213, Lc213, X213, hQ213, st213⟩ := own_callV X152 hx hZ hown (y := (⟨"com/example/hoist/hoist/CreationPath", "lastIndexOf", "(I)I"⟩ : MethodName)) (hw _ (List.mem_of_getElem? (i := 12) rfl)) (hw _ (List.mem_of_getElem? (i := 13) rfl)) (hw _ (List.mem_of_getElem? (i := 15) rfl)) (hw _ (List.mem_of_getElem? (i := 14) rfl)) (hw _ (List.mem_of_getElem? (i := 2) rfl)) (hw _ (List.mem_of_getElem? (i := 16) rfl)) (by decide) rfl q1_97_p152 (rm3 l Z a0 hw [] b93 q t_97 cf2_152 ([p1, b, c] : List Int32) T152.heap n0 Z0_p152 q2_97_p152 q1_152 is2_152 (Nat.le_of_ble_eq_true rfl)) (by decide) (by decide) (g := (mkF m 213 #[.val (.int p1), .val (.int b), .val (.int c), .val (.int p4), .val (.int p5), .val (.int p6), .val (.int sel), .val (.int q), .val (.int (3 : Int32)), .val (.int (1 : Int32)), .val (.ref b93), .val (.int (2 : Int32))] [(.int q), (.ref b93)])) rfl (by rw [hml]; rfl) (argsL := [(.int q)]) (rest := []) (lenOf pd_1 rfl) rfl rfl (W := 0) (by show 2 * 0 + _ ≤ _; exact Nat.le_of_eq rfl) (hb hby at_213) (by decide) (by decide)
          obtain ⟨rfl, Nq213, he213⟩ := hQ213
          have N213 := Fr.app N152 Nq213
          refine hst st213 ?_
          show F T213 (mkF m 216 #[.val (.int p1), .val (.int b), .val (.int c), .val (.int p4), .val (.int p5), .val (.int p6), .val (.int sel), .val (.int q), .val (.int (3 : Int32)), .val (.int (1 : Int32)), .val (.ref b93), .val (.int (2 : Int32))] [(.int (own_lif ([p1, b, c] : List Int32) q ([p1, b, c] : List Int32).length))])
          refine hst (fun t₀ k₀ => XS.iload X213.here hx rfl (hb hby at_216) rfl k₀) ?_
          show F T213 (mkF m 218 #[.val (.int p1), .val (.int b), .val (.int c), .val (.int p4), .val (.int p5), .val (.int p6), .val (.int sel), .val (.int q), .val (.int (3 : Int32)), .val (.int (1 : Int32)), .val (.ref b93), .val (.int (2 : Int32))] [(.int (2 : Int32)), (.int (own_lif ([p1, b, c] : List Int32) q ([p1, b, c] : List Int32).length))])
          refine hst (fun t₀ k₀ => XS.icmpNo X213.here hx rfl (hb hby at_218) rfl (teq (by simp [own_lif, hc167])).2 k₀) ?_
          show F T213 (mkF m 221 #[.val (.int p1), .val (.int b), .val (.int c), .val (.int p4), .val (.int p5), .val (.int p6), .val (.int sel), .val (.int q), .val (.int (3 : Int32)), .val (.int (1 : Int32)), .val (.ref b93), .val (.int (2 : Int32))] [])
          refine hst (fun t₀ k₀ => XS.iconst X213.here hx rfl (hb hby at_221) k₀) ?_
          show F T213 (mkF m 222 #[.val (.int p1), .val (.int b), .val (.int c), .val (.int p4), .val (.int p5), .val (.int p6), .val (.int sel), .val (.int q), .val (.int (3 : Int32)), .val (.int (1 : Int32)), .val (.ref b93), .val (.int (2 : Int32))] [(.int (1 : Int32))])
          refine hst (fun t₀ k₀ => XS.goto X213.here hx rfl (pc0 := 222) (pc' := 226) rfl (hb hby at_222) (by decide) (by decide) k₀) ?_
          show F T213 (mkF m 226 #[.val (.int p1), .val (.int b), .val (.int c), .val (.int p4), .val (.int p5), .val (.int p6), .val (.int sel), .val (.int q), .val (.int (3 : Int32)), .val (.int (1 : Int32)), .val (.ref b93), .val (.int (2 : Int32))] [(.int (1 : Int32))])
          rw [hF]
          refine own_retN X213 hx hret (by simp) hlk (hb hby at_226) (by decide) (by decide) ?_
          rw [he213]
          exact ⟨rfl, N213⟩
        · -- pc 167: taken
          refine hst (fun t₀ k₀ => XS.icmpYes X152.here hx rfl (pc0 := 167) (pc' := 176) rfl (hb hby at_167) rfl (feq hc167).2 (by decide) (by decide) k₀) ?_
          show F T152 (mkF m 176 #[.val (.int p1), .val (.int b), .val (.int c), .val (.int p4), .val (.int p5), .val (.int p6), .val (.int sel), .val (.int q), .val (.int (3 : Int32)), .val (.int (1 : Int32)), .val (.ref b93), .val (.int (-1 : Int32))] [])
          refine hst (fun t₀ k₀ => XS.iload X152.here hx rfl (hb hby at_176) rfl k₀) ?_
          show F T152 (mkF m 178 #[.val (.int p1), .val (.int b), .val (.int c), .val (.int p4), .val (.int p5), .val (.int p6), .val (.int sel), .val (.int q), .val (.int (3 : Int32)), .val (.int (1 : Int32)), .val (.ref b93), .val (.int (-1 : Int32))] [(.int (3 : Int32))])
          refine hst (fun t₀ k₀ => XS.iconst X152.here hx rfl (hb hby at_178) k₀) ?_
          show F T152 (mkF m 179 #[.val (.int p1), .val (.int b), .val (.int c), .val (.int p4), .val (.int p5), .val (.int p6), .val (.int sel), .val (.int q), .val (.int (3 : Int32)), .val (.int (1 : Int32)), .val (.ref b93), .val (.int (-1 : Int32))] [(.int (2 : Int32)), (.int (3 : Int32))])
          refine hst (fun t₀ k₀ => XS.icmpNo X152.here hx rfl (hb hby at_179) rfl (flt (by decide)).1 k₀) ?_
          show F T152 (mkF m 182 #[.val (.int p1), .val (.int b), .val (.int c), .val (.int p4), .val (.int p5), .val (.int p6), .val (.int sel), .val (.int q), .val (.int (3 : Int32)), .val (.int (1 : Int32)), .val (.ref b93), .val (.int (-1 : Int32))] [])
          refine hst (fun t₀ k₀ => XS.iloadN X152.here hx rfl (hb hby at_182) rfl k₀) ?_
          show F T152 (mkF m 183 #[.val (.int p1), .val (.int b), .val (.int c), .val (.int p4), .val (.int p5), .val (.int p6), .val (.int sel), .val (.int q), .val (.int (3 : Int32)), .val (.int (1 : Int32)), .val (.ref b93), .val (.int (-1 : Int32))] [(.int b)])
          refine hst (fun t₀ k₀ => XS.iload X152.here hx rfl (hb hby at_183) rfl k₀) ?_
          show F T152 (mkF m 185 #[.val (.int p1), .val (.int b), .val (.int c), .val (.int p4), .val (.int p5), .val (.int p6), .val (.int sel), .val (.int q), .val (.int (3 : Int32)), .val (.int (1 : Int32)), .val (.ref b93), .val (.int (-1 : Int32))] [(.int q), (.int b)])
          by_cases hc185 : b = q
          · -- pc 185: not taken
            refine hst (fun t₀ k₀ => XS.icmpNo X152.here hx rfl (hb hby at_185) rfl (teq hc185).2 k₀) ?_
            show F T152 (mkF m 188 #[.val (.int p1), .val (.int b), .val (.int c), .val (.int p4), .val (.int p5), .val (.int p6), .val (.int sel), .val (.int q), .val (.int (3 : Int32)), .val (.int (1 : Int32)), .val (.ref b93), .val (.int (-1 : Int32))] [])
            refine hst (fun t₀ k₀ => XS.iconst X152.here hx rfl (hb hby at_188) k₀) ?_
            show F T152 (mkF m 189 #[.val (.int p1), .val (.int b), .val (.int c), .val (.int p4), .val (.int p5), .val (.int p6), .val (.int sel), .val (.int q), .val (.int (3 : Int32)), .val (.int (1 : Int32)), .val (.ref b93), .val (.int (-1 : Int32))] [(.int (1 : Int32))])
            refine hst (fun t₀ k₀ => XS.istore X152.here hx rfl (hb hby at_189) rfl (l' := #[.val (.int p1), .val (.int b), .val (.int c), .val (.int p4), .val (.int p5), .val (.int p6), .val (.int sel), .val (.int q), .val (.int (3 : Int32)), .val (.int (1 : Int32)), .val (.ref b93), .val (.int (1 : Int32))]) rfl k₀) ?_
            show F T152 (mkF m 191 #[.val (.int p1), .val (.int b), .val (.int c), .val (.int p4), .val (.int p5), .val (.int p6), .val (.int sel), .val (.int q), .val (.int (3 : Int32)), .val (.int (1 : Int32)), .val (.ref b93), .val (.int (1 : Int32))] [])
            refine hst (fun t₀ k₀ => XS.goto X152.here hx rfl (pc0 := 191) (pc' := 209) rfl (hb hby at_191) (by decide) (by decide) k₀) ?_
            show F T152 (mkF m 209 #[.val (.int p1), .val (.int b), .val (.int c), .val (.int p4), .val (.int p5), .val (.int p6), .val (.int sel), .val (.int q), .val (.int (3 : Int32)), .val (.int (1 : Int32)), .val (.ref b93), .val (.int (1 : Int32))] [])
            refine hst (fun t₀ k₀ => XS.aload X152.here hx rfl (hb hby at_209) rfl rfl k₀) ?_
            show F T152 (mkF m 211 #[.val (.int p1), .val (.int b), .val (.int c), .val (.int p4), .val (.int p5), .val (.int p6), .val (.int sel), .val (.int q), .val (.int (3 : Int32)), .val (.int (1 : Int32)), .val (.ref b93), .val (.int (1 : Int32))] [(.ref b93)])
            refine hst (fun t₀ k₀ => XS.iload X152.here hx rfl (hb hby at_211) rfl k₀) ?_
            show F T152 (mkF m 213 #[.val (.int p1), .val (.int b), .val (.int c), .val (.int p4), .val (.int p5), .val (.int p6), .val (.int sel), .val (.int q), .val (.int (3 : Int32)), .val (.int (1 : Int32)), .val (.ref b93), .val (.int (1 : Int32))] [(.int q), (.ref b93)])
            obtain ⟨v213, T213, Lc213, X213, hQ213, st213⟩ := own_callV X152 hx hZ hown (y := (⟨"com/example/hoist/hoist/CreationPath", "lastIndexOf", "(I)I"⟩ : MethodName)) (hw _ (List.mem_of_getElem? (i := 12) rfl)) (hw _ (List.mem_of_getElem? (i := 13) rfl)) (hw _ (List.mem_of_getElem? (i := 15) rfl)) (hw _ (List.mem_of_getElem? (i := 14) rfl)) (hw _ (List.mem_of_getElem? (i := 2) rfl)) (hw _ (List.mem_of_getElem? (i := 16) rfl)) (by decide) rfl q1_97_p152 (rm3 l Z a0 hw [] b93 q t_97 cf2_152 ([p1, b, c] : List Int32) T152.heap n0 Z0_p152 q2_97_p152 q1_152 is2_152 (Nat.le_of_ble_eq_true rfl)) (by decide) (by decide) (g := (mkF m 213 #[.val (.int p1), .val (.int b), .val (.int c), .val (.int p4), .val (.int p5), .val (.int p6), .val (.int sel), .val (.int q), .val (.int (3 : Int32)), .val (.int (1 : Int32)), .val (.ref b93), .val (.int (1 : Int32))] [(.int q), (.ref b93)])) rfl (by rw [hml]; rfl) (argsL := [(.int q)]) (rest := []) (lenOf pd_1 rfl) rfl rfl (W := 0) (by show 2 * 0 + _ ≤ _; exact Nat.le_of_eq rfl) (hb hby at_213) (by decide) (by decide)
            obtain ⟨rfl, Nq213, he213⟩ := hQ213
            have N213 := Fr.app N152 Nq213
            refine hst st213 ?_
            show F T213 (mkF m 216 #[.val (.int p1), .val (.int b), .val (.int c), .val (.int p4), .val (.int p5), .val (.int p6), .val (.int sel), .val (.int q), .val (.int (3 : Int32)), .val (.int (1 : Int32)), .val (.ref b93), .val (.int (1 : Int32))] [(.int (own_lif ([p1, b, c] : List Int32) q ([p1, b, c] : List Int32).length))])
            refine hst (fun t₀ k₀ => XS.iload X213.here hx rfl (hb hby at_216) rfl k₀) ?_
            show F T213 (mkF m 218 #[.val (.int p1), .val (.int b), .val (.int c), .val (.int p4), .val (.int p5), .val (.int p6), .val (.int sel), .val (.int q), .val (.int (3 : Int32)), .val (.int (1 : Int32)), .val (.ref b93), .val (.int (1 : Int32))] [(.int (1 : Int32)), (.int (own_lif ([p1, b, c] : List Int32) q ([p1, b, c] : List Int32).length))])
            refine hst (fun t₀ k₀ => XS.icmpNo X213.here hx rfl (hb hby at_218) rfl (teq (by simp [own_lif, hc167, hc185])).2 k₀) ?_
            show F T213 (mkF m 221 #[.val (.int p1), .val (.int b), .val (.int c), .val (.int p4), .val (.int p5), .val (.int p6), .val (.int sel), .val (.int q), .val (.int (3 : Int32)), .val (.int (1 : Int32)), .val (.ref b93), .val (.int (1 : Int32))] [])
            refine hst (fun t₀ k₀ => XS.iconst X213.here hx rfl (hb hby at_221) k₀) ?_
            show F T213 (mkF m 222 #[.val (.int p1), .val (.int b), .val (.int c), .val (.int p4), .val (.int p5), .val (.int p6), .val (.int sel), .val (.int q), .val (.int (3 : Int32)), .val (.int (1 : Int32)), .val (.ref b93), .val (.int (1 : Int32))] [(.int (1 : Int32))])
            refine hst (fun t₀ k₀ => XS.goto X213.here hx rfl (pc0 := 222) (pc' := 226) rfl (hb hby at_222) (by decide) (by decide) k₀) ?_
            show F T213 (mkF m 226 #[.val (.int p1), .val (.int b), .val (.int c), .val (.int p4), .val (.int p5), .val (.int p6), .val (.int sel), .val (.int q), .val (.int (3 : Int32)), .val (.int (1 : Int32)), .val (.ref b93), .val (.int (1 : Int32))] [(.int (1 : Int32))])
            rw [hF]
            refine own_retN X213 hx hret (by simp) hlk (hb hby at_226) (by decide) (by decide) ?_
            rw [he213]
            exact ⟨rfl, N213⟩
          · -- pc 185: taken
            refine hst (fun t₀ k₀ => XS.icmpYes X152.here hx rfl (pc0 := 185) (pc' := 194) rfl (hb hby at_185) rfl (feq hc185).2 (by decide) (by decide) k₀) ?_
            show F T152 (mkF m 194 #[.val (.int p1), .val (.int b), .val (.int c), .val (.int p4), .val (.int p5), .val (.int p6), .val (.int sel), .val (.int q), .val (.int (3 : Int32)), .val (.int (1 : Int32)), .val (.ref b93), .val (.int (-1 : Int32))] [])
            refine hst (fun t₀ k₀ => XS.iload X152.here hx rfl (hb hby at_194) rfl k₀) ?_
            show F T152 (mkF m 196 #[.val (.int p1), .val (.int b), .val (.int c), .val (.int p4), .val (.int p5), .val (.int p6), .val (.int sel), .val (.int q), .val (.int (3 : Int32)), .val (.int (1 : Int32)), .val (.ref b93), .val (.int (-1 : Int32))] [(.int (3 : Int32))])
            refine hst (fun t₀ k₀ => XS.iconst X152.here hx rfl (hb hby at_196) k₀) ?_
            show F T152 (mkF m 197 #[.val (.int p1), .val (.int b), .val (.int c), .val (.int p4), .val (.int p5), .val (.int p6), .val (.int sel), .val (.int q), .val (.int (3 : Int32)), .val (.int (1 : Int32)), .val (.ref b93), .val (.int (-1 : Int32))] [(.int (1 : Int32)), (.int (3 : Int32))])
            refine hst (fun t₀ k₀ => XS.icmpNo X152.here hx rfl (hb hby at_197) rfl (flt (by decide)).1 k₀) ?_
            show F T152 (mkF m 200 #[.val (.int p1), .val (.int b), .val (.int c), .val (.int p4), .val (.int p5), .val (.int p6), .val (.int sel), .val (.int q), .val (.int (3 : Int32)), .val (.int (1 : Int32)), .val (.ref b93), .val (.int (-1 : Int32))] [])
            refine hst (fun t₀ k₀ => XS.iloadN X152.here hx rfl (hb hby at_200) rfl k₀) ?_
            show F T152 (mkF m 201 #[.val (.int p1), .val (.int b), .val (.int c), .val (.int p4), .val (.int p5), .val (.int p6), .val (.int sel), .val (.int q), .val (.int (3 : Int32)), .val (.int (1 : Int32)), .val (.ref b93), .val (.int (-1 : Int32))] [(.int p1)])
            refine hst (fun t₀ k₀ => XS.iload X152.here hx rfl (hb hby at_201) rfl k₀) ?_
            show F T152 (mkF m 203 #[.val (.int p1), .val (.int b), .val (.int c), .val (.int p4), .val (.int p5), .val (.int p6), .val (.int sel), .val (.int q), .val (.int (3 : Int32)), .val (.int (1 : Int32)), .val (.ref b93), .val (.int (-1 : Int32))] [(.int q), (.int p1)])
            by_cases hc203 : p1 = q
            · -- pc 203: not taken
              refine hst (fun t₀ k₀ => XS.icmpNo X152.here hx rfl (hb hby at_203) rfl (teq hc203).2 k₀) ?_
              show F T152 (mkF m 206 #[.val (.int p1), .val (.int b), .val (.int c), .val (.int p4), .val (.int p5), .val (.int p6), .val (.int sel), .val (.int q), .val (.int (3 : Int32)), .val (.int (1 : Int32)), .val (.ref b93), .val (.int (-1 : Int32))] [])
              refine hst (fun t₀ k₀ => XS.iconst X152.here hx rfl (hb hby at_206) k₀) ?_
              show F T152 (mkF m 207 #[.val (.int p1), .val (.int b), .val (.int c), .val (.int p4), .val (.int p5), .val (.int p6), .val (.int sel), .val (.int q), .val (.int (3 : Int32)), .val (.int (1 : Int32)), .val (.ref b93), .val (.int (-1 : Int32))] [(.int (0 : Int32))])
              refine hst (fun t₀ k₀ => XS.istore X152.here hx rfl (hb hby at_207) rfl (l' := #[.val (.int p1), .val (.int b), .val (.int c), .val (.int p4), .val (.int p5), .val (.int p6), .val (.int sel), .val (.int q), .val (.int (3 : Int32)), .val (.int (1 : Int32)), .val (.ref b93), .val (.int (0 : Int32))]) rfl k₀) ?_
              show F T152 (mkF m 209 #[.val (.int p1), .val (.int b), .val (.int c), .val (.int p4), .val (.int p5), .val (.int p6), .val (.int sel), .val (.int q), .val (.int (3 : Int32)), .val (.int (1 : Int32)), .val (.ref b93), .val (.int (0 : Int32))] [])
              refine hst (fun t₀ k₀ => XS.aload X152.here hx rfl (hb hby at_209) rfl rfl k₀) ?_
              show F T152 (mkF m 211 #[.val (.int p1), .val (.int b), .val (.int c), .val (.int p4), .val (.int p5), .val (.int p6), .val (.int sel), .val (.int q), .val (.int (3 : Int32)), .val (.int (1 : Int32)), .val (.ref b93), .val (.int (0 : Int32))] [(.ref b93)])
              refine hst (fun t₀ k₀ => XS.iload X152.here hx rfl (hb hby at_211) rfl k₀) ?_
              show F T152 (mkF m 213 #[.val (.int p1), .val (.int b), .val (.int c), .val (.int p4), .val (.int p5), .val (.int p6), .val (.int sel), .val (.int q), .val (.int (3 : Int32)), .val (.int (1 : Int32)), .val (.ref b93), .val (.int (0 : Int32))] [(.int q), (.ref b93)])
              obtain ⟨v213, T213, Lc213, X213, hQ213, st213⟩ := own_callV X152 hx hZ hown (y := (⟨"com/example/hoist/hoist/CreationPath", "lastIndexOf", "(I)I"⟩ : MethodName)) (hw _ (List.mem_of_getElem? (i := 12) rfl)) (hw _ (List.mem_of_getElem? (i := 13) rfl)) (hw _ (List.mem_of_getElem? (i := 15) rfl)) (hw _ (List.mem_of_getElem? (i := 14) rfl)) (hw _ (List.mem_of_getElem? (i := 2) rfl)) (hw _ (List.mem_of_getElem? (i := 16) rfl)) (by decide) rfl q1_97_p152 (rm3 l Z a0 hw [] b93 q t_97 cf2_152 ([p1, b, c] : List Int32) T152.heap n0 Z0_p152 q2_97_p152 q1_152 is2_152 (Nat.le_of_ble_eq_true rfl)) (by decide) (by decide) (g := (mkF m 213 #[.val (.int p1), .val (.int b), .val (.int c), .val (.int p4), .val (.int p5), .val (.int p6), .val (.int sel), .val (.int q), .val (.int (3 : Int32)), .val (.int (1 : Int32)), .val (.ref b93), .val (.int (0 : Int32))] [(.int q), (.ref b93)])) rfl (by rw [hml]; rfl) (argsL := [(.int q)]) (rest := []) (lenOf pd_1 rfl) rfl rfl (W := 0) (by show 2 * 0 + _ ≤ _; exact Nat.le_of_eq rfl) (hb hby at_213) (by decide) (by decide)
              obtain ⟨rfl, Nq213, he213⟩ := hQ213
              have N213 := Fr.app N152 Nq213
              refine hst st213 ?_
              show F T213 (mkF m 216 #[.val (.int p1), .val (.int b), .val (.int c), .val (.int p4), .val (.int p5), .val (.int p6), .val (.int sel), .val (.int q), .val (.int (3 : Int32)), .val (.int (1 : Int32)), .val (.ref b93), .val (.int (0 : Int32))] [(.int (own_lif ([p1, b, c] : List Int32) q ([p1, b, c] : List Int32).length))])
              refine hst (fun t₀ k₀ => XS.iload X213.here hx rfl (hb hby at_216) rfl k₀) ?_
              show F T213 (mkF m 218 #[.val (.int p1), .val (.int b), .val (.int c), .val (.int p4), .val (.int p5), .val (.int p6), .val (.int sel), .val (.int q), .val (.int (3 : Int32)), .val (.int (1 : Int32)), .val (.ref b93), .val (.int (0 : Int32))] [(.int (0 : Int32)), (.int (own_lif ([p1, b, c] : List Int32) q ([p1, b, c] : List Int32).length))])
              refine hst (fun t₀ k₀ => XS.icmpNo X213.here hx rfl (hb hby at_218) rfl (teq (by simp [own_lif, hc167, hc185, hc203])).2 k₀) ?_
              show F T213 (mkF m 221 #[.val (.int p1), .val (.int b), .val (.int c), .val (.int p4), .val (.int p5), .val (.int p6), .val (.int sel), .val (.int q), .val (.int (3 : Int32)), .val (.int (1 : Int32)), .val (.ref b93), .val (.int (0 : Int32))] [])
              refine hst (fun t₀ k₀ => XS.iconst X213.here hx rfl (hb hby at_221) k₀) ?_
              show F T213 (mkF m 222 #[.val (.int p1), .val (.int b), .val (.int c), .val (.int p4), .val (.int p5), .val (.int p6), .val (.int sel), .val (.int q), .val (.int (3 : Int32)), .val (.int (1 : Int32)), .val (.ref b93), .val (.int (0 : Int32))] [(.int (1 : Int32))])
              refine hst (fun t₀ k₀ => XS.goto X213.here hx rfl (pc0 := 222) (pc' := 226) rfl (hb hby at_222) (by decide) (by decide) k₀) ?_
              show F T213 (mkF m 226 #[.val (.int p1), .val (.int b), .val (.int c), .val (.int p4), .val (.int p5), .val (.int p6), .val (.int sel), .val (.int q), .val (.int (3 : Int32)), .val (.int (1 : Int32)), .val (.ref b93), .val (.int (0 : Int32))] [(.int (1 : Int32))])
              rw [hF]
              refine own_retN X213 hx hret (by simp) hlk (hb hby at_226) (by decide) (by decide) ?_
              rw [he213]
              exact ⟨rfl, N213⟩
            · -- pc 203: taken
              refine hst (fun t₀ k₀ => XS.icmpYes X152.here hx rfl (pc0 := 203) (pc' := 209) rfl (hb hby at_203) rfl (feq hc203).2 (by decide) (by decide) k₀) ?_
              show F T152 (mkF m 209 #[.val (.int p1), .val (.int b), .val (.int c), .val (.int p4), .val (.int p5), .val (.int p6), .val (.int sel), .val (.int q), .val (.int (3 : Int32)), .val (.int (1 : Int32)), .val (.ref b93), .val (.int (-1 : Int32))] [])
              refine hst (fun t₀ k₀ => XS.aload X152.here hx rfl (hb hby at_209) rfl rfl k₀) ?_
              show F T152 (mkF m 211 #[.val (.int p1), .val (.int b), .val (.int c), .val (.int p4), .val (.int p5), .val (.int p6), .val (.int sel), .val (.int q), .val (.int (3 : Int32)), .val (.int (1 : Int32)), .val (.ref b93), .val (.int (-1 : Int32))] [(.ref b93)])
              refine hst (fun t₀ k₀ => XS.iload X152.here hx rfl (hb hby at_211) rfl k₀) ?_
              show F T152 (mkF m 213 #[.val (.int p1), .val (.int b), .val (.int c), .val (.int p4), .val (.int p5), .val (.int p6), .val (.int sel), .val (.int q), .val (.int (3 : Int32)), .val (.int (1 : Int32)), .val (.ref b93), .val (.int (-1 : Int32))] [(.int q), (.ref b93)])
              obtain ⟨v213, T213, Lc213, X213, hQ213, st213⟩ := own_callV X152 hx hZ hown (y := (⟨"com/example/hoist/hoist/CreationPath", "lastIndexOf", "(I)I"⟩ : MethodName)) (hw _ (List.mem_of_getElem? (i := 12) rfl)) (hw _ (List.mem_of_getElem? (i := 13) rfl)) (hw _ (List.mem_of_getElem? (i := 15) rfl)) (hw _ (List.mem_of_getElem? (i := 14) rfl)) (hw _ (List.mem_of_getElem? (i := 2) rfl)) (hw _ (List.mem_of_getElem? (i := 16) rfl)) (by decide) rfl q1_97_p152 (rm3 l Z a0 hw [] b93 q t_97 cf2_152 ([p1, b, c] : List Int32) T152.heap n0 Z0_p152 q2_97_p152 q1_152 is2_152 (Nat.le_of_ble_eq_true rfl)) (by decide) (by decide) (g := (mkF m 213 #[.val (.int p1), .val (.int b), .val (.int c), .val (.int p4), .val (.int p5), .val (.int p6), .val (.int sel), .val (.int q), .val (.int (3 : Int32)), .val (.int (1 : Int32)), .val (.ref b93), .val (.int (-1 : Int32))] [(.int q), (.ref b93)])) rfl (by rw [hml]; rfl) (argsL := [(.int q)]) (rest := []) (lenOf pd_1 rfl) rfl rfl (W := 0) (by show 2 * 0 + _ ≤ _; exact Nat.le_of_eq rfl) (hb hby at_213) (by decide) (by decide)
              obtain ⟨rfl, Nq213, he213⟩ := hQ213
              have N213 := Fr.app N152 Nq213
              refine hst st213 ?_
              show F T213 (mkF m 216 #[.val (.int p1), .val (.int b), .val (.int c), .val (.int p4), .val (.int p5), .val (.int p6), .val (.int sel), .val (.int q), .val (.int (3 : Int32)), .val (.int (1 : Int32)), .val (.ref b93), .val (.int (-1 : Int32))] [(.int (own_lif ([p1, b, c] : List Int32) q ([p1, b, c] : List Int32).length))])
              refine hst (fun t₀ k₀ => XS.iload X213.here hx rfl (hb hby at_216) rfl k₀) ?_
              show F T213 (mkF m 218 #[.val (.int p1), .val (.int b), .val (.int c), .val (.int p4), .val (.int p5), .val (.int p6), .val (.int sel), .val (.int q), .val (.int (3 : Int32)), .val (.int (1 : Int32)), .val (.ref b93), .val (.int (-1 : Int32))] [(.int (-1 : Int32)), (.int (own_lif ([p1, b, c] : List Int32) q ([p1, b, c] : List Int32).length))])
              refine hst (fun t₀ k₀ => XS.icmpNo X213.here hx rfl (hb hby at_218) rfl (teq (by simp [own_lif, hc167, hc185, hc203])).2 k₀) ?_
              show F T213 (mkF m 221 #[.val (.int p1), .val (.int b), .val (.int c), .val (.int p4), .val (.int p5), .val (.int p6), .val (.int sel), .val (.int q), .val (.int (3 : Int32)), .val (.int (1 : Int32)), .val (.ref b93), .val (.int (-1 : Int32))] [])
              refine hst (fun t₀ k₀ => XS.iconst X213.here hx rfl (hb hby at_221) k₀) ?_
              show F T213 (mkF m 222 #[.val (.int p1), .val (.int b), .val (.int c), .val (.int p4), .val (.int p5), .val (.int p6), .val (.int sel), .val (.int q), .val (.int (3 : Int32)), .val (.int (1 : Int32)), .val (.ref b93), .val (.int (-1 : Int32))] [(.int (1 : Int32))])
              refine hst (fun t₀ k₀ => XS.goto X213.here hx rfl (pc0 := 222) (pc' := 226) rfl (hb hby at_222) (by decide) (by decide) k₀) ?_
              show F T213 (mkF m 226 #[.val (.int p1), .val (.int b), .val (.int c), .val (.int p4), .val (.int p5), .val (.int p6), .val (.int sel), .val (.int q), .val (.int (3 : Int32)), .val (.int (1 : Int32)), .val (.ref b93), .val (.int (-1 : Int32))] [(.int (1 : Int32))])
              rw [hF]
              refine own_retN X213 hx hret (by simp) hlk (hb hby at_226) (by decide) (by decide) ?_
              rw [he213]
              exact ⟨rfl, N213⟩
  have J27 : ∀ b c : Int32, F s₁ (mkF m 27 #[.val (.int p1), .val (.int b), .val (.int c), .val (.int p4), .val (.int p5), .val (.int p6), .unset, .unset, .unset, .unset, .unset, .unset] []) := by
    intro b c
    show F s₁ (mkF m 27 #[.val (.int p1), .val (.int b), .val (.int c), .val (.int p4), .val (.int p5), .val (.int p6), .unset, .unset, .unset, .unset, .unset, .unset] [])
    refine hst (fun t₀ k₀ => XS.iload XI.here hx rfl (hb hby at_27) rfl k₀) ?_
    show F s₁ (mkF m 29 #[.val (.int p1), .val (.int b), .val (.int c), .val (.int p4), .val (.int p5), .val (.int p6), .unset, .unset, .unset, .unset, .unset, .unset] [(.int p6)])
    refine hst (fun t₀ k₀ => XS.iconst XI.here hx rfl (hb hby at_29) k₀) ?_
    show F s₁ (mkF m 30 #[.val (.int p1), .val (.int b), .val (.int c), .val (.int p4), .val (.int p5), .val (.int p6), .unset, .unset, .unset, .unset, .unset, .unset] [(.int (3 : Int32)), (.int p6)])
    refine hst (fun t₀ k₀ => XS.iushr XI.here hx rfl (hb hby at_30) rfl k₀) ?_
    show F s₁ (mkF m 31 #[.val (.int p1), .val (.int b), .val (.int c), .val (.int p4), .val (.int p5), .val (.int p6), .unset, .unset, .unset, .unset, .unset, .unset] [(.int ((p6.toUInt32 >>> ((3 : Int32) &&& 31).toUInt32).toInt32))])
    refine hst (fun t₀ k₀ => XS.iconst XI.here hx rfl (hb hby at_31) k₀) ?_
    show F s₁ (mkF m 32 #[.val (.int p1), .val (.int b), .val (.int c), .val (.int p4), .val (.int p5), .val (.int p6), .unset, .unset, .unset, .unset, .unset, .unset] [(.int (3 : Int32)), (.int ((p6.toUInt32 >>> ((3 : Int32) &&& 31).toUInt32).toInt32))])
    refine hst (fun t₀ k₀ => XS.iand XI.here hx rfl (hb hby at_32) rfl k₀) ?_
    show F s₁ (mkF m 33 #[.val (.int p1), .val (.int b), .val (.int c), .val (.int p4), .val (.int p5), .val (.int p6), .unset, .unset, .unset, .unset, .unset, .unset] [(.int (((p6.toUInt32 >>> ((3 : Int32) &&& 31).toUInt32).toInt32) &&& (3 : Int32)))])
    refine hst (fun t₀ k₀ => XS.istore XI.here hx rfl (hb hby at_33) rfl (l' := #[.val (.int p1), .val (.int b), .val (.int c), .val (.int p4), .val (.int p5), .val (.int p6), .val (.int (((p6.toUInt32 >>> ((3 : Int32) &&& 31).toUInt32).toInt32) &&& (3 : Int32))), .unset, .unset, .unset, .unset, .unset]) rfl k₀) ?_
    show F s₁ (mkF m 35 #[.val (.int p1), .val (.int b), .val (.int c), .val (.int p4), .val (.int p5), .val (.int p6), .val (.int (((p6.toUInt32 >>> ((3 : Int32) &&& 31).toUInt32).toInt32) &&& (3 : Int32))), .unset, .unset, .unset, .unset, .unset] [])
    refine hst (fun t₀ k₀ => XS.iload XI.here hx rfl (hb hby at_35) rfl k₀) ?_
    show F s₁ (mkF m 37 #[.val (.int p1), .val (.int b), .val (.int c), .val (.int p4), .val (.int p5), .val (.int p6), .val (.int (((p6.toUInt32 >>> ((3 : Int32) &&& 31).toUInt32).toInt32) &&& (3 : Int32))), .unset, .unset, .unset, .unset, .unset] [(.int (((p6.toUInt32 >>> ((3 : Int32) &&& 31).toUInt32).toInt32) &&& (3 : Int32)))])
    by_cases hc37 : (((p6.toUInt32 >>> ((3 : Int32) &&& 31).toUInt32).toInt32) &&& (3 : Int32)) = (0 : Int32)
    · -- pc 37: not taken
      refine hst (fun t₀ k₀ => XS.ifNo XI.here hx rfl (hb hby at_37) rfl ((if0 _ _).trans (teq hc37).2) k₀) ?_
      show F s₁ (mkF m 40 #[.val (.int p1), .val (.int b), .val (.int c), .val (.int p4), .val (.int p5), .val (.int p6), .val (.int (((p6.toUInt32 >>> ((3 : Int32) &&& 31).toUInt32).toInt32) &&& (3 : Int32))), .unset, .unset, .unset, .unset, .unset] [])
      refine hst (fun t₀ k₀ => XS.iloadN XI.here hx rfl (hb hby at_40) rfl k₀) ?_
      show F s₁ (mkF m 41 #[.val (.int p1), .val (.int b), .val (.int c), .val (.int p4), .val (.int p5), .val (.int p6), .val (.int (((p6.toUInt32 >>> ((3 : Int32) &&& 31).toUInt32).toInt32) &&& (3 : Int32))), .unset, .unset, .unset, .unset, .unset] [(.int p1)])
      refine hst (fun t₀ k₀ => XS.istore XI.here hx rfl (hb hby at_41) rfl (l' := #[.val (.int p1), .val (.int b), .val (.int c), .val (.int p4), .val (.int p5), .val (.int p6), .val (.int (((p6.toUInt32 >>> ((3 : Int32) &&& 31).toUInt32).toInt32) &&& (3 : Int32))), .val (.int p1), .unset, .unset, .unset, .unset]) rfl k₀) ?_
      show F s₁ (mkF m 43 #[.val (.int p1), .val (.int b), .val (.int c), .val (.int p4), .val (.int p5), .val (.int p6), .val (.int (((p6.toUInt32 >>> ((3 : Int32) &&& 31).toUInt32).toInt32) &&& (3 : Int32))), .val (.int p1), .unset, .unset, .unset, .unset] [])
      refine hst (fun t₀ k₀ => XS.goto XI.here hx rfl (pc0 := 43) (pc' := 73) rfl (hb hby at_43) (by decide) (by decide) k₀) ?_
      show F s₁ (mkF m 73 #[.val (.int p1), .val (.int b), .val (.int c), .val (.int p4), .val (.int p5), .val (.int p6), .val (.int (((p6.toUInt32 >>> ((3 : Int32) &&& 31).toUInt32).toInt32) &&& (3 : Int32))), .val (.int p1), .unset, .unset, .unset, .unset] [])
      exact J73 b c (((p6.toUInt32 >>> ((3 : Int32) &&& 31).toUInt32).toInt32) &&& (3 : Int32)) p1
    · -- pc 37: taken
      refine hst (fun t₀ k₀ => XS.ifYes XI.here hx rfl (pc0 := 37) (pc' := 46) rfl (hb hby at_37) rfl ((if0 _ _).trans (feq hc37).2) (by decide) (by decide) k₀) ?_
      show F s₁ (mkF m 46 #[.val (.int p1), .val (.int b), .val (.int c), .val (.int p4), .val (.int p5), .val (.int p6), .val (.int (((p6.toUInt32 >>> ((3 : Int32) &&& 31).toUInt32).toInt32) &&& (3 : Int32))), .unset, .unset, .unset, .unset, .unset] [])
      refine hst (fun t₀ k₀ => XS.iload XI.here hx rfl (hb hby at_46) rfl k₀) ?_
      show F s₁ (mkF m 48 #[.val (.int p1), .val (.int b), .val (.int c), .val (.int p4), .val (.int p5), .val (.int p6), .val (.int (((p6.toUInt32 >>> ((3 : Int32) &&& 31).toUInt32).toInt32) &&& (3 : Int32))), .unset, .unset, .unset, .unset, .unset] [(.int (((p6.toUInt32 >>> ((3 : Int32) &&& 31).toUInt32).toInt32) &&& (3 : Int32)))])
      refine hst (fun t₀ k₀ => XS.iconst XI.here hx rfl (hb hby at_48) k₀) ?_
      show F s₁ (mkF m 49 #[.val (.int p1), .val (.int b), .val (.int c), .val (.int p4), .val (.int p5), .val (.int p6), .val (.int (((p6.toUInt32 >>> ((3 : Int32) &&& 31).toUInt32).toInt32) &&& (3 : Int32))), .unset, .unset, .unset, .unset, .unset] [(.int (1 : Int32)), (.int (((p6.toUInt32 >>> ((3 : Int32) &&& 31).toUInt32).toInt32) &&& (3 : Int32)))])
      by_cases hc49 : (((p6.toUInt32 >>> ((3 : Int32) &&& 31).toUInt32).toInt32) &&& (3 : Int32)) = (1 : Int32)
      · -- pc 49: not taken
        refine hst (fun t₀ k₀ => XS.icmpNo XI.here hx rfl (hb hby at_49) rfl (teq hc49).2 k₀) ?_
        show F s₁ (mkF m 52 #[.val (.int p1), .val (.int b), .val (.int c), .val (.int p4), .val (.int p5), .val (.int p6), .val (.int (((p6.toUInt32 >>> ((3 : Int32) &&& 31).toUInt32).toInt32) &&& (3 : Int32))), .unset, .unset, .unset, .unset, .unset] [])
        refine hst (fun t₀ k₀ => XS.iloadN XI.here hx rfl (hb hby at_52) rfl k₀) ?_
        show F s₁ (mkF m 53 #[.val (.int p1), .val (.int b), .val (.int c), .val (.int p4), .val (.int p5), .val (.int p6), .val (.int (((p6.toUInt32 >>> ((3 : Int32) &&& 31).toUInt32).toInt32) &&& (3 : Int32))), .unset, .unset, .unset, .unset, .unset] [(.int b)])
        refine hst (fun t₀ k₀ => XS.istore XI.here hx rfl (hb hby at_53) rfl (l' := #[.val (.int p1), .val (.int b), .val (.int c), .val (.int p4), .val (.int p5), .val (.int p6), .val (.int (((p6.toUInt32 >>> ((3 : Int32) &&& 31).toUInt32).toInt32) &&& (3 : Int32))), .val (.int b), .unset, .unset, .unset, .unset]) rfl k₀) ?_
        show F s₁ (mkF m 55 #[.val (.int p1), .val (.int b), .val (.int c), .val (.int p4), .val (.int p5), .val (.int p6), .val (.int (((p6.toUInt32 >>> ((3 : Int32) &&& 31).toUInt32).toInt32) &&& (3 : Int32))), .val (.int b), .unset, .unset, .unset, .unset] [])
        refine hst (fun t₀ k₀ => XS.goto XI.here hx rfl (pc0 := 55) (pc' := 73) rfl (hb hby at_55) (by decide) (by decide) k₀) ?_
        show F s₁ (mkF m 73 #[.val (.int p1), .val (.int b), .val (.int c), .val (.int p4), .val (.int p5), .val (.int p6), .val (.int (((p6.toUInt32 >>> ((3 : Int32) &&& 31).toUInt32).toInt32) &&& (3 : Int32))), .val (.int b), .unset, .unset, .unset, .unset] [])
        exact J73 b c (((p6.toUInt32 >>> ((3 : Int32) &&& 31).toUInt32).toInt32) &&& (3 : Int32)) b
      · -- pc 49: taken
        refine hst (fun t₀ k₀ => XS.icmpYes XI.here hx rfl (pc0 := 49) (pc' := 58) rfl (hb hby at_49) rfl (feq hc49).2 (by decide) (by decide) k₀) ?_
        show F s₁ (mkF m 58 #[.val (.int p1), .val (.int b), .val (.int c), .val (.int p4), .val (.int p5), .val (.int p6), .val (.int (((p6.toUInt32 >>> ((3 : Int32) &&& 31).toUInt32).toInt32) &&& (3 : Int32))), .unset, .unset, .unset, .unset, .unset] [])
        refine hst (fun t₀ k₀ => XS.iload XI.here hx rfl (hb hby at_58) rfl k₀) ?_
        show F s₁ (mkF m 60 #[.val (.int p1), .val (.int b), .val (.int c), .val (.int p4), .val (.int p5), .val (.int p6), .val (.int (((p6.toUInt32 >>> ((3 : Int32) &&& 31).toUInt32).toInt32) &&& (3 : Int32))), .unset, .unset, .unset, .unset, .unset] [(.int (((p6.toUInt32 >>> ((3 : Int32) &&& 31).toUInt32).toInt32) &&& (3 : Int32)))])
        refine hst (fun t₀ k₀ => XS.iconst XI.here hx rfl (hb hby at_60) k₀) ?_
        show F s₁ (mkF m 61 #[.val (.int p1), .val (.int b), .val (.int c), .val (.int p4), .val (.int p5), .val (.int p6), .val (.int (((p6.toUInt32 >>> ((3 : Int32) &&& 31).toUInt32).toInt32) &&& (3 : Int32))), .unset, .unset, .unset, .unset, .unset] [(.int (2 : Int32)), (.int (((p6.toUInt32 >>> ((3 : Int32) &&& 31).toUInt32).toInt32) &&& (3 : Int32)))])
        by_cases hc61 : (((p6.toUInt32 >>> ((3 : Int32) &&& 31).toUInt32).toInt32) &&& (3 : Int32)) = (2 : Int32)
        · -- pc 61: not taken
          refine hst (fun t₀ k₀ => XS.icmpNo XI.here hx rfl (hb hby at_61) rfl (teq hc61).2 k₀) ?_
          show F s₁ (mkF m 64 #[.val (.int p1), .val (.int b), .val (.int c), .val (.int p4), .val (.int p5), .val (.int p6), .val (.int (((p6.toUInt32 >>> ((3 : Int32) &&& 31).toUInt32).toInt32) &&& (3 : Int32))), .unset, .unset, .unset, .unset, .unset] [])
          refine hst (fun t₀ k₀ => XS.iloadN XI.here hx rfl (hb hby at_64) rfl k₀) ?_
          show F s₁ (mkF m 65 #[.val (.int p1), .val (.int b), .val (.int c), .val (.int p4), .val (.int p5), .val (.int p6), .val (.int (((p6.toUInt32 >>> ((3 : Int32) &&& 31).toUInt32).toInt32) &&& (3 : Int32))), .unset, .unset, .unset, .unset, .unset] [(.int c)])
          refine hst (fun t₀ k₀ => XS.istore XI.here hx rfl (hb hby at_65) rfl (l' := #[.val (.int p1), .val (.int b), .val (.int c), .val (.int p4), .val (.int p5), .val (.int p6), .val (.int (((p6.toUInt32 >>> ((3 : Int32) &&& 31).toUInt32).toInt32) &&& (3 : Int32))), .val (.int c), .unset, .unset, .unset, .unset]) rfl k₀) ?_
          show F s₁ (mkF m 67 #[.val (.int p1), .val (.int b), .val (.int c), .val (.int p4), .val (.int p5), .val (.int p6), .val (.int (((p6.toUInt32 >>> ((3 : Int32) &&& 31).toUInt32).toInt32) &&& (3 : Int32))), .val (.int c), .unset, .unset, .unset, .unset] [])
          refine hst (fun t₀ k₀ => XS.goto XI.here hx rfl (pc0 := 67) (pc' := 73) rfl (hb hby at_67) (by decide) (by decide) k₀) ?_
          show F s₁ (mkF m 73 #[.val (.int p1), .val (.int b), .val (.int c), .val (.int p4), .val (.int p5), .val (.int p6), .val (.int (((p6.toUInt32 >>> ((3 : Int32) &&& 31).toUInt32).toInt32) &&& (3 : Int32))), .val (.int c), .unset, .unset, .unset, .unset] [])
          exact J73 b c (((p6.toUInt32 >>> ((3 : Int32) &&& 31).toUInt32).toInt32) &&& (3 : Int32)) c
        · -- pc 61: taken
          refine hst (fun t₀ k₀ => XS.icmpYes XI.here hx rfl (pc0 := 61) (pc' := 70) rfl (hb hby at_61) rfl (feq hc61).2 (by decide) (by decide) k₀) ?_
          show F s₁ (mkF m 70 #[.val (.int p1), .val (.int b), .val (.int c), .val (.int p4), .val (.int p5), .val (.int p6), .val (.int (((p6.toUInt32 >>> ((3 : Int32) &&& 31).toUInt32).toInt32) &&& (3 : Int32))), .unset, .unset, .unset, .unset, .unset] [])
          refine hst (fun t₀ k₀ => XS.iloadN XI.here hx rfl (hb hby at_70) rfl k₀) ?_
          show F s₁ (mkF m 71 #[.val (.int p1), .val (.int b), .val (.int c), .val (.int p4), .val (.int p5), .val (.int p6), .val (.int (((p6.toUInt32 >>> ((3 : Int32) &&& 31).toUInt32).toInt32) &&& (3 : Int32))), .unset, .unset, .unset, .unset, .unset] [(.int p4)])
          refine hst (fun t₀ k₀ => XS.istore XI.here hx rfl (hb hby at_71) rfl (l' := #[.val (.int p1), .val (.int b), .val (.int c), .val (.int p4), .val (.int p5), .val (.int p6), .val (.int (((p6.toUInt32 >>> ((3 : Int32) &&& 31).toUInt32).toInt32) &&& (3 : Int32))), .val (.int p4), .unset, .unset, .unset, .unset]) rfl k₀) ?_
          show F s₁ (mkF m 73 #[.val (.int p1), .val (.int b), .val (.int c), .val (.int p4), .val (.int p5), .val (.int p6), .val (.int (((p6.toUInt32 >>> ((3 : Int32) &&& 31).toUInt32).toInt32) &&& (3 : Int32))), .val (.int p4), .unset, .unset, .unset, .unset] [])
          exact J73 b c (((p6.toUInt32 >>> ((3 : Int32) &&& 31).toUInt32).toInt32) &&& (3 : Int32)) p4
  have J18 : ∀ b c : Int32, F s₁ (mkF m 18 #[.val (.int p1), .val (.int b), .val (.int c), .val (.int p4), .val (.int p5), .val (.int p6), .unset, .unset, .unset, .unset, .unset, .unset] []) := by
    intro b c
    show F s₁ (mkF m 18 #[.val (.int p1), .val (.int b), .val (.int c), .val (.int p4), .val (.int p5), .val (.int p6), .unset, .unset, .unset, .unset, .unset, .unset] [])
    refine hst (fun t₀ k₀ => XS.iload XI.here hx rfl (hb hby at_18) rfl k₀) ?_
    show F s₁ (mkF m 20 #[.val (.int p1), .val (.int b), .val (.int c), .val (.int p4), .val (.int p5), .val (.int p6), .unset, .unset, .unset, .unset, .unset, .unset] [(.int p6)])
    refine hst (fun t₀ k₀ => XS.iconst XI.here hx rfl (hb hby at_20) k₀) ?_
    show F s₁ (mkF m 21 #[.val (.int p1), .val (.int b), .val (.int c), .val (.int p4), .val (.int p5), .val (.int p6), .unset, .unset, .unset, .unset, .unset, .unset] [(.int (4 : Int32)), (.int p6)])
    refine hst (fun t₀ k₀ => XS.iand XI.here hx rfl (hb hby at_21) rfl k₀) ?_
    show F s₁ (mkF m 22 #[.val (.int p1), .val (.int b), .val (.int c), .val (.int p4), .val (.int p5), .val (.int p6), .unset, .unset, .unset, .unset, .unset, .unset] [(.int (p6 &&& (4 : Int32)))])
    by_cases hc22 : (p6 &&& (4 : Int32)) = (0 : Int32)
    · -- pc 22: taken
      refine hst (fun t₀ k₀ => XS.ifYes XI.here hx rfl (pc0 := 22) (pc' := 27) rfl (hb hby at_22) rfl ((if0 _ _).trans (teq hc22).1) (by decide) (by decide) k₀) ?_
      show F s₁ (mkF m 27 #[.val (.int p1), .val (.int b), .val (.int c), .val (.int p4), .val (.int p5), .val (.int p6), .unset, .unset, .unset, .unset, .unset, .unset] [])
      exact J27 b c
    · -- pc 22: not taken
      refine hst (fun t₀ k₀ => XS.ifNo XI.here hx rfl (hb hby at_22) rfl ((if0 _ _).trans (feq hc22).1) k₀) ?_
      show F s₁ (mkF m 25 #[.val (.int p1), .val (.int b), .val (.int c), .val (.int p4), .val (.int p5), .val (.int p6), .unset, .unset, .unset, .unset, .unset, .unset] [])
      refine hst (fun t₀ k₀ => XS.iloadN XI.here hx rfl (hb hby at_25) rfl k₀) ?_
      show F s₁ (mkF m 26 #[.val (.int p1), .val (.int b), .val (.int c), .val (.int p4), .val (.int p5), .val (.int p6), .unset, .unset, .unset, .unset, .unset, .unset] [(.int b)])
      refine hst (fun t₀ k₀ => XS.istoreN XI.here hx rfl (hb hby at_26) rfl (l' := #[.val (.int p1), .val (.int b), .val (.int b), .val (.int p4), .val (.int p5), .val (.int p6), .unset, .unset, .unset, .unset, .unset, .unset]) rfl k₀) ?_
      show F s₁ (mkF m 27 #[.val (.int p1), .val (.int b), .val (.int b), .val (.int p4), .val (.int p5), .val (.int p6), .unset, .unset, .unset, .unset, .unset, .unset] [])
      exact J27 b b
  have J9 : ∀ b : Int32, F s₁ (mkF m 9 #[.val (.int p1), .val (.int b), .val (.int p3), .val (.int p4), .val (.int p5), .val (.int p6), .unset, .unset, .unset, .unset, .unset, .unset] []) := by
    intro b
    show F s₁ (mkF m 9 #[.val (.int p1), .val (.int b), .val (.int p3), .val (.int p4), .val (.int p5), .val (.int p6), .unset, .unset, .unset, .unset, .unset, .unset] [])
    refine hst (fun t₀ k₀ => XS.iload XI.here hx rfl (hb hby at_9) rfl k₀) ?_
    show F s₁ (mkF m 11 #[.val (.int p1), .val (.int b), .val (.int p3), .val (.int p4), .val (.int p5), .val (.int p6), .unset, .unset, .unset, .unset, .unset, .unset] [(.int p6)])
    refine hst (fun t₀ k₀ => XS.iconst XI.here hx rfl (hb hby at_11) k₀) ?_
    show F s₁ (mkF m 12 #[.val (.int p1), .val (.int b), .val (.int p3), .val (.int p4), .val (.int p5), .val (.int p6), .unset, .unset, .unset, .unset, .unset, .unset] [(.int (2 : Int32)), (.int p6)])
    refine hst (fun t₀ k₀ => XS.iand XI.here hx rfl (hb hby at_12) rfl k₀) ?_
    show F s₁ (mkF m 13 #[.val (.int p1), .val (.int b), .val (.int p3), .val (.int p4), .val (.int p5), .val (.int p6), .unset, .unset, .unset, .unset, .unset, .unset] [(.int (p6 &&& (2 : Int32)))])
    by_cases hc13 : (p6 &&& (2 : Int32)) = (0 : Int32)
    · -- pc 13: taken
      refine hst (fun t₀ k₀ => XS.ifYes XI.here hx rfl (pc0 := 13) (pc' := 18) rfl (hb hby at_13) rfl ((if0 _ _).trans (teq hc13).1) (by decide) (by decide) k₀) ?_
      show F s₁ (mkF m 18 #[.val (.int p1), .val (.int b), .val (.int p3), .val (.int p4), .val (.int p5), .val (.int p6), .unset, .unset, .unset, .unset, .unset, .unset] [])
      exact J18 b p3
    · -- pc 13: not taken
      refine hst (fun t₀ k₀ => XS.ifNo XI.here hx rfl (hb hby at_13) rfl ((if0 _ _).trans (feq hc13).1) k₀) ?_
      show F s₁ (mkF m 16 #[.val (.int p1), .val (.int b), .val (.int p3), .val (.int p4), .val (.int p5), .val (.int p6), .unset, .unset, .unset, .unset, .unset, .unset] [])
      refine hst (fun t₀ k₀ => XS.iloadN XI.here hx rfl (hb hby at_16) rfl k₀) ?_
      show F s₁ (mkF m 17 #[.val (.int p1), .val (.int b), .val (.int p3), .val (.int p4), .val (.int p5), .val (.int p6), .unset, .unset, .unset, .unset, .unset, .unset] [(.int p1)])
      refine hst (fun t₀ k₀ => XS.istoreN XI.here hx rfl (hb hby at_17) rfl (l' := #[.val (.int p1), .val (.int b), .val (.int p1), .val (.int p4), .val (.int p5), .val (.int p6), .unset, .unset, .unset, .unset, .unset, .unset]) rfl k₀) ?_
      show F s₁ (mkF m 18 #[.val (.int p1), .val (.int b), .val (.int p1), .val (.int p4), .val (.int p5), .val (.int p6), .unset, .unset, .unset, .unset, .unset, .unset] [])
      exact J18 b p1
  refine hst (fun t₀ k₀ => XS.iload XI.here hx rfl (hb hby at_0) rfl k₀) ?_
  show F s₁ (mkF m 2 #[.val (.int p1), .val (.int p2), .val (.int p3), .val (.int p4), .val (.int p5), .val (.int p6), .unset, .unset, .unset, .unset, .unset, .unset] [(.int p6)])
  refine hst (fun t₀ k₀ => XS.iconst XI.here hx rfl (hb hby at_2) k₀) ?_
  show F s₁ (mkF m 3 #[.val (.int p1), .val (.int p2), .val (.int p3), .val (.int p4), .val (.int p5), .val (.int p6), .unset, .unset, .unset, .unset, .unset, .unset] [(.int (1 : Int32)), (.int p6)])
  refine hst (fun t₀ k₀ => XS.iand XI.here hx rfl (hb hby at_3) rfl k₀) ?_
  show F s₁ (mkF m 4 #[.val (.int p1), .val (.int p2), .val (.int p3), .val (.int p4), .val (.int p5), .val (.int p6), .unset, .unset, .unset, .unset, .unset, .unset] [(.int (p6 &&& (1 : Int32)))])
  by_cases hc4 : (p6 &&& (1 : Int32)) = (0 : Int32)
  · -- pc 4: taken
    refine hst (fun t₀ k₀ => XS.ifYes XI.here hx rfl (pc0 := 4) (pc' := 9) rfl (hb hby at_4) rfl ((if0 _ _).trans (teq hc4).1) (by decide) (by decide) k₀) ?_
    show F s₁ (mkF m 9 #[.val (.int p1), .val (.int p2), .val (.int p3), .val (.int p4), .val (.int p5), .val (.int p6), .unset, .unset, .unset, .unset, .unset, .unset] [])
    exact J9 p2
  · -- pc 4: not taken
    refine hst (fun t₀ k₀ => XS.ifNo XI.here hx rfl (hb hby at_4) rfl ((if0 _ _).trans (feq hc4).1) k₀) ?_
    show F s₁ (mkF m 7 #[.val (.int p1), .val (.int p2), .val (.int p3), .val (.int p4), .val (.int p5), .val (.int p6), .unset, .unset, .unset, .unset, .unset, .unset] [])
    refine hst (fun t₀ k₀ => XS.iloadN XI.here hx rfl (hb hby at_7) rfl k₀) ?_
    show F s₁ (mkF m 8 #[.val (.int p1), .val (.int p2), .val (.int p3), .val (.int p4), .val (.int p5), .val (.int p6), .unset, .unset, .unset, .unset, .unset, .unset] [(.int p1)])
    refine hst (fun t₀ k₀ => XS.istoreN XI.here hx rfl (hb hby at_8) rfl (l' := #[.val (.int p1), .val (.int p1), .val (.int p3), .val (.int p4), .val (.int p5), .val (.int p6), .unset, .unset, .unset, .unset, .unset, .unset]) rfl k₀) ?_
    show F s₁ (mkF m 9 #[.val (.int p1), .val (.int p1), .val (.int p3), .val (.int p4), .val (.int p5), .val (.int p6), .unset, .unset, .unset, .unset, .unset, .unset] [])
    exact J9 p1
set_option maxRecDepth 65536 in
set_option maxHeartbeats 40000000 in
theorem comes_1 {Post : Tables → Env → Array Value → State → Outcome → State → Prop} (hpost : ∀ tb e args s v u, (limb_1_1.after args s (.returned v) u = true ∧ limb_1_2.after args s (.returned v) u = true ∧ True) → FrameEnd s (.returned v) u (Jvm.fieldLocs frame_1_writes args s ++ Jvm.arrayLocs frame_1_arrays args s ++ Jvm.staticLocs frame_1_statics s) 16 256 → Post tb e args s (.returned v) u) :
    ArmFor flags0 classFile x code maxLocals ret World_1 tables_1 room_1 Calls_1 rest_1 Pre_1 Post := by
  intro l hfl _ _ p e ha hc hk s m args below hf hA hF happ hP
  obtain ⟨hcalls, hrest, hpre⟩ := hP
  obtain ⟨-, -, -, hnamed, -, -, -, hat⟩ := (Spec.applies_iff hf).mp happ
  obtain ⟨hg, hn⟩ := and_e (Cond.before_iff.mp (show (Jvm.Cond.and given_1 narrow_1).before args s = true from hpre))
  obtain ⟨g1, g2⟩ := and_e hg
  obtain ⟨g3, g4⟩ := and_e g2
  obtain ⟨g5, g6⟩ := and_e g4
  obtain ⟨g7, g8⟩ := and_e g6
  obtain ⟨g9, g10⟩ := and_e g8
  obtain ⟨g11, g12⟩ := and_e g10
  obtain ⟨w0, w1, w2, w3, w4, w5, rfl⟩ : ∃ w0 w1 w2 w3 w4 w5 : Value, args = #[w0, w1, w2, w3, w4, w5] := by
    have hs : args.size = 6 := by simpa [Cond.value, given_1] using g1
    obtain ⟨L⟩ := args
    match L, hs with
    | [w0, w1, w2, w3, w4, w5], _ => exact ⟨w0, w1, w2, w3, w4, w5, rfl⟩
  have hw := fun d (hd : d ∈ tables_1) => atoms_spec (ws := Jvm.Cond.code x code maxLocals ret :: tables_1) hat d (List.mem_cons_of_mem _ hd)
  obtain ⟨i0, ei0⟩ := is_v g3
  obtain rfl : w0 = (.int i0) := Option.some.inj ei0
  obtain ⟨i1, ei1⟩ := is_v g5
  obtain rfl : w1 = (.int i1) := Option.some.inj ei1
  obtain ⟨i2, ei2⟩ := is_v g7
  obtain rfl : w2 = (.int i2) := Option.some.inj ei2
  obtain ⟨i3, ei3⟩ := is_v g9
  obtain rfl : w3 = (.int i3) := Option.some.inj ei3
  obtain ⟨i4, ei4⟩ := is_v g11
  obtain rfl : w4 = (.int i4) := Option.some.inj ei4
  obtain ⟨i5, ei5⟩ := is_v g12
  obtain rfl : w5 = (.int i5) := Option.some.inj ei5
  obtain ⟨n, o, h1, h2, h3, _, L, rfl, ⟨rfl, N⟩, hq⟩ := rm0 l s _ hw tables_1 i0 i1 i2 i3 i4 i5 s.heap s.heap.size (Nat.le_refl _) p e ha hc hk s m _ below hf ((Spec.applies_iff_loose hf).mp happ).1 ⟨rfl, State.Warmed39.refl s, rfl⟩ trivial
  refine ⟨n, _, h1, h2, h3, hpost _ _ _ _ _ _ ⟨Cond.after_iff.mpr rfl, Cond.after_iff.mpr (eq_i res_at (Term.int_eval (1)) rfl), trivial⟩ ⟨hq.1, hq.2.1, (hq.2.2.sift fun y hy => Or.inr (N y hy)).mono (by decide) (by decide)⟩⟩
theorem main_1_1 : Claimed_1_1 := comes_1 fun _ _ _ _ _ _ h hF => ⟨h.1, hF⟩
theorem main_1_2 : Claimed_1_2 := comes_1 fun _ _ _ _ _ _ h hF => ⟨h.2.1, hF⟩
end Jvm.Pilot.@@N@@
namespace Jvm.Pilot.@@N@@
open Jvm Jvm.ClassFile Sem Op Lib Jvm.Free Jvm.Stand Jvm.Pilot.@@N@@.Jvm.D
/-! MADE BY PROGRAM (witnessworld.py) out of the Statement's table words and the real class files: 9 classes; the members and pool entries that the words name. The judged class is class 1, her method 1. -/
namespace start1
open Jvm.ClassFile
def u (s : String) : CpInfo := .utf8 (stringToUtf16 s)
/-- a pool by its gaps: so many unusable entries, then the entry; so many at the end -/
def gap : Nat → List CpInfo → List CpInfo
  | 0, r => r
  | n + 1, r => .unusable :: gap n r
def poolList (es : List (Nat × CpInfo)) (last : Nat) : List CpInfo := es.foldr (fun e r => gap e.1 (e.2 :: r)) (gap last [])
def pool (es : List (Nat × CpInfo)) (last : Nat) : Array CpInfo := ⟨poolList es last⟩
def fileOf (pool : Array CpInfo) (this : Nat) (attrs : Array Attribute := #[]) (ms : Array MethodInfo := #[]) (fl : Nat := 33) (sup : Nat := 0) (ifs : Array Nat := #[]) (fds : Array FieldInfo := #[]) : ClassFile where
  minorVersion := 0
  majorVersion := 65
  constantPool := pool
  accessFlags := fl
  thisClass := this
  superClass := sup
  interfaces := ifs
  fields := fds
  methods := ms
  attributes := attrs
def plain (name : String) (sup : Option ClassId) : Class where
  name := name
  kind := .ordinary
  loader := none
  accessFlags := 33
  super := sup
  interfaces := #[]
  cf := none
  fields := #[]
  methods := #[]
  instanceTypes := #[]
  staticTypes := #[]
  resolved := #[]
  callSites := []
  init := .initialized
  statics := none
  mirror := none

def pool0 : Array CpInfo := pool [(5, u "<init>"), (0, u "()V"), (1, .class_ 10), (1, u "java/lang/Object")] 113

def k0c0 : Code := { maxStack := 0, maxLocals := 1, code := object_method_1_code, exceptionTable := #[], attributes := #[] }
def k0m0 : Method := { name := "<init>", desc := "()V", sig := { parameters := [], returnType := none }, accessFlags := 1, code := some k0c0 }
/-- java/lang/Object -/
def k0 : Class := { plain "java/lang/Object" none with
  accessFlags := 33
  interfaces := #[]
  cf := some (fileOf pool0 8 #[] #[{ accessFlags := 1, nameIndex := 5, descriptorIndex := 6, attributes := #[] }] 33 0 #[] #[])
  fields := #[]
  methods := #[k0m0]
  instanceTypes := #[]
  staticTypes := #[]
  resolved := Array.replicate 124 none
  statics := none }

def pool1 : Array CpInfo := pool [(2, .class_ 4), (0, .nameAndType 5 6), (0, u "java/lang/Object"), (0, u "<init>"), (0, u "()V"), (0, .class_ 8), (0, u "com/example/hoist/hoist/CreationPath"), (0, .methodref 7 3), (0, .methodref 7 11), (0, .nameAndType 12 13), (0, u "enter"), (0, u "(I)V"), (0, .methodref 7 15), (0, .nameAndType 16 6), (0, u "leave"), (0, .methodref 7 18), (0, .nameAndType 19 20), (0, u "lastIndexOf"), (0, u "(I)I"), (0, .class_ 22), (0, u "com/example/hoist/hoist/CreationPathLastIndexOfPinLaw"), (2, u "law"), (0, u "(IIIIII)Z")] 3

def k1m0 : Method := { name := "<init>", desc := "()V", sig := { parameters := [], returnType := none }, accessFlags := 1, code := none }
def k1c1 : Code := { maxStack := 2, maxLocals := 12, code := code, exceptionTable := #[], attributes := #[] }
def k1m1 : Method := { name := "law", desc := "(IIIIII)Z", sig := { parameters := [.int, .int, .int, .int, .int, .int], returnType := some .boolean }, accessFlags := 9, code := some k1c1 }
/-- com/example/hoist/hoist/CreationPathLastIndexOfPinLaw -/
def k1 : Class := { plain "com/example/hoist/hoist/CreationPathLastIndexOfPinLaw" (some 0) with
  accessFlags := 49
  interfaces := #[]
  cf := some (fileOf pool1 21 #[] #[{ accessFlags := 1, nameIndex := 5, descriptorIndex := 6, attributes := #[] }, { accessFlags := 9, nameIndex := 25, descriptorIndex := 26, attributes := #[] }] 49 2 #[] #[])
  fields := #[]
  methods := #[k1m0, k1m1]
  instanceTypes := #[]
  staticTypes := #[]
  resolved := Array.replicate 30 none
  statics := none }

def pool2 : Array CpInfo := pool [(1, .class_ 2), (0, u "com/example/hoist/hoist/CreationPath"), (0, .methodref 4 5), (0, .class_ 6), (0, .nameAndType 7 8), (0, u "java/lang/Object"), (0, u "<init>"), (0, u "()V"), (0, .fieldref 1 10), (0, .nameAndType 11 12), (0, u "slots"), (0, u "[I"), (8, u "lastIndexOf"), (0, u "(I)I"), (4, u "MARGIN"), (0, u "I"), (2, u "SIZE"), (0, u "FIRST"), (3, u "enter"), (0, u "(I)V"), (2, u "leave")] 8

def k2c0 : Code := { maxStack := 2, maxLocals := 1, code := prog_4_method_1_code, exceptionTable := #[], attributes := #[] }
def k2m0 : Method := { name := "<init>", desc := "()V", sig := { parameters := [], returnType := none }, accessFlags := 0, code := some k2c0 }
def k2c1 : Code := { maxStack := 4, maxLocals := 4, code := prog_4_method_2_code, exceptionTable := #[], attributes := #[] }
def k2m1 : Method := { name := "enter", desc := "(I)V", sig := { parameters := [.int], returnType := none }, accessFlags := 0, code := some k2c1 }
def k2c2 : Code := { maxStack := 4, maxLocals := 1, code := prog_4_method_3_code, exceptionTable := #[], attributes := #[] }
def k2m2 : Method := { name := "leave", desc := "()V", sig := { parameters := [], returnType := none }, accessFlags := 0, code := some k2c2 }
def k2c3 : Code := { maxStack := 3, maxLocals := 4, code := prog_4_method_5_code, exceptionTable := #[], attributes := #[] }
def k2m3 : Method := { name := "lastIndexOf", desc := "(I)I", sig := { parameters := [.int], returnType := some .int }, accessFlags := 0, code := some k2c3 }
/-- com/example/hoist/hoist/CreationPath -/
def k2 : Class := { plain "com/example/hoist/hoist/CreationPath" (some 0) with
  accessFlags := 32
  interfaces := #[]
  cf := some (fileOf pool2 1 #[] #[{ accessFlags := 0, nameIndex := 7, descriptorIndex := 8, attributes := #[] }, { accessFlags := 0, nameIndex := 36, descriptorIndex := 37, attributes := #[] }, { accessFlags := 0, nameIndex := 40, descriptorIndex := 8, attributes := #[] }, { accessFlags := 0, nameIndex := 21, descriptorIndex := 22, attributes := #[] }] 32 4 #[] #[{ accessFlags := 26, nameIndex := 27, descriptorIndex := 28, attributes := #[] }, { accessFlags := 26, nameIndex := 31, descriptorIndex := 28, attributes := #[] }, { accessFlags := 26, nameIndex := 32, descriptorIndex := 28, attributes := #[] }, { accessFlags := 2, nameIndex := 11, descriptorIndex := 12, attributes := #[] }])
  fields := #[{ name := "MARGIN", type := .int, accessFlags := 26, slot := 0, constantValue := 0 }, { name := "SIZE", type := .int, accessFlags := 26, slot := 1, constantValue := 0 }, { name := "FIRST", type := .int, accessFlags := 26, slot := 2, constantValue := 0 }, { name := "slots", type := (.array .int), accessFlags := 2, slot := 0, constantValue := 0 }]
  methods := #[k2m0, k2m1, k2m2, k2m3]
  instanceTypes := #[(.array .int)]
  staticTypes := #[.int, .int, .int]
  resolved := Array.replicate 49 none
  statics := none }

def pool3 : Array CpInfo := pool [(1, u "java/lang/Cloneable"), (0, .class_ 1), (0, u "java/lang/Object"), (0, .class_ 3)] 3

/-- java/lang/Cloneable -/
def k3 : Class := { plain "java/lang/Cloneable" (some 0) with
  accessFlags := 1537
  interfaces := #[]
  cf := some (fileOf pool3 2 #[] #[] 1537 4 #[] #[])
  fields := #[]
  methods := #[]
  instanceTypes := #[]
  staticTypes := #[]
  resolved := Array.replicate 8 none
  statics := none }

def pool4 : Array CpInfo := pool [(1, u "java/io/Serializable"), (0, .class_ 1), (0, u "java/lang/Object"), (0, .class_ 3)] 3

/-- java/io/Serializable -/
def k4 : Class := { plain "java/io/Serializable" (some 0) with
  accessFlags := 1537
  interfaces := #[]
  cf := some (fileOf pool4 2 #[] #[] 1537 4 #[] #[])
  fields := #[]
  methods := #[]
  instanceTypes := #[]
  staticTypes := #[]
  resolved := Array.replicate 8 none
  statics := none }

/-- the primitive byte -/
def k5 : Class := { plain "byte" none with kind := .primitive 'B', accessFlags := 0x411 }
/-- [B -/
def k6 : Class := { plain "[B" (some 0) with kind := .array 5 .byte, interfaces := #[3, 4], accessFlags := 1041 }

/-- the primitive int -/
def k7 : Class := { plain "int" none with kind := .primitive 'I', accessFlags := 0x411 }
/-- [I -/
def k8 : Class := { plain "[I" (some 0) with kind := .array 7 .int, interfaces := #[3, 4], accessFlags := 1041 }

def heap : Heap := #[]
def classes : Array Class := #[k0, k1, k2, k3, k4, k5, k6, k7, k8]
def interned : List (Array UInt16 × Addr) := []
def slotsUsed : Nat := 0
def theMethod : MethodId := ⟨1, 1⟩
def args0 : Array Value := #[.int 1, .int 2, .int 3, .int 4, .int 5, .int 6]
def aboutOver (below : List Frame) : State where
  vm := { classes := classes, interned := interned.toArray }
  heap := heap
  slotsUsed := slotsUsed
  threads := #[{ frames := .invoking theMethod args0 :: below }]
def below0 : List Frame := [.native { method := ⟨0, 0⟩, args := #[] }]
def about1 : State := aboutOver below0
def p0 : Program := .bare "" "" ""
def e0 : Env := launch0.env 0 0 0
theorem w_frames : about1.frames = Frame.invoking theMethod args0 :: below0 := rfl
set_option maxRecDepth 65536 in
theorem w_args : argsFit about1.vm theMethod args0 = true := by decide +kernel
set_option maxRecDepth 65536 in
theorem w_heap : heapFits about1 = true := by decide +kernel
set_option maxRecDepth 65536 in
theorem w_runnable : about1.curStatus? = some .runnable := by decide +kernel
set_option maxRecDepth 65536 in
theorem w_alone : about1.alone = true := by decide +kernel
set_option maxRecDepth 65536 in
theorem w_named : about1.methodNamed? x = some theMethod := by decide +kernel
set_option maxRecDepth 65536 in
theorem w_hears : about1.hears theMethod below0 = true := by decide +kernel
set_option maxRecDepth 65536 in
theorem w_ripe : about1.ripe theMethod args0 below0 = true := by decide +kernel
theorem w_running : about1.status = .running := rfl
set_option maxRecDepth 65536 in
theorem w_room : about1.hasRoom e0.platform room_1 = true :=
  launch0.hasRoom_least _ room_1 (by decide +kernel) (by decide +kernel) (by decide +kernel) (by decide +kernel) (by decide +kernel) (by decide +kernel)
theorem allAtoms_all (ts : List Jvm.Cond) (a : Array Jvm.Value) (st : Jvm.State) : (allAtoms ts).before a st = ts.all (fun c => c.before a st) := by
  induction ts with
  | nil => rfl
  | cons c t ih =>
    show (Jvm.Cond.and c (allAtoms t)).before a st = _
    rw [Jvm.Cond.before_and, ih, List.all_cons]
def words1 : List Jvm.Cond := Jvm.Cond.code x code maxLocals ret :: tables_1
/-- a 'code' word, met by the world's own term for the bytes: nothing is compared byte by byte -/
theorem code_word {y : MethodName} {bytes : ByteArray} {mx : Nat} {rt : Option FieldType} {a : Array Value} {s : State} {m : MethodId} {meth : Method} {c : Code} (h1 : s.methodNamed? y = some m) (h2 : s.vm.method? m = some meth) (h3 : meth.code = some c) (h4 : c.code = bytes)
    (h5 : (c.maxLocals == mx && c.exceptionTable.isEmpty && decide (c.maxStack ≤ mostOperands) && decide (meth.sig.returnType = rt) && !meth.locks && decide (parseMethodDescriptor y.desc = some meth.sig)) = true) : (Jvm.Cond.code y bytes mx rt).before a s = true := by
  simp only [Bool.and_eq_true, beq_iff_eq, Bool.not_eq_true', decide_eq_true_eq] at h5
  obtain ⟨⟨⟨⟨⟨g1, g2⟩, g3⟩, g4⟩, g5⟩, g6⟩ := h5
  simp [Cond.before, Cond.holds, Cond.value, h1, h2, h3, h4, g1, g2, g3, g4, g5, g6]
def isCode : Jvm.Cond → Bool
  | .code _ _ _ _ => true
  | _ => false
theorem all_split {L : List Jvm.Cond} {P : Jvm.Cond → Bool} (h1 : L.all (fun c => isCode c || P c) = true) (h2 : ∀ c ∈ L.filter isCode, P c = true) : L.all P = true := by
  refine List.all_eq_true.mpr fun c hc => ?_
  have h := List.all_eq_true.mp h1 c hc
  rcases Bool.eq_false_or_eq_true (isCode c) with hi | hi
  · exact h2 c (List.mem_filter.mpr ⟨hc, hi⟩)
  · simpa [hi] using h
set_option maxRecDepth 65536 in
theorem w_c0 : (Jvm.Cond.code x code maxLocals ret).before args0 about1 = true := code_word (m := ⟨1, 1⟩) (meth := k1m1) (c := k1c1) (by decide +kernel) rfl rfl rfl (by decide +kernel)
set_option maxRecDepth 65536 in
theorem w_c1 : (Jvm.Cond.code ({ cls := "com/example/hoist/hoist/CreationPath", name := "<init>", desc := "()V" } : Jvm.MethodName) prog_4_method_1_code (1 : Nat) (Option.none : Option Jvm.ClassFile.FieldType)).before args0 about1 = true := code_word (m := ⟨2, 0⟩) (meth := k2m0) (c := k2c0) (by decide +kernel) rfl rfl rfl (by decide +kernel)
set_option maxRecDepth 65536 in
theorem w_c2 : (Jvm.Cond.code ({ cls := "java/lang/Object", name := "<init>", desc := "()V" } : Jvm.MethodName) object_method_1_code (1 : Nat) (Option.none : Option Jvm.ClassFile.FieldType)).before args0 about1 = true := code_word (m := ⟨0, 0⟩) (meth := k0m0) (c := k0c0) (by decide +kernel) rfl rfl rfl (by decide +kernel)
set_option maxRecDepth 65536 in
theorem w_c3 : (Jvm.Cond.code ({ cls := "com/example/hoist/hoist/CreationPath", name := "lastIndexOf", desc := "(I)I" } : Jvm.MethodName) prog_4_method_5_code (4 : Nat) (Option.some Jvm.ClassFile.FieldType.int)).before args0 about1 = true := code_word (m := ⟨2, 3⟩) (meth := k2m3) (c := k2c3) (by decide +kernel) rfl rfl rfl (by decide +kernel)
set_option maxRecDepth 65536 in
theorem w_c4 : (Jvm.Cond.code ({ cls := "com/example/hoist/hoist/CreationPath", name := "enter", desc := "(I)V" } : Jvm.MethodName) prog_4_method_2_code (4 : Nat) (Option.none : Option Jvm.ClassFile.FieldType)).before args0 about1 = true := code_word (m := ⟨2, 1⟩) (meth := k2m1) (c := k2c1) (by decide +kernel) rfl rfl rfl (by decide +kernel)
set_option maxRecDepth 65536 in
theorem w_c5 : (Jvm.Cond.code ({ cls := "com/example/hoist/hoist/CreationPath", name := "leave", desc := "()V" } : Jvm.MethodName) prog_4_method_3_code (1 : Nat) (Option.none : Option Jvm.ClassFile.FieldType)).before args0 about1 = true := code_word (m := ⟨2, 2⟩) (meth := k2m2) (c := k2c2) (by decide +kernel) rfl rfl rfl (by decide +kernel)
def codes1 : List Jvm.Cond := [Jvm.Cond.code x code maxLocals ret, Jvm.Cond.code ({ cls := "com/example/hoist/hoist/CreationPath", name := "<init>", desc := "()V" } : Jvm.MethodName) prog_4_method_1_code (1 : Nat) (Option.none : Option Jvm.ClassFile.FieldType), Jvm.Cond.code ({ cls := "java/lang/Object", name := "<init>", desc := "()V" } : Jvm.MethodName) object_method_1_code (1 : Nat) (Option.none : Option Jvm.ClassFile.FieldType), Jvm.Cond.code ({ cls := "com/example/hoist/hoist/CreationPath", name := "lastIndexOf", desc := "(I)I" } : Jvm.MethodName) prog_4_method_5_code (4 : Nat) (Option.some Jvm.ClassFile.FieldType.int), Jvm.Cond.code ({ cls := "com/example/hoist/hoist/CreationPath", name := "enter", desc := "(I)V" } : Jvm.MethodName) prog_4_method_2_code (4 : Nat) (Option.none : Option Jvm.ClassFile.FieldType), Jvm.Cond.code ({ cls := "com/example/hoist/hoist/CreationPath", name := "leave", desc := "()V" } : Jvm.MethodName) prog_4_method_3_code (1 : Nat) (Option.none : Option Jvm.ClassFile.FieldType)]
set_option maxRecDepth 65536 in
theorem codes_eq : words1.filter isCode = codes1 := rfl
theorem w_codes : ∀ c ∈ words1.filter isCode, c.before args0 about1 = true := by
  rw [codes_eq]
  intro c hc
  simp only [codes1, List.mem_cons, List.not_mem_nil, or_false] at hc
  rcases hc with rfl | rfl | rfl | rfl | rfl | rfl
  · exact w_c0
  · exact w_c1
  · exact w_c2
  · exact w_c3
  · exact w_c4
  · exact w_c5
set_option maxRecDepth 65536 in
theorem w_t1 : (words1.take 24).all (fun c => isCode c || c.before args0 about1) = true := by decide +kernel
set_option maxRecDepth 65536 in
theorem w_t2 : (words1.drop 24).all (fun c => isCode c || c.before args0 about1) = true := by decide +kernel
theorem w_tables : (allAtoms (Jvm.Cond.code x code maxLocals ret :: tables_1)).before args0 about1 = true := by
  rw [allAtoms_all]
  show words1.all (fun c => c.before args0 about1) = true
  refine all_split ?_ w_codes
  rw [← List.take_append_drop 24 words1, List.all_append, w_t1, w_t2]
  rfl
set_option maxRecDepth 65536 in
theorem w_case : (Jvm.Cond.and given_1 narrow_1).before args0 about1 = true := by decide +kernel
theorem w_applies : (headSpec (Jvm.Cond.code x code maxLocals ret :: tables_1) room_1).applies x e0.platform about1 = true :=
  (Spec.applies_iff w_frames).mpr ⟨w_running, w_runnable, w_alone, w_named, w_hears, w_ripe, w_room, w_tables⟩
theorem atStart : AtStart classFile x code maxLocals ret World_1 tables_1 room_1 Calls_1 rest_1 Pre_1 launch0 p0 e0 about1 theMethod args0 below0 :=
  ⟨lists_1, trivial, launch0.admits_env _ _ _, launch0.least_env, fairChoices_fair.cas, fairChoices_fair.clock, w_frames, w_args, w_heap, w_applies, trivial, trivial, w_case⟩
end start1
theorem witness_1 : WitnessClaimed_1 := ⟨start1.p0, start1.e0, start1.about1, start1.theMethod, start1.args0, start1.below0, start1.atStart⟩
end Jvm.Pilot.@@N@@
