import JvmDerived
import JvmDerived.Pilot.@@N@@Statement
import JvmDerived.Pilot.@@N@@Code
set_option linter.unusedVariables false
set_option linter.unusedSimpArgs false
namespace Jvm.Pilot.@@N@@
open Jvm Jvm.ClassFile Sem Op Lib Jvm.Free Jvm.Stand Jvm.LawKit Jvm.RoadKit Bundle Jvm.Pilot.@@N@@.Jvm.D
/-! ## the walk's own goal: from this frame the method comes to its end, and what it leaves is Q -/
def own_Fin (tb : Tables) (e : Env) (below : List Frame) (s : State) (R : Room) (Q : Option Value → Heap → List Loc → Prop) (T : State) (g : JFrame) : Prop :=
  ∃ s₂ o, Steps tb e below (T.setTop g) s₂ ∧ s₂.status = .running ∧ Ended s₂ below o ∧ ∃ v L, o = .returned v ∧ Q v s₂.heap L ∧ FrameEnd s o s₂ L R.cells R.slots
theorem own_st {tb : Tables} {e : Env} {below : List Frame} {s : State} {R : Room} {Q : Option Value → Heap → List Loc → Prop} {T T' : State} {g g' : JFrame}
    (h : ∀ t, Steps tb e below (T'.setTop g') t → Steps tb e below (T.setTop g) t) (k : own_Fin tb e below s R Q T' g') : own_Fin tb e below s R Q T g := by
  obtain ⟨s₂, o, h1, r⟩ := k
  exact ⟨s₂, o, h _ h1, r⟩
/-- an array: its kind, its length, what lies at each place -/
def own_A (Z : State) (h : Heap) (a : Addr) (ty : FieldType) (n : Nat) (f : Nat → Value) : Prop := ∃ c : Cell, Arr Z h a c ty ∧ c.slots.size = n ∧ ∀ i, i < n → c.slots[i]? = some (f i)
section OwnArr
variable {Z : State} {h h' : Heap} {a b : Addr} {ty : FieldType} {n : Nat} {f : Nat → Value} {ws : List Addr} {sl : Nat} {v : Value}
theorem own_A.lt (F : own_A Z h a ty n f) : a < h.size := by obtain ⟨c, A, -⟩ := F; exact A.lt
theorem own_A.ext (F : own_A Z h a ty n f) (E : Ext h h') : own_A Z h' a ty n f := by obtain ⟨c, A, r⟩ := F; exact ⟨c, A.ext E, r⟩
theorem own_A.other (F : own_A Z h a ty n f) (W : Wr h h' b sl v) (q : a ≠ b) : own_A Z h' a ty n f := by obtain ⟨c, A, r⟩ := F; exact ⟨c, A.other W q, r⟩
theorem own_A.keep (F : own_A Z h a ty n f) (K : Keep h h' ws) (q : a ∉ ws) : own_A Z h' a ty n f := by obtain ⟨c, A, r⟩ := F; exact ⟨c, ⟨K.2.1 a c A.1 q, A.2⟩, r⟩
theorem own_A.congr (F : own_A Z h a ty n f) {f' : Nat → Value} (q : ∀ i, i < n → f i = f' i) : own_A Z h a ty n f' := by
  obtain ⟨c, A, r1, r2⟩ := F
  exact ⟨c, A, r1, fun i hi => by rw [r2 i hi, q i hi]⟩
theorem own_A.new {k : ClassId} {z : Int32} (A : Arr Z h a (newA k ty z) ty) : own_A Z h a ty z.toNatClampNeg (fun _ => defaultValue ty) :=
  ⟨_, A, sz_new _ _ _, fun i hi => by simp [newA, hi]⟩
theorem own_A.set (F : own_A Z h a ty n f) (W : Wr h h' a sl v) : own_A Z h' a ty n (fun i => if i = sl then v else f i) := by
  obtain ⟨c, A, r1, r2⟩ := F
  refine ⟨_, A.same W, by rw [sz_set]; exact r1, fun i hi => ?_⟩
  by_cases q : i = sl
  · subst q; simp [Cell.setSlot, r1, hi]
  · simp only [Cell.setSlot, q, if_false]; rw [Array.getElem?_setIfInBounds_ne (Ne.symm q)]; exact r2 i hi
theorem own_ne_A {c : Nat} {C : String} {a0 : Array Value} (F : Exa Z h b C) (wi : (Jvm.Cond.instantiable C c).before a0 Z = true) (G : own_A Z h a ty n f) : b ≠ a := by
  obtain ⟨cl, A, -⟩ := G; exact ne_arr F wi A
end OwnArr
section OwnStand
variable {p : Program} {l : Launch} {e : Env} {R : Room} {s : State} {m : MethodId} {args : Array Value} {below : List Frame} {meth : Method} {c : Code} {T : State} {locs : List Loc} {cells slots : Nat} {Q : Option Value → Heap → List Loc → Prop} {Z : State} {a0 : Array Value} {h : Heap}
theorem own_ret {v : Option Value} {g : JFrame} (X : Stand p l e R s m args below meth c T locs cells slots) (hv : meth.sig.returnType = none → v = none) (hlocks : meth.locks = false) (hc : cells ≤ R.cells) (hs : slots ≤ R.slots) (hQ : Q v T.heap locs)
    (hstep : ∀ fs, (∀ (f : JFrame) (acts : List Action), f.method = m → f.locked = none → f.entered = [] → (doReturn e (T.setTop f) acts v).1 = T.setFrames fs) → Steps p.tables e below (T.setTop g) (T.setFrames fs)) : own_Fin p.tables e below s R Q T g := by
  obtain ⟨fs, hr, hrun, hended, hW, hsame⟩ := X.leave hv hlocks
  exact ⟨_, _, hstep fs hr, hrun, hended, _, _, rfl, hQ, ⟨_, rfl⟩, hW, hsame.mono hc hs⟩
theorem own_retI {pc : Nat} {Ls : Array Slot} {z : Int32} {rest : List Value} (X : Stand p l e R s m args below meth c T locs cells slots) (hx : p.tables.exec = Jvm.exec) (hret : meth.sig.returnType = some .int) (hlocks : meth.locks = false) (hd : decode c.code pc = .ok (.ireturn, 1))
    (hc : cells ≤ R.cells) (hs : slots ≤ R.slots) (hQ : Q (some (.int z)) T.heap locs) : own_Fin p.tables e below s R Q T (mkF m pc Ls (.int z :: rest)) :=
  own_ret X (fun h => by rw [hret] at h; cases h) hlocks hc hs hQ fun fs hr => retOut X hx hret rfl (Or.inl ⟨rfl, Or.inl rfl, _, rfl⟩) hd hr
theorem own_retJ {pc : Nat} {Ls : Array Slot} {z : Int64} {rest : List Value} (X : Stand p l e R s m args below meth c T locs cells slots) (hx : p.tables.exec = Jvm.exec) (hret : meth.sig.returnType = some .long) (hlocks : meth.locks = false) (hd : decode c.code pc = .ok (.lreturn, 1))
    (hc : cells ≤ R.cells) (hs : slots ≤ R.slots) (hQ : Q (some (.long z)) T.heap locs) : own_Fin p.tables e below s R Q T (mkF m pc Ls (.long z :: rest)) :=
  own_ret X (fun h => by rw [hret] at h; cases h) hlocks hc hs hQ fun fs hr => retOut X hx hret rfl (Or.inr (Or.inl ⟨rfl, rfl, _, rfl⟩)) hd hr
theorem own_retA {pc : Nat} {Ls : Array Slot} {t : FieldType} {b : Addr} {rest : List Value} (X : Stand p l e R s m args below meth c T locs cells slots) (hx : p.tables.exec = Jvm.exec) (hret : meth.sig.returnType = some t) (ht : t.isReference = true) (hn : narrow t (.ref b) = .ref b) (hlocks : meth.locks = false) (hd : decode c.code pc = .ok (.areturn, 1))
    (hc : cells ≤ R.cells) (hs : slots ≤ R.slots) (hQ : Q (some (.ref b)) T.heap locs) : own_Fin p.tables e below s R Q T (mkF m pc Ls (.ref b :: rest)) :=
  own_ret X (fun h => by rw [hret] at h; cases h) hlocks hc hs hQ fun fs hr => retOut X hx hret hn (Or.inr (Or.inr (Or.inr (Or.inr ⟨rfl, ht, rfl⟩)))) hd hr
theorem own_retN {pc : Nat} {Ls : Array Slot} {t : FieldType} {z : Int32} {rest : List Value} (X : Stand p l e R s m args below meth c T locs cells slots) (hx : p.tables.exec = Jvm.exec) (hret : meth.sig.returnType = some t) (ht : t = .boolean ∨ t = .byte ∨ t = .char ∨ t = .short) (hlocks : meth.locks = false) (hd : decode c.code pc = .ok (.ireturn, 1))
    (hc : cells ≤ R.cells) (hs : slots ≤ R.slots) (hQ : Q (some (.int (nar t z))) T.heap locs) : own_Fin p.tables e below s R Q T (mkF m pc Ls (.int z :: rest)) :=
  own_ret X (fun h => by rw [hret] at h; cases h) hlocks hc hs hQ fun fs hr => retN X hx hret ht hd hr
theorem own_retV {pc : Nat} {Ls : Array Slot} (X : Stand p l e R s m args below meth c T locs cells slots) (hx : p.tables.exec = Jvm.exec) (hret : meth.sig.returnType = none) (hlocks : meth.locks = false) (hd : decode c.code pc = .ok (.return_, 1))
    (hc : cells ≤ R.cells) (hs : slots ≤ R.slots) (hQ : Q none T.heap locs) : own_Fin p.tables e below s R Q T (mkF m pc Ls []) :=
  own_ret X (fun _ => rfl) hlocks hc hs hQ fun fs hr => X.returnOut hx hret hd hr
theorem own_iaload {n : Nat} {f : Nat → Value} {a : Addr} {j : Int32} {v : Value} {g : JFrame} {rest : List Value} (X : Stand p l e R s m args below meth c T locs cells slots) (hx : p.tables.exec = Jvm.exec) (hZ : Z.Warmed39 s.vm) (eT : T.heap = h) (F : own_A Z h a .int n f) (hj : ¬ (j < 0 ∨ n ≤ j.toNatClampNeg)) (hv : f j.toNatClampNeg = v)
    (hg : g.method = m) (hs : g.stack = .int j :: .ref a :: rest) (hd : decode c.code g.pc = .ok (.iaload, 1)) (t : State) (k : Steps p.tables e below (T.setTop { g with pc := g.pc + 1, stack := v :: rest }) t) : Steps p.tables e below (T.setTop g) t := by
  obtain ⟨cl, A, r1, r2⟩ := F
  exact X.iaload hx (by rw [eT]; exact A.1) (State.isArrayOf_alike hZ.alike A.2.1) A.2.2 (by rw [r1]; exact hj) (by rw [r2 _ (Nat.lt_of_not_le fun q => hj (Or.inr q)), hv]) hg hs hd t k
theorem own_laload {n : Nat} {f : Nat → Value} {a : Addr} {j : Int32} {v : Value} {g : JFrame} {rest : List Value} (X : Stand p l e R s m args below meth c T locs cells slots) (hx : p.tables.exec = Jvm.exec) (hZ : Z.Warmed39 s.vm) (eT : T.heap = h) (F : own_A Z h a .long n f) (hj : ¬ (j < 0 ∨ n ≤ j.toNatClampNeg)) (hv : f j.toNatClampNeg = v)
    (hg : g.method = m) (hs : g.stack = .int j :: .ref a :: rest) (hd : decode c.code g.pc = .ok (.laload, 1)) (t : State) (k : Steps p.tables e below (T.setTop { g with pc := g.pc + 1, stack := v :: rest }) t) : Steps p.tables e below (T.setTop g) t := by
  obtain ⟨cl, A, r1, r2⟩ := F
  exact X.laload hx (by rw [eT]; exact A.1) (State.isArrayOf_alike hZ.alike A.2.1) A.2.2 (by rw [r1]; exact hj) (by rw [r2 _ (Nat.lt_of_not_le fun q => hj (Or.inr q)), hv]) hg hs hd t k
theorem own_baload {n : Nat} {f : Nat → Value} {a : Addr} {j : Int32} {v : Value} {g : JFrame} {rest : List Value} (X : Stand p l e R s m args below meth c T locs cells slots) (hx : p.tables.exec = Jvm.exec) (hZ : Z.Warmed39 s.vm) (eT : T.heap = h) (F : own_A Z h a .byte n f) (hj : ¬ (j < 0 ∨ n ≤ j.toNatClampNeg)) (hv : f j.toNatClampNeg = v)
    (hg : g.method = m) (hs : g.stack = .int j :: .ref a :: rest) (hd : decode c.code g.pc = .ok (.baload, 1)) (t : State) (k : Steps p.tables e below (T.setTop { g with pc := g.pc + 1, stack := v :: rest }) t) : Steps p.tables e below (T.setTop g) t := by
  obtain ⟨cl, A, r1, r2⟩ := F
  exact X.baloadBytes hx (by rw [eT]; exact A.1) (State.isArrayOf_alike hZ.alike A.2.1) A.2.2 (by rw [r1]; exact hj) (by rw [r2 _ (Nat.lt_of_not_le fun q => hj (Or.inr q)), hv]) hg hs hd t k
theorem own_alen {ty : FieldType} {n : Nat} {f : Nat → Value} {a : Addr} {z : Int32} {g : JFrame} {rest : List Value} (X : Stand p l e R s m args below meth c T locs cells slots) (hx : p.tables.exec = Jvm.exec) (hZ : Z.Warmed39 s.vm) (eT : T.heap = h) (F : own_A Z h a ty n f) (hz : n.toInt32 = z)
    (hg : g.method = m) (hs : g.stack = .ref a :: rest) (hd : decode c.code g.pc = .ok (.arraylength, 1)) (t : State) (k : Steps p.tables e below (T.setTop { g with pc := g.pc + 1, stack := .int z :: rest }) t) : Steps p.tables e below (T.setTop g) t := by
  obtain ⟨cl, A, r1, r2⟩ := F
  subst hz
  exact X.arraylength hx (by rw [eT]; exact A.1) (State.isArrayOf_alike hZ.alike A.2.1) hg hs hd t (by rw [r1]; exact k)
theorem own_iastore {n : Nat} {f : Nat → Value} {a : Addr} {j x : Int32} {g : JFrame} {rest : List Value} (X : Stand p l e R s m args below meth c T locs cells slots) (hx : p.tables.exec = Jvm.exec) (hZ : Z.Warmed39 s.vm) (eT : T.heap = h) (F : own_A Z h a .int n f) (hj : ¬ (j < 0 ∨ n ≤ j.toNatClampNeg))
    (hg : g.method = m) (hs : g.stack = .int x :: .int j :: .ref a :: rest) (hd : decode c.code g.pc = .ok (.iastore, 1)) :
    ∃ T' h', Stand p l e R s m args below meth c T' (locs ++ [⟨a, j.toNatClampNeg⟩]) cells slots ∧ T'.heap = h' ∧ Wr h h' a j.toNatClampNeg (.int x) ∧ ∀ target, Steps p.tables e below (T'.setTop { g with pc := g.pc + 1, stack := rest }) target → Steps p.tables e below (T.setTop g) target := by
  obtain ⟨cl, A, r1, r2⟩ := F
  exact stI X hx hZ eT A (by rw [r1]; exact hj) hg hs hd
theorem own_lastore {n : Nat} {f : Nat → Value} {a : Addr} {j : Int32} {x : Int64} {g : JFrame} {rest : List Value} (X : Stand p l e R s m args below meth c T locs cells slots) (hx : p.tables.exec = Jvm.exec) (hZ : Z.Warmed39 s.vm) (eT : T.heap = h) (F : own_A Z h a .long n f) (hj : ¬ (j < 0 ∨ n ≤ j.toNatClampNeg))
    (hg : g.method = m) (hs : g.stack = .long x :: .int j :: .ref a :: rest) (hd : decode c.code g.pc = .ok (.lastore, 1)) :
    ∃ T' h', Stand p l e R s m args below meth c T' (locs ++ [⟨a, j.toNatClampNeg⟩]) cells slots ∧ T'.heap = h' ∧ Wr h h' a j.toNatClampNeg (.long x) ∧ ∀ target, Steps p.tables e below (T'.setTop { g with pc := g.pc + 1, stack := rest }) target → Steps p.tables e below (T.setTop g) target := by
  obtain ⟨cl, A, r1, r2⟩ := F
  exact stJ X hx hZ eT A (by rw [r1]; exact hj) hg hs hd
theorem own_bastore {n : Nat} {f : Nat → Value} {a : Addr} {j x : Int32} {g : JFrame} {rest : List Value} (X : Stand p l e R s m args below meth c T locs cells slots) (hx : p.tables.exec = Jvm.exec) (hZ : Z.Warmed39 s.vm) (eT : T.heap = h) (F : own_A Z h a .byte n f) (hj : ¬ (j < 0 ∨ n ≤ j.toNatClampNeg))
    (hg : g.method = m) (hs : g.stack = .int x :: .int j :: .ref a :: rest) (hd : decode c.code g.pc = .ok (.bastore, 1)) :
    ∃ T' h', Stand p l e R s m args below meth c T' (locs ++ [⟨a, j.toNatClampNeg⟩]) cells slots ∧ T'.heap = h' ∧ Wr h h' a j.toNatClampNeg (.int (nar .byte x)) ∧ ∀ target, Steps p.tables e below (T'.setTop { g with pc := g.pc + 1, stack := rest }) target → Steps p.tables e below (T.setTop g) target := by
  obtain ⟨cl, A, r1, r2⟩ := F
  exact stB X hx hZ eT A (by rw [r1]; exact hj) hg hs hd
theorem own_newarr {aty : ArrayType} {n : Int32} {rest : List Value} {g : JFrame} (X : Stand p l e R s m args below meth c T locs cells slots) (hx : p.tables.exec = Jvm.exec) (hZ : Z.Warmed39 s.vm) (w : (Jvm.Cond.arrayClass (newarray.typeOf aty)).before a0 Z = true) (eT : T.heap = h) (hg : g.method = m) (hd : decode c.code g.pc = .ok (.newarray aty, 2)) (hs : g.stack = .int n :: rest)
    (hn : ¬ n < 0) {cap : Nat} (hcap : n.toNatClampNeg ≤ cap) (hb : cap * 8 ≤ 536870912) (hc : cells + 1 ≤ R.cells) (hl : slots + cap ≤ R.slots) :
    ∃ T' h' a, Stand p l e R s m args below meth c T' locs (cells + 1) (slots + cap) ∧ T'.heap = h' ∧ a = h.size ∧ Ext h h' ∧ own_A Z h' a (newarray.typeOf aty) n.toNatClampNeg (fun _ => defaultValue (newarray.typeOf aty)) ∧
      ∀ target, Steps p.tables e below (T'.setTop { g with pc := g.pc + 2, stack := .ref a :: rest }) target → Steps p.tables e below (T.setTop g) target := by
  obtain ⟨T', h', cA, X', e', E', A', st⟩ := newP X hx hZ w eT hg hd hs hn hcap hb hc hl
  exact ⟨T', h', _, X', e', rfl, E', own_A.new A', st⟩
theorem own_new {own C : String} {index n : Nat} {g : JFrame} (X : Stand p l e R s m args below meth c T locs cells slots) (hx : p.tables.exec = Jvm.exec) (hZ : Z.Warmed39 s.vm) (hown : s.vm.findClass own = some m.cls) (w : (Jvm.Cond.classLink own index C).before a0 Z = true) (wi : (Jvm.Cond.instantiable C n).before a0 Z = true) (wz : (Jvm.Cond.initialized C).before a0 Z = true) (eT : T.heap = h)
    (hg : g.method = m) (hd : decode c.code g.pc = .ok (.new index, 3)) (hc : cells + 1 ≤ R.cells) (hl : slots + n ≤ R.slots) :
    ∃ T' h' a, Stand p l e R s m args below meth c T' locs (cells + 1) (slots + n) ∧ T'.heap = h' ∧ a = h.size ∧ Ext h h' ∧ Exa Z h' a C ∧ (∀ {O nm d : String} {ty : FieldType}, Laid Z a0 C O nm d → parseFieldDescriptor d = some ty → Fld Z h' a O nm d (defaultValue ty)) ∧
      ∀ target, Steps p.tables e below (T'.setTop { g with pc := g.pc + 3, stack := .ref a :: g.stack }) target → Steps p.tables e below (T.setTop g) target := by
  obtain ⟨T', h', X', e', E', A', D', -, st⟩ := newO X hx hZ hown w wi wz eT hg hd hc hl
  exact ⟨T', h', _, X', e', rfl, E', A', D', st⟩
theorem own_body {y : MethodName} {bytes : ByteArray} {maxL : Nat} {ret : Option FieldType} {ws : List Jvm.Cond} {rm : Room} {as' : Array Value} {h0 : Heap} (hpl : plainFor y = true)
    (body : ∀ (p : Program) (e : Env) (s : State) (m : MethodId) (below : List Frame) (meth : Method) (c : Code) (s₁ : State), p.tables.exec = Jvm.exec → c.code = bytes → c.maxLocals = maxL → s.vm.findClass y.cls = some m.cls → meth.name = y.name → meth.sig.returnType = ret → meth.locks = false → Z.Warmed39 s.vm → Stand p l e rm s m as' below meth c s₁ [] 0 0 → s₁.heap = h0 → own_Fin p.tables e below s rm Q s₁ (entryFrame m as' maxL)) :
    MetFree l y (head1 (Jvm.Cond.code y bytes maxL ret :: ws) rm) (fun a U => a = as' ∧ Z.Warmed39 U.vm ∧ U.heap = h0) (fun _ _ _ _ _ => True) (fun _ U o U' => ∃ v L, o = .returned v ∧ Q v U'.heap L ∧ FrameEnd U o U' L rm.cells rm.slots) := by
  refine MetFree.of_bodySF hpl hisR ?_
  intro p e s m args below meth c s₁ Bd hml0 hP hK
  obtain ⟨rfl, hZ, hh⟩ := hP
  exact body p e s m below meth c s₁ Bd.exec Bd.bytes hml0 (findClass_of_methodNamed Bd.named) (name_of_methodNamed Bd.named Bd.method).1 Bd.returns Bd.notSynchronized hZ (Stand.of_body Bd) (by rw [← hh, Bd.state]; rfl)
theorem own_callS {own : String} {index : Nat} {y : MethodName} {bytes : ByteArray} {maxL W : Nat} {ret : Option FieldType} {rm : Room} {as' : Array Value} {g : JFrame} {argsL rest : List Value}
    (X : Stand p l e R s m args below meth c T locs cells slots) (hx : p.tables.exec = Jvm.exec) (hZ : Z.Warmed39 s.vm) (hown : s.vm.findClass own = some m.cls)
    (w1 : (Jvm.Cond.methodLink own index y).before a0 Z = true) (w2 : (Jvm.Cond.static y).before a0 Z = true) (w3 : (Jvm.Cond.initialized y.cls).before a0 Z = true) (w4 : (Jvm.Cond.code y bytes maxL ret).before a0 Z = true)
    (hy : y.cls ≠ "java/lang/invoke/MethodHandle" ∧ y.cls ≠ "java/lang/invoke/VarHandle") (eT : T.heap = h)
    (hM : MetFree l y (head1 [Jvm.Cond.code y bytes maxL ret] rm) (fun a U => a = as' ∧ Z.Warmed39 U.vm ∧ U.heap = h) (fun _ _ _ _ _ => True) (fun _ U o U' => ∃ v L, o = .returned v ∧ Q v U'.heap L ∧ FrameEnd U o U' L rm.cells rm.slots))
    (hf : rm.frames + 1 ≤ R.frames) (hl : W + (maxL + 11) + rm.locals ≤ R.locals) (hg : g.method = m) (hsize : g.locals.size = c.maxLocals) (hlen : ∀ sig, parseMethodDescriptor y.desc = some sig → argsL.length = sig.parameters.length)
    (hstack : g.stack = argsL.reverse ++ rest) (has : argsL.toArray = as') (hW : 2 * g.monitorRoom + (rest.map fun v => v.category).sum ≤ W) (hdg : decode c.code g.pc = .ok (.invokestatic index, 3)) (hc : cells + rm.cells ≤ R.cells) (hs : slots + rm.slots ≤ R.slots) :
    ∃ (v : Option Value) (T' : State) (L : List Loc), Stand p l e R s m args below meth c T' (locs ++ L) (cells + rm.cells) (slots + rm.slots) ∧ Q v T'.heap L ∧
      ∀ target, Steps p.tables e below (T'.setTop { g with pc := g.pc + 3, stack := v.toList ++ rest }) target → Steps p.tables e below (T.setTop g) target := by
  obtain ⟨v, _, ⟨T', L', k', n'⟩, -, X', ⟨Lc, hQ, l', y', z'⟩, st⟩ := Jvm.LawKit.callS X hx (y := y) hown (mvT hZ w1) (mvT hZ w2) (mvT hZ w3) (mvT hZ w4) hy (backOf (W := W) hM hZ w4 w3 hf hl) hg hsize hlen hstack hW hdg (fun _ _ => ⟨has, eT, hc, hs⟩)
  dsimp only [Pt.U, Pt.locs, Pt.cells, Pt.slots] at X' l' y' z' st hQ
  subst l' y' z'
  exact ⟨v, T', Lc, X', hQ, st⟩
theorem own_callN {own : String} {index : Nat} {y : MethodName} {bytes : ByteArray} {maxL W : Nat} {rm : Room} {as' : Array Value} {g : JFrame} {a : Addr} {argsL rest : List Value}
    (X : Stand p l e R s m args below meth c T locs cells slots) (hx : p.tables.exec = Jvm.exec) (hZ : Z.Warmed39 s.vm) (hy1 : y.name = "<init>") (hown : s.vm.findClass own = some m.cls)
    (w1 : (Jvm.Cond.methodLink own index y).before a0 Z = true) (w2 : (Jvm.Cond.instanceMethod y).before a0 Z = true) (w3 : (Jvm.Cond.initialized y.cls).before a0 Z = true) (w4 : (Jvm.Cond.code y bytes maxL none).before a0 Z = true)
    (hy : y.cls ≠ "java/lang/invoke/MethodHandle" ∧ y.cls ≠ "java/lang/invoke/VarHandle") (eT : T.heap = h)
    (hM : MetFree l y (head1 [Jvm.Cond.code y bytes maxL none] rm) (fun a U => a = as' ∧ Z.Warmed39 U.vm ∧ U.heap = h) (fun _ _ _ _ _ => True) (fun _ U o U' => ∃ v L, o = .returned v ∧ Q v U'.heap L ∧ FrameEnd U o U' L rm.cells rm.slots))
    (hf : rm.frames + 1 ≤ R.frames) (hl : W + (maxL + 11) + rm.locals ≤ R.locals) (hg : g.method = m) (hsize : g.locals.size = c.maxLocals) (hlen : ∀ sig, parseMethodDescriptor y.desc = some sig → argsL.length = sig.parameters.length)
    (hstack : g.stack = argsL.reverse ++ .ref a :: rest) (has : (.ref a :: argsL).toArray = as') (hW : 2 * g.monitorRoom + (rest.map fun v => v.category).sum ≤ W) (hdg : decode c.code g.pc = .ok (.invokespecial index, 3)) (hc : cells + rm.cells ≤ R.cells) (hs : slots + rm.slots ≤ R.slots) :
    ∃ (v : Option Value) (T' : State) (L : List Loc), Stand p l e R s m args below meth c T' (locs ++ L) (cells + rm.cells) (slots + rm.slots) ∧ Q v T'.heap L ∧
      ∀ target, Steps p.tables e below (T'.setTop { g with pc := g.pc + 3, stack := v.toList ++ rest }) target → Steps p.tables e below (T.setTop g) target := by
  obtain ⟨v, _, ⟨T', L', k', n'⟩, -, X', ⟨Lc, hQ, l', y', z'⟩, st⟩ := X.specialBack hx (y := y) hy1 hown (mvT hZ w1) (mvT hZ w2) (mvT hZ w4) hy (backOf (W := W) hM hZ w4 w3 hf hl) hg hsize (Steps.refl _) (a := a) hlen hstack hW hdg (fun _ _ => ⟨has, eT, hc, hs⟩)
  dsimp only [Pt.U, Pt.locs, Pt.cells, Pt.slots] at X' l' y' z' st hQ
  subst l' y' z'
  exact ⟨v, T', Lc, X', hQ, fun _ k => st.trans k⟩
theorem own_callV {own C : String} {index : Nat} {y : MethodName} {bytes : ByteArray} {maxL W : Nat} {ret : Option FieldType} {rm : Room} {as' : Array Value} {g : JFrame} {a : Addr} {argsL rest : List Value}
    (X : Stand p l e R s m args below meth c T locs cells slots) (hx : p.tables.exec = Jvm.exec) (hZ : Z.Warmed39 s.vm) (hown : s.vm.findClass own = some m.cls)
    (w1 : (Jvm.Cond.methodLink own index y).before a0 Z = true) (w2 : (Jvm.Cond.declares y).before a0 Z = true) (w3 : (Jvm.Cond.selects C y y).before a0 Z = true) (w4 : (Jvm.Cond.instanceMethod y).before a0 Z = true) (w5 : (Jvm.Cond.initialized y.cls).before a0 Z = true) (w6 : (Jvm.Cond.code y bytes maxL ret).before a0 Z = true)
    (hy : y.cls ≠ "java/lang/invoke/MethodHandle" ∧ y.cls ≠ "java/lang/invoke/VarHandle") (eT : T.heap = h) (E : Exa Z h a C)
    (hM : MetFree l y (head1 [Jvm.Cond.code y bytes maxL ret] rm) (fun a U => a = as' ∧ Z.Warmed39 U.vm ∧ U.heap = h) (fun _ _ _ _ _ => True) (fun _ U o U' => ∃ v L, o = .returned v ∧ Q v U'.heap L ∧ FrameEnd U o U' L rm.cells rm.slots))
    (hf : rm.frames + 1 ≤ R.frames) (hl : W + (maxL + 11) + rm.locals ≤ R.locals) (hg : g.method = m) (hsize : g.locals.size = c.maxLocals) (hlen : ∀ sig, parseMethodDescriptor y.desc = some sig → argsL.length = sig.parameters.length)
    (hstack : g.stack = argsL.reverse ++ .ref a :: rest) (has : (.ref a :: argsL).toArray = as') (hW : 2 * g.monitorRoom + (rest.map fun v => v.category).sum ≤ W) (hdg : decode c.code g.pc = .ok (.invokevirtual index, 3)) (hc : cells + rm.cells ≤ R.cells) (hs : slots + rm.slots ≤ R.slots) :
    ∃ (v : Option Value) (T' : State) (L : List Loc), Stand p l e R s m args below meth c T' (locs ++ L) (cells + rm.cells) (slots + rm.slots) ∧ Q v T'.heap L ∧
      ∀ target, Steps p.tables e below (T'.setTop { g with pc := g.pc + 3, stack := v.toList ++ rest }) target → Steps p.tables e below (T.setTop g) target := by
  obtain ⟨cq, kq, qa, qb, qc⟩ := isOf hZ eT E
  obtain ⟨v, _, ⟨T', L', k', n'⟩, -, X', ⟨Lc, hQ, l', y', z'⟩, st⟩ := X.virtualBack hx (y := y) (z := y) hown (mvT hZ w1) (mvT hZ w2) (notFace_of_selects (args := args) (mvT hZ w3)) (mvT hZ w3) (mvT hZ w4) hy (backOf (W := W) hM hZ w6 w5 hf hl) qa qc hg hsize (Steps.refl _) hlen hstack hW hdg (fun _ _ => ⟨has, eT, hc, hs⟩)
  dsimp only [Pt.U, Pt.locs, Pt.cells, Pt.slots] at X' l' y' z' st hQ
  subst l' y' z'
  exact ⟨v, T', Lc, X', hQ, fun _ k => st.trans k⟩
end OwnStand
/-- the path's array: the count at 32, the entries from 33 on -/
def own_is (cf : Nat → Int32) (xs : List Int32) : Prop := cf 32 = Int32.ofNat xs.length ∧ ∀ i, i < xs.length → cf (33 + i) = xs.getD i 0
theorem own_ofNat (n : Nat) (h : n < 2147483648) : (Int32.ofNat n).toInt = n := Int32.toInt_ofNat_of_lt h
theorem own_idx (j : Int32) (n : Nat) (h0 : 0 ≤ j.toInt) (h1 : j.toInt < n) : ¬ (j < 0 ∨ n ≤ j.toNatClampNeg) := by
  have e : j.toNatClampNeg = j.toInt.toNat := rfl
  intro q
  rcases q with q | q
  · rw [Int32.lt_iff_toInt_lt] at q
    have : (0 : Int32).toInt = 0 := by decide
    omega
  · omega
theorem own_clamp (j : Int32) (k : Nat) (h : j.toInt = k) : j.toNatClampNeg = k := by
  have e : j.toNatClampNeg = j.toInt.toNat := rfl
  omega
theorem own_lt32 (x y : Int32) : x < y ↔ x.toInt < y.toInt := Int32.lt_iff_toInt_lt
theorem own_eq32 (x y : Int32) : x = y ↔ x.toInt = y.toInt := Int32.toInt_inj.symm
theorem own_dec (x : Int32) (h : 0 ≤ x.toInt) : (x + (-1 : Int32)).toInt = x.toInt - 1 := by
  rw [Int32.toInt_add, show (-1 : Int32).toInt = -1 by decide]
  have := x.toInt_lt
  exact Int.bmod_eq_of_le (by omega) (by omega)
/-- the last place below k that holds x, or -1 -/
def own_lif (xs : List Int32) (x : Int32) : Nat → Int32
  | 0 => -1
  | k + 1 => if xs.getD k 0 = x then Int32.ofNat k else own_lif xs x k
theorem own_is_enter {cf : Nat → Int32} {xs : List Int32} (x k : Int32) (h : own_is cf xs) (hk : cf 32 = k) (hl : xs.length < 8) : own_is (fun i => if i = 32 then k + 1 else if i = 33 + xs.length then x else cf i) (xs ++ [x]) := by
  refine ⟨?_, fun i hi => ?_⟩
  · show k + 1 = _
    rw [← hk, h.1, List.length_append]
    apply Int32.toInt_inj.mp
    have h1 := c_iadd (Int32.ofNat xs.length) 1
    have h2 := rng32 (Int32.ofNat xs.length + 1)
    have h3 := own_ofNat xs.length (by omega)
    have h4 := own_ofNat (xs.length + [x].length) (by simp; omega)
    have k1 : (1 : Int32).toInt = 1 := by decide
    have k2 : [x].length = 1 := rfl
    omega
  · have hi' : i < xs.length + 1 := by simpa using hi
    have n32 : ¬ 33 + i = 32 := by omega
    show (if 33 + i = 32 then k + 1 else if 33 + i = 33 + xs.length then x else cf (33 + i)) = _
    rw [if_neg n32]
    by_cases g : i = xs.length
    · subst g; simp
    · rw [if_neg (by omega), h.2 i (by omega)]
      simp only [List.getD_eq_getElem?_getD]
      rw [List.getElem?_append_left (by omega)]
theorem own_is_leave {cf : Nat → Int32} {xs : List Int32} (h : own_is cf xs) (h0 : 0 < xs.length) (hl : xs.length ≤ 8) : own_is (fun i => if i = 32 then cf 32 - 1 else cf i) xs.dropLast := by
  refine ⟨?_, fun i hi => ?_⟩
  · show cf 32 - 1 = _
    rw [h.1, List.length_dropLast]
    apply Int32.toInt_inj.mp
    have h1 := c_isub (Int32.ofNat xs.length) 1
    have h2 := rng32 (Int32.ofNat xs.length - 1)
    have h3 := own_ofNat xs.length (by omega)
    have h4 := own_ofNat (xs.length - 1) (by omega)
    have k1 : (1 : Int32).toInt = 1 := by decide
    omega
  · rw [List.length_dropLast] at hi
    have n32 : ¬ 33 + i = 32 := by omega
    show (if 33 + i = 32 then cf 32 - 1 else cf (33 + i)) = _
    rw [if_neg n32, h.2 i (by omega)]
    simp only [List.getD_eq_getElem?_getD]
    rw [List.getElem?_dropLast, if_pos hi]
theorem d1_0 : decode prog_4_method_1_code 0 = .ok (.aload_n 0, 1) := by decide +kernel
theorem d1_1 : decode prog_4_method_1_code 1 = .ok (.invokespecial 3, 3) := by decide +kernel
theorem d1_4 : decode prog_4_method_1_code 4 = .ok (.aload_n 0, 1) := by decide +kernel
theorem d1_5 : decode prog_4_method_1_code 5 = .ok (.bipush 73, 2) := by decide +kernel
theorem d1_7 : decode prog_4_method_1_code 7 = .ok (.newarray .int, 2) := by decide +kernel
theorem d1_9 : decode prog_4_method_1_code 9 = .ok (.putfield 9, 3) := by decide +kernel
theorem d1_12 : decode prog_4_method_1_code 12 = .ok (.return_, 1) := by decide +kernel
theorem pn_1 : plainFor (⟨"com/example/hoist/hoist/CreationPath", "<init>", "()V"⟩ : MethodName) = true := plainFor_of_name (by first | (simp [plainName, overriddenIn]; done) | decide +kernel)
theorem ef_1 (m : MethodId) (a : Addr) : entryFrame m #[(.ref a)] 1 = mkF m 0 #[.val (.ref a)] [] := by first | (simp [entryFrame, mkF, argsToLocals, Value.category]; done) | rfl
def Q1 (Z : State) (a : Addr) (hI : Heap) (n0 : Nat) (v : Option Value) (h : Heap) (L : List Loc) : Prop := ∃ (t : Addr), v = none ∧ Fr n0 L ∧ Keep hI h [a] ∧ Exa Z h a "com/example/hoist/hoist/CreationPath" ∧ Fld Z h a "com/example/hoist/hoist/CreationPath" "slots" "[I" (.ref t) ∧ own_A Z h t .int 73 (fun _ => .int (0 : Int32)) ∧ n0 ≤ t ∧ a ≠ t
set_option maxRecDepth 65536 in
set_option maxHeartbeats 40000000 in
theorem rm1 (l : Launch) (Z : State) (a0 : Array Value) (hw : ∀ d ∈ tables_1, d.before a0 Z = true) (ws : List Jvm.Cond) (a : Addr) (hI : Heap) (n0 : Nat) (Z0 : n0 ≤ hI.size) (E_a : Exa Z hI a "com/example/hoist/hoist/CreationPath") (ge_a : n0 ≤ a) (Ff : Fld Z hI a "com/example/hoist/hoist/CreationPath" "slots" "[I" .null) :
    MetFree l (⟨"com/example/hoist/hoist/CreationPath", "<init>", "()V"⟩ : MethodName) (head1 (Jvm.Cond.code (⟨"com/example/hoist/hoist/CreationPath", "<init>", "()V"⟩ : MethodName) prog_4_method_1_code 1 none :: ws) ({ frames := 1, cells := 1, slots := 73, locals := 12 } : Room)) (fun a₁ U₁ => a₁ = #[(.ref a)] ∧ Z.Warmed39 U₁.vm ∧ U₁.heap = hI) (fun _ _ _ _ _ => True) (fun _ U₁ o₁ U₂ => ∃ v₁ L₁, o₁ = .returned v₁ ∧ Q1 Z a hI n0 v₁ U₂.heap L₁ ∧ FrameEnd U₁ o₁ U₂ L₁ ({ frames := 1, cells := 1, slots := 73, locals := 12 } : Room).cells ({ frames := 1, cells := 1, slots := 73, locals := 12 } : Room).slots) := by
  refine own_body pn_1 ?_
  intro p e s m below meth c s₁ hx hby hml hown hnm hret hlk hZ XI eI
  obtain ⟨F, hF⟩ : ∃ F : State → JFrame → Prop, F = own_Fin p.tables e below s ({ frames := 1, cells := 1, slots := 73, locals := 12 } : Room) (Q1 Z a hI n0) := ⟨_, rfl⟩
  have hst : ∀ {T T' : State} {g g' : JFrame}, (∀ t, Steps p.tables e below (T'.setTop g') t → Steps p.tables e below (T.setTop g) t) → F T' g' → F T g := by subst hF; exact own_st
  have NI := Fr.nil n0
  show own_Fin p.tables e below s ({ frames := 1, cells := 1, slots := 73, locals := 12 } : Room) (Q1 Z a hI n0) s₁ (entryFrame m #[(.ref a)] 1)
  rw [← hF]
  rw [ef_1]
  show F s₁ (mkF m 0 #[.val (.ref a)] [])
  refine hst (fun t₀ k₀ => XS.aloadN XI.here hx rfl (hb hby d1_0) rfl rfl k₀) ?_
  show F s₁ (mkF m 1 #[.val (.ref a)] [(.ref a)])
  obtain ⟨T1, X1, e1, st1⟩ := initO XI hx hZ hown (hw _ (List.mem_of_getElem? (i := 7) rfl)) (hw _ (List.mem_of_getElem? (i := 8) rfl)) (hw _ (List.mem_of_getElem? (i := 9) rfl)) eI (g := (mkF m 1 #[.val (.ref a)] [(.ref a)])) rfl (by rw [hml]; rfl) rfl (hb hby d1_1) (by decide) (W := 0) (by show 2 * 0 + _ ≤ _; exact Nat.le_of_eq rfl) (by decide)
  refine hst st1 ?_
  show F T1 (mkF m 4 #[.val (.ref a)] [])
  refine hst (fun t₀ k₀ => XS.aloadN X1.here hx rfl (hb hby d1_4) rfl rfl k₀) ?_
  show F T1 (mkF m 5 #[.val (.ref a)] [(.ref a)])
  refine hst (fun t₀ k₀ => XS.bipush X1.here hx rfl (hb hby d1_5) k₀) ?_
  show F T1 (mkF m 7 #[.val (.ref a)] [(.int (73 : Int32)), (.ref a)])
  obtain ⟨T7, h7, b7, X7, e7, g7, E7, A7, st7⟩ := own_newarr X1 hx hZ (hw _ (List.mem_of_getElem? (i := 10) rfl)) e1 (g := (mkF m 7 #[.val (.ref a)] [(.int (73 : Int32)), (.ref a)])) rfl (hb hby d1_7) rfl (by decide) (cap := 73) (by decide) (by decide) (by decide) (by decide)
  have ne_a_b7 : a ≠ b7 := Nat.ne_of_lt (Nat.lt_of_lt_of_le E_a.lt (Nat.le_of_eq g7.symm))
  have ge_b7 : n0 ≤ b7 := Nat.le_trans Z0 (Nat.le_of_eq g7.symm)
  have sz_b7 : hI.size ≤ b7 := Nat.le_trans (Keep.refl hI [a]).1 (Nat.le_of_eq g7.symm)
  have E_a_p7 : Exa Z h7 a "com/example/hoist/hoist/CreationPath" := E_a.ext E7
  have Ff_p7 : Fld Z h7 a "com/example/hoist/hoist/CreationPath" "slots" "[I" .null := Ff.ext E7
  have Z0_p7 : n0 ≤ h7.size := (Nat.le_trans Z0 E7.1)
  have K_p7 : Keep hI h7 [a] := (Keep.refl hI [a]).ext E7
  have A_b7 : own_A Z h7 b7 .int 73 (fun _ => (.int (0 : Int32))) := A7
  refine hst st7 ?_
  show F T7 (mkF m 9 #[.val (.ref a)] [(.ref b7), (.ref a)])
  obtain ⟨T9, h9, X9, e9, W9, st9⟩ := putF X7 hx hZ hown (host := "") (Or.inl (hw _ (List.mem_of_getElem? (i := 11) rfl))) Via.refl e7 Ff_p7 E_a_p7 (Or.inl (hw _ (List.mem_of_getElem? (i := 12) rfl))) (hw _ (List.mem_of_getElem? (i := 2) rfl)) (ty := (.array .int)) (by decide) rfl rfl (g := (mkF m 9 #[.val (.ref a)] [(.ref b7), (.ref a)])) rfl rfl (hb hby d1_9)
  have N9 := Fr.snoc X9 NI ge_a
  have E_a_p9 : Exa Z h9 a "com/example/hoist/hoist/CreationPath" := E_a_p7.wr W9
  have Ff_p9 : Fld Z h9 a "com/example/hoist/hoist/CreationPath" "slots" "[I" (.ref b7) := Ff_p7.same W9
  have A_b7_p9 : own_A Z h9 b7 .int 73 (fun _ => (.int (0 : Int32))) := A_b7.other W9 (Ne.symm ne_a_b7)
  have Z0_p9 : n0 ≤ h9.size := Nat.le_trans Z0_p7 (Keep.of_wr W9).1
  have K_p9 : Keep hI h9 [a] := K_p7.wr W9 (Or.inl (List.mem_of_getElem? (i := 0) rfl))
  refine hst st9 ?_
  show F T9 (mkF m 12 #[.val (.ref a)] [])
  rw [hF]
  refine own_retV X9 hx hret hlk (hb hby d1_12) (by decide) (by decide) ?_
  rw [e9]
  exact ⟨b7, rfl, N9, K_p9, E_a_p9, Ff_p9, A_b7_p9, ge_b7, ne_a_b7⟩
theorem d3_0 : decode prog_4_method_2_code 0 = .ok (.aload_n 0, 1) := by decide +kernel
theorem d3_1 : decode prog_4_method_2_code 1 = .ok (.getfield 9, 3) := by decide +kernel
theorem d3_4 : decode prog_4_method_2_code 4 = .ok (.astore_n 2, 1) := by decide +kernel
theorem d3_5 : decode prog_4_method_2_code 5 = .ok (.aload_n 2, 1) := by decide +kernel
theorem d3_6 : decode prog_4_method_2_code 6 = .ok (.bipush 32, 2) := by decide +kernel
theorem d3_8 : decode prog_4_method_2_code 8 = .ok (.iaload, 1) := by decide +kernel
theorem d3_9 : decode prog_4_method_2_code 9 = .ok (.istore_n 3, 1) := by decide +kernel
theorem d3_10 : decode prog_4_method_2_code 10 = .ok (.bipush 33, 2) := by decide +kernel
theorem d3_12 : decode prog_4_method_2_code 12 = .ok (.iload_n 3, 1) := by decide +kernel
theorem d3_13 : decode prog_4_method_2_code 13 = .ok (.iadd, 1) := by decide +kernel
theorem d3_14 : decode prog_4_method_2_code 14 = .ok (.bipush 32, 2) := by decide +kernel
theorem d3_16 : decode prog_4_method_2_code 16 = .ok (.iadd, 1) := by decide +kernel
theorem d3_17 : decode prog_4_method_2_code 17 = .ok (.aload_n 2, 1) := by decide +kernel
theorem d3_18 : decode prog_4_method_2_code 18 = .ok (.arraylength, 1) := by decide +kernel
theorem d3_19 : decode prog_4_method_2_code 19 = .ok (.if_icmp .ne 22, 3) := by decide +kernel
theorem d3_41 : decode prog_4_method_2_code 41 = .ok (.aload_n 2, 1) := by decide +kernel
theorem d3_42 : decode prog_4_method_2_code 42 = .ok (.bipush 33, 2) := by decide +kernel
theorem d3_44 : decode prog_4_method_2_code 44 = .ok (.iload_n 3, 1) := by decide +kernel
theorem d3_45 : decode prog_4_method_2_code 45 = .ok (.iadd, 1) := by decide +kernel
theorem d3_46 : decode prog_4_method_2_code 46 = .ok (.iload_n 1, 1) := by decide +kernel
theorem d3_47 : decode prog_4_method_2_code 47 = .ok (.iastore, 1) := by decide +kernel
theorem d3_48 : decode prog_4_method_2_code 48 = .ok (.aload_n 2, 1) := by decide +kernel
theorem d3_49 : decode prog_4_method_2_code 49 = .ok (.bipush 32, 2) := by decide +kernel
theorem d3_51 : decode prog_4_method_2_code 51 = .ok (.iload_n 3, 1) := by decide +kernel
theorem d3_52 : decode prog_4_method_2_code 52 = .ok (.iconst 1, 1) := by decide +kernel
theorem d3_53 : decode prog_4_method_2_code 53 = .ok (.iadd, 1) := by decide +kernel
theorem d3_54 : decode prog_4_method_2_code 54 = .ok (.iastore, 1) := by decide +kernel
theorem d3_55 : decode prog_4_method_2_code 55 = .ok (.return_, 1) := by decide +kernel
theorem pn_3 : plainFor (⟨"com/example/hoist/hoist/CreationPath", "enter", "(I)V"⟩ : MethodName) = true := plainFor_of_name (by first | (simp [plainName, overriddenIn]; done) | decide +kernel)
theorem ef_3 (m : MethodId) (a : Addr) (x : Int32) : entryFrame m #[(.ref a), (.int x)] 4 = mkF m 0 #[.val (.ref a), .val (.int x), .unset, .unset] [] := by first | (simp [entryFrame, mkF, argsToLocals, Value.category]; done) | rfl
def Q3 (Z : State) (a : Addr) (x : Int32) (t : Addr) (cf : Nat → Int32) (xs : List Int32) (hI : Heap) (n0 : Nat) (v : Option Value) (h : Heap) (L : List Loc) : Prop := ∃ (cf2 : Nat → Int32), v = none ∧ Fr n0 L ∧ Keep hI h [t] ∧ own_A Z h t .int 73 (fun i => .int (cf2 i)) ∧ own_is cf2 (xs ++ [x])
set_option maxRecDepth 65536 in
set_option maxHeartbeats 40000000 in
theorem rm3 (l : Launch) (Z : State) (a0 : Array Value) (hw : ∀ d ∈ tables_1, d.before a0 Z = true) (ws : List Jvm.Cond) (a : Addr) (x : Int32) (t : Addr) (cf : Nat → Int32) (xs : List Int32) (hI : Heap) (n0 : Nat) (Z0 : n0 ≤ hI.size) (Ff : Fld Z hI a "com/example/hoist/hoist/CreationPath" "slots" "[I" (.ref t)) (Ar : own_A Z hI t .int 73 (fun i => .int (cf i))) (ge_t : n0 ≤ t) (his : own_is cf xs) (hl : xs.length < 8) (ne_a_t : a ≠ t) :
    MetFree l (⟨"com/example/hoist/hoist/CreationPath", "enter", "(I)V"⟩ : MethodName) (head1 (Jvm.Cond.code (⟨"com/example/hoist/hoist/CreationPath", "enter", "(I)V"⟩ : MethodName) prog_4_method_2_code 4 none :: ws) ({ frames := 0, cells := 0, slots := 0, locals := 0 } : Room)) (fun a₁ U₁ => a₁ = #[(.ref a), (.int x)] ∧ Z.Warmed39 U₁.vm ∧ U₁.heap = hI) (fun _ _ _ _ _ => True) (fun _ U₁ o₁ U₂ => ∃ v₁ L₁, o₁ = .returned v₁ ∧ Q3 Z a x t cf xs hI n0 v₁ U₂.heap L₁ ∧ FrameEnd U₁ o₁ U₂ L₁ ({ frames := 0, cells := 0, slots := 0, locals := 0 } : Room).cells ({ frames := 0, cells := 0, slots := 0, locals := 0 } : Room).slots) := by
  refine own_body pn_3 ?_
  intro p e s m below meth c s₁ hx hby hml hown hnm hret hlk hZ XI eI
  obtain ⟨F, hF⟩ : ∃ F : State → JFrame → Prop, F = own_Fin p.tables e below s ({ frames := 0, cells := 0, slots := 0, locals := 0 } : Room) (Q3 Z a x t cf xs hI n0) := ⟨_, rfl⟩
  have hst : ∀ {T T' : State} {g g' : JFrame}, (∀ t, Steps p.tables e below (T'.setTop g') t → Steps p.tables e below (T.setTop g) t) → F T' g' → F T g := by subst hF; exact own_st
  have NI := Fr.nil n0
  show own_Fin p.tables e below s ({ frames := 0, cells := 0, slots := 0, locals := 0 } : Room) (Q3 Z a x t cf xs hI n0) s₁ (entryFrame m #[(.ref a), (.int x)] 4)
  rw [← hF]
  rw [ef_3]
  show F s₁ (mkF m 0 #[.val (.ref a), .val (.int x), .unset, .unset] [])
  have k32 : (32 : Int32).toInt = 32 := by decide
  have k33 : (33 : Int32).toInt = 33 := by decide
  have k1 : (1 : Int32).toInt = 1 := by decide
  have k73 : (73 : Int32).toInt = 73 := by decide
  refine hst (fun t₀ k₀ => XS.aloadN XI.here hx rfl (hb hby d3_0) rfl rfl k₀) ?_
  show F s₁ (mkF m 1 #[.val (.ref a), .val (.int x), .unset, .unset] [(.ref a)])
  obtain ⟨T1, X1, e1, st1⟩ := getF XI hx hZ hown (host := "") (Or.inl (hw _ (List.mem_of_getElem? (i := 11) rfl))) Via.refl eI Ff (g := (mkF m 1 #[.val (.ref a), .val (.int x), .unset, .unset] [(.ref a)])) rfl rfl (hb hby d3_1)
  refine hst st1 ?_
  show F T1 (mkF m 4 #[.val (.ref a), .val (.int x), .unset, .unset] [(.ref t)])
  refine hst (fun t₀ k₀ => XS.astoreN X1.here hx rfl (hb hby d3_4) rfl rfl (l' := #[.val (.ref a), .val (.int x), .val (.ref t), .unset]) rfl k₀) ?_
  show F T1 (mkF m 5 #[.val (.ref a), .val (.int x), .val (.ref t), .unset] [])
  refine hst (fun t₀ k₀ => XS.aloadN X1.here hx rfl (hb hby d3_5) rfl rfl k₀) ?_
  show F T1 (mkF m 6 #[.val (.ref a), .val (.int x), .val (.ref t), .unset] [(.ref t)])
  refine hst (fun t₀ k₀ => XS.bipush X1.here hx rfl (hb hby d3_6) k₀) ?_
  show F T1 (mkF m 8 #[.val (.ref a), .val (.int x), .val (.ref t), .unset] [(.int (32 : Int32)), (.ref t)])
  refine hst (fun t₀ k₀ => own_iaload X1 hx hZ e1 Ar (by decide) (v := (.int (cf 32))) rfl (g := (mkF m 8 #[.val (.ref a), .val (.int x), .val (.ref t), .unset] [(.int (32 : Int32)), (.ref t)])) rfl rfl (hb hby d3_8) t₀ k₀) ?_
  show F T1 (mkF m 9 #[.val (.ref a), .val (.int x), .val (.ref t), .unset] [(.int (cf 32))])
  generalize hk : (cf 32) = k
  show F T1 (mkF m 9 #[.val (.ref a), .val (.int x), .val (.ref t), .unset] [(.int k)])
  have kk : k.toInt = xs.length := by rw [← hk, his.1]; exact own_ofNat _ (by omega)
  refine hst (fun t₀ k₀ => XS.istoreN X1.here hx rfl (hb hby d3_9) rfl (l' := #[.val (.ref a), .val (.int x), .val (.ref t), .val (.int k)]) rfl k₀) ?_
  show F T1 (mkF m 10 #[.val (.ref a), .val (.int x), .val (.ref t), .val (.int k)] [])
  refine hst (fun t₀ k₀ => XS.bipush X1.here hx rfl (hb hby d3_10) k₀) ?_
  show F T1 (mkF m 12 #[.val (.ref a), .val (.int x), .val (.ref t), .val (.int k)] [(.int (33 : Int32))])
  refine hst (fun t₀ k₀ => XS.iloadN X1.here hx rfl (hb hby d3_12) rfl k₀) ?_
  show F T1 (mkF m 13 #[.val (.ref a), .val (.int x), .val (.ref t), .val (.int k)] [(.int k), (.int (33 : Int32))])
  refine hst (fun t₀ k₀ => XS.iadd X1.here hx rfl (hb hby d3_13) rfl k₀) ?_
  show F T1 (mkF m 14 #[.val (.ref a), .val (.int x), .val (.ref t), .val (.int k)] [(.int ((33 : Int32) + k))])
  refine hst (fun t₀ k₀ => XS.bipush X1.here hx rfl (hb hby d3_14) k₀) ?_
  show F T1 (mkF m 16 #[.val (.ref a), .val (.int x), .val (.ref t), .val (.int k)] [(.int (32 : Int32)), (.int ((33 : Int32) + k))])
  refine hst (fun t₀ k₀ => XS.iadd X1.here hx rfl (hb hby d3_16) rfl k₀) ?_
  show F T1 (mkF m 17 #[.val (.ref a), .val (.int x), .val (.ref t), .val (.int k)] [(.int (((33 : Int32) + k) + (32 : Int32)))])
  refine hst (fun t₀ k₀ => XS.aloadN X1.here hx rfl (hb hby d3_17) rfl rfl k₀) ?_
  show F T1 (mkF m 18 #[.val (.ref a), .val (.int x), .val (.ref t), .val (.int k)] [(.ref t), (.int (((33 : Int32) + k) + (32 : Int32)))])
  refine hst (fun t₀ k₀ => own_alen X1 hx hZ e1 Ar (z := (73 : Int32)) (by decide) (g := (mkF m 18 #[.val (.ref a), .val (.int x), .val (.ref t), .val (.int k)] [(.ref t), (.int (((33 : Int32) + k) + (32 : Int32)))])) rfl rfl (hb hby d3_18) t₀ k₀) ?_
  show F T1 (mkF m 19 #[.val (.ref a), .val (.int x), .val (.ref t), .val (.int k)] [(.int (73 : Int32)), (.int (((33 : Int32) + k) + (32 : Int32)))])
  refine hst (fun t₀ k₀ => XS.icmpYes X1.here hx rfl (pc0 := 19) (pc' := 41) rfl (hb hby d3_19) rfl (feq (by intro q; rw [own_eq32] at q; have h1 := c_iadd 33 k; have h2 := c_iadd (33 + k) 32; have h3 := rng32 (33 + k); have h4 := rng32 (33 + k + 32); omega)).2 (by decide) (by decide) k₀) ?_
  show F T1 (mkF m 41 #[.val (.ref a), .val (.int x), .val (.ref t), .val (.int k)] [])
  refine hst (fun t₀ k₀ => XS.aloadN X1.here hx rfl (hb hby d3_41) rfl rfl k₀) ?_
  show F T1 (mkF m 42 #[.val (.ref a), .val (.int x), .val (.ref t), .val (.int k)] [(.ref t)])
  refine hst (fun t₀ k₀ => XS.bipush X1.here hx rfl (hb hby d3_42) k₀) ?_
  show F T1 (mkF m 44 #[.val (.ref a), .val (.int x), .val (.ref t), .val (.int k)] [(.int (33 : Int32)), (.ref t)])
  refine hst (fun t₀ k₀ => XS.iloadN X1.here hx rfl (hb hby d3_44) rfl k₀) ?_
  show F T1 (mkF m 45 #[.val (.ref a), .val (.int x), .val (.ref t), .val (.int k)] [(.int k), (.int (33 : Int32)), (.ref t)])
  refine hst (fun t₀ k₀ => XS.iadd X1.here hx rfl (hb hby d3_45) rfl k₀) ?_
  show F T1 (mkF m 46 #[.val (.ref a), .val (.int x), .val (.ref t), .val (.int k)] [(.int ((33 : Int32) + k)), (.ref t)])
  generalize hix : ((33 : Int32) + k) = ix
  show F T1 (mkF m 46 #[.val (.ref a), .val (.int x), .val (.ref t), .val (.int k)] [(.int ix), (.ref t)])
  have kix : ix.toInt = ((33 + xs.length : Nat) : Int) := by have h1 := c_iadd 33 k; have h2 := rng32 ix; rw [hix] at h1; omega
  refine hst (fun t₀ k₀ => XS.iloadN X1.here hx rfl (hb hby d3_46) rfl k₀) ?_
  show F T1 (mkF m 47 #[.val (.ref a), .val (.int x), .val (.ref t), .val (.int k)] [(.int x), (.int ix), (.ref t)])
  obtain ⟨T47, h47, X47, e47, W47, st47⟩ := own_iastore X1 hx hZ e1 Ar (own_idx ix 73 (by omega) (by omega)) (g := (mkF m 47 #[.val (.ref a), .val (.int x), .val (.ref t), .val (.int k)] [(.int x), (.int ix), (.ref t)])) rfl rfl (hb hby d3_47)
  have N47 := Fr.snoc X47 NI ge_t
  have Ff_p47 : Fld Z h47 a "com/example/hoist/hoist/CreationPath" "slots" "[I" (.ref t) := Ff.other W47 (Or.inl ne_a_t)
  have Ar_p47 : own_A Z h47 t .int 73 (fun i => if i = Int32.toNatClampNeg ix then (.int x) else (fun i => .int (cf i)) i) := Ar.set W47
  have Z0_p47 : n0 ≤ h47.size := Nat.le_trans Z0 (Keep.of_wr W47).1
  have K_p47 : Keep hI h47 [t] := (Keep.refl hI [t]).wr W47 (Or.inl (List.mem_of_getElem? (i := 0) rfl))
  refine hst st47 ?_
  have Ar_p47c : own_A Z h47 t .int 73 (fun i => .int (if i = 33 + xs.length then x else cf i)) := own_A.congr Ar_p47 (fun i hi => by rw [own_clamp ix _ kix]; split <;> rfl)
  show F T47 (mkF m 48 #[.val (.ref a), .val (.int x), .val (.ref t), .val (.int k)] [])
  refine hst (fun t₀ k₀ => XS.aloadN X47.here hx rfl (hb hby d3_48) rfl rfl k₀) ?_
  show F T47 (mkF m 49 #[.val (.ref a), .val (.int x), .val (.ref t), .val (.int k)] [(.ref t)])
  refine hst (fun t₀ k₀ => XS.bipush X47.here hx rfl (hb hby d3_49) k₀) ?_
  show F T47 (mkF m 51 #[.val (.ref a), .val (.int x), .val (.ref t), .val (.int k)] [(.int (32 : Int32)), (.ref t)])
  refine hst (fun t₀ k₀ => XS.iloadN X47.here hx rfl (hb hby d3_51) rfl k₀) ?_
  show F T47 (mkF m 52 #[.val (.ref a), .val (.int x), .val (.ref t), .val (.int k)] [(.int k), (.int (32 : Int32)), (.ref t)])
  refine hst (fun t₀ k₀ => XS.iconst X47.here hx rfl (hb hby d3_52) k₀) ?_
  show F T47 (mkF m 53 #[.val (.ref a), .val (.int x), .val (.ref t), .val (.int k)] [(.int (1 : Int32)), (.int k), (.int (32 : Int32)), (.ref t)])
  refine hst (fun t₀ k₀ => XS.iadd X47.here hx rfl (hb hby d3_53) rfl k₀) ?_
  show F T47 (mkF m 54 #[.val (.ref a), .val (.int x), .val (.ref t), .val (.int k)] [(.int (k + (1 : Int32))), (.int (32 : Int32)), (.ref t)])
  obtain ⟨T54, h54, X54, e54, W54, st54⟩ := own_iastore X47 hx hZ e47 Ar_p47c (by decide) (g := (mkF m 54 #[.val (.ref a), .val (.int x), .val (.ref t), .val (.int k)] [(.int (k + (1 : Int32))), (.int (32 : Int32)), (.ref t)])) rfl rfl (hb hby d3_54)
  have N54 := Fr.snoc X54 N47 ge_t
  have Ff_p54 : Fld Z h54 a "com/example/hoist/hoist/CreationPath" "slots" "[I" (.ref t) := Ff_p47.other W54 (Or.inl ne_a_t)
  have Ar_p54 : own_A Z h54 t .int 73 (fun i => if i = Int32.toNatClampNeg (32 : Int32) then (.int (k + (1 : Int32))) else (fun i => .int (if i = 33 + xs.length then x else cf i)) i) := Ar_p47c.set W54
  have Z0_p54 : n0 ≤ h54.size := Nat.le_trans Z0_p47 (Keep.of_wr W54).1
  have K_p54 : Keep hI h54 [t] := K_p47.wr W54 (Or.inl (List.mem_of_getElem? (i := 0) rfl))
  refine hst st54 ?_
  have Ar_p54c : own_A Z h54 t .int 73 (fun i => .int (if i = 32 then k + 1 else if i = 33 + xs.length then x else cf i)) := own_A.congr Ar_p54 (fun i hi => by rw [show Int32.toNatClampNeg 32 = 32 from rfl]; dsimp only; split <;> rfl)
  show F T54 (mkF m 55 #[.val (.ref a), .val (.int x), .val (.ref t), .val (.int k)] [])
  rw [hF]
  refine own_retV X54 hx hret hlk (hb hby d3_55) (by decide) (by decide) ?_
  rw [e54]
  exact ⟨_, rfl, N54, K_p54, Ar_p54c, (own_is_enter x k his hk hl)⟩
theorem d4_0 : decode prog_4_method_3_code 0 = .ok (.aload_n 0, 1) := by decide +kernel
theorem d4_1 : decode prog_4_method_3_code 1 = .ok (.getfield 9, 3) := by decide +kernel
theorem d4_4 : decode prog_4_method_3_code 4 = .ok (.bipush 32, 2) := by decide +kernel
theorem d4_6 : decode prog_4_method_3_code 6 = .ok (.dup2, 1) := by decide +kernel
theorem d4_7 : decode prog_4_method_3_code 7 = .ok (.iaload, 1) := by decide +kernel
theorem d4_8 : decode prog_4_method_3_code 8 = .ok (.iconst 1, 1) := by decide +kernel
theorem d4_9 : decode prog_4_method_3_code 9 = .ok (.isub, 1) := by decide +kernel
theorem d4_10 : decode prog_4_method_3_code 10 = .ok (.iastore, 1) := by decide +kernel
theorem d4_11 : decode prog_4_method_3_code 11 = .ok (.return_, 1) := by decide +kernel
theorem pn_4 : plainFor (⟨"com/example/hoist/hoist/CreationPath", "leave", "()V"⟩ : MethodName) = true := plainFor_of_name (by first | (simp [plainName, overriddenIn]; done) | decide +kernel)
theorem ef_4 (m : MethodId) (a : Addr) : entryFrame m #[(.ref a)] 1 = mkF m 0 #[.val (.ref a)] [] := by first | (simp [entryFrame, mkF, argsToLocals, Value.category]; done) | rfl
def Q4 (Z : State) (a : Addr) (t : Addr) (cf : Nat → Int32) (xs : List Int32) (hI : Heap) (n0 : Nat) (v : Option Value) (h : Heap) (L : List Loc) : Prop := ∃ (cf2 : Nat → Int32), v = none ∧ Fr n0 L ∧ Keep hI h [t] ∧ own_A Z h t .int 73 (fun i => .int (cf2 i)) ∧ own_is cf2 xs.dropLast
set_option maxRecDepth 65536 in
set_option maxHeartbeats 40000000 in
theorem rm4 (l : Launch) (Z : State) (a0 : Array Value) (hw : ∀ d ∈ tables_1, d.before a0 Z = true) (ws : List Jvm.Cond) (a : Addr) (t : Addr) (cf : Nat → Int32) (xs : List Int32) (hI : Heap) (n0 : Nat) (Z0 : n0 ≤ hI.size) (Ff : Fld Z hI a "com/example/hoist/hoist/CreationPath" "slots" "[I" (.ref t)) (Ar : own_A Z hI t .int 73 (fun i => .int (cf i))) (ge_t : n0 ≤ t) (his : own_is cf xs) (h0l : 0 < xs.length) (hl : xs.length ≤ 8) (ne_a_t : a ≠ t) :
    MetFree l (⟨"com/example/hoist/hoist/CreationPath", "leave", "()V"⟩ : MethodName) (head1 (Jvm.Cond.code (⟨"com/example/hoist/hoist/CreationPath", "leave", "()V"⟩ : MethodName) prog_4_method_3_code 1 none :: ws) ({ frames := 0, cells := 0, slots := 0, locals := 0 } : Room)) (fun a₁ U₁ => a₁ = #[(.ref a)] ∧ Z.Warmed39 U₁.vm ∧ U₁.heap = hI) (fun _ _ _ _ _ => True) (fun _ U₁ o₁ U₂ => ∃ v₁ L₁, o₁ = .returned v₁ ∧ Q4 Z a t cf xs hI n0 v₁ U₂.heap L₁ ∧ FrameEnd U₁ o₁ U₂ L₁ ({ frames := 0, cells := 0, slots := 0, locals := 0 } : Room).cells ({ frames := 0, cells := 0, slots := 0, locals := 0 } : Room).slots) := by
  refine own_body pn_4 ?_
  intro p e s m below meth c s₁ hx hby hml hown hnm hret hlk hZ XI eI
  obtain ⟨F, hF⟩ : ∃ F : State → JFrame → Prop, F = own_Fin p.tables e below s ({ frames := 0, cells := 0, slots := 0, locals := 0 } : Room) (Q4 Z a t cf xs hI n0) := ⟨_, rfl⟩
  have hst : ∀ {T T' : State} {g g' : JFrame}, (∀ t, Steps p.tables e below (T'.setTop g') t → Steps p.tables e below (T.setTop g) t) → F T' g' → F T g := by subst hF; exact own_st
  have NI := Fr.nil n0
  show own_Fin p.tables e below s ({ frames := 0, cells := 0, slots := 0, locals := 0 } : Room) (Q4 Z a t cf xs hI n0) s₁ (entryFrame m #[(.ref a)] 1)
  rw [← hF]
  rw [ef_4]
  show F s₁ (mkF m 0 #[.val (.ref a)] [])
  refine hst (fun t₀ k₀ => XS.aloadN XI.here hx rfl (hb hby d4_0) rfl rfl k₀) ?_
  show F s₁ (mkF m 1 #[.val (.ref a)] [(.ref a)])
  obtain ⟨T1, X1, e1, st1⟩ := getF XI hx hZ hown (host := "") (Or.inl (hw _ (List.mem_of_getElem? (i := 11) rfl))) Via.refl eI Ff (g := (mkF m 1 #[.val (.ref a)] [(.ref a)])) rfl rfl (hb hby d4_1)
  refine hst st1 ?_
  show F T1 (mkF m 4 #[.val (.ref a)] [(.ref t)])
  refine hst (fun t₀ k₀ => XS.bipush X1.here hx rfl (hb hby d4_4) k₀) ?_
  show F T1 (mkF m 6 #[.val (.ref a)] [(.int (32 : Int32)), (.ref t)])
  refine hst (fun t₀ k₀ => XT.dup2 X1.here hx rfl (hb hby d4_6) rfl rfl rfl k₀) ?_
  show F T1 (mkF m 7 #[.val (.ref a)] [(.int (32 : Int32)), (.ref t), (.int (32 : Int32)), (.ref t)])
  refine hst (fun t₀ k₀ => own_iaload X1 hx hZ e1 Ar (by decide) (v := (.int (cf 32))) rfl (g := (mkF m 7 #[.val (.ref a)] [(.int (32 : Int32)), (.ref t), (.int (32 : Int32)), (.ref t)])) rfl rfl (hb hby d4_7) t₀ k₀) ?_
  show F T1 (mkF m 8 #[.val (.ref a)] [(.int (cf 32)), (.int (32 : Int32)), (.ref t)])
  refine hst (fun t₀ k₀ => XS.iconst X1.here hx rfl (hb hby d4_8) k₀) ?_
  show F T1 (mkF m 9 #[.val (.ref a)] [(.int (1 : Int32)), (.int (cf 32)), (.int (32 : Int32)), (.ref t)])
  refine hst (fun t₀ k₀ => XS.isub X1.here hx rfl (hb hby d4_9) rfl k₀) ?_
  show F T1 (mkF m 10 #[.val (.ref a)] [(.int ((cf 32) - (1 : Int32))), (.int (32 : Int32)), (.ref t)])
  obtain ⟨T10, h10, X10, e10, W10, st10⟩ := own_iastore X1 hx hZ e1 Ar (by decide) (g := (mkF m 10 #[.val (.ref a)] [(.int ((cf 32) - (1 : Int32))), (.int (32 : Int32)), (.ref t)])) rfl rfl (hb hby d4_10)
  have N10 := Fr.snoc X10 NI ge_t
  have Ff_p10 : Fld Z h10 a "com/example/hoist/hoist/CreationPath" "slots" "[I" (.ref t) := Ff.other W10 (Or.inl ne_a_t)
  have Ar_p10 : own_A Z h10 t .int 73 (fun i => if i = Int32.toNatClampNeg (32 : Int32) then (.int ((cf 32) - (1 : Int32))) else (fun i => .int (cf i)) i) := Ar.set W10
  have Z0_p10 : n0 ≤ h10.size := Nat.le_trans Z0 (Keep.of_wr W10).1
  have K_p10 : Keep hI h10 [t] := (Keep.refl hI [t]).wr W10 (Or.inl (List.mem_of_getElem? (i := 0) rfl))
  refine hst st10 ?_
  have Ar_p10c : own_A Z h10 t .int 73 (fun i => .int (if i = 32 then cf 32 - 1 else cf i)) := own_A.congr Ar_p10 (fun i hi => by rw [show Int32.toNatClampNeg 32 = 32 from rfl]; dsimp only; split <;> rfl)
  show F T10 (mkF m 11 #[.val (.ref a)] [])
  rw [hF]
  refine own_retV X10 hx hret hlk (hb hby d4_11) (by decide) (by decide) ?_
  rw [e10]
  exact ⟨_, rfl, N10, K_p10, Ar_p10c, (own_is_leave his h0l hl)⟩
theorem d11_0 : decode prog_4_method_4_code 0 = .ok (.aload_n 0, 1) := by decide +kernel
theorem d11_1 : decode prog_4_method_4_code 1 = .ok (.getfield 9, 3) := by decide +kernel
theorem d11_4 : decode prog_4_method_4_code 4 = .ok (.bipush 33, 2) := by decide +kernel
theorem d11_6 : decode prog_4_method_4_code 6 = .ok (.aload_n 0, 1) := by decide +kernel
theorem d11_7 : decode prog_4_method_4_code 7 = .ok (.getfield 9, 3) := by decide +kernel
theorem d11_10 : decode prog_4_method_4_code 10 = .ok (.bipush 32, 2) := by decide +kernel
theorem d11_12 : decode prog_4_method_4_code 12 = .ok (.iaload, 1) := by decide +kernel
theorem d11_13 : decode prog_4_method_4_code 13 = .ok (.iadd, 1) := by decide +kernel
theorem d11_14 : decode prog_4_method_4_code 14 = .ok (.iconst 1, 1) := by decide +kernel
theorem d11_15 : decode prog_4_method_4_code 15 = .ok (.isub, 1) := by decide +kernel
theorem d11_16 : decode prog_4_method_4_code 16 = .ok (.iaload, 1) := by decide +kernel
theorem d11_17 : decode prog_4_method_4_code 17 = .ok (.ireturn, 1) := by decide +kernel
theorem pn_11 : plainFor (⟨"com/example/hoist/hoist/CreationPath", "last", "()I"⟩ : MethodName) = true := plainFor_of_name (by first | (simp [plainName, overriddenIn]; done) | decide +kernel)
theorem ef_11 (m : MethodId) (a : Addr) : entryFrame m #[(.ref a)] 1 = mkF m 0 #[.val (.ref a)] [] := by first | (simp [entryFrame, mkF, argsToLocals, Value.category]; done) | rfl
def Q11 (Z : State) (a : Addr) (t : Addr) (cf : Nat → Int32) (xs : List Int32) (hI : Heap) (n0 : Nat) (v : Option Value) (h : Heap) (L : List Loc) : Prop := v = some (.int (xs.getD (xs.length - 1) 0)) ∧ Fr n0 L ∧ h = hI
set_option maxRecDepth 65536 in
set_option maxHeartbeats 40000000 in
theorem rm11 (l : Launch) (Z : State) (a0 : Array Value) (hw : ∀ d ∈ tables_1, d.before a0 Z = true) (ws : List Jvm.Cond) (a : Addr) (t : Addr) (cf : Nat → Int32) (xs : List Int32) (hI : Heap) (n0 : Nat) (Z0 : n0 ≤ hI.size) (Ff : Fld Z hI a "com/example/hoist/hoist/CreationPath" "slots" "[I" (.ref t)) (Ar : own_A Z hI t .int 73 (fun i => .int (cf i))) (his : own_is cf xs) (h0l : 0 < xs.length) (hl : xs.length ≤ 8) :
    MetFree l (⟨"com/example/hoist/hoist/CreationPath", "last", "()I"⟩ : MethodName) (head1 (Jvm.Cond.code (⟨"com/example/hoist/hoist/CreationPath", "last", "()I"⟩ : MethodName) prog_4_method_4_code 1 (some .int) :: ws) ({ frames := 0, cells := 0, slots := 0, locals := 0 } : Room)) (fun a₁ U₁ => a₁ = #[(.ref a)] ∧ Z.Warmed39 U₁.vm ∧ U₁.heap = hI) (fun _ _ _ _ _ => True) (fun _ U₁ o₁ U₂ => ∃ v₁ L₁, o₁ = .returned v₁ ∧ Q11 Z a t cf xs hI n0 v₁ U₂.heap L₁ ∧ FrameEnd U₁ o₁ U₂ L₁ ({ frames := 0, cells := 0, slots := 0, locals := 0 } : Room).cells ({ frames := 0, cells := 0, slots := 0, locals := 0 } : Room).slots) := by
  refine own_body pn_11 ?_
  intro p e s m below meth c s₁ hx hby hml hown hnm hret hlk hZ XI eI
  obtain ⟨F, hF⟩ : ∃ F : State → JFrame → Prop, F = own_Fin p.tables e below s ({ frames := 0, cells := 0, slots := 0, locals := 0 } : Room) (Q11 Z a t cf xs hI n0) := ⟨_, rfl⟩
  have hst : ∀ {T T' : State} {g g' : JFrame}, (∀ t, Steps p.tables e below (T'.setTop g') t → Steps p.tables e below (T.setTop g) t) → F T' g' → F T g := by subst hF; exact own_st
  have NI := Fr.nil n0
  show own_Fin p.tables e below s ({ frames := 0, cells := 0, slots := 0, locals := 0 } : Room) (Q11 Z a t cf xs hI n0) s₁ (entryFrame m #[(.ref a)] 1)
  rw [← hF]
  rw [ef_11]
  show F s₁ (mkF m 0 #[.val (.ref a)] [])
  have k32 : (32 : Int32).toInt = 32 := by decide
  have k33 : (33 : Int32).toInt = 33 := by decide
  have k1 : (1 : Int32).toInt = 1 := by decide
  have k73 : (73 : Int32).toInt = 73 := by decide
  refine hst (fun t₀ k₀ => XS.aloadN XI.here hx rfl (hb hby d11_0) rfl rfl k₀) ?_
  show F s₁ (mkF m 1 #[.val (.ref a)] [(.ref a)])
  obtain ⟨T1, X1, e1, st1⟩ := getF XI hx hZ hown (host := "") (Or.inl (hw _ (List.mem_of_getElem? (i := 11) rfl))) Via.refl eI Ff (g := (mkF m 1 #[.val (.ref a)] [(.ref a)])) rfl rfl (hb hby d11_1)
  refine hst st1 ?_
  show F T1 (mkF m 4 #[.val (.ref a)] [(.ref t)])
  refine hst (fun t₀ k₀ => XS.bipush X1.here hx rfl (hb hby d11_4) k₀) ?_
  show F T1 (mkF m 6 #[.val (.ref a)] [(.int (33 : Int32)), (.ref t)])
  refine hst (fun t₀ k₀ => XS.aloadN X1.here hx rfl (hb hby d11_6) rfl rfl k₀) ?_
  show F T1 (mkF m 7 #[.val (.ref a)] [(.ref a), (.int (33 : Int32)), (.ref t)])
  obtain ⟨T7, X7, e7, st7⟩ := getF X1 hx hZ hown (host := "") (Or.inl (hw _ (List.mem_of_getElem? (i := 11) rfl))) Via.refl e1 Ff (g := (mkF m 7 #[.val (.ref a)] [(.ref a), (.int (33 : Int32)), (.ref t)])) rfl rfl (hb hby d11_7)
  refine hst st7 ?_
  show F T7 (mkF m 10 #[.val (.ref a)] [(.ref t), (.int (33 : Int32)), (.ref t)])
  refine hst (fun t₀ k₀ => XS.bipush X7.here hx rfl (hb hby d11_10) k₀) ?_
  show F T7 (mkF m 12 #[.val (.ref a)] [(.int (32 : Int32)), (.ref t), (.int (33 : Int32)), (.ref t)])
  refine hst (fun t₀ k₀ => own_iaload X7 hx hZ e7 Ar (by decide) (v := (.int (cf 32))) rfl (g := (mkF m 12 #[.val (.ref a)] [(.int (32 : Int32)), (.ref t), (.int (33 : Int32)), (.ref t)])) rfl rfl (hb hby d11_12) t₀ k₀) ?_
  show F T7 (mkF m 13 #[.val (.ref a)] [(.int (cf 32)), (.int (33 : Int32)), (.ref t)])
  generalize hk : (cf 32) = k
  show F T7 (mkF m 13 #[.val (.ref a)] [(.int k), (.int (33 : Int32)), (.ref t)])
  have kk : k.toInt = xs.length := by rw [← hk, his.1]; exact own_ofNat _ (by omega)
  refine hst (fun t₀ k₀ => XS.iadd X7.here hx rfl (hb hby d11_13) rfl k₀) ?_
  show F T7 (mkF m 14 #[.val (.ref a)] [(.int ((33 : Int32) + k)), (.ref t)])
  refine hst (fun t₀ k₀ => XS.iconst X7.here hx rfl (hb hby d11_14) k₀) ?_
  show F T7 (mkF m 15 #[.val (.ref a)] [(.int (1 : Int32)), (.int ((33 : Int32) + k)), (.ref t)])
  refine hst (fun t₀ k₀ => XS.isub X7.here hx rfl (hb hby d11_15) rfl k₀) ?_
  show F T7 (mkF m 16 #[.val (.ref a)] [(.int (((33 : Int32) + k) - (1 : Int32))), (.ref t)])
  generalize hix : (((33 : Int32) + k) - (1 : Int32)) = ix
  show F T7 (mkF m 16 #[.val (.ref a)] [(.int ix), (.ref t)])
  have kix : ix.toInt = ((33 + (xs.length - 1) : Nat) : Int) := by have h1 := c_iadd 33 k; have h2 := rng32 (33 + k); have h3 := c_isub (33 + k) 1; have h4 := rng32 ix; rw [hix] at h3; omega
  refine hst (fun t₀ k₀ => own_iaload X7 hx hZ e7 Ar (own_idx ix 73 (by omega) (by omega)) (v := (.int (xs.getD (xs.length - 1) 0))) (by show Value.int (cf ix.toNatClampNeg) = _; rw [own_clamp ix _ kix, his.2 _ (by omega)]) (g := (mkF m 16 #[.val (.ref a)] [(.int ix), (.ref t)])) rfl rfl (hb hby d11_16) t₀ k₀) ?_
  show F T7 (mkF m 17 #[.val (.ref a)] [(.int (xs.getD (xs.length - 1) 0))])
  rw [hF]
  refine own_retI X7 hx hret hlk (hb hby d11_17) (by decide) (by decide) ?_
  rw [e7]
  exact ⟨rfl, NI, rfl⟩
theorem d10_0 : decode prog_4_method_5_code 0 = .ok (.aload_n 0, 1) := by decide +kernel
theorem d10_1 : decode prog_4_method_5_code 1 = .ok (.getfield 9, 3) := by decide +kernel
theorem d10_4 : decode prog_4_method_5_code 4 = .ok (.astore_n 2, 1) := by decide +kernel
theorem d10_5 : decode prog_4_method_5_code 5 = .ok (.aload_n 2, 1) := by decide +kernel
theorem d10_6 : decode prog_4_method_5_code 6 = .ok (.bipush 32, 2) := by decide +kernel
theorem d10_8 : decode prog_4_method_5_code 8 = .ok (.iaload, 1) := by decide +kernel
theorem d10_9 : decode prog_4_method_5_code 9 = .ok (.iconst 1, 1) := by decide +kernel
theorem d10_10 : decode prog_4_method_5_code 10 = .ok (.isub, 1) := by decide +kernel
theorem d10_11 : decode prog_4_method_5_code 11 = .ok (.istore_n 3, 1) := by decide +kernel
theorem d10_12 : decode prog_4_method_5_code 12 = .ok (.iload_n 3, 1) := by decide +kernel
theorem d10_13 : decode prog_4_method_5_code 13 = .ok (.ifCond .lt 21, 3) := by decide +kernel
theorem d10_16 : decode prog_4_method_5_code 16 = .ok (.aload_n 2, 1) := by decide +kernel
theorem d10_17 : decode prog_4_method_5_code 17 = .ok (.bipush 33, 2) := by decide +kernel
theorem d10_19 : decode prog_4_method_5_code 19 = .ok (.iload_n 3, 1) := by decide +kernel
theorem d10_20 : decode prog_4_method_5_code 20 = .ok (.iadd, 1) := by decide +kernel
theorem d10_21 : decode prog_4_method_5_code 21 = .ok (.iaload, 1) := by decide +kernel
theorem d10_22 : decode prog_4_method_5_code 22 = .ok (.iload_n 1, 1) := by decide +kernel
theorem d10_23 : decode prog_4_method_5_code 23 = .ok (.if_icmp .ne 5, 3) := by decide +kernel
theorem d10_26 : decode prog_4_method_5_code 26 = .ok (.iload_n 3, 1) := by decide +kernel
theorem d10_27 : decode prog_4_method_5_code 27 = .ok (.ireturn, 1) := by decide +kernel
theorem d10_28 : decode prog_4_method_5_code 28 = .ok (.iinc 3 (-1), 3) := by decide +kernel
theorem d10_31 : decode prog_4_method_5_code 31 = .ok (.goto (-19), 3) := by decide +kernel
theorem d10_34 : decode prog_4_method_5_code 34 = .ok (.iconst (-1), 1) := by decide +kernel
theorem d10_35 : decode prog_4_method_5_code 35 = .ok (.ireturn, 1) := by decide +kernel
theorem pn_10 : plainFor (⟨"com/example/hoist/hoist/CreationPath", "lastIndexOf", "(I)I"⟩ : MethodName) = true := plainFor_of_name (by first | (simp [plainName, overriddenIn]; done) | decide +kernel)
theorem ef_10 (m : MethodId) (a : Addr) (x : Int32) : entryFrame m #[(.ref a), (.int x)] 4 = mkF m 0 #[.val (.ref a), .val (.int x), .unset, .unset] [] := by first | (simp [entryFrame, mkF, argsToLocals, Value.category]; done) | rfl
def Q10 (Z : State) (a : Addr) (x : Int32) (t : Addr) (cf : Nat → Int32) (xs : List Int32) (hI : Heap) (n0 : Nat) (v : Option Value) (h : Heap) (L : List Loc) : Prop := v = some (.int (own_lif xs x xs.length)) ∧ Fr n0 L ∧ h = hI
set_option maxRecDepth 65536 in
set_option maxHeartbeats 40000000 in
theorem rm10 (l : Launch) (Z : State) (a0 : Array Value) (hw : ∀ d ∈ tables_1, d.before a0 Z = true) (ws : List Jvm.Cond) (a : Addr) (x : Int32) (t : Addr) (cf : Nat → Int32) (xs : List Int32) (hI : Heap) (n0 : Nat) (Z0 : n0 ≤ hI.size) (Ff : Fld Z hI a "com/example/hoist/hoist/CreationPath" "slots" "[I" (.ref t)) (Ar : own_A Z hI t .int 73 (fun i => .int (cf i))) (his : own_is cf xs) (hl : xs.length ≤ 8) :
    MetFree l (⟨"com/example/hoist/hoist/CreationPath", "lastIndexOf", "(I)I"⟩ : MethodName) (head1 (Jvm.Cond.code (⟨"com/example/hoist/hoist/CreationPath", "lastIndexOf", "(I)I"⟩ : MethodName) prog_4_method_5_code 4 (some .int) :: ws) ({ frames := 0, cells := 0, slots := 0, locals := 0 } : Room)) (fun a₁ U₁ => a₁ = #[(.ref a), (.int x)] ∧ Z.Warmed39 U₁.vm ∧ U₁.heap = hI) (fun _ _ _ _ _ => True) (fun _ U₁ o₁ U₂ => ∃ v₁ L₁, o₁ = .returned v₁ ∧ Q10 Z a x t cf xs hI n0 v₁ U₂.heap L₁ ∧ FrameEnd U₁ o₁ U₂ L₁ ({ frames := 0, cells := 0, slots := 0, locals := 0 } : Room).cells ({ frames := 0, cells := 0, slots := 0, locals := 0 } : Room).slots) := by
  refine own_body pn_10 ?_
  intro p e s m below meth c s₁ hx hby hml hown hnm hret hlk hZ XI eI
  obtain ⟨F, hF⟩ : ∃ F : State → JFrame → Prop, F = own_Fin p.tables e below s ({ frames := 0, cells := 0, slots := 0, locals := 0 } : Room) (Q10 Z a x t cf xs hI n0) := ⟨_, rfl⟩
  have hst : ∀ {T T' : State} {g g' : JFrame}, (∀ t, Steps p.tables e below (T'.setTop g') t → Steps p.tables e below (T.setTop g) t) → F T' g' → F T g := by subst hF; exact own_st
  have NI := Fr.nil n0
  show own_Fin p.tables e below s ({ frames := 0, cells := 0, slots := 0, locals := 0 } : Room) (Q10 Z a x t cf xs hI n0) s₁ (entryFrame m #[(.ref a), (.int x)] 4)
  rw [← hF]
  rw [ef_10]
  show F s₁ (mkF m 0 #[.val (.ref a), .val (.int x), .unset, .unset] [])
  have k32 : (32 : Int32).toInt = 32 := by decide
  have k33 : (33 : Int32).toInt = 33 := by decide
  have k1 : (1 : Int32).toInt = 1 := by decide
  have k73 : (73 : Int32).toInt = 73 := by decide
  have k0 : (0 : Int32).toInt = 0 := by decide
  refine hst (fun t₀ k₀ => XS.aloadN XI.here hx rfl (hb hby d10_0) rfl rfl k₀) ?_
  show F s₁ (mkF m 1 #[.val (.ref a), .val (.int x), .unset, .unset] [(.ref a)])
  obtain ⟨T1, X1, e1, st1⟩ := getF XI hx hZ hown (host := "") (Or.inl (hw _ (List.mem_of_getElem? (i := 11) rfl))) Via.refl eI Ff (g := (mkF m 1 #[.val (.ref a), .val (.int x), .unset, .unset] [(.ref a)])) rfl rfl (hb hby d10_1)
  refine hst st1 ?_
  show F T1 (mkF m 4 #[.val (.ref a), .val (.int x), .unset, .unset] [(.ref t)])
  refine hst (fun t₀ k₀ => XS.astoreN X1.here hx rfl (hb hby d10_4) rfl rfl (l' := #[.val (.ref a), .val (.int x), .val (.ref t), .unset]) rfl k₀) ?_
  show F T1 (mkF m 5 #[.val (.ref a), .val (.int x), .val (.ref t), .unset] [])
  refine hst (fun t₀ k₀ => XS.aloadN X1.here hx rfl (hb hby d10_5) rfl rfl k₀) ?_
  show F T1 (mkF m 6 #[.val (.ref a), .val (.int x), .val (.ref t), .unset] [(.ref t)])
  refine hst (fun t₀ k₀ => XS.bipush X1.here hx rfl (hb hby d10_6) k₀) ?_
  show F T1 (mkF m 8 #[.val (.ref a), .val (.int x), .val (.ref t), .unset] [(.int (32 : Int32)), (.ref t)])
  refine hst (fun t₀ k₀ => own_iaload X1 hx hZ e1 Ar (by decide) (v := (.int (cf 32))) rfl (g := (mkF m 8 #[.val (.ref a), .val (.int x), .val (.ref t), .unset] [(.int (32 : Int32)), (.ref t)])) rfl rfl (hb hby d10_8) t₀ k₀) ?_
  show F T1 (mkF m 9 #[.val (.ref a), .val (.int x), .val (.ref t), .unset] [(.int (cf 32))])
  generalize hk : (cf 32) = k
  show F T1 (mkF m 9 #[.val (.ref a), .val (.int x), .val (.ref t), .unset] [(.int k)])
  have kk : k.toInt = xs.length := by rw [← hk, his.1]; exact own_ofNat _ (by omega)
  refine hst (fun t₀ k₀ => XS.iconst X1.here hx rfl (hb hby d10_9) k₀) ?_
  show F T1 (mkF m 10 #[.val (.ref a), .val (.int x), .val (.ref t), .unset] [(.int (1 : Int32)), (.int k)])
  refine hst (fun t₀ k₀ => XS.isub X1.here hx rfl (hb hby d10_10) rfl k₀) ?_
  show F T1 (mkF m 11 #[.val (.ref a), .val (.int x), .val (.ref t), .unset] [(.int (k - (1 : Int32)))])
  generalize hi0 : (k - (1 : Int32)) = i0
  show F T1 (mkF m 11 #[.val (.ref a), .val (.int x), .val (.ref t), .unset] [(.int i0)])
  have kiv : i0.toInt = (xs.length : Int) - 1 := by have h1 := c_isub k 1; have h2 := rng32 i0; rw [hi0] at h1; omega
  refine hst (fun t₀ k₀ => XS.istoreN X1.here hx rfl (hb hby d10_11) rfl (l' := #[.val (.ref a), .val (.int x), .val (.ref t), .val (.int i0)]) rfl k₀) ?_
  show F T1 (mkF m 12 #[.val (.ref a), .val (.int x), .val (.ref t), .val (.int i0)] [])
  have lp : ∀ (k : Nat), k ≤ xs.length → own_lif xs x k = own_lif xs x xs.length → ∀ iv : Int32, iv.toInt = (k : Int) - 1 → F T1 (mkF m 12 #[.val (.ref a), .val (.int x), .val (.ref t), .val (.int iv)] []) := by
    intro k
    induction k using Nat.strongRecOn with
    | _ k ih =>
      intro hk he iv hiv
      show F T1 (mkF m 12 #[.val (.ref a), .val (.int x), .val (.ref t), .val (.int iv)] [])
      refine hst (fun t₀ k₀ => XS.iloadN X1.here hx rfl (hb hby d10_12) rfl k₀) ?_
      show F T1 (mkF m 13 #[.val (.ref a), .val (.int x), .val (.ref t), .val (.int iv)] [(.int iv)])
      by_cases hc13 : iv < (0 : Int32)
      · -- pc 13: taken
        refine hst (fun t₀ k₀ => XS.ifYes X1.here hx rfl (pc0 := 13) (pc' := 34) rfl (hb hby d10_13) rfl ((if0 _ _).trans (tlt hc13).1) (by decide) (by decide) k₀) ?_
        show F T1 (mkF m 34 #[.val (.ref a), .val (.int x), .val (.ref t), .val (.int iv)] [])
        have q13 : k = 0 := by rw [own_lt32] at hc13; omega
        refine hst (fun t₀ k₀ => XS.iconst X1.here hx rfl (hb hby d10_34) k₀) ?_
        show F T1 (mkF m 35 #[.val (.ref a), .val (.int x), .val (.ref t), .val (.int iv)] [(.int (-1 : Int32))])
        rw [hF]
        refine own_retI X1 hx hret hlk (hb hby d10_35) (by decide) (by decide) ?_
        rw [e1]
        exact ⟨(by rw [← he, q13]; rfl), NI, rfl⟩
      · -- pc 13: not taken
        refine hst (fun t₀ k₀ => XS.ifNo X1.here hx rfl (hb hby d10_13) rfl ((if0 _ _).trans (flt hc13).1) k₀) ?_
        show F T1 (mkF m 16 #[.val (.ref a), .val (.int x), .val (.ref t), .val (.int iv)] [])
        obtain ⟨k', rfl⟩ : ∃ k', k = k' + 1 := ⟨k - 1, by rw [own_lt32] at hc13; omega⟩
        refine hst (fun t₀ k₀ => XS.aloadN X1.here hx rfl (hb hby d10_16) rfl rfl k₀) ?_
        show F T1 (mkF m 17 #[.val (.ref a), .val (.int x), .val (.ref t), .val (.int iv)] [(.ref t)])
        refine hst (fun t₀ k₀ => XS.bipush X1.here hx rfl (hb hby d10_17) k₀) ?_
        show F T1 (mkF m 19 #[.val (.ref a), .val (.int x), .val (.ref t), .val (.int iv)] [(.int (33 : Int32)), (.ref t)])
        refine hst (fun t₀ k₀ => XS.iloadN X1.here hx rfl (hb hby d10_19) rfl k₀) ?_
        show F T1 (mkF m 20 #[.val (.ref a), .val (.int x), .val (.ref t), .val (.int iv)] [(.int iv), (.int (33 : Int32)), (.ref t)])
        refine hst (fun t₀ k₀ => XS.iadd X1.here hx rfl (hb hby d10_20) rfl k₀) ?_
        show F T1 (mkF m 21 #[.val (.ref a), .val (.int x), .val (.ref t), .val (.int iv)] [(.int ((33 : Int32) + iv)), (.ref t)])
        generalize hix : ((33 : Int32) + iv) = ix
        show F T1 (mkF m 21 #[.val (.ref a), .val (.int x), .val (.ref t), .val (.int iv)] [(.int ix), (.ref t)])
        have kix : ix.toInt = ((33 + k' : Nat) : Int) := by have h1 := c_iadd 33 iv; have h2 := rng32 ix; rw [hix] at h1; omega
        refine hst (fun t₀ k₀ => own_iaload X1 hx hZ e1 Ar (own_idx ix 73 (by omega) (by omega)) (v := (.int (xs.getD k' 0))) (by show Value.int (cf ix.toNatClampNeg) = _; rw [own_clamp ix _ kix, his.2 _ (by omega)]) (g := (mkF m 21 #[.val (.ref a), .val (.int x), .val (.ref t), .val (.int iv)] [(.int ix), (.ref t)])) rfl rfl (hb hby d10_21) t₀ k₀) ?_
        show F T1 (mkF m 22 #[.val (.ref a), .val (.int x), .val (.ref t), .val (.int iv)] [(.int (xs.getD k' 0))])
        refine hst (fun t₀ k₀ => XS.iloadN X1.here hx rfl (hb hby d10_22) rfl k₀) ?_
        show F T1 (mkF m 23 #[.val (.ref a), .val (.int x), .val (.ref t), .val (.int iv)] [(.int x), (.int (xs.getD k' 0))])
        by_cases hc23 : (xs.getD k' 0) = x
        · -- pc 23: not taken
          refine hst (fun t₀ k₀ => XS.icmpNo X1.here hx rfl (hb hby d10_23) rfl (teq hc23).2 k₀) ?_
          show F T1 (mkF m 26 #[.val (.ref a), .val (.int x), .val (.ref t), .val (.int iv)] [])
          refine hst (fun t₀ k₀ => XS.iloadN X1.here hx rfl (hb hby d10_26) rfl k₀) ?_
          show F T1 (mkF m 27 #[.val (.ref a), .val (.int x), .val (.ref t), .val (.int iv)] [(.int iv)])
          rw [hF]
          refine own_retI X1 hx hret hlk (hb hby d10_27) (by decide) (by decide) ?_
          rw [e1]
          exact ⟨(by rw [← he, own_lif, if_pos hc23]; congr 2; apply Int32.toInt_inj.mp; rw [own_ofNat _ (by omega)]; omega), NI, rfl⟩
        · -- pc 23: taken
          refine hst (fun t₀ k₀ => XS.icmpYes X1.here hx rfl (pc0 := 23) (pc' := 28) rfl (hb hby d10_23) rfl (feq hc23).2 (by decide) (by decide) k₀) ?_
          show F T1 (mkF m 28 #[.val (.ref a), .val (.int x), .val (.ref t), .val (.int iv)] [])
          refine hst (fun t₀ k₀ => XS.iinc X1.here hx rfl (hb hby d10_28) rfl (l' := #[.val (.ref a), .val (.int x), .val (.ref t), .val (.int (iv + (-1 : Int32)))]) rfl k₀) ?_
          show F T1 (mkF m 31 #[.val (.ref a), .val (.int x), .val (.ref t), .val (.int (iv + (-1 : Int32)))] [])
          refine hst (fun t₀ k₀ => XS.goto X1.here hx rfl (pc0 := 31) (pc' := 12) rfl (hb hby d10_31) (by decide) (by decide) k₀) ?_
          show F T1 (mkF m 12 #[.val (.ref a), .val (.int x), .val (.ref t), .val (.int (iv + (-1 : Int32)))] [])
          exact ih k' (by omega) (by omega) (by rw [← he, own_lif, if_neg hc23]) _ (by rw [own_dec iv (by omega)]; omega)
  exact lp xs.length (Nat.le_refl _) rfl _ kiv
section OwnCopy
variable {p : Program} {l : Launch} {e : Env} {R : Room} {s : State} {m : MethodId} {args : Array Value} {below : List Frame} {meth : Method} {c : Code} {T : State} {locs : List Loc} {cells slots : Nat} {Z : State} {a0 : Array Value} {h : Heap}
theorem own_acopy {own : String} {index : Nat} {src dst : Addr} {sp cnt : Int32} {n1 n2 S K : Nat} {f1 : Nat → Int32} {f2 : Nat → Value} {g : JFrame} {rest : List Value} (X : Stand p l e R s m args below meth c T locs cells slots) (hx : p.tables.exec = Jvm.exec) (hZ : Z.Warmed39 s.vm) (hown : s.vm.findClass own = some m.cls)
    (w1 : (Jvm.Cond.methodLink own index ⟨"java/lang/System", "arraycopy", "(Ljava/lang/Object;ILjava/lang/Object;II)V"⟩).before a0 Z = true) (w2 : (Jvm.Cond.native ⟨"java/lang/System", "arraycopy", "(Ljava/lang/Object;ILjava/lang/Object;II)V"⟩).before a0 Z = true) (w3 : (Jvm.Cond.static ⟨"java/lang/System", "arraycopy", "(Ljava/lang/Object;ILjava/lang/Object;II)V"⟩).before a0 Z = true) (w4 : (Jvm.Cond.initialized "java/lang/System").before a0 Z = true)
    (eT : T.heap = h) (A1 : own_A Z h src .int n1 (fun i => .int (f1 i))) (A2 : own_A Z h dst .int n2 f2) (hsp : sp.toInt = S) (hcnt : cnt.toInt = K) (h1 : S + K ≤ n1) (h2 : K ≤ n2)
    (hg : g.method = m) (hsize : g.locals.size = c.maxLocals) (hstack : g.stack = .int cnt :: .int 0 :: .ref dst :: .int sp :: .ref src :: rest) (hdg : decode c.code g.pc = .ok (.invokestatic index, 3)) (hframes : 1 ≤ R.frames) (hlocals : 2 * g.monitorRoom + (rest.map fun v => v.category).sum + 18 ≤ R.locals) :
    ∃ T' h' L, Stand p l e R s m args below meth c T' (locs ++ L) cells slots ∧ T'.heap = h' ∧ (∀ y ∈ L, y.base = dst) ∧ Keep h h' [dst] ∧ own_A Z h' dst .int n2 (fun i => if i < K then .int (f1 (S + i)) else f2 i) ∧
      ∀ target, Steps p.tables e below (T'.setTop { g with pc := g.pc + 3, stack := rest }) target → Steps p.tables e below (T.setTop g) target := by
  obtain ⟨cs, As, s1, s2⟩ := A1
  obtain ⟨cd, Ad, d1, d2⟩ := A2
  subst eT
  have k0 : (0 : Int32).toInt = 0 := by decide
  have eS : sp.toNatClampNeg = S := by show sp.toInt.toNat = S; omega
  have eK : cnt.toNatClampNeg = K := by show cnt.toInt.toNat = K; omega
  obtain ⟨-, ks, hks, sC, hsk⟩ := State.isArrayOf_alike hZ.alike As.2.1
  obtain ⟨-, kd, hkd, dC, hdk⟩ := State.isArrayOf_alike hZ.alike Ad.2.1
  have hget : ∀ i, i < K → cs.slots.getD (S + i) .null = .int (f1 (S + i)) := fun i hi => by
    rw [Array.getD_eq_getD_getElem?, s2 _ (by omega)]; rfl
  obtain ⟨vm', X', st⟩ := X.arraycopy hx hown (mv hZ w1) (mv hZ w2) (mv hZ w3) (mv hZ w4) (srcPos := sp) (destPos := 0) (n := cnt) As.1 Ad.1
    As.2.1.1 Ad.2.1.1 As.2.2 Ad.2.2 hks hkd hsk hdk rfl
    (by rw [Int32.lt_iff_toInt_lt]; omega) (by decide) (by rw [Int32.lt_iff_toInt_lt]; omega) (by rw [s1]; omega) (by rw [d1]; omega)
    (fun vm₁ hal i hi => by rw [eS, hget i (by omega)]; exact ⟨rfl, trivial⟩) hg hsize hstack hdg hframes hlocals
  have hlen : (cs.stretch sp.toNatClampNeg cnt.toNatClampNeg).length = K := by rw [Cell.stretch_length, eK]
  obtain ⟨f1', f2', f3', -⟩ := Cell.storeRun_facts cd 0 (cs.stretch sp.toNatClampNeg cnt.toNatClampNeg)
  have hlt : dst < T.heap.size := Ad.lt
  refine ⟨_, _, _, X', rfl, fun y hy => ?_, ⟨?_, ?_, ?_⟩, ⟨cd.storeRun 0 (cs.stretch sp.toNatClampNeg cnt.toNatClampNeg), ⟨?_, ?_, ?_⟩, ?_, ?_⟩, st⟩
  · obtain ⟨q, -, rfl⟩ := List.mem_map.mp hy; rfl
  · show T.heap.size ≤ (T.heap.setIfInBounds dst _).size
    simp
  · intro x cl hc hx'
    show (T.heap.setIfInBounds dst _)[x]? = _
    rw [Array.getElem?_setIfInBounds_ne (fun q => hx' (by rw [q]; exact List.mem_singleton.mpr rfl))]; exact hc
  · intro x cl hc
    by_cases q : x = dst
    · subst q
      have : cl = cd := Option.some.inj (hc.symm.trans Ad.1)
      subst this
      refine ⟨_, ?_, f1', f2', f3'⟩
      show (T.heap.setIfInBounds x _)[x]? = _
      rw [Array.getElem?_setIfInBounds_self_of_lt hlt]; rfl
    · refine ⟨cl, ?_, rfl, rfl, rfl⟩
      show (T.heap.setIfInBounds dst _)[x]? = _
      rw [Array.getElem?_setIfInBounds_ne (Ne.symm q)]; exact hc
  · show (T.heap.setIfInBounds dst _)[dst]? = _
    rw [Array.getElem?_setIfInBounds_self_of_lt hlt]; rfl
  · obtain ⟨q1, q2⟩ := Ad.2.1
    exact ⟨by rw [f2']; exact q1, by rw [f1']; exact q2⟩
  · rw [f2']; exact Ad.2.2
  · rw [f3', d1]
  · intro i hi
    rw [Cell.storeRun_get _ _ _ _ (by rw [hlen, d1]; omega)]
    rw [hlen]
    show _ = some (if i < K then Value.int (f1 (S + i)) else f2 i)
    by_cases q : i < K
    · rw [if_pos (by omega), if_pos q]
      show ((List.range cnt.toNatClampNeg).map fun i => cs.slots.getD (sp.toNatClampNeg + i) .null)[i - 0]? = _
      rw [eS, eK, List.getElem?_map, List.getElem?_range (by omega)]
      show some (cs.slots.getD (S + (i - 0)) .null) = _
      rw [Nat.sub_zero, hget i q]
    · rw [if_neg (by omega), if_neg q]; exact d2 i hi
end OwnCopy

theorem d8_0 : decode jdk_65_method_131_code 0 = .ok (.iload_n 1, 1) := by decide +kernel
theorem d8_1 : decode jdk_65_method_131_code 1 = .ok (.iload_n 0, 1) := by decide +kernel
theorem d8_2 : decode jdk_65_method_131_code 2 = .ok (.if_icmp .ge 35, 3) := by decide +kernel
theorem d8_37 : decode jdk_65_method_131_code 37 = .ok (.return_, 1) := by decide +kernel
theorem pn_8 : plainFor (⟨"java/util/Arrays", "checkLength", "(II)V"⟩ : MethodName) = true := plainFor_of_name (by first | (simp [plainName, overriddenIn]; done) | decide +kernel)
theorem ef_8 (m : MethodId) (p1 : Int32) (p2 : Int32) : entryFrame m #[(.int p1), (.int p2)] 2 = mkF m 0 #[.val (.int p1), .val (.int p2)] [] := by first | (simp [entryFrame, mkF, argsToLocals, Value.category]; done) | rfl
def Q8 (Z : State) (p1 : Int32) (p2 : Int32) (hI : Heap) (n0 : Nat) (v : Option Value) (h : Heap) (L : List Loc) : Prop := v = none ∧ Fr n0 L ∧ h = hI
set_option maxRecDepth 65536 in
set_option maxHeartbeats 40000000 in
theorem rm8 (l : Launch) (Z : State) (a0 : Array Value) (hw : ∀ d ∈ tables_1, d.before a0 Z = true) (ws : List Jvm.Cond) (p1 : Int32) (p2 : Int32) (hI : Heap) (n0 : Nat) (Z0 : n0 ≤ hI.size) (hge : ¬ p2 < p1) :
    MetFree l (⟨"java/util/Arrays", "checkLength", "(II)V"⟩ : MethodName) (head1 (Jvm.Cond.code (⟨"java/util/Arrays", "checkLength", "(II)V"⟩ : MethodName) jdk_65_method_131_code 2 none :: ws) ({ frames := 0, cells := 0, slots := 0, locals := 0 } : Room)) (fun a₁ U₁ => a₁ = #[(.int p1), (.int p2)] ∧ Z.Warmed39 U₁.vm ∧ U₁.heap = hI) (fun _ _ _ _ _ => True) (fun _ U₁ o₁ U₂ => ∃ v₁ L₁, o₁ = .returned v₁ ∧ Q8 Z p1 p2 hI n0 v₁ U₂.heap L₁ ∧ FrameEnd U₁ o₁ U₂ L₁ ({ frames := 0, cells := 0, slots := 0, locals := 0 } : Room).cells ({ frames := 0, cells := 0, slots := 0, locals := 0 } : Room).slots) := by
  refine own_body pn_8 ?_
  intro p e s m below meth c s₁ hx hby hml hown hnm hret hlk hZ XI eI
  obtain ⟨F, hF⟩ : ∃ F : State → JFrame → Prop, F = own_Fin p.tables e below s ({ frames := 0, cells := 0, slots := 0, locals := 0 } : Room) (Q8 Z p1 p2 hI n0) := ⟨_, rfl⟩
  have hst : ∀ {T T' : State} {g g' : JFrame}, (∀ t, Steps p.tables e below (T'.setTop g') t → Steps p.tables e below (T.setTop g) t) → F T' g' → F T g := by subst hF; exact own_st
  have NI := Fr.nil n0
  show own_Fin p.tables e below s ({ frames := 0, cells := 0, slots := 0, locals := 0 } : Room) (Q8 Z p1 p2 hI n0) s₁ (entryFrame m #[(.int p1), (.int p2)] 2)
  rw [← hF]
  rw [ef_8]
  show F s₁ (mkF m 0 #[.val (.int p1), .val (.int p2)] [])
  refine hst (fun t₀ k₀ => XS.iloadN XI.here hx rfl (hb hby d8_0) rfl k₀) ?_
  show F s₁ (mkF m 1 #[.val (.int p1), .val (.int p2)] [(.int p2)])
  refine hst (fun t₀ k₀ => XS.iloadN XI.here hx rfl (hb hby d8_1) rfl k₀) ?_
  show F s₁ (mkF m 2 #[.val (.int p1), .val (.int p2)] [(.int p1), (.int p2)])
  refine hst (fun t₀ k₀ => XS.icmpYes XI.here hx rfl (pc0 := 2) (pc' := 37) rfl (hb hby d8_2) rfl (flt hge).2.1 (by decide) (by decide) k₀) ?_
  show F s₁ (mkF m 37 #[.val (.int p1), .val (.int p2)] [])
  rw [hF]
  refine own_retV XI hx hret hlk (hb hby d8_37) (by decide) (by decide) ?_
  rw [eI]
  exact ⟨rfl, NI, rfl⟩
theorem d9_0 : decode jdk_29_method_69_code 0 = .ok (.iload_n 0, 1) := by decide +kernel
theorem d9_1 : decode jdk_29_method_69_code 1 = .ok (.iload_n 1, 1) := by decide +kernel
theorem d9_2 : decode jdk_29_method_69_code 2 = .ok (.if_icmp .gt 7, 3) := by decide +kernel
theorem d9_5 : decode jdk_29_method_69_code 5 = .ok (.iload_n 0, 1) := by decide +kernel
theorem d9_6 : decode jdk_29_method_69_code 6 = .ok (.goto 4, 3) := by decide +kernel
theorem d9_9 : decode jdk_29_method_69_code 9 = .ok (.iload_n 1, 1) := by decide +kernel
theorem d9_10 : decode jdk_29_method_69_code 10 = .ok (.ireturn, 1) := by decide +kernel
theorem pn_9 : plainFor (⟨"java/lang/Math", "min", "(II)I"⟩ : MethodName) = true := Jvm.Free.JP.mathPlain rfl (by decide +kernel)
theorem ef_9 (m : MethodId) (p1 : Int32) (p2 : Int32) : entryFrame m #[(.int p1), (.int p2)] 2 = mkF m 0 #[.val (.int p1), .val (.int p2)] [] := by first | (simp [entryFrame, mkF, argsToLocals, Value.category]; done) | rfl
def Q9 (Z : State) (p1 : Int32) (p2 : Int32) (hI : Heap) (n0 : Nat) (v : Option Value) (h : Heap) (L : List Loc) : Prop := v = some (.int (if p2 < p1 then p2 else p1)) ∧ Fr n0 L ∧ h = hI
set_option maxRecDepth 65536 in
set_option maxHeartbeats 40000000 in
theorem rm9 (l : Launch) (Z : State) (a0 : Array Value) (hw : ∀ d ∈ tables_1, d.before a0 Z = true) (ws : List Jvm.Cond) (p1 : Int32) (p2 : Int32) (hI : Heap) (n0 : Nat) (Z0 : n0 ≤ hI.size) :
    MetFree l (⟨"java/lang/Math", "min", "(II)I"⟩ : MethodName) (head1 (Jvm.Cond.code (⟨"java/lang/Math", "min", "(II)I"⟩ : MethodName) jdk_29_method_69_code 2 (some .int) :: ws) ({ frames := 0, cells := 0, slots := 0, locals := 0 } : Room)) (fun a₁ U₁ => a₁ = #[(.int p1), (.int p2)] ∧ Z.Warmed39 U₁.vm ∧ U₁.heap = hI) (fun _ _ _ _ _ => True) (fun _ U₁ o₁ U₂ => ∃ v₁ L₁, o₁ = .returned v₁ ∧ Q9 Z p1 p2 hI n0 v₁ U₂.heap L₁ ∧ FrameEnd U₁ o₁ U₂ L₁ ({ frames := 0, cells := 0, slots := 0, locals := 0 } : Room).cells ({ frames := 0, cells := 0, slots := 0, locals := 0 } : Room).slots) := by
  refine own_body pn_9 ?_
  intro p e s m below meth c s₁ hx hby hml hown hnm hret hlk hZ XI eI
  obtain ⟨F, hF⟩ : ∃ F : State → JFrame → Prop, F = own_Fin p.tables e below s ({ frames := 0, cells := 0, slots := 0, locals := 0 } : Room) (Q9 Z p1 p2 hI n0) := ⟨_, rfl⟩
  have hst : ∀ {T T' : State} {g g' : JFrame}, (∀ t, Steps p.tables e below (T'.setTop g') t → Steps p.tables e below (T.setTop g) t) → F T' g' → F T g := by subst hF; exact own_st
  have NI := Fr.nil n0
  show own_Fin p.tables e below s ({ frames := 0, cells := 0, slots := 0, locals := 0 } : Room) (Q9 Z p1 p2 hI n0) s₁ (entryFrame m #[(.int p1), (.int p2)] 2)
  rw [← hF]
  rw [ef_9]
  show F s₁ (mkF m 0 #[.val (.int p1), .val (.int p2)] [])
  refine hst (fun t₀ k₀ => XS.iloadN XI.here hx rfl (hb hby d9_0) rfl k₀) ?_
  show F s₁ (mkF m 1 #[.val (.int p1), .val (.int p2)] [(.int p1)])
  refine hst (fun t₀ k₀ => XS.iloadN XI.here hx rfl (hb hby d9_1) rfl k₀) ?_
  show F s₁ (mkF m 2 #[.val (.int p1), .val (.int p2)] [(.int p2), (.int p1)])
  by_cases hc2 : p2 < p1
  · -- pc 2: taken
    refine hst (fun t₀ k₀ => XS.icmpYes XI.here hx rfl (pc0 := 2) (pc' := 9) rfl (hb hby d9_2) rfl (tlt hc2).2.2.1 (by decide) (by decide) k₀) ?_
    show F s₁ (mkF m 9 #[.val (.int p1), .val (.int p2)] [])
    refine hst (fun t₀ k₀ => XS.iloadN XI.here hx rfl (hb hby d9_9) rfl k₀) ?_
    show F s₁ (mkF m 10 #[.val (.int p1), .val (.int p2)] [(.int p2)])
    rw [hF]
    refine own_retI XI hx hret hlk (hb hby d9_10) (by decide) (by decide) ?_
    rw [eI]
    exact ⟨(by simp [*]), NI, rfl⟩
  · -- pc 2: not taken
    refine hst (fun t₀ k₀ => XS.icmpNo XI.here hx rfl (hb hby d9_2) rfl (flt hc2).2.2.1 k₀) ?_
    show F s₁ (mkF m 5 #[.val (.int p1), .val (.int p2)] [])
    refine hst (fun t₀ k₀ => XS.iloadN XI.here hx rfl (hb hby d9_5) rfl k₀) ?_
    show F s₁ (mkF m 6 #[.val (.int p1), .val (.int p2)] [(.int p1)])
    refine hst (fun t₀ k₀ => XS.goto XI.here hx rfl (pc0 := 6) (pc' := 10) rfl (hb hby d9_6) (by decide) (by decide) k₀) ?_
    show F s₁ (mkF m 10 #[.val (.int p1), .val (.int p2)] [(.int p1)])
    rw [hF]
    refine own_retI XI hx hret hlk (hb hby d9_10) (by decide) (by decide) ?_
    rw [eI]
    exact ⟨(by simp [*]), NI, rfl⟩
theorem d7_0 : decode jdk_65_method_137_code 0 = .ok (.iload_n 1, 1) := by decide +kernel
theorem d7_1 : decode jdk_65_method_137_code 1 = .ok (.iload_n 2, 1) := by decide +kernel
theorem d7_2 : decode jdk_65_method_137_code 2 = .ok (.invokestatic 343, 3) := by decide +kernel
theorem d7_5 : decode jdk_65_method_137_code 5 = .ok (.iload_n 2, 1) := by decide +kernel
theorem d7_6 : decode jdk_65_method_137_code 6 = .ok (.iload_n 1, 1) := by decide +kernel
theorem d7_7 : decode jdk_65_method_137_code 7 = .ok (.isub, 1) := by decide +kernel
theorem d7_8 : decode jdk_65_method_137_code 8 = .ok (.istore_n 3, 1) := by decide +kernel
theorem d7_9 : decode jdk_65_method_137_code 9 = .ok (.iload_n 3, 1) := by decide +kernel
theorem d7_10 : decode jdk_65_method_137_code 10 = .ok (.newarray .int, 2) := by decide +kernel
theorem d7_12 : decode jdk_65_method_137_code 12 = .ok (.astore 4, 2) := by decide +kernel
theorem d7_14 : decode jdk_65_method_137_code 14 = .ok (.aload_n 0, 1) := by decide +kernel
theorem d7_15 : decode jdk_65_method_137_code 15 = .ok (.iload_n 1, 1) := by decide +kernel
theorem d7_16 : decode jdk_65_method_137_code 16 = .ok (.aload 4, 2) := by decide +kernel
theorem d7_18 : decode jdk_65_method_137_code 18 = .ok (.iconst 0, 1) := by decide +kernel
theorem d7_19 : decode jdk_65_method_137_code 19 = .ok (.aload_n 0, 1) := by decide +kernel
theorem d7_20 : decode jdk_65_method_137_code 20 = .ok (.arraylength, 1) := by decide +kernel
theorem d7_21 : decode jdk_65_method_137_code 21 = .ok (.iload_n 1, 1) := by decide +kernel
theorem d7_22 : decode jdk_65_method_137_code 22 = .ok (.isub, 1) := by decide +kernel
theorem d7_23 : decode jdk_65_method_137_code 23 = .ok (.iload_n 3, 1) := by decide +kernel
theorem d7_24 : decode jdk_65_method_137_code 24 = .ok (.invokestatic 304, 3) := by decide +kernel
theorem d7_27 : decode jdk_65_method_137_code 27 = .ok (.invokestatic 150, 3) := by decide +kernel
theorem d7_30 : decode jdk_65_method_137_code 30 = .ok (.aload 4, 2) := by decide +kernel
theorem d7_32 : decode jdk_65_method_137_code 32 = .ok (.areturn, 1) := by decide +kernel
theorem pn_7 : plainFor (⟨"java/util/Arrays", "copyOfRangeInt", "([III)[I"⟩ : MethodName) = true := plainFor_of_name (by first | (simp [plainName, overriddenIn]; done) | decide +kernel)
theorem pd_6 : parseMethodDescriptor "(II)V" = some ⟨[.int, .int], none⟩ := by decide +kernel
theorem pd_5 : parseMethodDescriptor "(II)I" = some ⟨[.int, .int], some .int⟩ := by decide +kernel
theorem ef_7 (m : MethodId) (a : Addr) (lo : Int32) (hi : Int32) : entryFrame m #[(.ref a), (.int lo), (.int hi)] 5 = mkF m 0 #[.val (.ref a), .val (.int lo), .val (.int hi), .unset, .unset] [] := by first | (simp [entryFrame, mkF, argsToLocals, Value.category]; done) | rfl
def Q7 (Z : State) (a : Addr) (lo : Int32) (hi : Int32) (cf : Nat → Int32) (So : Nat) (Eo : Nat) (hI : Heap) (n0 : Nat) (v : Option Value) (h : Heap) (L : List Loc) : Prop := ∃ (b : Addr), v = some (.ref b) ∧ Fr n0 L ∧ Keep hI h [] ∧ own_A Z h b .int (Eo - So) (fun i => .int (cf (So + i))) ∧ n0 ≤ b
set_option maxRecDepth 65536 in
set_option maxHeartbeats 40000000 in
theorem rm7 (l : Launch) (Z : State) (a0 : Array Value) (hw : ∀ d ∈ tables_1, d.before a0 Z = true) (ws : List Jvm.Cond) (a : Addr) (lo : Int32) (hi : Int32) (cf : Nat → Int32) (So : Nat) (Eo : Nat) (hI : Heap) (n0 : Nat) (Z0 : n0 ≤ hI.size) (Ar : own_A Z hI a .int 73 (fun i => .int (cf i))) (hlo : lo.toInt = So) (hhi : hi.toInt = Eo) (hse : So ≤ Eo) (he : Eo ≤ 73) (hd : Eo - So ≤ 8) (hs0 : 0 < So) :
    MetFree l (⟨"java/util/Arrays", "copyOfRangeInt", "([III)[I"⟩ : MethodName) (head1 (Jvm.Cond.code (⟨"java/util/Arrays", "copyOfRangeInt", "([III)[I"⟩ : MethodName) jdk_65_method_137_code 5 (some (.array .int)) :: ws) ({ frames := 1, cells := 1, slots := 8, locals := 18 } : Room)) (fun a₁ U₁ => a₁ = #[(.ref a), (.int lo), (.int hi)] ∧ Z.Warmed39 U₁.vm ∧ U₁.heap = hI) (fun _ _ _ _ _ => True) (fun _ U₁ o₁ U₂ => ∃ v₁ L₁, o₁ = .returned v₁ ∧ Q7 Z a lo hi cf So Eo hI n0 v₁ U₂.heap L₁ ∧ FrameEnd U₁ o₁ U₂ L₁ ({ frames := 1, cells := 1, slots := 8, locals := 18 } : Room).cells ({ frames := 1, cells := 1, slots := 8, locals := 18 } : Room).slots) := by
  refine own_body pn_7 ?_
  intro p e s m below meth c s₁ hx hby hml hown hnm hret hlk hZ XI eI
  obtain ⟨F, hF⟩ : ∃ F : State → JFrame → Prop, F = own_Fin p.tables e below s ({ frames := 1, cells := 1, slots := 8, locals := 18 } : Room) (Q7 Z a lo hi cf So Eo hI n0) := ⟨_, rfl⟩
  have hst : ∀ {T T' : State} {g g' : JFrame}, (∀ t, Steps p.tables e below (T'.setTop g') t → Steps p.tables e below (T.setTop g) t) → F T' g' → F T g := by subst hF; exact own_st
  have NI := Fr.nil n0
  show own_Fin p.tables e below s ({ frames := 1, cells := 1, slots := 8, locals := 18 } : Room) (Q7 Z a lo hi cf So Eo hI n0) s₁ (entryFrame m #[(.ref a), (.int lo), (.int hi)] 5)
  rw [← hF]
  rw [ef_7]
  show F s₁ (mkF m 0 #[.val (.ref a), .val (.int lo), .val (.int hi), .unset, .unset] [])
  have k73 : (73 : Int32).toInt = 73 := by decide
  have k0 : (0 : Int32).toInt = 0 := by decide
  refine hst (fun t₀ k₀ => XS.iloadN XI.here hx rfl (hb hby d7_0) rfl k₀) ?_
  show F s₁ (mkF m 1 #[.val (.ref a), .val (.int lo), .val (.int hi), .unset, .unset] [(.int lo)])
  refine hst (fun t₀ k₀ => XS.iloadN XI.here hx rfl (hb hby d7_1) rfl k₀) ?_
  show F s₁ (mkF m 2 #[.val (.ref a), .val (.int lo), .val (.int hi), .unset, .unset] [(.int hi), (.int lo)])
  obtain ⟨v2, T2, Lc2, X2, hQ2, st2⟩ := own_callS XI hx hZ hown (y := (⟨"java/util/Arrays", "checkLength", "(II)V"⟩ : MethodName)) (hw _ (List.mem_of_getElem? (i := 35) rfl)) (hw _ (List.mem_of_getElem? (i := 36) rfl)) (hw _ (List.mem_of_getElem? (i := 30) rfl)) (hw _ (List.mem_of_getElem? (i := 37) rfl)) (by decide) eI (rm8 l Z a0 hw [] lo hi hI n0 Z0 (by rw [own_lt32]; omega)) (by decide) (by decide) (g := (mkF m 2 #[.val (.ref a), .val (.int lo), .val (.int hi), .unset, .unset] [(.int hi), (.int lo)])) rfl (by rw [hml]; rfl) (argsL := [(.int lo), (.int hi)]) (rest := []) (lenOf pd_6 rfl) rfl rfl (W := 0) (by show 2 * 0 + _ ≤ _; exact Nat.le_of_eq rfl) (hb hby d7_2) (by decide) (by decide)
  obtain ⟨rfl, Nq2, he2⟩ := hQ2
  have N2 := Fr.app NI Nq2
  refine hst st2 ?_
  show F T2 (mkF m 5 #[.val (.ref a), .val (.int lo), .val (.int hi), .unset, .unset] [])
  refine hst (fun t₀ k₀ => XS.iloadN X2.here hx rfl (hb hby d7_5) rfl k₀) ?_
  show F T2 (mkF m 6 #[.val (.ref a), .val (.int lo), .val (.int hi), .unset, .unset] [(.int hi)])
  refine hst (fun t₀ k₀ => XS.iloadN X2.here hx rfl (hb hby d7_6) rfl k₀) ?_
  show F T2 (mkF m 7 #[.val (.ref a), .val (.int lo), .val (.int hi), .unset, .unset] [(.int lo), (.int hi)])
  refine hst (fun t₀ k₀ => XS.isub X2.here hx rfl (hb hby d7_7) rfl k₀) ?_
  show F T2 (mkF m 8 #[.val (.ref a), .val (.int lo), .val (.int hi), .unset, .unset] [(.int (hi - lo))])
  generalize hln : (hi - lo) = ln
  show F T2 (mkF m 8 #[.val (.ref a), .val (.int lo), .val (.int hi), .unset, .unset] [(.int ln)])
  have kln : ln.toInt = ((Eo - So : Nat) : Int) := by have h1 := c_isub hi lo; have h2 := rng32 ln; rw [hln] at h1; omega
  refine hst (fun t₀ k₀ => XS.istoreN X2.here hx rfl (hb hby d7_8) rfl (l' := #[.val (.ref a), .val (.int lo), .val (.int hi), .val (.int ln), .unset]) rfl k₀) ?_
  show F T2 (mkF m 9 #[.val (.ref a), .val (.int lo), .val (.int hi), .val (.int ln), .unset] [])
  refine hst (fun t₀ k₀ => XS.iloadN X2.here hx rfl (hb hby d7_9) rfl k₀) ?_
  show F T2 (mkF m 10 #[.val (.ref a), .val (.int lo), .val (.int hi), .val (.int ln), .unset] [(.int ln)])
  obtain ⟨T10, h10, b10, X10, e10, g10, E10, A10, st10⟩ := own_newarr X2 hx hZ (hw _ (List.mem_of_getElem? (i := 10) rfl)) he2 (g := (mkF m 10 #[.val (.ref a), .val (.int lo), .val (.int hi), .val (.int ln), .unset] [(.int ln)])) rfl (hb hby d7_10) rfl (by rw [own_lt32]; omega) (cap := 8) (by rw [own_clamp ln _ kln]; exact hd) (by decide) (by decide) (by decide)
  have ne_a_b10 : a ≠ b10 := Nat.ne_of_lt (Nat.lt_of_lt_of_le Ar.lt (Nat.le_of_eq g10.symm))
  have ge_b10 : n0 ≤ b10 := Nat.le_trans Z0 (Nat.le_of_eq g10.symm)
  have sz_b10 : hI.size ≤ b10 := Nat.le_trans (Keep.refl hI []).1 (Nat.le_of_eq g10.symm)
  have Ar_p10 : own_A Z h10 a .int 73 (fun i => .int (cf i)) := Ar.ext E10
  have Z0_p10 : n0 ≤ h10.size := (Nat.le_trans Z0 E10.1)
  have K_p10 : Keep hI h10 [] := (Keep.refl hI []).ext E10
  have A_b10 : own_A Z h10 b10 .int (Eo - So) (fun _ => (.int (0 : Int32))) := (by have A := A10; rw [own_clamp ln _ kln] at A; exact A)
  refine hst st10 ?_
  show F T10 (mkF m 12 #[.val (.ref a), .val (.int lo), .val (.int hi), .val (.int ln), .unset] [(.ref b10)])
  refine hst (fun t₀ k₀ => XS.astore X10.here hx rfl (hb hby d7_12) rfl rfl (l' := #[.val (.ref a), .val (.int lo), .val (.int hi), .val (.int ln), .val (.ref b10)]) rfl k₀) ?_
  show F T10 (mkF m 14 #[.val (.ref a), .val (.int lo), .val (.int hi), .val (.int ln), .val (.ref b10)] [])
  refine hst (fun t₀ k₀ => XS.aloadN X10.here hx rfl (hb hby d7_14) rfl rfl k₀) ?_
  show F T10 (mkF m 15 #[.val (.ref a), .val (.int lo), .val (.int hi), .val (.int ln), .val (.ref b10)] [(.ref a)])
  refine hst (fun t₀ k₀ => XS.iloadN X10.here hx rfl (hb hby d7_15) rfl k₀) ?_
  show F T10 (mkF m 16 #[.val (.ref a), .val (.int lo), .val (.int hi), .val (.int ln), .val (.ref b10)] [(.int lo), (.ref a)])
  refine hst (fun t₀ k₀ => XS.aload X10.here hx rfl (hb hby d7_16) rfl rfl k₀) ?_
  show F T10 (mkF m 18 #[.val (.ref a), .val (.int lo), .val (.int hi), .val (.int ln), .val (.ref b10)] [(.ref b10), (.int lo), (.ref a)])
  refine hst (fun t₀ k₀ => XS.iconst X10.here hx rfl (hb hby d7_18) k₀) ?_
  show F T10 (mkF m 19 #[.val (.ref a), .val (.int lo), .val (.int hi), .val (.int ln), .val (.ref b10)] [(.int (0 : Int32)), (.ref b10), (.int lo), (.ref a)])
  refine hst (fun t₀ k₀ => XS.aloadN X10.here hx rfl (hb hby d7_19) rfl rfl k₀) ?_
  show F T10 (mkF m 20 #[.val (.ref a), .val (.int lo), .val (.int hi), .val (.int ln), .val (.ref b10)] [(.ref a), (.int (0 : Int32)), (.ref b10), (.int lo), (.ref a)])
  refine hst (fun t₀ k₀ => own_alen X10 hx hZ e10 Ar_p10 (z := (73 : Int32)) (by decide) (g := (mkF m 20 #[.val (.ref a), .val (.int lo), .val (.int hi), .val (.int ln), .val (.ref b10)] [(.ref a), (.int (0 : Int32)), (.ref b10), (.int lo), (.ref a)])) rfl rfl (hb hby d7_20) t₀ k₀) ?_
  show F T10 (mkF m 21 #[.val (.ref a), .val (.int lo), .val (.int hi), .val (.int ln), .val (.ref b10)] [(.int (73 : Int32)), (.int (0 : Int32)), (.ref b10), (.int lo), (.ref a)])
  refine hst (fun t₀ k₀ => XS.iloadN X10.here hx rfl (hb hby d7_21) rfl k₀) ?_
  show F T10 (mkF m 22 #[.val (.ref a), .val (.int lo), .val (.int hi), .val (.int ln), .val (.ref b10)] [(.int lo), (.int (73 : Int32)), (.int (0 : Int32)), (.ref b10), (.int lo), (.ref a)])
  refine hst (fun t₀ k₀ => XS.isub X10.here hx rfl (hb hby d7_22) rfl k₀) ?_
  show F T10 (mkF m 23 #[.val (.ref a), .val (.int lo), .val (.int hi), .val (.int ln), .val (.ref b10)] [(.int ((73 : Int32) - lo)), (.int (0 : Int32)), (.ref b10), (.int lo), (.ref a)])
  generalize hrs : ((73 : Int32) - lo) = rs
  show F T10 (mkF m 23 #[.val (.ref a), .val (.int lo), .val (.int hi), .val (.int ln), .val (.ref b10)] [(.int rs), (.int (0 : Int32)), (.ref b10), (.int lo), (.ref a)])
  have krs : rs.toInt = ((73 - So : Nat) : Int) := by have h1 := c_isub 73 lo; have h2 := rng32 rs; rw [hrs] at h1; omega
  refine hst (fun t₀ k₀ => XS.iloadN X10.here hx rfl (hb hby d7_23) rfl k₀) ?_
  show F T10 (mkF m 24 #[.val (.ref a), .val (.int lo), .val (.int hi), .val (.int ln), .val (.ref b10)] [(.int ln), (.int rs), (.int (0 : Int32)), (.ref b10), (.int lo), (.ref a)])
  obtain ⟨v24, T24, Lc24, X24, hQ24, st24⟩ := own_callS X10 hx hZ hown (y := (⟨"java/lang/Math", "min", "(II)I"⟩ : MethodName)) (hw _ (List.mem_of_getElem? (i := 38) rfl)) (hw _ (List.mem_of_getElem? (i := 39) rfl)) (hw _ (List.mem_of_getElem? (i := 40) rfl)) (hw _ (List.mem_of_getElem? (i := 41) rfl)) (by decide) e10 (rm9 l Z a0 hw [] rs ln h10 n0 Z0_p10 ) (by decide) (by decide) (g := (mkF m 24 #[.val (.ref a), .val (.int lo), .val (.int hi), .val (.int ln), .val (.ref b10)] [(.int ln), (.int rs), (.int (0 : Int32)), (.ref b10), (.int lo), (.ref a)])) rfl (by rw [hml]; rfl) (argsL := [(.int rs), (.int ln)]) (rest := [(.int (0 : Int32)), (.ref b10), (.int lo), (.ref a)]) (lenOf pd_5 rfl) rfl rfl (W := 4) (by show 2 * 0 + _ ≤ _; exact Nat.le_of_eq rfl) (hb hby d7_24) (by decide) (by decide)
  obtain ⟨rfl, Nq24, he24⟩ := hQ24
  have N24 := Fr.app N2 Nq24
  refine hst st24 ?_
  show F T24 (mkF m 27 #[.val (.ref a), .val (.int lo), .val (.int hi), .val (.int ln), .val (.ref b10)] [(.int (if ln < rs then ln else rs)), (.int (0 : Int32)), (.ref b10), (.int lo), (.ref a)])
  generalize hcn : (if ln < rs then ln else rs) = cn
  show F T24 (mkF m 27 #[.val (.ref a), .val (.int lo), .val (.int hi), .val (.int ln), .val (.ref b10)] [(.int cn), (.int (0 : Int32)), (.ref b10), (.int lo), (.ref a)])
  have kcnt : cn.toInt = ((Eo - So : Nat) : Int) := by rw [← hcn]; by_cases q : ln < rs; rw [if_pos q]; exact kln; rw [if_neg q]; rw [own_lt32] at q; omega
  obtain ⟨T27, h27, Lc27, X27, e27, hL27, K27, A27, st27⟩ := own_acopy X24 hx hZ hown (hw _ (List.mem_of_getElem? (i := 42) rfl)) (hw _ (List.mem_of_getElem? (i := 45) rfl)) (hw _ (List.mem_of_getElem? (i := 43) rfl)) (hw _ (List.mem_of_getElem? (i := 44) rfl)) he24 Ar_p10 A_b10 (S := So) (K := Eo - So) hlo kcnt (by omega) (by omega) (g := (mkF m 27 #[.val (.ref a), .val (.int lo), .val (.int hi), .val (.int ln), .val (.ref b10)] [(.int cn), (.int (0 : Int32)), (.ref b10), (.int lo), (.ref a)])) rfl (by rw [hml]; rfl) rfl (hb hby d7_27) (by decide) (Nat.le_of_ble_eq_true rfl)
  have N27 := Fr.app N24 (fun y hy => by rw [hL27 y hy]; exact ge_b10 : Fr n0 Lc27)
  have K_p27 : Keep hI h27 [] := K_p10.trans K27 (fun x hx' => Or.inr (by rw [List.mem_singleton.mp hx']; exact sz_b10))
  have Ac : own_A Z h27 b10 .int (Eo - So) (fun i => .int (cf (So + i))) := own_A.congr A27 (fun i hi => by (try dsimp only); rw [if_pos hi])
  have Z0_p27 : n0 ≤ h27.size := Nat.le_trans Z0_p10 K27.1
  refine hst st27 ?_
  show F T27 (mkF m 30 #[.val (.ref a), .val (.int lo), .val (.int hi), .val (.int ln), .val (.ref b10)] [])
  refine hst (fun t₀ k₀ => XS.aload X27.here hx rfl (hb hby d7_30) rfl rfl k₀) ?_
  show F T27 (mkF m 32 #[.val (.ref a), .val (.int lo), .val (.int hi), .val (.int ln), .val (.ref b10)] [(.ref b10)])
  rw [hF]
  refine own_retA X27 hx hret rfl rfl hlk (hb hby d7_32) (by decide) (by decide) ?_
  rw [e27]
  exact ⟨b10, rfl, N27, K_p27, Ac, ge_b10⟩
theorem d6_0 : decode jdk_65_method_136_code 0 = .ok (.iload_n 1, 1) := by decide +kernel
theorem d6_1 : decode jdk_65_method_136_code 1 = .ok (.ifCond .ne 9, 3) := by decide +kernel
theorem d6_10 : decode jdk_65_method_136_code 10 = .ok (.aload_n 0, 1) := by decide +kernel
theorem d6_11 : decode jdk_65_method_136_code 11 = .ok (.iload_n 1, 1) := by decide +kernel
theorem d6_12 : decode jdk_65_method_136_code 12 = .ok (.iload_n 2, 1) := by decide +kernel
theorem d6_13 : decode jdk_65_method_136_code 13 = .ok (.invokestatic 351, 3) := by decide +kernel
theorem d6_16 : decode jdk_65_method_136_code 16 = .ok (.areturn, 1) := by decide +kernel
theorem pn_6 : plainFor (⟨"java/util/Arrays", "copyOfRange", "([III)[I"⟩ : MethodName) = true := plainFor_of_name (by first | (simp [plainName, overriddenIn]; done) | decide +kernel)
theorem pd_8 : parseMethodDescriptor "([III)[I" = some ⟨[(.array .int), .int, .int], some (.array .int)⟩ := by decide +kernel
theorem ef_6 (m : MethodId) (a : Addr) (lo : Int32) (hi : Int32) : entryFrame m #[(.ref a), (.int lo), (.int hi)] 3 = mkF m 0 #[.val (.ref a), .val (.int lo), .val (.int hi)] [] := by first | (simp [entryFrame, mkF, argsToLocals, Value.category]; done) | rfl
def Q6 (Z : State) (a : Addr) (lo : Int32) (hi : Int32) (cf : Nat → Int32) (So : Nat) (Eo : Nat) (hI : Heap) (n0 : Nat) (v : Option Value) (h : Heap) (L : List Loc) : Prop := ∃ (b : Addr), v = some (.ref b) ∧ Fr n0 L ∧ Keep hI h [] ∧ own_A Z h b .int (Eo - So) (fun i => .int (cf (So + i))) ∧ n0 ≤ b
set_option maxRecDepth 65536 in
set_option maxHeartbeats 40000000 in
theorem rm6 (l : Launch) (Z : State) (a0 : Array Value) (hw : ∀ d ∈ tables_1, d.before a0 Z = true) (ws : List Jvm.Cond) (a : Addr) (lo : Int32) (hi : Int32) (cf : Nat → Int32) (So : Nat) (Eo : Nat) (hI : Heap) (n0 : Nat) (Z0 : n0 ≤ hI.size) (Ar : own_A Z hI a .int 73 (fun i => .int (cf i))) (hlo : lo.toInt = So) (hhi : hi.toInt = Eo) (hse : So ≤ Eo) (he : Eo ≤ 73) (hd : Eo - So ≤ 8) (hs0 : 0 < So) :
    MetFree l (⟨"java/util/Arrays", "copyOfRange", "([III)[I"⟩ : MethodName) (head1 (Jvm.Cond.code (⟨"java/util/Arrays", "copyOfRange", "([III)[I"⟩ : MethodName) jdk_65_method_136_code 3 (some (.array .int)) :: ws) ({ frames := 2, cells := 1, slots := 8, locals := 34 } : Room)) (fun a₁ U₁ => a₁ = #[(.ref a), (.int lo), (.int hi)] ∧ Z.Warmed39 U₁.vm ∧ U₁.heap = hI) (fun _ _ _ _ _ => True) (fun _ U₁ o₁ U₂ => ∃ v₁ L₁, o₁ = .returned v₁ ∧ Q6 Z a lo hi cf So Eo hI n0 v₁ U₂.heap L₁ ∧ FrameEnd U₁ o₁ U₂ L₁ ({ frames := 2, cells := 1, slots := 8, locals := 34 } : Room).cells ({ frames := 2, cells := 1, slots := 8, locals := 34 } : Room).slots) := by
  refine own_body pn_6 ?_
  intro p e s m below meth c s₁ hx hby hml hown hnm hret hlk hZ XI eI
  obtain ⟨F, hF⟩ : ∃ F : State → JFrame → Prop, F = own_Fin p.tables e below s ({ frames := 2, cells := 1, slots := 8, locals := 34 } : Room) (Q6 Z a lo hi cf So Eo hI n0) := ⟨_, rfl⟩
  have hst : ∀ {T T' : State} {g g' : JFrame}, (∀ t, Steps p.tables e below (T'.setTop g') t → Steps p.tables e below (T.setTop g) t) → F T' g' → F T g := by subst hF; exact own_st
  have NI := Fr.nil n0
  show own_Fin p.tables e below s ({ frames := 2, cells := 1, slots := 8, locals := 34 } : Room) (Q6 Z a lo hi cf So Eo hI n0) s₁ (entryFrame m #[(.ref a), (.int lo), (.int hi)] 3)
  rw [← hF]
  rw [ef_6]
  show F s₁ (mkF m 0 #[.val (.ref a), .val (.int lo), .val (.int hi)] [])
  refine hst (fun t₀ k₀ => XS.iloadN XI.here hx rfl (hb hby d6_0) rfl k₀) ?_
  show F s₁ (mkF m 1 #[.val (.ref a), .val (.int lo), .val (.int hi)] [(.int lo)])
  refine hst (fun t₀ k₀ => XS.ifYes XI.here hx rfl (pc0 := 1) (pc' := 10) rfl (hb hby d6_1) rfl ((if0 _ _).trans (feq (fun q => by rw [own_eq32] at q; have k0 : (0 : Int32).toInt = 0 := (by decide); omega)).2) (by decide) (by decide) k₀) ?_
  show F s₁ (mkF m 10 #[.val (.ref a), .val (.int lo), .val (.int hi)] [])
  refine hst (fun t₀ k₀ => XS.aloadN XI.here hx rfl (hb hby d6_10) rfl rfl k₀) ?_
  show F s₁ (mkF m 11 #[.val (.ref a), .val (.int lo), .val (.int hi)] [(.ref a)])
  refine hst (fun t₀ k₀ => XS.iloadN XI.here hx rfl (hb hby d6_11) rfl k₀) ?_
  show F s₁ (mkF m 12 #[.val (.ref a), .val (.int lo), .val (.int hi)] [(.int lo), (.ref a)])
  refine hst (fun t₀ k₀ => XS.iloadN XI.here hx rfl (hb hby d6_12) rfl k₀) ?_
  show F s₁ (mkF m 13 #[.val (.ref a), .val (.int lo), .val (.int hi)] [(.int hi), (.int lo), (.ref a)])
  obtain ⟨v13, T13, Lc13, X13, hQ13, st13⟩ := own_callS XI hx hZ hown (y := (⟨"java/util/Arrays", "copyOfRangeInt", "([III)[I"⟩ : MethodName)) (hw _ (List.mem_of_getElem? (i := 32) rfl)) (hw _ (List.mem_of_getElem? (i := 33) rfl)) (hw _ (List.mem_of_getElem? (i := 30) rfl)) (hw _ (List.mem_of_getElem? (i := 34) rfl)) (by decide) eI (rm7 l Z a0 hw [] a lo hi cf So Eo hI n0 Z0 Ar hlo hhi hse he hd hs0) (by decide) (by decide) (g := (mkF m 13 #[.val (.ref a), .val (.int lo), .val (.int hi)] [(.int hi), (.int lo), (.ref a)])) rfl (by rw [hml]; rfl) (argsL := [(.ref a), (.int lo), (.int hi)]) (rest := []) (lenOf pd_8 rfl) rfl rfl (W := 0) (by show 2 * 0 + _ ≤ _; exact Nat.le_of_eq rfl) (hb hby d6_13) (by decide) (by decide)
  obtain ⟨b13, rfl, Nq13, K13, q1_13, ge_b13⟩ := hQ13
  have N13 := Fr.app NI Nq13
  have Ar_p13 : own_A Z T13.heap a .int 73 (fun i => .int (cf i)) := Ar.keep K13 (List.not_mem_nil)
  have Z0_p13 : n0 ≤ T13.heap.size := Nat.le_trans Z0 K13.1
  have K_p13 : Keep hI T13.heap [] := (Keep.refl hI []).trans K13 (fun x hx' => absurd hx' List.not_mem_nil)
  refine hst st13 ?_
  show F T13 (mkF m 16 #[.val (.ref a), .val (.int lo), .val (.int hi)] [(.ref b13)])
  rw [hF]
  refine own_retA X13 hx hret rfl rfl hlk (hb hby d6_16) (by decide) (by decide) ?_
  exact ⟨b13, rfl, N13, K_p13, q1_13, ge_b13⟩
theorem d5_0 : decode prog_4_method_7_code 0 = .ok (.aload_n 0, 1) := by decide +kernel
theorem d5_1 : decode prog_4_method_7_code 1 = .ok (.getfield 9, 3) := by decide +kernel
theorem d5_4 : decode prog_4_method_7_code 4 = .ok (.bipush 33, 2) := by decide +kernel
theorem d5_6 : decode prog_4_method_7_code 6 = .ok (.iload_n 1, 1) := by decide +kernel
theorem d5_7 : decode prog_4_method_7_code 7 = .ok (.iadd, 1) := by decide +kernel
theorem d5_8 : decode prog_4_method_7_code 8 = .ok (.bipush 33, 2) := by decide +kernel
theorem d5_10 : decode prog_4_method_7_code 10 = .ok (.aload_n 0, 1) := by decide +kernel
theorem d5_11 : decode prog_4_method_7_code 11 = .ok (.getfield 9, 3) := by decide +kernel
theorem d5_14 : decode prog_4_method_7_code 14 = .ok (.bipush 32, 2) := by decide +kernel
theorem d5_16 : decode prog_4_method_7_code 16 = .ok (.iaload, 1) := by decide +kernel
theorem d5_17 : decode prog_4_method_7_code 17 = .ok (.iadd, 1) := by decide +kernel
theorem d5_18 : decode prog_4_method_7_code 18 = .ok (.invokestatic 23, 3) := by decide +kernel
theorem d5_21 : decode prog_4_method_7_code 21 = .ok (.areturn, 1) := by decide +kernel
theorem pn_5 : plainFor (⟨"com/example/hoist/hoist/CreationPath", "from", "(I)[I"⟩ : MethodName) = true := plainFor_of_name (by first | (simp [plainName, overriddenIn]; done) | decide +kernel)
theorem ef_5 (m : MethodId) (a : Addr) (st0 : Int32) : entryFrame m #[(.ref a), (.int st0)] 2 = mkF m 0 #[.val (.ref a), .val (.int st0)] [] := by first | (simp [entryFrame, mkF, argsToLocals, Value.category]; done) | rfl
def Q5 (Z : State) (a : Addr) (st0 : Int32) (t : Addr) (cf : Nat → Int32) (xs : List Int32) (hI : Heap) (n0 : Nat) (v : Option Value) (h : Heap) (L : List Loc) : Prop := ∃ (b : Addr), v = some (.ref b) ∧ Fr n0 L ∧ Keep hI h [] ∧ own_A Z h b .int xs.length (fun i => .int (xs.getD i 0)) ∧ n0 ≤ b
set_option maxRecDepth 65536 in
set_option maxHeartbeats 40000000 in
theorem rm5 (l : Launch) (Z : State) (a0 : Array Value) (hw : ∀ d ∈ tables_1, d.before a0 Z = true) (ws : List Jvm.Cond) (a : Addr) (st0 : Int32) (t : Addr) (cf : Nat → Int32) (xs : List Int32) (hI : Heap) (n0 : Nat) (Z0 : n0 ≤ hI.size) (Ff : Fld Z hI a "com/example/hoist/hoist/CreationPath" "slots" "[I" (.ref t)) (Ar : own_A Z hI t .int 73 (fun i => .int (cf i))) (his : own_is cf xs) (hl : xs.length ≤ 8) (hst0 : st0 = 0) :
    MetFree l (⟨"com/example/hoist/hoist/CreationPath", "from", "(I)[I"⟩ : MethodName) (head1 (Jvm.Cond.code (⟨"com/example/hoist/hoist/CreationPath", "from", "(I)[I"⟩ : MethodName) prog_4_method_7_code 2 (some (.array .int)) :: ws) ({ frames := 3, cells := 1, slots := 8, locals := 48 } : Room)) (fun a₁ U₁ => a₁ = #[(.ref a), (.int st0)] ∧ Z.Warmed39 U₁.vm ∧ U₁.heap = hI) (fun _ _ _ _ _ => True) (fun _ U₁ o₁ U₂ => ∃ v₁ L₁, o₁ = .returned v₁ ∧ Q5 Z a st0 t cf xs hI n0 v₁ U₂.heap L₁ ∧ FrameEnd U₁ o₁ U₂ L₁ ({ frames := 3, cells := 1, slots := 8, locals := 48 } : Room).cells ({ frames := 3, cells := 1, slots := 8, locals := 48 } : Room).slots) := by
  refine own_body pn_5 ?_
  intro p e s m below meth c s₁ hx hby hml hown hnm hret hlk hZ XI eI
  obtain ⟨F, hF⟩ : ∃ F : State → JFrame → Prop, F = own_Fin p.tables e below s ({ frames := 3, cells := 1, slots := 8, locals := 48 } : Room) (Q5 Z a st0 t cf xs hI n0) := ⟨_, rfl⟩
  have hst : ∀ {T T' : State} {g g' : JFrame}, (∀ t, Steps p.tables e below (T'.setTop g') t → Steps p.tables e below (T.setTop g) t) → F T' g' → F T g := by subst hF; exact own_st
  have NI := Fr.nil n0
  show own_Fin p.tables e below s ({ frames := 3, cells := 1, slots := 8, locals := 48 } : Room) (Q5 Z a st0 t cf xs hI n0) s₁ (entryFrame m #[(.ref a), (.int st0)] 2)
  rw [← hF]
  rw [ef_5]
  show F s₁ (mkF m 0 #[.val (.ref a), .val (.int st0)] [])
  have k33 : (33 : Int32).toInt = 33 := by decide
  have k0 : (0 : Int32).toInt = 0 := by decide
  refine hst (fun t₀ k₀ => XS.aloadN XI.here hx rfl (hb hby d5_0) rfl rfl k₀) ?_
  show F s₁ (mkF m 1 #[.val (.ref a), .val (.int st0)] [(.ref a)])
  obtain ⟨T1, X1, e1, st1⟩ := getF XI hx hZ hown (host := "") (Or.inl (hw _ (List.mem_of_getElem? (i := 11) rfl))) Via.refl eI Ff (g := (mkF m 1 #[.val (.ref a), .val (.int st0)] [(.ref a)])) rfl rfl (hb hby d5_1)
  refine hst st1 ?_
  show F T1 (mkF m 4 #[.val (.ref a), .val (.int st0)] [(.ref t)])
  refine hst (fun t₀ k₀ => XS.bipush X1.here hx rfl (hb hby d5_4) k₀) ?_
  show F T1 (mkF m 6 #[.val (.ref a), .val (.int st0)] [(.int (33 : Int32)), (.ref t)])
  refine hst (fun t₀ k₀ => XS.iloadN X1.here hx rfl (hb hby d5_6) rfl k₀) ?_
  show F T1 (mkF m 7 #[.val (.ref a), .val (.int st0)] [(.int st0), (.int (33 : Int32)), (.ref t)])
  refine hst (fun t₀ k₀ => XS.iadd X1.here hx rfl (hb hby d5_7) rfl k₀) ?_
  show F T1 (mkF m 8 #[.val (.ref a), .val (.int st0)] [(.int ((33 : Int32) + st0)), (.ref t)])
  generalize hlo : ((33 : Int32) + st0) = lo
  show F T1 (mkF m 8 #[.val (.ref a), .val (.int st0)] [(.int lo), (.ref t)])
  have klo : lo.toInt = ((33 : Nat) : Int) := by rw [← hlo, hst0]; decide
  refine hst (fun t₀ k₀ => XS.bipush X1.here hx rfl (hb hby d5_8) k₀) ?_
  show F T1 (mkF m 10 #[.val (.ref a), .val (.int st0)] [(.int (33 : Int32)), (.int lo), (.ref t)])
  refine hst (fun t₀ k₀ => XS.aloadN X1.here hx rfl (hb hby d5_10) rfl rfl k₀) ?_
  show F T1 (mkF m 11 #[.val (.ref a), .val (.int st0)] [(.ref a), (.int (33 : Int32)), (.int lo), (.ref t)])
  obtain ⟨T11, X11, e11, st11⟩ := getF X1 hx hZ hown (host := "") (Or.inl (hw _ (List.mem_of_getElem? (i := 11) rfl))) Via.refl e1 Ff (g := (mkF m 11 #[.val (.ref a), .val (.int st0)] [(.ref a), (.int (33 : Int32)), (.int lo), (.ref t)])) rfl rfl (hb hby d5_11)
  refine hst st11 ?_
  show F T11 (mkF m 14 #[.val (.ref a), .val (.int st0)] [(.ref t), (.int (33 : Int32)), (.int lo), (.ref t)])
  refine hst (fun t₀ k₀ => XS.bipush X11.here hx rfl (hb hby d5_14) k₀) ?_
  show F T11 (mkF m 16 #[.val (.ref a), .val (.int st0)] [(.int (32 : Int32)), (.ref t), (.int (33 : Int32)), (.int lo), (.ref t)])
  refine hst (fun t₀ k₀ => own_iaload X11 hx hZ e11 Ar (by decide) (v := (.int (cf 32))) rfl (g := (mkF m 16 #[.val (.ref a), .val (.int st0)] [(.int (32 : Int32)), (.ref t), (.int (33 : Int32)), (.int lo), (.ref t)])) rfl rfl (hb hby d5_16) t₀ k₀) ?_
  show F T11 (mkF m 17 #[.val (.ref a), .val (.int st0)] [(.int (cf 32)), (.int (33 : Int32)), (.int lo), (.ref t)])
  generalize hk : (cf 32) = k
  show F T11 (mkF m 17 #[.val (.ref a), .val (.int st0)] [(.int k), (.int (33 : Int32)), (.int lo), (.ref t)])
  have kk : k.toInt = xs.length := by rw [← hk, his.1]; exact own_ofNat _ (by omega)
  refine hst (fun t₀ k₀ => XS.iadd X11.here hx rfl (hb hby d5_17) rfl k₀) ?_
  show F T11 (mkF m 18 #[.val (.ref a), .val (.int st0)] [(.int ((33 : Int32) + k)), (.int lo), (.ref t)])
  generalize hhi : ((33 : Int32) + k) = hi
  show F T11 (mkF m 18 #[.val (.ref a), .val (.int st0)] [(.int hi), (.int lo), (.ref t)])
  have khi : hi.toInt = ((33 + xs.length : Nat) : Int) := by have h1 := c_iadd 33 k; have h2 := rng32 hi; rw [hhi] at h1; omega
  obtain ⟨v18, T18, Lc18, X18, hQ18, st18⟩ := own_callS X11 hx hZ hown (y := (⟨"java/util/Arrays", "copyOfRange", "([III)[I"⟩ : MethodName)) (hw _ (List.mem_of_getElem? (i := 28) rfl)) (hw _ (List.mem_of_getElem? (i := 29) rfl)) (hw _ (List.mem_of_getElem? (i := 30) rfl)) (hw _ (List.mem_of_getElem? (i := 31) rfl)) (by decide) e11 (rm6 l Z a0 hw [] t lo hi cf 33 (33 + xs.length) hI n0 Z0 Ar klo khi (by omega) (by omega) (by omega) (by decide)) (by decide) (by decide) (g := (mkF m 18 #[.val (.ref a), .val (.int st0)] [(.int hi), (.int lo), (.ref t)])) rfl (by rw [hml]; rfl) (argsL := [(.ref t), (.int lo), (.int hi)]) (rest := []) (lenOf pd_8 rfl) rfl rfl (W := 0) (by show 2 * 0 + _ ≤ _; exact Nat.le_of_eq rfl) (hb hby d5_18) (by decide) (by decide)
  obtain ⟨b18, rfl, Nq18, K18, q1_18, ge_b18⟩ := hQ18
  have N18 := Fr.app NI Nq18
  have Ff_p18 : Fld Z T18.heap a "com/example/hoist/hoist/CreationPath" "slots" "[I" (.ref t) := Ff.keep K18 (List.not_mem_nil)
  have Ar_p18 : own_A Z T18.heap t .int 73 (fun i => .int (cf i)) := Ar.keep K18 (List.not_mem_nil)
  have Z0_p18 : n0 ≤ T18.heap.size := Nat.le_trans Z0 K18.1
  have K_p18 : Keep hI T18.heap [] := (Keep.refl hI []).trans K18 (fun x hx' => absurd hx' List.not_mem_nil)
  refine hst st18 ?_
  show F T18 (mkF m 21 #[.val (.ref a), .val (.int st0)] [(.ref b18)])
  have Af : own_A Z T18.heap b18 .int xs.length (fun i => .int (xs.getD i 0)) := by
    have A := q1_18
    rw [show 33 + xs.length - 33 = xs.length by omega] at A
    exact own_A.congr A (fun i hi => by rw [his.2 i hi])
  rw [hF]
  refine own_retA X18 hx hret rfl rfl hlk (hb hby d5_21) (by decide) (by decide) ?_
  exact ⟨b18, rfl, N18, K_p18, Af, ge_b18⟩
theorem pn_0 : plainFor x = true := plainFor_of_name (by first | (simp [plainName, overriddenIn]; done) | decide +kernel)
theorem pd_1 : parseMethodDescriptor "()V" = some ⟨[], none⟩ := by decide +kernel
theorem pd_3 : parseMethodDescriptor "(I)V" = some ⟨[.int], none⟩ := by decide +kernel
theorem pd_4 : parseMethodDescriptor "(I)[I" = some ⟨[.int], some (.array .int)⟩ := by decide +kernel
theorem pd_2 : parseMethodDescriptor "(I)I" = some ⟨[.int], some .int⟩ := by decide +kernel
theorem pd_0 : parseMethodDescriptor "()I" = some ⟨[], some .int⟩ := by decide +kernel
theorem ef_0 (m : MethodId) (p1 : Int32) (p2 : Int32) (p3 : Int32) (p4 : Int32) (p5 : Int32) : entryFrame m #[(.int p1), (.int p2), (.int p3), (.int p4), (.int p5)] maxLocals = mkF m 0 #[.val (.int p1), .val (.int p2), .val (.int p3), .val (.int p4), .val (.int p5), .unset, .unset, .unset, .unset, .unset, .unset] [] := by first | (simp [entryFrame, mkF, argsToLocals, Value.category, maxLocals]; done) | rfl
def Q0 (Z : State) (p1 : Int32) (p2 : Int32) (p3 : Int32) (p4 : Int32) (p5 : Int32) (hI : Heap) (n0 : Nat) (v : Option Value) (h : Heap) (L : List Loc) : Prop := v = some (.int 1) ∧ Fr n0 L
set_option maxRecDepth 65536 in
set_option maxHeartbeats 40000000 in
theorem rm0 (l : Launch) (Z : State) (a0 : Array Value) (hw : ∀ d ∈ tables_1, d.before a0 Z = true) (ws : List Jvm.Cond) (p1 : Int32) (p2 : Int32) (p3 : Int32) (p4 : Int32) (p5 : Int32) (hI : Heap) (n0 : Nat) (Z0 : n0 ≤ hI.size) :
    MetFree l x (head1 (Jvm.Cond.code x code maxLocals ret :: ws) room_1) (fun a₁ U₁ => a₁ = #[(.int p1), (.int p2), (.int p3), (.int p4), (.int p5)] ∧ Z.Warmed39 U₁.vm ∧ U₁.heap = hI) (fun _ _ _ _ _ => True) (fun _ U₁ o₁ U₂ => ∃ v₁ L₁, o₁ = .returned v₁ ∧ Q0 Z p1 p2 p3 p4 p5 hI n0 v₁ U₂.heap L₁ ∧ FrameEnd U₁ o₁ U₂ L₁ room_1.cells room_1.slots) := by
  refine own_body pn_0 ?_
  intro p e s m below meth c s₁ hx hby hml hown hnm hret hlk hZ XI eI
  have hml : c.maxLocals = 11 := hml
  obtain ⟨F, hF⟩ : ∃ F : State → JFrame → Prop, F = own_Fin p.tables e below s room_1 (Q0 Z p1 p2 p3 p4 p5 hI n0) := ⟨_, rfl⟩
  have hst : ∀ {T T' : State} {g g' : JFrame}, (∀ t, Steps p.tables e below (T'.setTop g') t → Steps p.tables e below (T.setTop g) t) → F T' g' → F T g := by subst hF; exact own_st
  have NI := Fr.nil n0
  show own_Fin p.tables e below s room_1 (Q0 Z p1 p2 p3 p4 p5 hI n0) s₁ (entryFrame m #[(.int p1), (.int p2), (.int p3), (.int p4), (.int p5)] maxLocals)
  rw [← hF]
  rw [ef_0]
  show F s₁ (mkF m 0 #[.val (.int p1), .val (.int p2), .val (.int p3), .val (.int p4), .val (.int p5), .unset, .unset, .unset, .unset, .unset, .unset] [])
  refine hst (fun t₀ k₀ => XS.iconst XI.here hx rfl (hb hby at_0) k₀) ?_
  show F s₁ (mkF m 1 #[.val (.int p1), .val (.int p2), .val (.int p3), .val (.int p4), .val (.int p5), .unset, .unset, .unset, .unset, .unset, .unset] [(.int (1 : Int32))])
  refine hst (fun t₀ k₀ => XS.iload XI.here hx rfl (hb hby at_1) rfl k₀) ?_
  show F s₁ (mkF m 3 #[.val (.int p1), .val (.int p2), .val (.int p3), .val (.int p4), .val (.int p5), .unset, .unset, .unset, .unset, .unset, .unset] [(.int p5), (.int (1 : Int32))])
  refine hst (fun t₀ k₀ => XI.ldcI hx hown (mvT hZ (hw _ (List.mem_of_getElem? (i := 0) rfl))) (g := (mkF m 3 #[.val (.int p1), .val (.int p2), .val (.int p3), .val (.int p4), .val (.int p5), .unset, .unset, .unset, .unset, .unset, .unset] [(.int p5), (.int (1 : Int32))])) rfl (hb hby at_3) k₀) ?_
  show F s₁ (mkF m 5 #[.val (.int p1), .val (.int p2), .val (.int p3), .val (.int p4), .val (.int p5), .unset, .unset, .unset, .unset, .unset, .unset] [(.int (2147483647 : Int32)), (.int p5), (.int (1 : Int32))])
  refine hst (fun t₀ k₀ => XS.iand XI.here hx rfl (hb hby at_5) rfl k₀) ?_
  show F s₁ (mkF m 6 #[.val (.int p1), .val (.int p2), .val (.int p3), .val (.int p4), .val (.int p5), .unset, .unset, .unset, .unset, .unset, .unset] [(.int (p5 &&& (2147483647 : Int32))), (.int (1 : Int32))])
  refine hst (fun t₀ k₀ => XS.iconst XI.here hx rfl (hb hby at_6) k₀) ?_
  show F s₁ (mkF m 7 #[.val (.int p1), .val (.int p2), .val (.int p3), .val (.int p4), .val (.int p5), .unset, .unset, .unset, .unset, .unset, .unset] [(.int (3 : Int32)), (.int (p5 &&& (2147483647 : Int32))), (.int (1 : Int32))])
  refine hst (fun t₀ k₀ => iremM XI hx rfl (hb hby at_7) rfl (by decide) k₀) ?_
  show F s₁ (mkF m 8 #[.val (.int p1), .val (.int p2), .val (.int p3), .val (.int p4), .val (.int p5), .unset, .unset, .unset, .unset, .unset, .unset] [(.int ((p5 &&& (2147483647 : Int32)) % (3 : Int32))), (.int (1 : Int32))])
  refine hst (fun t₀ k₀ => XS.iadd XI.here hx rfl (hb hby at_8) rfl k₀) ?_
  show F s₁ (mkF m 9 #[.val (.int p1), .val (.int p2), .val (.int p3), .val (.int p4), .val (.int p5), .unset, .unset, .unset, .unset, .unset, .unset] [(.int ((1 : Int32) + ((p5 &&& (2147483647 : Int32)) % (3 : Int32))))])
  generalize hn : ((1 : Int32) + ((p5 &&& (2147483647 : Int32)) % (3 : Int32))) = n
  show F s₁ (mkF m 9 #[.val (.int p1), .val (.int p2), .val (.int p3), .val (.int p4), .val (.int p5), .unset, .unset, .unset, .unset, .unset, .unset] [(.int n)])
  have hn3 : n = 1 ∨ n = 2 ∨ n = 3 := by
    have h1 := c_mask p5 2147483647 31 (by decide) (by decide); have h2 := (c_irem (p5 &&& 2147483647) 3 3 (by decide)).1 (by omega); have h3 := c_iadd 1 ((p5 &&& 2147483647) % 3); have h4 := rng32 n; rw [hn] at h3
    have k1 : (1 : Int32).toInt = 1 := by decide
    have k2 : (2 : Int32).toInt = 2 := by decide
    have k3 : (3 : Int32).toInt = 3 := by decide
    simp only [own_eq32]; omega
  clear hn
  refine hst (fun t₀ k₀ => XS.istore XI.here hx rfl (hb hby at_9) rfl (l' := #[.val (.int p1), .val (.int p2), .val (.int p3), .val (.int p4), .val (.int p5), .val (.int n), .unset, .unset, .unset, .unset, .unset]) rfl k₀) ?_
  show F s₁ (mkF m 11 #[.val (.int p1), .val (.int p2), .val (.int p3), .val (.int p4), .val (.int p5), .val (.int n), .unset, .unset, .unset, .unset, .unset] [])
  obtain ⟨T11, h11, b11, X11, e11, g11, E11, A11, D11, st11⟩ := own_new XI hx hZ hown (hw _ (List.mem_of_getElem? (i := 1) rfl)) (hw _ (List.mem_of_getElem? (i := 2) rfl)) (hw _ (List.mem_of_getElem? (i := 3) rfl)) eI (g := (mkF m 11 #[.val (.int p1), .val (.int p2), .val (.int p3), .val (.int p4), .val (.int p5), .val (.int n), .unset, .unset, .unset, .unset, .unset] [])) rfl (hb hby at_11) (by decide) (by decide)
  have ge_b11 : n0 ≤ b11 := Nat.le_trans Z0 (Nat.le_of_eq g11.symm)
  have Z0_p11 : n0 ≤ h11.size := (Nat.le_trans Z0 E11.1)
  have F_slots_b11 : Fld Z h11 b11 "com/example/hoist/hoist/CreationPath" "slots" "[I" .null := D11 (Or.inl (hw _ (List.mem_of_getElem? (i := 12) rfl))) (ty := (.array .int)) (by decide)
  refine hst st11 ?_
  show F T11 (mkF m 14 #[.val (.int p1), .val (.int p2), .val (.int p3), .val (.int p4), .val (.int p5), .val (.int n), .unset, .unset, .unset, .unset, .unset] [(.ref b11)])
  refine hst (fun t₀ k₀ => XS.dup X11.here hx rfl (hb hby at_14) rfl rfl k₀) ?_
  show F T11 (mkF m 15 #[.val (.int p1), .val (.int p2), .val (.int p3), .val (.int p4), .val (.int p5), .val (.int n), .unset, .unset, .unset, .unset, .unset] [(.ref b11), (.ref b11)])
  obtain ⟨v15, T15, Lc15, X15, hQ15, st15⟩ := own_callN X11 hx hZ (y := (⟨"com/example/hoist/hoist/CreationPath", "<init>", "()V"⟩ : MethodName)) rfl hown (hw _ (List.mem_of_getElem? (i := 4) rfl)) (hw _ (List.mem_of_getElem? (i := 5) rfl)) (hw _ (List.mem_of_getElem? (i := 3) rfl)) (hw _ (List.mem_of_getElem? (i := 6) rfl)) (by decide) e11 (rm1 l Z a0 hw [] b11 h11 n0 Z0_p11 A11 ge_b11 F_slots_b11) (by decide) (by decide) (g := (mkF m 15 #[.val (.int p1), .val (.int p2), .val (.int p3), .val (.int p4), .val (.int p5), .val (.int n), .unset, .unset, .unset, .unset, .unset] [(.ref b11), (.ref b11)])) rfl (by rw [hml]; rfl) (a := b11) (argsL := []) (rest := [(.ref b11)]) (lenOf pd_1 rfl) rfl rfl (W := 1) (by show 2 * 0 + _ ≤ _; exact Nat.le_of_eq rfl) (hb hby at_15) (by decide) (by decide)
  obtain ⟨t_15, rfl, Nq15, K15, q1_15, q2_15, q3_15, ge_t_15, ne_b11_t_15⟩ := hQ15
  have N15 := Fr.app NI Nq15
  have Z0_p15 : n0 ≤ T15.heap.size := Nat.le_trans Z0_p11 K15.1
  refine hst st15 ?_
  show F T15 (mkF m 18 #[.val (.int p1), .val (.int p2), .val (.int p3), .val (.int p4), .val (.int p5), .val (.int n), .unset, .unset, .unset, .unset, .unset] [(.ref b11)])
  have is_15 : own_is (fun _ => (0 : Int32)) [] := ⟨rfl, fun i hi => absurd hi (Nat.not_lt_zero i)⟩
  refine hst (fun t₀ k₀ => XS.astore X15.here hx rfl (hb hby at_18) rfl rfl (l' := #[.val (.int p1), .val (.int p2), .val (.int p3), .val (.int p4), .val (.int p5), .val (.int n), .val (.ref b11), .unset, .unset, .unset, .unset]) rfl k₀) ?_
  show F T15 (mkF m 20 #[.val (.int p1), .val (.int p2), .val (.int p3), .val (.int p4), .val (.int p5), .val (.int n), .val (.ref b11), .unset, .unset, .unset, .unset] [])
  refine hst (fun t₀ k₀ => XS.aload X15.here hx rfl (hb hby at_20) rfl rfl k₀) ?_
  show F T15 (mkF m 22 #[.val (.int p1), .val (.int p2), .val (.int p3), .val (.int p4), .val (.int p5), .val (.int n), .val (.ref b11), .unset, .unset, .unset, .unset] [(.ref b11)])
  refine hst (fun t₀ k₀ => XS.iloadN X15.here hx rfl (hb hby at_22) rfl k₀) ?_
  show F T15 (mkF m 23 #[.val (.int p1), .val (.int p2), .val (.int p3), .val (.int p4), .val (.int p5), .val (.int n), .val (.ref b11), .unset, .unset, .unset, .unset] [(.int p1), (.ref b11)])
  obtain ⟨v23, T23, Lc23, X23, hQ23, st23⟩ := own_callV X15 hx hZ hown (y := (⟨"com/example/hoist/hoist/CreationPath", "enter", "(I)V"⟩ : MethodName)) (hw _ (List.mem_of_getElem? (i := 13) rfl)) (hw _ (List.mem_of_getElem? (i := 14) rfl)) (hw _ (List.mem_of_getElem? (i := 16) rfl)) (hw _ (List.mem_of_getElem? (i := 15) rfl)) (hw _ (List.mem_of_getElem? (i := 3) rfl)) (hw _ (List.mem_of_getElem? (i := 17) rfl)) (by decide) rfl q1_15 (rm3 l Z a0 hw [] b11 p1 t_15 (fun _ => (0 : Int32)) ([] : List Int32) T15.heap n0 Z0_p15 q2_15 q3_15 ge_t_15 is_15 (Nat.le_of_ble_eq_true rfl) ne_b11_t_15) (by decide) (by decide) (g := (mkF m 23 #[.val (.int p1), .val (.int p2), .val (.int p3), .val (.int p4), .val (.int p5), .val (.int n), .val (.ref b11), .unset, .unset, .unset, .unset] [(.int p1), (.ref b11)])) rfl (by rw [hml]; rfl) (argsL := [(.int p1)]) (rest := []) (lenOf pd_3 rfl) rfl rfl (W := 0) (by show 2 * 0 + _ ≤ _; exact Nat.le_of_eq rfl) (hb hby at_23) (by decide) (by decide)
  obtain ⟨cf2_23, rfl, Nq23, K23, q1_23, is2_23⟩ := hQ23
  have N23 := Fr.app N15 Nq23
  have q1_15_p23 : Exa Z T23.heap b11 "com/example/hoist/hoist/CreationPath" := q1_15.keep K23
  have q2_15_p23 : Fld Z T23.heap b11 "com/example/hoist/hoist/CreationPath" "slots" "[I" (.ref t_15) := q2_15.keep K23 (by simp only [List.mem_cons, List.not_mem_nil, or_false, not_or]; exact ne_b11_t_15)
  have Z0_p23 : n0 ≤ T23.heap.size := Nat.le_trans Z0_p15 K23.1
  refine hst st23 ?_
  show F T23 (mkF m 26 #[.val (.int p1), .val (.int p2), .val (.int p3), .val (.int p4), .val (.int p5), .val (.int n), .val (.ref b11), .unset, .unset, .unset, .unset] [])
  rcases hn3 with rfl | rfl | rfl
  · -- (1 : Int32)
    show F T23 (mkF m 26 #[.val (.int p1), .val (.int p2), .val (.int p3), .val (.int p4), .val (.int p5), .val (.int (1 : Int32)), .val (.ref b11), .unset, .unset, .unset, .unset] [])
    refine hst (fun t₀ k₀ => XS.iload X23.here hx rfl (hb hby at_26) rfl k₀) ?_
    show F T23 (mkF m 28 #[.val (.int p1), .val (.int p2), .val (.int p3), .val (.int p4), .val (.int p5), .val (.int (1 : Int32)), .val (.ref b11), .unset, .unset, .unset, .unset] [(.int (1 : Int32))])
    refine hst (fun t₀ k₀ => XS.iconst X23.here hx rfl (hb hby at_28) k₀) ?_
    show F T23 (mkF m 29 #[.val (.int p1), .val (.int p2), .val (.int p3), .val (.int p4), .val (.int p5), .val (.int (1 : Int32)), .val (.ref b11), .unset, .unset, .unset, .unset] [(.int (2 : Int32)), (.int (1 : Int32))])
    refine hst (fun t₀ k₀ => XS.icmpYes X23.here hx rfl (pc0 := 29) (pc' := 38) rfl (hb hby at_29) rfl (tlt (by decide)).1 (by decide) (by decide) k₀) ?_
    show F T23 (mkF m 38 #[.val (.int p1), .val (.int p2), .val (.int p3), .val (.int p4), .val (.int p5), .val (.int (1 : Int32)), .val (.ref b11), .unset, .unset, .unset, .unset] [])
    refine hst (fun t₀ k₀ => XS.iload X23.here hx rfl (hb hby at_38) rfl k₀) ?_
    show F T23 (mkF m 40 #[.val (.int p1), .val (.int p2), .val (.int p3), .val (.int p4), .val (.int p5), .val (.int (1 : Int32)), .val (.ref b11), .unset, .unset, .unset, .unset] [(.int (1 : Int32))])
    refine hst (fun t₀ k₀ => XS.iconst X23.here hx rfl (hb hby at_40) k₀) ?_
    show F T23 (mkF m 41 #[.val (.int p1), .val (.int p2), .val (.int p3), .val (.int p4), .val (.int p5), .val (.int (1 : Int32)), .val (.ref b11), .unset, .unset, .unset, .unset] [(.int (3 : Int32)), (.int (1 : Int32))])
    refine hst (fun t₀ k₀ => XS.icmpYes X23.here hx rfl (pc0 := 41) (pc' := 50) rfl (hb hby at_41) rfl (tlt (by decide)).1 (by decide) (by decide) k₀) ?_
    show F T23 (mkF m 50 #[.val (.int p1), .val (.int p2), .val (.int p3), .val (.int p4), .val (.int p5), .val (.int (1 : Int32)), .val (.ref b11), .unset, .unset, .unset, .unset] [])
    refine hst (fun t₀ k₀ => XS.iload X23.here hx rfl (hb hby at_50) rfl k₀) ?_
    show F T23 (mkF m 52 #[.val (.int p1), .val (.int p2), .val (.int p3), .val (.int p4), .val (.int p5), .val (.int (1 : Int32)), .val (.ref b11), .unset, .unset, .unset, .unset] [(.int (1 : Int32))])
    refine hst (fun t₀ k₀ => XS.iconst X23.here hx rfl (hb hby at_52) k₀) ?_
    show F T23 (mkF m 53 #[.val (.int p1), .val (.int p2), .val (.int p3), .val (.int p4), .val (.int p5), .val (.int (1 : Int32)), .val (.ref b11), .unset, .unset, .unset, .unset] [(.int (1 : Int32)), (.int (1 : Int32))])
    refine hst (fun t₀ k₀ => XS.icmpNo X23.here hx rfl (hb hby at_53) rfl (teq (by decide)).2 k₀) ?_
    show F T23 (mkF m 56 #[.val (.int p1), .val (.int p2), .val (.int p3), .val (.int p4), .val (.int p5), .val (.int (1 : Int32)), .val (.ref b11), .unset, .unset, .unset, .unset] [])
    refine hst (fun t₀ k₀ => XS.iloadN X23.here hx rfl (hb hby at_56) rfl k₀) ?_
    show F T23 (mkF m 57 #[.val (.int p1), .val (.int p2), .val (.int p3), .val (.int p4), .val (.int p5), .val (.int (1 : Int32)), .val (.ref b11), .unset, .unset, .unset, .unset] [(.int p1)])
    refine hst (fun t₀ k₀ => XS.goto X23.here hx rfl (pc0 := 57) (pc' := 71) rfl (hb hby at_57) (by decide) (by decide) k₀) ?_
    show F T23 (mkF m 71 #[.val (.int p1), .val (.int p2), .val (.int p3), .val (.int p4), .val (.int p5), .val (.int (1 : Int32)), .val (.ref b11), .unset, .unset, .unset, .unset] [(.int p1)])
    refine hst (fun t₀ k₀ => XS.istore X23.here hx rfl (hb hby at_71) rfl (l' := #[.val (.int p1), .val (.int p2), .val (.int p3), .val (.int p4), .val (.int p5), .val (.int (1 : Int32)), .val (.ref b11), .val (.int p1), .unset, .unset, .unset]) rfl k₀) ?_
    show F T23 (mkF m 73 #[.val (.int p1), .val (.int p2), .val (.int p3), .val (.int p4), .val (.int p5), .val (.int (1 : Int32)), .val (.ref b11), .val (.int p1), .unset, .unset, .unset] [])
    refine hst (fun t₀ k₀ => XS.aload X23.here hx rfl (hb hby at_73) rfl rfl k₀) ?_
    show F T23 (mkF m 75 #[.val (.int p1), .val (.int p2), .val (.int p3), .val (.int p4), .val (.int p5), .val (.int (1 : Int32)), .val (.ref b11), .val (.int p1), .unset, .unset, .unset] [(.ref b11)])
    obtain ⟨v75, T75, Lc75, X75, hQ75, st75⟩ := own_callV X23 hx hZ hown (y := (⟨"com/example/hoist/hoist/CreationPath", "leave", "()V"⟩ : MethodName)) (hw _ (List.mem_of_getElem? (i := 18) rfl)) (hw _ (List.mem_of_getElem? (i := 19) rfl)) (hw _ (List.mem_of_getElem? (i := 21) rfl)) (hw _ (List.mem_of_getElem? (i := 20) rfl)) (hw _ (List.mem_of_getElem? (i := 3) rfl)) (hw _ (List.mem_of_getElem? (i := 22) rfl)) (by decide) rfl q1_15_p23 (rm4 l Z a0 hw [] b11 t_15 cf2_23 ([p1] : List Int32) T23.heap n0 Z0_p23 q2_15_p23 q1_23 ge_t_15 is2_23 (Nat.le_of_ble_eq_true rfl) (Nat.le_of_ble_eq_true rfl) ne_b11_t_15) (by decide) (by decide) (g := (mkF m 75 #[.val (.int p1), .val (.int p2), .val (.int p3), .val (.int p4), .val (.int p5), .val (.int (1 : Int32)), .val (.ref b11), .val (.int p1), .unset, .unset, .unset] [(.ref b11)])) rfl (by rw [hml]; rfl) (argsL := []) (rest := []) (lenOf pd_1 rfl) rfl rfl (W := 0) (by show 2 * 0 + _ ≤ _; exact Nat.le_of_eq rfl) (hb hby at_75) (by decide) (by decide)
    obtain ⟨cf2_75, rfl, Nq75, K75, q1_75, is2_75⟩ := hQ75
    have N75 := Fr.app N23 Nq75
    have q1_15_p75 : Exa Z T75.heap b11 "com/example/hoist/hoist/CreationPath" := q1_15_p23.keep K75
    have q2_15_p75 : Fld Z T75.heap b11 "com/example/hoist/hoist/CreationPath" "slots" "[I" (.ref t_15) := q2_15_p23.keep K75 (by simp only [List.mem_cons, List.not_mem_nil, or_false, not_or]; exact ne_b11_t_15)
    have Z0_p75 : n0 ≤ T75.heap.size := Nat.le_trans Z0_p23 K75.1
    refine hst st75 ?_
    show F T75 (mkF m 78 #[.val (.int p1), .val (.int p2), .val (.int p3), .val (.int p4), .val (.int p5), .val (.int (1 : Int32)), .val (.ref b11), .val (.int p1), .unset, .unset, .unset] [])
    refine hst (fun t₀ k₀ => XS.aload X75.here hx rfl (hb hby at_78) rfl rfl k₀) ?_
    show F T75 (mkF m 80 #[.val (.int p1), .val (.int p2), .val (.int p3), .val (.int p4), .val (.int p5), .val (.int (1 : Int32)), .val (.ref b11), .val (.int p1), .unset, .unset, .unset] [(.ref b11)])
    refine hst (fun t₀ k₀ => XS.iconst X75.here hx rfl (hb hby at_80) k₀) ?_
    show F T75 (mkF m 81 #[.val (.int p1), .val (.int p2), .val (.int p3), .val (.int p4), .val (.int p5), .val (.int (1 : Int32)), .val (.ref b11), .val (.int p1), .unset, .unset, .unset] [(.int (0 : Int32)), (.ref b11)])
    obtain ⟨v81, T81, Lc81, X81, hQ81, st81⟩ := own_callV X75 hx hZ hown (y := (⟨"com/example/hoist/hoist/CreationPath", "from", "(I)[I"⟩ : MethodName)) (hw _ (List.mem_of_getElem? (i := 23) rfl)) (hw _ (List.mem_of_getElem? (i := 24) rfl)) (hw _ (List.mem_of_getElem? (i := 26) rfl)) (hw _ (List.mem_of_getElem? (i := 25) rfl)) (hw _ (List.mem_of_getElem? (i := 3) rfl)) (hw _ (List.mem_of_getElem? (i := 27) rfl)) (by decide) rfl q1_15_p75 (rm5 l Z a0 hw [] b11 (0 : Int32) t_15 cf2_75 ([] : List Int32) T75.heap n0 Z0_p75 q2_15_p75 q1_75 is2_75 (Nat.le_of_ble_eq_true rfl) rfl) (by decide) (by decide) (g := (mkF m 81 #[.val (.int p1), .val (.int p2), .val (.int p3), .val (.int p4), .val (.int p5), .val (.int (1 : Int32)), .val (.ref b11), .val (.int p1), .unset, .unset, .unset] [(.int (0 : Int32)), (.ref b11)])) rfl (by rw [hml]; rfl) (argsL := [(.int (0 : Int32))]) (rest := []) (lenOf pd_4 rfl) rfl rfl (W := 0) (by show 2 * 0 + _ ≤ _; exact Nat.le_of_eq rfl) (hb hby at_81) (by decide) (by decide)
    obtain ⟨b81, rfl, Nq81, K81, q1_81, ge_b81⟩ := hQ81
    have N81 := Fr.app N75 Nq81
    have q1_15_p81 : Exa Z T81.heap b11 "com/example/hoist/hoist/CreationPath" := q1_15_p75.keep K81
    have q2_15_p81 : Fld Z T81.heap b11 "com/example/hoist/hoist/CreationPath" "slots" "[I" (.ref t_15) := q2_15_p75.keep K81 (List.not_mem_nil)
    have q1_75_p81 : own_A Z T81.heap t_15 .int 73 (fun i => .int (cf2_75 i)) := q1_75.keep K81 (List.not_mem_nil)
    have Z0_p81 : n0 ≤ T81.heap.size := Nat.le_trans Z0_p75 K81.1
    refine hst st81 ?_
    show F T81 (mkF m 84 #[.val (.int p1), .val (.int p2), .val (.int p3), .val (.int p4), .val (.int p5), .val (.int (1 : Int32)), .val (.ref b11), .val (.int p1), .unset, .unset, .unset] [(.ref b81)])
    refine hst (fun t₀ k₀ => XS.astore X81.here hx rfl (hb hby at_84) rfl rfl (l' := #[.val (.int p1), .val (.int p2), .val (.int p3), .val (.int p4), .val (.int p5), .val (.int (1 : Int32)), .val (.ref b11), .val (.int p1), .val (.ref b81), .unset, .unset]) rfl k₀) ?_
    show F T81 (mkF m 86 #[.val (.int p1), .val (.int p2), .val (.int p3), .val (.int p4), .val (.int p5), .val (.int (1 : Int32)), .val (.ref b11), .val (.int p1), .val (.ref b81), .unset, .unset] [])
    refine hst (fun t₀ k₀ => XS.aload X81.here hx rfl (hb hby at_86) rfl rfl k₀) ?_
    show F T81 (mkF m 88 #[.val (.int p1), .val (.int p2), .val (.int p3), .val (.int p4), .val (.int p5), .val (.int (1 : Int32)), .val (.ref b11), .val (.int p1), .val (.ref b81), .unset, .unset] [(.ref b81)])
    refine hst (fun t₀ k₀ => own_alen X81 hx hZ rfl q1_81 (z := (0 : Int32)) rfl (g := (mkF m 88 #[.val (.int p1), .val (.int p2), .val (.int p3), .val (.int p4), .val (.int p5), .val (.int (1 : Int32)), .val (.ref b11), .val (.int p1), .val (.ref b81), .unset, .unset] [(.ref b81)])) rfl rfl (hb hby at_88) t₀ k₀) ?_
    show F T81 (mkF m 89 #[.val (.int p1), .val (.int p2), .val (.int p3), .val (.int p4), .val (.int p5), .val (.int (1 : Int32)), .val (.ref b11), .val (.int p1), .val (.ref b81), .unset, .unset] [(.int (0 : Int32))])
    refine hst (fun t₀ k₀ => XS.iload X81.here hx rfl (hb hby at_89) rfl k₀) ?_
    show F T81 (mkF m 91 #[.val (.int p1), .val (.int p2), .val (.int p3), .val (.int p4), .val (.int p5), .val (.int (1 : Int32)), .val (.ref b11), .val (.int p1), .val (.ref b81), .unset, .unset] [(.int (1 : Int32)), (.int (0 : Int32))])
    refine hst (fun t₀ k₀ => XS.iconst X81.here hx rfl (hb hby at_91) k₀) ?_
    show F T81 (mkF m 92 #[.val (.int p1), .val (.int p2), .val (.int p3), .val (.int p4), .val (.int p5), .val (.int (1 : Int32)), .val (.ref b11), .val (.int p1), .val (.ref b81), .unset, .unset] [(.int (1 : Int32)), (.int (1 : Int32)), (.int (0 : Int32))])
    refine hst (fun t₀ k₀ => XS.isub X81.here hx rfl (hb hby at_92) rfl k₀) ?_
    show F T81 (mkF m 93 #[.val (.int p1), .val (.int p2), .val (.int p3), .val (.int p4), .val (.int p5), .val (.int (1 : Int32)), .val (.ref b11), .val (.int p1), .val (.ref b81), .unset, .unset] [(.int ((1 : Int32) - (1 : Int32))), (.int (0 : Int32))])
    show F T81 (mkF m 93 #[.val (.int p1), .val (.int p2), .val (.int p3), .val (.int p4), .val (.int p5), .val (.int (1 : Int32)), .val (.ref b11), .val (.int p1), .val (.ref b81), .unset, .unset] [(.int (0 : Int32)), (.int (0 : Int32))])
    refine hst (fun t₀ k₀ => XS.icmpNo X81.here hx rfl (hb hby at_93) rfl (teq rfl).2 k₀) ?_
    show F T81 (mkF m 96 #[.val (.int p1), .val (.int p2), .val (.int p3), .val (.int p4), .val (.int p5), .val (.int (1 : Int32)), .val (.ref b11), .val (.int p1), .val (.ref b81), .unset, .unset] [])
    refine hst (fun t₀ k₀ => XS.iconst X81.here hx rfl (hb hby at_96) k₀) ?_
    show F T81 (mkF m 97 #[.val (.int p1), .val (.int p2), .val (.int p3), .val (.int p4), .val (.int p5), .val (.int (1 : Int32)), .val (.ref b11), .val (.int p1), .val (.ref b81), .unset, .unset] [(.int (1 : Int32))])
    refine hst (fun t₀ k₀ => XS.goto X81.here hx rfl (pc0 := 97) (pc' := 101) rfl (hb hby at_97) (by decide) (by decide) k₀) ?_
    show F T81 (mkF m 101 #[.val (.int p1), .val (.int p2), .val (.int p3), .val (.int p4), .val (.int p5), .val (.int (1 : Int32)), .val (.ref b11), .val (.int p1), .val (.ref b81), .unset, .unset] [(.int (1 : Int32))])
    refine hst (fun t₀ k₀ => XS.istore X81.here hx rfl (hb hby at_101) rfl (l' := #[.val (.int p1), .val (.int p2), .val (.int p3), .val (.int p4), .val (.int p5), .val (.int (1 : Int32)), .val (.ref b11), .val (.int p1), .val (.ref b81), .val (.int (1 : Int32)), .unset]) rfl k₀) ?_
    show F T81 (mkF m 103 #[.val (.int p1), .val (.int p2), .val (.int p3), .val (.int p4), .val (.int p5), .val (.int (1 : Int32)), .val (.ref b11), .val (.int p1), .val (.ref b81), .val (.int (1 : Int32)), .unset] [])
    refine hst (fun t₀ k₀ => XS.iload X81.here hx rfl (hb hby at_103) rfl k₀) ?_
    show F T81 (mkF m 105 #[.val (.int p1), .val (.int p2), .val (.int p3), .val (.int p4), .val (.int p5), .val (.int (1 : Int32)), .val (.ref b11), .val (.int p1), .val (.ref b81), .val (.int (1 : Int32)), .unset] [(.int (1 : Int32))])
    refine hst (fun t₀ k₀ => XS.ifNo X81.here hx rfl (hb hby at_105) rfl ((if0 _ _).trans (feq (by decide)).1) k₀) ?_
    show F T81 (mkF m 108 #[.val (.int p1), .val (.int p2), .val (.int p3), .val (.int p4), .val (.int p5), .val (.int (1 : Int32)), .val (.ref b11), .val (.int p1), .val (.ref b81), .val (.int (1 : Int32)), .unset] [])
    refine hst (fun t₀ k₀ => XS.iload X81.here hx rfl (hb hby at_108) rfl k₀) ?_
    show F T81 (mkF m 110 #[.val (.int p1), .val (.int p2), .val (.int p3), .val (.int p4), .val (.int p5), .val (.int (1 : Int32)), .val (.ref b11), .val (.int p1), .val (.ref b81), .val (.int (1 : Int32)), .unset] [(.int (1 : Int32))])
    refine hst (fun t₀ k₀ => XS.iconst X81.here hx rfl (hb hby at_110) k₀) ?_
    show F T81 (mkF m 111 #[.val (.int p1), .val (.int p2), .val (.int p3), .val (.int p4), .val (.int p5), .val (.int (1 : Int32)), .val (.ref b11), .val (.int p1), .val (.ref b81), .val (.int (1 : Int32)), .unset] [(.int (2 : Int32)), (.int (1 : Int32))])
    refine hst (fun t₀ k₀ => XS.icmpYes X81.here hx rfl (pc0 := 111) (pc' := 129) rfl (hb hby at_111) rfl (tlt (by decide)).1 (by decide) (by decide) k₀) ?_
    show F T81 (mkF m 129 #[.val (.int p1), .val (.int p2), .val (.int p3), .val (.int p4), .val (.int p5), .val (.int (1 : Int32)), .val (.ref b11), .val (.int p1), .val (.ref b81), .val (.int (1 : Int32)), .unset] [])
    refine hst (fun t₀ k₀ => XS.iload X81.here hx rfl (hb hby at_129) rfl k₀) ?_
    show F T81 (mkF m 131 #[.val (.int p1), .val (.int p2), .val (.int p3), .val (.int p4), .val (.int p5), .val (.int (1 : Int32)), .val (.ref b11), .val (.int p1), .val (.ref b81), .val (.int (1 : Int32)), .unset] [(.int (1 : Int32))])
    refine hst (fun t₀ k₀ => XS.ifNo X81.here hx rfl (hb hby at_131) rfl ((if0 _ _).trans (feq (by decide)).1) k₀) ?_
    show F T81 (mkF m 134 #[.val (.int p1), .val (.int p2), .val (.int p3), .val (.int p4), .val (.int p5), .val (.int (1 : Int32)), .val (.ref b11), .val (.int p1), .val (.ref b81), .val (.int (1 : Int32)), .unset] [])
    refine hst (fun t₀ k₀ => XS.iload X81.here hx rfl (hb hby at_134) rfl k₀) ?_
    show F T81 (mkF m 136 #[.val (.int p1), .val (.int p2), .val (.int p3), .val (.int p4), .val (.int p5), .val (.int (1 : Int32)), .val (.ref b11), .val (.int p1), .val (.ref b81), .val (.int (1 : Int32)), .unset] [(.int (1 : Int32))])
    refine hst (fun t₀ k₀ => XS.iconst X81.here hx rfl (hb hby at_136) k₀) ?_
    show F T81 (mkF m 137 #[.val (.int p1), .val (.int p2), .val (.int p3), .val (.int p4), .val (.int p5), .val (.int (1 : Int32)), .val (.ref b11), .val (.int p1), .val (.ref b81), .val (.int (1 : Int32)), .unset] [(.int (3 : Int32)), (.int (1 : Int32))])
    refine hst (fun t₀ k₀ => XS.icmpYes X81.here hx rfl (pc0 := 137) (pc' := 155) rfl (hb hby at_137) rfl (tlt (by decide)).1 (by decide) (by decide) k₀) ?_
    show F T81 (mkF m 155 #[.val (.int p1), .val (.int p2), .val (.int p3), .val (.int p4), .val (.int p5), .val (.int (1 : Int32)), .val (.ref b11), .val (.int p1), .val (.ref b81), .val (.int (1 : Int32)), .unset] [])
    refine hst (fun t₀ k₀ => XS.iload X81.here hx rfl (hb hby at_155) rfl k₀) ?_
    show F T81 (mkF m 157 #[.val (.int p1), .val (.int p2), .val (.int p3), .val (.int p4), .val (.int p5), .val (.int (1 : Int32)), .val (.ref b11), .val (.int p1), .val (.ref b81), .val (.int (1 : Int32)), .unset] [(.int (1 : Int32))])
    refine hst (fun t₀ k₀ => XS.ifNo X81.here hx rfl (hb hby at_157) rfl ((if0 _ _).trans (feq (by decide)).1) k₀) ?_
    show F T81 (mkF m 160 #[.val (.int p1), .val (.int p2), .val (.int p3), .val (.int p4), .val (.int p5), .val (.int (1 : Int32)), .val (.ref b11), .val (.int p1), .val (.ref b81), .val (.int (1 : Int32)), .unset] [])
    refine hst (fun t₀ k₀ => XS.iload X81.here hx rfl (hb hby at_160) rfl k₀) ?_
    show F T81 (mkF m 162 #[.val (.int p1), .val (.int p2), .val (.int p3), .val (.int p4), .val (.int p5), .val (.int (1 : Int32)), .val (.ref b11), .val (.int p1), .val (.ref b81), .val (.int (1 : Int32)), .unset] [(.int (1 : Int32))])
    refine hst (fun t₀ k₀ => XS.iconst X81.here hx rfl (hb hby at_162) k₀) ?_
    show F T81 (mkF m 163 #[.val (.int p1), .val (.int p2), .val (.int p3), .val (.int p4), .val (.int p5), .val (.int (1 : Int32)), .val (.ref b11), .val (.int p1), .val (.ref b81), .val (.int (1 : Int32)), .unset] [(.int (2 : Int32)), (.int (1 : Int32))])
    refine hst (fun t₀ k₀ => XS.icmpYes X81.here hx rfl (pc0 := 163) (pc' := 192) rfl (hb hby at_163) rfl (tlt (by decide)).1 (by decide) (by decide) k₀) ?_
    show F T81 (mkF m 192 #[.val (.int p1), .val (.int p2), .val (.int p3), .val (.int p4), .val (.int p5), .val (.int (1 : Int32)), .val (.ref b11), .val (.int p1), .val (.ref b81), .val (.int (1 : Int32)), .unset] [])
    refine hst (fun t₀ k₀ => XS.iconst X81.here hx rfl (hb hby at_192) k₀) ?_
    show F T81 (mkF m 193 #[.val (.int p1), .val (.int p2), .val (.int p3), .val (.int p4), .val (.int p5), .val (.int (1 : Int32)), .val (.ref b11), .val (.int p1), .val (.ref b81), .val (.int (1 : Int32)), .unset] [(.int (-1 : Int32))])
    refine hst (fun t₀ k₀ => XS.istore X81.here hx rfl (hb hby at_193) rfl (l' := #[.val (.int p1), .val (.int p2), .val (.int p3), .val (.int p4), .val (.int p5), .val (.int (1 : Int32)), .val (.ref b11), .val (.int p1), .val (.ref b81), .val (.int (1 : Int32)), .val (.int (-1 : Int32))]) rfl k₀) ?_
    show F T81 (mkF m 195 #[.val (.int p1), .val (.int p2), .val (.int p3), .val (.int p4), .val (.int p5), .val (.int (1 : Int32)), .val (.ref b11), .val (.int p1), .val (.ref b81), .val (.int (1 : Int32)), .val (.int (-1 : Int32))] [])
    refine hst (fun t₀ k₀ => XS.iload X81.here hx rfl (hb hby at_195) rfl k₀) ?_
    show F T81 (mkF m 197 #[.val (.int p1), .val (.int p2), .val (.int p3), .val (.int p4), .val (.int p5), .val (.int (1 : Int32)), .val (.ref b11), .val (.int p1), .val (.ref b81), .val (.int (1 : Int32)), .val (.int (-1 : Int32))] [(.int (1 : Int32))])
    refine hst (fun t₀ k₀ => XS.iconst X81.here hx rfl (hb hby at_197) k₀) ?_
    show F T81 (mkF m 198 #[.val (.int p1), .val (.int p2), .val (.int p3), .val (.int p4), .val (.int p5), .val (.int (1 : Int32)), .val (.ref b11), .val (.int p1), .val (.ref b81), .val (.int (1 : Int32)), .val (.int (-1 : Int32))] [(.int (3 : Int32)), (.int (1 : Int32))])
    refine hst (fun t₀ k₀ => XS.icmpYes X81.here hx rfl (pc0 := 198) (pc' := 213) rfl (hb hby at_198) rfl (tlt (by decide)).1 (by decide) (by decide) k₀) ?_
    show F T81 (mkF m 213 #[.val (.int p1), .val (.int p2), .val (.int p3), .val (.int p4), .val (.int p5), .val (.int (1 : Int32)), .val (.ref b11), .val (.int p1), .val (.ref b81), .val (.int (1 : Int32)), .val (.int (-1 : Int32))] [])
    refine hst (fun t₀ k₀ => XS.iload X81.here hx rfl (hb hby at_213) rfl k₀) ?_
    show F T81 (mkF m 215 #[.val (.int p1), .val (.int p2), .val (.int p3), .val (.int p4), .val (.int p5), .val (.int (1 : Int32)), .val (.ref b11), .val (.int p1), .val (.ref b81), .val (.int (1 : Int32)), .val (.int (-1 : Int32))] [(.int (1 : Int32))])
    refine hst (fun t₀ k₀ => XS.iconst X81.here hx rfl (hb hby at_215) k₀) ?_
    show F T81 (mkF m 216 #[.val (.int p1), .val (.int p2), .val (.int p3), .val (.int p4), .val (.int p5), .val (.int (1 : Int32)), .val (.ref b11), .val (.int p1), .val (.ref b81), .val (.int (1 : Int32)), .val (.int (-1 : Int32))] [(.int (2 : Int32)), (.int (1 : Int32))])
    refine hst (fun t₀ k₀ => XS.icmpYes X81.here hx rfl (pc0 := 216) (pc' := 228) rfl (hb hby at_216) rfl (tlt (by decide)).1 (by decide) (by decide) k₀) ?_
    show F T81 (mkF m 228 #[.val (.int p1), .val (.int p2), .val (.int p3), .val (.int p4), .val (.int p5), .val (.int (1 : Int32)), .val (.ref b11), .val (.int p1), .val (.ref b81), .val (.int (1 : Int32)), .val (.int (-1 : Int32))] [])
    refine hst (fun t₀ k₀ => XS.iload X81.here hx rfl (hb hby at_228) rfl k₀) ?_
    show F T81 (mkF m 230 #[.val (.int p1), .val (.int p2), .val (.int p3), .val (.int p4), .val (.int p5), .val (.int (1 : Int32)), .val (.ref b11), .val (.int p1), .val (.ref b81), .val (.int (1 : Int32)), .val (.int (-1 : Int32))] [(.int (1 : Int32))])
    refine hst (fun t₀ k₀ => XS.ifNo X81.here hx rfl (hb hby at_230) rfl ((if0 _ _).trans (feq (by decide)).1) k₀) ?_
    show F T81 (mkF m 233 #[.val (.int p1), .val (.int p2), .val (.int p3), .val (.int p4), .val (.int p5), .val (.int (1 : Int32)), .val (.ref b11), .val (.int p1), .val (.ref b81), .val (.int (1 : Int32)), .val (.int (-1 : Int32))] [])
    refine hst (fun t₀ k₀ => XS.aload X81.here hx rfl (hb hby at_233) rfl rfl k₀) ?_
    show F T81 (mkF m 235 #[.val (.int p1), .val (.int p2), .val (.int p3), .val (.int p4), .val (.int p5), .val (.int (1 : Int32)), .val (.ref b11), .val (.int p1), .val (.ref b81), .val (.int (1 : Int32)), .val (.int (-1 : Int32))] [(.ref b11)])
    refine hst (fun t₀ k₀ => XS.iload X81.here hx rfl (hb hby at_235) rfl k₀) ?_
    show F T81 (mkF m 237 #[.val (.int p1), .val (.int p2), .val (.int p3), .val (.int p4), .val (.int p5), .val (.int (1 : Int32)), .val (.ref b11), .val (.int p1), .val (.ref b81), .val (.int (1 : Int32)), .val (.int (-1 : Int32))] [(.int p1), (.ref b11)])
    obtain ⟨v237, T237, Lc237, X237, hQ237, st237⟩ := own_callV X81 hx hZ hown (y := (⟨"com/example/hoist/hoist/CreationPath", "lastIndexOf", "(I)I"⟩ : MethodName)) (hw _ (List.mem_of_getElem? (i := 46) rfl)) (hw _ (List.mem_of_getElem? (i := 47) rfl)) (hw _ (List.mem_of_getElem? (i := 49) rfl)) (hw _ (List.mem_of_getElem? (i := 48) rfl)) (hw _ (List.mem_of_getElem? (i := 3) rfl)) (hw _ (List.mem_of_getElem? (i := 50) rfl)) (by decide) rfl q1_15_p81 (rm10 l Z a0 hw [] b11 p1 t_15 cf2_75 ([] : List Int32) T81.heap n0 Z0_p81 q2_15_p81 q1_75_p81 is2_75 (Nat.le_of_ble_eq_true rfl)) (by decide) (by decide) (g := (mkF m 237 #[.val (.int p1), .val (.int p2), .val (.int p3), .val (.int p4), .val (.int p5), .val (.int (1 : Int32)), .val (.ref b11), .val (.int p1), .val (.ref b81), .val (.int (1 : Int32)), .val (.int (-1 : Int32))] [(.int p1), (.ref b11)])) rfl (by rw [hml]; rfl) (argsL := [(.int p1)]) (rest := []) (lenOf pd_2 rfl) rfl rfl (W := 0) (by show 2 * 0 + _ ≤ _; exact Nat.le_of_eq rfl) (hb hby at_237) (by decide) (by decide)
    obtain ⟨rfl, Nq237, he237⟩ := hQ237
    have N237 := Fr.app N81 Nq237
    refine hst st237 ?_
    show F T237 (mkF m 240 #[.val (.int p1), .val (.int p2), .val (.int p3), .val (.int p4), .val (.int p5), .val (.int (1 : Int32)), .val (.ref b11), .val (.int p1), .val (.ref b81), .val (.int (1 : Int32)), .val (.int (-1 : Int32))] [(.int (own_lif ([] : List Int32) p1 ([] : List Int32).length))])
    refine hst (fun t₀ k₀ => XS.iload X237.here hx rfl (hb hby at_240) rfl k₀) ?_
    show F T237 (mkF m 242 #[.val (.int p1), .val (.int p2), .val (.int p3), .val (.int p4), .val (.int p5), .val (.int (1 : Int32)), .val (.ref b11), .val (.int p1), .val (.ref b81), .val (.int (1 : Int32)), .val (.int (-1 : Int32))] [(.int (-1 : Int32)), (.int (own_lif ([] : List Int32) p1 ([] : List Int32).length))])
    refine hst (fun t₀ k₀ => XS.icmpNo X237.here hx rfl (hb hby at_242) rfl (teq (by simp [own_lif])).2 k₀) ?_
    show F T237 (mkF m 245 #[.val (.int p1), .val (.int p2), .val (.int p3), .val (.int p4), .val (.int p5), .val (.int (1 : Int32)), .val (.ref b11), .val (.int p1), .val (.ref b81), .val (.int (1 : Int32)), .val (.int (-1 : Int32))] [])
    refine hst (fun t₀ k₀ => XS.iconst X237.here hx rfl (hb hby at_245) k₀) ?_
    show F T237 (mkF m 246 #[.val (.int p1), .val (.int p2), .val (.int p3), .val (.int p4), .val (.int p5), .val (.int (1 : Int32)), .val (.ref b11), .val (.int p1), .val (.ref b81), .val (.int (1 : Int32)), .val (.int (-1 : Int32))] [(.int (1 : Int32))])
    refine hst (fun t₀ k₀ => XS.goto X237.here hx rfl (pc0 := 246) (pc' := 250) rfl (hb hby at_246) (by decide) (by decide) k₀) ?_
    show F T237 (mkF m 250 #[.val (.int p1), .val (.int p2), .val (.int p3), .val (.int p4), .val (.int p5), .val (.int (1 : Int32)), .val (.ref b11), .val (.int p1), .val (.ref b81), .val (.int (1 : Int32)), .val (.int (-1 : Int32))] [(.int (1 : Int32))])
    refine hst (fun t₀ k₀ => XS.istore X237.here hx rfl (hb hby at_250) rfl (l' := #[.val (.int p1), .val (.int p2), .val (.int p3), .val (.int p4), .val (.int p5), .val (.int (1 : Int32)), .val (.ref b11), .val (.int p1), .val (.ref b81), .val (.int (1 : Int32)), .val (.int (-1 : Int32))]) rfl k₀) ?_
    show F T237 (mkF m 252 #[.val (.int p1), .val (.int p2), .val (.int p3), .val (.int p4), .val (.int p5), .val (.int (1 : Int32)), .val (.ref b11), .val (.int p1), .val (.ref b81), .val (.int (1 : Int32)), .val (.int (-1 : Int32))] [])
    refine hst (fun t₀ k₀ => XS.aload X237.here hx rfl (hb hby at_252) rfl rfl k₀) ?_
    show F T237 (mkF m 254 #[.val (.int p1), .val (.int p2), .val (.int p3), .val (.int p4), .val (.int p5), .val (.int (1 : Int32)), .val (.ref b11), .val (.int p1), .val (.ref b81), .val (.int (1 : Int32)), .val (.int (-1 : Int32))] [(.ref b11)])
    refine hst (fun t₀ k₀ => XS.iloadN X237.here hx rfl (hb hby at_254) rfl k₀) ?_
    show F T237 (mkF m 255 #[.val (.int p1), .val (.int p2), .val (.int p3), .val (.int p4), .val (.int p5), .val (.int (1 : Int32)), .val (.ref b11), .val (.int p1), .val (.ref b81), .val (.int (1 : Int32)), .val (.int (-1 : Int32))] [(.int p4), (.ref b11)])
    obtain ⟨v255, T255, Lc255, X255, hQ255, st255⟩ := own_callV X237 hx hZ hown (y := (⟨"com/example/hoist/hoist/CreationPath", "enter", "(I)V"⟩ : MethodName)) (hw _ (List.mem_of_getElem? (i := 13) rfl)) (hw _ (List.mem_of_getElem? (i := 14) rfl)) (hw _ (List.mem_of_getElem? (i := 16) rfl)) (hw _ (List.mem_of_getElem? (i := 15) rfl)) (hw _ (List.mem_of_getElem? (i := 3) rfl)) (hw _ (List.mem_of_getElem? (i := 17) rfl)) (by decide) he237 q1_15_p81 (rm3 l Z a0 hw [] b11 p4 t_15 cf2_75 ([] : List Int32) T81.heap n0 Z0_p81 q2_15_p81 q1_75_p81 ge_t_15 is2_75 (Nat.le_of_ble_eq_true rfl) ne_b11_t_15) (by decide) (by decide) (g := (mkF m 255 #[.val (.int p1), .val (.int p2), .val (.int p3), .val (.int p4), .val (.int p5), .val (.int (1 : Int32)), .val (.ref b11), .val (.int p1), .val (.ref b81), .val (.int (1 : Int32)), .val (.int (-1 : Int32))] [(.int p4), (.ref b11)])) rfl (by rw [hml]; rfl) (argsL := [(.int p4)]) (rest := []) (lenOf pd_3 rfl) rfl rfl (W := 0) (by show 2 * 0 + _ ≤ _; exact Nat.le_of_eq rfl) (hb hby at_255) (by decide) (by decide)
    obtain ⟨cf2_255, rfl, Nq255, K255, q1_255, is2_255⟩ := hQ255
    have N255 := Fr.app N237 Nq255
    have q1_15_p255 : Exa Z T255.heap b11 "com/example/hoist/hoist/CreationPath" := q1_15_p81.keep K255
    have q2_15_p255 : Fld Z T255.heap b11 "com/example/hoist/hoist/CreationPath" "slots" "[I" (.ref t_15) := q2_15_p81.keep K255 (by simp only [List.mem_cons, List.not_mem_nil, or_false, not_or]; exact ne_b11_t_15)
    have Z0_p255 : n0 ≤ T255.heap.size := Nat.le_trans Z0_p81 K255.1
    refine hst st255 ?_
    show F T255 (mkF m 258 #[.val (.int p1), .val (.int p2), .val (.int p3), .val (.int p4), .val (.int p5), .val (.int (1 : Int32)), .val (.ref b11), .val (.int p1), .val (.ref b81), .val (.int (1 : Int32)), .val (.int (-1 : Int32))] [])
    refine hst (fun t₀ k₀ => XS.iload X255.here hx rfl (hb hby at_258) rfl k₀) ?_
    show F T255 (mkF m 260 #[.val (.int p1), .val (.int p2), .val (.int p3), .val (.int p4), .val (.int p5), .val (.int (1 : Int32)), .val (.ref b11), .val (.int p1), .val (.ref b81), .val (.int (1 : Int32)), .val (.int (-1 : Int32))] [(.int (1 : Int32))])
    refine hst (fun t₀ k₀ => XS.ifNo X255.here hx rfl (hb hby at_260) rfl ((if0 _ _).trans (feq (by decide)).1) k₀) ?_
    show F T255 (mkF m 263 #[.val (.int p1), .val (.int p2), .val (.int p3), .val (.int p4), .val (.int p5), .val (.int (1 : Int32)), .val (.ref b11), .val (.int p1), .val (.ref b81), .val (.int (1 : Int32)), .val (.int (-1 : Int32))] [])
    refine hst (fun t₀ k₀ => XS.aload X255.here hx rfl (hb hby at_263) rfl rfl k₀) ?_
    show F T255 (mkF m 265 #[.val (.int p1), .val (.int p2), .val (.int p3), .val (.int p4), .val (.int p5), .val (.int (1 : Int32)), .val (.ref b11), .val (.int p1), .val (.ref b81), .val (.int (1 : Int32)), .val (.int (-1 : Int32))] [(.ref b11)])
    obtain ⟨v265, T265, Lc265, X265, hQ265, st265⟩ := own_callV X255 hx hZ hown (y := (⟨"com/example/hoist/hoist/CreationPath", "last", "()I"⟩ : MethodName)) (hw _ (List.mem_of_getElem? (i := 51) rfl)) (hw _ (List.mem_of_getElem? (i := 52) rfl)) (hw _ (List.mem_of_getElem? (i := 54) rfl)) (hw _ (List.mem_of_getElem? (i := 53) rfl)) (hw _ (List.mem_of_getElem? (i := 3) rfl)) (hw _ (List.mem_of_getElem? (i := 55) rfl)) (by decide) rfl q1_15_p255 (rm11 l Z a0 hw [] b11 t_15 cf2_255 ([p4] : List Int32) T255.heap n0 Z0_p255 q2_15_p255 q1_255 is2_255 (Nat.le_of_ble_eq_true rfl) (Nat.le_of_ble_eq_true rfl)) (by decide) (by decide) (g := (mkF m 265 #[.val (.int p1), .val (.int p2), .val (.int p3), .val (.int p4), .val (.int p5), .val (.int (1 : Int32)), .val (.ref b11), .val (.int p1), .val (.ref b81), .val (.int (1 : Int32)), .val (.int (-1 : Int32))] [(.ref b11)])) rfl (by rw [hml]; rfl) (argsL := []) (rest := []) (lenOf pd_0 rfl) rfl rfl (W := 0) (by show 2 * 0 + _ ≤ _; exact Nat.le_of_eq rfl) (hb hby at_265) (by decide) (by decide)
    obtain ⟨rfl, Nq265, he265⟩ := hQ265
    have N265 := Fr.app N255 Nq265
    refine hst st265 ?_
    show F T265 (mkF m 268 #[.val (.int p1), .val (.int p2), .val (.int p3), .val (.int p4), .val (.int p5), .val (.int (1 : Int32)), .val (.ref b11), .val (.int p1), .val (.ref b81), .val (.int (1 : Int32)), .val (.int (-1 : Int32))] [(.int (([p4] : List Int32).getD (([p4] : List Int32).length - 1) 0))])
    refine hst (fun t₀ k₀ => XS.iloadN X265.here hx rfl (hb hby at_268) rfl k₀) ?_
    show F T265 (mkF m 269 #[.val (.int p1), .val (.int p2), .val (.int p3), .val (.int p4), .val (.int p5), .val (.int (1 : Int32)), .val (.ref b11), .val (.int p1), .val (.ref b81), .val (.int (1 : Int32)), .val (.int (-1 : Int32))] [(.int p4), (.int (([p4] : List Int32).getD (([p4] : List Int32).length - 1) 0))])
    refine hst (fun t₀ k₀ => XS.icmpNo X265.here hx rfl (hb hby at_269) rfl (teq rfl).2 k₀) ?_
    show F T265 (mkF m 272 #[.val (.int p1), .val (.int p2), .val (.int p3), .val (.int p4), .val (.int p5), .val (.int (1 : Int32)), .val (.ref b11), .val (.int p1), .val (.ref b81), .val (.int (1 : Int32)), .val (.int (-1 : Int32))] [])
    refine hst (fun t₀ k₀ => XS.iconst X265.here hx rfl (hb hby at_272) k₀) ?_
    show F T265 (mkF m 273 #[.val (.int p1), .val (.int p2), .val (.int p3), .val (.int p4), .val (.int p5), .val (.int (1 : Int32)), .val (.ref b11), .val (.int p1), .val (.ref b81), .val (.int (1 : Int32)), .val (.int (-1 : Int32))] [(.int (1 : Int32))])
    refine hst (fun t₀ k₀ => XS.goto X265.here hx rfl (pc0 := 273) (pc' := 277) rfl (hb hby at_273) (by decide) (by decide) k₀) ?_
    show F T265 (mkF m 277 #[.val (.int p1), .val (.int p2), .val (.int p3), .val (.int p4), .val (.int p5), .val (.int (1 : Int32)), .val (.ref b11), .val (.int p1), .val (.ref b81), .val (.int (1 : Int32)), .val (.int (-1 : Int32))] [(.int (1 : Int32))])
    refine hst (fun t₀ k₀ => XS.istore X265.here hx rfl (hb hby at_277) rfl (l' := #[.val (.int p1), .val (.int p2), .val (.int p3), .val (.int p4), .val (.int p5), .val (.int (1 : Int32)), .val (.ref b11), .val (.int p1), .val (.ref b81), .val (.int (1 : Int32)), .val (.int (-1 : Int32))]) rfl k₀) ?_
    show F T265 (mkF m 279 #[.val (.int p1), .val (.int p2), .val (.int p3), .val (.int p4), .val (.int p5), .val (.int (1 : Int32)), .val (.ref b11), .val (.int p1), .val (.ref b81), .val (.int (1 : Int32)), .val (.int (-1 : Int32))] [])
    refine hst (fun t₀ k₀ => XS.iload X265.here hx rfl (hb hby at_279) rfl k₀) ?_
    show F T265 (mkF m 281 #[.val (.int p1), .val (.int p2), .val (.int p3), .val (.int p4), .val (.int p5), .val (.int (1 : Int32)), .val (.ref b11), .val (.int p1), .val (.ref b81), .val (.int (1 : Int32)), .val (.int (-1 : Int32))] [(.int (1 : Int32))])
    refine hst (fun t₀ k₀ => XS.ifNo X265.here hx rfl (hb hby at_281) rfl ((if0 _ _).trans (feq (by decide)).1) k₀) ?_
    show F T265 (mkF m 284 #[.val (.int p1), .val (.int p2), .val (.int p3), .val (.int p4), .val (.int p5), .val (.int (1 : Int32)), .val (.ref b11), .val (.int p1), .val (.ref b81), .val (.int (1 : Int32)), .val (.int (-1 : Int32))] [])
    refine hst (fun t₀ k₀ => XS.aload X265.here hx rfl (hb hby at_284) rfl rfl k₀) ?_
    show F T265 (mkF m 286 #[.val (.int p1), .val (.int p2), .val (.int p3), .val (.int p4), .val (.int p5), .val (.int (1 : Int32)), .val (.ref b11), .val (.int p1), .val (.ref b81), .val (.int (1 : Int32)), .val (.int (-1 : Int32))] [(.ref b11)])
    refine hst (fun t₀ k₀ => XS.iloadN X265.here hx rfl (hb hby at_286) rfl k₀) ?_
    show F T265 (mkF m 287 #[.val (.int p1), .val (.int p2), .val (.int p3), .val (.int p4), .val (.int p5), .val (.int (1 : Int32)), .val (.ref b11), .val (.int p1), .val (.ref b81), .val (.int (1 : Int32)), .val (.int (-1 : Int32))] [(.int p4), (.ref b11)])
    obtain ⟨v287, T287, Lc287, X287, hQ287, st287⟩ := own_callV X265 hx hZ hown (y := (⟨"com/example/hoist/hoist/CreationPath", "lastIndexOf", "(I)I"⟩ : MethodName)) (hw _ (List.mem_of_getElem? (i := 46) rfl)) (hw _ (List.mem_of_getElem? (i := 47) rfl)) (hw _ (List.mem_of_getElem? (i := 49) rfl)) (hw _ (List.mem_of_getElem? (i := 48) rfl)) (hw _ (List.mem_of_getElem? (i := 3) rfl)) (hw _ (List.mem_of_getElem? (i := 50) rfl)) (by decide) he265 q1_15_p255 (rm10 l Z a0 hw [] b11 p4 t_15 cf2_255 ([p4] : List Int32) T255.heap n0 Z0_p255 q2_15_p255 q1_255 is2_255 (Nat.le_of_ble_eq_true rfl)) (by decide) (by decide) (g := (mkF m 287 #[.val (.int p1), .val (.int p2), .val (.int p3), .val (.int p4), .val (.int p5), .val (.int (1 : Int32)), .val (.ref b11), .val (.int p1), .val (.ref b81), .val (.int (1 : Int32)), .val (.int (-1 : Int32))] [(.int p4), (.ref b11)])) rfl (by rw [hml]; rfl) (argsL := [(.int p4)]) (rest := []) (lenOf pd_2 rfl) rfl rfl (W := 0) (by show 2 * 0 + _ ≤ _; exact Nat.le_of_eq rfl) (hb hby at_287) (by decide) (by decide)
    obtain ⟨rfl, Nq287, he287⟩ := hQ287
    have N287 := Fr.app N265 Nq287
    refine hst st287 ?_
    show F T287 (mkF m 290 #[.val (.int p1), .val (.int p2), .val (.int p3), .val (.int p4), .val (.int p5), .val (.int (1 : Int32)), .val (.ref b11), .val (.int p1), .val (.ref b81), .val (.int (1 : Int32)), .val (.int (-1 : Int32))] [(.int (own_lif ([p4] : List Int32) p4 ([p4] : List Int32).length))])
    refine hst (fun t₀ k₀ => XS.iload X287.here hx rfl (hb hby at_290) rfl k₀) ?_
    show F T287 (mkF m 292 #[.val (.int p1), .val (.int p2), .val (.int p3), .val (.int p4), .val (.int p5), .val (.int (1 : Int32)), .val (.ref b11), .val (.int p1), .val (.ref b81), .val (.int (1 : Int32)), .val (.int (-1 : Int32))] [(.int (1 : Int32)), (.int (own_lif ([p4] : List Int32) p4 ([p4] : List Int32).length))])
    refine hst (fun t₀ k₀ => XS.iconst X287.here hx rfl (hb hby at_292) k₀) ?_
    show F T287 (mkF m 293 #[.val (.int p1), .val (.int p2), .val (.int p3), .val (.int p4), .val (.int p5), .val (.int (1 : Int32)), .val (.ref b11), .val (.int p1), .val (.ref b81), .val (.int (1 : Int32)), .val (.int (-1 : Int32))] [(.int (1 : Int32)), (.int (1 : Int32)), (.int (own_lif ([p4] : List Int32) p4 ([p4] : List Int32).length))])
    refine hst (fun t₀ k₀ => XS.isub X287.here hx rfl (hb hby at_293) rfl k₀) ?_
    show F T287 (mkF m 294 #[.val (.int p1), .val (.int p2), .val (.int p3), .val (.int p4), .val (.int p5), .val (.int (1 : Int32)), .val (.ref b11), .val (.int p1), .val (.ref b81), .val (.int (1 : Int32)), .val (.int (-1 : Int32))] [(.int ((1 : Int32) - (1 : Int32))), (.int (own_lif ([p4] : List Int32) p4 ([p4] : List Int32).length))])
    show F T287 (mkF m 294 #[.val (.int p1), .val (.int p2), .val (.int p3), .val (.int p4), .val (.int p5), .val (.int (1 : Int32)), .val (.ref b11), .val (.int p1), .val (.ref b81), .val (.int (1 : Int32)), .val (.int (-1 : Int32))] [(.int (0 : Int32)), (.int (own_lif ([p4] : List Int32) p4 ([p4] : List Int32).length))])
    refine hst (fun t₀ k₀ => XS.icmpNo X287.here hx rfl (hb hby at_294) rfl (teq (by simp [own_lif])).2 k₀) ?_
    show F T287 (mkF m 297 #[.val (.int p1), .val (.int p2), .val (.int p3), .val (.int p4), .val (.int p5), .val (.int (1 : Int32)), .val (.ref b11), .val (.int p1), .val (.ref b81), .val (.int (1 : Int32)), .val (.int (-1 : Int32))] [])
    refine hst (fun t₀ k₀ => XS.iconst X287.here hx rfl (hb hby at_297) k₀) ?_
    show F T287 (mkF m 298 #[.val (.int p1), .val (.int p2), .val (.int p3), .val (.int p4), .val (.int p5), .val (.int (1 : Int32)), .val (.ref b11), .val (.int p1), .val (.ref b81), .val (.int (1 : Int32)), .val (.int (-1 : Int32))] [(.int (1 : Int32))])
    refine hst (fun t₀ k₀ => XS.goto X287.here hx rfl (pc0 := 298) (pc' := 302) rfl (hb hby at_298) (by decide) (by decide) k₀) ?_
    show F T287 (mkF m 302 #[.val (.int p1), .val (.int p2), .val (.int p3), .val (.int p4), .val (.int p5), .val (.int (1 : Int32)), .val (.ref b11), .val (.int p1), .val (.ref b81), .val (.int (1 : Int32)), .val (.int (-1 : Int32))] [(.int (1 : Int32))])
    refine hst (fun t₀ k₀ => XS.istore X287.here hx rfl (hb hby at_302) rfl (l' := #[.val (.int p1), .val (.int p2), .val (.int p3), .val (.int p4), .val (.int p5), .val (.int (1 : Int32)), .val (.ref b11), .val (.int p1), .val (.ref b81), .val (.int (1 : Int32)), .val (.int (-1 : Int32))]) rfl k₀) ?_
    show F T287 (mkF m 304 #[.val (.int p1), .val (.int p2), .val (.int p3), .val (.int p4), .val (.int p5), .val (.int (1 : Int32)), .val (.ref b11), .val (.int p1), .val (.ref b81), .val (.int (1 : Int32)), .val (.int (-1 : Int32))] [])
    refine hst (fun t₀ k₀ => XS.iload X287.here hx rfl (hb hby at_304) rfl k₀) ?_
    show F T287 (mkF m 306 #[.val (.int p1), .val (.int p2), .val (.int p3), .val (.int p4), .val (.int p5), .val (.int (1 : Int32)), .val (.ref b11), .val (.int p1), .val (.ref b81), .val (.int (1 : Int32)), .val (.int (-1 : Int32))] [(.int (1 : Int32))])
    rw [hF]
    refine own_retN X287 hx hret (by simp) hlk (hb hby at_306) (by decide) (by decide) ?_
    rw [he287]
    exact ⟨rfl, N287⟩
  · -- (2 : Int32)
    show F T23 (mkF m 26 #[.val (.int p1), .val (.int p2), .val (.int p3), .val (.int p4), .val (.int p5), .val (.int (2 : Int32)), .val (.ref b11), .unset, .unset, .unset, .unset] [])
    refine hst (fun t₀ k₀ => XS.iload X23.here hx rfl (hb hby at_26) rfl k₀) ?_
    show F T23 (mkF m 28 #[.val (.int p1), .val (.int p2), .val (.int p3), .val (.int p4), .val (.int p5), .val (.int (2 : Int32)), .val (.ref b11), .unset, .unset, .unset, .unset] [(.int (2 : Int32))])
    refine hst (fun t₀ k₀ => XS.iconst X23.here hx rfl (hb hby at_28) k₀) ?_
    show F T23 (mkF m 29 #[.val (.int p1), .val (.int p2), .val (.int p3), .val (.int p4), .val (.int p5), .val (.int (2 : Int32)), .val (.ref b11), .unset, .unset, .unset, .unset] [(.int (2 : Int32)), (.int (2 : Int32))])
    refine hst (fun t₀ k₀ => XS.icmpNo X23.here hx rfl (hb hby at_29) rfl (flt (by decide)).1 k₀) ?_
    show F T23 (mkF m 32 #[.val (.int p1), .val (.int p2), .val (.int p3), .val (.int p4), .val (.int p5), .val (.int (2 : Int32)), .val (.ref b11), .unset, .unset, .unset, .unset] [])
    refine hst (fun t₀ k₀ => XS.aload X23.here hx rfl (hb hby at_32) rfl rfl k₀) ?_
    show F T23 (mkF m 34 #[.val (.int p1), .val (.int p2), .val (.int p3), .val (.int p4), .val (.int p5), .val (.int (2 : Int32)), .val (.ref b11), .unset, .unset, .unset, .unset] [(.ref b11)])
    refine hst (fun t₀ k₀ => XS.iloadN X23.here hx rfl (hb hby at_34) rfl k₀) ?_
    show F T23 (mkF m 35 #[.val (.int p1), .val (.int p2), .val (.int p3), .val (.int p4), .val (.int p5), .val (.int (2 : Int32)), .val (.ref b11), .unset, .unset, .unset, .unset] [(.int p2), (.ref b11)])
    obtain ⟨v35, T35, Lc35, X35, hQ35, st35⟩ := own_callV X23 hx hZ hown (y := (⟨"com/example/hoist/hoist/CreationPath", "enter", "(I)V"⟩ : MethodName)) (hw _ (List.mem_of_getElem? (i := 13) rfl)) (hw _ (List.mem_of_getElem? (i := 14) rfl)) (hw _ (List.mem_of_getElem? (i := 16) rfl)) (hw _ (List.mem_of_getElem? (i := 15) rfl)) (hw _ (List.mem_of_getElem? (i := 3) rfl)) (hw _ (List.mem_of_getElem? (i := 17) rfl)) (by decide) rfl q1_15_p23 (rm3 l Z a0 hw [] b11 p2 t_15 cf2_23 ([p1] : List Int32) T23.heap n0 Z0_p23 q2_15_p23 q1_23 ge_t_15 is2_23 (Nat.le_of_ble_eq_true rfl) ne_b11_t_15) (by decide) (by decide) (g := (mkF m 35 #[.val (.int p1), .val (.int p2), .val (.int p3), .val (.int p4), .val (.int p5), .val (.int (2 : Int32)), .val (.ref b11), .unset, .unset, .unset, .unset] [(.int p2), (.ref b11)])) rfl (by rw [hml]; rfl) (argsL := [(.int p2)]) (rest := []) (lenOf pd_3 rfl) rfl rfl (W := 0) (by show 2 * 0 + _ ≤ _; exact Nat.le_of_eq rfl) (hb hby at_35) (by decide) (by decide)
    obtain ⟨cf2_35, rfl, Nq35, K35, q1_35, is2_35⟩ := hQ35
    have N35 := Fr.app N23 Nq35
    have q1_15_p35 : Exa Z T35.heap b11 "com/example/hoist/hoist/CreationPath" := q1_15_p23.keep K35
    have q2_15_p35 : Fld Z T35.heap b11 "com/example/hoist/hoist/CreationPath" "slots" "[I" (.ref t_15) := q2_15_p23.keep K35 (by simp only [List.mem_cons, List.not_mem_nil, or_false, not_or]; exact ne_b11_t_15)
    have Z0_p35 : n0 ≤ T35.heap.size := Nat.le_trans Z0_p23 K35.1
    refine hst st35 ?_
    show F T35 (mkF m 38 #[.val (.int p1), .val (.int p2), .val (.int p3), .val (.int p4), .val (.int p5), .val (.int (2 : Int32)), .val (.ref b11), .unset, .unset, .unset, .unset] [])
    refine hst (fun t₀ k₀ => XS.iload X35.here hx rfl (hb hby at_38) rfl k₀) ?_
    show F T35 (mkF m 40 #[.val (.int p1), .val (.int p2), .val (.int p3), .val (.int p4), .val (.int p5), .val (.int (2 : Int32)), .val (.ref b11), .unset, .unset, .unset, .unset] [(.int (2 : Int32))])
    refine hst (fun t₀ k₀ => XS.iconst X35.here hx rfl (hb hby at_40) k₀) ?_
    show F T35 (mkF m 41 #[.val (.int p1), .val (.int p2), .val (.int p3), .val (.int p4), .val (.int p5), .val (.int (2 : Int32)), .val (.ref b11), .unset, .unset, .unset, .unset] [(.int (3 : Int32)), (.int (2 : Int32))])
    refine hst (fun t₀ k₀ => XS.icmpYes X35.here hx rfl (pc0 := 41) (pc' := 50) rfl (hb hby at_41) rfl (tlt (by decide)).1 (by decide) (by decide) k₀) ?_
    show F T35 (mkF m 50 #[.val (.int p1), .val (.int p2), .val (.int p3), .val (.int p4), .val (.int p5), .val (.int (2 : Int32)), .val (.ref b11), .unset, .unset, .unset, .unset] [])
    refine hst (fun t₀ k₀ => XS.iload X35.here hx rfl (hb hby at_50) rfl k₀) ?_
    show F T35 (mkF m 52 #[.val (.int p1), .val (.int p2), .val (.int p3), .val (.int p4), .val (.int p5), .val (.int (2 : Int32)), .val (.ref b11), .unset, .unset, .unset, .unset] [(.int (2 : Int32))])
    refine hst (fun t₀ k₀ => XS.iconst X35.here hx rfl (hb hby at_52) k₀) ?_
    show F T35 (mkF m 53 #[.val (.int p1), .val (.int p2), .val (.int p3), .val (.int p4), .val (.int p5), .val (.int (2 : Int32)), .val (.ref b11), .unset, .unset, .unset, .unset] [(.int (1 : Int32)), (.int (2 : Int32))])
    refine hst (fun t₀ k₀ => XS.icmpYes X35.here hx rfl (pc0 := 53) (pc' := 60) rfl (hb hby at_53) rfl (feq (by decide)).2 (by decide) (by decide) k₀) ?_
    show F T35 (mkF m 60 #[.val (.int p1), .val (.int p2), .val (.int p3), .val (.int p4), .val (.int p5), .val (.int (2 : Int32)), .val (.ref b11), .unset, .unset, .unset, .unset] [])
    refine hst (fun t₀ k₀ => XS.iload X35.here hx rfl (hb hby at_60) rfl k₀) ?_
    show F T35 (mkF m 62 #[.val (.int p1), .val (.int p2), .val (.int p3), .val (.int p4), .val (.int p5), .val (.int (2 : Int32)), .val (.ref b11), .unset, .unset, .unset, .unset] [(.int (2 : Int32))])
    refine hst (fun t₀ k₀ => XS.iconst X35.here hx rfl (hb hby at_62) k₀) ?_
    show F T35 (mkF m 63 #[.val (.int p1), .val (.int p2), .val (.int p3), .val (.int p4), .val (.int p5), .val (.int (2 : Int32)), .val (.ref b11), .unset, .unset, .unset, .unset] [(.int (2 : Int32)), (.int (2 : Int32))])
    refine hst (fun t₀ k₀ => XS.icmpNo X35.here hx rfl (hb hby at_63) rfl (teq (by decide)).2 k₀) ?_
    show F T35 (mkF m 66 #[.val (.int p1), .val (.int p2), .val (.int p3), .val (.int p4), .val (.int p5), .val (.int (2 : Int32)), .val (.ref b11), .unset, .unset, .unset, .unset] [])
    refine hst (fun t₀ k₀ => XS.iloadN X35.here hx rfl (hb hby at_66) rfl k₀) ?_
    show F T35 (mkF m 67 #[.val (.int p1), .val (.int p2), .val (.int p3), .val (.int p4), .val (.int p5), .val (.int (2 : Int32)), .val (.ref b11), .unset, .unset, .unset, .unset] [(.int p2)])
    refine hst (fun t₀ k₀ => XS.goto X35.here hx rfl (pc0 := 67) (pc' := 71) rfl (hb hby at_67) (by decide) (by decide) k₀) ?_
    show F T35 (mkF m 71 #[.val (.int p1), .val (.int p2), .val (.int p3), .val (.int p4), .val (.int p5), .val (.int (2 : Int32)), .val (.ref b11), .unset, .unset, .unset, .unset] [(.int p2)])
    refine hst (fun t₀ k₀ => XS.istore X35.here hx rfl (hb hby at_71) rfl (l' := #[.val (.int p1), .val (.int p2), .val (.int p3), .val (.int p4), .val (.int p5), .val (.int (2 : Int32)), .val (.ref b11), .val (.int p2), .unset, .unset, .unset]) rfl k₀) ?_
    show F T35 (mkF m 73 #[.val (.int p1), .val (.int p2), .val (.int p3), .val (.int p4), .val (.int p5), .val (.int (2 : Int32)), .val (.ref b11), .val (.int p2), .unset, .unset, .unset] [])
    refine hst (fun t₀ k₀ => XS.aload X35.here hx rfl (hb hby at_73) rfl rfl k₀) ?_
    show F T35 (mkF m 75 #[.val (.int p1), .val (.int p2), .val (.int p3), .val (.int p4), .val (.int p5), .val (.int (2 : Int32)), .val (.ref b11), .val (.int p2), .unset, .unset, .unset] [(.ref b11)])
    obtain ⟨v75, T75, Lc75, X75, hQ75, st75⟩ := own_callV X35 hx hZ hown (y := (⟨"com/example/hoist/hoist/CreationPath", "leave", "()V"⟩ : MethodName)) (hw _ (List.mem_of_getElem? (i := 18) rfl)) (hw _ (List.mem_of_getElem? (i := 19) rfl)) (hw _ (List.mem_of_getElem? (i := 21) rfl)) (hw _ (List.mem_of_getElem? (i := 20) rfl)) (hw _ (List.mem_of_getElem? (i := 3) rfl)) (hw _ (List.mem_of_getElem? (i := 22) rfl)) (by decide) rfl q1_15_p35 (rm4 l Z a0 hw [] b11 t_15 cf2_35 ([p1, p2] : List Int32) T35.heap n0 Z0_p35 q2_15_p35 q1_35 ge_t_15 is2_35 (Nat.le_of_ble_eq_true rfl) (Nat.le_of_ble_eq_true rfl) ne_b11_t_15) (by decide) (by decide) (g := (mkF m 75 #[.val (.int p1), .val (.int p2), .val (.int p3), .val (.int p4), .val (.int p5), .val (.int (2 : Int32)), .val (.ref b11), .val (.int p2), .unset, .unset, .unset] [(.ref b11)])) rfl (by rw [hml]; rfl) (argsL := []) (rest := []) (lenOf pd_1 rfl) rfl rfl (W := 0) (by show 2 * 0 + _ ≤ _; exact Nat.le_of_eq rfl) (hb hby at_75) (by decide) (by decide)
    obtain ⟨cf2_75, rfl, Nq75, K75, q1_75, is2_75⟩ := hQ75
    have N75 := Fr.app N35 Nq75
    have q1_15_p75 : Exa Z T75.heap b11 "com/example/hoist/hoist/CreationPath" := q1_15_p35.keep K75
    have q2_15_p75 : Fld Z T75.heap b11 "com/example/hoist/hoist/CreationPath" "slots" "[I" (.ref t_15) := q2_15_p35.keep K75 (by simp only [List.mem_cons, List.not_mem_nil, or_false, not_or]; exact ne_b11_t_15)
    have Z0_p75 : n0 ≤ T75.heap.size := Nat.le_trans Z0_p35 K75.1
    refine hst st75 ?_
    show F T75 (mkF m 78 #[.val (.int p1), .val (.int p2), .val (.int p3), .val (.int p4), .val (.int p5), .val (.int (2 : Int32)), .val (.ref b11), .val (.int p2), .unset, .unset, .unset] [])
    refine hst (fun t₀ k₀ => XS.aload X75.here hx rfl (hb hby at_78) rfl rfl k₀) ?_
    show F T75 (mkF m 80 #[.val (.int p1), .val (.int p2), .val (.int p3), .val (.int p4), .val (.int p5), .val (.int (2 : Int32)), .val (.ref b11), .val (.int p2), .unset, .unset, .unset] [(.ref b11)])
    refine hst (fun t₀ k₀ => XS.iconst X75.here hx rfl (hb hby at_80) k₀) ?_
    show F T75 (mkF m 81 #[.val (.int p1), .val (.int p2), .val (.int p3), .val (.int p4), .val (.int p5), .val (.int (2 : Int32)), .val (.ref b11), .val (.int p2), .unset, .unset, .unset] [(.int (0 : Int32)), (.ref b11)])
    obtain ⟨v81, T81, Lc81, X81, hQ81, st81⟩ := own_callV X75 hx hZ hown (y := (⟨"com/example/hoist/hoist/CreationPath", "from", "(I)[I"⟩ : MethodName)) (hw _ (List.mem_of_getElem? (i := 23) rfl)) (hw _ (List.mem_of_getElem? (i := 24) rfl)) (hw _ (List.mem_of_getElem? (i := 26) rfl)) (hw _ (List.mem_of_getElem? (i := 25) rfl)) (hw _ (List.mem_of_getElem? (i := 3) rfl)) (hw _ (List.mem_of_getElem? (i := 27) rfl)) (by decide) rfl q1_15_p75 (rm5 l Z a0 hw [] b11 (0 : Int32) t_15 cf2_75 ([p1] : List Int32) T75.heap n0 Z0_p75 q2_15_p75 q1_75 is2_75 (Nat.le_of_ble_eq_true rfl) rfl) (by decide) (by decide) (g := (mkF m 81 #[.val (.int p1), .val (.int p2), .val (.int p3), .val (.int p4), .val (.int p5), .val (.int (2 : Int32)), .val (.ref b11), .val (.int p2), .unset, .unset, .unset] [(.int (0 : Int32)), (.ref b11)])) rfl (by rw [hml]; rfl) (argsL := [(.int (0 : Int32))]) (rest := []) (lenOf pd_4 rfl) rfl rfl (W := 0) (by show 2 * 0 + _ ≤ _; exact Nat.le_of_eq rfl) (hb hby at_81) (by decide) (by decide)
    obtain ⟨b81, rfl, Nq81, K81, q1_81, ge_b81⟩ := hQ81
    have N81 := Fr.app N75 Nq81
    have q1_15_p81 : Exa Z T81.heap b11 "com/example/hoist/hoist/CreationPath" := q1_15_p75.keep K81
    have q2_15_p81 : Fld Z T81.heap b11 "com/example/hoist/hoist/CreationPath" "slots" "[I" (.ref t_15) := q2_15_p75.keep K81 (List.not_mem_nil)
    have q1_75_p81 : own_A Z T81.heap t_15 .int 73 (fun i => .int (cf2_75 i)) := q1_75.keep K81 (List.not_mem_nil)
    have Z0_p81 : n0 ≤ T81.heap.size := Nat.le_trans Z0_p75 K81.1
    refine hst st81 ?_
    show F T81 (mkF m 84 #[.val (.int p1), .val (.int p2), .val (.int p3), .val (.int p4), .val (.int p5), .val (.int (2 : Int32)), .val (.ref b11), .val (.int p2), .unset, .unset, .unset] [(.ref b81)])
    refine hst (fun t₀ k₀ => XS.astore X81.here hx rfl (hb hby at_84) rfl rfl (l' := #[.val (.int p1), .val (.int p2), .val (.int p3), .val (.int p4), .val (.int p5), .val (.int (2 : Int32)), .val (.ref b11), .val (.int p2), .val (.ref b81), .unset, .unset]) rfl k₀) ?_
    show F T81 (mkF m 86 #[.val (.int p1), .val (.int p2), .val (.int p3), .val (.int p4), .val (.int p5), .val (.int (2 : Int32)), .val (.ref b11), .val (.int p2), .val (.ref b81), .unset, .unset] [])
    refine hst (fun t₀ k₀ => XS.aload X81.here hx rfl (hb hby at_86) rfl rfl k₀) ?_
    show F T81 (mkF m 88 #[.val (.int p1), .val (.int p2), .val (.int p3), .val (.int p4), .val (.int p5), .val (.int (2 : Int32)), .val (.ref b11), .val (.int p2), .val (.ref b81), .unset, .unset] [(.ref b81)])
    refine hst (fun t₀ k₀ => own_alen X81 hx hZ rfl q1_81 (z := (1 : Int32)) rfl (g := (mkF m 88 #[.val (.int p1), .val (.int p2), .val (.int p3), .val (.int p4), .val (.int p5), .val (.int (2 : Int32)), .val (.ref b11), .val (.int p2), .val (.ref b81), .unset, .unset] [(.ref b81)])) rfl rfl (hb hby at_88) t₀ k₀) ?_
    show F T81 (mkF m 89 #[.val (.int p1), .val (.int p2), .val (.int p3), .val (.int p4), .val (.int p5), .val (.int (2 : Int32)), .val (.ref b11), .val (.int p2), .val (.ref b81), .unset, .unset] [(.int (1 : Int32))])
    refine hst (fun t₀ k₀ => XS.iload X81.here hx rfl (hb hby at_89) rfl k₀) ?_
    show F T81 (mkF m 91 #[.val (.int p1), .val (.int p2), .val (.int p3), .val (.int p4), .val (.int p5), .val (.int (2 : Int32)), .val (.ref b11), .val (.int p2), .val (.ref b81), .unset, .unset] [(.int (2 : Int32)), (.int (1 : Int32))])
    refine hst (fun t₀ k₀ => XS.iconst X81.here hx rfl (hb hby at_91) k₀) ?_
    show F T81 (mkF m 92 #[.val (.int p1), .val (.int p2), .val (.int p3), .val (.int p4), .val (.int p5), .val (.int (2 : Int32)), .val (.ref b11), .val (.int p2), .val (.ref b81), .unset, .unset] [(.int (1 : Int32)), (.int (2 : Int32)), (.int (1 : Int32))])
    refine hst (fun t₀ k₀ => XS.isub X81.here hx rfl (hb hby at_92) rfl k₀) ?_
    show F T81 (mkF m 93 #[.val (.int p1), .val (.int p2), .val (.int p3), .val (.int p4), .val (.int p5), .val (.int (2 : Int32)), .val (.ref b11), .val (.int p2), .val (.ref b81), .unset, .unset] [(.int ((2 : Int32) - (1 : Int32))), (.int (1 : Int32))])
    show F T81 (mkF m 93 #[.val (.int p1), .val (.int p2), .val (.int p3), .val (.int p4), .val (.int p5), .val (.int (2 : Int32)), .val (.ref b11), .val (.int p2), .val (.ref b81), .unset, .unset] [(.int (1 : Int32)), (.int (1 : Int32))])
    refine hst (fun t₀ k₀ => XS.icmpNo X81.here hx rfl (hb hby at_93) rfl (teq rfl).2 k₀) ?_
    show F T81 (mkF m 96 #[.val (.int p1), .val (.int p2), .val (.int p3), .val (.int p4), .val (.int p5), .val (.int (2 : Int32)), .val (.ref b11), .val (.int p2), .val (.ref b81), .unset, .unset] [])
    refine hst (fun t₀ k₀ => XS.iconst X81.here hx rfl (hb hby at_96) k₀) ?_
    show F T81 (mkF m 97 #[.val (.int p1), .val (.int p2), .val (.int p3), .val (.int p4), .val (.int p5), .val (.int (2 : Int32)), .val (.ref b11), .val (.int p2), .val (.ref b81), .unset, .unset] [(.int (1 : Int32))])
    refine hst (fun t₀ k₀ => XS.goto X81.here hx rfl (pc0 := 97) (pc' := 101) rfl (hb hby at_97) (by decide) (by decide) k₀) ?_
    show F T81 (mkF m 101 #[.val (.int p1), .val (.int p2), .val (.int p3), .val (.int p4), .val (.int p5), .val (.int (2 : Int32)), .val (.ref b11), .val (.int p2), .val (.ref b81), .unset, .unset] [(.int (1 : Int32))])
    refine hst (fun t₀ k₀ => XS.istore X81.here hx rfl (hb hby at_101) rfl (l' := #[.val (.int p1), .val (.int p2), .val (.int p3), .val (.int p4), .val (.int p5), .val (.int (2 : Int32)), .val (.ref b11), .val (.int p2), .val (.ref b81), .val (.int (1 : Int32)), .unset]) rfl k₀) ?_
    show F T81 (mkF m 103 #[.val (.int p1), .val (.int p2), .val (.int p3), .val (.int p4), .val (.int p5), .val (.int (2 : Int32)), .val (.ref b11), .val (.int p2), .val (.ref b81), .val (.int (1 : Int32)), .unset] [])
    refine hst (fun t₀ k₀ => XS.iload X81.here hx rfl (hb hby at_103) rfl k₀) ?_
    show F T81 (mkF m 105 #[.val (.int p1), .val (.int p2), .val (.int p3), .val (.int p4), .val (.int p5), .val (.int (2 : Int32)), .val (.ref b11), .val (.int p2), .val (.ref b81), .val (.int (1 : Int32)), .unset] [(.int (1 : Int32))])
    refine hst (fun t₀ k₀ => XS.ifNo X81.here hx rfl (hb hby at_105) rfl ((if0 _ _).trans (feq (by decide)).1) k₀) ?_
    show F T81 (mkF m 108 #[.val (.int p1), .val (.int p2), .val (.int p3), .val (.int p4), .val (.int p5), .val (.int (2 : Int32)), .val (.ref b11), .val (.int p2), .val (.ref b81), .val (.int (1 : Int32)), .unset] [])
    refine hst (fun t₀ k₀ => XS.iload X81.here hx rfl (hb hby at_108) rfl k₀) ?_
    show F T81 (mkF m 110 #[.val (.int p1), .val (.int p2), .val (.int p3), .val (.int p4), .val (.int p5), .val (.int (2 : Int32)), .val (.ref b11), .val (.int p2), .val (.ref b81), .val (.int (1 : Int32)), .unset] [(.int (2 : Int32))])
    refine hst (fun t₀ k₀ => XS.iconst X81.here hx rfl (hb hby at_110) k₀) ?_
    show F T81 (mkF m 111 #[.val (.int p1), .val (.int p2), .val (.int p3), .val (.int p4), .val (.int p5), .val (.int (2 : Int32)), .val (.ref b11), .val (.int p2), .val (.ref b81), .val (.int (1 : Int32)), .unset] [(.int (2 : Int32)), (.int (2 : Int32))])
    refine hst (fun t₀ k₀ => XS.icmpNo X81.here hx rfl (hb hby at_111) rfl (flt (by decide)).1 k₀) ?_
    show F T81 (mkF m 114 #[.val (.int p1), .val (.int p2), .val (.int p3), .val (.int p4), .val (.int p5), .val (.int (2 : Int32)), .val (.ref b11), .val (.int p2), .val (.ref b81), .val (.int (1 : Int32)), .unset] [])
    refine hst (fun t₀ k₀ => XS.aload X81.here hx rfl (hb hby at_114) rfl rfl k₀) ?_
    show F T81 (mkF m 116 #[.val (.int p1), .val (.int p2), .val (.int p3), .val (.int p4), .val (.int p5), .val (.int (2 : Int32)), .val (.ref b11), .val (.int p2), .val (.ref b81), .val (.int (1 : Int32)), .unset] [(.ref b81)])
    refine hst (fun t₀ k₀ => XS.iconst X81.here hx rfl (hb hby at_116) k₀) ?_
    show F T81 (mkF m 117 #[.val (.int p1), .val (.int p2), .val (.int p3), .val (.int p4), .val (.int p5), .val (.int (2 : Int32)), .val (.ref b11), .val (.int p2), .val (.ref b81), .val (.int (1 : Int32)), .unset] [(.int (0 : Int32)), (.ref b81)])
    refine hst (fun t₀ k₀ => own_iaload X81 hx hZ rfl q1_81 (show ¬ ((0 : Int32) < 0 ∨ 1 ≤ Int32.toNatClampNeg 0) by decide) (v := (.int p1)) rfl (g := (mkF m 117 #[.val (.int p1), .val (.int p2), .val (.int p3), .val (.int p4), .val (.int p5), .val (.int (2 : Int32)), .val (.ref b11), .val (.int p2), .val (.ref b81), .val (.int (1 : Int32)), .unset] [(.int (0 : Int32)), (.ref b81)])) rfl rfl (hb hby at_117) t₀ k₀) ?_
    show F T81 (mkF m 118 #[.val (.int p1), .val (.int p2), .val (.int p3), .val (.int p4), .val (.int p5), .val (.int (2 : Int32)), .val (.ref b11), .val (.int p2), .val (.ref b81), .val (.int (1 : Int32)), .unset] [(.int p1)])
    refine hst (fun t₀ k₀ => XS.iloadN X81.here hx rfl (hb hby at_118) rfl k₀) ?_
    show F T81 (mkF m 119 #[.val (.int p1), .val (.int p2), .val (.int p3), .val (.int p4), .val (.int p5), .val (.int (2 : Int32)), .val (.ref b11), .val (.int p2), .val (.ref b81), .val (.int (1 : Int32)), .unset] [(.int p1), (.int p1)])
    refine hst (fun t₀ k₀ => XS.icmpNo X81.here hx rfl (hb hby at_119) rfl (teq rfl).2 k₀) ?_
    show F T81 (mkF m 122 #[.val (.int p1), .val (.int p2), .val (.int p3), .val (.int p4), .val (.int p5), .val (.int (2 : Int32)), .val (.ref b11), .val (.int p2), .val (.ref b81), .val (.int (1 : Int32)), .unset] [])
    refine hst (fun t₀ k₀ => XS.iconst X81.here hx rfl (hb hby at_122) k₀) ?_
    show F T81 (mkF m 123 #[.val (.int p1), .val (.int p2), .val (.int p3), .val (.int p4), .val (.int p5), .val (.int (2 : Int32)), .val (.ref b11), .val (.int p2), .val (.ref b81), .val (.int (1 : Int32)), .unset] [(.int (1 : Int32))])
    refine hst (fun t₀ k₀ => XS.goto X81.here hx rfl (pc0 := 123) (pc' := 127) rfl (hb hby at_123) (by decide) (by decide) k₀) ?_
    show F T81 (mkF m 127 #[.val (.int p1), .val (.int p2), .val (.int p3), .val (.int p4), .val (.int p5), .val (.int (2 : Int32)), .val (.ref b11), .val (.int p2), .val (.ref b81), .val (.int (1 : Int32)), .unset] [(.int (1 : Int32))])
    refine hst (fun t₀ k₀ => XS.istore X81.here hx rfl (hb hby at_127) rfl (l' := #[.val (.int p1), .val (.int p2), .val (.int p3), .val (.int p4), .val (.int p5), .val (.int (2 : Int32)), .val (.ref b11), .val (.int p2), .val (.ref b81), .val (.int (1 : Int32)), .unset]) rfl k₀) ?_
    show F T81 (mkF m 129 #[.val (.int p1), .val (.int p2), .val (.int p3), .val (.int p4), .val (.int p5), .val (.int (2 : Int32)), .val (.ref b11), .val (.int p2), .val (.ref b81), .val (.int (1 : Int32)), .unset] [])
    refine hst (fun t₀ k₀ => XS.iload X81.here hx rfl (hb hby at_129) rfl k₀) ?_
    show F T81 (mkF m 131 #[.val (.int p1), .val (.int p2), .val (.int p3), .val (.int p4), .val (.int p5), .val (.int (2 : Int32)), .val (.ref b11), .val (.int p2), .val (.ref b81), .val (.int (1 : Int32)), .unset] [(.int (1 : Int32))])
    refine hst (fun t₀ k₀ => XS.ifNo X81.here hx rfl (hb hby at_131) rfl ((if0 _ _).trans (feq (by decide)).1) k₀) ?_
    show F T81 (mkF m 134 #[.val (.int p1), .val (.int p2), .val (.int p3), .val (.int p4), .val (.int p5), .val (.int (2 : Int32)), .val (.ref b11), .val (.int p2), .val (.ref b81), .val (.int (1 : Int32)), .unset] [])
    refine hst (fun t₀ k₀ => XS.iload X81.here hx rfl (hb hby at_134) rfl k₀) ?_
    show F T81 (mkF m 136 #[.val (.int p1), .val (.int p2), .val (.int p3), .val (.int p4), .val (.int p5), .val (.int (2 : Int32)), .val (.ref b11), .val (.int p2), .val (.ref b81), .val (.int (1 : Int32)), .unset] [(.int (2 : Int32))])
    refine hst (fun t₀ k₀ => XS.iconst X81.here hx rfl (hb hby at_136) k₀) ?_
    show F T81 (mkF m 137 #[.val (.int p1), .val (.int p2), .val (.int p3), .val (.int p4), .val (.int p5), .val (.int (2 : Int32)), .val (.ref b11), .val (.int p2), .val (.ref b81), .val (.int (1 : Int32)), .unset] [(.int (3 : Int32)), (.int (2 : Int32))])
    refine hst (fun t₀ k₀ => XS.icmpYes X81.here hx rfl (pc0 := 137) (pc' := 155) rfl (hb hby at_137) rfl (tlt (by decide)).1 (by decide) (by decide) k₀) ?_
    show F T81 (mkF m 155 #[.val (.int p1), .val (.int p2), .val (.int p3), .val (.int p4), .val (.int p5), .val (.int (2 : Int32)), .val (.ref b11), .val (.int p2), .val (.ref b81), .val (.int (1 : Int32)), .unset] [])
    refine hst (fun t₀ k₀ => XS.iload X81.here hx rfl (hb hby at_155) rfl k₀) ?_
    show F T81 (mkF m 157 #[.val (.int p1), .val (.int p2), .val (.int p3), .val (.int p4), .val (.int p5), .val (.int (2 : Int32)), .val (.ref b11), .val (.int p2), .val (.ref b81), .val (.int (1 : Int32)), .unset] [(.int (1 : Int32))])
    refine hst (fun t₀ k₀ => XS.ifNo X81.here hx rfl (hb hby at_157) rfl ((if0 _ _).trans (feq (by decide)).1) k₀) ?_
    show F T81 (mkF m 160 #[.val (.int p1), .val (.int p2), .val (.int p3), .val (.int p4), .val (.int p5), .val (.int (2 : Int32)), .val (.ref b11), .val (.int p2), .val (.ref b81), .val (.int (1 : Int32)), .unset] [])
    refine hst (fun t₀ k₀ => XS.iload X81.here hx rfl (hb hby at_160) rfl k₀) ?_
    show F T81 (mkF m 162 #[.val (.int p1), .val (.int p2), .val (.int p3), .val (.int p4), .val (.int p5), .val (.int (2 : Int32)), .val (.ref b11), .val (.int p2), .val (.ref b81), .val (.int (1 : Int32)), .unset] [(.int (2 : Int32))])
    refine hst (fun t₀ k₀ => XS.iconst X81.here hx rfl (hb hby at_162) k₀) ?_
    show F T81 (mkF m 163 #[.val (.int p1), .val (.int p2), .val (.int p3), .val (.int p4), .val (.int p5), .val (.int (2 : Int32)), .val (.ref b11), .val (.int p2), .val (.ref b81), .val (.int (1 : Int32)), .unset] [(.int (2 : Int32)), (.int (2 : Int32))])
    refine hst (fun t₀ k₀ => XS.icmpNo X81.here hx rfl (hb hby at_163) rfl (flt (by decide)).1 k₀) ?_
    show F T81 (mkF m 166 #[.val (.int p1), .val (.int p2), .val (.int p3), .val (.int p4), .val (.int p5), .val (.int (2 : Int32)), .val (.ref b11), .val (.int p2), .val (.ref b81), .val (.int (1 : Int32)), .unset] [])
    refine hst (fun t₀ k₀ => XS.aload X81.here hx rfl (hb hby at_166) rfl rfl k₀) ?_
    show F T81 (mkF m 168 #[.val (.int p1), .val (.int p2), .val (.int p3), .val (.int p4), .val (.int p5), .val (.int (2 : Int32)), .val (.ref b11), .val (.int p2), .val (.ref b81), .val (.int (1 : Int32)), .unset] [(.ref b11)])
    obtain ⟨v168, T168, Lc168, X168, hQ168, st168⟩ := own_callV X81 hx hZ hown (y := (⟨"com/example/hoist/hoist/CreationPath", "last", "()I"⟩ : MethodName)) (hw _ (List.mem_of_getElem? (i := 51) rfl)) (hw _ (List.mem_of_getElem? (i := 52) rfl)) (hw _ (List.mem_of_getElem? (i := 54) rfl)) (hw _ (List.mem_of_getElem? (i := 53) rfl)) (hw _ (List.mem_of_getElem? (i := 3) rfl)) (hw _ (List.mem_of_getElem? (i := 55) rfl)) (by decide) rfl q1_15_p81 (rm11 l Z a0 hw [] b11 t_15 cf2_75 ([p1] : List Int32) T81.heap n0 Z0_p81 q2_15_p81 q1_75_p81 is2_75 (Nat.le_of_ble_eq_true rfl) (Nat.le_of_ble_eq_true rfl)) (by decide) (by decide) (g := (mkF m 168 #[.val (.int p1), .val (.int p2), .val (.int p3), .val (.int p4), .val (.int p5), .val (.int (2 : Int32)), .val (.ref b11), .val (.int p2), .val (.ref b81), .val (.int (1 : Int32)), .unset] [(.ref b11)])) rfl (by rw [hml]; rfl) (argsL := []) (rest := []) (lenOf pd_0 rfl) rfl rfl (W := 0) (by show 2 * 0 + _ ≤ _; exact Nat.le_of_eq rfl) (hb hby at_168) (by decide) (by decide)
    obtain ⟨rfl, Nq168, he168⟩ := hQ168
    have N168 := Fr.app N81 Nq168
    refine hst st168 ?_
    show F T168 (mkF m 171 #[.val (.int p1), .val (.int p2), .val (.int p3), .val (.int p4), .val (.int p5), .val (.int (2 : Int32)), .val (.ref b11), .val (.int p2), .val (.ref b81), .val (.int (1 : Int32)), .unset] [(.int (([p1] : List Int32).getD (([p1] : List Int32).length - 1) 0))])
    refine hst (fun t₀ k₀ => XS.iload X168.here hx rfl (hb hby at_171) rfl k₀) ?_
    show F T168 (mkF m 173 #[.val (.int p1), .val (.int p2), .val (.int p3), .val (.int p4), .val (.int p5), .val (.int (2 : Int32)), .val (.ref b11), .val (.int p2), .val (.ref b81), .val (.int (1 : Int32)), .unset] [(.int (2 : Int32)), (.int (([p1] : List Int32).getD (([p1] : List Int32).length - 1) 0))])
    refine hst (fun t₀ k₀ => XS.iconst X168.here hx rfl (hb hby at_173) k₀) ?_
    show F T168 (mkF m 174 #[.val (.int p1), .val (.int p2), .val (.int p3), .val (.int p4), .val (.int p5), .val (.int (2 : Int32)), .val (.ref b11), .val (.int p2), .val (.ref b81), .val (.int (1 : Int32)), .unset] [(.int (3 : Int32)), (.int (2 : Int32)), (.int (([p1] : List Int32).getD (([p1] : List Int32).length - 1) 0))])
    refine hst (fun t₀ k₀ => XS.icmpYes X168.here hx rfl (pc0 := 174) (pc' := 181) rfl (hb hby at_174) rfl (feq (by decide)).2 (by decide) (by decide) k₀) ?_
    show F T168 (mkF m 181 #[.val (.int p1), .val (.int p2), .val (.int p3), .val (.int p4), .val (.int p5), .val (.int (2 : Int32)), .val (.ref b11), .val (.int p2), .val (.ref b81), .val (.int (1 : Int32)), .unset] [(.int (([p1] : List Int32).getD (([p1] : List Int32).length - 1) 0))])
    refine hst (fun t₀ k₀ => XS.iloadN X168.here hx rfl (hb hby at_181) rfl k₀) ?_
    show F T168 (mkF m 182 #[.val (.int p1), .val (.int p2), .val (.int p3), .val (.int p4), .val (.int p5), .val (.int (2 : Int32)), .val (.ref b11), .val (.int p2), .val (.ref b81), .val (.int (1 : Int32)), .unset] [(.int p1), (.int (([p1] : List Int32).getD (([p1] : List Int32).length - 1) 0))])
    refine hst (fun t₀ k₀ => XS.icmpNo X168.here hx rfl (hb hby at_182) rfl (teq rfl).2 k₀) ?_
    show F T168 (mkF m 185 #[.val (.int p1), .val (.int p2), .val (.int p3), .val (.int p4), .val (.int p5), .val (.int (2 : Int32)), .val (.ref b11), .val (.int p2), .val (.ref b81), .val (.int (1 : Int32)), .unset] [])
    refine hst (fun t₀ k₀ => XS.iconst X168.here hx rfl (hb hby at_185) k₀) ?_
    show F T168 (mkF m 186 #[.val (.int p1), .val (.int p2), .val (.int p3), .val (.int p4), .val (.int p5), .val (.int (2 : Int32)), .val (.ref b11), .val (.int p2), .val (.ref b81), .val (.int (1 : Int32)), .unset] [(.int (1 : Int32))])
    refine hst (fun t₀ k₀ => XS.goto X168.here hx rfl (pc0 := 186) (pc' := 190) rfl (hb hby at_186) (by decide) (by decide) k₀) ?_
    show F T168 (mkF m 190 #[.val (.int p1), .val (.int p2), .val (.int p3), .val (.int p4), .val (.int p5), .val (.int (2 : Int32)), .val (.ref b11), .val (.int p2), .val (.ref b81), .val (.int (1 : Int32)), .unset] [(.int (1 : Int32))])
    refine hst (fun t₀ k₀ => XS.istore X168.here hx rfl (hb hby at_190) rfl (l' := #[.val (.int p1), .val (.int p2), .val (.int p3), .val (.int p4), .val (.int p5), .val (.int (2 : Int32)), .val (.ref b11), .val (.int p2), .val (.ref b81), .val (.int (1 : Int32)), .unset]) rfl k₀) ?_
    show F T168 (mkF m 192 #[.val (.int p1), .val (.int p2), .val (.int p3), .val (.int p4), .val (.int p5), .val (.int (2 : Int32)), .val (.ref b11), .val (.int p2), .val (.ref b81), .val (.int (1 : Int32)), .unset] [])
    refine hst (fun t₀ k₀ => XS.iconst X168.here hx rfl (hb hby at_192) k₀) ?_
    show F T168 (mkF m 193 #[.val (.int p1), .val (.int p2), .val (.int p3), .val (.int p4), .val (.int p5), .val (.int (2 : Int32)), .val (.ref b11), .val (.int p2), .val (.ref b81), .val (.int (1 : Int32)), .unset] [(.int (-1 : Int32))])
    refine hst (fun t₀ k₀ => XS.istore X168.here hx rfl (hb hby at_193) rfl (l' := #[.val (.int p1), .val (.int p2), .val (.int p3), .val (.int p4), .val (.int p5), .val (.int (2 : Int32)), .val (.ref b11), .val (.int p2), .val (.ref b81), .val (.int (1 : Int32)), .val (.int (-1 : Int32))]) rfl k₀) ?_
    show F T168 (mkF m 195 #[.val (.int p1), .val (.int p2), .val (.int p3), .val (.int p4), .val (.int p5), .val (.int (2 : Int32)), .val (.ref b11), .val (.int p2), .val (.ref b81), .val (.int (1 : Int32)), .val (.int (-1 : Int32))] [])
    refine hst (fun t₀ k₀ => XS.iload X168.here hx rfl (hb hby at_195) rfl k₀) ?_
    show F T168 (mkF m 197 #[.val (.int p1), .val (.int p2), .val (.int p3), .val (.int p4), .val (.int p5), .val (.int (2 : Int32)), .val (.ref b11), .val (.int p2), .val (.ref b81), .val (.int (1 : Int32)), .val (.int (-1 : Int32))] [(.int (2 : Int32))])
    refine hst (fun t₀ k₀ => XS.iconst X168.here hx rfl (hb hby at_197) k₀) ?_
    show F T168 (mkF m 198 #[.val (.int p1), .val (.int p2), .val (.int p3), .val (.int p4), .val (.int p5), .val (.int (2 : Int32)), .val (.ref b11), .val (.int p2), .val (.ref b81), .val (.int (1 : Int32)), .val (.int (-1 : Int32))] [(.int (3 : Int32)), (.int (2 : Int32))])
    refine hst (fun t₀ k₀ => XS.icmpYes X168.here hx rfl (pc0 := 198) (pc' := 213) rfl (hb hby at_198) rfl (tlt (by decide)).1 (by decide) (by decide) k₀) ?_
    show F T168 (mkF m 213 #[.val (.int p1), .val (.int p2), .val (.int p3), .val (.int p4), .val (.int p5), .val (.int (2 : Int32)), .val (.ref b11), .val (.int p2), .val (.ref b81), .val (.int (1 : Int32)), .val (.int (-1 : Int32))] [])
    refine hst (fun t₀ k₀ => XS.iload X168.here hx rfl (hb hby at_213) rfl k₀) ?_
    show F T168 (mkF m 215 #[.val (.int p1), .val (.int p2), .val (.int p3), .val (.int p4), .val (.int p5), .val (.int (2 : Int32)), .val (.ref b11), .val (.int p2), .val (.ref b81), .val (.int (1 : Int32)), .val (.int (-1 : Int32))] [(.int (2 : Int32))])
    refine hst (fun t₀ k₀ => XS.iconst X168.here hx rfl (hb hby at_215) k₀) ?_
    show F T168 (mkF m 216 #[.val (.int p1), .val (.int p2), .val (.int p3), .val (.int p4), .val (.int p5), .val (.int (2 : Int32)), .val (.ref b11), .val (.int p2), .val (.ref b81), .val (.int (1 : Int32)), .val (.int (-1 : Int32))] [(.int (2 : Int32)), (.int (2 : Int32))])
    refine hst (fun t₀ k₀ => XS.icmpNo X168.here hx rfl (hb hby at_216) rfl (flt (by decide)).1 k₀) ?_
    show F T168 (mkF m 219 #[.val (.int p1), .val (.int p2), .val (.int p3), .val (.int p4), .val (.int p5), .val (.int (2 : Int32)), .val (.ref b11), .val (.int p2), .val (.ref b81), .val (.int (1 : Int32)), .val (.int (-1 : Int32))] [])
    refine hst (fun t₀ k₀ => XS.iloadN X168.here hx rfl (hb hby at_219) rfl k₀) ?_
    show F T168 (mkF m 220 #[.val (.int p1), .val (.int p2), .val (.int p3), .val (.int p4), .val (.int p5), .val (.int (2 : Int32)), .val (.ref b11), .val (.int p2), .val (.ref b81), .val (.int (1 : Int32)), .val (.int (-1 : Int32))] [(.int p1)])
    refine hst (fun t₀ k₀ => XS.iload X168.here hx rfl (hb hby at_220) rfl k₀) ?_
    show F T168 (mkF m 222 #[.val (.int p1), .val (.int p2), .val (.int p3), .val (.int p4), .val (.int p5), .val (.int (2 : Int32)), .val (.ref b11), .val (.int p2), .val (.ref b81), .val (.int (1 : Int32)), .val (.int (-1 : Int32))] [(.int p2), (.int p1)])
    by_cases hc222 : p1 = p2
    · -- pc 222: not taken
      refine hst (fun t₀ k₀ => XS.icmpNo X168.here hx rfl (hb hby at_222) rfl (teq hc222).2 k₀) ?_
      show F T168 (mkF m 225 #[.val (.int p1), .val (.int p2), .val (.int p3), .val (.int p4), .val (.int p5), .val (.int (2 : Int32)), .val (.ref b11), .val (.int p2), .val (.ref b81), .val (.int (1 : Int32)), .val (.int (-1 : Int32))] [])
      refine hst (fun t₀ k₀ => XS.iconst X168.here hx rfl (hb hby at_225) k₀) ?_
      show F T168 (mkF m 226 #[.val (.int p1), .val (.int p2), .val (.int p3), .val (.int p4), .val (.int p5), .val (.int (2 : Int32)), .val (.ref b11), .val (.int p2), .val (.ref b81), .val (.int (1 : Int32)), .val (.int (-1 : Int32))] [(.int (0 : Int32))])
      refine hst (fun t₀ k₀ => XS.istore X168.here hx rfl (hb hby at_226) rfl (l' := #[.val (.int p1), .val (.int p2), .val (.int p3), .val (.int p4), .val (.int p5), .val (.int (2 : Int32)), .val (.ref b11), .val (.int p2), .val (.ref b81), .val (.int (1 : Int32)), .val (.int (0 : Int32))]) rfl k₀) ?_
      show F T168 (mkF m 228 #[.val (.int p1), .val (.int p2), .val (.int p3), .val (.int p4), .val (.int p5), .val (.int (2 : Int32)), .val (.ref b11), .val (.int p2), .val (.ref b81), .val (.int (1 : Int32)), .val (.int (0 : Int32))] [])
      refine hst (fun t₀ k₀ => XS.iload X168.here hx rfl (hb hby at_228) rfl k₀) ?_
      show F T168 (mkF m 230 #[.val (.int p1), .val (.int p2), .val (.int p3), .val (.int p4), .val (.int p5), .val (.int (2 : Int32)), .val (.ref b11), .val (.int p2), .val (.ref b81), .val (.int (1 : Int32)), .val (.int (0 : Int32))] [(.int (1 : Int32))])
      refine hst (fun t₀ k₀ => XS.ifNo X168.here hx rfl (hb hby at_230) rfl ((if0 _ _).trans (feq (by decide)).1) k₀) ?_
      show F T168 (mkF m 233 #[.val (.int p1), .val (.int p2), .val (.int p3), .val (.int p4), .val (.int p5), .val (.int (2 : Int32)), .val (.ref b11), .val (.int p2), .val (.ref b81), .val (.int (1 : Int32)), .val (.int (0 : Int32))] [])
      refine hst (fun t₀ k₀ => XS.aload X168.here hx rfl (hb hby at_233) rfl rfl k₀) ?_
      show F T168 (mkF m 235 #[.val (.int p1), .val (.int p2), .val (.int p3), .val (.int p4), .val (.int p5), .val (.int (2 : Int32)), .val (.ref b11), .val (.int p2), .val (.ref b81), .val (.int (1 : Int32)), .val (.int (0 : Int32))] [(.ref b11)])
      refine hst (fun t₀ k₀ => XS.iload X168.here hx rfl (hb hby at_235) rfl k₀) ?_
      show F T168 (mkF m 237 #[.val (.int p1), .val (.int p2), .val (.int p3), .val (.int p4), .val (.int p5), .val (.int (2 : Int32)), .val (.ref b11), .val (.int p2), .val (.ref b81), .val (.int (1 : Int32)), .val (.int (0 : Int32))] [(.int p2), (.ref b11)])
      obtain ⟨v237, T237, Lc237, X237, hQ237, st237⟩ := own_callV X168 hx hZ hown (y := (⟨"com/example/hoist/hoist/CreationPath", "lastIndexOf", "(I)I"⟩ : MethodName)) (hw _ (List.mem_of_getElem? (i := 46) rfl)) (hw _ (List.mem_of_getElem? (i := 47) rfl)) (hw _ (List.mem_of_getElem? (i := 49) rfl)) (hw _ (List.mem_of_getElem? (i := 48) rfl)) (hw _ (List.mem_of_getElem? (i := 3) rfl)) (hw _ (List.mem_of_getElem? (i := 50) rfl)) (by decide) he168 q1_15_p81 (rm10 l Z a0 hw [] b11 p2 t_15 cf2_75 ([p1] : List Int32) T81.heap n0 Z0_p81 q2_15_p81 q1_75_p81 is2_75 (Nat.le_of_ble_eq_true rfl)) (by decide) (by decide) (g := (mkF m 237 #[.val (.int p1), .val (.int p2), .val (.int p3), .val (.int p4), .val (.int p5), .val (.int (2 : Int32)), .val (.ref b11), .val (.int p2), .val (.ref b81), .val (.int (1 : Int32)), .val (.int (0 : Int32))] [(.int p2), (.ref b11)])) rfl (by rw [hml]; rfl) (argsL := [(.int p2)]) (rest := []) (lenOf pd_2 rfl) rfl rfl (W := 0) (by show 2 * 0 + _ ≤ _; exact Nat.le_of_eq rfl) (hb hby at_237) (by decide) (by decide)
      obtain ⟨rfl, Nq237, he237⟩ := hQ237
      have N237 := Fr.app N168 Nq237
      refine hst st237 ?_
      show F T237 (mkF m 240 #[.val (.int p1), .val (.int p2), .val (.int p3), .val (.int p4), .val (.int p5), .val (.int (2 : Int32)), .val (.ref b11), .val (.int p2), .val (.ref b81), .val (.int (1 : Int32)), .val (.int (0 : Int32))] [(.int (own_lif ([p1] : List Int32) p2 ([p1] : List Int32).length))])
      refine hst (fun t₀ k₀ => XS.iload X237.here hx rfl (hb hby at_240) rfl k₀) ?_
      show F T237 (mkF m 242 #[.val (.int p1), .val (.int p2), .val (.int p3), .val (.int p4), .val (.int p5), .val (.int (2 : Int32)), .val (.ref b11), .val (.int p2), .val (.ref b81), .val (.int (1 : Int32)), .val (.int (0 : Int32))] [(.int (0 : Int32)), (.int (own_lif ([p1] : List Int32) p2 ([p1] : List Int32).length))])
      refine hst (fun t₀ k₀ => XS.icmpNo X237.here hx rfl (hb hby at_242) rfl (teq (by simp [own_lif, hc222])).2 k₀) ?_
      show F T237 (mkF m 245 #[.val (.int p1), .val (.int p2), .val (.int p3), .val (.int p4), .val (.int p5), .val (.int (2 : Int32)), .val (.ref b11), .val (.int p2), .val (.ref b81), .val (.int (1 : Int32)), .val (.int (0 : Int32))] [])
      refine hst (fun t₀ k₀ => XS.iconst X237.here hx rfl (hb hby at_245) k₀) ?_
      show F T237 (mkF m 246 #[.val (.int p1), .val (.int p2), .val (.int p3), .val (.int p4), .val (.int p5), .val (.int (2 : Int32)), .val (.ref b11), .val (.int p2), .val (.ref b81), .val (.int (1 : Int32)), .val (.int (0 : Int32))] [(.int (1 : Int32))])
      refine hst (fun t₀ k₀ => XS.goto X237.here hx rfl (pc0 := 246) (pc' := 250) rfl (hb hby at_246) (by decide) (by decide) k₀) ?_
      show F T237 (mkF m 250 #[.val (.int p1), .val (.int p2), .val (.int p3), .val (.int p4), .val (.int p5), .val (.int (2 : Int32)), .val (.ref b11), .val (.int p2), .val (.ref b81), .val (.int (1 : Int32)), .val (.int (0 : Int32))] [(.int (1 : Int32))])
      refine hst (fun t₀ k₀ => XS.istore X237.here hx rfl (hb hby at_250) rfl (l' := #[.val (.int p1), .val (.int p2), .val (.int p3), .val (.int p4), .val (.int p5), .val (.int (2 : Int32)), .val (.ref b11), .val (.int p2), .val (.ref b81), .val (.int (1 : Int32)), .val (.int (0 : Int32))]) rfl k₀) ?_
      show F T237 (mkF m 252 #[.val (.int p1), .val (.int p2), .val (.int p3), .val (.int p4), .val (.int p5), .val (.int (2 : Int32)), .val (.ref b11), .val (.int p2), .val (.ref b81), .val (.int (1 : Int32)), .val (.int (0 : Int32))] [])
      refine hst (fun t₀ k₀ => XS.aload X237.here hx rfl (hb hby at_252) rfl rfl k₀) ?_
      show F T237 (mkF m 254 #[.val (.int p1), .val (.int p2), .val (.int p3), .val (.int p4), .val (.int p5), .val (.int (2 : Int32)), .val (.ref b11), .val (.int p2), .val (.ref b81), .val (.int (1 : Int32)), .val (.int (0 : Int32))] [(.ref b11)])
      refine hst (fun t₀ k₀ => XS.iloadN X237.here hx rfl (hb hby at_254) rfl k₀) ?_
      show F T237 (mkF m 255 #[.val (.int p1), .val (.int p2), .val (.int p3), .val (.int p4), .val (.int p5), .val (.int (2 : Int32)), .val (.ref b11), .val (.int p2), .val (.ref b81), .val (.int (1 : Int32)), .val (.int (0 : Int32))] [(.int p4), (.ref b11)])
      obtain ⟨v255, T255, Lc255, X255, hQ255, st255⟩ := own_callV X237 hx hZ hown (y := (⟨"com/example/hoist/hoist/CreationPath", "enter", "(I)V"⟩ : MethodName)) (hw _ (List.mem_of_getElem? (i := 13) rfl)) (hw _ (List.mem_of_getElem? (i := 14) rfl)) (hw _ (List.mem_of_getElem? (i := 16) rfl)) (hw _ (List.mem_of_getElem? (i := 15) rfl)) (hw _ (List.mem_of_getElem? (i := 3) rfl)) (hw _ (List.mem_of_getElem? (i := 17) rfl)) (by decide) he237 q1_15_p81 (rm3 l Z a0 hw [] b11 p4 t_15 cf2_75 ([p1] : List Int32) T81.heap n0 Z0_p81 q2_15_p81 q1_75_p81 ge_t_15 is2_75 (Nat.le_of_ble_eq_true rfl) ne_b11_t_15) (by decide) (by decide) (g := (mkF m 255 #[.val (.int p1), .val (.int p2), .val (.int p3), .val (.int p4), .val (.int p5), .val (.int (2 : Int32)), .val (.ref b11), .val (.int p2), .val (.ref b81), .val (.int (1 : Int32)), .val (.int (0 : Int32))] [(.int p4), (.ref b11)])) rfl (by rw [hml]; rfl) (argsL := [(.int p4)]) (rest := []) (lenOf pd_3 rfl) rfl rfl (W := 0) (by show 2 * 0 + _ ≤ _; exact Nat.le_of_eq rfl) (hb hby at_255) (by decide) (by decide)
      obtain ⟨cf2_255, rfl, Nq255, K255, q1_255, is2_255⟩ := hQ255
      have N255 := Fr.app N237 Nq255
      have q1_15_p255 : Exa Z T255.heap b11 "com/example/hoist/hoist/CreationPath" := q1_15_p81.keep K255
      have q2_15_p255 : Fld Z T255.heap b11 "com/example/hoist/hoist/CreationPath" "slots" "[I" (.ref t_15) := q2_15_p81.keep K255 (by simp only [List.mem_cons, List.not_mem_nil, or_false, not_or]; exact ne_b11_t_15)
      have Z0_p255 : n0 ≤ T255.heap.size := Nat.le_trans Z0_p81 K255.1
      refine hst st255 ?_
      show F T255 (mkF m 258 #[.val (.int p1), .val (.int p2), .val (.int p3), .val (.int p4), .val (.int p5), .val (.int (2 : Int32)), .val (.ref b11), .val (.int p2), .val (.ref b81), .val (.int (1 : Int32)), .val (.int (0 : Int32))] [])
      refine hst (fun t₀ k₀ => XS.iload X255.here hx rfl (hb hby at_258) rfl k₀) ?_
      show F T255 (mkF m 260 #[.val (.int p1), .val (.int p2), .val (.int p3), .val (.int p4), .val (.int p5), .val (.int (2 : Int32)), .val (.ref b11), .val (.int p2), .val (.ref b81), .val (.int (1 : Int32)), .val (.int (0 : Int32))] [(.int (1 : Int32))])
      refine hst (fun t₀ k₀ => XS.ifNo X255.here hx rfl (hb hby at_260) rfl ((if0 _ _).trans (feq (by decide)).1) k₀) ?_
      show F T255 (mkF m 263 #[.val (.int p1), .val (.int p2), .val (.int p3), .val (.int p4), .val (.int p5), .val (.int (2 : Int32)), .val (.ref b11), .val (.int p2), .val (.ref b81), .val (.int (1 : Int32)), .val (.int (0 : Int32))] [])
      refine hst (fun t₀ k₀ => XS.aload X255.here hx rfl (hb hby at_263) rfl rfl k₀) ?_
      show F T255 (mkF m 265 #[.val (.int p1), .val (.int p2), .val (.int p3), .val (.int p4), .val (.int p5), .val (.int (2 : Int32)), .val (.ref b11), .val (.int p2), .val (.ref b81), .val (.int (1 : Int32)), .val (.int (0 : Int32))] [(.ref b11)])
      obtain ⟨v265, T265, Lc265, X265, hQ265, st265⟩ := own_callV X255 hx hZ hown (y := (⟨"com/example/hoist/hoist/CreationPath", "last", "()I"⟩ : MethodName)) (hw _ (List.mem_of_getElem? (i := 51) rfl)) (hw _ (List.mem_of_getElem? (i := 52) rfl)) (hw _ (List.mem_of_getElem? (i := 54) rfl)) (hw _ (List.mem_of_getElem? (i := 53) rfl)) (hw _ (List.mem_of_getElem? (i := 3) rfl)) (hw _ (List.mem_of_getElem? (i := 55) rfl)) (by decide) rfl q1_15_p255 (rm11 l Z a0 hw [] b11 t_15 cf2_255 ([p1, p4] : List Int32) T255.heap n0 Z0_p255 q2_15_p255 q1_255 is2_255 (Nat.le_of_ble_eq_true rfl) (Nat.le_of_ble_eq_true rfl)) (by decide) (by decide) (g := (mkF m 265 #[.val (.int p1), .val (.int p2), .val (.int p3), .val (.int p4), .val (.int p5), .val (.int (2 : Int32)), .val (.ref b11), .val (.int p2), .val (.ref b81), .val (.int (1 : Int32)), .val (.int (0 : Int32))] [(.ref b11)])) rfl (by rw [hml]; rfl) (argsL := []) (rest := []) (lenOf pd_0 rfl) rfl rfl (W := 0) (by show 2 * 0 + _ ≤ _; exact Nat.le_of_eq rfl) (hb hby at_265) (by decide) (by decide)
      obtain ⟨rfl, Nq265, he265⟩ := hQ265
      have N265 := Fr.app N255 Nq265
      refine hst st265 ?_
      show F T265 (mkF m 268 #[.val (.int p1), .val (.int p2), .val (.int p3), .val (.int p4), .val (.int p5), .val (.int (2 : Int32)), .val (.ref b11), .val (.int p2), .val (.ref b81), .val (.int (1 : Int32)), .val (.int (0 : Int32))] [(.int (([p1, p4] : List Int32).getD (([p1, p4] : List Int32).length - 1) 0))])
      refine hst (fun t₀ k₀ => XS.iloadN X265.here hx rfl (hb hby at_268) rfl k₀) ?_
      show F T265 (mkF m 269 #[.val (.int p1), .val (.int p2), .val (.int p3), .val (.int p4), .val (.int p5), .val (.int (2 : Int32)), .val (.ref b11), .val (.int p2), .val (.ref b81), .val (.int (1 : Int32)), .val (.int (0 : Int32))] [(.int p4), (.int (([p1, p4] : List Int32).getD (([p1, p4] : List Int32).length - 1) 0))])
      refine hst (fun t₀ k₀ => XS.icmpNo X265.here hx rfl (hb hby at_269) rfl (teq rfl).2 k₀) ?_
      show F T265 (mkF m 272 #[.val (.int p1), .val (.int p2), .val (.int p3), .val (.int p4), .val (.int p5), .val (.int (2 : Int32)), .val (.ref b11), .val (.int p2), .val (.ref b81), .val (.int (1 : Int32)), .val (.int (0 : Int32))] [])
      refine hst (fun t₀ k₀ => XS.iconst X265.here hx rfl (hb hby at_272) k₀) ?_
      show F T265 (mkF m 273 #[.val (.int p1), .val (.int p2), .val (.int p3), .val (.int p4), .val (.int p5), .val (.int (2 : Int32)), .val (.ref b11), .val (.int p2), .val (.ref b81), .val (.int (1 : Int32)), .val (.int (0 : Int32))] [(.int (1 : Int32))])
      refine hst (fun t₀ k₀ => XS.goto X265.here hx rfl (pc0 := 273) (pc' := 277) rfl (hb hby at_273) (by decide) (by decide) k₀) ?_
      show F T265 (mkF m 277 #[.val (.int p1), .val (.int p2), .val (.int p3), .val (.int p4), .val (.int p5), .val (.int (2 : Int32)), .val (.ref b11), .val (.int p2), .val (.ref b81), .val (.int (1 : Int32)), .val (.int (0 : Int32))] [(.int (1 : Int32))])
      refine hst (fun t₀ k₀ => XS.istore X265.here hx rfl (hb hby at_277) rfl (l' := #[.val (.int p1), .val (.int p2), .val (.int p3), .val (.int p4), .val (.int p5), .val (.int (2 : Int32)), .val (.ref b11), .val (.int p2), .val (.ref b81), .val (.int (1 : Int32)), .val (.int (0 : Int32))]) rfl k₀) ?_
      show F T265 (mkF m 279 #[.val (.int p1), .val (.int p2), .val (.int p3), .val (.int p4), .val (.int p5), .val (.int (2 : Int32)), .val (.ref b11), .val (.int p2), .val (.ref b81), .val (.int (1 : Int32)), .val (.int (0 : Int32))] [])
      refine hst (fun t₀ k₀ => XS.iload X265.here hx rfl (hb hby at_279) rfl k₀) ?_
      show F T265 (mkF m 281 #[.val (.int p1), .val (.int p2), .val (.int p3), .val (.int p4), .val (.int p5), .val (.int (2 : Int32)), .val (.ref b11), .val (.int p2), .val (.ref b81), .val (.int (1 : Int32)), .val (.int (0 : Int32))] [(.int (1 : Int32))])
      refine hst (fun t₀ k₀ => XS.ifNo X265.here hx rfl (hb hby at_281) rfl ((if0 _ _).trans (feq (by decide)).1) k₀) ?_
      show F T265 (mkF m 284 #[.val (.int p1), .val (.int p2), .val (.int p3), .val (.int p4), .val (.int p5), .val (.int (2 : Int32)), .val (.ref b11), .val (.int p2), .val (.ref b81), .val (.int (1 : Int32)), .val (.int (0 : Int32))] [])
      refine hst (fun t₀ k₀ => XS.aload X265.here hx rfl (hb hby at_284) rfl rfl k₀) ?_
      show F T265 (mkF m 286 #[.val (.int p1), .val (.int p2), .val (.int p3), .val (.int p4), .val (.int p5), .val (.int (2 : Int32)), .val (.ref b11), .val (.int p2), .val (.ref b81), .val (.int (1 : Int32)), .val (.int (0 : Int32))] [(.ref b11)])
      refine hst (fun t₀ k₀ => XS.iloadN X265.here hx rfl (hb hby at_286) rfl k₀) ?_
      show F T265 (mkF m 287 #[.val (.int p1), .val (.int p2), .val (.int p3), .val (.int p4), .val (.int p5), .val (.int (2 : Int32)), .val (.ref b11), .val (.int p2), .val (.ref b81), .val (.int (1 : Int32)), .val (.int (0 : Int32))] [(.int p4), (.ref b11)])
      obtain ⟨v287, T287, Lc287, X287, hQ287, st287⟩ := own_callV X265 hx hZ hown (y := (⟨"com/example/hoist/hoist/CreationPath", "lastIndexOf", "(I)I"⟩ : MethodName)) (hw _ (List.mem_of_getElem? (i := 46) rfl)) (hw _ (List.mem_of_getElem? (i := 47) rfl)) (hw _ (List.mem_of_getElem? (i := 49) rfl)) (hw _ (List.mem_of_getElem? (i := 48) rfl)) (hw _ (List.mem_of_getElem? (i := 3) rfl)) (hw _ (List.mem_of_getElem? (i := 50) rfl)) (by decide) he265 q1_15_p255 (rm10 l Z a0 hw [] b11 p4 t_15 cf2_255 ([p1, p4] : List Int32) T255.heap n0 Z0_p255 q2_15_p255 q1_255 is2_255 (Nat.le_of_ble_eq_true rfl)) (by decide) (by decide) (g := (mkF m 287 #[.val (.int p1), .val (.int p2), .val (.int p3), .val (.int p4), .val (.int p5), .val (.int (2 : Int32)), .val (.ref b11), .val (.int p2), .val (.ref b81), .val (.int (1 : Int32)), .val (.int (0 : Int32))] [(.int p4), (.ref b11)])) rfl (by rw [hml]; rfl) (argsL := [(.int p4)]) (rest := []) (lenOf pd_2 rfl) rfl rfl (W := 0) (by show 2 * 0 + _ ≤ _; exact Nat.le_of_eq rfl) (hb hby at_287) (by decide) (by decide)
      obtain ⟨rfl, Nq287, he287⟩ := hQ287
      have N287 := Fr.app N265 Nq287
      refine hst st287 ?_
      show F T287 (mkF m 290 #[.val (.int p1), .val (.int p2), .val (.int p3), .val (.int p4), .val (.int p5), .val (.int (2 : Int32)), .val (.ref b11), .val (.int p2), .val (.ref b81), .val (.int (1 : Int32)), .val (.int (0 : Int32))] [(.int (own_lif ([p1, p4] : List Int32) p4 ([p1, p4] : List Int32).length))])
      refine hst (fun t₀ k₀ => XS.iload X287.here hx rfl (hb hby at_290) rfl k₀) ?_
      show F T287 (mkF m 292 #[.val (.int p1), .val (.int p2), .val (.int p3), .val (.int p4), .val (.int p5), .val (.int (2 : Int32)), .val (.ref b11), .val (.int p2), .val (.ref b81), .val (.int (1 : Int32)), .val (.int (0 : Int32))] [(.int (2 : Int32)), (.int (own_lif ([p1, p4] : List Int32) p4 ([p1, p4] : List Int32).length))])
      refine hst (fun t₀ k₀ => XS.iconst X287.here hx rfl (hb hby at_292) k₀) ?_
      show F T287 (mkF m 293 #[.val (.int p1), .val (.int p2), .val (.int p3), .val (.int p4), .val (.int p5), .val (.int (2 : Int32)), .val (.ref b11), .val (.int p2), .val (.ref b81), .val (.int (1 : Int32)), .val (.int (0 : Int32))] [(.int (1 : Int32)), (.int (2 : Int32)), (.int (own_lif ([p1, p4] : List Int32) p4 ([p1, p4] : List Int32).length))])
      refine hst (fun t₀ k₀ => XS.isub X287.here hx rfl (hb hby at_293) rfl k₀) ?_
      show F T287 (mkF m 294 #[.val (.int p1), .val (.int p2), .val (.int p3), .val (.int p4), .val (.int p5), .val (.int (2 : Int32)), .val (.ref b11), .val (.int p2), .val (.ref b81), .val (.int (1 : Int32)), .val (.int (0 : Int32))] [(.int ((2 : Int32) - (1 : Int32))), (.int (own_lif ([p1, p4] : List Int32) p4 ([p1, p4] : List Int32).length))])
      show F T287 (mkF m 294 #[.val (.int p1), .val (.int p2), .val (.int p3), .val (.int p4), .val (.int p5), .val (.int (2 : Int32)), .val (.ref b11), .val (.int p2), .val (.ref b81), .val (.int (1 : Int32)), .val (.int (0 : Int32))] [(.int (1 : Int32)), (.int (own_lif ([p1, p4] : List Int32) p4 ([p1, p4] : List Int32).length))])
      refine hst (fun t₀ k₀ => XS.icmpNo X287.here hx rfl (hb hby at_294) rfl (teq (by simp [own_lif])).2 k₀) ?_
      show F T287 (mkF m 297 #[.val (.int p1), .val (.int p2), .val (.int p3), .val (.int p4), .val (.int p5), .val (.int (2 : Int32)), .val (.ref b11), .val (.int p2), .val (.ref b81), .val (.int (1 : Int32)), .val (.int (0 : Int32))] [])
      refine hst (fun t₀ k₀ => XS.iconst X287.here hx rfl (hb hby at_297) k₀) ?_
      show F T287 (mkF m 298 #[.val (.int p1), .val (.int p2), .val (.int p3), .val (.int p4), .val (.int p5), .val (.int (2 : Int32)), .val (.ref b11), .val (.int p2), .val (.ref b81), .val (.int (1 : Int32)), .val (.int (0 : Int32))] [(.int (1 : Int32))])
      refine hst (fun t₀ k₀ => XS.goto X287.here hx rfl (pc0 := 298) (pc' := 302) rfl (hb hby at_298) (by decide) (by decide) k₀) ?_
      show F T287 (mkF m 302 #[.val (.int p1), .val (.int p2), .val (.int p3), .val (.int p4), .val (.int p5), .val (.int (2 : Int32)), .val (.ref b11), .val (.int p2), .val (.ref b81), .val (.int (1 : Int32)), .val (.int (0 : Int32))] [(.int (1 : Int32))])
      refine hst (fun t₀ k₀ => XS.istore X287.here hx rfl (hb hby at_302) rfl (l' := #[.val (.int p1), .val (.int p2), .val (.int p3), .val (.int p4), .val (.int p5), .val (.int (2 : Int32)), .val (.ref b11), .val (.int p2), .val (.ref b81), .val (.int (1 : Int32)), .val (.int (0 : Int32))]) rfl k₀) ?_
      show F T287 (mkF m 304 #[.val (.int p1), .val (.int p2), .val (.int p3), .val (.int p4), .val (.int p5), .val (.int (2 : Int32)), .val (.ref b11), .val (.int p2), .val (.ref b81), .val (.int (1 : Int32)), .val (.int (0 : Int32))] [])
      refine hst (fun t₀ k₀ => XS.iload X287.here hx rfl (hb hby at_304) rfl k₀) ?_
      show F T287 (mkF m 306 #[.val (.int p1), .val (.int p2), .val (.int p3), .val (.int p4), .val (.int p5), .val (.int (2 : Int32)), .val (.ref b11), .val (.int p2), .val (.ref b81), .val (.int (1 : Int32)), .val (.int (0 : Int32))] [(.int (1 : Int32))])
      rw [hF]
      refine own_retN X287 hx hret (by simp) hlk (hb hby at_306) (by decide) (by decide) ?_
      rw [he287]
      exact ⟨rfl, N287⟩
    · -- pc 222: taken
      refine hst (fun t₀ k₀ => XS.icmpYes X168.here hx rfl (pc0 := 222) (pc' := 228) rfl (hb hby at_222) rfl (feq hc222).2 (by decide) (by decide) k₀) ?_
      show F T168 (mkF m 228 #[.val (.int p1), .val (.int p2), .val (.int p3), .val (.int p4), .val (.int p5), .val (.int (2 : Int32)), .val (.ref b11), .val (.int p2), .val (.ref b81), .val (.int (1 : Int32)), .val (.int (-1 : Int32))] [])
      refine hst (fun t₀ k₀ => XS.iload X168.here hx rfl (hb hby at_228) rfl k₀) ?_
      show F T168 (mkF m 230 #[.val (.int p1), .val (.int p2), .val (.int p3), .val (.int p4), .val (.int p5), .val (.int (2 : Int32)), .val (.ref b11), .val (.int p2), .val (.ref b81), .val (.int (1 : Int32)), .val (.int (-1 : Int32))] [(.int (1 : Int32))])
      refine hst (fun t₀ k₀ => XS.ifNo X168.here hx rfl (hb hby at_230) rfl ((if0 _ _).trans (feq (by decide)).1) k₀) ?_
      show F T168 (mkF m 233 #[.val (.int p1), .val (.int p2), .val (.int p3), .val (.int p4), .val (.int p5), .val (.int (2 : Int32)), .val (.ref b11), .val (.int p2), .val (.ref b81), .val (.int (1 : Int32)), .val (.int (-1 : Int32))] [])
      refine hst (fun t₀ k₀ => XS.aload X168.here hx rfl (hb hby at_233) rfl rfl k₀) ?_
      show F T168 (mkF m 235 #[.val (.int p1), .val (.int p2), .val (.int p3), .val (.int p4), .val (.int p5), .val (.int (2 : Int32)), .val (.ref b11), .val (.int p2), .val (.ref b81), .val (.int (1 : Int32)), .val (.int (-1 : Int32))] [(.ref b11)])
      refine hst (fun t₀ k₀ => XS.iload X168.here hx rfl (hb hby at_235) rfl k₀) ?_
      show F T168 (mkF m 237 #[.val (.int p1), .val (.int p2), .val (.int p3), .val (.int p4), .val (.int p5), .val (.int (2 : Int32)), .val (.ref b11), .val (.int p2), .val (.ref b81), .val (.int (1 : Int32)), .val (.int (-1 : Int32))] [(.int p2), (.ref b11)])
      obtain ⟨v237, T237, Lc237, X237, hQ237, st237⟩ := own_callV X168 hx hZ hown (y := (⟨"com/example/hoist/hoist/CreationPath", "lastIndexOf", "(I)I"⟩ : MethodName)) (hw _ (List.mem_of_getElem? (i := 46) rfl)) (hw _ (List.mem_of_getElem? (i := 47) rfl)) (hw _ (List.mem_of_getElem? (i := 49) rfl)) (hw _ (List.mem_of_getElem? (i := 48) rfl)) (hw _ (List.mem_of_getElem? (i := 3) rfl)) (hw _ (List.mem_of_getElem? (i := 50) rfl)) (by decide) he168 q1_15_p81 (rm10 l Z a0 hw [] b11 p2 t_15 cf2_75 ([p1] : List Int32) T81.heap n0 Z0_p81 q2_15_p81 q1_75_p81 is2_75 (Nat.le_of_ble_eq_true rfl)) (by decide) (by decide) (g := (mkF m 237 #[.val (.int p1), .val (.int p2), .val (.int p3), .val (.int p4), .val (.int p5), .val (.int (2 : Int32)), .val (.ref b11), .val (.int p2), .val (.ref b81), .val (.int (1 : Int32)), .val (.int (-1 : Int32))] [(.int p2), (.ref b11)])) rfl (by rw [hml]; rfl) (argsL := [(.int p2)]) (rest := []) (lenOf pd_2 rfl) rfl rfl (W := 0) (by show 2 * 0 + _ ≤ _; exact Nat.le_of_eq rfl) (hb hby at_237) (by decide) (by decide)
      obtain ⟨rfl, Nq237, he237⟩ := hQ237
      have N237 := Fr.app N168 Nq237
      refine hst st237 ?_
      show F T237 (mkF m 240 #[.val (.int p1), .val (.int p2), .val (.int p3), .val (.int p4), .val (.int p5), .val (.int (2 : Int32)), .val (.ref b11), .val (.int p2), .val (.ref b81), .val (.int (1 : Int32)), .val (.int (-1 : Int32))] [(.int (own_lif ([p1] : List Int32) p2 ([p1] : List Int32).length))])
      refine hst (fun t₀ k₀ => XS.iload X237.here hx rfl (hb hby at_240) rfl k₀) ?_
      show F T237 (mkF m 242 #[.val (.int p1), .val (.int p2), .val (.int p3), .val (.int p4), .val (.int p5), .val (.int (2 : Int32)), .val (.ref b11), .val (.int p2), .val (.ref b81), .val (.int (1 : Int32)), .val (.int (-1 : Int32))] [(.int (-1 : Int32)), (.int (own_lif ([p1] : List Int32) p2 ([p1] : List Int32).length))])
      refine hst (fun t₀ k₀ => XS.icmpNo X237.here hx rfl (hb hby at_242) rfl (teq (by simp [own_lif, hc222])).2 k₀) ?_
      show F T237 (mkF m 245 #[.val (.int p1), .val (.int p2), .val (.int p3), .val (.int p4), .val (.int p5), .val (.int (2 : Int32)), .val (.ref b11), .val (.int p2), .val (.ref b81), .val (.int (1 : Int32)), .val (.int (-1 : Int32))] [])
      refine hst (fun t₀ k₀ => XS.iconst X237.here hx rfl (hb hby at_245) k₀) ?_
      show F T237 (mkF m 246 #[.val (.int p1), .val (.int p2), .val (.int p3), .val (.int p4), .val (.int p5), .val (.int (2 : Int32)), .val (.ref b11), .val (.int p2), .val (.ref b81), .val (.int (1 : Int32)), .val (.int (-1 : Int32))] [(.int (1 : Int32))])
      refine hst (fun t₀ k₀ => XS.goto X237.here hx rfl (pc0 := 246) (pc' := 250) rfl (hb hby at_246) (by decide) (by decide) k₀) ?_
      show F T237 (mkF m 250 #[.val (.int p1), .val (.int p2), .val (.int p3), .val (.int p4), .val (.int p5), .val (.int (2 : Int32)), .val (.ref b11), .val (.int p2), .val (.ref b81), .val (.int (1 : Int32)), .val (.int (-1 : Int32))] [(.int (1 : Int32))])
      refine hst (fun t₀ k₀ => XS.istore X237.here hx rfl (hb hby at_250) rfl (l' := #[.val (.int p1), .val (.int p2), .val (.int p3), .val (.int p4), .val (.int p5), .val (.int (2 : Int32)), .val (.ref b11), .val (.int p2), .val (.ref b81), .val (.int (1 : Int32)), .val (.int (-1 : Int32))]) rfl k₀) ?_
      show F T237 (mkF m 252 #[.val (.int p1), .val (.int p2), .val (.int p3), .val (.int p4), .val (.int p5), .val (.int (2 : Int32)), .val (.ref b11), .val (.int p2), .val (.ref b81), .val (.int (1 : Int32)), .val (.int (-1 : Int32))] [])
      refine hst (fun t₀ k₀ => XS.aload X237.here hx rfl (hb hby at_252) rfl rfl k₀) ?_
      show F T237 (mkF m 254 #[.val (.int p1), .val (.int p2), .val (.int p3), .val (.int p4), .val (.int p5), .val (.int (2 : Int32)), .val (.ref b11), .val (.int p2), .val (.ref b81), .val (.int (1 : Int32)), .val (.int (-1 : Int32))] [(.ref b11)])
      refine hst (fun t₀ k₀ => XS.iloadN X237.here hx rfl (hb hby at_254) rfl k₀) ?_
      show F T237 (mkF m 255 #[.val (.int p1), .val (.int p2), .val (.int p3), .val (.int p4), .val (.int p5), .val (.int (2 : Int32)), .val (.ref b11), .val (.int p2), .val (.ref b81), .val (.int (1 : Int32)), .val (.int (-1 : Int32))] [(.int p4), (.ref b11)])
      obtain ⟨v255, T255, Lc255, X255, hQ255, st255⟩ := own_callV X237 hx hZ hown (y := (⟨"com/example/hoist/hoist/CreationPath", "enter", "(I)V"⟩ : MethodName)) (hw _ (List.mem_of_getElem? (i := 13) rfl)) (hw _ (List.mem_of_getElem? (i := 14) rfl)) (hw _ (List.mem_of_getElem? (i := 16) rfl)) (hw _ (List.mem_of_getElem? (i := 15) rfl)) (hw _ (List.mem_of_getElem? (i := 3) rfl)) (hw _ (List.mem_of_getElem? (i := 17) rfl)) (by decide) he237 q1_15_p81 (rm3 l Z a0 hw [] b11 p4 t_15 cf2_75 ([p1] : List Int32) T81.heap n0 Z0_p81 q2_15_p81 q1_75_p81 ge_t_15 is2_75 (Nat.le_of_ble_eq_true rfl) ne_b11_t_15) (by decide) (by decide) (g := (mkF m 255 #[.val (.int p1), .val (.int p2), .val (.int p3), .val (.int p4), .val (.int p5), .val (.int (2 : Int32)), .val (.ref b11), .val (.int p2), .val (.ref b81), .val (.int (1 : Int32)), .val (.int (-1 : Int32))] [(.int p4), (.ref b11)])) rfl (by rw [hml]; rfl) (argsL := [(.int p4)]) (rest := []) (lenOf pd_3 rfl) rfl rfl (W := 0) (by show 2 * 0 + _ ≤ _; exact Nat.le_of_eq rfl) (hb hby at_255) (by decide) (by decide)
      obtain ⟨cf2_255, rfl, Nq255, K255, q1_255, is2_255⟩ := hQ255
      have N255 := Fr.app N237 Nq255
      have q1_15_p255 : Exa Z T255.heap b11 "com/example/hoist/hoist/CreationPath" := q1_15_p81.keep K255
      have q2_15_p255 : Fld Z T255.heap b11 "com/example/hoist/hoist/CreationPath" "slots" "[I" (.ref t_15) := q2_15_p81.keep K255 (by simp only [List.mem_cons, List.not_mem_nil, or_false, not_or]; exact ne_b11_t_15)
      have Z0_p255 : n0 ≤ T255.heap.size := Nat.le_trans Z0_p81 K255.1
      refine hst st255 ?_
      show F T255 (mkF m 258 #[.val (.int p1), .val (.int p2), .val (.int p3), .val (.int p4), .val (.int p5), .val (.int (2 : Int32)), .val (.ref b11), .val (.int p2), .val (.ref b81), .val (.int (1 : Int32)), .val (.int (-1 : Int32))] [])
      refine hst (fun t₀ k₀ => XS.iload X255.here hx rfl (hb hby at_258) rfl k₀) ?_
      show F T255 (mkF m 260 #[.val (.int p1), .val (.int p2), .val (.int p3), .val (.int p4), .val (.int p5), .val (.int (2 : Int32)), .val (.ref b11), .val (.int p2), .val (.ref b81), .val (.int (1 : Int32)), .val (.int (-1 : Int32))] [(.int (1 : Int32))])
      refine hst (fun t₀ k₀ => XS.ifNo X255.here hx rfl (hb hby at_260) rfl ((if0 _ _).trans (feq (by decide)).1) k₀) ?_
      show F T255 (mkF m 263 #[.val (.int p1), .val (.int p2), .val (.int p3), .val (.int p4), .val (.int p5), .val (.int (2 : Int32)), .val (.ref b11), .val (.int p2), .val (.ref b81), .val (.int (1 : Int32)), .val (.int (-1 : Int32))] [])
      refine hst (fun t₀ k₀ => XS.aload X255.here hx rfl (hb hby at_263) rfl rfl k₀) ?_
      show F T255 (mkF m 265 #[.val (.int p1), .val (.int p2), .val (.int p3), .val (.int p4), .val (.int p5), .val (.int (2 : Int32)), .val (.ref b11), .val (.int p2), .val (.ref b81), .val (.int (1 : Int32)), .val (.int (-1 : Int32))] [(.ref b11)])
      obtain ⟨v265, T265, Lc265, X265, hQ265, st265⟩ := own_callV X255 hx hZ hown (y := (⟨"com/example/hoist/hoist/CreationPath", "last", "()I"⟩ : MethodName)) (hw _ (List.mem_of_getElem? (i := 51) rfl)) (hw _ (List.mem_of_getElem? (i := 52) rfl)) (hw _ (List.mem_of_getElem? (i := 54) rfl)) (hw _ (List.mem_of_getElem? (i := 53) rfl)) (hw _ (List.mem_of_getElem? (i := 3) rfl)) (hw _ (List.mem_of_getElem? (i := 55) rfl)) (by decide) rfl q1_15_p255 (rm11 l Z a0 hw [] b11 t_15 cf2_255 ([p1, p4] : List Int32) T255.heap n0 Z0_p255 q2_15_p255 q1_255 is2_255 (Nat.le_of_ble_eq_true rfl) (Nat.le_of_ble_eq_true rfl)) (by decide) (by decide) (g := (mkF m 265 #[.val (.int p1), .val (.int p2), .val (.int p3), .val (.int p4), .val (.int p5), .val (.int (2 : Int32)), .val (.ref b11), .val (.int p2), .val (.ref b81), .val (.int (1 : Int32)), .val (.int (-1 : Int32))] [(.ref b11)])) rfl (by rw [hml]; rfl) (argsL := []) (rest := []) (lenOf pd_0 rfl) rfl rfl (W := 0) (by show 2 * 0 + _ ≤ _; exact Nat.le_of_eq rfl) (hb hby at_265) (by decide) (by decide)
      obtain ⟨rfl, Nq265, he265⟩ := hQ265
      have N265 := Fr.app N255 Nq265
      refine hst st265 ?_
      show F T265 (mkF m 268 #[.val (.int p1), .val (.int p2), .val (.int p3), .val (.int p4), .val (.int p5), .val (.int (2 : Int32)), .val (.ref b11), .val (.int p2), .val (.ref b81), .val (.int (1 : Int32)), .val (.int (-1 : Int32))] [(.int (([p1, p4] : List Int32).getD (([p1, p4] : List Int32).length - 1) 0))])
      refine hst (fun t₀ k₀ => XS.iloadN X265.here hx rfl (hb hby at_268) rfl k₀) ?_
      show F T265 (mkF m 269 #[.val (.int p1), .val (.int p2), .val (.int p3), .val (.int p4), .val (.int p5), .val (.int (2 : Int32)), .val (.ref b11), .val (.int p2), .val (.ref b81), .val (.int (1 : Int32)), .val (.int (-1 : Int32))] [(.int p4), (.int (([p1, p4] : List Int32).getD (([p1, p4] : List Int32).length - 1) 0))])
      refine hst (fun t₀ k₀ => XS.icmpNo X265.here hx rfl (hb hby at_269) rfl (teq rfl).2 k₀) ?_
      show F T265 (mkF m 272 #[.val (.int p1), .val (.int p2), .val (.int p3), .val (.int p4), .val (.int p5), .val (.int (2 : Int32)), .val (.ref b11), .val (.int p2), .val (.ref b81), .val (.int (1 : Int32)), .val (.int (-1 : Int32))] [])
      refine hst (fun t₀ k₀ => XS.iconst X265.here hx rfl (hb hby at_272) k₀) ?_
      show F T265 (mkF m 273 #[.val (.int p1), .val (.int p2), .val (.int p3), .val (.int p4), .val (.int p5), .val (.int (2 : Int32)), .val (.ref b11), .val (.int p2), .val (.ref b81), .val (.int (1 : Int32)), .val (.int (-1 : Int32))] [(.int (1 : Int32))])
      refine hst (fun t₀ k₀ => XS.goto X265.here hx rfl (pc0 := 273) (pc' := 277) rfl (hb hby at_273) (by decide) (by decide) k₀) ?_
      show F T265 (mkF m 277 #[.val (.int p1), .val (.int p2), .val (.int p3), .val (.int p4), .val (.int p5), .val (.int (2 : Int32)), .val (.ref b11), .val (.int p2), .val (.ref b81), .val (.int (1 : Int32)), .val (.int (-1 : Int32))] [(.int (1 : Int32))])
      refine hst (fun t₀ k₀ => XS.istore X265.here hx rfl (hb hby at_277) rfl (l' := #[.val (.int p1), .val (.int p2), .val (.int p3), .val (.int p4), .val (.int p5), .val (.int (2 : Int32)), .val (.ref b11), .val (.int p2), .val (.ref b81), .val (.int (1 : Int32)), .val (.int (-1 : Int32))]) rfl k₀) ?_
      show F T265 (mkF m 279 #[.val (.int p1), .val (.int p2), .val (.int p3), .val (.int p4), .val (.int p5), .val (.int (2 : Int32)), .val (.ref b11), .val (.int p2), .val (.ref b81), .val (.int (1 : Int32)), .val (.int (-1 : Int32))] [])
      refine hst (fun t₀ k₀ => XS.iload X265.here hx rfl (hb hby at_279) rfl k₀) ?_
      show F T265 (mkF m 281 #[.val (.int p1), .val (.int p2), .val (.int p3), .val (.int p4), .val (.int p5), .val (.int (2 : Int32)), .val (.ref b11), .val (.int p2), .val (.ref b81), .val (.int (1 : Int32)), .val (.int (-1 : Int32))] [(.int (1 : Int32))])
      refine hst (fun t₀ k₀ => XS.ifNo X265.here hx rfl (hb hby at_281) rfl ((if0 _ _).trans (feq (by decide)).1) k₀) ?_
      show F T265 (mkF m 284 #[.val (.int p1), .val (.int p2), .val (.int p3), .val (.int p4), .val (.int p5), .val (.int (2 : Int32)), .val (.ref b11), .val (.int p2), .val (.ref b81), .val (.int (1 : Int32)), .val (.int (-1 : Int32))] [])
      refine hst (fun t₀ k₀ => XS.aload X265.here hx rfl (hb hby at_284) rfl rfl k₀) ?_
      show F T265 (mkF m 286 #[.val (.int p1), .val (.int p2), .val (.int p3), .val (.int p4), .val (.int p5), .val (.int (2 : Int32)), .val (.ref b11), .val (.int p2), .val (.ref b81), .val (.int (1 : Int32)), .val (.int (-1 : Int32))] [(.ref b11)])
      refine hst (fun t₀ k₀ => XS.iloadN X265.here hx rfl (hb hby at_286) rfl k₀) ?_
      show F T265 (mkF m 287 #[.val (.int p1), .val (.int p2), .val (.int p3), .val (.int p4), .val (.int p5), .val (.int (2 : Int32)), .val (.ref b11), .val (.int p2), .val (.ref b81), .val (.int (1 : Int32)), .val (.int (-1 : Int32))] [(.int p4), (.ref b11)])
      obtain ⟨v287, T287, Lc287, X287, hQ287, st287⟩ := own_callV X265 hx hZ hown (y := (⟨"com/example/hoist/hoist/CreationPath", "lastIndexOf", "(I)I"⟩ : MethodName)) (hw _ (List.mem_of_getElem? (i := 46) rfl)) (hw _ (List.mem_of_getElem? (i := 47) rfl)) (hw _ (List.mem_of_getElem? (i := 49) rfl)) (hw _ (List.mem_of_getElem? (i := 48) rfl)) (hw _ (List.mem_of_getElem? (i := 3) rfl)) (hw _ (List.mem_of_getElem? (i := 50) rfl)) (by decide) he265 q1_15_p255 (rm10 l Z a0 hw [] b11 p4 t_15 cf2_255 ([p1, p4] : List Int32) T255.heap n0 Z0_p255 q2_15_p255 q1_255 is2_255 (Nat.le_of_ble_eq_true rfl)) (by decide) (by decide) (g := (mkF m 287 #[.val (.int p1), .val (.int p2), .val (.int p3), .val (.int p4), .val (.int p5), .val (.int (2 : Int32)), .val (.ref b11), .val (.int p2), .val (.ref b81), .val (.int (1 : Int32)), .val (.int (-1 : Int32))] [(.int p4), (.ref b11)])) rfl (by rw [hml]; rfl) (argsL := [(.int p4)]) (rest := []) (lenOf pd_2 rfl) rfl rfl (W := 0) (by show 2 * 0 + _ ≤ _; exact Nat.le_of_eq rfl) (hb hby at_287) (by decide) (by decide)
      obtain ⟨rfl, Nq287, he287⟩ := hQ287
      have N287 := Fr.app N265 Nq287
      refine hst st287 ?_
      show F T287 (mkF m 290 #[.val (.int p1), .val (.int p2), .val (.int p3), .val (.int p4), .val (.int p5), .val (.int (2 : Int32)), .val (.ref b11), .val (.int p2), .val (.ref b81), .val (.int (1 : Int32)), .val (.int (-1 : Int32))] [(.int (own_lif ([p1, p4] : List Int32) p4 ([p1, p4] : List Int32).length))])
      refine hst (fun t₀ k₀ => XS.iload X287.here hx rfl (hb hby at_290) rfl k₀) ?_
      show F T287 (mkF m 292 #[.val (.int p1), .val (.int p2), .val (.int p3), .val (.int p4), .val (.int p5), .val (.int (2 : Int32)), .val (.ref b11), .val (.int p2), .val (.ref b81), .val (.int (1 : Int32)), .val (.int (-1 : Int32))] [(.int (2 : Int32)), (.int (own_lif ([p1, p4] : List Int32) p4 ([p1, p4] : List Int32).length))])
      refine hst (fun t₀ k₀ => XS.iconst X287.here hx rfl (hb hby at_292) k₀) ?_
      show F T287 (mkF m 293 #[.val (.int p1), .val (.int p2), .val (.int p3), .val (.int p4), .val (.int p5), .val (.int (2 : Int32)), .val (.ref b11), .val (.int p2), .val (.ref b81), .val (.int (1 : Int32)), .val (.int (-1 : Int32))] [(.int (1 : Int32)), (.int (2 : Int32)), (.int (own_lif ([p1, p4] : List Int32) p4 ([p1, p4] : List Int32).length))])
      refine hst (fun t₀ k₀ => XS.isub X287.here hx rfl (hb hby at_293) rfl k₀) ?_
      show F T287 (mkF m 294 #[.val (.int p1), .val (.int p2), .val (.int p3), .val (.int p4), .val (.int p5), .val (.int (2 : Int32)), .val (.ref b11), .val (.int p2), .val (.ref b81), .val (.int (1 : Int32)), .val (.int (-1 : Int32))] [(.int ((2 : Int32) - (1 : Int32))), (.int (own_lif ([p1, p4] : List Int32) p4 ([p1, p4] : List Int32).length))])
      show F T287 (mkF m 294 #[.val (.int p1), .val (.int p2), .val (.int p3), .val (.int p4), .val (.int p5), .val (.int (2 : Int32)), .val (.ref b11), .val (.int p2), .val (.ref b81), .val (.int (1 : Int32)), .val (.int (-1 : Int32))] [(.int (1 : Int32)), (.int (own_lif ([p1, p4] : List Int32) p4 ([p1, p4] : List Int32).length))])
      refine hst (fun t₀ k₀ => XS.icmpNo X287.here hx rfl (hb hby at_294) rfl (teq (by simp [own_lif])).2 k₀) ?_
      show F T287 (mkF m 297 #[.val (.int p1), .val (.int p2), .val (.int p3), .val (.int p4), .val (.int p5), .val (.int (2 : Int32)), .val (.ref b11), .val (.int p2), .val (.ref b81), .val (.int (1 : Int32)), .val (.int (-1 : Int32))] [])
      refine hst (fun t₀ k₀ => XS.iconst X287.here hx rfl (hb hby at_297) k₀) ?_
      show F T287 (mkF m 298 #[.val (.int p1), .val (.int p2), .val (.int p3), .val (.int p4), .val (.int p5), .val (.int (2 : Int32)), .val (.ref b11), .val (.int p2), .val (.ref b81), .val (.int (1 : Int32)), .val (.int (-1 : Int32))] [(.int (1 : Int32))])
      refine hst (fun t₀ k₀ => XS.goto X287.here hx rfl (pc0 := 298) (pc' := 302) rfl (hb hby at_298) (by decide) (by decide) k₀) ?_
      show F T287 (mkF m 302 #[.val (.int p1), .val (.int p2), .val (.int p3), .val (.int p4), .val (.int p5), .val (.int (2 : Int32)), .val (.ref b11), .val (.int p2), .val (.ref b81), .val (.int (1 : Int32)), .val (.int (-1 : Int32))] [(.int (1 : Int32))])
      refine hst (fun t₀ k₀ => XS.istore X287.here hx rfl (hb hby at_302) rfl (l' := #[.val (.int p1), .val (.int p2), .val (.int p3), .val (.int p4), .val (.int p5), .val (.int (2 : Int32)), .val (.ref b11), .val (.int p2), .val (.ref b81), .val (.int (1 : Int32)), .val (.int (-1 : Int32))]) rfl k₀) ?_
      show F T287 (mkF m 304 #[.val (.int p1), .val (.int p2), .val (.int p3), .val (.int p4), .val (.int p5), .val (.int (2 : Int32)), .val (.ref b11), .val (.int p2), .val (.ref b81), .val (.int (1 : Int32)), .val (.int (-1 : Int32))] [])
      refine hst (fun t₀ k₀ => XS.iload X287.here hx rfl (hb hby at_304) rfl k₀) ?_
      show F T287 (mkF m 306 #[.val (.int p1), .val (.int p2), .val (.int p3), .val (.int p4), .val (.int p5), .val (.int (2 : Int32)), .val (.ref b11), .val (.int p2), .val (.ref b81), .val (.int (1 : Int32)), .val (.int (-1 : Int32))] [(.int (1 : Int32))])
      rw [hF]
      refine own_retN X287 hx hret (by simp) hlk (hb hby at_306) (by decide) (by decide) ?_
      rw [he287]
      exact ⟨rfl, N287⟩
  · -- (3 : Int32)
    show F T23 (mkF m 26 #[.val (.int p1), .val (.int p2), .val (.int p3), .val (.int p4), .val (.int p5), .val (.int (3 : Int32)), .val (.ref b11), .unset, .unset, .unset, .unset] [])
    refine hst (fun t₀ k₀ => XS.iload X23.here hx rfl (hb hby at_26) rfl k₀) ?_
    show F T23 (mkF m 28 #[.val (.int p1), .val (.int p2), .val (.int p3), .val (.int p4), .val (.int p5), .val (.int (3 : Int32)), .val (.ref b11), .unset, .unset, .unset, .unset] [(.int (3 : Int32))])
    refine hst (fun t₀ k₀ => XS.iconst X23.here hx rfl (hb hby at_28) k₀) ?_
    show F T23 (mkF m 29 #[.val (.int p1), .val (.int p2), .val (.int p3), .val (.int p4), .val (.int p5), .val (.int (3 : Int32)), .val (.ref b11), .unset, .unset, .unset, .unset] [(.int (2 : Int32)), (.int (3 : Int32))])
    refine hst (fun t₀ k₀ => XS.icmpNo X23.here hx rfl (hb hby at_29) rfl (flt (by decide)).1 k₀) ?_
    show F T23 (mkF m 32 #[.val (.int p1), .val (.int p2), .val (.int p3), .val (.int p4), .val (.int p5), .val (.int (3 : Int32)), .val (.ref b11), .unset, .unset, .unset, .unset] [])
    refine hst (fun t₀ k₀ => XS.aload X23.here hx rfl (hb hby at_32) rfl rfl k₀) ?_
    show F T23 (mkF m 34 #[.val (.int p1), .val (.int p2), .val (.int p3), .val (.int p4), .val (.int p5), .val (.int (3 : Int32)), .val (.ref b11), .unset, .unset, .unset, .unset] [(.ref b11)])
    refine hst (fun t₀ k₀ => XS.iloadN X23.here hx rfl (hb hby at_34) rfl k₀) ?_
    show F T23 (mkF m 35 #[.val (.int p1), .val (.int p2), .val (.int p3), .val (.int p4), .val (.int p5), .val (.int (3 : Int32)), .val (.ref b11), .unset, .unset, .unset, .unset] [(.int p2), (.ref b11)])
    obtain ⟨v35, T35, Lc35, X35, hQ35, st35⟩ := own_callV X23 hx hZ hown (y := (⟨"com/example/hoist/hoist/CreationPath", "enter", "(I)V"⟩ : MethodName)) (hw _ (List.mem_of_getElem? (i := 13) rfl)) (hw _ (List.mem_of_getElem? (i := 14) rfl)) (hw _ (List.mem_of_getElem? (i := 16) rfl)) (hw _ (List.mem_of_getElem? (i := 15) rfl)) (hw _ (List.mem_of_getElem? (i := 3) rfl)) (hw _ (List.mem_of_getElem? (i := 17) rfl)) (by decide) rfl q1_15_p23 (rm3 l Z a0 hw [] b11 p2 t_15 cf2_23 ([p1] : List Int32) T23.heap n0 Z0_p23 q2_15_p23 q1_23 ge_t_15 is2_23 (Nat.le_of_ble_eq_true rfl) ne_b11_t_15) (by decide) (by decide) (g := (mkF m 35 #[.val (.int p1), .val (.int p2), .val (.int p3), .val (.int p4), .val (.int p5), .val (.int (3 : Int32)), .val (.ref b11), .unset, .unset, .unset, .unset] [(.int p2), (.ref b11)])) rfl (by rw [hml]; rfl) (argsL := [(.int p2)]) (rest := []) (lenOf pd_3 rfl) rfl rfl (W := 0) (by show 2 * 0 + _ ≤ _; exact Nat.le_of_eq rfl) (hb hby at_35) (by decide) (by decide)
    obtain ⟨cf2_35, rfl, Nq35, K35, q1_35, is2_35⟩ := hQ35
    have N35 := Fr.app N23 Nq35
    have q1_15_p35 : Exa Z T35.heap b11 "com/example/hoist/hoist/CreationPath" := q1_15_p23.keep K35
    have q2_15_p35 : Fld Z T35.heap b11 "com/example/hoist/hoist/CreationPath" "slots" "[I" (.ref t_15) := q2_15_p23.keep K35 (by simp only [List.mem_cons, List.not_mem_nil, or_false, not_or]; exact ne_b11_t_15)
    have Z0_p35 : n0 ≤ T35.heap.size := Nat.le_trans Z0_p23 K35.1
    refine hst st35 ?_
    show F T35 (mkF m 38 #[.val (.int p1), .val (.int p2), .val (.int p3), .val (.int p4), .val (.int p5), .val (.int (3 : Int32)), .val (.ref b11), .unset, .unset, .unset, .unset] [])
    refine hst (fun t₀ k₀ => XS.iload X35.here hx rfl (hb hby at_38) rfl k₀) ?_
    show F T35 (mkF m 40 #[.val (.int p1), .val (.int p2), .val (.int p3), .val (.int p4), .val (.int p5), .val (.int (3 : Int32)), .val (.ref b11), .unset, .unset, .unset, .unset] [(.int (3 : Int32))])
    refine hst (fun t₀ k₀ => XS.iconst X35.here hx rfl (hb hby at_40) k₀) ?_
    show F T35 (mkF m 41 #[.val (.int p1), .val (.int p2), .val (.int p3), .val (.int p4), .val (.int p5), .val (.int (3 : Int32)), .val (.ref b11), .unset, .unset, .unset, .unset] [(.int (3 : Int32)), (.int (3 : Int32))])
    refine hst (fun t₀ k₀ => XS.icmpNo X35.here hx rfl (hb hby at_41) rfl (flt (by decide)).1 k₀) ?_
    show F T35 (mkF m 44 #[.val (.int p1), .val (.int p2), .val (.int p3), .val (.int p4), .val (.int p5), .val (.int (3 : Int32)), .val (.ref b11), .unset, .unset, .unset, .unset] [])
    refine hst (fun t₀ k₀ => XS.aload X35.here hx rfl (hb hby at_44) rfl rfl k₀) ?_
    show F T35 (mkF m 46 #[.val (.int p1), .val (.int p2), .val (.int p3), .val (.int p4), .val (.int p5), .val (.int (3 : Int32)), .val (.ref b11), .unset, .unset, .unset, .unset] [(.ref b11)])
    refine hst (fun t₀ k₀ => XS.iloadN X35.here hx rfl (hb hby at_46) rfl k₀) ?_
    show F T35 (mkF m 47 #[.val (.int p1), .val (.int p2), .val (.int p3), .val (.int p4), .val (.int p5), .val (.int (3 : Int32)), .val (.ref b11), .unset, .unset, .unset, .unset] [(.int p3), (.ref b11)])
    obtain ⟨v47, T47, Lc47, X47, hQ47, st47⟩ := own_callV X35 hx hZ hown (y := (⟨"com/example/hoist/hoist/CreationPath", "enter", "(I)V"⟩ : MethodName)) (hw _ (List.mem_of_getElem? (i := 13) rfl)) (hw _ (List.mem_of_getElem? (i := 14) rfl)) (hw _ (List.mem_of_getElem? (i := 16) rfl)) (hw _ (List.mem_of_getElem? (i := 15) rfl)) (hw _ (List.mem_of_getElem? (i := 3) rfl)) (hw _ (List.mem_of_getElem? (i := 17) rfl)) (by decide) rfl q1_15_p35 (rm3 l Z a0 hw [] b11 p3 t_15 cf2_35 ([p1, p2] : List Int32) T35.heap n0 Z0_p35 q2_15_p35 q1_35 ge_t_15 is2_35 (Nat.le_of_ble_eq_true rfl) ne_b11_t_15) (by decide) (by decide) (g := (mkF m 47 #[.val (.int p1), .val (.int p2), .val (.int p3), .val (.int p4), .val (.int p5), .val (.int (3 : Int32)), .val (.ref b11), .unset, .unset, .unset, .unset] [(.int p3), (.ref b11)])) rfl (by rw [hml]; rfl) (argsL := [(.int p3)]) (rest := []) (lenOf pd_3 rfl) rfl rfl (W := 0) (by show 2 * 0 + _ ≤ _; exact Nat.le_of_eq rfl) (hb hby at_47) (by decide) (by decide)
    obtain ⟨cf2_47, rfl, Nq47, K47, q1_47, is2_47⟩ := hQ47
    have N47 := Fr.app N35 Nq47
    have q1_15_p47 : Exa Z T47.heap b11 "com/example/hoist/hoist/CreationPath" := q1_15_p35.keep K47
    have q2_15_p47 : Fld Z T47.heap b11 "com/example/hoist/hoist/CreationPath" "slots" "[I" (.ref t_15) := q2_15_p35.keep K47 (by simp only [List.mem_cons, List.not_mem_nil, or_false, not_or]; exact ne_b11_t_15)
    have Z0_p47 : n0 ≤ T47.heap.size := Nat.le_trans Z0_p35 K47.1
    refine hst st47 ?_
    show F T47 (mkF m 50 #[.val (.int p1), .val (.int p2), .val (.int p3), .val (.int p4), .val (.int p5), .val (.int (3 : Int32)), .val (.ref b11), .unset, .unset, .unset, .unset] [])
    refine hst (fun t₀ k₀ => XS.iload X47.here hx rfl (hb hby at_50) rfl k₀) ?_
    show F T47 (mkF m 52 #[.val (.int p1), .val (.int p2), .val (.int p3), .val (.int p4), .val (.int p5), .val (.int (3 : Int32)), .val (.ref b11), .unset, .unset, .unset, .unset] [(.int (3 : Int32))])
    refine hst (fun t₀ k₀ => XS.iconst X47.here hx rfl (hb hby at_52) k₀) ?_
    show F T47 (mkF m 53 #[.val (.int p1), .val (.int p2), .val (.int p3), .val (.int p4), .val (.int p5), .val (.int (3 : Int32)), .val (.ref b11), .unset, .unset, .unset, .unset] [(.int (1 : Int32)), (.int (3 : Int32))])
    refine hst (fun t₀ k₀ => XS.icmpYes X47.here hx rfl (pc0 := 53) (pc' := 60) rfl (hb hby at_53) rfl (feq (by decide)).2 (by decide) (by decide) k₀) ?_
    show F T47 (mkF m 60 #[.val (.int p1), .val (.int p2), .val (.int p3), .val (.int p4), .val (.int p5), .val (.int (3 : Int32)), .val (.ref b11), .unset, .unset, .unset, .unset] [])
    refine hst (fun t₀ k₀ => XS.iload X47.here hx rfl (hb hby at_60) rfl k₀) ?_
    show F T47 (mkF m 62 #[.val (.int p1), .val (.int p2), .val (.int p3), .val (.int p4), .val (.int p5), .val (.int (3 : Int32)), .val (.ref b11), .unset, .unset, .unset, .unset] [(.int (3 : Int32))])
    refine hst (fun t₀ k₀ => XS.iconst X47.here hx rfl (hb hby at_62) k₀) ?_
    show F T47 (mkF m 63 #[.val (.int p1), .val (.int p2), .val (.int p3), .val (.int p4), .val (.int p5), .val (.int (3 : Int32)), .val (.ref b11), .unset, .unset, .unset, .unset] [(.int (2 : Int32)), (.int (3 : Int32))])
    refine hst (fun t₀ k₀ => XS.icmpYes X47.here hx rfl (pc0 := 63) (pc' := 70) rfl (hb hby at_63) rfl (feq (by decide)).2 (by decide) (by decide) k₀) ?_
    show F T47 (mkF m 70 #[.val (.int p1), .val (.int p2), .val (.int p3), .val (.int p4), .val (.int p5), .val (.int (3 : Int32)), .val (.ref b11), .unset, .unset, .unset, .unset] [])
    refine hst (fun t₀ k₀ => XS.iloadN X47.here hx rfl (hb hby at_70) rfl k₀) ?_
    show F T47 (mkF m 71 #[.val (.int p1), .val (.int p2), .val (.int p3), .val (.int p4), .val (.int p5), .val (.int (3 : Int32)), .val (.ref b11), .unset, .unset, .unset, .unset] [(.int p3)])
    refine hst (fun t₀ k₀ => XS.istore X47.here hx rfl (hb hby at_71) rfl (l' := #[.val (.int p1), .val (.int p2), .val (.int p3), .val (.int p4), .val (.int p5), .val (.int (3 : Int32)), .val (.ref b11), .val (.int p3), .unset, .unset, .unset]) rfl k₀) ?_
    show F T47 (mkF m 73 #[.val (.int p1), .val (.int p2), .val (.int p3), .val (.int p4), .val (.int p5), .val (.int (3 : Int32)), .val (.ref b11), .val (.int p3), .unset, .unset, .unset] [])
    refine hst (fun t₀ k₀ => XS.aload X47.here hx rfl (hb hby at_73) rfl rfl k₀) ?_
    show F T47 (mkF m 75 #[.val (.int p1), .val (.int p2), .val (.int p3), .val (.int p4), .val (.int p5), .val (.int (3 : Int32)), .val (.ref b11), .val (.int p3), .unset, .unset, .unset] [(.ref b11)])
    obtain ⟨v75, T75, Lc75, X75, hQ75, st75⟩ := own_callV X47 hx hZ hown (y := (⟨"com/example/hoist/hoist/CreationPath", "leave", "()V"⟩ : MethodName)) (hw _ (List.mem_of_getElem? (i := 18) rfl)) (hw _ (List.mem_of_getElem? (i := 19) rfl)) (hw _ (List.mem_of_getElem? (i := 21) rfl)) (hw _ (List.mem_of_getElem? (i := 20) rfl)) (hw _ (List.mem_of_getElem? (i := 3) rfl)) (hw _ (List.mem_of_getElem? (i := 22) rfl)) (by decide) rfl q1_15_p47 (rm4 l Z a0 hw [] b11 t_15 cf2_47 ([p1, p2, p3] : List Int32) T47.heap n0 Z0_p47 q2_15_p47 q1_47 ge_t_15 is2_47 (Nat.le_of_ble_eq_true rfl) (Nat.le_of_ble_eq_true rfl) ne_b11_t_15) (by decide) (by decide) (g := (mkF m 75 #[.val (.int p1), .val (.int p2), .val (.int p3), .val (.int p4), .val (.int p5), .val (.int (3 : Int32)), .val (.ref b11), .val (.int p3), .unset, .unset, .unset] [(.ref b11)])) rfl (by rw [hml]; rfl) (argsL := []) (rest := []) (lenOf pd_1 rfl) rfl rfl (W := 0) (by show 2 * 0 + _ ≤ _; exact Nat.le_of_eq rfl) (hb hby at_75) (by decide) (by decide)
    obtain ⟨cf2_75, rfl, Nq75, K75, q1_75, is2_75⟩ := hQ75
    have N75 := Fr.app N47 Nq75
    have q1_15_p75 : Exa Z T75.heap b11 "com/example/hoist/hoist/CreationPath" := q1_15_p47.keep K75
    have q2_15_p75 : Fld Z T75.heap b11 "com/example/hoist/hoist/CreationPath" "slots" "[I" (.ref t_15) := q2_15_p47.keep K75 (by simp only [List.mem_cons, List.not_mem_nil, or_false, not_or]; exact ne_b11_t_15)
    have Z0_p75 : n0 ≤ T75.heap.size := Nat.le_trans Z0_p47 K75.1
    refine hst st75 ?_
    show F T75 (mkF m 78 #[.val (.int p1), .val (.int p2), .val (.int p3), .val (.int p4), .val (.int p5), .val (.int (3 : Int32)), .val (.ref b11), .val (.int p3), .unset, .unset, .unset] [])
    refine hst (fun t₀ k₀ => XS.aload X75.here hx rfl (hb hby at_78) rfl rfl k₀) ?_
    show F T75 (mkF m 80 #[.val (.int p1), .val (.int p2), .val (.int p3), .val (.int p4), .val (.int p5), .val (.int (3 : Int32)), .val (.ref b11), .val (.int p3), .unset, .unset, .unset] [(.ref b11)])
    refine hst (fun t₀ k₀ => XS.iconst X75.here hx rfl (hb hby at_80) k₀) ?_
    show F T75 (mkF m 81 #[.val (.int p1), .val (.int p2), .val (.int p3), .val (.int p4), .val (.int p5), .val (.int (3 : Int32)), .val (.ref b11), .val (.int p3), .unset, .unset, .unset] [(.int (0 : Int32)), (.ref b11)])
    obtain ⟨v81, T81, Lc81, X81, hQ81, st81⟩ := own_callV X75 hx hZ hown (y := (⟨"com/example/hoist/hoist/CreationPath", "from", "(I)[I"⟩ : MethodName)) (hw _ (List.mem_of_getElem? (i := 23) rfl)) (hw _ (List.mem_of_getElem? (i := 24) rfl)) (hw _ (List.mem_of_getElem? (i := 26) rfl)) (hw _ (List.mem_of_getElem? (i := 25) rfl)) (hw _ (List.mem_of_getElem? (i := 3) rfl)) (hw _ (List.mem_of_getElem? (i := 27) rfl)) (by decide) rfl q1_15_p75 (rm5 l Z a0 hw [] b11 (0 : Int32) t_15 cf2_75 ([p1, p2] : List Int32) T75.heap n0 Z0_p75 q2_15_p75 q1_75 is2_75 (Nat.le_of_ble_eq_true rfl) rfl) (by decide) (by decide) (g := (mkF m 81 #[.val (.int p1), .val (.int p2), .val (.int p3), .val (.int p4), .val (.int p5), .val (.int (3 : Int32)), .val (.ref b11), .val (.int p3), .unset, .unset, .unset] [(.int (0 : Int32)), (.ref b11)])) rfl (by rw [hml]; rfl) (argsL := [(.int (0 : Int32))]) (rest := []) (lenOf pd_4 rfl) rfl rfl (W := 0) (by show 2 * 0 + _ ≤ _; exact Nat.le_of_eq rfl) (hb hby at_81) (by decide) (by decide)
    obtain ⟨b81, rfl, Nq81, K81, q1_81, ge_b81⟩ := hQ81
    have N81 := Fr.app N75 Nq81
    have q1_15_p81 : Exa Z T81.heap b11 "com/example/hoist/hoist/CreationPath" := q1_15_p75.keep K81
    have q2_15_p81 : Fld Z T81.heap b11 "com/example/hoist/hoist/CreationPath" "slots" "[I" (.ref t_15) := q2_15_p75.keep K81 (List.not_mem_nil)
    have q1_75_p81 : own_A Z T81.heap t_15 .int 73 (fun i => .int (cf2_75 i)) := q1_75.keep K81 (List.not_mem_nil)
    have Z0_p81 : n0 ≤ T81.heap.size := Nat.le_trans Z0_p75 K81.1
    refine hst st81 ?_
    show F T81 (mkF m 84 #[.val (.int p1), .val (.int p2), .val (.int p3), .val (.int p4), .val (.int p5), .val (.int (3 : Int32)), .val (.ref b11), .val (.int p3), .unset, .unset, .unset] [(.ref b81)])
    refine hst (fun t₀ k₀ => XS.astore X81.here hx rfl (hb hby at_84) rfl rfl (l' := #[.val (.int p1), .val (.int p2), .val (.int p3), .val (.int p4), .val (.int p5), .val (.int (3 : Int32)), .val (.ref b11), .val (.int p3), .val (.ref b81), .unset, .unset]) rfl k₀) ?_
    show F T81 (mkF m 86 #[.val (.int p1), .val (.int p2), .val (.int p3), .val (.int p4), .val (.int p5), .val (.int (3 : Int32)), .val (.ref b11), .val (.int p3), .val (.ref b81), .unset, .unset] [])
    refine hst (fun t₀ k₀ => XS.aload X81.here hx rfl (hb hby at_86) rfl rfl k₀) ?_
    show F T81 (mkF m 88 #[.val (.int p1), .val (.int p2), .val (.int p3), .val (.int p4), .val (.int p5), .val (.int (3 : Int32)), .val (.ref b11), .val (.int p3), .val (.ref b81), .unset, .unset] [(.ref b81)])
    refine hst (fun t₀ k₀ => own_alen X81 hx hZ rfl q1_81 (z := (2 : Int32)) rfl (g := (mkF m 88 #[.val (.int p1), .val (.int p2), .val (.int p3), .val (.int p4), .val (.int p5), .val (.int (3 : Int32)), .val (.ref b11), .val (.int p3), .val (.ref b81), .unset, .unset] [(.ref b81)])) rfl rfl (hb hby at_88) t₀ k₀) ?_
    show F T81 (mkF m 89 #[.val (.int p1), .val (.int p2), .val (.int p3), .val (.int p4), .val (.int p5), .val (.int (3 : Int32)), .val (.ref b11), .val (.int p3), .val (.ref b81), .unset, .unset] [(.int (2 : Int32))])
    refine hst (fun t₀ k₀ => XS.iload X81.here hx rfl (hb hby at_89) rfl k₀) ?_
    show F T81 (mkF m 91 #[.val (.int p1), .val (.int p2), .val (.int p3), .val (.int p4), .val (.int p5), .val (.int (3 : Int32)), .val (.ref b11), .val (.int p3), .val (.ref b81), .unset, .unset] [(.int (3 : Int32)), (.int (2 : Int32))])
    refine hst (fun t₀ k₀ => XS.iconst X81.here hx rfl (hb hby at_91) k₀) ?_
    show F T81 (mkF m 92 #[.val (.int p1), .val (.int p2), .val (.int p3), .val (.int p4), .val (.int p5), .val (.int (3 : Int32)), .val (.ref b11), .val (.int p3), .val (.ref b81), .unset, .unset] [(.int (1 : Int32)), (.int (3 : Int32)), (.int (2 : Int32))])
    refine hst (fun t₀ k₀ => XS.isub X81.here hx rfl (hb hby at_92) rfl k₀) ?_
    show F T81 (mkF m 93 #[.val (.int p1), .val (.int p2), .val (.int p3), .val (.int p4), .val (.int p5), .val (.int (3 : Int32)), .val (.ref b11), .val (.int p3), .val (.ref b81), .unset, .unset] [(.int ((3 : Int32) - (1 : Int32))), (.int (2 : Int32))])
    show F T81 (mkF m 93 #[.val (.int p1), .val (.int p2), .val (.int p3), .val (.int p4), .val (.int p5), .val (.int (3 : Int32)), .val (.ref b11), .val (.int p3), .val (.ref b81), .unset, .unset] [(.int (2 : Int32)), (.int (2 : Int32))])
    refine hst (fun t₀ k₀ => XS.icmpNo X81.here hx rfl (hb hby at_93) rfl (teq rfl).2 k₀) ?_
    show F T81 (mkF m 96 #[.val (.int p1), .val (.int p2), .val (.int p3), .val (.int p4), .val (.int p5), .val (.int (3 : Int32)), .val (.ref b11), .val (.int p3), .val (.ref b81), .unset, .unset] [])
    refine hst (fun t₀ k₀ => XS.iconst X81.here hx rfl (hb hby at_96) k₀) ?_
    show F T81 (mkF m 97 #[.val (.int p1), .val (.int p2), .val (.int p3), .val (.int p4), .val (.int p5), .val (.int (3 : Int32)), .val (.ref b11), .val (.int p3), .val (.ref b81), .unset, .unset] [(.int (1 : Int32))])
    refine hst (fun t₀ k₀ => XS.goto X81.here hx rfl (pc0 := 97) (pc' := 101) rfl (hb hby at_97) (by decide) (by decide) k₀) ?_
    show F T81 (mkF m 101 #[.val (.int p1), .val (.int p2), .val (.int p3), .val (.int p4), .val (.int p5), .val (.int (3 : Int32)), .val (.ref b11), .val (.int p3), .val (.ref b81), .unset, .unset] [(.int (1 : Int32))])
    refine hst (fun t₀ k₀ => XS.istore X81.here hx rfl (hb hby at_101) rfl (l' := #[.val (.int p1), .val (.int p2), .val (.int p3), .val (.int p4), .val (.int p5), .val (.int (3 : Int32)), .val (.ref b11), .val (.int p3), .val (.ref b81), .val (.int (1 : Int32)), .unset]) rfl k₀) ?_
    show F T81 (mkF m 103 #[.val (.int p1), .val (.int p2), .val (.int p3), .val (.int p4), .val (.int p5), .val (.int (3 : Int32)), .val (.ref b11), .val (.int p3), .val (.ref b81), .val (.int (1 : Int32)), .unset] [])
    refine hst (fun t₀ k₀ => XS.iload X81.here hx rfl (hb hby at_103) rfl k₀) ?_
    show F T81 (mkF m 105 #[.val (.int p1), .val (.int p2), .val (.int p3), .val (.int p4), .val (.int p5), .val (.int (3 : Int32)), .val (.ref b11), .val (.int p3), .val (.ref b81), .val (.int (1 : Int32)), .unset] [(.int (1 : Int32))])
    refine hst (fun t₀ k₀ => XS.ifNo X81.here hx rfl (hb hby at_105) rfl ((if0 _ _).trans (feq (by decide)).1) k₀) ?_
    show F T81 (mkF m 108 #[.val (.int p1), .val (.int p2), .val (.int p3), .val (.int p4), .val (.int p5), .val (.int (3 : Int32)), .val (.ref b11), .val (.int p3), .val (.ref b81), .val (.int (1 : Int32)), .unset] [])
    refine hst (fun t₀ k₀ => XS.iload X81.here hx rfl (hb hby at_108) rfl k₀) ?_
    show F T81 (mkF m 110 #[.val (.int p1), .val (.int p2), .val (.int p3), .val (.int p4), .val (.int p5), .val (.int (3 : Int32)), .val (.ref b11), .val (.int p3), .val (.ref b81), .val (.int (1 : Int32)), .unset] [(.int (3 : Int32))])
    refine hst (fun t₀ k₀ => XS.iconst X81.here hx rfl (hb hby at_110) k₀) ?_
    show F T81 (mkF m 111 #[.val (.int p1), .val (.int p2), .val (.int p3), .val (.int p4), .val (.int p5), .val (.int (3 : Int32)), .val (.ref b11), .val (.int p3), .val (.ref b81), .val (.int (1 : Int32)), .unset] [(.int (2 : Int32)), (.int (3 : Int32))])
    refine hst (fun t₀ k₀ => XS.icmpNo X81.here hx rfl (hb hby at_111) rfl (flt (by decide)).1 k₀) ?_
    show F T81 (mkF m 114 #[.val (.int p1), .val (.int p2), .val (.int p3), .val (.int p4), .val (.int p5), .val (.int (3 : Int32)), .val (.ref b11), .val (.int p3), .val (.ref b81), .val (.int (1 : Int32)), .unset] [])
    refine hst (fun t₀ k₀ => XS.aload X81.here hx rfl (hb hby at_114) rfl rfl k₀) ?_
    show F T81 (mkF m 116 #[.val (.int p1), .val (.int p2), .val (.int p3), .val (.int p4), .val (.int p5), .val (.int (3 : Int32)), .val (.ref b11), .val (.int p3), .val (.ref b81), .val (.int (1 : Int32)), .unset] [(.ref b81)])
    refine hst (fun t₀ k₀ => XS.iconst X81.here hx rfl (hb hby at_116) k₀) ?_
    show F T81 (mkF m 117 #[.val (.int p1), .val (.int p2), .val (.int p3), .val (.int p4), .val (.int p5), .val (.int (3 : Int32)), .val (.ref b11), .val (.int p3), .val (.ref b81), .val (.int (1 : Int32)), .unset] [(.int (0 : Int32)), (.ref b81)])
    refine hst (fun t₀ k₀ => own_iaload X81 hx hZ rfl q1_81 (show ¬ ((0 : Int32) < 0 ∨ 2 ≤ Int32.toNatClampNeg 0) by decide) (v := (.int p1)) rfl (g := (mkF m 117 #[.val (.int p1), .val (.int p2), .val (.int p3), .val (.int p4), .val (.int p5), .val (.int (3 : Int32)), .val (.ref b11), .val (.int p3), .val (.ref b81), .val (.int (1 : Int32)), .unset] [(.int (0 : Int32)), (.ref b81)])) rfl rfl (hb hby at_117) t₀ k₀) ?_
    show F T81 (mkF m 118 #[.val (.int p1), .val (.int p2), .val (.int p3), .val (.int p4), .val (.int p5), .val (.int (3 : Int32)), .val (.ref b11), .val (.int p3), .val (.ref b81), .val (.int (1 : Int32)), .unset] [(.int p1)])
    refine hst (fun t₀ k₀ => XS.iloadN X81.here hx rfl (hb hby at_118) rfl k₀) ?_
    show F T81 (mkF m 119 #[.val (.int p1), .val (.int p2), .val (.int p3), .val (.int p4), .val (.int p5), .val (.int (3 : Int32)), .val (.ref b11), .val (.int p3), .val (.ref b81), .val (.int (1 : Int32)), .unset] [(.int p1), (.int p1)])
    refine hst (fun t₀ k₀ => XS.icmpNo X81.here hx rfl (hb hby at_119) rfl (teq rfl).2 k₀) ?_
    show F T81 (mkF m 122 #[.val (.int p1), .val (.int p2), .val (.int p3), .val (.int p4), .val (.int p5), .val (.int (3 : Int32)), .val (.ref b11), .val (.int p3), .val (.ref b81), .val (.int (1 : Int32)), .unset] [])
    refine hst (fun t₀ k₀ => XS.iconst X81.here hx rfl (hb hby at_122) k₀) ?_
    show F T81 (mkF m 123 #[.val (.int p1), .val (.int p2), .val (.int p3), .val (.int p4), .val (.int p5), .val (.int (3 : Int32)), .val (.ref b11), .val (.int p3), .val (.ref b81), .val (.int (1 : Int32)), .unset] [(.int (1 : Int32))])
    refine hst (fun t₀ k₀ => XS.goto X81.here hx rfl (pc0 := 123) (pc' := 127) rfl (hb hby at_123) (by decide) (by decide) k₀) ?_
    show F T81 (mkF m 127 #[.val (.int p1), .val (.int p2), .val (.int p3), .val (.int p4), .val (.int p5), .val (.int (3 : Int32)), .val (.ref b11), .val (.int p3), .val (.ref b81), .val (.int (1 : Int32)), .unset] [(.int (1 : Int32))])
    refine hst (fun t₀ k₀ => XS.istore X81.here hx rfl (hb hby at_127) rfl (l' := #[.val (.int p1), .val (.int p2), .val (.int p3), .val (.int p4), .val (.int p5), .val (.int (3 : Int32)), .val (.ref b11), .val (.int p3), .val (.ref b81), .val (.int (1 : Int32)), .unset]) rfl k₀) ?_
    show F T81 (mkF m 129 #[.val (.int p1), .val (.int p2), .val (.int p3), .val (.int p4), .val (.int p5), .val (.int (3 : Int32)), .val (.ref b11), .val (.int p3), .val (.ref b81), .val (.int (1 : Int32)), .unset] [])
    refine hst (fun t₀ k₀ => XS.iload X81.here hx rfl (hb hby at_129) rfl k₀) ?_
    show F T81 (mkF m 131 #[.val (.int p1), .val (.int p2), .val (.int p3), .val (.int p4), .val (.int p5), .val (.int (3 : Int32)), .val (.ref b11), .val (.int p3), .val (.ref b81), .val (.int (1 : Int32)), .unset] [(.int (1 : Int32))])
    refine hst (fun t₀ k₀ => XS.ifNo X81.here hx rfl (hb hby at_131) rfl ((if0 _ _).trans (feq (by decide)).1) k₀) ?_
    show F T81 (mkF m 134 #[.val (.int p1), .val (.int p2), .val (.int p3), .val (.int p4), .val (.int p5), .val (.int (3 : Int32)), .val (.ref b11), .val (.int p3), .val (.ref b81), .val (.int (1 : Int32)), .unset] [])
    refine hst (fun t₀ k₀ => XS.iload X81.here hx rfl (hb hby at_134) rfl k₀) ?_
    show F T81 (mkF m 136 #[.val (.int p1), .val (.int p2), .val (.int p3), .val (.int p4), .val (.int p5), .val (.int (3 : Int32)), .val (.ref b11), .val (.int p3), .val (.ref b81), .val (.int (1 : Int32)), .unset] [(.int (3 : Int32))])
    refine hst (fun t₀ k₀ => XS.iconst X81.here hx rfl (hb hby at_136) k₀) ?_
    show F T81 (mkF m 137 #[.val (.int p1), .val (.int p2), .val (.int p3), .val (.int p4), .val (.int p5), .val (.int (3 : Int32)), .val (.ref b11), .val (.int p3), .val (.ref b81), .val (.int (1 : Int32)), .unset] [(.int (3 : Int32)), (.int (3 : Int32))])
    refine hst (fun t₀ k₀ => XS.icmpNo X81.here hx rfl (hb hby at_137) rfl (flt (by decide)).1 k₀) ?_
    show F T81 (mkF m 140 #[.val (.int p1), .val (.int p2), .val (.int p3), .val (.int p4), .val (.int p5), .val (.int (3 : Int32)), .val (.ref b11), .val (.int p3), .val (.ref b81), .val (.int (1 : Int32)), .unset] [])
    refine hst (fun t₀ k₀ => XS.aload X81.here hx rfl (hb hby at_140) rfl rfl k₀) ?_
    show F T81 (mkF m 142 #[.val (.int p1), .val (.int p2), .val (.int p3), .val (.int p4), .val (.int p5), .val (.int (3 : Int32)), .val (.ref b11), .val (.int p3), .val (.ref b81), .val (.int (1 : Int32)), .unset] [(.ref b81)])
    refine hst (fun t₀ k₀ => XS.iconst X81.here hx rfl (hb hby at_142) k₀) ?_
    show F T81 (mkF m 143 #[.val (.int p1), .val (.int p2), .val (.int p3), .val (.int p4), .val (.int p5), .val (.int (3 : Int32)), .val (.ref b11), .val (.int p3), .val (.ref b81), .val (.int (1 : Int32)), .unset] [(.int (1 : Int32)), (.ref b81)])
    refine hst (fun t₀ k₀ => own_iaload X81 hx hZ rfl q1_81 (show ¬ ((1 : Int32) < 0 ∨ 2 ≤ Int32.toNatClampNeg 1) by decide) (v := (.int p2)) rfl (g := (mkF m 143 #[.val (.int p1), .val (.int p2), .val (.int p3), .val (.int p4), .val (.int p5), .val (.int (3 : Int32)), .val (.ref b11), .val (.int p3), .val (.ref b81), .val (.int (1 : Int32)), .unset] [(.int (1 : Int32)), (.ref b81)])) rfl rfl (hb hby at_143) t₀ k₀) ?_
    show F T81 (mkF m 144 #[.val (.int p1), .val (.int p2), .val (.int p3), .val (.int p4), .val (.int p5), .val (.int (3 : Int32)), .val (.ref b11), .val (.int p3), .val (.ref b81), .val (.int (1 : Int32)), .unset] [(.int p2)])
    refine hst (fun t₀ k₀ => XS.iloadN X81.here hx rfl (hb hby at_144) rfl k₀) ?_
    show F T81 (mkF m 145 #[.val (.int p1), .val (.int p2), .val (.int p3), .val (.int p4), .val (.int p5), .val (.int (3 : Int32)), .val (.ref b11), .val (.int p3), .val (.ref b81), .val (.int (1 : Int32)), .unset] [(.int p2), (.int p2)])
    refine hst (fun t₀ k₀ => XS.icmpNo X81.here hx rfl (hb hby at_145) rfl (teq rfl).2 k₀) ?_
    show F T81 (mkF m 148 #[.val (.int p1), .val (.int p2), .val (.int p3), .val (.int p4), .val (.int p5), .val (.int (3 : Int32)), .val (.ref b11), .val (.int p3), .val (.ref b81), .val (.int (1 : Int32)), .unset] [])
    refine hst (fun t₀ k₀ => XS.iconst X81.here hx rfl (hb hby at_148) k₀) ?_
    show F T81 (mkF m 149 #[.val (.int p1), .val (.int p2), .val (.int p3), .val (.int p4), .val (.int p5), .val (.int (3 : Int32)), .val (.ref b11), .val (.int p3), .val (.ref b81), .val (.int (1 : Int32)), .unset] [(.int (1 : Int32))])
    refine hst (fun t₀ k₀ => XS.goto X81.here hx rfl (pc0 := 149) (pc' := 153) rfl (hb hby at_149) (by decide) (by decide) k₀) ?_
    show F T81 (mkF m 153 #[.val (.int p1), .val (.int p2), .val (.int p3), .val (.int p4), .val (.int p5), .val (.int (3 : Int32)), .val (.ref b11), .val (.int p3), .val (.ref b81), .val (.int (1 : Int32)), .unset] [(.int (1 : Int32))])
    refine hst (fun t₀ k₀ => XS.istore X81.here hx rfl (hb hby at_153) rfl (l' := #[.val (.int p1), .val (.int p2), .val (.int p3), .val (.int p4), .val (.int p5), .val (.int (3 : Int32)), .val (.ref b11), .val (.int p3), .val (.ref b81), .val (.int (1 : Int32)), .unset]) rfl k₀) ?_
    show F T81 (mkF m 155 #[.val (.int p1), .val (.int p2), .val (.int p3), .val (.int p4), .val (.int p5), .val (.int (3 : Int32)), .val (.ref b11), .val (.int p3), .val (.ref b81), .val (.int (1 : Int32)), .unset] [])
    refine hst (fun t₀ k₀ => XS.iload X81.here hx rfl (hb hby at_155) rfl k₀) ?_
    show F T81 (mkF m 157 #[.val (.int p1), .val (.int p2), .val (.int p3), .val (.int p4), .val (.int p5), .val (.int (3 : Int32)), .val (.ref b11), .val (.int p3), .val (.ref b81), .val (.int (1 : Int32)), .unset] [(.int (1 : Int32))])
    refine hst (fun t₀ k₀ => XS.ifNo X81.here hx rfl (hb hby at_157) rfl ((if0 _ _).trans (feq (by decide)).1) k₀) ?_
    show F T81 (mkF m 160 #[.val (.int p1), .val (.int p2), .val (.int p3), .val (.int p4), .val (.int p5), .val (.int (3 : Int32)), .val (.ref b11), .val (.int p3), .val (.ref b81), .val (.int (1 : Int32)), .unset] [])
    refine hst (fun t₀ k₀ => XS.iload X81.here hx rfl (hb hby at_160) rfl k₀) ?_
    show F T81 (mkF m 162 #[.val (.int p1), .val (.int p2), .val (.int p3), .val (.int p4), .val (.int p5), .val (.int (3 : Int32)), .val (.ref b11), .val (.int p3), .val (.ref b81), .val (.int (1 : Int32)), .unset] [(.int (3 : Int32))])
    refine hst (fun t₀ k₀ => XS.iconst X81.here hx rfl (hb hby at_162) k₀) ?_
    show F T81 (mkF m 163 #[.val (.int p1), .val (.int p2), .val (.int p3), .val (.int p4), .val (.int p5), .val (.int (3 : Int32)), .val (.ref b11), .val (.int p3), .val (.ref b81), .val (.int (1 : Int32)), .unset] [(.int (2 : Int32)), (.int (3 : Int32))])
    refine hst (fun t₀ k₀ => XS.icmpNo X81.here hx rfl (hb hby at_163) rfl (flt (by decide)).1 k₀) ?_
    show F T81 (mkF m 166 #[.val (.int p1), .val (.int p2), .val (.int p3), .val (.int p4), .val (.int p5), .val (.int (3 : Int32)), .val (.ref b11), .val (.int p3), .val (.ref b81), .val (.int (1 : Int32)), .unset] [])
    refine hst (fun t₀ k₀ => XS.aload X81.here hx rfl (hb hby at_166) rfl rfl k₀) ?_
    show F T81 (mkF m 168 #[.val (.int p1), .val (.int p2), .val (.int p3), .val (.int p4), .val (.int p5), .val (.int (3 : Int32)), .val (.ref b11), .val (.int p3), .val (.ref b81), .val (.int (1 : Int32)), .unset] [(.ref b11)])
    obtain ⟨v168, T168, Lc168, X168, hQ168, st168⟩ := own_callV X81 hx hZ hown (y := (⟨"com/example/hoist/hoist/CreationPath", "last", "()I"⟩ : MethodName)) (hw _ (List.mem_of_getElem? (i := 51) rfl)) (hw _ (List.mem_of_getElem? (i := 52) rfl)) (hw _ (List.mem_of_getElem? (i := 54) rfl)) (hw _ (List.mem_of_getElem? (i := 53) rfl)) (hw _ (List.mem_of_getElem? (i := 3) rfl)) (hw _ (List.mem_of_getElem? (i := 55) rfl)) (by decide) rfl q1_15_p81 (rm11 l Z a0 hw [] b11 t_15 cf2_75 ([p1, p2] : List Int32) T81.heap n0 Z0_p81 q2_15_p81 q1_75_p81 is2_75 (Nat.le_of_ble_eq_true rfl) (Nat.le_of_ble_eq_true rfl)) (by decide) (by decide) (g := (mkF m 168 #[.val (.int p1), .val (.int p2), .val (.int p3), .val (.int p4), .val (.int p5), .val (.int (3 : Int32)), .val (.ref b11), .val (.int p3), .val (.ref b81), .val (.int (1 : Int32)), .unset] [(.ref b11)])) rfl (by rw [hml]; rfl) (argsL := []) (rest := []) (lenOf pd_0 rfl) rfl rfl (W := 0) (by show 2 * 0 + _ ≤ _; exact Nat.le_of_eq rfl) (hb hby at_168) (by decide) (by decide)
    obtain ⟨rfl, Nq168, he168⟩ := hQ168
    have N168 := Fr.app N81 Nq168
    refine hst st168 ?_
    show F T168 (mkF m 171 #[.val (.int p1), .val (.int p2), .val (.int p3), .val (.int p4), .val (.int p5), .val (.int (3 : Int32)), .val (.ref b11), .val (.int p3), .val (.ref b81), .val (.int (1 : Int32)), .unset] [(.int (([p1, p2] : List Int32).getD (([p1, p2] : List Int32).length - 1) 0))])
    refine hst (fun t₀ k₀ => XS.iload X168.here hx rfl (hb hby at_171) rfl k₀) ?_
    show F T168 (mkF m 173 #[.val (.int p1), .val (.int p2), .val (.int p3), .val (.int p4), .val (.int p5), .val (.int (3 : Int32)), .val (.ref b11), .val (.int p3), .val (.ref b81), .val (.int (1 : Int32)), .unset] [(.int (3 : Int32)), (.int (([p1, p2] : List Int32).getD (([p1, p2] : List Int32).length - 1) 0))])
    refine hst (fun t₀ k₀ => XS.iconst X168.here hx rfl (hb hby at_173) k₀) ?_
    show F T168 (mkF m 174 #[.val (.int p1), .val (.int p2), .val (.int p3), .val (.int p4), .val (.int p5), .val (.int (3 : Int32)), .val (.ref b11), .val (.int p3), .val (.ref b81), .val (.int (1 : Int32)), .unset] [(.int (3 : Int32)), (.int (3 : Int32)), (.int (([p1, p2] : List Int32).getD (([p1, p2] : List Int32).length - 1) 0))])
    refine hst (fun t₀ k₀ => XS.icmpNo X168.here hx rfl (hb hby at_174) rfl (teq (by decide)).2 k₀) ?_
    show F T168 (mkF m 177 #[.val (.int p1), .val (.int p2), .val (.int p3), .val (.int p4), .val (.int p5), .val (.int (3 : Int32)), .val (.ref b11), .val (.int p3), .val (.ref b81), .val (.int (1 : Int32)), .unset] [(.int (([p1, p2] : List Int32).getD (([p1, p2] : List Int32).length - 1) 0))])
    refine hst (fun t₀ k₀ => XS.iloadN X168.here hx rfl (hb hby at_177) rfl k₀) ?_
    show F T168 (mkF m 178 #[.val (.int p1), .val (.int p2), .val (.int p3), .val (.int p4), .val (.int p5), .val (.int (3 : Int32)), .val (.ref b11), .val (.int p3), .val (.ref b81), .val (.int (1 : Int32)), .unset] [(.int p2), (.int (([p1, p2] : List Int32).getD (([p1, p2] : List Int32).length - 1) 0))])
    refine hst (fun t₀ k₀ => XS.goto X168.here hx rfl (pc0 := 178) (pc' := 182) rfl (hb hby at_178) (by decide) (by decide) k₀) ?_
    show F T168 (mkF m 182 #[.val (.int p1), .val (.int p2), .val (.int p3), .val (.int p4), .val (.int p5), .val (.int (3 : Int32)), .val (.ref b11), .val (.int p3), .val (.ref b81), .val (.int (1 : Int32)), .unset] [(.int p2), (.int (([p1, p2] : List Int32).getD (([p1, p2] : List Int32).length - 1) 0))])
    refine hst (fun t₀ k₀ => XS.icmpNo X168.here hx rfl (hb hby at_182) rfl (teq rfl).2 k₀) ?_
    show F T168 (mkF m 185 #[.val (.int p1), .val (.int p2), .val (.int p3), .val (.int p4), .val (.int p5), .val (.int (3 : Int32)), .val (.ref b11), .val (.int p3), .val (.ref b81), .val (.int (1 : Int32)), .unset] [])
    refine hst (fun t₀ k₀ => XS.iconst X168.here hx rfl (hb hby at_185) k₀) ?_
    show F T168 (mkF m 186 #[.val (.int p1), .val (.int p2), .val (.int p3), .val (.int p4), .val (.int p5), .val (.int (3 : Int32)), .val (.ref b11), .val (.int p3), .val (.ref b81), .val (.int (1 : Int32)), .unset] [(.int (1 : Int32))])
    refine hst (fun t₀ k₀ => XS.goto X168.here hx rfl (pc0 := 186) (pc' := 190) rfl (hb hby at_186) (by decide) (by decide) k₀) ?_
    show F T168 (mkF m 190 #[.val (.int p1), .val (.int p2), .val (.int p3), .val (.int p4), .val (.int p5), .val (.int (3 : Int32)), .val (.ref b11), .val (.int p3), .val (.ref b81), .val (.int (1 : Int32)), .unset] [(.int (1 : Int32))])
    refine hst (fun t₀ k₀ => XS.istore X168.here hx rfl (hb hby at_190) rfl (l' := #[.val (.int p1), .val (.int p2), .val (.int p3), .val (.int p4), .val (.int p5), .val (.int (3 : Int32)), .val (.ref b11), .val (.int p3), .val (.ref b81), .val (.int (1 : Int32)), .unset]) rfl k₀) ?_
    show F T168 (mkF m 192 #[.val (.int p1), .val (.int p2), .val (.int p3), .val (.int p4), .val (.int p5), .val (.int (3 : Int32)), .val (.ref b11), .val (.int p3), .val (.ref b81), .val (.int (1 : Int32)), .unset] [])
    refine hst (fun t₀ k₀ => XS.iconst X168.here hx rfl (hb hby at_192) k₀) ?_
    show F T168 (mkF m 193 #[.val (.int p1), .val (.int p2), .val (.int p3), .val (.int p4), .val (.int p5), .val (.int (3 : Int32)), .val (.ref b11), .val (.int p3), .val (.ref b81), .val (.int (1 : Int32)), .unset] [(.int (-1 : Int32))])
    refine hst (fun t₀ k₀ => XS.istore X168.here hx rfl (hb hby at_193) rfl (l' := #[.val (.int p1), .val (.int p2), .val (.int p3), .val (.int p4), .val (.int p5), .val (.int (3 : Int32)), .val (.ref b11), .val (.int p3), .val (.ref b81), .val (.int (1 : Int32)), .val (.int (-1 : Int32))]) rfl k₀) ?_
    show F T168 (mkF m 195 #[.val (.int p1), .val (.int p2), .val (.int p3), .val (.int p4), .val (.int p5), .val (.int (3 : Int32)), .val (.ref b11), .val (.int p3), .val (.ref b81), .val (.int (1 : Int32)), .val (.int (-1 : Int32))] [])
    refine hst (fun t₀ k₀ => XS.iload X168.here hx rfl (hb hby at_195) rfl k₀) ?_
    show F T168 (mkF m 197 #[.val (.int p1), .val (.int p2), .val (.int p3), .val (.int p4), .val (.int p5), .val (.int (3 : Int32)), .val (.ref b11), .val (.int p3), .val (.ref b81), .val (.int (1 : Int32)), .val (.int (-1 : Int32))] [(.int (3 : Int32))])
    refine hst (fun t₀ k₀ => XS.iconst X168.here hx rfl (hb hby at_197) k₀) ?_
    show F T168 (mkF m 198 #[.val (.int p1), .val (.int p2), .val (.int p3), .val (.int p4), .val (.int p5), .val (.int (3 : Int32)), .val (.ref b11), .val (.int p3), .val (.ref b81), .val (.int (1 : Int32)), .val (.int (-1 : Int32))] [(.int (3 : Int32)), (.int (3 : Int32))])
    refine hst (fun t₀ k₀ => XS.icmpNo X168.here hx rfl (hb hby at_198) rfl (flt (by decide)).1 k₀) ?_
    show F T168 (mkF m 201 #[.val (.int p1), .val (.int p2), .val (.int p3), .val (.int p4), .val (.int p5), .val (.int (3 : Int32)), .val (.ref b11), .val (.int p3), .val (.ref b81), .val (.int (1 : Int32)), .val (.int (-1 : Int32))] [])
    refine hst (fun t₀ k₀ => XS.iloadN X168.here hx rfl (hb hby at_201) rfl k₀) ?_
    show F T168 (mkF m 202 #[.val (.int p1), .val (.int p2), .val (.int p3), .val (.int p4), .val (.int p5), .val (.int (3 : Int32)), .val (.ref b11), .val (.int p3), .val (.ref b81), .val (.int (1 : Int32)), .val (.int (-1 : Int32))] [(.int p2)])
    refine hst (fun t₀ k₀ => XS.iload X168.here hx rfl (hb hby at_202) rfl k₀) ?_
    show F T168 (mkF m 204 #[.val (.int p1), .val (.int p2), .val (.int p3), .val (.int p4), .val (.int p5), .val (.int (3 : Int32)), .val (.ref b11), .val (.int p3), .val (.ref b81), .val (.int (1 : Int32)), .val (.int (-1 : Int32))] [(.int p3), (.int p2)])
    by_cases hc204 : p2 = p3
    · -- pc 204: not taken
      refine hst (fun t₀ k₀ => XS.icmpNo X168.here hx rfl (hb hby at_204) rfl (teq hc204).2 k₀) ?_
      show F T168 (mkF m 207 #[.val (.int p1), .val (.int p2), .val (.int p3), .val (.int p4), .val (.int p5), .val (.int (3 : Int32)), .val (.ref b11), .val (.int p3), .val (.ref b81), .val (.int (1 : Int32)), .val (.int (-1 : Int32))] [])
      refine hst (fun t₀ k₀ => XS.iconst X168.here hx rfl (hb hby at_207) k₀) ?_
      show F T168 (mkF m 208 #[.val (.int p1), .val (.int p2), .val (.int p3), .val (.int p4), .val (.int p5), .val (.int (3 : Int32)), .val (.ref b11), .val (.int p3), .val (.ref b81), .val (.int (1 : Int32)), .val (.int (-1 : Int32))] [(.int (1 : Int32))])
      refine hst (fun t₀ k₀ => XS.istore X168.here hx rfl (hb hby at_208) rfl (l' := #[.val (.int p1), .val (.int p2), .val (.int p3), .val (.int p4), .val (.int p5), .val (.int (3 : Int32)), .val (.ref b11), .val (.int p3), .val (.ref b81), .val (.int (1 : Int32)), .val (.int (1 : Int32))]) rfl k₀) ?_
      show F T168 (mkF m 210 #[.val (.int p1), .val (.int p2), .val (.int p3), .val (.int p4), .val (.int p5), .val (.int (3 : Int32)), .val (.ref b11), .val (.int p3), .val (.ref b81), .val (.int (1 : Int32)), .val (.int (1 : Int32))] [])
      refine hst (fun t₀ k₀ => XS.goto X168.here hx rfl (pc0 := 210) (pc' := 228) rfl (hb hby at_210) (by decide) (by decide) k₀) ?_
      show F T168 (mkF m 228 #[.val (.int p1), .val (.int p2), .val (.int p3), .val (.int p4), .val (.int p5), .val (.int (3 : Int32)), .val (.ref b11), .val (.int p3), .val (.ref b81), .val (.int (1 : Int32)), .val (.int (1 : Int32))] [])
      refine hst (fun t₀ k₀ => XS.iload X168.here hx rfl (hb hby at_228) rfl k₀) ?_
      show F T168 (mkF m 230 #[.val (.int p1), .val (.int p2), .val (.int p3), .val (.int p4), .val (.int p5), .val (.int (3 : Int32)), .val (.ref b11), .val (.int p3), .val (.ref b81), .val (.int (1 : Int32)), .val (.int (1 : Int32))] [(.int (1 : Int32))])
      refine hst (fun t₀ k₀ => XS.ifNo X168.here hx rfl (hb hby at_230) rfl ((if0 _ _).trans (feq (by decide)).1) k₀) ?_
      show F T168 (mkF m 233 #[.val (.int p1), .val (.int p2), .val (.int p3), .val (.int p4), .val (.int p5), .val (.int (3 : Int32)), .val (.ref b11), .val (.int p3), .val (.ref b81), .val (.int (1 : Int32)), .val (.int (1 : Int32))] [])
      refine hst (fun t₀ k₀ => XS.aload X168.here hx rfl (hb hby at_233) rfl rfl k₀) ?_
      show F T168 (mkF m 235 #[.val (.int p1), .val (.int p2), .val (.int p3), .val (.int p4), .val (.int p5), .val (.int (3 : Int32)), .val (.ref b11), .val (.int p3), .val (.ref b81), .val (.int (1 : Int32)), .val (.int (1 : Int32))] [(.ref b11)])
      refine hst (fun t₀ k₀ => XS.iload X168.here hx rfl (hb hby at_235) rfl k₀) ?_
      show F T168 (mkF m 237 #[.val (.int p1), .val (.int p2), .val (.int p3), .val (.int p4), .val (.int p5), .val (.int (3 : Int32)), .val (.ref b11), .val (.int p3), .val (.ref b81), .val (.int (1 : Int32)), .val (.int (1 : Int32))] [(.int p3), (.ref b11)])
      obtain ⟨v237, T237, Lc237, X237, hQ237, st237⟩ := own_callV X168 hx hZ hown (y := (⟨"com/example/hoist/hoist/CreationPath", "lastIndexOf", "(I)I"⟩ : MethodName)) (hw _ (List.mem_of_getElem? (i := 46) rfl)) (hw _ (List.mem_of_getElem? (i := 47) rfl)) (hw _ (List.mem_of_getElem? (i := 49) rfl)) (hw _ (List.mem_of_getElem? (i := 48) rfl)) (hw _ (List.mem_of_getElem? (i := 3) rfl)) (hw _ (List.mem_of_getElem? (i := 50) rfl)) (by decide) he168 q1_15_p81 (rm10 l Z a0 hw [] b11 p3 t_15 cf2_75 ([p1, p2] : List Int32) T81.heap n0 Z0_p81 q2_15_p81 q1_75_p81 is2_75 (Nat.le_of_ble_eq_true rfl)) (by decide) (by decide) (g := (mkF m 237 #[.val (.int p1), .val (.int p2), .val (.int p3), .val (.int p4), .val (.int p5), .val (.int (3 : Int32)), .val (.ref b11), .val (.int p3), .val (.ref b81), .val (.int (1 : Int32)), .val (.int (1 : Int32))] [(.int p3), (.ref b11)])) rfl (by rw [hml]; rfl) (argsL := [(.int p3)]) (rest := []) (lenOf pd_2 rfl) rfl rfl (W := 0) (by show 2 * 0 + _ ≤ _; exact Nat.le_of_eq rfl) (hb hby at_237) (by decide) (by decide)
      obtain ⟨rfl, Nq237, he237⟩ := hQ237
      have N237 := Fr.app N168 Nq237
      refine hst st237 ?_
      show F T237 (mkF m 240 #[.val (.int p1), .val (.int p2), .val (.int p3), .val (.int p4), .val (.int p5), .val (.int (3 : Int32)), .val (.ref b11), .val (.int p3), .val (.ref b81), .val (.int (1 : Int32)), .val (.int (1 : Int32))] [(.int (own_lif ([p1, p2] : List Int32) p3 ([p1, p2] : List Int32).length))])
      refine hst (fun t₀ k₀ => XS.iload X237.here hx rfl (hb hby at_240) rfl k₀) ?_
      show F T237 (mkF m 242 #[.val (.int p1), .val (.int p2), .val (.int p3), .val (.int p4), .val (.int p5), .val (.int (3 : Int32)), .val (.ref b11), .val (.int p3), .val (.ref b81), .val (.int (1 : Int32)), .val (.int (1 : Int32))] [(.int (1 : Int32)), (.int (own_lif ([p1, p2] : List Int32) p3 ([p1, p2] : List Int32).length))])
      refine hst (fun t₀ k₀ => XS.icmpNo X237.here hx rfl (hb hby at_242) rfl (teq (by simp [own_lif, hc204])).2 k₀) ?_
      show F T237 (mkF m 245 #[.val (.int p1), .val (.int p2), .val (.int p3), .val (.int p4), .val (.int p5), .val (.int (3 : Int32)), .val (.ref b11), .val (.int p3), .val (.ref b81), .val (.int (1 : Int32)), .val (.int (1 : Int32))] [])
      refine hst (fun t₀ k₀ => XS.iconst X237.here hx rfl (hb hby at_245) k₀) ?_
      show F T237 (mkF m 246 #[.val (.int p1), .val (.int p2), .val (.int p3), .val (.int p4), .val (.int p5), .val (.int (3 : Int32)), .val (.ref b11), .val (.int p3), .val (.ref b81), .val (.int (1 : Int32)), .val (.int (1 : Int32))] [(.int (1 : Int32))])
      refine hst (fun t₀ k₀ => XS.goto X237.here hx rfl (pc0 := 246) (pc' := 250) rfl (hb hby at_246) (by decide) (by decide) k₀) ?_
      show F T237 (mkF m 250 #[.val (.int p1), .val (.int p2), .val (.int p3), .val (.int p4), .val (.int p5), .val (.int (3 : Int32)), .val (.ref b11), .val (.int p3), .val (.ref b81), .val (.int (1 : Int32)), .val (.int (1 : Int32))] [(.int (1 : Int32))])
      refine hst (fun t₀ k₀ => XS.istore X237.here hx rfl (hb hby at_250) rfl (l' := #[.val (.int p1), .val (.int p2), .val (.int p3), .val (.int p4), .val (.int p5), .val (.int (3 : Int32)), .val (.ref b11), .val (.int p3), .val (.ref b81), .val (.int (1 : Int32)), .val (.int (1 : Int32))]) rfl k₀) ?_
      show F T237 (mkF m 252 #[.val (.int p1), .val (.int p2), .val (.int p3), .val (.int p4), .val (.int p5), .val (.int (3 : Int32)), .val (.ref b11), .val (.int p3), .val (.ref b81), .val (.int (1 : Int32)), .val (.int (1 : Int32))] [])
      refine hst (fun t₀ k₀ => XS.aload X237.here hx rfl (hb hby at_252) rfl rfl k₀) ?_
      show F T237 (mkF m 254 #[.val (.int p1), .val (.int p2), .val (.int p3), .val (.int p4), .val (.int p5), .val (.int (3 : Int32)), .val (.ref b11), .val (.int p3), .val (.ref b81), .val (.int (1 : Int32)), .val (.int (1 : Int32))] [(.ref b11)])
      refine hst (fun t₀ k₀ => XS.iloadN X237.here hx rfl (hb hby at_254) rfl k₀) ?_
      show F T237 (mkF m 255 #[.val (.int p1), .val (.int p2), .val (.int p3), .val (.int p4), .val (.int p5), .val (.int (3 : Int32)), .val (.ref b11), .val (.int p3), .val (.ref b81), .val (.int (1 : Int32)), .val (.int (1 : Int32))] [(.int p4), (.ref b11)])
      obtain ⟨v255, T255, Lc255, X255, hQ255, st255⟩ := own_callV X237 hx hZ hown (y := (⟨"com/example/hoist/hoist/CreationPath", "enter", "(I)V"⟩ : MethodName)) (hw _ (List.mem_of_getElem? (i := 13) rfl)) (hw _ (List.mem_of_getElem? (i := 14) rfl)) (hw _ (List.mem_of_getElem? (i := 16) rfl)) (hw _ (List.mem_of_getElem? (i := 15) rfl)) (hw _ (List.mem_of_getElem? (i := 3) rfl)) (hw _ (List.mem_of_getElem? (i := 17) rfl)) (by decide) he237 q1_15_p81 (rm3 l Z a0 hw [] b11 p4 t_15 cf2_75 ([p1, p2] : List Int32) T81.heap n0 Z0_p81 q2_15_p81 q1_75_p81 ge_t_15 is2_75 (Nat.le_of_ble_eq_true rfl) ne_b11_t_15) (by decide) (by decide) (g := (mkF m 255 #[.val (.int p1), .val (.int p2), .val (.int p3), .val (.int p4), .val (.int p5), .val (.int (3 : Int32)), .val (.ref b11), .val (.int p3), .val (.ref b81), .val (.int (1 : Int32)), .val (.int (1 : Int32))] [(.int p4), (.ref b11)])) rfl (by rw [hml]; rfl) (argsL := [(.int p4)]) (rest := []) (lenOf pd_3 rfl) rfl rfl (W := 0) (by show 2 * 0 + _ ≤ _; exact Nat.le_of_eq rfl) (hb hby at_255) (by decide) (by decide)
      obtain ⟨cf2_255, rfl, Nq255, K255, q1_255, is2_255⟩ := hQ255
      have N255 := Fr.app N237 Nq255
      have q1_15_p255 : Exa Z T255.heap b11 "com/example/hoist/hoist/CreationPath" := q1_15_p81.keep K255
      have q2_15_p255 : Fld Z T255.heap b11 "com/example/hoist/hoist/CreationPath" "slots" "[I" (.ref t_15) := q2_15_p81.keep K255 (by simp only [List.mem_cons, List.not_mem_nil, or_false, not_or]; exact ne_b11_t_15)
      have Z0_p255 : n0 ≤ T255.heap.size := Nat.le_trans Z0_p81 K255.1
      refine hst st255 ?_
      show F T255 (mkF m 258 #[.val (.int p1), .val (.int p2), .val (.int p3), .val (.int p4), .val (.int p5), .val (.int (3 : Int32)), .val (.ref b11), .val (.int p3), .val (.ref b81), .val (.int (1 : Int32)), .val (.int (1 : Int32))] [])
      refine hst (fun t₀ k₀ => XS.iload X255.here hx rfl (hb hby at_258) rfl k₀) ?_
      show F T255 (mkF m 260 #[.val (.int p1), .val (.int p2), .val (.int p3), .val (.int p4), .val (.int p5), .val (.int (3 : Int32)), .val (.ref b11), .val (.int p3), .val (.ref b81), .val (.int (1 : Int32)), .val (.int (1 : Int32))] [(.int (1 : Int32))])
      refine hst (fun t₀ k₀ => XS.ifNo X255.here hx rfl (hb hby at_260) rfl ((if0 _ _).trans (feq (by decide)).1) k₀) ?_
      show F T255 (mkF m 263 #[.val (.int p1), .val (.int p2), .val (.int p3), .val (.int p4), .val (.int p5), .val (.int (3 : Int32)), .val (.ref b11), .val (.int p3), .val (.ref b81), .val (.int (1 : Int32)), .val (.int (1 : Int32))] [])
      refine hst (fun t₀ k₀ => XS.aload X255.here hx rfl (hb hby at_263) rfl rfl k₀) ?_
      show F T255 (mkF m 265 #[.val (.int p1), .val (.int p2), .val (.int p3), .val (.int p4), .val (.int p5), .val (.int (3 : Int32)), .val (.ref b11), .val (.int p3), .val (.ref b81), .val (.int (1 : Int32)), .val (.int (1 : Int32))] [(.ref b11)])
      obtain ⟨v265, T265, Lc265, X265, hQ265, st265⟩ := own_callV X255 hx hZ hown (y := (⟨"com/example/hoist/hoist/CreationPath", "last", "()I"⟩ : MethodName)) (hw _ (List.mem_of_getElem? (i := 51) rfl)) (hw _ (List.mem_of_getElem? (i := 52) rfl)) (hw _ (List.mem_of_getElem? (i := 54) rfl)) (hw _ (List.mem_of_getElem? (i := 53) rfl)) (hw _ (List.mem_of_getElem? (i := 3) rfl)) (hw _ (List.mem_of_getElem? (i := 55) rfl)) (by decide) rfl q1_15_p255 (rm11 l Z a0 hw [] b11 t_15 cf2_255 ([p1, p2, p4] : List Int32) T255.heap n0 Z0_p255 q2_15_p255 q1_255 is2_255 (Nat.le_of_ble_eq_true rfl) (Nat.le_of_ble_eq_true rfl)) (by decide) (by decide) (g := (mkF m 265 #[.val (.int p1), .val (.int p2), .val (.int p3), .val (.int p4), .val (.int p5), .val (.int (3 : Int32)), .val (.ref b11), .val (.int p3), .val (.ref b81), .val (.int (1 : Int32)), .val (.int (1 : Int32))] [(.ref b11)])) rfl (by rw [hml]; rfl) (argsL := []) (rest := []) (lenOf pd_0 rfl) rfl rfl (W := 0) (by show 2 * 0 + _ ≤ _; exact Nat.le_of_eq rfl) (hb hby at_265) (by decide) (by decide)
      obtain ⟨rfl, Nq265, he265⟩ := hQ265
      have N265 := Fr.app N255 Nq265
      refine hst st265 ?_
      show F T265 (mkF m 268 #[.val (.int p1), .val (.int p2), .val (.int p3), .val (.int p4), .val (.int p5), .val (.int (3 : Int32)), .val (.ref b11), .val (.int p3), .val (.ref b81), .val (.int (1 : Int32)), .val (.int (1 : Int32))] [(.int (([p1, p2, p4] : List Int32).getD (([p1, p2, p4] : List Int32).length - 1) 0))])
      refine hst (fun t₀ k₀ => XS.iloadN X265.here hx rfl (hb hby at_268) rfl k₀) ?_
      show F T265 (mkF m 269 #[.val (.int p1), .val (.int p2), .val (.int p3), .val (.int p4), .val (.int p5), .val (.int (3 : Int32)), .val (.ref b11), .val (.int p3), .val (.ref b81), .val (.int (1 : Int32)), .val (.int (1 : Int32))] [(.int p4), (.int (([p1, p2, p4] : List Int32).getD (([p1, p2, p4] : List Int32).length - 1) 0))])
      refine hst (fun t₀ k₀ => XS.icmpNo X265.here hx rfl (hb hby at_269) rfl (teq rfl).2 k₀) ?_
      show F T265 (mkF m 272 #[.val (.int p1), .val (.int p2), .val (.int p3), .val (.int p4), .val (.int p5), .val (.int (3 : Int32)), .val (.ref b11), .val (.int p3), .val (.ref b81), .val (.int (1 : Int32)), .val (.int (1 : Int32))] [])
      refine hst (fun t₀ k₀ => XS.iconst X265.here hx rfl (hb hby at_272) k₀) ?_
      show F T265 (mkF m 273 #[.val (.int p1), .val (.int p2), .val (.int p3), .val (.int p4), .val (.int p5), .val (.int (3 : Int32)), .val (.ref b11), .val (.int p3), .val (.ref b81), .val (.int (1 : Int32)), .val (.int (1 : Int32))] [(.int (1 : Int32))])
      refine hst (fun t₀ k₀ => XS.goto X265.here hx rfl (pc0 := 273) (pc' := 277) rfl (hb hby at_273) (by decide) (by decide) k₀) ?_
      show F T265 (mkF m 277 #[.val (.int p1), .val (.int p2), .val (.int p3), .val (.int p4), .val (.int p5), .val (.int (3 : Int32)), .val (.ref b11), .val (.int p3), .val (.ref b81), .val (.int (1 : Int32)), .val (.int (1 : Int32))] [(.int (1 : Int32))])
      refine hst (fun t₀ k₀ => XS.istore X265.here hx rfl (hb hby at_277) rfl (l' := #[.val (.int p1), .val (.int p2), .val (.int p3), .val (.int p4), .val (.int p5), .val (.int (3 : Int32)), .val (.ref b11), .val (.int p3), .val (.ref b81), .val (.int (1 : Int32)), .val (.int (1 : Int32))]) rfl k₀) ?_
      show F T265 (mkF m 279 #[.val (.int p1), .val (.int p2), .val (.int p3), .val (.int p4), .val (.int p5), .val (.int (3 : Int32)), .val (.ref b11), .val (.int p3), .val (.ref b81), .val (.int (1 : Int32)), .val (.int (1 : Int32))] [])
      refine hst (fun t₀ k₀ => XS.iload X265.here hx rfl (hb hby at_279) rfl k₀) ?_
      show F T265 (mkF m 281 #[.val (.int p1), .val (.int p2), .val (.int p3), .val (.int p4), .val (.int p5), .val (.int (3 : Int32)), .val (.ref b11), .val (.int p3), .val (.ref b81), .val (.int (1 : Int32)), .val (.int (1 : Int32))] [(.int (1 : Int32))])
      refine hst (fun t₀ k₀ => XS.ifNo X265.here hx rfl (hb hby at_281) rfl ((if0 _ _).trans (feq (by decide)).1) k₀) ?_
      show F T265 (mkF m 284 #[.val (.int p1), .val (.int p2), .val (.int p3), .val (.int p4), .val (.int p5), .val (.int (3 : Int32)), .val (.ref b11), .val (.int p3), .val (.ref b81), .val (.int (1 : Int32)), .val (.int (1 : Int32))] [])
      refine hst (fun t₀ k₀ => XS.aload X265.here hx rfl (hb hby at_284) rfl rfl k₀) ?_
      show F T265 (mkF m 286 #[.val (.int p1), .val (.int p2), .val (.int p3), .val (.int p4), .val (.int p5), .val (.int (3 : Int32)), .val (.ref b11), .val (.int p3), .val (.ref b81), .val (.int (1 : Int32)), .val (.int (1 : Int32))] [(.ref b11)])
      refine hst (fun t₀ k₀ => XS.iloadN X265.here hx rfl (hb hby at_286) rfl k₀) ?_
      show F T265 (mkF m 287 #[.val (.int p1), .val (.int p2), .val (.int p3), .val (.int p4), .val (.int p5), .val (.int (3 : Int32)), .val (.ref b11), .val (.int p3), .val (.ref b81), .val (.int (1 : Int32)), .val (.int (1 : Int32))] [(.int p4), (.ref b11)])
      obtain ⟨v287, T287, Lc287, X287, hQ287, st287⟩ := own_callV X265 hx hZ hown (y := (⟨"com/example/hoist/hoist/CreationPath", "lastIndexOf", "(I)I"⟩ : MethodName)) (hw _ (List.mem_of_getElem? (i := 46) rfl)) (hw _ (List.mem_of_getElem? (i := 47) rfl)) (hw _ (List.mem_of_getElem? (i := 49) rfl)) (hw _ (List.mem_of_getElem? (i := 48) rfl)) (hw _ (List.mem_of_getElem? (i := 3) rfl)) (hw _ (List.mem_of_getElem? (i := 50) rfl)) (by decide) he265 q1_15_p255 (rm10 l Z a0 hw [] b11 p4 t_15 cf2_255 ([p1, p2, p4] : List Int32) T255.heap n0 Z0_p255 q2_15_p255 q1_255 is2_255 (Nat.le_of_ble_eq_true rfl)) (by decide) (by decide) (g := (mkF m 287 #[.val (.int p1), .val (.int p2), .val (.int p3), .val (.int p4), .val (.int p5), .val (.int (3 : Int32)), .val (.ref b11), .val (.int p3), .val (.ref b81), .val (.int (1 : Int32)), .val (.int (1 : Int32))] [(.int p4), (.ref b11)])) rfl (by rw [hml]; rfl) (argsL := [(.int p4)]) (rest := []) (lenOf pd_2 rfl) rfl rfl (W := 0) (by show 2 * 0 + _ ≤ _; exact Nat.le_of_eq rfl) (hb hby at_287) (by decide) (by decide)
      obtain ⟨rfl, Nq287, he287⟩ := hQ287
      have N287 := Fr.app N265 Nq287
      refine hst st287 ?_
      show F T287 (mkF m 290 #[.val (.int p1), .val (.int p2), .val (.int p3), .val (.int p4), .val (.int p5), .val (.int (3 : Int32)), .val (.ref b11), .val (.int p3), .val (.ref b81), .val (.int (1 : Int32)), .val (.int (1 : Int32))] [(.int (own_lif ([p1, p2, p4] : List Int32) p4 ([p1, p2, p4] : List Int32).length))])
      refine hst (fun t₀ k₀ => XS.iload X287.here hx rfl (hb hby at_290) rfl k₀) ?_
      show F T287 (mkF m 292 #[.val (.int p1), .val (.int p2), .val (.int p3), .val (.int p4), .val (.int p5), .val (.int (3 : Int32)), .val (.ref b11), .val (.int p3), .val (.ref b81), .val (.int (1 : Int32)), .val (.int (1 : Int32))] [(.int (3 : Int32)), (.int (own_lif ([p1, p2, p4] : List Int32) p4 ([p1, p2, p4] : List Int32).length))])
      refine hst (fun t₀ k₀ => XS.iconst X287.here hx rfl (hb hby at_292) k₀) ?_
      show F T287 (mkF m 293 #[.val (.int p1), .val (.int p2), .val (.int p3), .val (.int p4), .val (.int p5), .val (.int (3 : Int32)), .val (.ref b11), .val (.int p3), .val (.ref b81), .val (.int (1 : Int32)), .val (.int (1 : Int32))] [(.int (1 : Int32)), (.int (3 : Int32)), (.int (own_lif ([p1, p2, p4] : List Int32) p4 ([p1, p2, p4] : List Int32).length))])
      refine hst (fun t₀ k₀ => XS.isub X287.here hx rfl (hb hby at_293) rfl k₀) ?_
      show F T287 (mkF m 294 #[.val (.int p1), .val (.int p2), .val (.int p3), .val (.int p4), .val (.int p5), .val (.int (3 : Int32)), .val (.ref b11), .val (.int p3), .val (.ref b81), .val (.int (1 : Int32)), .val (.int (1 : Int32))] [(.int ((3 : Int32) - (1 : Int32))), (.int (own_lif ([p1, p2, p4] : List Int32) p4 ([p1, p2, p4] : List Int32).length))])
      show F T287 (mkF m 294 #[.val (.int p1), .val (.int p2), .val (.int p3), .val (.int p4), .val (.int p5), .val (.int (3 : Int32)), .val (.ref b11), .val (.int p3), .val (.ref b81), .val (.int (1 : Int32)), .val (.int (1 : Int32))] [(.int (2 : Int32)), (.int (own_lif ([p1, p2, p4] : List Int32) p4 ([p1, p2, p4] : List Int32).length))])
      refine hst (fun t₀ k₀ => XS.icmpNo X287.here hx rfl (hb hby at_294) rfl (teq (by simp [own_lif])).2 k₀) ?_
      show F T287 (mkF m 297 #[.val (.int p1), .val (.int p2), .val (.int p3), .val (.int p4), .val (.int p5), .val (.int (3 : Int32)), .val (.ref b11), .val (.int p3), .val (.ref b81), .val (.int (1 : Int32)), .val (.int (1 : Int32))] [])
      refine hst (fun t₀ k₀ => XS.iconst X287.here hx rfl (hb hby at_297) k₀) ?_
      show F T287 (mkF m 298 #[.val (.int p1), .val (.int p2), .val (.int p3), .val (.int p4), .val (.int p5), .val (.int (3 : Int32)), .val (.ref b11), .val (.int p3), .val (.ref b81), .val (.int (1 : Int32)), .val (.int (1 : Int32))] [(.int (1 : Int32))])
      refine hst (fun t₀ k₀ => XS.goto X287.here hx rfl (pc0 := 298) (pc' := 302) rfl (hb hby at_298) (by decide) (by decide) k₀) ?_
      show F T287 (mkF m 302 #[.val (.int p1), .val (.int p2), .val (.int p3), .val (.int p4), .val (.int p5), .val (.int (3 : Int32)), .val (.ref b11), .val (.int p3), .val (.ref b81), .val (.int (1 : Int32)), .val (.int (1 : Int32))] [(.int (1 : Int32))])
      refine hst (fun t₀ k₀ => XS.istore X287.here hx rfl (hb hby at_302) rfl (l' := #[.val (.int p1), .val (.int p2), .val (.int p3), .val (.int p4), .val (.int p5), .val (.int (3 : Int32)), .val (.ref b11), .val (.int p3), .val (.ref b81), .val (.int (1 : Int32)), .val (.int (1 : Int32))]) rfl k₀) ?_
      show F T287 (mkF m 304 #[.val (.int p1), .val (.int p2), .val (.int p3), .val (.int p4), .val (.int p5), .val (.int (3 : Int32)), .val (.ref b11), .val (.int p3), .val (.ref b81), .val (.int (1 : Int32)), .val (.int (1 : Int32))] [])
      refine hst (fun t₀ k₀ => XS.iload X287.here hx rfl (hb hby at_304) rfl k₀) ?_
      show F T287 (mkF m 306 #[.val (.int p1), .val (.int p2), .val (.int p3), .val (.int p4), .val (.int p5), .val (.int (3 : Int32)), .val (.ref b11), .val (.int p3), .val (.ref b81), .val (.int (1 : Int32)), .val (.int (1 : Int32))] [(.int (1 : Int32))])
      rw [hF]
      refine own_retN X287 hx hret (by simp) hlk (hb hby at_306) (by decide) (by decide) ?_
      rw [he287]
      exact ⟨rfl, N287⟩
    · -- pc 204: taken
      refine hst (fun t₀ k₀ => XS.icmpYes X168.here hx rfl (pc0 := 204) (pc' := 213) rfl (hb hby at_204) rfl (feq hc204).2 (by decide) (by decide) k₀) ?_
      show F T168 (mkF m 213 #[.val (.int p1), .val (.int p2), .val (.int p3), .val (.int p4), .val (.int p5), .val (.int (3 : Int32)), .val (.ref b11), .val (.int p3), .val (.ref b81), .val (.int (1 : Int32)), .val (.int (-1 : Int32))] [])
      refine hst (fun t₀ k₀ => XS.iload X168.here hx rfl (hb hby at_213) rfl k₀) ?_
      show F T168 (mkF m 215 #[.val (.int p1), .val (.int p2), .val (.int p3), .val (.int p4), .val (.int p5), .val (.int (3 : Int32)), .val (.ref b11), .val (.int p3), .val (.ref b81), .val (.int (1 : Int32)), .val (.int (-1 : Int32))] [(.int (3 : Int32))])
      refine hst (fun t₀ k₀ => XS.iconst X168.here hx rfl (hb hby at_215) k₀) ?_
      show F T168 (mkF m 216 #[.val (.int p1), .val (.int p2), .val (.int p3), .val (.int p4), .val (.int p5), .val (.int (3 : Int32)), .val (.ref b11), .val (.int p3), .val (.ref b81), .val (.int (1 : Int32)), .val (.int (-1 : Int32))] [(.int (2 : Int32)), (.int (3 : Int32))])
      refine hst (fun t₀ k₀ => XS.icmpNo X168.here hx rfl (hb hby at_216) rfl (flt (by decide)).1 k₀) ?_
      show F T168 (mkF m 219 #[.val (.int p1), .val (.int p2), .val (.int p3), .val (.int p4), .val (.int p5), .val (.int (3 : Int32)), .val (.ref b11), .val (.int p3), .val (.ref b81), .val (.int (1 : Int32)), .val (.int (-1 : Int32))] [])
      refine hst (fun t₀ k₀ => XS.iloadN X168.here hx rfl (hb hby at_219) rfl k₀) ?_
      show F T168 (mkF m 220 #[.val (.int p1), .val (.int p2), .val (.int p3), .val (.int p4), .val (.int p5), .val (.int (3 : Int32)), .val (.ref b11), .val (.int p3), .val (.ref b81), .val (.int (1 : Int32)), .val (.int (-1 : Int32))] [(.int p1)])
      refine hst (fun t₀ k₀ => XS.iload X168.here hx rfl (hb hby at_220) rfl k₀) ?_
      show F T168 (mkF m 222 #[.val (.int p1), .val (.int p2), .val (.int p3), .val (.int p4), .val (.int p5), .val (.int (3 : Int32)), .val (.ref b11), .val (.int p3), .val (.ref b81), .val (.int (1 : Int32)), .val (.int (-1 : Int32))] [(.int p3), (.int p1)])
      by_cases hc222 : p1 = p3
      · -- pc 222: not taken
        refine hst (fun t₀ k₀ => XS.icmpNo X168.here hx rfl (hb hby at_222) rfl (teq hc222).2 k₀) ?_
        show F T168 (mkF m 225 #[.val (.int p1), .val (.int p2), .val (.int p3), .val (.int p4), .val (.int p5), .val (.int (3 : Int32)), .val (.ref b11), .val (.int p3), .val (.ref b81), .val (.int (1 : Int32)), .val (.int (-1 : Int32))] [])
        refine hst (fun t₀ k₀ => XS.iconst X168.here hx rfl (hb hby at_225) k₀) ?_
        show F T168 (mkF m 226 #[.val (.int p1), .val (.int p2), .val (.int p3), .val (.int p4), .val (.int p5), .val (.int (3 : Int32)), .val (.ref b11), .val (.int p3), .val (.ref b81), .val (.int (1 : Int32)), .val (.int (-1 : Int32))] [(.int (0 : Int32))])
        refine hst (fun t₀ k₀ => XS.istore X168.here hx rfl (hb hby at_226) rfl (l' := #[.val (.int p1), .val (.int p2), .val (.int p3), .val (.int p4), .val (.int p5), .val (.int (3 : Int32)), .val (.ref b11), .val (.int p3), .val (.ref b81), .val (.int (1 : Int32)), .val (.int (0 : Int32))]) rfl k₀) ?_
        show F T168 (mkF m 228 #[.val (.int p1), .val (.int p2), .val (.int p3), .val (.int p4), .val (.int p5), .val (.int (3 : Int32)), .val (.ref b11), .val (.int p3), .val (.ref b81), .val (.int (1 : Int32)), .val (.int (0 : Int32))] [])
        refine hst (fun t₀ k₀ => XS.iload X168.here hx rfl (hb hby at_228) rfl k₀) ?_
        show F T168 (mkF m 230 #[.val (.int p1), .val (.int p2), .val (.int p3), .val (.int p4), .val (.int p5), .val (.int (3 : Int32)), .val (.ref b11), .val (.int p3), .val (.ref b81), .val (.int (1 : Int32)), .val (.int (0 : Int32))] [(.int (1 : Int32))])
        refine hst (fun t₀ k₀ => XS.ifNo X168.here hx rfl (hb hby at_230) rfl ((if0 _ _).trans (feq (by decide)).1) k₀) ?_
        show F T168 (mkF m 233 #[.val (.int p1), .val (.int p2), .val (.int p3), .val (.int p4), .val (.int p5), .val (.int (3 : Int32)), .val (.ref b11), .val (.int p3), .val (.ref b81), .val (.int (1 : Int32)), .val (.int (0 : Int32))] [])
        refine hst (fun t₀ k₀ => XS.aload X168.here hx rfl (hb hby at_233) rfl rfl k₀) ?_
        show F T168 (mkF m 235 #[.val (.int p1), .val (.int p2), .val (.int p3), .val (.int p4), .val (.int p5), .val (.int (3 : Int32)), .val (.ref b11), .val (.int p3), .val (.ref b81), .val (.int (1 : Int32)), .val (.int (0 : Int32))] [(.ref b11)])
        refine hst (fun t₀ k₀ => XS.iload X168.here hx rfl (hb hby at_235) rfl k₀) ?_
        show F T168 (mkF m 237 #[.val (.int p1), .val (.int p2), .val (.int p3), .val (.int p4), .val (.int p5), .val (.int (3 : Int32)), .val (.ref b11), .val (.int p3), .val (.ref b81), .val (.int (1 : Int32)), .val (.int (0 : Int32))] [(.int p3), (.ref b11)])
        obtain ⟨v237, T237, Lc237, X237, hQ237, st237⟩ := own_callV X168 hx hZ hown (y := (⟨"com/example/hoist/hoist/CreationPath", "lastIndexOf", "(I)I"⟩ : MethodName)) (hw _ (List.mem_of_getElem? (i := 46) rfl)) (hw _ (List.mem_of_getElem? (i := 47) rfl)) (hw _ (List.mem_of_getElem? (i := 49) rfl)) (hw _ (List.mem_of_getElem? (i := 48) rfl)) (hw _ (List.mem_of_getElem? (i := 3) rfl)) (hw _ (List.mem_of_getElem? (i := 50) rfl)) (by decide) he168 q1_15_p81 (rm10 l Z a0 hw [] b11 p3 t_15 cf2_75 ([p1, p2] : List Int32) T81.heap n0 Z0_p81 q2_15_p81 q1_75_p81 is2_75 (Nat.le_of_ble_eq_true rfl)) (by decide) (by decide) (g := (mkF m 237 #[.val (.int p1), .val (.int p2), .val (.int p3), .val (.int p4), .val (.int p5), .val (.int (3 : Int32)), .val (.ref b11), .val (.int p3), .val (.ref b81), .val (.int (1 : Int32)), .val (.int (0 : Int32))] [(.int p3), (.ref b11)])) rfl (by rw [hml]; rfl) (argsL := [(.int p3)]) (rest := []) (lenOf pd_2 rfl) rfl rfl (W := 0) (by show 2 * 0 + _ ≤ _; exact Nat.le_of_eq rfl) (hb hby at_237) (by decide) (by decide)
        obtain ⟨rfl, Nq237, he237⟩ := hQ237
        have N237 := Fr.app N168 Nq237
        refine hst st237 ?_
        show F T237 (mkF m 240 #[.val (.int p1), .val (.int p2), .val (.int p3), .val (.int p4), .val (.int p5), .val (.int (3 : Int32)), .val (.ref b11), .val (.int p3), .val (.ref b81), .val (.int (1 : Int32)), .val (.int (0 : Int32))] [(.int (own_lif ([p1, p2] : List Int32) p3 ([p1, p2] : List Int32).length))])
        refine hst (fun t₀ k₀ => XS.iload X237.here hx rfl (hb hby at_240) rfl k₀) ?_
        show F T237 (mkF m 242 #[.val (.int p1), .val (.int p2), .val (.int p3), .val (.int p4), .val (.int p5), .val (.int (3 : Int32)), .val (.ref b11), .val (.int p3), .val (.ref b81), .val (.int (1 : Int32)), .val (.int (0 : Int32))] [(.int (0 : Int32)), (.int (own_lif ([p1, p2] : List Int32) p3 ([p1, p2] : List Int32).length))])
        refine hst (fun t₀ k₀ => XS.icmpNo X237.here hx rfl (hb hby at_242) rfl (teq (by simp [own_lif, hc204, hc222])).2 k₀) ?_
        show F T237 (mkF m 245 #[.val (.int p1), .val (.int p2), .val (.int p3), .val (.int p4), .val (.int p5), .val (.int (3 : Int32)), .val (.ref b11), .val (.int p3), .val (.ref b81), .val (.int (1 : Int32)), .val (.int (0 : Int32))] [])
        refine hst (fun t₀ k₀ => XS.iconst X237.here hx rfl (hb hby at_245) k₀) ?_
        show F T237 (mkF m 246 #[.val (.int p1), .val (.int p2), .val (.int p3), .val (.int p4), .val (.int p5), .val (.int (3 : Int32)), .val (.ref b11), .val (.int p3), .val (.ref b81), .val (.int (1 : Int32)), .val (.int (0 : Int32))] [(.int (1 : Int32))])
        refine hst (fun t₀ k₀ => XS.goto X237.here hx rfl (pc0 := 246) (pc' := 250) rfl (hb hby at_246) (by decide) (by decide) k₀) ?_
        show F T237 (mkF m 250 #[.val (.int p1), .val (.int p2), .val (.int p3), .val (.int p4), .val (.int p5), .val (.int (3 : Int32)), .val (.ref b11), .val (.int p3), .val (.ref b81), .val (.int (1 : Int32)), .val (.int (0 : Int32))] [(.int (1 : Int32))])
        refine hst (fun t₀ k₀ => XS.istore X237.here hx rfl (hb hby at_250) rfl (l' := #[.val (.int p1), .val (.int p2), .val (.int p3), .val (.int p4), .val (.int p5), .val (.int (3 : Int32)), .val (.ref b11), .val (.int p3), .val (.ref b81), .val (.int (1 : Int32)), .val (.int (0 : Int32))]) rfl k₀) ?_
        show F T237 (mkF m 252 #[.val (.int p1), .val (.int p2), .val (.int p3), .val (.int p4), .val (.int p5), .val (.int (3 : Int32)), .val (.ref b11), .val (.int p3), .val (.ref b81), .val (.int (1 : Int32)), .val (.int (0 : Int32))] [])
        refine hst (fun t₀ k₀ => XS.aload X237.here hx rfl (hb hby at_252) rfl rfl k₀) ?_
        show F T237 (mkF m 254 #[.val (.int p1), .val (.int p2), .val (.int p3), .val (.int p4), .val (.int p5), .val (.int (3 : Int32)), .val (.ref b11), .val (.int p3), .val (.ref b81), .val (.int (1 : Int32)), .val (.int (0 : Int32))] [(.ref b11)])
        refine hst (fun t₀ k₀ => XS.iloadN X237.here hx rfl (hb hby at_254) rfl k₀) ?_
        show F T237 (mkF m 255 #[.val (.int p1), .val (.int p2), .val (.int p3), .val (.int p4), .val (.int p5), .val (.int (3 : Int32)), .val (.ref b11), .val (.int p3), .val (.ref b81), .val (.int (1 : Int32)), .val (.int (0 : Int32))] [(.int p4), (.ref b11)])
        obtain ⟨v255, T255, Lc255, X255, hQ255, st255⟩ := own_callV X237 hx hZ hown (y := (⟨"com/example/hoist/hoist/CreationPath", "enter", "(I)V"⟩ : MethodName)) (hw _ (List.mem_of_getElem? (i := 13) rfl)) (hw _ (List.mem_of_getElem? (i := 14) rfl)) (hw _ (List.mem_of_getElem? (i := 16) rfl)) (hw _ (List.mem_of_getElem? (i := 15) rfl)) (hw _ (List.mem_of_getElem? (i := 3) rfl)) (hw _ (List.mem_of_getElem? (i := 17) rfl)) (by decide) he237 q1_15_p81 (rm3 l Z a0 hw [] b11 p4 t_15 cf2_75 ([p1, p2] : List Int32) T81.heap n0 Z0_p81 q2_15_p81 q1_75_p81 ge_t_15 is2_75 (Nat.le_of_ble_eq_true rfl) ne_b11_t_15) (by decide) (by decide) (g := (mkF m 255 #[.val (.int p1), .val (.int p2), .val (.int p3), .val (.int p4), .val (.int p5), .val (.int (3 : Int32)), .val (.ref b11), .val (.int p3), .val (.ref b81), .val (.int (1 : Int32)), .val (.int (0 : Int32))] [(.int p4), (.ref b11)])) rfl (by rw [hml]; rfl) (argsL := [(.int p4)]) (rest := []) (lenOf pd_3 rfl) rfl rfl (W := 0) (by show 2 * 0 + _ ≤ _; exact Nat.le_of_eq rfl) (hb hby at_255) (by decide) (by decide)
        obtain ⟨cf2_255, rfl, Nq255, K255, q1_255, is2_255⟩ := hQ255
        have N255 := Fr.app N237 Nq255
        have q1_15_p255 : Exa Z T255.heap b11 "com/example/hoist/hoist/CreationPath" := q1_15_p81.keep K255
        have q2_15_p255 : Fld Z T255.heap b11 "com/example/hoist/hoist/CreationPath" "slots" "[I" (.ref t_15) := q2_15_p81.keep K255 (by simp only [List.mem_cons, List.not_mem_nil, or_false, not_or]; exact ne_b11_t_15)
        have Z0_p255 : n0 ≤ T255.heap.size := Nat.le_trans Z0_p81 K255.1
        refine hst st255 ?_
        show F T255 (mkF m 258 #[.val (.int p1), .val (.int p2), .val (.int p3), .val (.int p4), .val (.int p5), .val (.int (3 : Int32)), .val (.ref b11), .val (.int p3), .val (.ref b81), .val (.int (1 : Int32)), .val (.int (0 : Int32))] [])
        refine hst (fun t₀ k₀ => XS.iload X255.here hx rfl (hb hby at_258) rfl k₀) ?_
        show F T255 (mkF m 260 #[.val (.int p1), .val (.int p2), .val (.int p3), .val (.int p4), .val (.int p5), .val (.int (3 : Int32)), .val (.ref b11), .val (.int p3), .val (.ref b81), .val (.int (1 : Int32)), .val (.int (0 : Int32))] [(.int (1 : Int32))])
        refine hst (fun t₀ k₀ => XS.ifNo X255.here hx rfl (hb hby at_260) rfl ((if0 _ _).trans (feq (by decide)).1) k₀) ?_
        show F T255 (mkF m 263 #[.val (.int p1), .val (.int p2), .val (.int p3), .val (.int p4), .val (.int p5), .val (.int (3 : Int32)), .val (.ref b11), .val (.int p3), .val (.ref b81), .val (.int (1 : Int32)), .val (.int (0 : Int32))] [])
        refine hst (fun t₀ k₀ => XS.aload X255.here hx rfl (hb hby at_263) rfl rfl k₀) ?_
        show F T255 (mkF m 265 #[.val (.int p1), .val (.int p2), .val (.int p3), .val (.int p4), .val (.int p5), .val (.int (3 : Int32)), .val (.ref b11), .val (.int p3), .val (.ref b81), .val (.int (1 : Int32)), .val (.int (0 : Int32))] [(.ref b11)])
        obtain ⟨v265, T265, Lc265, X265, hQ265, st265⟩ := own_callV X255 hx hZ hown (y := (⟨"com/example/hoist/hoist/CreationPath", "last", "()I"⟩ : MethodName)) (hw _ (List.mem_of_getElem? (i := 51) rfl)) (hw _ (List.mem_of_getElem? (i := 52) rfl)) (hw _ (List.mem_of_getElem? (i := 54) rfl)) (hw _ (List.mem_of_getElem? (i := 53) rfl)) (hw _ (List.mem_of_getElem? (i := 3) rfl)) (hw _ (List.mem_of_getElem? (i := 55) rfl)) (by decide) rfl q1_15_p255 (rm11 l Z a0 hw [] b11 t_15 cf2_255 ([p1, p2, p4] : List Int32) T255.heap n0 Z0_p255 q2_15_p255 q1_255 is2_255 (Nat.le_of_ble_eq_true rfl) (Nat.le_of_ble_eq_true rfl)) (by decide) (by decide) (g := (mkF m 265 #[.val (.int p1), .val (.int p2), .val (.int p3), .val (.int p4), .val (.int p5), .val (.int (3 : Int32)), .val (.ref b11), .val (.int p3), .val (.ref b81), .val (.int (1 : Int32)), .val (.int (0 : Int32))] [(.ref b11)])) rfl (by rw [hml]; rfl) (argsL := []) (rest := []) (lenOf pd_0 rfl) rfl rfl (W := 0) (by show 2 * 0 + _ ≤ _; exact Nat.le_of_eq rfl) (hb hby at_265) (by decide) (by decide)
        obtain ⟨rfl, Nq265, he265⟩ := hQ265
        have N265 := Fr.app N255 Nq265
        refine hst st265 ?_
        show F T265 (mkF m 268 #[.val (.int p1), .val (.int p2), .val (.int p3), .val (.int p4), .val (.int p5), .val (.int (3 : Int32)), .val (.ref b11), .val (.int p3), .val (.ref b81), .val (.int (1 : Int32)), .val (.int (0 : Int32))] [(.int (([p1, p2, p4] : List Int32).getD (([p1, p2, p4] : List Int32).length - 1) 0))])
        refine hst (fun t₀ k₀ => XS.iloadN X265.here hx rfl (hb hby at_268) rfl k₀) ?_
        show F T265 (mkF m 269 #[.val (.int p1), .val (.int p2), .val (.int p3), .val (.int p4), .val (.int p5), .val (.int (3 : Int32)), .val (.ref b11), .val (.int p3), .val (.ref b81), .val (.int (1 : Int32)), .val (.int (0 : Int32))] [(.int p4), (.int (([p1, p2, p4] : List Int32).getD (([p1, p2, p4] : List Int32).length - 1) 0))])
        refine hst (fun t₀ k₀ => XS.icmpNo X265.here hx rfl (hb hby at_269) rfl (teq rfl).2 k₀) ?_
        show F T265 (mkF m 272 #[.val (.int p1), .val (.int p2), .val (.int p3), .val (.int p4), .val (.int p5), .val (.int (3 : Int32)), .val (.ref b11), .val (.int p3), .val (.ref b81), .val (.int (1 : Int32)), .val (.int (0 : Int32))] [])
        refine hst (fun t₀ k₀ => XS.iconst X265.here hx rfl (hb hby at_272) k₀) ?_
        show F T265 (mkF m 273 #[.val (.int p1), .val (.int p2), .val (.int p3), .val (.int p4), .val (.int p5), .val (.int (3 : Int32)), .val (.ref b11), .val (.int p3), .val (.ref b81), .val (.int (1 : Int32)), .val (.int (0 : Int32))] [(.int (1 : Int32))])
        refine hst (fun t₀ k₀ => XS.goto X265.here hx rfl (pc0 := 273) (pc' := 277) rfl (hb hby at_273) (by decide) (by decide) k₀) ?_
        show F T265 (mkF m 277 #[.val (.int p1), .val (.int p2), .val (.int p3), .val (.int p4), .val (.int p5), .val (.int (3 : Int32)), .val (.ref b11), .val (.int p3), .val (.ref b81), .val (.int (1 : Int32)), .val (.int (0 : Int32))] [(.int (1 : Int32))])
        refine hst (fun t₀ k₀ => XS.istore X265.here hx rfl (hb hby at_277) rfl (l' := #[.val (.int p1), .val (.int p2), .val (.int p3), .val (.int p4), .val (.int p5), .val (.int (3 : Int32)), .val (.ref b11), .val (.int p3), .val (.ref b81), .val (.int (1 : Int32)), .val (.int (0 : Int32))]) rfl k₀) ?_
        show F T265 (mkF m 279 #[.val (.int p1), .val (.int p2), .val (.int p3), .val (.int p4), .val (.int p5), .val (.int (3 : Int32)), .val (.ref b11), .val (.int p3), .val (.ref b81), .val (.int (1 : Int32)), .val (.int (0 : Int32))] [])
        refine hst (fun t₀ k₀ => XS.iload X265.here hx rfl (hb hby at_279) rfl k₀) ?_
        show F T265 (mkF m 281 #[.val (.int p1), .val (.int p2), .val (.int p3), .val (.int p4), .val (.int p5), .val (.int (3 : Int32)), .val (.ref b11), .val (.int p3), .val (.ref b81), .val (.int (1 : Int32)), .val (.int (0 : Int32))] [(.int (1 : Int32))])
        refine hst (fun t₀ k₀ => XS.ifNo X265.here hx rfl (hb hby at_281) rfl ((if0 _ _).trans (feq (by decide)).1) k₀) ?_
        show F T265 (mkF m 284 #[.val (.int p1), .val (.int p2), .val (.int p3), .val (.int p4), .val (.int p5), .val (.int (3 : Int32)), .val (.ref b11), .val (.int p3), .val (.ref b81), .val (.int (1 : Int32)), .val (.int (0 : Int32))] [])
        refine hst (fun t₀ k₀ => XS.aload X265.here hx rfl (hb hby at_284) rfl rfl k₀) ?_
        show F T265 (mkF m 286 #[.val (.int p1), .val (.int p2), .val (.int p3), .val (.int p4), .val (.int p5), .val (.int (3 : Int32)), .val (.ref b11), .val (.int p3), .val (.ref b81), .val (.int (1 : Int32)), .val (.int (0 : Int32))] [(.ref b11)])
        refine hst (fun t₀ k₀ => XS.iloadN X265.here hx rfl (hb hby at_286) rfl k₀) ?_
        show F T265 (mkF m 287 #[.val (.int p1), .val (.int p2), .val (.int p3), .val (.int p4), .val (.int p5), .val (.int (3 : Int32)), .val (.ref b11), .val (.int p3), .val (.ref b81), .val (.int (1 : Int32)), .val (.int (0 : Int32))] [(.int p4), (.ref b11)])
        obtain ⟨v287, T287, Lc287, X287, hQ287, st287⟩ := own_callV X265 hx hZ hown (y := (⟨"com/example/hoist/hoist/CreationPath", "lastIndexOf", "(I)I"⟩ : MethodName)) (hw _ (List.mem_of_getElem? (i := 46) rfl)) (hw _ (List.mem_of_getElem? (i := 47) rfl)) (hw _ (List.mem_of_getElem? (i := 49) rfl)) (hw _ (List.mem_of_getElem? (i := 48) rfl)) (hw _ (List.mem_of_getElem? (i := 3) rfl)) (hw _ (List.mem_of_getElem? (i := 50) rfl)) (by decide) he265 q1_15_p255 (rm10 l Z a0 hw [] b11 p4 t_15 cf2_255 ([p1, p2, p4] : List Int32) T255.heap n0 Z0_p255 q2_15_p255 q1_255 is2_255 (Nat.le_of_ble_eq_true rfl)) (by decide) (by decide) (g := (mkF m 287 #[.val (.int p1), .val (.int p2), .val (.int p3), .val (.int p4), .val (.int p5), .val (.int (3 : Int32)), .val (.ref b11), .val (.int p3), .val (.ref b81), .val (.int (1 : Int32)), .val (.int (0 : Int32))] [(.int p4), (.ref b11)])) rfl (by rw [hml]; rfl) (argsL := [(.int p4)]) (rest := []) (lenOf pd_2 rfl) rfl rfl (W := 0) (by show 2 * 0 + _ ≤ _; exact Nat.le_of_eq rfl) (hb hby at_287) (by decide) (by decide)
        obtain ⟨rfl, Nq287, he287⟩ := hQ287
        have N287 := Fr.app N265 Nq287
        refine hst st287 ?_
        show F T287 (mkF m 290 #[.val (.int p1), .val (.int p2), .val (.int p3), .val (.int p4), .val (.int p5), .val (.int (3 : Int32)), .val (.ref b11), .val (.int p3), .val (.ref b81), .val (.int (1 : Int32)), .val (.int (0 : Int32))] [(.int (own_lif ([p1, p2, p4] : List Int32) p4 ([p1, p2, p4] : List Int32).length))])
        refine hst (fun t₀ k₀ => XS.iload X287.here hx rfl (hb hby at_290) rfl k₀) ?_
        show F T287 (mkF m 292 #[.val (.int p1), .val (.int p2), .val (.int p3), .val (.int p4), .val (.int p5), .val (.int (3 : Int32)), .val (.ref b11), .val (.int p3), .val (.ref b81), .val (.int (1 : Int32)), .val (.int (0 : Int32))] [(.int (3 : Int32)), (.int (own_lif ([p1, p2, p4] : List Int32) p4 ([p1, p2, p4] : List Int32).length))])
        refine hst (fun t₀ k₀ => XS.iconst X287.here hx rfl (hb hby at_292) k₀) ?_
        show F T287 (mkF m 293 #[.val (.int p1), .val (.int p2), .val (.int p3), .val (.int p4), .val (.int p5), .val (.int (3 : Int32)), .val (.ref b11), .val (.int p3), .val (.ref b81), .val (.int (1 : Int32)), .val (.int (0 : Int32))] [(.int (1 : Int32)), (.int (3 : Int32)), (.int (own_lif ([p1, p2, p4] : List Int32) p4 ([p1, p2, p4] : List Int32).length))])
        refine hst (fun t₀ k₀ => XS.isub X287.here hx rfl (hb hby at_293) rfl k₀) ?_
        show F T287 (mkF m 294 #[.val (.int p1), .val (.int p2), .val (.int p3), .val (.int p4), .val (.int p5), .val (.int (3 : Int32)), .val (.ref b11), .val (.int p3), .val (.ref b81), .val (.int (1 : Int32)), .val (.int (0 : Int32))] [(.int ((3 : Int32) - (1 : Int32))), (.int (own_lif ([p1, p2, p4] : List Int32) p4 ([p1, p2, p4] : List Int32).length))])
        show F T287 (mkF m 294 #[.val (.int p1), .val (.int p2), .val (.int p3), .val (.int p4), .val (.int p5), .val (.int (3 : Int32)), .val (.ref b11), .val (.int p3), .val (.ref b81), .val (.int (1 : Int32)), .val (.int (0 : Int32))] [(.int (2 : Int32)), (.int (own_lif ([p1, p2, p4] : List Int32) p4 ([p1, p2, p4] : List Int32).length))])
        refine hst (fun t₀ k₀ => XS.icmpNo X287.here hx rfl (hb hby at_294) rfl (teq (by simp [own_lif])).2 k₀) ?_
        show F T287 (mkF m 297 #[.val (.int p1), .val (.int p2), .val (.int p3), .val (.int p4), .val (.int p5), .val (.int (3 : Int32)), .val (.ref b11), .val (.int p3), .val (.ref b81), .val (.int (1 : Int32)), .val (.int (0 : Int32))] [])
        refine hst (fun t₀ k₀ => XS.iconst X287.here hx rfl (hb hby at_297) k₀) ?_
        show F T287 (mkF m 298 #[.val (.int p1), .val (.int p2), .val (.int p3), .val (.int p4), .val (.int p5), .val (.int (3 : Int32)), .val (.ref b11), .val (.int p3), .val (.ref b81), .val (.int (1 : Int32)), .val (.int (0 : Int32))] [(.int (1 : Int32))])
        refine hst (fun t₀ k₀ => XS.goto X287.here hx rfl (pc0 := 298) (pc' := 302) rfl (hb hby at_298) (by decide) (by decide) k₀) ?_
        show F T287 (mkF m 302 #[.val (.int p1), .val (.int p2), .val (.int p3), .val (.int p4), .val (.int p5), .val (.int (3 : Int32)), .val (.ref b11), .val (.int p3), .val (.ref b81), .val (.int (1 : Int32)), .val (.int (0 : Int32))] [(.int (1 : Int32))])
        refine hst (fun t₀ k₀ => XS.istore X287.here hx rfl (hb hby at_302) rfl (l' := #[.val (.int p1), .val (.int p2), .val (.int p3), .val (.int p4), .val (.int p5), .val (.int (3 : Int32)), .val (.ref b11), .val (.int p3), .val (.ref b81), .val (.int (1 : Int32)), .val (.int (0 : Int32))]) rfl k₀) ?_
        show F T287 (mkF m 304 #[.val (.int p1), .val (.int p2), .val (.int p3), .val (.int p4), .val (.int p5), .val (.int (3 : Int32)), .val (.ref b11), .val (.int p3), .val (.ref b81), .val (.int (1 : Int32)), .val (.int (0 : Int32))] [])
        refine hst (fun t₀ k₀ => XS.iload X287.here hx rfl (hb hby at_304) rfl k₀) ?_
        show F T287 (mkF m 306 #[.val (.int p1), .val (.int p2), .val (.int p3), .val (.int p4), .val (.int p5), .val (.int (3 : Int32)), .val (.ref b11), .val (.int p3), .val (.ref b81), .val (.int (1 : Int32)), .val (.int (0 : Int32))] [(.int (1 : Int32))])
        rw [hF]
        refine own_retN X287 hx hret (by simp) hlk (hb hby at_306) (by decide) (by decide) ?_
        rw [he287]
        exact ⟨rfl, N287⟩
      · -- pc 222: taken
        refine hst (fun t₀ k₀ => XS.icmpYes X168.here hx rfl (pc0 := 222) (pc' := 228) rfl (hb hby at_222) rfl (feq hc222).2 (by decide) (by decide) k₀) ?_
        show F T168 (mkF m 228 #[.val (.int p1), .val (.int p2), .val (.int p3), .val (.int p4), .val (.int p5), .val (.int (3 : Int32)), .val (.ref b11), .val (.int p3), .val (.ref b81), .val (.int (1 : Int32)), .val (.int (-1 : Int32))] [])
        refine hst (fun t₀ k₀ => XS.iload X168.here hx rfl (hb hby at_228) rfl k₀) ?_
        show F T168 (mkF m 230 #[.val (.int p1), .val (.int p2), .val (.int p3), .val (.int p4), .val (.int p5), .val (.int (3 : Int32)), .val (.ref b11), .val (.int p3), .val (.ref b81), .val (.int (1 : Int32)), .val (.int (-1 : Int32))] [(.int (1 : Int32))])
        refine hst (fun t₀ k₀ => XS.ifNo X168.here hx rfl (hb hby at_230) rfl ((if0 _ _).trans (feq (by decide)).1) k₀) ?_
        show F T168 (mkF m 233 #[.val (.int p1), .val (.int p2), .val (.int p3), .val (.int p4), .val (.int p5), .val (.int (3 : Int32)), .val (.ref b11), .val (.int p3), .val (.ref b81), .val (.int (1 : Int32)), .val (.int (-1 : Int32))] [])
        refine hst (fun t₀ k₀ => XS.aload X168.here hx rfl (hb hby at_233) rfl rfl k₀) ?_
        show F T168 (mkF m 235 #[.val (.int p1), .val (.int p2), .val (.int p3), .val (.int p4), .val (.int p5), .val (.int (3 : Int32)), .val (.ref b11), .val (.int p3), .val (.ref b81), .val (.int (1 : Int32)), .val (.int (-1 : Int32))] [(.ref b11)])
        refine hst (fun t₀ k₀ => XS.iload X168.here hx rfl (hb hby at_235) rfl k₀) ?_
        show F T168 (mkF m 237 #[.val (.int p1), .val (.int p2), .val (.int p3), .val (.int p4), .val (.int p5), .val (.int (3 : Int32)), .val (.ref b11), .val (.int p3), .val (.ref b81), .val (.int (1 : Int32)), .val (.int (-1 : Int32))] [(.int p3), (.ref b11)])
        obtain ⟨v237, T237, Lc237, X237, hQ237, st237⟩ := own_callV X168 hx hZ hown (y := (⟨"com/example/hoist/hoist/CreationPath", "lastIndexOf", "(I)I"⟩ : MethodName)) (hw _ (List.mem_of_getElem? (i := 46) rfl)) (hw _ (List.mem_of_getElem? (i := 47) rfl)) (hw _ (List.mem_of_getElem? (i := 49) rfl)) (hw _ (List.mem_of_getElem? (i := 48) rfl)) (hw _ (List.mem_of_getElem? (i := 3) rfl)) (hw _ (List.mem_of_getElem? (i := 50) rfl)) (by decide) he168 q1_15_p81 (rm10 l Z a0 hw [] b11 p3 t_15 cf2_75 ([p1, p2] : List Int32) T81.heap n0 Z0_p81 q2_15_p81 q1_75_p81 is2_75 (Nat.le_of_ble_eq_true rfl)) (by decide) (by decide) (g := (mkF m 237 #[.val (.int p1), .val (.int p2), .val (.int p3), .val (.int p4), .val (.int p5), .val (.int (3 : Int32)), .val (.ref b11), .val (.int p3), .val (.ref b81), .val (.int (1 : Int32)), .val (.int (-1 : Int32))] [(.int p3), (.ref b11)])) rfl (by rw [hml]; rfl) (argsL := [(.int p3)]) (rest := []) (lenOf pd_2 rfl) rfl rfl (W := 0) (by show 2 * 0 + _ ≤ _; exact Nat.le_of_eq rfl) (hb hby at_237) (by decide) (by decide)
        obtain ⟨rfl, Nq237, he237⟩ := hQ237
        have N237 := Fr.app N168 Nq237
        refine hst st237 ?_
        show F T237 (mkF m 240 #[.val (.int p1), .val (.int p2), .val (.int p3), .val (.int p4), .val (.int p5), .val (.int (3 : Int32)), .val (.ref b11), .val (.int p3), .val (.ref b81), .val (.int (1 : Int32)), .val (.int (-1 : Int32))] [(.int (own_lif ([p1, p2] : List Int32) p3 ([p1, p2] : List Int32).length))])
        refine hst (fun t₀ k₀ => XS.iload X237.here hx rfl (hb hby at_240) rfl k₀) ?_
        show F T237 (mkF m 242 #[.val (.int p1), .val (.int p2), .val (.int p3), .val (.int p4), .val (.int p5), .val (.int (3 : Int32)), .val (.ref b11), .val (.int p3), .val (.ref b81), .val (.int (1 : Int32)), .val (.int (-1 : Int32))] [(.int (-1 : Int32)), (.int (own_lif ([p1, p2] : List Int32) p3 ([p1, p2] : List Int32).length))])
        refine hst (fun t₀ k₀ => XS.icmpNo X237.here hx rfl (hb hby at_242) rfl (teq (by simp [own_lif, hc204, hc222])).2 k₀) ?_
        show F T237 (mkF m 245 #[.val (.int p1), .val (.int p2), .val (.int p3), .val (.int p4), .val (.int p5), .val (.int (3 : Int32)), .val (.ref b11), .val (.int p3), .val (.ref b81), .val (.int (1 : Int32)), .val (.int (-1 : Int32))] [])
        refine hst (fun t₀ k₀ => XS.iconst X237.here hx rfl (hb hby at_245) k₀) ?_
        show F T237 (mkF m 246 #[.val (.int p1), .val (.int p2), .val (.int p3), .val (.int p4), .val (.int p5), .val (.int (3 : Int32)), .val (.ref b11), .val (.int p3), .val (.ref b81), .val (.int (1 : Int32)), .val (.int (-1 : Int32))] [(.int (1 : Int32))])
        refine hst (fun t₀ k₀ => XS.goto X237.here hx rfl (pc0 := 246) (pc' := 250) rfl (hb hby at_246) (by decide) (by decide) k₀) ?_
        show F T237 (mkF m 250 #[.val (.int p1), .val (.int p2), .val (.int p3), .val (.int p4), .val (.int p5), .val (.int (3 : Int32)), .val (.ref b11), .val (.int p3), .val (.ref b81), .val (.int (1 : Int32)), .val (.int (-1 : Int32))] [(.int (1 : Int32))])
        refine hst (fun t₀ k₀ => XS.istore X237.here hx rfl (hb hby at_250) rfl (l' := #[.val (.int p1), .val (.int p2), .val (.int p3), .val (.int p4), .val (.int p5), .val (.int (3 : Int32)), .val (.ref b11), .val (.int p3), .val (.ref b81), .val (.int (1 : Int32)), .val (.int (-1 : Int32))]) rfl k₀) ?_
        show F T237 (mkF m 252 #[.val (.int p1), .val (.int p2), .val (.int p3), .val (.int p4), .val (.int p5), .val (.int (3 : Int32)), .val (.ref b11), .val (.int p3), .val (.ref b81), .val (.int (1 : Int32)), .val (.int (-1 : Int32))] [])
        refine hst (fun t₀ k₀ => XS.aload X237.here hx rfl (hb hby at_252) rfl rfl k₀) ?_
        show F T237 (mkF m 254 #[.val (.int p1), .val (.int p2), .val (.int p3), .val (.int p4), .val (.int p5), .val (.int (3 : Int32)), .val (.ref b11), .val (.int p3), .val (.ref b81), .val (.int (1 : Int32)), .val (.int (-1 : Int32))] [(.ref b11)])
        refine hst (fun t₀ k₀ => XS.iloadN X237.here hx rfl (hb hby at_254) rfl k₀) ?_
        show F T237 (mkF m 255 #[.val (.int p1), .val (.int p2), .val (.int p3), .val (.int p4), .val (.int p5), .val (.int (3 : Int32)), .val (.ref b11), .val (.int p3), .val (.ref b81), .val (.int (1 : Int32)), .val (.int (-1 : Int32))] [(.int p4), (.ref b11)])
        obtain ⟨v255, T255, Lc255, X255, hQ255, st255⟩ := own_callV X237 hx hZ hown (y := (⟨"com/example/hoist/hoist/CreationPath", "enter", "(I)V"⟩ : MethodName)) (hw _ (List.mem_of_getElem? (i := 13) rfl)) (hw _ (List.mem_of_getElem? (i := 14) rfl)) (hw _ (List.mem_of_getElem? (i := 16) rfl)) (hw _ (List.mem_of_getElem? (i := 15) rfl)) (hw _ (List.mem_of_getElem? (i := 3) rfl)) (hw _ (List.mem_of_getElem? (i := 17) rfl)) (by decide) he237 q1_15_p81 (rm3 l Z a0 hw [] b11 p4 t_15 cf2_75 ([p1, p2] : List Int32) T81.heap n0 Z0_p81 q2_15_p81 q1_75_p81 ge_t_15 is2_75 (Nat.le_of_ble_eq_true rfl) ne_b11_t_15) (by decide) (by decide) (g := (mkF m 255 #[.val (.int p1), .val (.int p2), .val (.int p3), .val (.int p4), .val (.int p5), .val (.int (3 : Int32)), .val (.ref b11), .val (.int p3), .val (.ref b81), .val (.int (1 : Int32)), .val (.int (-1 : Int32))] [(.int p4), (.ref b11)])) rfl (by rw [hml]; rfl) (argsL := [(.int p4)]) (rest := []) (lenOf pd_3 rfl) rfl rfl (W := 0) (by show 2 * 0 + _ ≤ _; exact Nat.le_of_eq rfl) (hb hby at_255) (by decide) (by decide)
        obtain ⟨cf2_255, rfl, Nq255, K255, q1_255, is2_255⟩ := hQ255
        have N255 := Fr.app N237 Nq255
        have q1_15_p255 : Exa Z T255.heap b11 "com/example/hoist/hoist/CreationPath" := q1_15_p81.keep K255
        have q2_15_p255 : Fld Z T255.heap b11 "com/example/hoist/hoist/CreationPath" "slots" "[I" (.ref t_15) := q2_15_p81.keep K255 (by simp only [List.mem_cons, List.not_mem_nil, or_false, not_or]; exact ne_b11_t_15)
        have Z0_p255 : n0 ≤ T255.heap.size := Nat.le_trans Z0_p81 K255.1
        refine hst st255 ?_
        show F T255 (mkF m 258 #[.val (.int p1), .val (.int p2), .val (.int p3), .val (.int p4), .val (.int p5), .val (.int (3 : Int32)), .val (.ref b11), .val (.int p3), .val (.ref b81), .val (.int (1 : Int32)), .val (.int (-1 : Int32))] [])
        refine hst (fun t₀ k₀ => XS.iload X255.here hx rfl (hb hby at_258) rfl k₀) ?_
        show F T255 (mkF m 260 #[.val (.int p1), .val (.int p2), .val (.int p3), .val (.int p4), .val (.int p5), .val (.int (3 : Int32)), .val (.ref b11), .val (.int p3), .val (.ref b81), .val (.int (1 : Int32)), .val (.int (-1 : Int32))] [(.int (1 : Int32))])
        refine hst (fun t₀ k₀ => XS.ifNo X255.here hx rfl (hb hby at_260) rfl ((if0 _ _).trans (feq (by decide)).1) k₀) ?_
        show F T255 (mkF m 263 #[.val (.int p1), .val (.int p2), .val (.int p3), .val (.int p4), .val (.int p5), .val (.int (3 : Int32)), .val (.ref b11), .val (.int p3), .val (.ref b81), .val (.int (1 : Int32)), .val (.int (-1 : Int32))] [])
        refine hst (fun t₀ k₀ => XS.aload X255.here hx rfl (hb hby at_263) rfl rfl k₀) ?_
        show F T255 (mkF m 265 #[.val (.int p1), .val (.int p2), .val (.int p3), .val (.int p4), .val (.int p5), .val (.int (3 : Int32)), .val (.ref b11), .val (.int p3), .val (.ref b81), .val (.int (1 : Int32)), .val (.int (-1 : Int32))] [(.ref b11)])
        obtain ⟨v265, T265, Lc265, X265, hQ265, st265⟩ := own_callV X255 hx hZ hown (y := (⟨"com/example/hoist/hoist/CreationPath", "last", "()I"⟩ : MethodName)) (hw _ (List.mem_of_getElem? (i := 51) rfl)) (hw _ (List.mem_of_getElem? (i := 52) rfl)) (hw _ (List.mem_of_getElem? (i := 54) rfl)) (hw _ (List.mem_of_getElem? (i := 53) rfl)) (hw _ (List.mem_of_getElem? (i := 3) rfl)) (hw _ (List.mem_of_getElem? (i := 55) rfl)) (by decide) rfl q1_15_p255 (rm11 l Z a0 hw [] b11 t_15 cf2_255 ([p1, p2, p4] : List Int32) T255.heap n0 Z0_p255 q2_15_p255 q1_255 is2_255 (Nat.le_of_ble_eq_true rfl) (Nat.le_of_ble_eq_true rfl)) (by decide) (by decide) (g := (mkF m 265 #[.val (.int p1), .val (.int p2), .val (.int p3), .val (.int p4), .val (.int p5), .val (.int (3 : Int32)), .val (.ref b11), .val (.int p3), .val (.ref b81), .val (.int (1 : Int32)), .val (.int (-1 : Int32))] [(.ref b11)])) rfl (by rw [hml]; rfl) (argsL := []) (rest := []) (lenOf pd_0 rfl) rfl rfl (W := 0) (by show 2 * 0 + _ ≤ _; exact Nat.le_of_eq rfl) (hb hby at_265) (by decide) (by decide)
        obtain ⟨rfl, Nq265, he265⟩ := hQ265
        have N265 := Fr.app N255 Nq265
        refine hst st265 ?_
        show F T265 (mkF m 268 #[.val (.int p1), .val (.int p2), .val (.int p3), .val (.int p4), .val (.int p5), .val (.int (3 : Int32)), .val (.ref b11), .val (.int p3), .val (.ref b81), .val (.int (1 : Int32)), .val (.int (-1 : Int32))] [(.int (([p1, p2, p4] : List Int32).getD (([p1, p2, p4] : List Int32).length - 1) 0))])
        refine hst (fun t₀ k₀ => XS.iloadN X265.here hx rfl (hb hby at_268) rfl k₀) ?_
        show F T265 (mkF m 269 #[.val (.int p1), .val (.int p2), .val (.int p3), .val (.int p4), .val (.int p5), .val (.int (3 : Int32)), .val (.ref b11), .val (.int p3), .val (.ref b81), .val (.int (1 : Int32)), .val (.int (-1 : Int32))] [(.int p4), (.int (([p1, p2, p4] : List Int32).getD (([p1, p2, p4] : List Int32).length - 1) 0))])
        refine hst (fun t₀ k₀ => XS.icmpNo X265.here hx rfl (hb hby at_269) rfl (teq rfl).2 k₀) ?_
        show F T265 (mkF m 272 #[.val (.int p1), .val (.int p2), .val (.int p3), .val (.int p4), .val (.int p5), .val (.int (3 : Int32)), .val (.ref b11), .val (.int p3), .val (.ref b81), .val (.int (1 : Int32)), .val (.int (-1 : Int32))] [])
        refine hst (fun t₀ k₀ => XS.iconst X265.here hx rfl (hb hby at_272) k₀) ?_
        show F T265 (mkF m 273 #[.val (.int p1), .val (.int p2), .val (.int p3), .val (.int p4), .val (.int p5), .val (.int (3 : Int32)), .val (.ref b11), .val (.int p3), .val (.ref b81), .val (.int (1 : Int32)), .val (.int (-1 : Int32))] [(.int (1 : Int32))])
        refine hst (fun t₀ k₀ => XS.goto X265.here hx rfl (pc0 := 273) (pc' := 277) rfl (hb hby at_273) (by decide) (by decide) k₀) ?_
        show F T265 (mkF m 277 #[.val (.int p1), .val (.int p2), .val (.int p3), .val (.int p4), .val (.int p5), .val (.int (3 : Int32)), .val (.ref b11), .val (.int p3), .val (.ref b81), .val (.int (1 : Int32)), .val (.int (-1 : Int32))] [(.int (1 : Int32))])
        refine hst (fun t₀ k₀ => XS.istore X265.here hx rfl (hb hby at_277) rfl (l' := #[.val (.int p1), .val (.int p2), .val (.int p3), .val (.int p4), .val (.int p5), .val (.int (3 : Int32)), .val (.ref b11), .val (.int p3), .val (.ref b81), .val (.int (1 : Int32)), .val (.int (-1 : Int32))]) rfl k₀) ?_
        show F T265 (mkF m 279 #[.val (.int p1), .val (.int p2), .val (.int p3), .val (.int p4), .val (.int p5), .val (.int (3 : Int32)), .val (.ref b11), .val (.int p3), .val (.ref b81), .val (.int (1 : Int32)), .val (.int (-1 : Int32))] [])
        refine hst (fun t₀ k₀ => XS.iload X265.here hx rfl (hb hby at_279) rfl k₀) ?_
        show F T265 (mkF m 281 #[.val (.int p1), .val (.int p2), .val (.int p3), .val (.int p4), .val (.int p5), .val (.int (3 : Int32)), .val (.ref b11), .val (.int p3), .val (.ref b81), .val (.int (1 : Int32)), .val (.int (-1 : Int32))] [(.int (1 : Int32))])
        refine hst (fun t₀ k₀ => XS.ifNo X265.here hx rfl (hb hby at_281) rfl ((if0 _ _).trans (feq (by decide)).1) k₀) ?_
        show F T265 (mkF m 284 #[.val (.int p1), .val (.int p2), .val (.int p3), .val (.int p4), .val (.int p5), .val (.int (3 : Int32)), .val (.ref b11), .val (.int p3), .val (.ref b81), .val (.int (1 : Int32)), .val (.int (-1 : Int32))] [])
        refine hst (fun t₀ k₀ => XS.aload X265.here hx rfl (hb hby at_284) rfl rfl k₀) ?_
        show F T265 (mkF m 286 #[.val (.int p1), .val (.int p2), .val (.int p3), .val (.int p4), .val (.int p5), .val (.int (3 : Int32)), .val (.ref b11), .val (.int p3), .val (.ref b81), .val (.int (1 : Int32)), .val (.int (-1 : Int32))] [(.ref b11)])
        refine hst (fun t₀ k₀ => XS.iloadN X265.here hx rfl (hb hby at_286) rfl k₀) ?_
        show F T265 (mkF m 287 #[.val (.int p1), .val (.int p2), .val (.int p3), .val (.int p4), .val (.int p5), .val (.int (3 : Int32)), .val (.ref b11), .val (.int p3), .val (.ref b81), .val (.int (1 : Int32)), .val (.int (-1 : Int32))] [(.int p4), (.ref b11)])
        obtain ⟨v287, T287, Lc287, X287, hQ287, st287⟩ := own_callV X265 hx hZ hown (y := (⟨"com/example/hoist/hoist/CreationPath", "lastIndexOf", "(I)I"⟩ : MethodName)) (hw _ (List.mem_of_getElem? (i := 46) rfl)) (hw _ (List.mem_of_getElem? (i := 47) rfl)) (hw _ (List.mem_of_getElem? (i := 49) rfl)) (hw _ (List.mem_of_getElem? (i := 48) rfl)) (hw _ (List.mem_of_getElem? (i := 3) rfl)) (hw _ (List.mem_of_getElem? (i := 50) rfl)) (by decide) he265 q1_15_p255 (rm10 l Z a0 hw [] b11 p4 t_15 cf2_255 ([p1, p2, p4] : List Int32) T255.heap n0 Z0_p255 q2_15_p255 q1_255 is2_255 (Nat.le_of_ble_eq_true rfl)) (by decide) (by decide) (g := (mkF m 287 #[.val (.int p1), .val (.int p2), .val (.int p3), .val (.int p4), .val (.int p5), .val (.int (3 : Int32)), .val (.ref b11), .val (.int p3), .val (.ref b81), .val (.int (1 : Int32)), .val (.int (-1 : Int32))] [(.int p4), (.ref b11)])) rfl (by rw [hml]; rfl) (argsL := [(.int p4)]) (rest := []) (lenOf pd_2 rfl) rfl rfl (W := 0) (by show 2 * 0 + _ ≤ _; exact Nat.le_of_eq rfl) (hb hby at_287) (by decide) (by decide)
        obtain ⟨rfl, Nq287, he287⟩ := hQ287
        have N287 := Fr.app N265 Nq287
        refine hst st287 ?_
        show F T287 (mkF m 290 #[.val (.int p1), .val (.int p2), .val (.int p3), .val (.int p4), .val (.int p5), .val (.int (3 : Int32)), .val (.ref b11), .val (.int p3), .val (.ref b81), .val (.int (1 : Int32)), .val (.int (-1 : Int32))] [(.int (own_lif ([p1, p2, p4] : List Int32) p4 ([p1, p2, p4] : List Int32).length))])
        refine hst (fun t₀ k₀ => XS.iload X287.here hx rfl (hb hby at_290) rfl k₀) ?_
        show F T287 (mkF m 292 #[.val (.int p1), .val (.int p2), .val (.int p3), .val (.int p4), .val (.int p5), .val (.int (3 : Int32)), .val (.ref b11), .val (.int p3), .val (.ref b81), .val (.int (1 : Int32)), .val (.int (-1 : Int32))] [(.int (3 : Int32)), (.int (own_lif ([p1, p2, p4] : List Int32) p4 ([p1, p2, p4] : List Int32).length))])
        refine hst (fun t₀ k₀ => XS.iconst X287.here hx rfl (hb hby at_292) k₀) ?_
        show F T287 (mkF m 293 #[.val (.int p1), .val (.int p2), .val (.int p3), .val (.int p4), .val (.int p5), .val (.int (3 : Int32)), .val (.ref b11), .val (.int p3), .val (.ref b81), .val (.int (1 : Int32)), .val (.int (-1 : Int32))] [(.int (1 : Int32)), (.int (3 : Int32)), (.int (own_lif ([p1, p2, p4] : List Int32) p4 ([p1, p2, p4] : List Int32).length))])
        refine hst (fun t₀ k₀ => XS.isub X287.here hx rfl (hb hby at_293) rfl k₀) ?_
        show F T287 (mkF m 294 #[.val (.int p1), .val (.int p2), .val (.int p3), .val (.int p4), .val (.int p5), .val (.int (3 : Int32)), .val (.ref b11), .val (.int p3), .val (.ref b81), .val (.int (1 : Int32)), .val (.int (-1 : Int32))] [(.int ((3 : Int32) - (1 : Int32))), (.int (own_lif ([p1, p2, p4] : List Int32) p4 ([p1, p2, p4] : List Int32).length))])
        show F T287 (mkF m 294 #[.val (.int p1), .val (.int p2), .val (.int p3), .val (.int p4), .val (.int p5), .val (.int (3 : Int32)), .val (.ref b11), .val (.int p3), .val (.ref b81), .val (.int (1 : Int32)), .val (.int (-1 : Int32))] [(.int (2 : Int32)), (.int (own_lif ([p1, p2, p4] : List Int32) p4 ([p1, p2, p4] : List Int32).length))])
        refine hst (fun t₀ k₀ => XS.icmpNo X287.here hx rfl (hb hby at_294) rfl (teq (by simp [own_lif])).2 k₀) ?_
        show F T287 (mkF m 297 #[.val (.int p1), .val (.int p2), .val (.int p3), .val (.int p4), .val (.int p5), .val (.int (3 : Int32)), .val (.ref b11), .val (.int p3), .val (.ref b81), .val (.int (1 : Int32)), .val (.int (-1 : Int32))] [])
        refine hst (fun t₀ k₀ => XS.iconst X287.here hx rfl (hb hby at_297) k₀) ?_
        show F T287 (mkF m 298 #[.val (.int p1), .val (.int p2), .val (.int p3), .val (.int p4), .val (.int p5), .val (.int (3 : Int32)), .val (.ref b11), .val (.int p3), .val (.ref b81), .val (.int (1 : Int32)), .val (.int (-1 : Int32))] [(.int (1 : Int32))])
        refine hst (fun t₀ k₀ => XS.goto X287.here hx rfl (pc0 := 298) (pc' := 302) rfl (hb hby at_298) (by decide) (by decide) k₀) ?_
        show F T287 (mkF m 302 #[.val (.int p1), .val (.int p2), .val (.int p3), .val (.int p4), .val (.int p5), .val (.int (3 : Int32)), .val (.ref b11), .val (.int p3), .val (.ref b81), .val (.int (1 : Int32)), .val (.int (-1 : Int32))] [(.int (1 : Int32))])
        refine hst (fun t₀ k₀ => XS.istore X287.here hx rfl (hb hby at_302) rfl (l' := #[.val (.int p1), .val (.int p2), .val (.int p3), .val (.int p4), .val (.int p5), .val (.int (3 : Int32)), .val (.ref b11), .val (.int p3), .val (.ref b81), .val (.int (1 : Int32)), .val (.int (-1 : Int32))]) rfl k₀) ?_
        show F T287 (mkF m 304 #[.val (.int p1), .val (.int p2), .val (.int p3), .val (.int p4), .val (.int p5), .val (.int (3 : Int32)), .val (.ref b11), .val (.int p3), .val (.ref b81), .val (.int (1 : Int32)), .val (.int (-1 : Int32))] [])
        refine hst (fun t₀ k₀ => XS.iload X287.here hx rfl (hb hby at_304) rfl k₀) ?_
        show F T287 (mkF m 306 #[.val (.int p1), .val (.int p2), .val (.int p3), .val (.int p4), .val (.int p5), .val (.int (3 : Int32)), .val (.ref b11), .val (.int p3), .val (.ref b81), .val (.int (1 : Int32)), .val (.int (-1 : Int32))] [(.int (1 : Int32))])
        rw [hF]
        refine own_retN X287 hx hret (by simp) hlk (hb hby at_306) (by decide) (by decide) ?_
        rw [he287]
        exact ⟨rfl, N287⟩
set_option maxRecDepth 65536 in
set_option maxHeartbeats 40000000 in
theorem comes_1 {Post : Tables → Env → Array Value → State → Outcome → State → Prop} (hpost : ∀ tb e args s v u, (limb_1_1.after args s (.returned v) u = true ∧ limb_1_2.after args s (.returned v) u = true ∧ True) → FrameEnd s (.returned v) u (Jvm.fieldLocs frame_1_writes args s ++ Jvm.arrayLocs frame_1_arrays args s ++ Jvm.staticLocs frame_1_statics s) 16 256 → Post tb e args s (.returned v) u) :
    ArmFor flags0 classFile x code maxLocals ret World_1 tables_1 room_1 Calls_1 rest_1 Pre_1 Post := by
  intro l hfl _ _ p e ha hc hk s m args below hf hA hF happ hP
  obtain ⟨hcalls, hrest, hpre⟩ := hP
  obtain ⟨-, -, -, hnamed, -, -, -, hat⟩ := (Spec.applies_iff hf).mp happ
  obtain ⟨hg, hn⟩ := and_e (Cond.before_iff.mp (show (Jvm.Cond.and given_1 narrow_1).before args s = true from hpre))
  obtain ⟨g1, g2⟩ := and_e hg
  obtain ⟨g3, g4⟩ := and_e g2
  obtain ⟨g5, g6⟩ := and_e g4
  obtain ⟨g7, g8⟩ := and_e g6
  obtain ⟨g9, g10⟩ := and_e g8
  obtain ⟨w0, w1, w2, w3, w4, rfl⟩ : ∃ w0 w1 w2 w3 w4 : Value, args = #[w0, w1, w2, w3, w4] := by
    have hs : args.size = 5 := by simpa [Cond.value, given_1] using g1
    obtain ⟨L⟩ := args
    match L, hs with
    | [w0, w1, w2, w3, w4], _ => exact ⟨w0, w1, w2, w3, w4, rfl⟩
  have hw := fun d (hd : d ∈ tables_1) => atoms_spec (ws := Jvm.Cond.code x code maxLocals ret :: tables_1) hat d (List.mem_cons_of_mem _ hd)
  obtain ⟨i0, ei0⟩ := is_v g3
  obtain rfl : w0 = (.int i0) := Option.some.inj ei0
  obtain ⟨i1, ei1⟩ := is_v g5
  obtain rfl : w1 = (.int i1) := Option.some.inj ei1
  obtain ⟨i2, ei2⟩ := is_v g7
  obtain rfl : w2 = (.int i2) := Option.some.inj ei2
  obtain ⟨i3, ei3⟩ := is_v g9
  obtain rfl : w3 = (.int i3) := Option.some.inj ei3
  obtain ⟨i4, ei4⟩ := is_v g10
  obtain rfl : w4 = (.int i4) := Option.some.inj ei4
  obtain ⟨n, o, h1, h2, h3, _, L, rfl, ⟨rfl, N⟩, hq⟩ := rm0 l s _ hw tables_1 i0 i1 i2 i3 i4 s.heap s.heap.size (Nat.le_refl _) p e ha hc hk s m _ below hf ((Spec.applies_iff_loose hf).mp happ).1 ⟨rfl, State.Warmed39.refl s, rfl⟩ trivial
  refine ⟨n, _, h1, h2, h3, hpost _ _ _ _ _ _ ⟨Cond.after_iff.mpr rfl, Cond.after_iff.mpr (eq_i res_at (Term.int_eval (1)) rfl), trivial⟩ ⟨hq.1, hq.2.1, (hq.2.2.sift fun y hy => Or.inr (N y hy)).mono (by decide) (by decide)⟩⟩
theorem main_1_1 : Claimed_1_1 := comes_1 fun _ _ _ _ _ _ h hF => ⟨h.1, hF⟩
theorem main_1_2 : Claimed_1_2 := comes_1 fun _ _ _ _ _ _ h hF => ⟨h.2.1, hF⟩
end Jvm.Pilot.@@N@@
namespace Jvm.Pilot.@@N@@
open Jvm Jvm.ClassFile Sem Op Lib Jvm.Free Jvm.Stand Jvm.Pilot.@@N@@.Jvm.D
/-! MADE BY PROGRAM (witnessworld.py) out of the Statement's table words and the real class files: 12 classes; the members and pool entries that the words name. The judged class is class 1, her method 1. -/
namespace start1
open Jvm.ClassFile
def u (s : String) : CpInfo := .utf8 (stringToUtf16 s)
/-- a pool by its gaps: so many unusable entries, then the entry; so many at the end -/
def gap : Nat → List CpInfo → List CpInfo
  | 0, r => r
  | n + 1, r => .unusable :: gap n r
def poolList (es : List (Nat × CpInfo)) (last : Nat) : List CpInfo := es.foldr (fun e r => gap e.1 (e.2 :: r)) (gap last [])
def pool (es : List (Nat × CpInfo)) (last : Nat) : Array CpInfo := ⟨poolList es last⟩
def fileOf (pool : Array CpInfo) (this : Nat) (attrs : Array Attribute := #[]) (ms : Array MethodInfo := #[]) (fl : Nat := 33) (sup : Nat := 0) (ifs : Array Nat := #[]) (fds : Array FieldInfo := #[]) : ClassFile where
  minorVersion := 0
  majorVersion := 65
  constantPool := pool
  accessFlags := fl
  thisClass := this
  superClass := sup
  interfaces := ifs
  fields := fds
  methods := ms
  attributes := attrs
def plain (name : String) (sup : Option ClassId) : Class where
  name := name
  kind := .ordinary
  loader := none
  accessFlags := 33
  super := sup
  interfaces := #[]
  cf := none
  fields := #[]
  methods := #[]
  instanceTypes := #[]
  staticTypes := #[]
  resolved := #[]
  callSites := []
  init := .initialized
  statics := none
  mirror := none

def pool0 : Array CpInfo := pool [(5, u "<init>"), (0, u "()V"), (1, .class_ 10), (1, u "java/lang/Object")] 113

def k0c0 : Code := { maxStack := 0, maxLocals := 1, code := object_method_1_code, exceptionTable := #[], attributes := #[] }
def k0m0 : Method := { name := "<init>", desc := "()V", sig := { parameters := [], returnType := none }, accessFlags := 1, code := some k0c0 }
/-- java/lang/Object -/
def k0 : Class := { plain "java/lang/Object" none with
  accessFlags := 33
  interfaces := #[]
  cf := some (fileOf pool0 8 #[] #[{ accessFlags := 1, nameIndex := 5, descriptorIndex := 6, attributes := #[] }] 33 0 #[] #[])
  fields := #[]
  methods := #[k0m0]
  instanceTypes := #[]
  staticTypes := #[]
  resolved := Array.replicate 124 none
  statics := none }

def pool1 : Array CpInfo := pool [(2, .class_ 4), (0, .nameAndType 5 6), (0, u "java/lang/Object"), (0, u "<init>"), (0, u "()V"), (0, .integer 2147483647), (0, .class_ 9), (0, u "com/example/hoist/hoist/CreationPath"), (0, .methodref 8 3), (0, .methodref 8 12), (0, .nameAndType 13 14), (0, u "enter"), (0, u "(I)V"), (0, .methodref 8 16), (0, .nameAndType 17 6), (0, u "leave"), (0, .methodref 8 19), (0, .nameAndType 20 21), (0, u "from"), (0, u "(I)[I"), (0, .methodref 8 23), (0, .nameAndType 24 25), (0, u "last"), (0, u "()I"), (0, .methodref 8 27), (0, .nameAndType 28 29), (0, u "lastIndexOf"), (0, u "(I)I"), (0, .class_ 31), (0, u "com/example/hoist/hoist/CreationPathLeavePinLaw"), (2, u "law"), (0, u "(IIIII)Z")] 5

def k1m0 : Method := { name := "<init>", desc := "()V", sig := { parameters := [], returnType := none }, accessFlags := 1, code := none }
def k1c1 : Code := { maxStack := 3, maxLocals := 11, code := code, exceptionTable := #[], attributes := #[] }
def k1m1 : Method := { name := "law", desc := "(IIIII)Z", sig := { parameters := [.int, .int, .int, .int, .int], returnType := some .boolean }, accessFlags := 9, code := some k1c1 }
/-- com/example/hoist/hoist/CreationPathLeavePinLaw -/
def k1 : Class := { plain "com/example/hoist/hoist/CreationPathLeavePinLaw" (some 0) with
  accessFlags := 49
  interfaces := #[]
  cf := some (fileOf pool1 30 #[] #[{ accessFlags := 1, nameIndex := 5, descriptorIndex := 6, attributes := #[] }, { accessFlags := 9, nameIndex := 34, descriptorIndex := 35, attributes := #[] }] 49 2 #[] #[])
  fields := #[]
  methods := #[k1m0, k1m1]
  instanceTypes := #[]
  staticTypes := #[]
  resolved := Array.replicate 41 none
  statics := none }

def pool2 : Array CpInfo := pool [(1, .class_ 2), (0, u "com/example/hoist/hoist/CreationPath"), (0, .methodref 4 5), (0, .class_ 6), (0, .nameAndType 7 8), (0, u "java/lang/Object"), (0, u "<init>"), (0, u "()V"), (0, .fieldref 1 10), (0, .nameAndType 11 12), (0, u "slots"), (0, u "[I"), (1, .class_ 16), (1, u "java/util/Arrays"), (4, u "lastIndexOf"), (0, u "(I)I"), (0, .methodref 14 24), (0, .nameAndType 25 26), (0, u "copyOfRange"), (0, u "([III)[I"), (0, u "MARGIN"), (0, u "I"), (2, u "SIZE"), (0, u "FIRST"), (3, u "enter"), (0, u "(I)V"), (2, u "leave"), (0, u "last"), (0, u "()I"), (2, u "from"), (0, u "(I)[I")] 2

def k2c0 : Code := { maxStack := 2, maxLocals := 1, code := prog_4_method_1_code, exceptionTable := #[], attributes := #[] }
def k2m0 : Method := { name := "<init>", desc := "()V", sig := { parameters := [], returnType := none }, accessFlags := 0, code := some k2c0 }
def k2c1 : Code := { maxStack := 4, maxLocals := 4, code := prog_4_method_2_code, exceptionTable := #[], attributes := #[] }
def k2m1 : Method := { name := "enter", desc := "(I)V", sig := { parameters := [.int], returnType := none }, accessFlags := 0, code := some k2c1 }
def k2c2 : Code := { maxStack := 4, maxLocals := 1, code := prog_4_method_3_code, exceptionTable := #[], attributes := #[] }
def k2m2 : Method := { name := "leave", desc := "()V", sig := { parameters := [], returnType := none }, accessFlags := 0, code := some k2c2 }
def k2c3 : Code := { maxStack := 4, maxLocals := 1, code := prog_4_method_4_code, exceptionTable := #[], attributes := #[] }
def k2m3 : Method := { name := "last", desc := "()I", sig := { parameters := [], returnType := some .int }, accessFlags := 0, code := some k2c3 }
def k2c4 : Code := { maxStack := 3, maxLocals := 4, code := prog_4_method_5_code, exceptionTable := #[], attributes := #[] }
def k2m4 : Method := { name := "lastIndexOf", desc := "(I)I", sig := { parameters := [.int], returnType := some .int }, accessFlags := 0, code := some k2c4 }
def k2c5 : Code := { maxStack := 5, maxLocals := 2, code := prog_4_method_7_code, exceptionTable := #[], attributes := #[] }
def k2m5 : Method := { name := "from", desc := "(I)[I", sig := { parameters := [.int], returnType := some (.array .int) }, accessFlags := 0, code := some k2c5 }
/-- com/example/hoist/hoist/CreationPath -/
def k2 : Class := { plain "com/example/hoist/hoist/CreationPath" (some 0) with
  accessFlags := 32
  interfaces := #[]
  cf := some (fileOf pool2 1 #[] #[{ accessFlags := 0, nameIndex := 7, descriptorIndex := 8, attributes := #[] }, { accessFlags := 0, nameIndex := 36, descriptorIndex := 37, attributes := #[] }, { accessFlags := 0, nameIndex := 40, descriptorIndex := 8, attributes := #[] }, { accessFlags := 0, nameIndex := 41, descriptorIndex := 42, attributes := #[] }, { accessFlags := 0, nameIndex := 21, descriptorIndex := 22, attributes := #[] }, { accessFlags := 0, nameIndex := 45, descriptorIndex := 46, attributes := #[] }] 32 4 #[] #[{ accessFlags := 26, nameIndex := 27, descriptorIndex := 28, attributes := #[] }, { accessFlags := 26, nameIndex := 31, descriptorIndex := 28, attributes := #[] }, { accessFlags := 26, nameIndex := 32, descriptorIndex := 28, attributes := #[] }, { accessFlags := 2, nameIndex := 11, descriptorIndex := 12, attributes := #[] }])
  fields := #[{ name := "MARGIN", type := .int, accessFlags := 26, slot := 0, constantValue := 0 }, { name := "SIZE", type := .int, accessFlags := 26, slot := 1, constantValue := 0 }, { name := "FIRST", type := .int, accessFlags := 26, slot := 2, constantValue := 0 }, { name := "slots", type := (.array .int), accessFlags := 2, slot := 0, constantValue := 0 }]
  methods := #[k2m0, k2m1, k2m2, k2m3, k2m4, k2m5]
  instanceTypes := #[(.array .int)]
  staticTypes := #[.int, .int, .int]
  resolved := Array.replicate 49 none
  statics := none }

def pool3 : Array CpInfo := pool [(2, .class_ 4), (1, u "java/lang/Object"), (0, u "<init>"), (0, u "()V"), (7, .class_ 16), (1, u "java/util/Arrays"), (57, .class_ 76), (1, u "java/util/Arrays$NaturalOrder"), (36, .class_ 115), (1, u "java/util/Arrays$LegacyMergeSort"), (1, u "Z"), (21, u "copyOfRange"), (10, .methodref 151 152), (0, .class_ 153), (0, .nameAndType 154 155), (0, u "java/lang/System"), (0, u "arraycopy"), (0, u "(Ljava/lang/Object;ILjava/lang/Object;II)V"), (148, .methodref 305 306), (0, .class_ 307), (0, .nameAndType 308 309), (0, u "java/lang/Math"), (0, u "min"), (0, u "(II)I"), (33, .methodref 14 344), (0, .nameAndType 345 346), (0, u "checkLength"), (0, u "(II)V"), (4, .methodref 14 352), (0, .nameAndType 353 354), (0, u "copyOfRangeInt"), (0, u "([III)[I"), (20, .class_ 376), (0, u "java/util/Arrays$ArrayList"), (68, u "$assertionsDisabled"), (269, u "MIN_ARRAY_SORT_GRAN"), (0, u "I"), (2, u "INSERTIONSORT_THRESHOLD"), (255, .class_ 976), (0, u "java/util/Arrays$ArrayItr")] 52

def k3m0 : Method := { name := "<init>", desc := "()V", sig := { parameters := [], returnType := none }, accessFlags := 2, code := none }
def k3c1 : Code := { maxStack := 4, maxLocals := 2, code := jdk_65_method_131_code, exceptionTable := #[], attributes := #[] }
def k3m1 : Method := { name := "checkLength", desc := "(II)V", sig := { parameters := [.int, .int], returnType := none }, accessFlags := 10, code := some k3c1 }
def k3c2 : Code := { maxStack := 3, maxLocals := 3, code := jdk_65_method_136_code, exceptionTable := #[], attributes := #[] }
def k3m2 : Method := { name := "copyOfRange", desc := "([III)[I", sig := { parameters := [(.array .int), .int, .int], returnType := some (.array .int) }, accessFlags := 9, code := some k3c2 }
def k3c3 : Code := { maxStack := 6, maxLocals := 5, code := jdk_65_method_137_code, exceptionTable := #[], attributes := #[] }
def k3m3 : Method := { name := "copyOfRangeInt", desc := "([III)[I", sig := { parameters := [(.array .int), .int, .int], returnType := some (.array .int) }, accessFlags := 10, code := some k3c3 }
/-- java/util/Arrays -/
def k3 : Class := { plain "java/util/Arrays" (some 0) with
  accessFlags := 49
  interfaces := #[]
  cf := some (fileOf pool3 14 #[.nestMembers #[975, 375, 113, 74]] #[{ accessFlags := 2, nameIndex := 5, descriptorIndex := 6, attributes := #[] }, { accessFlags := 10, nameIndex := 345, descriptorIndex := 346, attributes := #[] }, { accessFlags := 9, nameIndex := 139, descriptorIndex := 354, attributes := #[] }, { accessFlags := 10, nameIndex := 353, descriptorIndex := 354, attributes := #[] }] 49 2 #[] #[{ accessFlags := 26, nameIndex := 715, descriptorIndex := 716, attributes := #[] }, { accessFlags := 26, nameIndex := 719, descriptorIndex := 716, attributes := #[] }, { accessFlags := 4120, nameIndex := 445, descriptorIndex := 117, attributes := #[] }])
  fields := #[{ name := "MIN_ARRAY_SORT_GRAN", type := .int, accessFlags := 26, slot := 0, constantValue := 0 }, { name := "INSERTIONSORT_THRESHOLD", type := .int, accessFlags := 26, slot := 1, constantValue := 0 }, { name := "$assertionsDisabled", type := .boolean, accessFlags := 4120, slot := 2, constantValue := 0 }]
  methods := #[k3m0, k3m1, k3m2, k3m3]
  instanceTypes := #[]
  staticTypes := #[.int, .int, .boolean]
  resolved := Array.replicate 1029 none
  statics := none }

def pool4 : Array CpInfo := pool [(1, .class_ 2), (0, u "java/lang/Math"), (1, .class_ 6), (1, u "java/lang/Object"), (0, u "<init>"), (0, u "()V"), (89, .class_ 100), (1, u "java/lang/Math$RandomNumberGeneratorHolder"), (71, u "negativeZeroFloatBits"), (0, u "J"), (2, u "negativeZeroDoubleBits"), (24, u "min"), (43, u "$assertionsDisabled"), (0, u "Z"), (88, u "(II)I"), (2, u "twoToTheDoubleScaleDown"), (0, u "D"), (4, u "twoToTheDoubleScaleUp"), (9, u "E"), (3, u "PI"), (2, u "TAU"), (2, u "DEGREES_TO_RADIANS"), (0, u "RADIANS_TO_DEGREES")] 94

def k4m0 : Method := { name := "<init>", desc := "()V", sig := { parameters := [], returnType := none }, accessFlags := 2, code := none }
def k4c1 : Code := { maxStack := 2, maxLocals := 2, code := jdk_29_method_69_code, exceptionTable := #[], attributes := #[] }
def k4m1 : Method := { name := "min", desc := "(II)I", sig := { parameters := [.int, .int], returnType := some .int }, accessFlags := 9, code := some k4c1 }
/-- java/lang/Math -/
def k4 : Class := { plain "java/lang/Math" (some 0) with
  accessFlags := 49
  interfaces := #[]
  cf := some (fileOf pool4 1 #[.nestMembers #[98]] #[{ accessFlags := 2, nameIndex := 7, descriptorIndex := 8, attributes := #[] }, { accessFlags := 9, nameIndex := 201, descriptorIndex := 335, attributes := #[] }] 49 4 #[] #[{ accessFlags := 25, nameIndex := 354, descriptorIndex := 339, attributes := #[] }, { accessFlags := 25, nameIndex := 358, descriptorIndex := 339, attributes := #[] }, { accessFlags := 25, nameIndex := 361, descriptorIndex := 339, attributes := #[] }, { accessFlags := 26, nameIndex := 364, descriptorIndex := 339, attributes := #[] }, { accessFlags := 26, nameIndex := 365, descriptorIndex := 339, attributes := #[] }, { accessFlags := 26, nameIndex := 172, descriptorIndex := 173, attributes := #[] }, { accessFlags := 26, nameIndex := 176, descriptorIndex := 173, attributes := #[] }, { accessFlags := 8, nameIndex := 344, descriptorIndex := 339, attributes := #[] }, { accessFlags := 8, nameIndex := 338, descriptorIndex := 339, attributes := #[] }, { accessFlags := 4120, nameIndex := 245, descriptorIndex := 246, attributes := #[] }])
  fields := #[{ name := "E", type := .double, accessFlags := 25, slot := 0, constantValue := 0 }, { name := "PI", type := .double, accessFlags := 25, slot := 1, constantValue := 0 }, { name := "TAU", type := .double, accessFlags := 25, slot := 2, constantValue := 0 }, { name := "DEGREES_TO_RADIANS", type := .double, accessFlags := 26, slot := 3, constantValue := 0 }, { name := "RADIANS_TO_DEGREES", type := .double, accessFlags := 26, slot := 4, constantValue := 0 }, { name := "negativeZeroFloatBits", type := .long, accessFlags := 26, slot := 5, constantValue := 0 }, { name := "negativeZeroDoubleBits", type := .long, accessFlags := 26, slot := 6, constantValue := 0 }, { name := "twoToTheDoubleScaleUp", type := .double, accessFlags := 8, slot := 7, constantValue := 0 }, { name := "twoToTheDoubleScaleDown", type := .double, accessFlags := 8, slot := 8, constantValue := 0 }, { name := "$assertionsDisabled", type := .boolean, accessFlags := 4120, slot := 9, constantValue := 0 }]
  methods := #[k4m0, k4m1]
  instanceTypes := #[]
  staticTypes := #[.double, .double, .double, .double, .double, .long, .long, .double, .double, .boolean]
  resolved := Array.replicate 460 none
  statics := none }

def pool5 : Array CpInfo := pool [(2, .class_ 4), (1, u "java/lang/Object"), (0, u "<init>"), (0, u "()V"), (1, .class_ 10), (1, u "java/lang/System"), (0, u "allowSecurityManager"), (0, u "I"), (16, u "cons"), (0, u "Ljava/io/Console;"), (77, .class_ 110), (1, u "java/lang/System$CallersHolder"), (43, u "initialErrStream"), (0, u "Ljava/io/PrintStream;"), (19, u "security"), (0, u "Ljava/lang/SecurityManager;"), (31, .class_ 209), (0, u "java/lang/System$1"), (7, u "props"), (0, u "Ljava/util/Properties;"), (2, u "lineSeparator"), (0, u "Ljava/lang/String;"), (96, .class_ 321), (1, u "java/lang/System$LoggerFinder"), (5, .class_ 328), (0, u "java/lang/System$Logger"), (67, u "err"), (2, u "out"), (91, u "notSupportedJnuEncoding"), (15, u "in"), (17, u "initialIn"), (0, u "Ljava/io/InputStream;"), (35, u "bootLayer"), (0, u "Ljava/lang/ModuleLayer;"), (99, .class_ 664), (0, u "java/lang/System$2"), (9, u "NEVER"), (2, u "MAYBE"), (49, u "arraycopy"), (0, u "(Ljava/lang/Object;ILjava/lang/Object;II)V"), (72, .class_ 802), (0, u "java/lang/System$Logger$Level")] 31

def k5m0 : Method := { name := "<init>", desc := "()V", sig := { parameters := [], returnType := none }, accessFlags := 2, code := none }
def k5m1 : Method := { name := "arraycopy", desc := "(Ljava/lang/Object;ILjava/lang/Object;II)V", sig := { parameters := [(.object "java/lang/Object"), .int, (.object "java/lang/Object"), .int, .int], returnType := none }, accessFlags := 265, code := none }
/-- java/lang/System -/
def k5 : Class := { plain "java/lang/System" (some 0) with
  accessFlags := 49
  interfaces := #[]
  cf := some (fileOf pool5 8 #[.nestMembers #[319, 327, 801, 108, 663, 208]] #[{ accessFlags := 2, nameIndex := 5, descriptorIndex := 6, attributes := #[] }, { accessFlags := 265, nameIndex := 727, descriptorIndex := 728, attributes := #[] }] 49 2 #[] #[{ accessFlags := 25, nameIndex := 507, descriptorIndex := 526, attributes := #[] }, { accessFlags := 25, nameIndex := 399, descriptorIndex := 155, attributes := #[] }, { accessFlags := 25, nameIndex := 396, descriptorIndex := 155, attributes := #[] }, { accessFlags := 10, nameIndex := 525, descriptorIndex := 526, attributes := #[] }, { accessFlags := 26, nameIndex := 674, descriptorIndex := 12, attributes := #[] }, { accessFlags := 26, nameIndex := 677, descriptorIndex := 12, attributes := #[] }, { accessFlags := 10, nameIndex := 11, descriptorIndex := 12, attributes := #[] }, { accessFlags := 74, nameIndex := 175, descriptorIndex := 176, attributes := #[] }, { accessFlags := 10, nameIndex := 491, descriptorIndex := 222, attributes := #[] }, { accessFlags := 74, nameIndex := 29, descriptorIndex := 30, attributes := #[] }, { accessFlags := 74, nameIndex := 154, descriptorIndex := 155, attributes := #[] }, { accessFlags := 10, nameIndex := 217, descriptorIndex := 218, attributes := #[] }, { accessFlags := 10, nameIndex := 221, descriptorIndex := 222, attributes := #[] }, { accessFlags := 8, nameIndex := 562, descriptorIndex := 563, attributes := #[] }])
  fields := #[{ name := "in", type := (.object "java/io/InputStream"), accessFlags := 25, slot := 0, constantValue := 0 }, { name := "out", type := (.object "java/io/PrintStream"), accessFlags := 25, slot := 1, constantValue := 0 }, { name := "err", type := (.object "java/io/PrintStream"), accessFlags := 25, slot := 2, constantValue := 0 }, { name := "initialIn", type := (.object "java/io/InputStream"), accessFlags := 10, slot := 3, constantValue := 0 }, { name := "NEVER", type := .int, accessFlags := 26, slot := 4, constantValue := 0 }, { name := "MAYBE", type := .int, accessFlags := 26, slot := 5, constantValue := 0 }, { name := "allowSecurityManager", type := .int, accessFlags := 10, slot := 6, constantValue := 0 }, { name := "security", type := (.object "java/lang/SecurityManager"), accessFlags := 74, slot := 7, constantValue := 0 }, { name := "notSupportedJnuEncoding", type := (.object "java/lang/String"), accessFlags := 10, slot := 8, constantValue := 0 }, { name := "cons", type := (.object "java/io/Console"), accessFlags := 74, slot := 9, constantValue := 0 }, { name := "initialErrStream", type := (.object "java/io/PrintStream"), accessFlags := 74, slot := 10, constantValue := 0 }, { name := "props", type := (.object "java/util/Properties"), accessFlags := 10, slot := 11, constantValue := 0 }, { name := "lineSeparator", type := (.object "java/lang/String"), accessFlags := 10, slot := 12, constantValue := 0 }, { name := "bootLayer", type := (.object "java/lang/ModuleLayer"), accessFlags := 8, slot := 13, constantValue := 0 }]
  methods := #[k5m0, k5m1]
  instanceTypes := #[]
  staticTypes := #[(.object "java/io/InputStream"), (.object "java/io/PrintStream"), (.object "java/io/PrintStream"), (.object "java/io/InputStream"), .int, .int, .int, (.object "java/lang/SecurityManager"), (.object "java/lang/String"), (.object "java/io/Console"), (.object "java/io/PrintStream"), (.object "java/util/Properties"), (.object "java/lang/String"), (.object "java/lang/ModuleLayer")]
  resolved := Array.replicate 834 none
  statics := none }

def pool6 : Array CpInfo := pool [(1, u "java/lang/Cloneable"), (0, .class_ 1), (0, u "java/lang/Object"), (0, .class_ 3)] 3

/-- java/lang/Cloneable -/
def k6 : Class := { plain "java/lang/Cloneable" (some 0) with
  accessFlags := 1537
  interfaces := #[]
  cf := some (fileOf pool6 2 #[] #[] 1537 4 #[] #[])
  fields := #[]
  methods := #[]
  instanceTypes := #[]
  staticTypes := #[]
  resolved := Array.replicate 8 none
  statics := none }

def pool7 : Array CpInfo := pool [(1, u "java/io/Serializable"), (0, .class_ 1), (0, u "java/lang/Object"), (0, .class_ 3)] 3

/-- java/io/Serializable -/
def k7 : Class := { plain "java/io/Serializable" (some 0) with
  accessFlags := 1537
  interfaces := #[]
  cf := some (fileOf pool7 2 #[] #[] 1537 4 #[] #[])
  fields := #[]
  methods := #[]
  instanceTypes := #[]
  staticTypes := #[]
  resolved := Array.replicate 8 none
  statics := none }

/-- the primitive byte -/
def k8 : Class := { plain "byte" none with kind := .primitive 'B', accessFlags := 0x411 }
/-- [B -/
def k9 : Class := { plain "[B" (some 0) with kind := .array 8 .byte, interfaces := #[6, 7], accessFlags := 1041 }

/-- the primitive int -/
def k10 : Class := { plain "int" none with kind := .primitive 'I', accessFlags := 0x411 }
/-- [I -/
def k11 : Class := { plain "[I" (some 0) with kind := .array 10 .int, interfaces := #[6, 7], accessFlags := 1041 }

def heap : Heap := #[]
def classes : Array Class := #[k0, k1, k2, k3, k4, k5, k6, k7, k8, k9, k10, k11]
def interned : List (Array UInt16 × Addr) := []
def slotsUsed : Nat := 0
def theMethod : MethodId := ⟨1, 1⟩
def args0 : Array Value := #[.int 1, .int 2, .int 3, .int 4, .int 5]
def aboutOver (below : List Frame) : State where
  vm := { classes := classes, interned := interned.toArray }
  heap := heap
  slotsUsed := slotsUsed
  threads := #[{ frames := .invoking theMethod args0 :: below }]
def below0 : List Frame := [.native { method := ⟨0, 0⟩, args := #[] }]
def about1 : State := aboutOver below0
def p0 : Program := .bare "" "" ""
def e0 : Env := launch0.env 0 0 0
theorem w_frames : about1.frames = Frame.invoking theMethod args0 :: below0 := rfl
set_option maxRecDepth 65536 in
theorem w_args : argsFit about1.vm theMethod args0 = true := by decide +kernel
set_option maxRecDepth 65536 in
theorem w_heap : heapFits about1 = true := by decide +kernel
set_option maxRecDepth 65536 in
theorem w_runnable : about1.curStatus? = some .runnable := by decide +kernel
set_option maxRecDepth 65536 in
theorem w_alone : about1.alone = true := by decide +kernel
set_option maxRecDepth 65536 in
theorem w_named : about1.methodNamed? x = some theMethod := by decide +kernel
set_option maxRecDepth 65536 in
theorem w_hears : about1.hears theMethod below0 = true := by decide +kernel
set_option maxRecDepth 65536 in
theorem w_ripe : about1.ripe theMethod args0 below0 = true := by decide +kernel
theorem w_running : about1.status = .running := rfl
set_option maxRecDepth 65536 in
theorem w_room : about1.hasRoom e0.platform room_1 = true :=
  launch0.hasRoom_least _ room_1 (by decide +kernel) (by decide +kernel) (by decide +kernel) (by decide +kernel) (by decide +kernel) (by decide +kernel)
theorem allAtoms_all (ts : List Jvm.Cond) (a : Array Jvm.Value) (st : Jvm.State) : (allAtoms ts).before a st = ts.all (fun c => c.before a st) := by
  induction ts with
  | nil => rfl
  | cons c t ih =>
    show (Jvm.Cond.and c (allAtoms t)).before a st = _
    rw [Jvm.Cond.before_and, ih, List.all_cons]
def words1 : List Jvm.Cond := Jvm.Cond.code x code maxLocals ret :: tables_1
/-- a 'code' word, met by the world's own term for the bytes: nothing is compared byte by byte -/
theorem code_word {y : MethodName} {bytes : ByteArray} {mx : Nat} {rt : Option FieldType} {a : Array Value} {s : State} {m : MethodId} {meth : Method} {c : Code} (h1 : s.methodNamed? y = some m) (h2 : s.vm.method? m = some meth) (h3 : meth.code = some c) (h4 : c.code = bytes)
    (h5 : (c.maxLocals == mx && c.exceptionTable.isEmpty && decide (c.maxStack ≤ mostOperands) && decide (meth.sig.returnType = rt) && !meth.locks && decide (parseMethodDescriptor y.desc = some meth.sig)) = true) : (Jvm.Cond.code y bytes mx rt).before a s = true := by
  simp only [Bool.and_eq_true, beq_iff_eq, Bool.not_eq_true', decide_eq_true_eq] at h5
  obtain ⟨⟨⟨⟨⟨g1, g2⟩, g3⟩, g4⟩, g5⟩, g6⟩ := h5
  simp [Cond.before, Cond.holds, Cond.value, h1, h2, h3, h4, g1, g2, g3, g4, g5, g6]
def isCode : Jvm.Cond → Bool
  | .code _ _ _ _ => true
  | _ => false
theorem all_split {L : List Jvm.Cond} {P : Jvm.Cond → Bool} (h1 : L.all (fun c => isCode c || P c) = true) (h2 : ∀ c ∈ L.filter isCode, P c = true) : L.all P = true := by
  refine List.all_eq_true.mpr fun c hc => ?_
  have h := List.all_eq_true.mp h1 c hc
  rcases Bool.eq_false_or_eq_true (isCode c) with hi | hi
  · exact h2 c (List.mem_filter.mpr ⟨hc, hi⟩)
  · simpa [hi] using h
set_option maxRecDepth 65536 in
theorem w_c0 : (Jvm.Cond.code x code maxLocals ret).before args0 about1 = true := code_word (m := ⟨1, 1⟩) (meth := k1m1) (c := k1c1) (by decide +kernel) rfl rfl rfl (by decide +kernel)
set_option maxRecDepth 65536 in
theorem w_c1 : (Jvm.Cond.code ({ cls := "com/example/hoist/hoist/CreationPath", name := "<init>", desc := "()V" } : Jvm.MethodName) prog_4_method_1_code (1 : Nat) (Option.none : Option Jvm.ClassFile.FieldType)).before args0 about1 = true := code_word (m := ⟨2, 0⟩) (meth := k2m0) (c := k2c0) (by decide +kernel) rfl rfl rfl (by decide +kernel)
set_option maxRecDepth 65536 in
theorem w_c2 : (Jvm.Cond.code ({ cls := "java/lang/Object", name := "<init>", desc := "()V" } : Jvm.MethodName) object_method_1_code (1 : Nat) (Option.none : Option Jvm.ClassFile.FieldType)).before args0 about1 = true := code_word (m := ⟨0, 0⟩) (meth := k0m0) (c := k0c0) (by decide +kernel) rfl rfl rfl (by decide +kernel)
set_option maxRecDepth 65536 in
theorem w_c3 : (Jvm.Cond.code ({ cls := "com/example/hoist/hoist/CreationPath", name := "enter", desc := "(I)V" } : Jvm.MethodName) prog_4_method_2_code (4 : Nat) (Option.none : Option Jvm.ClassFile.FieldType)).before args0 about1 = true := code_word (m := ⟨2, 1⟩) (meth := k2m1) (c := k2c1) (by decide +kernel) rfl rfl rfl (by decide +kernel)
set_option maxRecDepth 65536 in
theorem w_c4 : (Jvm.Cond.code ({ cls := "com/example/hoist/hoist/CreationPath", name := "leave", desc := "()V" } : Jvm.MethodName) prog_4_method_3_code (1 : Nat) (Option.none : Option Jvm.ClassFile.FieldType)).before args0 about1 = true := code_word (m := ⟨2, 2⟩) (meth := k2m2) (c := k2c2) (by decide +kernel) rfl rfl rfl (by decide +kernel)
set_option maxRecDepth 65536 in
theorem w_c5 : (Jvm.Cond.code ({ cls := "com/example/hoist/hoist/CreationPath", name := "from", desc := "(I)[I" } : Jvm.MethodName) prog_4_method_7_code (2 : Nat) (Option.some (Jvm.ClassFile.FieldType.array Jvm.ClassFile.FieldType.int))).before args0 about1 = true := code_word (m := ⟨2, 5⟩) (meth := k2m5) (c := k2c5) (by decide +kernel) rfl rfl rfl (by decide +kernel)
set_option maxRecDepth 65536 in
theorem w_c6 : (Jvm.Cond.code ({ cls := "java/util/Arrays", name := "copyOfRange", desc := "([III)[I" } : Jvm.MethodName) jdk_65_method_136_code (3 : Nat) (Option.some (Jvm.ClassFile.FieldType.array Jvm.ClassFile.FieldType.int))).before args0 about1 = true := code_word (m := ⟨3, 2⟩) (meth := k3m2) (c := k3c2) (by decide +kernel) rfl rfl rfl (by decide +kernel)
set_option maxRecDepth 65536 in
theorem w_c7 : (Jvm.Cond.code ({ cls := "java/util/Arrays", name := "copyOfRangeInt", desc := "([III)[I" } : Jvm.MethodName) jdk_65_method_137_code (5 : Nat) (Option.some (Jvm.ClassFile.FieldType.array Jvm.ClassFile.FieldType.int))).before args0 about1 = true := code_word (m := ⟨3, 3⟩) (meth := k3m3) (c := k3c3) (by decide +kernel) rfl rfl rfl (by decide +kernel)
set_option maxRecDepth 65536 in
theorem w_c8 : (Jvm.Cond.code ({ cls := "java/util/Arrays", name := "checkLength", desc := "(II)V" } : Jvm.MethodName) jdk_65_method_131_code (2 : Nat) (Option.none : Option Jvm.ClassFile.FieldType)).before args0 about1 = true := code_word (m := ⟨3, 1⟩) (meth := k3m1) (c := k3c1) (by decide +kernel) rfl rfl rfl (by decide +kernel)
set_option maxRecDepth 65536 in
theorem w_c9 : (Jvm.Cond.code ({ cls := "java/lang/Math", name := "min", desc := "(II)I" } : Jvm.MethodName) jdk_29_method_69_code (2 : Nat) (Option.some Jvm.ClassFile.FieldType.int)).before args0 about1 = true := code_word (m := ⟨4, 1⟩) (meth := k4m1) (c := k4c1) (by decide +kernel) rfl rfl rfl (by decide +kernel)
set_option maxRecDepth 65536 in
theorem w_c10 : (Jvm.Cond.code ({ cls := "com/example/hoist/hoist/CreationPath", name := "lastIndexOf", desc := "(I)I" } : Jvm.MethodName) prog_4_method_5_code (4 : Nat) (Option.some Jvm.ClassFile.FieldType.int)).before args0 about1 = true := code_word (m := ⟨2, 4⟩) (meth := k2m4) (c := k2c4) (by decide +kernel) rfl rfl rfl (by decide +kernel)
set_option maxRecDepth 65536 in
theorem w_c11 : (Jvm.Cond.code ({ cls := "com/example/hoist/hoist/CreationPath", name := "last", desc := "()I" } : Jvm.MethodName) prog_4_method_4_code (1 : Nat) (Option.some Jvm.ClassFile.FieldType.int)).before args0 about1 = true := code_word (m := ⟨2, 3⟩) (meth := k2m3) (c := k2c3) (by decide +kernel) rfl rfl rfl (by decide +kernel)
def codes1 : List Jvm.Cond := [Jvm.Cond.code x code maxLocals ret, Jvm.Cond.code ({ cls := "com/example/hoist/hoist/CreationPath", name := "<init>", desc := "()V" } : Jvm.MethodName) prog_4_method_1_code (1 : Nat) (Option.none : Option Jvm.ClassFile.FieldType), Jvm.Cond.code ({ cls := "java/lang/Object", name := "<init>", desc := "()V" } : Jvm.MethodName) object_method_1_code (1 : Nat) (Option.none : Option Jvm.ClassFile.FieldType), Jvm.Cond.code ({ cls := "com/example/hoist/hoist/CreationPath", name := "enter", desc := "(I)V" } : Jvm.MethodName) prog_4_method_2_code (4 : Nat) (Option.none : Option Jvm.ClassFile.FieldType), Jvm.Cond.code ({ cls := "com/example/hoist/hoist/CreationPath", name := "leave", desc := "()V" } : Jvm.MethodName) prog_4_method_3_code (1 : Nat) (Option.none : Option Jvm.ClassFile.FieldType), Jvm.Cond.code ({ cls := "com/example/hoist/hoist/CreationPath", name := "from", desc := "(I)[I" } : Jvm.MethodName) prog_4_method_7_code (2 : Nat) (Option.some (Jvm.ClassFile.FieldType.array Jvm.ClassFile.FieldType.int)), Jvm.Cond.code ({ cls := "java/util/Arrays", name := "copyOfRange", desc := "([III)[I" } : Jvm.MethodName) jdk_65_method_136_code (3 : Nat) (Option.some (Jvm.ClassFile.FieldType.array Jvm.ClassFile.FieldType.int)), Jvm.Cond.code ({ cls := "java/util/Arrays", name := "copyOfRangeInt", desc := "([III)[I" } : Jvm.MethodName) jdk_65_method_137_code (5 : Nat) (Option.some (Jvm.ClassFile.FieldType.array Jvm.ClassFile.FieldType.int)), Jvm.Cond.code ({ cls := "java/util/Arrays", name := "checkLength", desc := "(II)V" } : Jvm.MethodName) jdk_65_method_131_code (2 : Nat) (Option.none : Option Jvm.ClassFile.FieldType), Jvm.Cond.code ({ cls := "java/lang/Math", name := "min", desc := "(II)I" } : Jvm.MethodName) jdk_29_method_69_code (2 : Nat) (Option.some Jvm.ClassFile.FieldType.int), Jvm.Cond.code ({ cls := "com/example/hoist/hoist/CreationPath", name := "lastIndexOf", desc := "(I)I" } : Jvm.MethodName) prog_4_method_5_code (4 : Nat) (Option.some Jvm.ClassFile.FieldType.int), Jvm.Cond.code ({ cls := "com/example/hoist/hoist/CreationPath", name := "last", desc := "()I" } : Jvm.MethodName) prog_4_method_4_code (1 : Nat) (Option.some Jvm.ClassFile.FieldType.int)]
set_option maxRecDepth 65536 in
theorem codes_eq : words1.filter isCode = codes1 := rfl
theorem w_codes : ∀ c ∈ words1.filter isCode, c.before args0 about1 = true := by
  rw [codes_eq]
  intro c hc
  simp only [codes1, List.mem_cons, List.not_mem_nil, or_false] at hc
  rcases hc with rfl | rfl | rfl | rfl | rfl | rfl | rfl | rfl | rfl | rfl | rfl | rfl
  · exact w_c0
  · exact w_c1
  · exact w_c2
  · exact w_c3
  · exact w_c4
  · exact w_c5
  · exact w_c6
  · exact w_c7
  · exact w_c8
  · exact w_c9
  · exact w_c10
  · exact w_c11
set_option maxRecDepth 65536 in
theorem w_t1 : (words1.take 24).all (fun c => isCode c || c.before args0 about1) = true := by decide +kernel
set_option maxRecDepth 65536 in
theorem w_t2 : ((words1.drop 24).take 24).all (fun c => isCode c || c.before args0 about1) = true := by decide +kernel
set_option maxRecDepth 65536 in
theorem w_t3 : ((words1.drop 24).drop 24).all (fun c => isCode c || c.before args0 about1) = true := by decide +kernel
theorem w_tables : (allAtoms (Jvm.Cond.code x code maxLocals ret :: tables_1)).before args0 about1 = true := by
  rw [allAtoms_all]
  show words1.all (fun c => c.before args0 about1) = true
  refine all_split ?_ w_codes
  rw [← List.take_append_drop 24 words1, List.all_append, w_t1, ← List.take_append_drop 24 (words1.drop 24), List.all_append, w_t2, w_t3]
  rfl
set_option maxRecDepth 65536 in
theorem w_case : (Jvm.Cond.and given_1 narrow_1).before args0 about1 = true := by decide +kernel
theorem w_applies : (headSpec (Jvm.Cond.code x code maxLocals ret :: tables_1) room_1).applies x e0.platform about1 = true :=
  (Spec.applies_iff w_frames).mpr ⟨w_running, w_runnable, w_alone, w_named, w_hears, w_ripe, w_room, w_tables⟩
theorem atStart : AtStart classFile x code maxLocals ret World_1 tables_1 room_1 Calls_1 rest_1 Pre_1 launch0 p0 e0 about1 theMethod args0 below0 :=
  ⟨lists_1, trivial, launch0.admits_env _ _ _, launch0.least_env, fairChoices_fair.cas, fairChoices_fair.clock, w_frames, w_args, w_heap, w_applies, trivial, trivial, w_case⟩
end start1
theorem witness_1 : WitnessClaimed_1 := ⟨start1.p0, start1.e0, start1.about1, start1.theMethod, start1.args0, start1.below0, start1.atStart⟩
end Jvm.Pilot.@@N@@
