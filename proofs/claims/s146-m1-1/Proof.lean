import JvmDerived
import JvmDerived.Pilot.@@N@@Statement
import JvmDerived.Pilot.@@N@@Code
set_option linter.unusedVariables false
set_option linter.unusedSimpArgs false
namespace Jvm.Pilot.@@N@@
open Jvm Jvm.ClassFile Sem Op Lib Jvm.Free Jvm.Stand Jvm.LawKit Jvm.RoadKit Bundle Jvm.Pilot.@@N@@.Jvm.D
/-! ## the walk's own goal: from this frame the method comes to its end, and what it leaves is Q -/
def own_Fin (tb : Tables) (e : Env) (below : List Frame) (s : State) (R : Room) (Q : Option Value → Heap → List Loc → Prop) (T : State) (g : JFrame) : Prop :=
  ∃ s₂ o, Steps tb e below (T.setTop g) s₂ ∧ s₂.status = .running ∧ Ended s₂ below o ∧ ∃ v L, o = .returned v ∧ Q v s₂.heap L ∧ FrameEnd s o s₂ L R.cells R.slots
theorem own_st {tb : Tables} {e : Env} {below : List Frame} {s : State} {R : Room} {Q : Option Value → Heap → List Loc → Prop} {T T' : State} {g g' : JFrame}
    (h : ∀ t, Steps tb e below (T'.setTop g') t → Steps tb e below (T.setTop g) t) (k : own_Fin tb e below s R Q T' g') : own_Fin tb e below s R Q T g := by
  obtain ⟨s₂, o, h1, r⟩ := k
  exact ⟨s₂, o, h _ h1, r⟩
/-- an array: its kind, its length, what lies at each place -/
def own_A (Z : State) (h : Heap) (a : Addr) (ty : FieldType) (n : Nat) (f : Nat → Value) : Prop := ∃ c : Cell, Arr Z h a c ty ∧ c.slots.size = n ∧ ∀ i, i < n → c.slots[i]? = some (f i)
section OwnArr
variable {Z : State} {h h' : Heap} {a b : Addr} {ty : FieldType} {n : Nat} {f : Nat → Value} {ws : List Addr} {sl : Nat} {v : Value}
theorem own_A.lt (F : own_A Z h a ty n f) : a < h.size := by obtain ⟨c, A, -⟩ := F; exact A.lt
theorem own_A.ext (F : own_A Z h a ty n f) (E : Ext h h') : own_A Z h' a ty n f := by obtain ⟨c, A, r⟩ := F; exact ⟨c, A.ext E, r⟩
theorem own_A.other (F : own_A Z h a ty n f) (W : Wr h h' b sl v) (q : a ≠ b) : own_A Z h' a ty n f := by obtain ⟨c, A, r⟩ := F; exact ⟨c, A.other W q, r⟩
theorem own_A.keep (F : own_A Z h a ty n f) (K : Keep h h' ws) (q : a ∉ ws) : own_A Z h' a ty n f := by obtain ⟨c, A, r⟩ := F; exact ⟨c, ⟨K.2.1 a c A.1 q, A.2⟩, r⟩
theorem own_A.congr (F : own_A Z h a ty n f) {f' : Nat → Value} (q : ∀ i, i < n → f i = f' i) : own_A Z h a ty n f' := by
  obtain ⟨c, A, r1, r2⟩ := F
  exact ⟨c, A, r1, fun i hi => by rw [r2 i hi, q i hi]⟩
theorem own_A.new {k : ClassId} {z : Int32} (A : Arr Z h a (newA k ty z) ty) : own_A Z h a ty z.toNatClampNeg (fun _ => defaultValue ty) :=
  ⟨_, A, sz_new _ _ _, fun i hi => by simp [newA, hi]⟩
theorem own_A.set (F : own_A Z h a ty n f) (W : Wr h h' a sl v) : own_A Z h' a ty n (fun i => if i = sl then v else f i) := by
  obtain ⟨c, A, r1, r2⟩ := F
  refine ⟨_, A.same W, by rw [sz_set]; exact r1, fun i hi => ?_⟩
  by_cases q : i = sl
  · subst q; simp [Cell.setSlot, r1, hi]
  · simp only [Cell.setSlot, q, if_false]; rw [Array.getElem?_setIfInBounds_ne (Ne.symm q)]; exact r2 i hi
theorem own_ne_A {c : Nat} {C : String} {a0 : Array Value} (F : Exa Z h b C) (wi : (Jvm.Cond.instantiable C c).before a0 Z = true) (G : own_A Z h a ty n f) : b ≠ a := by
  obtain ⟨cl, A, -⟩ := G; exact ne_arr F wi A
end OwnArr
section OwnStand
variable {p : Program} {l : Launch} {e : Env} {R : Room} {s : State} {m : MethodId} {args : Array Value} {below : List Frame} {meth : Method} {c : Code} {T : State} {locs : List Loc} {cells slots : Nat} {Q : Option Value → Heap → List Loc → Prop} {Z : State} {a0 : Array Value} {h : Heap}
theorem own_ret {v : Option Value} {g : JFrame} (X : Stand p l e R s m args below meth c T locs cells slots) (hv : meth.sig.returnType = none → v = none) (hlocks : meth.locks = false) (hc : cells ≤ R.cells) (hs : slots ≤ R.slots) (hQ : Q v T.heap locs)
    (hstep : ∀ fs, (∀ (f : JFrame) (acts : List Action), f.method = m → f.locked = none → f.entered = [] → (doReturn e (T.setTop f) acts v).1 = T.setFrames fs) → Steps p.tables e below (T.setTop g) (T.setFrames fs)) : own_Fin p.tables e below s R Q T g := by
  obtain ⟨fs, hr, hrun, hended, hW, hsame⟩ := X.leave hv hlocks
  exact ⟨_, _, hstep fs hr, hrun, hended, _, _, rfl, hQ, ⟨_, rfl⟩, hW, hsame.mono hc hs⟩
theorem own_retI {pc : Nat} {Ls : Array Slot} {z : Int32} {rest : List Value} (X : Stand p l e R s m args below meth c T locs cells slots) (hx : p.tables.exec = Jvm.exec) (hret : meth.sig.returnType = some .int) (hlocks : meth.locks = false) (hd : decode c.code pc = .ok (.ireturn, 1))
    (hc : cells ≤ R.cells) (hs : slots ≤ R.slots) (hQ : Q (some (.int z)) T.heap locs) : own_Fin p.tables e below s R Q T (mkF m pc Ls (.int z :: rest)) :=
  own_ret X (fun h => by rw [hret] at h; cases h) hlocks hc hs hQ fun fs hr => retOut X hx hret rfl (Or.inl ⟨rfl, Or.inl rfl, _, rfl⟩) hd hr
theorem own_retJ {pc : Nat} {Ls : Array Slot} {z : Int64} {rest : List Value} (X : Stand p l e R s m args below meth c T locs cells slots) (hx : p.tables.exec = Jvm.exec) (hret : meth.sig.returnType = some .long) (hlocks : meth.locks = false) (hd : decode c.code pc = .ok (.lreturn, 1))
    (hc : cells ≤ R.cells) (hs : slots ≤ R.slots) (hQ : Q (some (.long z)) T.heap locs) : own_Fin p.tables e below s R Q T (mkF m pc Ls (.long z :: rest)) :=
  own_ret X (fun h => by rw [hret] at h; cases h) hlocks hc hs hQ fun fs hr => retOut X hx hret rfl (Or.inr (Or.inl ⟨rfl, rfl, _, rfl⟩)) hd hr
theorem own_retA {pc : Nat} {Ls : Array Slot} {t : FieldType} {b : Addr} {rest : List Value} (X : Stand p l e R s m args below meth c T locs cells slots) (hx : p.tables.exec = Jvm.exec) (hret : meth.sig.returnType = some t) (ht : t.isReference = true) (hn : narrow t (.ref b) = .ref b) (hlocks : meth.locks = false) (hd : decode c.code pc = .ok (.areturn, 1))
    (hc : cells ≤ R.cells) (hs : slots ≤ R.slots) (hQ : Q (some (.ref b)) T.heap locs) : own_Fin p.tables e below s R Q T (mkF m pc Ls (.ref b :: rest)) :=
  own_ret X (fun h => by rw [hret] at h; cases h) hlocks hc hs hQ fun fs hr => retOut X hx hret hn (Or.inr (Or.inr (Or.inr (Or.inr ⟨rfl, ht, rfl⟩)))) hd hr
theorem own_retN {pc : Nat} {Ls : Array Slot} {t : FieldType} {z : Int32} {rest : List Value} (X : Stand p l e R s m args below meth c T locs cells slots) (hx : p.tables.exec = Jvm.exec) (hret : meth.sig.returnType = some t) (ht : t = .boolean ∨ t = .byte ∨ t = .char ∨ t = .short) (hlocks : meth.locks = false) (hd : decode c.code pc = .ok (.ireturn, 1))
    (hc : cells ≤ R.cells) (hs : slots ≤ R.slots) (hQ : Q (some (.int (nar t z))) T.heap locs) : own_Fin p.tables e below s R Q T (mkF m pc Ls (.int z :: rest)) :=
  own_ret X (fun h => by rw [hret] at h; cases h) hlocks hc hs hQ fun fs hr => retN X hx hret ht hd hr
theorem own_retV {pc : Nat} {Ls : Array Slot} (X : Stand p l e R s m args below meth c T locs cells slots) (hx : p.tables.exec = Jvm.exec) (hret : meth.sig.returnType = none) (hlocks : meth.locks = false) (hd : decode c.code pc = .ok (.return_, 1))
    (hc : cells ≤ R.cells) (hs : slots ≤ R.slots) (hQ : Q none T.heap locs) : own_Fin p.tables e below s R Q T (mkF m pc Ls []) :=
  own_ret X (fun _ => rfl) hlocks hc hs hQ fun fs hr => X.returnOut hx hret hd hr
theorem own_iaload {n : Nat} {f : Nat → Value} {a : Addr} {j : Int32} {v : Value} {g : JFrame} {rest : List Value} (X : Stand p l e R s m args below meth c T locs cells slots) (hx : p.tables.exec = Jvm.exec) (hZ : Z.Warmed39 s.vm) (eT : T.heap = h) (F : own_A Z h a .int n f) (hj : ¬ (j < 0 ∨ n ≤ j.toNatClampNeg)) (hv : f j.toNatClampNeg = v)
    (hg : g.method = m) (hs : g.stack = .int j :: .ref a :: rest) (hd : decode c.code g.pc = .ok (.iaload, 1)) (t : State) (k : Steps p.tables e below (T.setTop { g with pc := g.pc + 1, stack := v :: rest }) t) : Steps p.tables e below (T.setTop g) t := by
  obtain ⟨cl, A, r1, r2⟩ := F
  exact X.iaload hx (by rw [eT]; exact A.1) (State.isArrayOf_alike hZ.alike A.2.1) A.2.2 (by rw [r1]; exact hj) (by rw [r2 _ (Nat.lt_of_not_le fun q => hj (Or.inr q)), hv]) hg hs hd t k
theorem own_laload {n : Nat} {f : Nat → Value} {a : Addr} {j : Int32} {v : Value} {g : JFrame} {rest : List Value} (X : Stand p l e R s m args below meth c T locs cells slots) (hx : p.tables.exec = Jvm.exec) (hZ : Z.Warmed39 s.vm) (eT : T.heap = h) (F : own_A Z h a .long n f) (hj : ¬ (j < 0 ∨ n ≤ j.toNatClampNeg)) (hv : f j.toNatClampNeg = v)
    (hg : g.method = m) (hs : g.stack = .int j :: .ref a :: rest) (hd : decode c.code g.pc = .ok (.laload, 1)) (t : State) (k : Steps p.tables e below (T.setTop { g with pc := g.pc + 1, stack := v :: rest }) t) : Steps p.tables e below (T.setTop g) t := by
  obtain ⟨cl, A, r1, r2⟩ := F
  exact X.laload hx (by rw [eT]; exact A.1) (State.isArrayOf_alike hZ.alike A.2.1) A.2.2 (by rw [r1]; exact hj) (by rw [r2 _ (Nat.lt_of_not_le fun q => hj (Or.inr q)), hv]) hg hs hd t k
theorem own_baload {n : Nat} {f : Nat → Value} {a : Addr} {j : Int32} {v : Value} {g : JFrame} {rest : List Value} (X : Stand p l e R s m args below meth c T locs cells slots) (hx : p.tables.exec = Jvm.exec) (hZ : Z.Warmed39 s.vm) (eT : T.heap = h) (F : own_A Z h a .byte n f) (hj : ¬ (j < 0 ∨ n ≤ j.toNatClampNeg)) (hv : f j.toNatClampNeg = v)
    (hg : g.method = m) (hs : g.stack = .int j :: .ref a :: rest) (hd : decode c.code g.pc = .ok (.baload, 1)) (t : State) (k : Steps p.tables e below (T.setTop { g with pc := g.pc + 1, stack := v :: rest }) t) : Steps p.tables e below (T.setTop g) t := by
  obtain ⟨cl, A, r1, r2⟩ := F
  exact X.baloadBytes hx (by rw [eT]; exact A.1) (State.isArrayOf_alike hZ.alike A.2.1) A.2.2 (by rw [r1]; exact hj) (by rw [r2 _ (Nat.lt_of_not_le fun q => hj (Or.inr q)), hv]) hg hs hd t k
theorem own_alen {ty : FieldType} {n : Nat} {f : Nat → Value} {a : Addr} {z : Int32} {g : JFrame} {rest : List Value} (X : Stand p l e R s m args below meth c T locs cells slots) (hx : p.tables.exec = Jvm.exec) (hZ : Z.Warmed39 s.vm) (eT : T.heap = h) (F : own_A Z h a ty n f) (hz : n.toInt32 = z)
    (hg : g.method = m) (hs : g.stack = .ref a :: rest) (hd : decode c.code g.pc = .ok (.arraylength, 1)) (t : State) (k : Steps p.tables e below (T.setTop { g with pc := g.pc + 1, stack := .int z :: rest }) t) : Steps p.tables e below (T.setTop g) t := by
  obtain ⟨cl, A, r1, r2⟩ := F
  subst hz
  exact X.arraylength hx (by rw [eT]; exact A.1) (State.isArrayOf_alike hZ.alike A.2.1) hg hs hd t (by rw [r1]; exact k)
theorem own_iastore {n : Nat} {f : Nat → Value} {a : Addr} {j x : Int32} {g : JFrame} {rest : List Value} (X : Stand p l e R s m args below meth c T locs cells slots) (hx : p.tables.exec = Jvm.exec) (hZ : Z.Warmed39 s.vm) (eT : T.heap = h) (F : own_A Z h a .int n f) (hj : ¬ (j < 0 ∨ n ≤ j.toNatClampNeg))
    (hg : g.method = m) (hs : g.stack = .int x :: .int j :: .ref a :: rest) (hd : decode c.code g.pc = .ok (.iastore, 1)) :
    ∃ T' h', Stand p l e R s m args below meth c T' (locs ++ [⟨a, j.toNatClampNeg⟩]) cells slots ∧ T'.heap = h' ∧ Wr h h' a j.toNatClampNeg (.int x) ∧ ∀ target, Steps p.tables e below (T'.setTop { g with pc := g.pc + 1, stack := rest }) target → Steps p.tables e below (T.setTop g) target := by
  obtain ⟨cl, A, r1, r2⟩ := F
  exact stI X hx hZ eT A (by rw [r1]; exact hj) hg hs hd
theorem own_lastore {n : Nat} {f : Nat → Value} {a : Addr} {j : Int32} {x : Int64} {g : JFrame} {rest : List Value} (X : Stand p l e R s m args below meth c T locs cells slots) (hx : p.tables.exec = Jvm.exec) (hZ : Z.Warmed39 s.vm) (eT : T.heap = h) (F : own_A Z h a .long n f) (hj : ¬ (j < 0 ∨ n ≤ j.toNatClampNeg))
    (hg : g.method = m) (hs : g.stack = .long x :: .int j :: .ref a :: rest) (hd : decode c.code g.pc = .ok (.lastore, 1)) :
    ∃ T' h', Stand p l e R s m args below meth c T' (locs ++ [⟨a, j.toNatClampNeg⟩]) cells slots ∧ T'.heap = h' ∧ Wr h h' a j.toNatClampNeg (.long x) ∧ ∀ target, Steps p.tables e below (T'.setTop { g with pc := g.pc + 1, stack := rest }) target → Steps p.tables e below (T.setTop g) target := by
  obtain ⟨cl, A, r1, r2⟩ := F
  exact stJ X hx hZ eT A (by rw [r1]; exact hj) hg hs hd
theorem own_bastore {n : Nat} {f : Nat → Value} {a : Addr} {j x : Int32} {g : JFrame} {rest : List Value} (X : Stand p l e R s m args below meth c T locs cells slots) (hx : p.tables.exec = Jvm.exec) (hZ : Z.Warmed39 s.vm) (eT : T.heap = h) (F : own_A Z h a .byte n f) (hj : ¬ (j < 0 ∨ n ≤ j.toNatClampNeg))
    (hg : g.method = m) (hs : g.stack = .int x :: .int j :: .ref a :: rest) (hd : decode c.code g.pc = .ok (.bastore, 1)) :
    ∃ T' h', Stand p l e R s m args below meth c T' (locs ++ [⟨a, j.toNatClampNeg⟩]) cells slots ∧ T'.heap = h' ∧ Wr h h' a j.toNatClampNeg (.int (nar .byte x)) ∧ ∀ target, Steps p.tables e below (T'.setTop { g with pc := g.pc + 1, stack := rest }) target → Steps p.tables e below (T.setTop g) target := by
  obtain ⟨cl, A, r1, r2⟩ := F
  exact stB X hx hZ eT A (by rw [r1]; exact hj) hg hs hd
theorem own_newarr {aty : ArrayType} {n : Int32} {rest : List Value} {g : JFrame} (X : Stand p l e R s m args below meth c T locs cells slots) (hx : p.tables.exec = Jvm.exec) (hZ : Z.Warmed39 s.vm) (w : (Jvm.Cond.arrayClass (newarray.typeOf aty)).before a0 Z = true) (eT : T.heap = h) (hg : g.method = m) (hd : decode c.code g.pc = .ok (.newarray aty, 2)) (hs : g.stack = .int n :: rest)
    (hn : ¬ n < 0) {cap : Nat} (hcap : n.toNatClampNeg ≤ cap) (hb : cap * 8 ≤ 536870912) (hc : cells + 1 ≤ R.cells) (hl : slots + cap ≤ R.slots) :
    ∃ T' h' a, Stand p l e R s m args below meth c T' locs (cells + 1) (slots + cap) ∧ T'.heap = h' ∧ a = h.size ∧ Ext h h' ∧ own_A Z h' a (newarray.typeOf aty) n.toNatClampNeg (fun _ => defaultValue (newarray.typeOf aty)) ∧
      ∀ target, Steps p.tables e below (T'.setTop { g with pc := g.pc + 2, stack := .ref a :: rest }) target → Steps p.tables e below (T.setTop g) target := by
  obtain ⟨T', h', cA, X', e', E', A', st⟩ := newP X hx hZ w eT hg hd hs hn hcap hb hc hl
  exact ⟨T', h', _, X', e', rfl, E', own_A.new A', st⟩
theorem own_new {own C : String} {index n : Nat} {g : JFrame} (X : Stand p l e R s m args below meth c T locs cells slots) (hx : p.tables.exec = Jvm.exec) (hZ : Z.Warmed39 s.vm) (hown : s.vm.findClass own = some m.cls) (w : (Jvm.Cond.classLink own index C).before a0 Z = true) (wi : (Jvm.Cond.instantiable C n).before a0 Z = true) (wz : (Jvm.Cond.initialized C).before a0 Z = true) (eT : T.heap = h)
    (hg : g.method = m) (hd : decode c.code g.pc = .ok (.new index, 3)) (hc : cells + 1 ≤ R.cells) (hl : slots + n ≤ R.slots) :
    ∃ T' h' a, Stand p l e R s m args below meth c T' locs (cells + 1) (slots + n) ∧ T'.heap = h' ∧ a = h.size ∧ Ext h h' ∧ Exa Z h' a C ∧ (∀ {O nm d : String} {ty : FieldType}, Laid Z a0 C O nm d → parseFieldDescriptor d = some ty → Fld Z h' a O nm d (defaultValue ty)) ∧
      ∀ target, Steps p.tables e below (T'.setTop { g with pc := g.pc + 3, stack := .ref a :: g.stack }) target → Steps p.tables e below (T.setTop g) target := by
  obtain ⟨T', h', X', e', E', A', D', -, st⟩ := newO X hx hZ hown w wi wz eT hg hd hc hl
  exact ⟨T', h', _, X', e', rfl, E', A', D', st⟩
theorem own_body {y : MethodName} {bytes : ByteArray} {maxL : Nat} {ret : Option FieldType} {ws : List Jvm.Cond} {rm : Room} {as' : Array Value} {h0 : Heap} (hpl : plainFor y = true)
    (body : ∀ (p : Program) (e : Env) (s : State) (m : MethodId) (below : List Frame) (meth : Method) (c : Code) (s₁ : State), p.tables.exec = Jvm.exec → c.code = bytes → c.maxLocals = maxL → s.vm.findClass y.cls = some m.cls → meth.name = y.name → meth.sig.returnType = ret → meth.locks = false → Z.Warmed39 s.vm → Stand p l e rm s m as' below meth c s₁ [] 0 0 → s₁.heap = h0 → own_Fin p.tables e below s rm Q s₁ (entryFrame m as' maxL)) :
    MetFree l y (head1 (Jvm.Cond.code y bytes maxL ret :: ws) rm) (fun a U => a = as' ∧ Z.Warmed39 U.vm ∧ U.heap = h0) (fun _ _ _ _ _ => True) (fun _ U o U' => ∃ v L, o = .returned v ∧ Q v U'.heap L ∧ FrameEnd U o U' L rm.cells rm.slots) := by
  refine MetFree.of_bodySF hpl hisR ?_
  intro p e s m args below meth c s₁ Bd hml0 hP hK
  obtain ⟨rfl, hZ, hh⟩ := hP
  exact body p e s m below meth c s₁ Bd.exec Bd.bytes hml0 (findClass_of_methodNamed Bd.named) (name_of_methodNamed Bd.named Bd.method).1 Bd.returns Bd.notSynchronized hZ (Stand.of_body Bd) (by rw [← hh, Bd.state]; rfl)
theorem own_callS {own : String} {index : Nat} {y : MethodName} {bytes : ByteArray} {maxL W : Nat} {ret : Option FieldType} {rm : Room} {as' : Array Value} {g : JFrame} {argsL rest : List Value}
    (X : Stand p l e R s m args below meth c T locs cells slots) (hx : p.tables.exec = Jvm.exec) (hZ : Z.Warmed39 s.vm) (hown : s.vm.findClass own = some m.cls)
    (w1 : (Jvm.Cond.methodLink own index y).before a0 Z = true) (w2 : (Jvm.Cond.static y).before a0 Z = true) (w3 : (Jvm.Cond.initialized y.cls).before a0 Z = true) (w4 : (Jvm.Cond.code y bytes maxL ret).before a0 Z = true)
    (hy : y.cls ≠ "java/lang/invoke/MethodHandle" ∧ y.cls ≠ "java/lang/invoke/VarHandle") (eT : T.heap = h)
    (hM : MetFree l y (head1 [Jvm.Cond.code y bytes maxL ret] rm) (fun a U => a = as' ∧ Z.Warmed39 U.vm ∧ U.heap = h) (fun _ _ _ _ _ => True) (fun _ U o U' => ∃ v L, o = .returned v ∧ Q v U'.heap L ∧ FrameEnd U o U' L rm.cells rm.slots))
    (hf : rm.frames + 1 ≤ R.frames) (hl : W + (maxL + 11) + rm.locals ≤ R.locals) (hg : g.method = m) (hsize : g.locals.size = c.maxLocals) (hlen : ∀ sig, parseMethodDescriptor y.desc = some sig → argsL.length = sig.parameters.length)
    (hstack : g.stack = argsL.reverse ++ rest) (has : argsL.toArray = as') (hW : 2 * g.monitorRoom + (rest.map fun v => v.category).sum ≤ W) (hdg : decode c.code g.pc = .ok (.invokestatic index, 3)) (hc : cells + rm.cells ≤ R.cells) (hs : slots + rm.slots ≤ R.slots) :
    ∃ (v : Option Value) (T' : State) (L : List Loc), Stand p l e R s m args below meth c T' (locs ++ L) (cells + rm.cells) (slots + rm.slots) ∧ Q v T'.heap L ∧
      ∀ target, Steps p.tables e below (T'.setTop { g with pc := g.pc + 3, stack := v.toList ++ rest }) target → Steps p.tables e below (T.setTop g) target := by
  obtain ⟨v, _, ⟨T', L', k', n'⟩, -, X', ⟨Lc, hQ, l', y', z'⟩, st⟩ := Jvm.LawKit.callS X hx (y := y) hown (mvT hZ w1) (mvT hZ w2) (mvT hZ w3) (mvT hZ w4) hy (backOf (W := W) hM hZ w4 w3 hf hl) hg hsize hlen hstack hW hdg (fun _ _ => ⟨has, eT, hc, hs⟩)
  dsimp only [Pt.U, Pt.locs, Pt.cells, Pt.slots] at X' l' y' z' st hQ
  subst l' y' z'
  exact ⟨v, T', Lc, X', hQ, st⟩
theorem own_callN {own : String} {index : Nat} {y : MethodName} {bytes : ByteArray} {maxL W : Nat} {rm : Room} {as' : Array Value} {g : JFrame} {a : Addr} {argsL rest : List Value}
    (X : Stand p l e R s m args below meth c T locs cells slots) (hx : p.tables.exec = Jvm.exec) (hZ : Z.Warmed39 s.vm) (hy1 : y.name = "<init>") (hown : s.vm.findClass own = some m.cls)
    (w1 : (Jvm.Cond.methodLink own index y).before a0 Z = true) (w2 : (Jvm.Cond.instanceMethod y).before a0 Z = true) (w3 : (Jvm.Cond.initialized y.cls).before a0 Z = true) (w4 : (Jvm.Cond.code y bytes maxL none).before a0 Z = true)
    (hy : y.cls ≠ "java/lang/invoke/MethodHandle" ∧ y.cls ≠ "java/lang/invoke/VarHandle") (eT : T.heap = h)
    (hM : MetFree l y (head1 [Jvm.Cond.code y bytes maxL none] rm) (fun a U => a = as' ∧ Z.Warmed39 U.vm ∧ U.heap = h) (fun _ _ _ _ _ => True) (fun _ U o U' => ∃ v L, o = .returned v ∧ Q v U'.heap L ∧ FrameEnd U o U' L rm.cells rm.slots))
    (hf : rm.frames + 1 ≤ R.frames) (hl : W + (maxL + 11) + rm.locals ≤ R.locals) (hg : g.method = m) (hsize : g.locals.size = c.maxLocals) (hlen : ∀ sig, parseMethodDescriptor y.desc = some sig → argsL.length = sig.parameters.length)
    (hstack : g.stack = argsL.reverse ++ .ref a :: rest) (has : (.ref a :: argsL).toArray = as') (hW : 2 * g.monitorRoom + (rest.map fun v => v.category).sum ≤ W) (hdg : decode c.code g.pc = .ok (.invokespecial index, 3)) (hc : cells + rm.cells ≤ R.cells) (hs : slots + rm.slots ≤ R.slots) :
    ∃ (v : Option Value) (T' : State) (L : List Loc), Stand p l e R s m args below meth c T' (locs ++ L) (cells + rm.cells) (slots + rm.slots) ∧ Q v T'.heap L ∧
      ∀ target, Steps p.tables e below (T'.setTop { g with pc := g.pc + 3, stack := v.toList ++ rest }) target → Steps p.tables e below (T.setTop g) target := by
  obtain ⟨v, _, ⟨T', L', k', n'⟩, -, X', ⟨Lc, hQ, l', y', z'⟩, st⟩ := X.specialBack hx (y := y) hy1 hown (mvT hZ w1) (mvT hZ w2) (mvT hZ w4) hy (backOf (W := W) hM hZ w4 w3 hf hl) hg hsize (Steps.refl _) (a := a) hlen hstack hW hdg (fun _ _ => ⟨has, eT, hc, hs⟩)
  dsimp only [Pt.U, Pt.locs, Pt.cells, Pt.slots] at X' l' y' z' st hQ
  subst l' y' z'
  exact ⟨v, T', Lc, X', hQ, fun _ k => st.trans k⟩
theorem own_callV {own C : String} {index : Nat} {y : MethodName} {bytes : ByteArray} {maxL W : Nat} {ret : Option FieldType} {rm : Room} {as' : Array Value} {g : JFrame} {a : Addr} {argsL rest : List Value}
    (X : Stand p l e R s m args below meth c T locs cells slots) (hx : p.tables.exec = Jvm.exec) (hZ : Z.Warmed39 s.vm) (hown : s.vm.findClass own = some m.cls)
    (w1 : (Jvm.Cond.methodLink own index y).before a0 Z = true) (w2 : (Jvm.Cond.declares y).before a0 Z = true) (w3 : (Jvm.Cond.selects C y y).before a0 Z = true) (w4 : (Jvm.Cond.instanceMethod y).before a0 Z = true) (w5 : (Jvm.Cond.initialized y.cls).before a0 Z = true) (w6 : (Jvm.Cond.code y bytes maxL ret).before a0 Z = true)
    (hy : y.cls ≠ "java/lang/invoke/MethodHandle" ∧ y.cls ≠ "java/lang/invoke/VarHandle") (eT : T.heap = h) (E : Exa Z h a C)
    (hM : MetFree l y (head1 [Jvm.Cond.code y bytes maxL ret] rm) (fun a U => a = as' ∧ Z.Warmed39 U.vm ∧ U.heap = h) (fun _ _ _ _ _ => True) (fun _ U o U' => ∃ v L, o = .returned v ∧ Q v U'.heap L ∧ FrameEnd U o U' L rm.cells rm.slots))
    (hf : rm.frames + 1 ≤ R.frames) (hl : W + (maxL + 11) + rm.locals ≤ R.locals) (hg : g.method = m) (hsize : g.locals.size = c.maxLocals) (hlen : ∀ sig, parseMethodDescriptor y.desc = some sig → argsL.length = sig.parameters.length)
    (hstack : g.stack = argsL.reverse ++ .ref a :: rest) (has : (.ref a :: argsL).toArray = as') (hW : 2 * g.monitorRoom + (rest.map fun v => v.category).sum ≤ W) (hdg : decode c.code g.pc = .ok (.invokevirtual index, 3)) (hc : cells + rm.cells ≤ R.cells) (hs : slots + rm.slots ≤ R.slots) :
    ∃ (v : Option Value) (T' : State) (L : List Loc), Stand p l e R s m args below meth c T' (locs ++ L) (cells + rm.cells) (slots + rm.slots) ∧ Q v T'.heap L ∧
      ∀ target, Steps p.tables e below (T'.setTop { g with pc := g.pc + 3, stack := v.toList ++ rest }) target → Steps p.tables e below (T.setTop g) target := by
  obtain ⟨cq, kq, qa, qb, qc⟩ := isOf hZ eT E
  obtain ⟨v, _, ⟨T', L', k', n'⟩, -, X', ⟨Lc, hQ, l', y', z'⟩, st⟩ := X.virtualBack hx (y := y) (z := y) hown (mvT hZ w1) (mvT hZ w2) (notFace_of_selects (args := args) (mvT hZ w3)) (mvT hZ w3) (mvT hZ w4) hy (backOf (W := W) hM hZ w6 w5 hf hl) qa qc hg hsize (Steps.refl _) hlen hstack hW hdg (fun _ _ => ⟨has, eT, hc, hs⟩)
  dsimp only [Pt.U, Pt.locs, Pt.cells, Pt.slots] at X' l' y' z' st hQ
  subst l' y' z'
  exact ⟨v, T', Lc, X', hQ, fun _ k => st.trans k⟩
end OwnStand
theorem own_sm (q : Int32) (n : Nat) (h : q.toInt = n) (hn : n < 64) : (q &&& 0x3f).toInt64.toBitVec = BitVec.ofNat 64 n := by
  have e : q = Int32.ofNat n := by
    apply Int32.toInt_inj.mp
    rw [h, Int32.toInt_ofNat_of_lt (by omega)]
  subst e
  have : ∀ k : Fin 64, (Int32.ofNat k.1 &&& 0x3f).toInt64.toBitVec = BitVec.ofNat 64 k.1 := by decide
  exact this ⟨n, hn⟩
theorem own_lushr (x : Int64) (q : Int32) (n : Nat) (h : q.toInt = n) (hn : n < 64) : ((x.toUInt64 >>> (q &&& 0x3f).toInt64.toUInt64).toInt64).toBitVec = x.toBitVec >>> n := by
  show x.toBitVec >>> ((q &&& 0x3f).toInt64.toBitVec % 64) = _
  rw [own_sm q n h hn]
  show x.toBitVec >>> (BitVec.ofNat 64 n % 64).toNat = _
  have : ∀ k : Fin 64, (BitVec.ofNat 64 k.1 % 64).toNat = k.1 := by decide
  rw [this ⟨n, hn⟩]
theorem own_lshl (x : Int64) (q : Int32) (n : Nat) (h : q.toInt = n) (hn : n < 64) : (x <<< (q &&& 0x3f).toInt64).toBitVec = x.toBitVec <<< n := by
  rw [Int64.toBitVec_shiftLeft, own_sm q n h hn]
  have : ∀ k : Fin 64, ((BitVec.ofNat 64 k.1).smod 64).toNat = k.1 := by decide
  rw [BitVec.shiftLeft_eq', this ⟨n, hn⟩]
theorem own_mask (n i : Nat) (hn : n < 64) (hi : i < 64) : ((1#64 <<< n) - 1#64).getLsbD i = decide (i < n) := by
  have e : ((1#64 <<< n) - 1#64) = BitVec.ofNat 64 (2 ^ n - 1) := by
    apply BitVec.eq_of_toNat_eq
    have h1 : 2 ^ n < 2 ^ 64 := Nat.pow_lt_pow_right (by decide) hn
    have h2 : 0 < 2 ^ n := Nat.pow_pos (by decide)
    rw [BitVec.toNat_sub]
    simp only [BitVec.toNat_shiftLeft, BitVec.toNat_ofNat, Nat.shiftLeft_eq]
    omega
  rw [e, BitVec.getLsbD_ofNat, Nat.testBit_two_pow_sub_one]
  simp [hi]
theorem own_one (x : Int64) (q : Int32) (n : Nat) (h : q.toInt = n) (hn : n < 64) : ((x.toUInt64 >>> (q &&& 0x3f).toInt64.toUInt64).toInt64) &&& (1 : Int64) = if x.toBitVec.getLsbD n then 1 else 0 := by
  apply Int64.toBitVec_inj.mp
  rw [Int64.toBitVec_and, own_lushr x q n h hn]
  have e : (1 : Int64).toBitVec = 1#64 := rfl
  have e0 : (0 : Int64).toBitVec = 0#64 := rfl
  apply BitVec.eq_of_getLsbD_eq
  intro i hi
  rw [BitVec.getLsbD_and, BitVec.getLsbD_ushiftRight, e]
  by_cases g : i = 0
  · subst g; cases hb : x.toBitVec.getLsbD n <;> simp [hb]
  · cases hb : x.toBitVec.getLsbD n <;> simp [BitVec.getLsbD_one, g]
def own_b (x : Int64) (i : Nat) : Bool := x.toBitVec.getLsbD i
theorem own_ext {x y : Int64} (h : ∀ i, i < 64 → own_b x i = own_b y i) : x = y := by
  apply Int64.toBitVec_inj.mp
  exact BitVec.eq_of_getLsbD_eq h
theorem own_b_and (x y : Int64) (i : Nat) : own_b (x &&& y) i = (own_b x i && own_b y i) := by
  unfold own_b; rw [Int64.toBitVec_and, BitVec.getLsbD_and]
theorem own_b_or (x y : Int64) (i : Nat) : own_b (x ||| y) i = (own_b x i || own_b y i) := by
  unfold own_b; rw [Int64.toBitVec_or, BitVec.getLsbD_or]
theorem own_b_m1 (i : Nat) (hi : i < 64) : own_b (-1) i = true := by
  have e : (-1 : Int64).toBitVec = BitVec.allOnes 64 := by decide
  unfold own_b; rw [e, BitVec.getLsbD_allOnes]; simp [hi]
theorem own_b_not (x : Int64) (i : Nat) (hi : i < 64) : own_b (x ^^^ (-1)) i = !own_b x i := by
  have e : own_b (x ^^^ (-1)) i = (own_b x i != own_b (-1) i) := by unfold own_b; rw [Int64.toBitVec_xor, BitVec.getLsbD_xor]
  rw [e, own_b_m1 i hi]; cases own_b x i <;> rfl
theorem own_b_ge (x : Int64) (i : Nat) (h : 64 ≤ i) : own_b x i = false := BitVec.getLsbD_of_ge _ _ h
theorem own_b_shl (x : Int64) (q : Int32) (n i : Nat) (h : q.toInt = n) (hn : n < 64) (hi : i < 64) : own_b (x <<< (q &&& 0x3f).toInt64) i = (decide (n ≤ i) && own_b x (i - n)) := by
  unfold own_b; rw [own_lshl x q n h hn, BitVec.getLsbD_shiftLeft]
  by_cases g : i < n
  · have : ¬ n ≤ i := by omega
    simp [g, this]
  · have : n ≤ i := by omega
    simp [g, hi, this]
theorem own_b_ushr (x : Int64) (q : Int32) (n i : Nat) (h : q.toInt = n) (hn : n < 64) : own_b ((x.toUInt64 >>> (q &&& 0x3f).toInt64.toUInt64).toInt64) i = own_b x (n + i) := by
  unfold own_b; rw [own_lushr x q n h hn, BitVec.getLsbD_ushiftRight]
theorem own_b_mask (q : Int32) (n i : Nat) (h : q.toInt = n) (hn : n < 64) (hi : i < 64) : own_b (((1 : Int64) <<< (q &&& 0x3f).toInt64) - 1) i = decide (i < n) := by
  unfold own_b; rw [Int64.toBitVec_sub, own_lshl 1 q n h hn]; exact own_mask n i hn hi
/-- a field of c bits at bit A of a stream takes the low bits of 'bits' -/
def own_wr (old bits : Int64) (k A c i : Nat) : Bool := if A ≤ 64 * k + i ∧ 64 * k + i < A + c then own_b bits (64 * k + i - A) else own_b old i
theorem own_idx (j : Int32) (n : Nat) (h0 : 0 ≤ j.toInt) (h1 : j.toInt < n) : ¬ (j < 0 ∨ n ≤ j.toNatClampNeg) := by
  have e : j.toNatClampNeg = j.toInt.toNat := rfl
  intro q
  rcases q with q | q
  · rw [Int32.lt_iff_toInt_lt] at q
    have : (0 : Int32).toInt = 0 := by decide
    omega
  · omega
theorem own_clamp (j : Int32) (k : Nat) (h : j.toInt = k) : j.toNatClampNeg = k := by
  have e : j.toNatClampNeg = j.toInt.toNat := rfl
  omega
theorem own_lt32 (x y : Int32) : x < y ↔ x.toInt < y.toInt := Int32.lt_iff_toInt_lt
theorem own_eq32 (x y : Int32) : x = y ↔ x.toInt = y.toInt := Int32.toInt_inj.symm
theorem own_max (x y : Int32) : (if x < y then y else x).toInt = if x.toInt < y.toInt then y.toInt else x.toInt := by
  by_cases h : x < y
  · have g := (own_lt32 x y).mp h; simp [h, g]
  · have g : ¬ x.toInt < y.toInt := fun q => h ((own_lt32 x y).mpr q)
    simp [h, g]
theorem own_min (x y : Int32) : (if y < x then y else x).toInt = if y.toInt < x.toInt then y.toInt else x.toInt := by
  by_cases h : y < x
  · have g := (own_lt32 y x).mp h; simp [h, g]
  · have g : ¬ y.toInt < x.toInt := fun q => h ((own_lt32 y x).mpr q)
    simp [h, g]

theorem own_expect (old bits : Int64) (k A c i L H : Nat) (hi : i < 64) (hL : L = if A < 64 * k then 64 * k else A) (hH : H = if 64 * k + 64 < A + c then 64 * k + 64 else A + c) (m v : Bool) (hm : m = (decide (i < H - 64 * k) && !decide (i < L - 64 * k)))
    (hv : m = true → v = own_b bits (64 * k + i - A)) : ((own_b old i && !m) || (v && m)) = own_wr old bits k A c i := by
  unfold own_wr
  by_cases g : A ≤ 64 * k + i ∧ 64 * k + i < A + c
  · have m1 : m = true := by
      rw [hm]
      have g1 : i < H - 64 * k := by rw [hH]; split <;> omega
      have g2 : ¬ i < L - 64 * k := by rw [hL]; split <;> omega
      simp [g1, g2]
    rw [if_pos g, hv m1, m1]; simp
  · have m0 : m = false := by
      rw [hm]
      by_cases g1 : i < H - 64 * k
      · by_cases g2 : i < L - 64 * k
        · simp [g1, g2]
        · exfalso; apply g; rw [hH] at g1; rw [hL] at g2; split at g1 <;> split at g2 <;> omega
      · simp [g1]
    rw [if_neg g, m0]; simp
theorem own_low (old bits : Int64) (A c i s k : Nat) (hi : i < 64) (hs : s = A % 64) (hk : k = A / 64) (fs ls : Bool) (hf : fs = (decide (s ≤ i) && decide (i - s < c))) (hl : ls = (decide (s ≤ i) && (own_b bits (i - s) && decide (i - s < c)))) :
    ((own_b old i && !fs) || ls) = own_wr old bits k A c i := by
  unfold own_wr
  by_cases g : A ≤ 64 * k + i ∧ 64 * k + i < A + c
  · have g1 : s ≤ i := by omega
    have g2 : i - s < c := by omega
    have g3 : 64 * k + i - A = i - s := by omega
    rw [if_pos g, hf, hl, g3]; simp [g1, g2]
  · rw [if_neg g, hf, hl]
    by_cases g1 : s ≤ i
    · have g2 : ¬ i - s < c := by omega
      simp [g1, g2]
    · simp [g1]
theorem own_high (old bits : Int64) (A c i s k : Nat) (hi : i < 64) (hs : s = A % 64) (hk : k = A / 64 + 1) (h0 : 64 < s + c) (hc : c ≤ 64) (fs ls : Bool) (hf : fs = decide (64 - s + i < c)) (hl : ls = (own_b bits (64 - s + i) && decide (64 - s + i < c))) :
    ((own_b old i && !fs) || ls) = own_wr old bits k A c i := by
  unfold own_wr
  by_cases g : A ≤ 64 * k + i ∧ 64 * k + i < A + c
  · have g2 : 64 - s + i < c := by omega
    have g3 : 64 * k + i - A = 64 - s + i := by omega
    rw [if_pos g, hf, hl, g3]; simp [g2]
  · have g2 : ¬ 64 - s + i < c := by omega
    rw [if_neg g, hf, hl]; simp [g2]
theorem own_none (old bits : Int64) (A c i k : Nat) (h : A + c ≤ 64 * k ∨ 64 * k + 64 ≤ A ∨ c = 0) (hi : i < 64) : own_b old i = own_wr old bits k A c i := by
  unfold own_wr; rw [if_neg (by omega)]
theorem d3_0 : decode jdk_29_method_65_code 0 = .ok (.iload_n 0, 1) := by decide +kernel
theorem d3_1 : decode jdk_29_method_65_code 1 = .ok (.iload_n 1, 1) := by decide +kernel
theorem d3_2 : decode jdk_29_method_65_code 2 = .ok (.if_icmp .lt 7, 3) := by decide +kernel
theorem d3_5 : decode jdk_29_method_65_code 5 = .ok (.iload_n 0, 1) := by decide +kernel
theorem d3_6 : decode jdk_29_method_65_code 6 = .ok (.goto 4, 3) := by decide +kernel
theorem d3_9 : decode jdk_29_method_65_code 9 = .ok (.iload_n 1, 1) := by decide +kernel
theorem d3_10 : decode jdk_29_method_65_code 10 = .ok (.ireturn, 1) := by decide +kernel
theorem pn_3 : plainFor (⟨"java/lang/Math", "max", "(II)I"⟩ : MethodName) = true := Jvm.Free.JP.mathPlain rfl (by decide +kernel)
theorem ef_3 (m : MethodId) (p1 : Int32) (p2 : Int32) : entryFrame m #[(.int p1), (.int p2)] 2 = mkF m 0 #[.val (.int p1), .val (.int p2)] [] := by first | (simp [entryFrame, mkF, argsToLocals, Value.category]; done) | rfl
def Q3 (Z : State) (p1 : Int32) (p2 : Int32) (hI : Heap) (n0 : Nat) (v : Option Value) (h : Heap) (L : List Loc) : Prop := v = some (.int (if p1 < p2 then p2 else p1)) ∧ Fr n0 L ∧ h = hI
set_option maxRecDepth 65536 in
set_option maxHeartbeats 40000000 in
theorem rm3 (l : Launch) (Z : State) (a0 : Array Value) (hw : ∀ d ∈ tables_1, d.before a0 Z = true) (ws : List Jvm.Cond) (p1 : Int32) (p2 : Int32) (hI : Heap) (n0 : Nat) (Z0 : n0 ≤ hI.size) :
    MetFree l (⟨"java/lang/Math", "max", "(II)I"⟩ : MethodName) (head1 (Jvm.Cond.code (⟨"java/lang/Math", "max", "(II)I"⟩ : MethodName) jdk_29_method_65_code 2 (some .int) :: ws) ({ frames := 0, cells := 0, slots := 0, locals := 0 } : Room)) (fun xa U => xa = #[(.int p1), (.int p2)] ∧ Z.Warmed39 U.vm ∧ U.heap = hI) (fun _ _ _ _ _ => True) (fun _ U o U' => ∃ v L, o = .returned v ∧ Q3 Z p1 p2 hI n0 v U'.heap L ∧ FrameEnd U o U' L ({ frames := 0, cells := 0, slots := 0, locals := 0 } : Room).cells ({ frames := 0, cells := 0, slots := 0, locals := 0 } : Room).slots) := by
  refine own_body pn_3 ?_
  intro p e s m below meth c s₁ hx hby hml hown hnm hret hlk hZ XI eI
  obtain ⟨F, hF⟩ : ∃ F : State → JFrame → Prop, F = own_Fin p.tables e below s ({ frames := 0, cells := 0, slots := 0, locals := 0 } : Room) (Q3 Z p1 p2 hI n0) := ⟨_, rfl⟩
  have hst : ∀ {T T' : State} {g g' : JFrame}, (∀ t, Steps p.tables e below (T'.setTop g') t → Steps p.tables e below (T.setTop g) t) → F T' g' → F T g := by subst hF; exact own_st
  have NI := Fr.nil n0
  show own_Fin p.tables e below s ({ frames := 0, cells := 0, slots := 0, locals := 0 } : Room) (Q3 Z p1 p2 hI n0) s₁ (entryFrame m #[(.int p1), (.int p2)] 2)
  rw [← hF]
  rw [ef_3]
  show F s₁ (mkF m 0 #[.val (.int p1), .val (.int p2)] [])
  refine hst (fun t k => XS.iloadN XI.here hx rfl (hb hby d3_0) rfl k) ?_
  show F s₁ (mkF m 1 #[.val (.int p1), .val (.int p2)] [(.int p1)])
  refine hst (fun t k => XS.iloadN XI.here hx rfl (hb hby d3_1) rfl k) ?_
  show F s₁ (mkF m 2 #[.val (.int p1), .val (.int p2)] [(.int p2), (.int p1)])
  by_cases hc2 : p1 < p2
  · -- pc 2: taken
    refine hst (fun t k => XS.icmpYes XI.here hx rfl (pc0 := 2) (pc' := 9) rfl (hb hby d3_2) rfl (tlt hc2).1 (by decide) (by decide) k) ?_
    show F s₁ (mkF m 9 #[.val (.int p1), .val (.int p2)] [])
    refine hst (fun t k => XS.iloadN XI.here hx rfl (hb hby d3_9) rfl k) ?_
    show F s₁ (mkF m 10 #[.val (.int p1), .val (.int p2)] [(.int p2)])
    rw [hF]
    refine own_retI XI hx hret hlk (hb hby d3_10) (by decide) (by decide) ?_
    rw [eI]
    exact ⟨(by simp [*]), NI, rfl⟩
  · -- pc 2: not taken
    refine hst (fun t k => XS.icmpNo XI.here hx rfl (hb hby d3_2) rfl (flt hc2).1 k) ?_
    show F s₁ (mkF m 5 #[.val (.int p1), .val (.int p2)] [])
    refine hst (fun t k => XS.iloadN XI.here hx rfl (hb hby d3_5) rfl k) ?_
    show F s₁ (mkF m 6 #[.val (.int p1), .val (.int p2)] [(.int p1)])
    refine hst (fun t k => XS.goto XI.here hx rfl (pc0 := 6) (pc' := 10) rfl (hb hby d3_6) (by decide) (by decide) k) ?_
    show F s₁ (mkF m 10 #[.val (.int p1), .val (.int p2)] [(.int p1)])
    rw [hF]
    refine own_retI XI hx hret hlk (hb hby d3_10) (by decide) (by decide) ?_
    rw [eI]
    exact ⟨(by simp [*]), NI, rfl⟩
theorem d4_0 : decode jdk_29_method_69_code 0 = .ok (.iload_n 0, 1) := by decide +kernel
theorem d4_1 : decode jdk_29_method_69_code 1 = .ok (.iload_n 1, 1) := by decide +kernel
theorem d4_2 : decode jdk_29_method_69_code 2 = .ok (.if_icmp .gt 7, 3) := by decide +kernel
theorem d4_5 : decode jdk_29_method_69_code 5 = .ok (.iload_n 0, 1) := by decide +kernel
theorem d4_6 : decode jdk_29_method_69_code 6 = .ok (.goto 4, 3) := by decide +kernel
theorem d4_9 : decode jdk_29_method_69_code 9 = .ok (.iload_n 1, 1) := by decide +kernel
theorem d4_10 : decode jdk_29_method_69_code 10 = .ok (.ireturn, 1) := by decide +kernel
theorem pn_4 : plainFor (⟨"java/lang/Math", "min", "(II)I"⟩ : MethodName) = true := Jvm.Free.JP.mathPlain rfl (by decide +kernel)
theorem ef_4 (m : MethodId) (p1 : Int32) (p2 : Int32) : entryFrame m #[(.int p1), (.int p2)] 2 = mkF m 0 #[.val (.int p1), .val (.int p2)] [] := by first | (simp [entryFrame, mkF, argsToLocals, Value.category]; done) | rfl
def Q4 (Z : State) (p1 : Int32) (p2 : Int32) (hI : Heap) (n0 : Nat) (v : Option Value) (h : Heap) (L : List Loc) : Prop := v = some (.int (if p2 < p1 then p2 else p1)) ∧ Fr n0 L ∧ h = hI
set_option maxRecDepth 65536 in
set_option maxHeartbeats 40000000 in
theorem rm4 (l : Launch) (Z : State) (a0 : Array Value) (hw : ∀ d ∈ tables_1, d.before a0 Z = true) (ws : List Jvm.Cond) (p1 : Int32) (p2 : Int32) (hI : Heap) (n0 : Nat) (Z0 : n0 ≤ hI.size) :
    MetFree l (⟨"java/lang/Math", "min", "(II)I"⟩ : MethodName) (head1 (Jvm.Cond.code (⟨"java/lang/Math", "min", "(II)I"⟩ : MethodName) jdk_29_method_69_code 2 (some .int) :: ws) ({ frames := 0, cells := 0, slots := 0, locals := 0 } : Room)) (fun xa U => xa = #[(.int p1), (.int p2)] ∧ Z.Warmed39 U.vm ∧ U.heap = hI) (fun _ _ _ _ _ => True) (fun _ U o U' => ∃ v L, o = .returned v ∧ Q4 Z p1 p2 hI n0 v U'.heap L ∧ FrameEnd U o U' L ({ frames := 0, cells := 0, slots := 0, locals := 0 } : Room).cells ({ frames := 0, cells := 0, slots := 0, locals := 0 } : Room).slots) := by
  refine own_body pn_4 ?_
  intro p e s m below meth c s₁ hx hby hml hown hnm hret hlk hZ XI eI
  obtain ⟨F, hF⟩ : ∃ F : State → JFrame → Prop, F = own_Fin p.tables e below s ({ frames := 0, cells := 0, slots := 0, locals := 0 } : Room) (Q4 Z p1 p2 hI n0) := ⟨_, rfl⟩
  have hst : ∀ {T T' : State} {g g' : JFrame}, (∀ t, Steps p.tables e below (T'.setTop g') t → Steps p.tables e below (T.setTop g) t) → F T' g' → F T g := by subst hF; exact own_st
  have NI := Fr.nil n0
  show own_Fin p.tables e below s ({ frames := 0, cells := 0, slots := 0, locals := 0 } : Room) (Q4 Z p1 p2 hI n0) s₁ (entryFrame m #[(.int p1), (.int p2)] 2)
  rw [← hF]
  rw [ef_4]
  show F s₁ (mkF m 0 #[.val (.int p1), .val (.int p2)] [])
  refine hst (fun t k => XS.iloadN XI.here hx rfl (hb hby d4_0) rfl k) ?_
  show F s₁ (mkF m 1 #[.val (.int p1), .val (.int p2)] [(.int p1)])
  refine hst (fun t k => XS.iloadN XI.here hx rfl (hb hby d4_1) rfl k) ?_
  show F s₁ (mkF m 2 #[.val (.int p1), .val (.int p2)] [(.int p2), (.int p1)])
  by_cases hc2 : p2 < p1
  · -- pc 2: taken
    refine hst (fun t k => XS.icmpYes XI.here hx rfl (pc0 := 2) (pc' := 9) rfl (hb hby d4_2) rfl (tlt hc2).2.2.1 (by decide) (by decide) k) ?_
    show F s₁ (mkF m 9 #[.val (.int p1), .val (.int p2)] [])
    refine hst (fun t k => XS.iloadN XI.here hx rfl (hb hby d4_9) rfl k) ?_
    show F s₁ (mkF m 10 #[.val (.int p1), .val (.int p2)] [(.int p2)])
    rw [hF]
    refine own_retI XI hx hret hlk (hb hby d4_10) (by decide) (by decide) ?_
    rw [eI]
    exact ⟨(by simp [*]), NI, rfl⟩
  · -- pc 2: not taken
    refine hst (fun t k => XS.icmpNo XI.here hx rfl (hb hby d4_2) rfl (flt hc2).2.2.1 k) ?_
    show F s₁ (mkF m 5 #[.val (.int p1), .val (.int p2)] [])
    refine hst (fun t k => XS.iloadN XI.here hx rfl (hb hby d4_5) rfl k) ?_
    show F s₁ (mkF m 6 #[.val (.int p1), .val (.int p2)] [(.int p1)])
    refine hst (fun t k => XS.goto XI.here hx rfl (pc0 := 6) (pc' := 10) rfl (hb hby d4_6) (by decide) (by decide) k) ?_
    show F s₁ (mkF m 10 #[.val (.int p1), .val (.int p2)] [(.int p1)])
    rw [hF]
    refine own_retI XI hx hret hlk (hb hby d4_10) (by decide) (by decide) ?_
    rw [eI]
    exact ⟨(by simp [*]), NI, rfl⟩
theorem d5_0 : decode method_2_code 0 = .ok (.iload_n 0, 1) := by decide +kernel
theorem d5_1 : decode method_2_code 1 = .ok (.bipush 64, 2) := by decide +kernel
theorem d5_3 : decode method_2_code 3 = .ok (.if_icmp .lt 9, 3) := by decide +kernel
theorem d5_6 : decode method_2_code 6 = .ok (.ldc2_w 7, 3) := by decide +kernel
theorem d5_9 : decode method_2_code 9 = .ok (.goto 8, 3) := by decide +kernel
theorem d5_12 : decode method_2_code 12 = .ok (.lconst 1, 1) := by decide +kernel
theorem d5_13 : decode method_2_code 13 = .ok (.iload_n 0, 1) := by decide +kernel
theorem d5_14 : decode method_2_code 14 = .ok (.lshl, 1) := by decide +kernel
theorem d5_15 : decode method_2_code 15 = .ok (.lconst 1, 1) := by decide +kernel
theorem d5_16 : decode method_2_code 16 = .ok (.lsub, 1) := by decide +kernel
theorem d5_17 : decode method_2_code 17 = .ok (.lreturn, 1) := by decide +kernel
theorem pn_5 : plainFor (⟨"com/example/censo/censo/compact/BitFieldsWritePinLaw", "maskOf", "(I)J"⟩ : MethodName) = true := plainFor_of_name (by first | (simp [plainName, overriddenIn]; done) | decide +kernel)
theorem ef_5 (m : MethodId) (p1 : Int32) : entryFrame m #[(.int p1)] 1 = mkF m 0 #[.val (.int p1)] [] := by first | (simp [entryFrame, mkF, argsToLocals, Value.category]; done) | rfl
def Q5 (Z : State) (p1 : Int32) (n : Nat) (hI : Heap) (n0 : Nat) (v : Option Value) (h : Heap) (L : List Loc) : Prop := ∃ (r : Int64), v = some (.long r) ∧ Fr n0 L ∧ h = hI ∧ ∀ i, i < 64 → own_b r i = decide (i < n)
set_option maxRecDepth 65536 in
set_option maxHeartbeats 40000000 in
theorem rm5 (l : Launch) (Z : State) (a0 : Array Value) (hw : ∀ d ∈ tables_1, d.before a0 Z = true) (ws : List Jvm.Cond) (p1 : Int32) (n : Nat) (hI : Heap) (n0 : Nat) (Z0 : n0 ≤ hI.size) (hn : p1.toInt = n) (hn2 : n ≤ 64) :
    MetFree l (⟨"com/example/censo/censo/compact/BitFieldsWritePinLaw", "maskOf", "(I)J"⟩ : MethodName) (head1 (Jvm.Cond.code (⟨"com/example/censo/censo/compact/BitFieldsWritePinLaw", "maskOf", "(I)J"⟩ : MethodName) method_2_code 1 (some .long) :: ws) ({ frames := 0, cells := 0, slots := 0, locals := 0 } : Room)) (fun xa U => xa = #[(.int p1)] ∧ Z.Warmed39 U.vm ∧ U.heap = hI) (fun _ _ _ _ _ => True) (fun _ U o U' => ∃ v L, o = .returned v ∧ Q5 Z p1 n hI n0 v U'.heap L ∧ FrameEnd U o U' L ({ frames := 0, cells := 0, slots := 0, locals := 0 } : Room).cells ({ frames := 0, cells := 0, slots := 0, locals := 0 } : Room).slots) := by
  refine own_body pn_5 ?_
  intro p e s m below meth c s₁ hx hby hml hown hnm hret hlk hZ XI eI
  obtain ⟨F, hF⟩ : ∃ F : State → JFrame → Prop, F = own_Fin p.tables e below s ({ frames := 0, cells := 0, slots := 0, locals := 0 } : Room) (Q5 Z p1 n hI n0) := ⟨_, rfl⟩
  have hst : ∀ {T T' : State} {g g' : JFrame}, (∀ t, Steps p.tables e below (T'.setTop g') t → Steps p.tables e below (T.setTop g) t) → F T' g' → F T g := by subst hF; exact own_st
  have NI := Fr.nil n0
  show own_Fin p.tables e below s ({ frames := 0, cells := 0, slots := 0, locals := 0 } : Room) (Q5 Z p1 n hI n0) s₁ (entryFrame m #[(.int p1)] 1)
  rw [← hF]
  rw [ef_5]
  show F s₁ (mkF m 0 #[.val (.int p1)] [])
  refine hst (fun t k => XS.iloadN XI.here hx rfl (hb hby d5_0) rfl k) ?_
  show F s₁ (mkF m 1 #[.val (.int p1)] [(.int p1)])
  refine hst (fun t k => XS.bipush XI.here hx rfl (hb hby d5_1) k) ?_
  show F s₁ (mkF m 3 #[.val (.int p1)] [(.int (64 : Int32)), (.int p1)])
  by_cases hc3 : p1 < (64 : Int32)
  · -- pc 3: taken
    refine hst (fun t k => XS.icmpYes XI.here hx rfl (pc0 := 3) (pc' := 12) rfl (hb hby d5_3) rfl (tlt hc3).1 (by decide) (by decide) k) ?_
    show F s₁ (mkF m 12 #[.val (.int p1)] [])
    have q3 : n < 64 := by
      rw [own_lt32] at hc3; have k64 : (64 : Int32).toInt = 64 := by decide
      omega
    refine hst (fun t k => XS.lconst XI.here hx rfl (hb hby d5_12) k) ?_
    show F s₁ (mkF m 13 #[.val (.int p1)] [(.long (1 : Int64))])
    refine hst (fun t k => XS.iloadN XI.here hx rfl (hb hby d5_13) rfl k) ?_
    show F s₁ (mkF m 14 #[.val (.int p1)] [(.int p1), (.long (1 : Int64))])
    refine hst (fun t k => XS.lshl XI.here hx rfl (hb hby d5_14) rfl k) ?_
    show F s₁ (mkF m 15 #[.val (.int p1)] [(.long ((1 : Int64) <<< (p1 &&& 0x3f).toInt64))])
    refine hst (fun t k => XS.lconst XI.here hx rfl (hb hby d5_15) k) ?_
    show F s₁ (mkF m 16 #[.val (.int p1)] [(.long (1 : Int64)), (.long ((1 : Int64) <<< (p1 &&& 0x3f).toInt64))])
    refine hst (fun t k => XS.lsub XI.here hx rfl (hb hby d5_16) rfl k) ?_
    show F s₁ (mkF m 17 #[.val (.int p1)] [(.long (((1 : Int64) <<< (p1 &&& 0x3f).toInt64) - (1 : Int64)))])
    rw [hF]
    refine own_retJ XI hx hret hlk (hb hby d5_17) (by decide) (by decide) ?_
    rw [eI]
    exact ⟨_, rfl, NI, rfl, (by intro i hi; first | exact own_b_mask p1 n i hn q3 hi | (rw [own_b_m1 i hi]; simp; omega))⟩
  · -- pc 3: not taken
    refine hst (fun t k => XS.icmpNo XI.here hx rfl (hb hby d5_3) rfl (flt hc3).1 k) ?_
    show F s₁ (mkF m 6 #[.val (.int p1)] [])
    have q3 : n = 64 := by
      rw [own_lt32] at hc3; have k64 : (64 : Int32).toInt = 64 := by decide
      omega
    refine hst (fun t k => XI.ldc2J hx hown (mvT hZ (hw _ (List.mem_of_getElem? (i := 21) rfl))) (g := (mkF m 6 #[.val (.int p1)] [])) rfl (hb hby d5_6) k) ?_
    show F s₁ (mkF m 9 #[.val (.int p1)] [(.long (-1 : Int64))])
    refine hst (fun t k => XS.goto XI.here hx rfl (pc0 := 9) (pc' := 17) rfl (hb hby d5_9) (by decide) (by decide) k) ?_
    show F s₁ (mkF m 17 #[.val (.int p1)] [(.long (-1 : Int64))])
    rw [hF]
    refine own_retJ XI hx hret hlk (hb hby d5_17) (by decide) (by decide) ?_
    rw [eI]
    exact ⟨_, rfl, NI, rfl, (by intro i hi; first | exact own_b_mask p1 n i hn q3 hi | (rw [own_b_m1 i hi]; simp; omega))⟩
theorem d1_0 : decode prog_64_method_3_code 0 = .ok (.iload 4, 2) := by decide +kernel
theorem d1_2 : decode prog_64_method_3_code 2 = .ok (.ifCond .ne 4, 3) := by decide +kernel
theorem d1_5 : decode prog_64_method_3_code 5 = .ok (.return_, 1) := by decide +kernel
theorem d1_6 : decode prog_64_method_3_code 6 = .ok (.iload_n 1, 1) := by decide +kernel
theorem d1_7 : decode prog_64_method_3_code 7 = .ok (.bipush 6, 2) := by decide +kernel
theorem d1_9 : decode prog_64_method_3_code 9 = .ok (.iushr, 1) := by decide +kernel
theorem d1_10 : decode prog_64_method_3_code 10 = .ok (.istore 5, 2) := by decide +kernel
theorem d1_12 : decode prog_64_method_3_code 12 = .ok (.iload_n 1, 1) := by decide +kernel
theorem d1_13 : decode prog_64_method_3_code 13 = .ok (.bipush 63, 2) := by decide +kernel
theorem d1_15 : decode prog_64_method_3_code 15 = .ok (.iand, 1) := by decide +kernel
theorem d1_16 : decode prog_64_method_3_code 16 = .ok (.istore 6, 2) := by decide +kernel
theorem d1_18 : decode prog_64_method_3_code 18 = .ok (.iload 4, 2) := by decide +kernel
theorem d1_20 : decode prog_64_method_3_code 20 = .ok (.bipush 64, 2) := by decide +kernel
theorem d1_22 : decode prog_64_method_3_code 22 = .ok (.if_icmp .ne 9, 3) := by decide +kernel
theorem d1_25 : decode prog_64_method_3_code 25 = .ok (.ldc2_w 7, 3) := by decide +kernel
theorem d1_28 : decode prog_64_method_3_code 28 = .ok (.goto 9, 3) := by decide +kernel
theorem d1_31 : decode prog_64_method_3_code 31 = .ok (.lconst 1, 1) := by decide +kernel
theorem d1_32 : decode prog_64_method_3_code 32 = .ok (.iload 4, 2) := by decide +kernel
theorem d1_34 : decode prog_64_method_3_code 34 = .ok (.lshl, 1) := by decide +kernel
theorem d1_35 : decode prog_64_method_3_code 35 = .ok (.lconst 1, 1) := by decide +kernel
theorem d1_36 : decode prog_64_method_3_code 36 = .ok (.lsub, 1) := by decide +kernel
theorem d1_37 : decode prog_64_method_3_code 37 = .ok (.lstore 7, 2) := by decide +kernel
theorem d1_39 : decode prog_64_method_3_code 39 = .ok (.lload_n 2, 1) := by decide +kernel
theorem d1_40 : decode prog_64_method_3_code 40 = .ok (.lload 7, 2) := by decide +kernel
theorem d1_42 : decode prog_64_method_3_code 42 = .ok (.land, 1) := by decide +kernel
theorem d1_43 : decode prog_64_method_3_code 43 = .ok (.lstore 9, 2) := by decide +kernel
theorem d1_45 : decode prog_64_method_3_code 45 = .ok (.aload_n 0, 1) := by decide +kernel
theorem d1_46 : decode prog_64_method_3_code 46 = .ok (.iload 5, 2) := by decide +kernel
theorem d1_48 : decode prog_64_method_3_code 48 = .ok (.aload_n 0, 1) := by decide +kernel
theorem d1_49 : decode prog_64_method_3_code 49 = .ok (.iload 5, 2) := by decide +kernel
theorem d1_51 : decode prog_64_method_3_code 51 = .ok (.laload, 1) := by decide +kernel
theorem d1_52 : decode prog_64_method_3_code 52 = .ok (.lload 7, 2) := by decide +kernel
theorem d1_54 : decode prog_64_method_3_code 54 = .ok (.iload 6, 2) := by decide +kernel
theorem d1_56 : decode prog_64_method_3_code 56 = .ok (.lshl, 1) := by decide +kernel
theorem d1_57 : decode prog_64_method_3_code 57 = .ok (.ldc2_w 7, 3) := by decide +kernel
theorem d1_60 : decode prog_64_method_3_code 60 = .ok (.lxor, 1) := by decide +kernel
theorem d1_61 : decode prog_64_method_3_code 61 = .ok (.land, 1) := by decide +kernel
theorem d1_62 : decode prog_64_method_3_code 62 = .ok (.lload 9, 2) := by decide +kernel
theorem d1_64 : decode prog_64_method_3_code 64 = .ok (.iload 6, 2) := by decide +kernel
theorem d1_66 : decode prog_64_method_3_code 66 = .ok (.lshl, 1) := by decide +kernel
theorem d1_67 : decode prog_64_method_3_code 67 = .ok (.lor, 1) := by decide +kernel
theorem d1_68 : decode prog_64_method_3_code 68 = .ok (.lastore, 1) := by decide +kernel
theorem d1_69 : decode prog_64_method_3_code 69 = .ok (.iload 6, 2) := by decide +kernel
theorem d1_71 : decode prog_64_method_3_code 71 = .ok (.iload 4, 2) := by decide +kernel
theorem d1_73 : decode prog_64_method_3_code 73 = .ok (.iadd, 1) := by decide +kernel
theorem d1_74 : decode prog_64_method_3_code 74 = .ok (.bipush 64, 2) := by decide +kernel
theorem d1_76 : decode prog_64_method_3_code 76 = .ok (.if_icmp .le 37, 3) := by decide +kernel
theorem d1_79 : decode prog_64_method_3_code 79 = .ok (.aload_n 0, 1) := by decide +kernel
theorem d1_80 : decode prog_64_method_3_code 80 = .ok (.iload 5, 2) := by decide +kernel
theorem d1_82 : decode prog_64_method_3_code 82 = .ok (.iconst 1, 1) := by decide +kernel
theorem d1_83 : decode prog_64_method_3_code 83 = .ok (.iadd, 1) := by decide +kernel
theorem d1_84 : decode prog_64_method_3_code 84 = .ok (.aload_n 0, 1) := by decide +kernel
theorem d1_85 : decode prog_64_method_3_code 85 = .ok (.iload 5, 2) := by decide +kernel
theorem d1_87 : decode prog_64_method_3_code 87 = .ok (.iconst 1, 1) := by decide +kernel
theorem d1_88 : decode prog_64_method_3_code 88 = .ok (.iadd, 1) := by decide +kernel
theorem d1_89 : decode prog_64_method_3_code 89 = .ok (.laload, 1) := by decide +kernel
theorem d1_90 : decode prog_64_method_3_code 90 = .ok (.lload 7, 2) := by decide +kernel
theorem d1_92 : decode prog_64_method_3_code 92 = .ok (.bipush 64, 2) := by decide +kernel
theorem d1_94 : decode prog_64_method_3_code 94 = .ok (.iload 6, 2) := by decide +kernel
theorem d1_96 : decode prog_64_method_3_code 96 = .ok (.isub, 1) := by decide +kernel
theorem d1_97 : decode prog_64_method_3_code 97 = .ok (.lushr, 1) := by decide +kernel
theorem d1_98 : decode prog_64_method_3_code 98 = .ok (.ldc2_w 7, 3) := by decide +kernel
theorem d1_101 : decode prog_64_method_3_code 101 = .ok (.lxor, 1) := by decide +kernel
theorem d1_102 : decode prog_64_method_3_code 102 = .ok (.land, 1) := by decide +kernel
theorem d1_103 : decode prog_64_method_3_code 103 = .ok (.lload 9, 2) := by decide +kernel
theorem d1_105 : decode prog_64_method_3_code 105 = .ok (.bipush 64, 2) := by decide +kernel
theorem d1_107 : decode prog_64_method_3_code 107 = .ok (.iload 6, 2) := by decide +kernel
theorem d1_109 : decode prog_64_method_3_code 109 = .ok (.isub, 1) := by decide +kernel
theorem d1_110 : decode prog_64_method_3_code 110 = .ok (.lushr, 1) := by decide +kernel
theorem d1_111 : decode prog_64_method_3_code 111 = .ok (.lor, 1) := by decide +kernel
theorem d1_112 : decode prog_64_method_3_code 112 = .ok (.lastore, 1) := by decide +kernel
theorem d1_113 : decode prog_64_method_3_code 113 = .ok (.return_, 1) := by decide +kernel
theorem pn_1 : plainFor (⟨"com/example/censo/censo/compact/BitFields", "write", "([JIJI)V"⟩ : MethodName) = true := plainFor_of_name (by first | (simp [plainName, overriddenIn]; done) | decide +kernel)
theorem ef_1 (m : MethodId) (a : Addr) (av : Int32) (q3 : Int64) (cv : Int32) : entryFrame m #[(.ref a), (.int av), (.long q3), (.int cv)] 11 = mkF m 0 #[.val (.ref a), .val (.int av), .val (.long q3), .second, .val (.int cv), .unset, .unset, .unset, .unset, .unset, .unset] [] := by first | (simp [entryFrame, mkF, argsToLocals, Value.category]; done) | rfl
def Q1 (Z : State) (a : Addr) (av : Int32) (q3 : Int64) (cv : Int32) (w : Nat → Int64) (A : Nat) (c0 : Nat) (hI : Heap) (n0 : Nat) (v : Option Value) (h : Heap) (L : List Loc) : Prop := ∃ (u : Nat → Int64), v = none ∧ Fr n0 L ∧ Keep hI h [a] ∧ own_A Z h a .long 3 (fun i => .long (u i)) ∧ ∀ k i, k < 3 → i < 64 → own_b (u k) i = own_wr (w k) q3 k A c0 i
set_option maxRecDepth 65536 in
set_option maxHeartbeats 40000000 in
theorem rm1 (l : Launch) (Z : State) (a0 : Array Value) (hw : ∀ d ∈ tables_1, d.before a0 Z = true) (ws : List Jvm.Cond) (a : Addr) (av : Int32) (q3 : Int64) (cv : Int32) (w : Nat → Int64) (A : Nat) (c0 : Nat) (hI : Heap) (n0 : Nat) (Z0 : n0 ≤ hI.size) (Ar : own_A Z hI a .long 3 (fun i => .long (w i))) (ge_a : n0 ≤ a) (hA : av.toInt = A) (hA2 : A ≤ 128) (hC : cv.toInt = c0) (hC2 : c0 ≤ 64) :
    MetFree l (⟨"com/example/censo/censo/compact/BitFields", "write", "([JIJI)V"⟩ : MethodName) (head1 (Jvm.Cond.code (⟨"com/example/censo/censo/compact/BitFields", "write", "([JIJI)V"⟩ : MethodName) prog_64_method_3_code 11 none :: ws) ({ frames := 0, cells := 0, slots := 0, locals := 0 } : Room)) (fun xa U => xa = #[(.ref a), (.int av), (.long q3), (.int cv)] ∧ Z.Warmed39 U.vm ∧ U.heap = hI) (fun _ _ _ _ _ => True) (fun _ U o U' => ∃ v L, o = .returned v ∧ Q1 Z a av q3 cv w A c0 hI n0 v U'.heap L ∧ FrameEnd U o U' L ({ frames := 0, cells := 0, slots := 0, locals := 0 } : Room).cells ({ frames := 0, cells := 0, slots := 0, locals := 0 } : Room).slots) := by
  refine own_body pn_1 ?_
  intro p e s m below meth c s₁ hx hby hml hown hnm hret hlk hZ XI eI
  obtain ⟨F, hF⟩ : ∃ F : State → JFrame → Prop, F = own_Fin p.tables e below s ({ frames := 0, cells := 0, slots := 0, locals := 0 } : Room) (Q1 Z a av q3 cv w A c0 hI n0) := ⟨_, rfl⟩
  have hst : ∀ {T T' : State} {g g' : JFrame}, (∀ t, Steps p.tables e below (T'.setTop g') t → Steps p.tables e below (T.setTop g) t) → F T' g' → F T g := by subst hF; exact own_st
  have NI := Fr.nil n0
  show own_Fin p.tables e below s ({ frames := 0, cells := 0, slots := 0, locals := 0 } : Room) (Q1 Z a av q3 cv w A c0 hI n0) s₁ (entryFrame m #[(.ref a), (.int av), (.long q3), (.int cv)] 11)
  rw [← hF]
  rw [ef_1]
  show F s₁ (mkF m 0 #[.val (.ref a), .val (.int av), .val (.long q3), .second, .val (.int cv), .unset, .unset, .unset, .unset, .unset, .unset] [])
  have k64 : (64 : Int32).toInt = 64 := by decide
  have k0 : (0 : Int32).toInt = 0 := by decide
  have k1 : (1 : Int32).toInt = 1 := by decide
  refine hst (fun t k => XS.iload XI.here hx rfl (hb hby d1_0) rfl k) ?_
  show F s₁ (mkF m 2 #[.val (.ref a), .val (.int av), .val (.long q3), .second, .val (.int cv), .unset, .unset, .unset, .unset, .unset, .unset] [(.int cv)])
  by_cases hc2 : cv = (0 : Int32)
  · -- pc 2: not taken
    refine hst (fun t k => XS.ifNo XI.here hx rfl (hb hby d1_2) rfl ((if0 _ _).trans (teq hc2).2) k) ?_
    show F s₁ (mkF m 5 #[.val (.ref a), .val (.int av), .val (.long q3), .second, .val (.int cv), .unset, .unset, .unset, .unset, .unset, .unset] [])
    rw [hF]
    refine own_retV XI hx hret hlk (hb hby d1_5) (by decide) (by decide) ?_
    rw [eI]
    exact ⟨w, rfl, NI, (Keep.refl hI [a]), Ar, (fun k i hk hi => own_none _ _ _ _ _ _ (by rw [hc2] at hC; omega) hi)⟩
  · -- pc 2: taken
    refine hst (fun t k => XS.ifYes XI.here hx rfl (pc0 := 2) (pc' := 6) rfl (hb hby d1_2) rfl ((if0 _ _).trans (feq hc2).2) (by decide) (by decide) k) ?_
    show F s₁ (mkF m 6 #[.val (.ref a), .val (.int av), .val (.long q3), .second, .val (.int cv), .unset, .unset, .unset, .unset, .unset, .unset] [])
    refine hst (fun t k => XS.iloadN XI.here hx rfl (hb hby d1_6) rfl k) ?_
    show F s₁ (mkF m 7 #[.val (.ref a), .val (.int av), .val (.long q3), .second, .val (.int cv), .unset, .unset, .unset, .unset, .unset, .unset] [(.int av)])
    refine hst (fun t k => XS.bipush XI.here hx rfl (hb hby d1_7) k) ?_
    show F s₁ (mkF m 9 #[.val (.ref a), .val (.int av), .val (.long q3), .second, .val (.int cv), .unset, .unset, .unset, .unset, .unset, .unset] [(.int (6 : Int32)), (.int av)])
    refine hst (fun t k => XS.iushr XI.here hx rfl (hb hby d1_9) rfl k) ?_
    show F s₁ (mkF m 10 #[.val (.ref a), .val (.int av), .val (.long q3), .second, .val (.int cv), .unset, .unset, .unset, .unset, .unset, .unset] [(.int ((av.toUInt32 >>> ((6 : Int32) &&& 31).toUInt32).toInt32))])
    generalize hwd : ((av.toUInt32 >>> ((6 : Int32) &&& 31).toUInt32).toInt32) = wd
    show F s₁ (mkF m 10 #[.val (.ref a), .val (.int av), .val (.long q3), .second, .val (.int cv), .unset, .unset, .unset, .unset, .unset, .unset] [(.int wd)])
    have kw : wd.toInt = ((A / 64 : Nat) : Int) := by
      rw [← hwd, c_iushr av 6 6 (by decide) (by decide)]; omega
    refine hst (fun t k => XS.istore XI.here hx rfl (hb hby d1_10) rfl (l' := #[.val (.ref a), .val (.int av), .val (.long q3), .second, .val (.int cv), .val (.int wd), .unset, .unset, .unset, .unset, .unset]) rfl k) ?_
    show F s₁ (mkF m 12 #[.val (.ref a), .val (.int av), .val (.long q3), .second, .val (.int cv), .val (.int wd), .unset, .unset, .unset, .unset, .unset] [])
    refine hst (fun t k => XS.iloadN XI.here hx rfl (hb hby d1_12) rfl k) ?_
    show F s₁ (mkF m 13 #[.val (.ref a), .val (.int av), .val (.long q3), .second, .val (.int cv), .val (.int wd), .unset, .unset, .unset, .unset, .unset] [(.int av)])
    refine hst (fun t k => XS.bipush XI.here hx rfl (hb hby d1_13) k) ?_
    show F s₁ (mkF m 15 #[.val (.ref a), .val (.int av), .val (.long q3), .second, .val (.int cv), .val (.int wd), .unset, .unset, .unset, .unset, .unset] [(.int (63 : Int32)), (.int av)])
    refine hst (fun t k => XS.iand XI.here hx rfl (hb hby d1_15) rfl k) ?_
    show F s₁ (mkF m 16 #[.val (.ref a), .val (.int av), .val (.long q3), .second, .val (.int cv), .val (.int wd), .unset, .unset, .unset, .unset, .unset] [(.int (av &&& (63 : Int32)))])
    generalize hsh : (av &&& (63 : Int32)) = sh
    show F s₁ (mkF m 16 #[.val (.ref a), .val (.int av), .val (.long q3), .second, .val (.int cv), .val (.int wd), .unset, .unset, .unset, .unset, .unset] [(.int sh)])
    have ks : sh.toInt = ((A % 64 : Nat) : Int) := by
      rw [← hsh, c_mask av 63 6 (by decide) (by decide)]; omega
    refine hst (fun t k => XS.istore XI.here hx rfl (hb hby d1_16) rfl (l' := #[.val (.ref a), .val (.int av), .val (.long q3), .second, .val (.int cv), .val (.int wd), .val (.int sh), .unset, .unset, .unset, .unset]) rfl k) ?_
    show F s₁ (mkF m 18 #[.val (.ref a), .val (.int av), .val (.long q3), .second, .val (.int cv), .val (.int wd), .val (.int sh), .unset, .unset, .unset, .unset] [])
    refine hst (fun t k => XS.iload XI.here hx rfl (hb hby d1_18) rfl k) ?_
    show F s₁ (mkF m 20 #[.val (.ref a), .val (.int av), .val (.long q3), .second, .val (.int cv), .val (.int wd), .val (.int sh), .unset, .unset, .unset, .unset] [(.int cv)])
    refine hst (fun t k => XS.bipush XI.here hx rfl (hb hby d1_20) k) ?_
    show F s₁ (mkF m 22 #[.val (.ref a), .val (.int av), .val (.long q3), .second, .val (.int cv), .val (.int wd), .val (.int sh), .unset, .unset, .unset, .unset] [(.int (64 : Int32)), (.int cv)])
    by_cases hc22 : cv = (64 : Int32)
    · -- pc 22: not taken
      refine hst (fun t k => XS.icmpNo XI.here hx rfl (hb hby d1_22) rfl (teq hc22).2 k) ?_
      show F s₁ (mkF m 25 #[.val (.ref a), .val (.int av), .val (.long q3), .second, .val (.int cv), .val (.int wd), .val (.int sh), .unset, .unset, .unset, .unset] [])
      have q22 : c0 = 64 := by rw [hc22] at hC; omega
      refine hst (fun t k => XI.ldc2J hx hown (mvT hZ (hw _ (List.mem_of_getElem? (i := 17) rfl))) (g := (mkF m 25 #[.val (.ref a), .val (.int av), .val (.long q3), .second, .val (.int cv), .val (.int wd), .val (.int sh), .unset, .unset, .unset, .unset] [])) rfl (hb hby d1_25) k) ?_
      show F s₁ (mkF m 28 #[.val (.ref a), .val (.int av), .val (.long q3), .second, .val (.int cv), .val (.int wd), .val (.int sh), .unset, .unset, .unset, .unset] [(.long (-1 : Int64))])
      refine hst (fun t k => XS.goto XI.here hx rfl (pc0 := 28) (pc' := 37) rfl (hb hby d1_28) (by decide) (by decide) k) ?_
      show F s₁ (mkF m 37 #[.val (.ref a), .val (.int av), .val (.long q3), .second, .val (.int cv), .val (.int wd), .val (.int sh), .unset, .unset, .unset, .unset] [(.long (-1 : Int64))])
      refine hst (fun t k => XS.lstore XI.here hx rfl (hb hby d1_37) rfl (l' := #[.val (.ref a), .val (.int av), .val (.long q3), .second, .val (.int cv), .val (.int wd), .val (.int sh), .val (.long (-1 : Int64)), .second, .unset, .unset]) rfl k) ?_
      show F s₁ (mkF m 39 #[.val (.ref a), .val (.int av), .val (.long q3), .second, .val (.int cv), .val (.int wd), .val (.int sh), .val (.long (-1 : Int64)), .second, .unset, .unset] [])
      generalize hfi : (-1 : Int64) = fi
      show F s₁ (mkF m 39 #[.val (.ref a), .val (.int av), .val (.long q3), .second, .val (.int cv), .val (.int wd), .val (.int sh), .val (.long fi), .second, .unset, .unset] [])
      have kf : ∀ i, i < 64 → own_b fi i = decide (i < c0) := by
        intro i hi; rw [← hfi]; first | exact own_b_mask cv c0 i hC q22 hi | (rw [own_b_m1 i hi]; simp; omega)
      refine hst (fun t k => XS.lloadN XI.here hx rfl (hb hby d1_39) rfl k) ?_
      show F s₁ (mkF m 40 #[.val (.ref a), .val (.int av), .val (.long q3), .second, .val (.int cv), .val (.int wd), .val (.int sh), .val (.long fi), .second, .unset, .unset] [(.long q3)])
      refine hst (fun t k => XS.lload XI.here hx rfl (hb hby d1_40) rfl k) ?_
      show F s₁ (mkF m 42 #[.val (.ref a), .val (.int av), .val (.long q3), .second, .val (.int cv), .val (.int wd), .val (.int sh), .val (.long fi), .second, .unset, .unset] [(.long fi), (.long q3)])
      refine hst (fun t k => XS.land XI.here hx rfl (hb hby d1_42) rfl k) ?_
      show F s₁ (mkF m 43 #[.val (.ref a), .val (.int av), .val (.long q3), .second, .val (.int cv), .val (.int wd), .val (.int sh), .val (.long fi), .second, .unset, .unset] [(.long (q3 &&& fi))])
      generalize hlw : (q3 &&& fi) = lw
      show F s₁ (mkF m 43 #[.val (.ref a), .val (.int av), .val (.long q3), .second, .val (.int cv), .val (.int wd), .val (.int sh), .val (.long fi), .second, .unset, .unset] [(.long lw)])
      have kl : ∀ i, i < 64 → own_b lw i = (own_b q3 i && decide (i < c0)) := by
        intro i hi; rw [← hlw, own_b_and, kf i hi]
      refine hst (fun t k => XS.lstore XI.here hx rfl (hb hby d1_43) rfl (l' := #[.val (.ref a), .val (.int av), .val (.long q3), .second, .val (.int cv), .val (.int wd), .val (.int sh), .val (.long fi), .second, .val (.long lw), .second]) rfl k) ?_
      show F s₁ (mkF m 45 #[.val (.ref a), .val (.int av), .val (.long q3), .second, .val (.int cv), .val (.int wd), .val (.int sh), .val (.long fi), .second, .val (.long lw), .second] [])
      refine hst (fun t k => XS.aloadN XI.here hx rfl (hb hby d1_45) rfl rfl k) ?_
      show F s₁ (mkF m 46 #[.val (.ref a), .val (.int av), .val (.long q3), .second, .val (.int cv), .val (.int wd), .val (.int sh), .val (.long fi), .second, .val (.long lw), .second] [(.ref a)])
      refine hst (fun t k => XS.iload XI.here hx rfl (hb hby d1_46) rfl k) ?_
      show F s₁ (mkF m 48 #[.val (.ref a), .val (.int av), .val (.long q3), .second, .val (.int cv), .val (.int wd), .val (.int sh), .val (.long fi), .second, .val (.long lw), .second] [(.int wd), (.ref a)])
      refine hst (fun t k => XS.aloadN XI.here hx rfl (hb hby d1_48) rfl rfl k) ?_
      show F s₁ (mkF m 49 #[.val (.ref a), .val (.int av), .val (.long q3), .second, .val (.int cv), .val (.int wd), .val (.int sh), .val (.long fi), .second, .val (.long lw), .second] [(.ref a), (.int wd), (.ref a)])
      refine hst (fun t k => XS.iload XI.here hx rfl (hb hby d1_49) rfl k) ?_
      show F s₁ (mkF m 51 #[.val (.ref a), .val (.int av), .val (.long q3), .second, .val (.int cv), .val (.int wd), .val (.int sh), .val (.long fi), .second, .val (.long lw), .second] [(.int wd), (.ref a), (.int wd), (.ref a)])
      refine hst (fun t k => own_laload XI hx hZ eI Ar (own_idx wd 3 (by omega) (by omega)) (v := (.long (w (A / 64)))) (by show Value.long (w wd.toNatClampNeg) = _; rw [own_clamp wd _ kw]) (g := (mkF m 51 #[.val (.ref a), .val (.int av), .val (.long q3), .second, .val (.int cv), .val (.int wd), .val (.int sh), .val (.long fi), .second, .val (.long lw), .second] [(.int wd), (.ref a), (.int wd), (.ref a)])) rfl rfl (hb hby d1_51) t k) ?_
      show F s₁ (mkF m 52 #[.val (.ref a), .val (.int av), .val (.long q3), .second, .val (.int cv), .val (.int wd), .val (.int sh), .val (.long fi), .second, .val (.long lw), .second] [(.long (w (A / 64))), (.int wd), (.ref a)])
      refine hst (fun t k => XS.lload XI.here hx rfl (hb hby d1_52) rfl k) ?_
      show F s₁ (mkF m 54 #[.val (.ref a), .val (.int av), .val (.long q3), .second, .val (.int cv), .val (.int wd), .val (.int sh), .val (.long fi), .second, .val (.long lw), .second] [(.long fi), (.long (w (A / 64))), (.int wd), (.ref a)])
      refine hst (fun t k => XS.iload XI.here hx rfl (hb hby d1_54) rfl k) ?_
      show F s₁ (mkF m 56 #[.val (.ref a), .val (.int av), .val (.long q3), .second, .val (.int cv), .val (.int wd), .val (.int sh), .val (.long fi), .second, .val (.long lw), .second] [(.int sh), (.long fi), (.long (w (A / 64))), (.int wd), (.ref a)])
      refine hst (fun t k => XS.lshl XI.here hx rfl (hb hby d1_56) rfl k) ?_
      show F s₁ (mkF m 57 #[.val (.ref a), .val (.int av), .val (.long q3), .second, .val (.int cv), .val (.int wd), .val (.int sh), .val (.long fi), .second, .val (.long lw), .second] [(.long (fi <<< (sh &&& 0x3f).toInt64)), (.long (w (A / 64))), (.int wd), (.ref a)])
      refine hst (fun t k => XI.ldc2J hx hown (mvT hZ (hw _ (List.mem_of_getElem? (i := 17) rfl))) (g := (mkF m 57 #[.val (.ref a), .val (.int av), .val (.long q3), .second, .val (.int cv), .val (.int wd), .val (.int sh), .val (.long fi), .second, .val (.long lw), .second] [(.long (fi <<< (sh &&& 0x3f).toInt64)), (.long (w (A / 64))), (.int wd), (.ref a)])) rfl (hb hby d1_57) k) ?_
      show F s₁ (mkF m 60 #[.val (.ref a), .val (.int av), .val (.long q3), .second, .val (.int cv), .val (.int wd), .val (.int sh), .val (.long fi), .second, .val (.long lw), .second] [(.long (-1 : Int64)), (.long (fi <<< (sh &&& 0x3f).toInt64)), (.long (w (A / 64))), (.int wd), (.ref a)])
      refine hst (fun t k => XS.lxor XI.here hx rfl (hb hby d1_60) rfl k) ?_
      show F s₁ (mkF m 61 #[.val (.ref a), .val (.int av), .val (.long q3), .second, .val (.int cv), .val (.int wd), .val (.int sh), .val (.long fi), .second, .val (.long lw), .second] [(.long ((fi <<< (sh &&& 0x3f).toInt64) ^^^ (-1 : Int64))), (.long (w (A / 64))), (.int wd), (.ref a)])
      refine hst (fun t k => XS.land XI.here hx rfl (hb hby d1_61) rfl k) ?_
      show F s₁ (mkF m 62 #[.val (.ref a), .val (.int av), .val (.long q3), .second, .val (.int cv), .val (.int wd), .val (.int sh), .val (.long fi), .second, .val (.long lw), .second] [(.long ((w (A / 64)) &&& ((fi <<< (sh &&& 0x3f).toInt64) ^^^ (-1 : Int64)))), (.int wd), (.ref a)])
      refine hst (fun t k => XS.lload XI.here hx rfl (hb hby d1_62) rfl k) ?_
      show F s₁ (mkF m 64 #[.val (.ref a), .val (.int av), .val (.long q3), .second, .val (.int cv), .val (.int wd), .val (.int sh), .val (.long fi), .second, .val (.long lw), .second] [(.long lw), (.long ((w (A / 64)) &&& ((fi <<< (sh &&& 0x3f).toInt64) ^^^ (-1 : Int64)))), (.int wd), (.ref a)])
      refine hst (fun t k => XS.iload XI.here hx rfl (hb hby d1_64) rfl k) ?_
      show F s₁ (mkF m 66 #[.val (.ref a), .val (.int av), .val (.long q3), .second, .val (.int cv), .val (.int wd), .val (.int sh), .val (.long fi), .second, .val (.long lw), .second] [(.int sh), (.long lw), (.long ((w (A / 64)) &&& ((fi <<< (sh &&& 0x3f).toInt64) ^^^ (-1 : Int64)))), (.int wd), (.ref a)])
      refine hst (fun t k => XS.lshl XI.here hx rfl (hb hby d1_66) rfl k) ?_
      show F s₁ (mkF m 67 #[.val (.ref a), .val (.int av), .val (.long q3), .second, .val (.int cv), .val (.int wd), .val (.int sh), .val (.long fi), .second, .val (.long lw), .second] [(.long (lw <<< (sh &&& 0x3f).toInt64)), (.long ((w (A / 64)) &&& ((fi <<< (sh &&& 0x3f).toInt64) ^^^ (-1 : Int64)))), (.int wd), (.ref a)])
      refine hst (fun t k => XS.lor XI.here hx rfl (hb hby d1_67) rfl k) ?_
      show F s₁ (mkF m 68 #[.val (.ref a), .val (.int av), .val (.long q3), .second, .val (.int cv), .val (.int wd), .val (.int sh), .val (.long fi), .second, .val (.long lw), .second] [(.long (((w (A / 64)) &&& ((fi <<< (sh &&& 0x3f).toInt64) ^^^ (-1 : Int64))) ||| (lw <<< (sh &&& 0x3f).toInt64))), (.int wd), (.ref a)])
      generalize hz0 : (((w (A / 64)) &&& ((fi <<< (sh &&& 0x3f).toInt64) ^^^ (-1 : Int64))) ||| (lw <<< (sh &&& 0x3f).toInt64)) = z0
      show F s₁ (mkF m 68 #[.val (.ref a), .val (.int av), .val (.long q3), .second, .val (.int cv), .val (.int wd), .val (.int sh), .val (.long fi), .second, .val (.long lw), .second] [(.long z0), (.int wd), (.ref a)])
      have kz0 : ∀ i, i < 64 → own_b z0 i = own_wr (w (A / 64)) q3 (A / 64) A c0 i := by
        intro i hi
        rw [← hz0, own_b_or, own_b_and, own_b_not _ _ hi, own_b_shl fi sh _ i ks (by omega) hi, own_b_shl lw sh _ i ks (by omega) hi, kf _ (by omega), kl _ (by omega)]
        exact own_low _ _ A c0 i (A % 64) (A / 64) hi rfl rfl _ _ rfl rfl
      obtain ⟨T68, h68, X68, e68, W68, st68⟩ := own_lastore XI hx hZ eI Ar (own_idx wd 3 (by omega) (by omega)) (g := (mkF m 68 #[.val (.ref a), .val (.int av), .val (.long q3), .second, .val (.int cv), .val (.int wd), .val (.int sh), .val (.long fi), .second, .val (.long lw), .second] [(.long z0), (.int wd), (.ref a)])) rfl rfl (hb hby d1_68)
      have N68 := Fr.snoc X68 NI ge_a
      have Ar_p68 : own_A Z h68 a .long 3 (fun i => if i = Int32.toNatClampNeg wd then (.long z0) else (fun i => .long (w i)) i) := Ar.set W68
      have Z0_p68 : n0 ≤ h68.size := Nat.le_trans Z0 (Keep.of_wr W68).1
      have K_p68 : Keep hI h68 [a] := (Keep.refl hI [a]).wr W68 (Or.inl (List.mem_of_getElem? (i := 0) rfl))
      refine hst st68 ?_
      have Ar_p68c : own_A Z h68 a .long 3 (fun i => .long (if i = A / 64 then z0 else w i)) := own_A.congr Ar_p68 (fun i hi => by rw [own_clamp wd _ kw]; split <;> rfl)
      show F T68 (mkF m 69 #[.val (.ref a), .val (.int av), .val (.long q3), .second, .val (.int cv), .val (.int wd), .val (.int sh), .val (.long fi), .second, .val (.long lw), .second] [])
      refine hst (fun t k => XS.iload X68.here hx rfl (hb hby d1_69) rfl k) ?_
      show F T68 (mkF m 71 #[.val (.ref a), .val (.int av), .val (.long q3), .second, .val (.int cv), .val (.int wd), .val (.int sh), .val (.long fi), .second, .val (.long lw), .second] [(.int sh)])
      refine hst (fun t k => XS.iload X68.here hx rfl (hb hby d1_71) rfl k) ?_
      show F T68 (mkF m 73 #[.val (.ref a), .val (.int av), .val (.long q3), .second, .val (.int cv), .val (.int wd), .val (.int sh), .val (.long fi), .second, .val (.long lw), .second] [(.int cv), (.int sh)])
      refine hst (fun t k => XS.iadd X68.here hx rfl (hb hby d1_73) rfl k) ?_
      show F T68 (mkF m 74 #[.val (.ref a), .val (.int av), .val (.long q3), .second, .val (.int cv), .val (.int wd), .val (.int sh), .val (.long fi), .second, .val (.long lw), .second] [(.int (sh + cv))])
      generalize hsu : (sh + cv) = su
      show F T68 (mkF m 74 #[.val (.ref a), .val (.int av), .val (.long q3), .second, .val (.int cv), .val (.int wd), .val (.int sh), .val (.long fi), .second, .val (.long lw), .second] [(.int su)])
      have ksu : su.toInt = ((A % 64 + c0 : Nat) : Int) := by
        have h1 := c_iadd sh cv; have h2 := rng32 su; rw [hsu] at h1; omega
      refine hst (fun t k => XS.bipush X68.here hx rfl (hb hby d1_74) k) ?_
      show F T68 (mkF m 76 #[.val (.ref a), .val (.int av), .val (.long q3), .second, .val (.int cv), .val (.int wd), .val (.int sh), .val (.long fi), .second, .val (.long lw), .second] [(.int (64 : Int32)), (.int su)])
      by_cases hc76 : (64 : Int32) < su
      · -- pc 76: not taken
        refine hst (fun t k => XS.icmpNo X68.here hx rfl (hb hby d1_76) rfl (tlt hc76).2.2.2 k) ?_
        show F T68 (mkF m 79 #[.val (.ref a), .val (.int av), .val (.long q3), .second, .val (.int cv), .val (.int wd), .val (.int sh), .val (.long fi), .second, .val (.long lw), .second] [])
        have q76 : 64 < A % 64 + c0 := by rw [own_lt32] at hc76; omega
        refine hst (fun t k => XS.aloadN X68.here hx rfl (hb hby d1_79) rfl rfl k) ?_
        show F T68 (mkF m 80 #[.val (.ref a), .val (.int av), .val (.long q3), .second, .val (.int cv), .val (.int wd), .val (.int sh), .val (.long fi), .second, .val (.long lw), .second] [(.ref a)])
        refine hst (fun t k => XS.iload X68.here hx rfl (hb hby d1_80) rfl k) ?_
        show F T68 (mkF m 82 #[.val (.ref a), .val (.int av), .val (.long q3), .second, .val (.int cv), .val (.int wd), .val (.int sh), .val (.long fi), .second, .val (.long lw), .second] [(.int wd), (.ref a)])
        refine hst (fun t k => XS.iconst X68.here hx rfl (hb hby d1_82) k) ?_
        show F T68 (mkF m 83 #[.val (.ref a), .val (.int av), .val (.long q3), .second, .val (.int cv), .val (.int wd), .val (.int sh), .val (.long fi), .second, .val (.long lw), .second] [(.int (1 : Int32)), (.int wd), (.ref a)])
        refine hst (fun t k => XS.iadd X68.here hx rfl (hb hby d1_83) rfl k) ?_
        show F T68 (mkF m 84 #[.val (.ref a), .val (.int av), .val (.long q3), .second, .val (.int cv), .val (.int wd), .val (.int sh), .val (.long fi), .second, .val (.long lw), .second] [(.int (wd + (1 : Int32))), (.ref a)])
        generalize hwx : (wd + (1 : Int32)) = wx
        show F T68 (mkF m 84 #[.val (.ref a), .val (.int av), .val (.long q3), .second, .val (.int cv), .val (.int wd), .val (.int sh), .val (.long fi), .second, .val (.long lw), .second] [(.int wx), (.ref a)])
        have kwx : wx.toInt = ((A / 64 + 1 : Nat) : Int) := by
          have h1 := c_iadd wd 1; have h2 := rng32 wx; rw [hwx] at h1; omega
        refine hst (fun t k => XS.aloadN X68.here hx rfl (hb hby d1_84) rfl rfl k) ?_
        show F T68 (mkF m 85 #[.val (.ref a), .val (.int av), .val (.long q3), .second, .val (.int cv), .val (.int wd), .val (.int sh), .val (.long fi), .second, .val (.long lw), .second] [(.ref a), (.int wx), (.ref a)])
        refine hst (fun t k => XS.iload X68.here hx rfl (hb hby d1_85) rfl k) ?_
        show F T68 (mkF m 87 #[.val (.ref a), .val (.int av), .val (.long q3), .second, .val (.int cv), .val (.int wd), .val (.int sh), .val (.long fi), .second, .val (.long lw), .second] [(.int wd), (.ref a), (.int wx), (.ref a)])
        refine hst (fun t k => XS.iconst X68.here hx rfl (hb hby d1_87) k) ?_
        show F T68 (mkF m 88 #[.val (.ref a), .val (.int av), .val (.long q3), .second, .val (.int cv), .val (.int wd), .val (.int sh), .val (.long fi), .second, .val (.long lw), .second] [(.int (1 : Int32)), (.int wd), (.ref a), (.int wx), (.ref a)])
        refine hst (fun t k => XS.iadd X68.here hx rfl (hb hby d1_88) rfl k) ?_
        show F T68 (mkF m 89 #[.val (.ref a), .val (.int av), .val (.long q3), .second, .val (.int cv), .val (.int wd), .val (.int sh), .val (.long fi), .second, .val (.long lw), .second] [(.int (wd + (1 : Int32))), (.ref a), (.int wx), (.ref a)])
        generalize hwy : (wd + (1 : Int32)) = wy
        show F T68 (mkF m 89 #[.val (.ref a), .val (.int av), .val (.long q3), .second, .val (.int cv), .val (.int wd), .val (.int sh), .val (.long fi), .second, .val (.long lw), .second] [(.int wy), (.ref a), (.int wx), (.ref a)])
        have kwy : wy.toInt = ((A / 64 + 1 : Nat) : Int) := by rw [← hwy]; exact hwx ▸ kwx
        refine hst (fun t k => own_laload X68 hx hZ e68 Ar_p68c (own_idx wy 3 (by omega) (by omega)) (v := (.long (w (A / 64 + 1)))) (by show Value.long (if wy.toNatClampNeg = A / 64 then z0 else w wy.toNatClampNeg) = _; rw [own_clamp wy _ kwy, if_neg (by omega)]) (g := (mkF m 89 #[.val (.ref a), .val (.int av), .val (.long q3), .second, .val (.int cv), .val (.int wd), .val (.int sh), .val (.long fi), .second, .val (.long lw), .second] [(.int wy), (.ref a), (.int wx), (.ref a)])) rfl rfl (hb hby d1_89) t k) ?_
        show F T68 (mkF m 90 #[.val (.ref a), .val (.int av), .val (.long q3), .second, .val (.int cv), .val (.int wd), .val (.int sh), .val (.long fi), .second, .val (.long lw), .second] [(.long (w (A / 64 + 1))), (.int wx), (.ref a)])
        refine hst (fun t k => XS.lload X68.here hx rfl (hb hby d1_90) rfl k) ?_
        show F T68 (mkF m 92 #[.val (.ref a), .val (.int av), .val (.long q3), .second, .val (.int cv), .val (.int wd), .val (.int sh), .val (.long fi), .second, .val (.long lw), .second] [(.long fi), (.long (w (A / 64 + 1))), (.int wx), (.ref a)])
        refine hst (fun t k => XS.bipush X68.here hx rfl (hb hby d1_92) k) ?_
        show F T68 (mkF m 94 #[.val (.ref a), .val (.int av), .val (.long q3), .second, .val (.int cv), .val (.int wd), .val (.int sh), .val (.long fi), .second, .val (.long lw), .second] [(.int (64 : Int32)), (.long fi), (.long (w (A / 64 + 1))), (.int wx), (.ref a)])
        refine hst (fun t k => XS.iload X68.here hx rfl (hb hby d1_94) rfl k) ?_
        show F T68 (mkF m 96 #[.val (.ref a), .val (.int av), .val (.long q3), .second, .val (.int cv), .val (.int wd), .val (.int sh), .val (.long fi), .second, .val (.long lw), .second] [(.int sh), (.int (64 : Int32)), (.long fi), (.long (w (A / 64 + 1))), (.int wx), (.ref a)])
        refine hst (fun t k => XS.isub X68.here hx rfl (hb hby d1_96) rfl k) ?_
        show F T68 (mkF m 97 #[.val (.ref a), .val (.int av), .val (.long q3), .second, .val (.int cv), .val (.int wd), .val (.int sh), .val (.long fi), .second, .val (.long lw), .second] [(.int ((64 : Int32) - sh)), (.long fi), (.long (w (A / 64 + 1))), (.int wx), (.ref a)])
        generalize hs2 : ((64 : Int32) - sh) = s2
        show F T68 (mkF m 97 #[.val (.ref a), .val (.int av), .val (.long q3), .second, .val (.int cv), .val (.int wd), .val (.int sh), .val (.long fi), .second, .val (.long lw), .second] [(.int s2), (.long fi), (.long (w (A / 64 + 1))), (.int wx), (.ref a)])
        have ks2 : s2.toInt = ((64 - A % 64 : Nat) : Int) := by
          have h1 := c_isub 64 sh; have h2 := rng32 s2; rw [hs2] at h1; omega
        refine hst (fun t k => XS.lushr X68.here hx rfl (hb hby d1_97) rfl k) ?_
        show F T68 (mkF m 98 #[.val (.ref a), .val (.int av), .val (.long q3), .second, .val (.int cv), .val (.int wd), .val (.int sh), .val (.long fi), .second, .val (.long lw), .second] [(.long ((fi.toUInt64 >>> (s2 &&& 0x3f).toInt64.toUInt64).toInt64)), (.long (w (A / 64 + 1))), (.int wx), (.ref a)])
        refine hst (fun t k => X68.ldc2J hx hown (mvT hZ (hw _ (List.mem_of_getElem? (i := 17) rfl))) (g := (mkF m 98 #[.val (.ref a), .val (.int av), .val (.long q3), .second, .val (.int cv), .val (.int wd), .val (.int sh), .val (.long fi), .second, .val (.long lw), .second] [(.long ((fi.toUInt64 >>> (s2 &&& 0x3f).toInt64.toUInt64).toInt64)), (.long (w (A / 64 + 1))), (.int wx), (.ref a)])) rfl (hb hby d1_98) k) ?_
        show F T68 (mkF m 101 #[.val (.ref a), .val (.int av), .val (.long q3), .second, .val (.int cv), .val (.int wd), .val (.int sh), .val (.long fi), .second, .val (.long lw), .second] [(.long (-1 : Int64)), (.long ((fi.toUInt64 >>> (s2 &&& 0x3f).toInt64.toUInt64).toInt64)), (.long (w (A / 64 + 1))), (.int wx), (.ref a)])
        refine hst (fun t k => XS.lxor X68.here hx rfl (hb hby d1_101) rfl k) ?_
        show F T68 (mkF m 102 #[.val (.ref a), .val (.int av), .val (.long q3), .second, .val (.int cv), .val (.int wd), .val (.int sh), .val (.long fi), .second, .val (.long lw), .second] [(.long (((fi.toUInt64 >>> (s2 &&& 0x3f).toInt64.toUInt64).toInt64) ^^^ (-1 : Int64))), (.long (w (A / 64 + 1))), (.int wx), (.ref a)])
        refine hst (fun t k => XS.land X68.here hx rfl (hb hby d1_102) rfl k) ?_
        show F T68 (mkF m 103 #[.val (.ref a), .val (.int av), .val (.long q3), .second, .val (.int cv), .val (.int wd), .val (.int sh), .val (.long fi), .second, .val (.long lw), .second] [(.long ((w (A / 64 + 1)) &&& (((fi.toUInt64 >>> (s2 &&& 0x3f).toInt64.toUInt64).toInt64) ^^^ (-1 : Int64)))), (.int wx), (.ref a)])
        refine hst (fun t k => XS.lload X68.here hx rfl (hb hby d1_103) rfl k) ?_
        show F T68 (mkF m 105 #[.val (.ref a), .val (.int av), .val (.long q3), .second, .val (.int cv), .val (.int wd), .val (.int sh), .val (.long fi), .second, .val (.long lw), .second] [(.long lw), (.long ((w (A / 64 + 1)) &&& (((fi.toUInt64 >>> (s2 &&& 0x3f).toInt64.toUInt64).toInt64) ^^^ (-1 : Int64)))), (.int wx), (.ref a)])
        refine hst (fun t k => XS.bipush X68.here hx rfl (hb hby d1_105) k) ?_
        show F T68 (mkF m 107 #[.val (.ref a), .val (.int av), .val (.long q3), .second, .val (.int cv), .val (.int wd), .val (.int sh), .val (.long fi), .second, .val (.long lw), .second] [(.int (64 : Int32)), (.long lw), (.long ((w (A / 64 + 1)) &&& (((fi.toUInt64 >>> (s2 &&& 0x3f).toInt64.toUInt64).toInt64) ^^^ (-1 : Int64)))), (.int wx), (.ref a)])
        refine hst (fun t k => XS.iload X68.here hx rfl (hb hby d1_107) rfl k) ?_
        show F T68 (mkF m 109 #[.val (.ref a), .val (.int av), .val (.long q3), .second, .val (.int cv), .val (.int wd), .val (.int sh), .val (.long fi), .second, .val (.long lw), .second] [(.int sh), (.int (64 : Int32)), (.long lw), (.long ((w (A / 64 + 1)) &&& (((fi.toUInt64 >>> (s2 &&& 0x3f).toInt64.toUInt64).toInt64) ^^^ (-1 : Int64)))), (.int wx), (.ref a)])
        refine hst (fun t k => XS.isub X68.here hx rfl (hb hby d1_109) rfl k) ?_
        show F T68 (mkF m 110 #[.val (.ref a), .val (.int av), .val (.long q3), .second, .val (.int cv), .val (.int wd), .val (.int sh), .val (.long fi), .second, .val (.long lw), .second] [(.int ((64 : Int32) - sh)), (.long lw), (.long ((w (A / 64 + 1)) &&& (((fi.toUInt64 >>> (s2 &&& 0x3f).toInt64.toUInt64).toInt64) ^^^ (-1 : Int64)))), (.int wx), (.ref a)])
        generalize hs3 : ((64 : Int32) - sh) = s3
        show F T68 (mkF m 110 #[.val (.ref a), .val (.int av), .val (.long q3), .second, .val (.int cv), .val (.int wd), .val (.int sh), .val (.long fi), .second, .val (.long lw), .second] [(.int s3), (.long lw), (.long ((w (A / 64 + 1)) &&& (((fi.toUInt64 >>> (s2 &&& 0x3f).toInt64.toUInt64).toInt64) ^^^ (-1 : Int64)))), (.int wx), (.ref a)])
        have ks3 : s3.toInt = ((64 - A % 64 : Nat) : Int) := by rw [← hs3]; exact hs2 ▸ ks2
        refine hst (fun t k => XS.lushr X68.here hx rfl (hb hby d1_110) rfl k) ?_
        show F T68 (mkF m 111 #[.val (.ref a), .val (.int av), .val (.long q3), .second, .val (.int cv), .val (.int wd), .val (.int sh), .val (.long fi), .second, .val (.long lw), .second] [(.long ((lw.toUInt64 >>> (s3 &&& 0x3f).toInt64.toUInt64).toInt64)), (.long ((w (A / 64 + 1)) &&& (((fi.toUInt64 >>> (s2 &&& 0x3f).toInt64.toUInt64).toInt64) ^^^ (-1 : Int64)))), (.int wx), (.ref a)])
        refine hst (fun t k => XS.lor X68.here hx rfl (hb hby d1_111) rfl k) ?_
        show F T68 (mkF m 112 #[.val (.ref a), .val (.int av), .val (.long q3), .second, .val (.int cv), .val (.int wd), .val (.int sh), .val (.long fi), .second, .val (.long lw), .second] [(.long (((w (A / 64 + 1)) &&& (((fi.toUInt64 >>> (s2 &&& 0x3f).toInt64.toUInt64).toInt64) ^^^ (-1 : Int64))) ||| ((lw.toUInt64 >>> (s3 &&& 0x3f).toInt64.toUInt64).toInt64))), (.int wx), (.ref a)])
        generalize hz1 : (((w (A / 64 + 1)) &&& (((fi.toUInt64 >>> (s2 &&& 0x3f).toInt64.toUInt64).toInt64) ^^^ (-1 : Int64))) ||| ((lw.toUInt64 >>> (s3 &&& 0x3f).toInt64.toUInt64).toInt64)) = z1
        show F T68 (mkF m 112 #[.val (.ref a), .val (.int av), .val (.long q3), .second, .val (.int cv), .val (.int wd), .val (.int sh), .val (.long fi), .second, .val (.long lw), .second] [(.long z1), (.int wx), (.ref a)])
        have kz1 : ∀ i, i < 64 → own_b z1 i = own_wr (w (A / 64 + 1)) q3 (A / 64 + 1) A c0 i := by
          intro i hi
          have e1 : own_b fi (64 - A % 64 + i) = decide (64 - A % 64 + i < c0) := by
            by_cases g : 64 - A % 64 + i < 64
            · exact kf _ g
            · rw [own_b_ge _ _ (by omega)]; symm; rw [decide_eq_false_iff_not]; omega
          have e2 : own_b lw (64 - A % 64 + i) = (own_b q3 (64 - A % 64 + i) && decide (64 - A % 64 + i < c0)) := by
            by_cases g : 64 - A % 64 + i < 64
            · exact kl _ g
            · rw [own_b_ge _ _ (by omega), own_b_ge _ _ (by omega)]; rfl
          rw [← hz1, own_b_or, own_b_and, own_b_not _ _ hi, own_b_ushr fi s2 _ i ks2 (by omega), own_b_ushr lw s3 _ i ks3 (by omega), e1, e2]
          exact own_high _ _ A c0 i (A % 64) (A / 64 + 1) hi rfl rfl q76 hC2 _ _ rfl rfl
        obtain ⟨T112, h112, X112, e112, W112, st112⟩ := own_lastore X68 hx hZ e68 Ar_p68c (own_idx wx 3 (by omega) (by omega)) (g := (mkF m 112 #[.val (.ref a), .val (.int av), .val (.long q3), .second, .val (.int cv), .val (.int wd), .val (.int sh), .val (.long fi), .second, .val (.long lw), .second] [(.long z1), (.int wx), (.ref a)])) rfl rfl (hb hby d1_112)
        have N112 := Fr.snoc X112 N68 ge_a
        have Ar_p112 : own_A Z h112 a .long 3 (fun i => if i = Int32.toNatClampNeg wx then (.long z1) else (fun i => .long (if i = A / 64 then z0 else w i)) i) := Ar_p68c.set W112
        have Z0_p112 : n0 ≤ h112.size := Nat.le_trans Z0_p68 (Keep.of_wr W112).1
        have K_p112 : Keep hI h112 [a] := K_p68.wr W112 (Or.inl (List.mem_of_getElem? (i := 0) rfl))
        refine hst st112 ?_
        have Ar_p112c : own_A Z h112 a .long 3 (fun i => .long (if i = A / 64 + 1 then z1 else if i = A / 64 then z0 else w i)) := own_A.congr Ar_p112 (fun i hi => by rw [own_clamp wx _ kwx]; split <;> rfl)
        show F T112 (mkF m 113 #[.val (.ref a), .val (.int av), .val (.long q3), .second, .val (.int cv), .val (.int wd), .val (.int sh), .val (.long fi), .second, .val (.long lw), .second] [])
        rw [hF]
        refine own_retV X112 hx hret hlk (hb hby d1_113) (by decide) (by decide) ?_
        rw [e112]
        refine ⟨_, rfl, N112, K_p112, Ar_p112c, ?_⟩
        intro k i hk hi
        try dsimp only
        by_cases g1 : k = A / 64 + 1
        · subst g1; rw [if_pos rfl]; exact kz1 i hi
        · rw [if_neg g1]
          by_cases g2 : k = A / 64
          · subst g2; rw [if_pos rfl]; exact kz0 i hi
          · rw [if_neg g2]; exact own_none _ _ _ _ _ _ (by omega) hi
      · -- pc 76: taken
        refine hst (fun t k => XS.icmpYes X68.here hx rfl (pc0 := 76) (pc' := 113) rfl (hb hby d1_76) rfl (flt hc76).2.2.2 (by decide) (by decide) k) ?_
        show F T68 (mkF m 113 #[.val (.ref a), .val (.int av), .val (.long q3), .second, .val (.int cv), .val (.int wd), .val (.int sh), .val (.long fi), .second, .val (.long lw), .second] [])
        have q76 : ¬ 64 < A % 64 + c0 := by rw [own_lt32] at hc76; omega
        rw [hF]
        refine own_retV X68 hx hret hlk (hb hby d1_113) (by decide) (by decide) ?_
        rw [e68]
        refine ⟨_, rfl, N68, K_p68, Ar_p68c, ?_⟩
        intro k i hk hi
        try dsimp only
        by_cases g2 : k = A / 64
        · subst g2; rw [if_pos rfl]; exact kz0 i hi
        · rw [if_neg g2]; exact own_none _ _ _ _ _ _ (by omega) hi
    · -- pc 22: taken
      refine hst (fun t k => XS.icmpYes XI.here hx rfl (pc0 := 22) (pc' := 31) rfl (hb hby d1_22) rfl (feq hc22).2 (by decide) (by decide) k) ?_
      show F s₁ (mkF m 31 #[.val (.ref a), .val (.int av), .val (.long q3), .second, .val (.int cv), .val (.int wd), .val (.int sh), .unset, .unset, .unset, .unset] [])
      have q22 : c0 < 64 := by
        have : ¬ cv.toInt = (64 : Int32).toInt := fun q => hc22 (Int32.toInt_inj.mp q)
        omega
      refine hst (fun t k => XS.lconst XI.here hx rfl (hb hby d1_31) k) ?_
      show F s₁ (mkF m 32 #[.val (.ref a), .val (.int av), .val (.long q3), .second, .val (.int cv), .val (.int wd), .val (.int sh), .unset, .unset, .unset, .unset] [(.long (1 : Int64))])
      refine hst (fun t k => XS.iload XI.here hx rfl (hb hby d1_32) rfl k) ?_
      show F s₁ (mkF m 34 #[.val (.ref a), .val (.int av), .val (.long q3), .second, .val (.int cv), .val (.int wd), .val (.int sh), .unset, .unset, .unset, .unset] [(.int cv), (.long (1 : Int64))])
      refine hst (fun t k => XS.lshl XI.here hx rfl (hb hby d1_34) rfl k) ?_
      show F s₁ (mkF m 35 #[.val (.ref a), .val (.int av), .val (.long q3), .second, .val (.int cv), .val (.int wd), .val (.int sh), .unset, .unset, .unset, .unset] [(.long ((1 : Int64) <<< (cv &&& 0x3f).toInt64))])
      refine hst (fun t k => XS.lconst XI.here hx rfl (hb hby d1_35) k) ?_
      show F s₁ (mkF m 36 #[.val (.ref a), .val (.int av), .val (.long q3), .second, .val (.int cv), .val (.int wd), .val (.int sh), .unset, .unset, .unset, .unset] [(.long (1 : Int64)), (.long ((1 : Int64) <<< (cv &&& 0x3f).toInt64))])
      refine hst (fun t k => XS.lsub XI.here hx rfl (hb hby d1_36) rfl k) ?_
      show F s₁ (mkF m 37 #[.val (.ref a), .val (.int av), .val (.long q3), .second, .val (.int cv), .val (.int wd), .val (.int sh), .unset, .unset, .unset, .unset] [(.long (((1 : Int64) <<< (cv &&& 0x3f).toInt64) - (1 : Int64)))])
      refine hst (fun t k => XS.lstore XI.here hx rfl (hb hby d1_37) rfl (l' := #[.val (.ref a), .val (.int av), .val (.long q3), .second, .val (.int cv), .val (.int wd), .val (.int sh), .val (.long (((1 : Int64) <<< (cv &&& 0x3f).toInt64) - (1 : Int64))), .second, .unset, .unset]) rfl k) ?_
      show F s₁ (mkF m 39 #[.val (.ref a), .val (.int av), .val (.long q3), .second, .val (.int cv), .val (.int wd), .val (.int sh), .val (.long (((1 : Int64) <<< (cv &&& 0x3f).toInt64) - (1 : Int64))), .second, .unset, .unset] [])
      generalize hfi : (((1 : Int64) <<< (cv &&& 0x3f).toInt64) - (1 : Int64)) = fi
      show F s₁ (mkF m 39 #[.val (.ref a), .val (.int av), .val (.long q3), .second, .val (.int cv), .val (.int wd), .val (.int sh), .val (.long fi), .second, .unset, .unset] [])
      have kf : ∀ i, i < 64 → own_b fi i = decide (i < c0) := by
        intro i hi; rw [← hfi]; first | exact own_b_mask cv c0 i hC q22 hi | (rw [own_b_m1 i hi]; simp; omega)
      refine hst (fun t k => XS.lloadN XI.here hx rfl (hb hby d1_39) rfl k) ?_
      show F s₁ (mkF m 40 #[.val (.ref a), .val (.int av), .val (.long q3), .second, .val (.int cv), .val (.int wd), .val (.int sh), .val (.long fi), .second, .unset, .unset] [(.long q3)])
      refine hst (fun t k => XS.lload XI.here hx rfl (hb hby d1_40) rfl k) ?_
      show F s₁ (mkF m 42 #[.val (.ref a), .val (.int av), .val (.long q3), .second, .val (.int cv), .val (.int wd), .val (.int sh), .val (.long fi), .second, .unset, .unset] [(.long fi), (.long q3)])
      refine hst (fun t k => XS.land XI.here hx rfl (hb hby d1_42) rfl k) ?_
      show F s₁ (mkF m 43 #[.val (.ref a), .val (.int av), .val (.long q3), .second, .val (.int cv), .val (.int wd), .val (.int sh), .val (.long fi), .second, .unset, .unset] [(.long (q3 &&& fi))])
      generalize hlw : (q3 &&& fi) = lw
      show F s₁ (mkF m 43 #[.val (.ref a), .val (.int av), .val (.long q3), .second, .val (.int cv), .val (.int wd), .val (.int sh), .val (.long fi), .second, .unset, .unset] [(.long lw)])
      have kl : ∀ i, i < 64 → own_b lw i = (own_b q3 i && decide (i < c0)) := by
        intro i hi; rw [← hlw, own_b_and, kf i hi]
      refine hst (fun t k => XS.lstore XI.here hx rfl (hb hby d1_43) rfl (l' := #[.val (.ref a), .val (.int av), .val (.long q3), .second, .val (.int cv), .val (.int wd), .val (.int sh), .val (.long fi), .second, .val (.long lw), .second]) rfl k) ?_
      show F s₁ (mkF m 45 #[.val (.ref a), .val (.int av), .val (.long q3), .second, .val (.int cv), .val (.int wd), .val (.int sh), .val (.long fi), .second, .val (.long lw), .second] [])
      refine hst (fun t k => XS.aloadN XI.here hx rfl (hb hby d1_45) rfl rfl k) ?_
      show F s₁ (mkF m 46 #[.val (.ref a), .val (.int av), .val (.long q3), .second, .val (.int cv), .val (.int wd), .val (.int sh), .val (.long fi), .second, .val (.long lw), .second] [(.ref a)])
      refine hst (fun t k => XS.iload XI.here hx rfl (hb hby d1_46) rfl k) ?_
      show F s₁ (mkF m 48 #[.val (.ref a), .val (.int av), .val (.long q3), .second, .val (.int cv), .val (.int wd), .val (.int sh), .val (.long fi), .second, .val (.long lw), .second] [(.int wd), (.ref a)])
      refine hst (fun t k => XS.aloadN XI.here hx rfl (hb hby d1_48) rfl rfl k) ?_
      show F s₁ (mkF m 49 #[.val (.ref a), .val (.int av), .val (.long q3), .second, .val (.int cv), .val (.int wd), .val (.int sh), .val (.long fi), .second, .val (.long lw), .second] [(.ref a), (.int wd), (.ref a)])
      refine hst (fun t k => XS.iload XI.here hx rfl (hb hby d1_49) rfl k) ?_
      show F s₁ (mkF m 51 #[.val (.ref a), .val (.int av), .val (.long q3), .second, .val (.int cv), .val (.int wd), .val (.int sh), .val (.long fi), .second, .val (.long lw), .second] [(.int wd), (.ref a), (.int wd), (.ref a)])
      refine hst (fun t k => own_laload XI hx hZ eI Ar (own_idx wd 3 (by omega) (by omega)) (v := (.long (w (A / 64)))) (by show Value.long (w wd.toNatClampNeg) = _; rw [own_clamp wd _ kw]) (g := (mkF m 51 #[.val (.ref a), .val (.int av), .val (.long q3), .second, .val (.int cv), .val (.int wd), .val (.int sh), .val (.long fi), .second, .val (.long lw), .second] [(.int wd), (.ref a), (.int wd), (.ref a)])) rfl rfl (hb hby d1_51) t k) ?_
      show F s₁ (mkF m 52 #[.val (.ref a), .val (.int av), .val (.long q3), .second, .val (.int cv), .val (.int wd), .val (.int sh), .val (.long fi), .second, .val (.long lw), .second] [(.long (w (A / 64))), (.int wd), (.ref a)])
      refine hst (fun t k => XS.lload XI.here hx rfl (hb hby d1_52) rfl k) ?_
      show F s₁ (mkF m 54 #[.val (.ref a), .val (.int av), .val (.long q3), .second, .val (.int cv), .val (.int wd), .val (.int sh), .val (.long fi), .second, .val (.long lw), .second] [(.long fi), (.long (w (A / 64))), (.int wd), (.ref a)])
      refine hst (fun t k => XS.iload XI.here hx rfl (hb hby d1_54) rfl k) ?_
      show F s₁ (mkF m 56 #[.val (.ref a), .val (.int av), .val (.long q3), .second, .val (.int cv), .val (.int wd), .val (.int sh), .val (.long fi), .second, .val (.long lw), .second] [(.int sh), (.long fi), (.long (w (A / 64))), (.int wd), (.ref a)])
      refine hst (fun t k => XS.lshl XI.here hx rfl (hb hby d1_56) rfl k) ?_
      show F s₁ (mkF m 57 #[.val (.ref a), .val (.int av), .val (.long q3), .second, .val (.int cv), .val (.int wd), .val (.int sh), .val (.long fi), .second, .val (.long lw), .second] [(.long (fi <<< (sh &&& 0x3f).toInt64)), (.long (w (A / 64))), (.int wd), (.ref a)])
      refine hst (fun t k => XI.ldc2J hx hown (mvT hZ (hw _ (List.mem_of_getElem? (i := 17) rfl))) (g := (mkF m 57 #[.val (.ref a), .val (.int av), .val (.long q3), .second, .val (.int cv), .val (.int wd), .val (.int sh), .val (.long fi), .second, .val (.long lw), .second] [(.long (fi <<< (sh &&& 0x3f).toInt64)), (.long (w (A / 64))), (.int wd), (.ref a)])) rfl (hb hby d1_57) k) ?_
      show F s₁ (mkF m 60 #[.val (.ref a), .val (.int av), .val (.long q3), .second, .val (.int cv), .val (.int wd), .val (.int sh), .val (.long fi), .second, .val (.long lw), .second] [(.long (-1 : Int64)), (.long (fi <<< (sh &&& 0x3f).toInt64)), (.long (w (A / 64))), (.int wd), (.ref a)])
      refine hst (fun t k => XS.lxor XI.here hx rfl (hb hby d1_60) rfl k) ?_
      show F s₁ (mkF m 61 #[.val (.ref a), .val (.int av), .val (.long q3), .second, .val (.int cv), .val (.int wd), .val (.int sh), .val (.long fi), .second, .val (.long lw), .second] [(.long ((fi <<< (sh &&& 0x3f).toInt64) ^^^ (-1 : Int64))), (.long (w (A / 64))), (.int wd), (.ref a)])
      refine hst (fun t k => XS.land XI.here hx rfl (hb hby d1_61) rfl k) ?_
      show F s₁ (mkF m 62 #[.val (.ref a), .val (.int av), .val (.long q3), .second, .val (.int cv), .val (.int wd), .val (.int sh), .val (.long fi), .second, .val (.long lw), .second] [(.long ((w (A / 64)) &&& ((fi <<< (sh &&& 0x3f).toInt64) ^^^ (-1 : Int64)))), (.int wd), (.ref a)])
      refine hst (fun t k => XS.lload XI.here hx rfl (hb hby d1_62) rfl k) ?_
      show F s₁ (mkF m 64 #[.val (.ref a), .val (.int av), .val (.long q3), .second, .val (.int cv), .val (.int wd), .val (.int sh), .val (.long fi), .second, .val (.long lw), .second] [(.long lw), (.long ((w (A / 64)) &&& ((fi <<< (sh &&& 0x3f).toInt64) ^^^ (-1 : Int64)))), (.int wd), (.ref a)])
      refine hst (fun t k => XS.iload XI.here hx rfl (hb hby d1_64) rfl k) ?_
      show F s₁ (mkF m 66 #[.val (.ref a), .val (.int av), .val (.long q3), .second, .val (.int cv), .val (.int wd), .val (.int sh), .val (.long fi), .second, .val (.long lw), .second] [(.int sh), (.long lw), (.long ((w (A / 64)) &&& ((fi <<< (sh &&& 0x3f).toInt64) ^^^ (-1 : Int64)))), (.int wd), (.ref a)])
      refine hst (fun t k => XS.lshl XI.here hx rfl (hb hby d1_66) rfl k) ?_
      show F s₁ (mkF m 67 #[.val (.ref a), .val (.int av), .val (.long q3), .second, .val (.int cv), .val (.int wd), .val (.int sh), .val (.long fi), .second, .val (.long lw), .second] [(.long (lw <<< (sh &&& 0x3f).toInt64)), (.long ((w (A / 64)) &&& ((fi <<< (sh &&& 0x3f).toInt64) ^^^ (-1 : Int64)))), (.int wd), (.ref a)])
      refine hst (fun t k => XS.lor XI.here hx rfl (hb hby d1_67) rfl k) ?_
      show F s₁ (mkF m 68 #[.val (.ref a), .val (.int av), .val (.long q3), .second, .val (.int cv), .val (.int wd), .val (.int sh), .val (.long fi), .second, .val (.long lw), .second] [(.long (((w (A / 64)) &&& ((fi <<< (sh &&& 0x3f).toInt64) ^^^ (-1 : Int64))) ||| (lw <<< (sh &&& 0x3f).toInt64))), (.int wd), (.ref a)])
      generalize hz0 : (((w (A / 64)) &&& ((fi <<< (sh &&& 0x3f).toInt64) ^^^ (-1 : Int64))) ||| (lw <<< (sh &&& 0x3f).toInt64)) = z0
      show F s₁ (mkF m 68 #[.val (.ref a), .val (.int av), .val (.long q3), .second, .val (.int cv), .val (.int wd), .val (.int sh), .val (.long fi), .second, .val (.long lw), .second] [(.long z0), (.int wd), (.ref a)])
      have kz0 : ∀ i, i < 64 → own_b z0 i = own_wr (w (A / 64)) q3 (A / 64) A c0 i := by
        intro i hi
        rw [← hz0, own_b_or, own_b_and, own_b_not _ _ hi, own_b_shl fi sh _ i ks (by omega) hi, own_b_shl lw sh _ i ks (by omega) hi, kf _ (by omega), kl _ (by omega)]
        exact own_low _ _ A c0 i (A % 64) (A / 64) hi rfl rfl _ _ rfl rfl
      obtain ⟨T68, h68, X68, e68, W68, st68⟩ := own_lastore XI hx hZ eI Ar (own_idx wd 3 (by omega) (by omega)) (g := (mkF m 68 #[.val (.ref a), .val (.int av), .val (.long q3), .second, .val (.int cv), .val (.int wd), .val (.int sh), .val (.long fi), .second, .val (.long lw), .second] [(.long z0), (.int wd), (.ref a)])) rfl rfl (hb hby d1_68)
      have N68 := Fr.snoc X68 NI ge_a
      have Ar_p68 : own_A Z h68 a .long 3 (fun i => if i = Int32.toNatClampNeg wd then (.long z0) else (fun i => .long (w i)) i) := Ar.set W68
      have Z0_p68 : n0 ≤ h68.size := Nat.le_trans Z0 (Keep.of_wr W68).1
      have K_p68 : Keep hI h68 [a] := (Keep.refl hI [a]).wr W68 (Or.inl (List.mem_of_getElem? (i := 0) rfl))
      refine hst st68 ?_
      have Ar_p68c : own_A Z h68 a .long 3 (fun i => .long (if i = A / 64 then z0 else w i)) := own_A.congr Ar_p68 (fun i hi => by rw [own_clamp wd _ kw]; split <;> rfl)
      show F T68 (mkF m 69 #[.val (.ref a), .val (.int av), .val (.long q3), .second, .val (.int cv), .val (.int wd), .val (.int sh), .val (.long fi), .second, .val (.long lw), .second] [])
      refine hst (fun t k => XS.iload X68.here hx rfl (hb hby d1_69) rfl k) ?_
      show F T68 (mkF m 71 #[.val (.ref a), .val (.int av), .val (.long q3), .second, .val (.int cv), .val (.int wd), .val (.int sh), .val (.long fi), .second, .val (.long lw), .second] [(.int sh)])
      refine hst (fun t k => XS.iload X68.here hx rfl (hb hby d1_71) rfl k) ?_
      show F T68 (mkF m 73 #[.val (.ref a), .val (.int av), .val (.long q3), .second, .val (.int cv), .val (.int wd), .val (.int sh), .val (.long fi), .second, .val (.long lw), .second] [(.int cv), (.int sh)])
      refine hst (fun t k => XS.iadd X68.here hx rfl (hb hby d1_73) rfl k) ?_
      show F T68 (mkF m 74 #[.val (.ref a), .val (.int av), .val (.long q3), .second, .val (.int cv), .val (.int wd), .val (.int sh), .val (.long fi), .second, .val (.long lw), .second] [(.int (sh + cv))])
      generalize hsu : (sh + cv) = su
      show F T68 (mkF m 74 #[.val (.ref a), .val (.int av), .val (.long q3), .second, .val (.int cv), .val (.int wd), .val (.int sh), .val (.long fi), .second, .val (.long lw), .second] [(.int su)])
      have ksu : su.toInt = ((A % 64 + c0 : Nat) : Int) := by
        have h1 := c_iadd sh cv; have h2 := rng32 su; rw [hsu] at h1; omega
      refine hst (fun t k => XS.bipush X68.here hx rfl (hb hby d1_74) k) ?_
      show F T68 (mkF m 76 #[.val (.ref a), .val (.int av), .val (.long q3), .second, .val (.int cv), .val (.int wd), .val (.int sh), .val (.long fi), .second, .val (.long lw), .second] [(.int (64 : Int32)), (.int su)])
      by_cases hc76 : (64 : Int32) < su
      · -- pc 76: not taken
        refine hst (fun t k => XS.icmpNo X68.here hx rfl (hb hby d1_76) rfl (tlt hc76).2.2.2 k) ?_
        show F T68 (mkF m 79 #[.val (.ref a), .val (.int av), .val (.long q3), .second, .val (.int cv), .val (.int wd), .val (.int sh), .val (.long fi), .second, .val (.long lw), .second] [])
        have q76 : 64 < A % 64 + c0 := by rw [own_lt32] at hc76; omega
        refine hst (fun t k => XS.aloadN X68.here hx rfl (hb hby d1_79) rfl rfl k) ?_
        show F T68 (mkF m 80 #[.val (.ref a), .val (.int av), .val (.long q3), .second, .val (.int cv), .val (.int wd), .val (.int sh), .val (.long fi), .second, .val (.long lw), .second] [(.ref a)])
        refine hst (fun t k => XS.iload X68.here hx rfl (hb hby d1_80) rfl k) ?_
        show F T68 (mkF m 82 #[.val (.ref a), .val (.int av), .val (.long q3), .second, .val (.int cv), .val (.int wd), .val (.int sh), .val (.long fi), .second, .val (.long lw), .second] [(.int wd), (.ref a)])
        refine hst (fun t k => XS.iconst X68.here hx rfl (hb hby d1_82) k) ?_
        show F T68 (mkF m 83 #[.val (.ref a), .val (.int av), .val (.long q3), .second, .val (.int cv), .val (.int wd), .val (.int sh), .val (.long fi), .second, .val (.long lw), .second] [(.int (1 : Int32)), (.int wd), (.ref a)])
        refine hst (fun t k => XS.iadd X68.here hx rfl (hb hby d1_83) rfl k) ?_
        show F T68 (mkF m 84 #[.val (.ref a), .val (.int av), .val (.long q3), .second, .val (.int cv), .val (.int wd), .val (.int sh), .val (.long fi), .second, .val (.long lw), .second] [(.int (wd + (1 : Int32))), (.ref a)])
        generalize hwx : (wd + (1 : Int32)) = wx
        show F T68 (mkF m 84 #[.val (.ref a), .val (.int av), .val (.long q3), .second, .val (.int cv), .val (.int wd), .val (.int sh), .val (.long fi), .second, .val (.long lw), .second] [(.int wx), (.ref a)])
        have kwx : wx.toInt = ((A / 64 + 1 : Nat) : Int) := by
          have h1 := c_iadd wd 1; have h2 := rng32 wx; rw [hwx] at h1; omega
        refine hst (fun t k => XS.aloadN X68.here hx rfl (hb hby d1_84) rfl rfl k) ?_
        show F T68 (mkF m 85 #[.val (.ref a), .val (.int av), .val (.long q3), .second, .val (.int cv), .val (.int wd), .val (.int sh), .val (.long fi), .second, .val (.long lw), .second] [(.ref a), (.int wx), (.ref a)])
        refine hst (fun t k => XS.iload X68.here hx rfl (hb hby d1_85) rfl k) ?_
        show F T68 (mkF m 87 #[.val (.ref a), .val (.int av), .val (.long q3), .second, .val (.int cv), .val (.int wd), .val (.int sh), .val (.long fi), .second, .val (.long lw), .second] [(.int wd), (.ref a), (.int wx), (.ref a)])
        refine hst (fun t k => XS.iconst X68.here hx rfl (hb hby d1_87) k) ?_
        show F T68 (mkF m 88 #[.val (.ref a), .val (.int av), .val (.long q3), .second, .val (.int cv), .val (.int wd), .val (.int sh), .val (.long fi), .second, .val (.long lw), .second] [(.int (1 : Int32)), (.int wd), (.ref a), (.int wx), (.ref a)])
        refine hst (fun t k => XS.iadd X68.here hx rfl (hb hby d1_88) rfl k) ?_
        show F T68 (mkF m 89 #[.val (.ref a), .val (.int av), .val (.long q3), .second, .val (.int cv), .val (.int wd), .val (.int sh), .val (.long fi), .second, .val (.long lw), .second] [(.int (wd + (1 : Int32))), (.ref a), (.int wx), (.ref a)])
        generalize hwy : (wd + (1 : Int32)) = wy
        show F T68 (mkF m 89 #[.val (.ref a), .val (.int av), .val (.long q3), .second, .val (.int cv), .val (.int wd), .val (.int sh), .val (.long fi), .second, .val (.long lw), .second] [(.int wy), (.ref a), (.int wx), (.ref a)])
        have kwy : wy.toInt = ((A / 64 + 1 : Nat) : Int) := by rw [← hwy]; exact hwx ▸ kwx
        refine hst (fun t k => own_laload X68 hx hZ e68 Ar_p68c (own_idx wy 3 (by omega) (by omega)) (v := (.long (w (A / 64 + 1)))) (by show Value.long (if wy.toNatClampNeg = A / 64 then z0 else w wy.toNatClampNeg) = _; rw [own_clamp wy _ kwy, if_neg (by omega)]) (g := (mkF m 89 #[.val (.ref a), .val (.int av), .val (.long q3), .second, .val (.int cv), .val (.int wd), .val (.int sh), .val (.long fi), .second, .val (.long lw), .second] [(.int wy), (.ref a), (.int wx), (.ref a)])) rfl rfl (hb hby d1_89) t k) ?_
        show F T68 (mkF m 90 #[.val (.ref a), .val (.int av), .val (.long q3), .second, .val (.int cv), .val (.int wd), .val (.int sh), .val (.long fi), .second, .val (.long lw), .second] [(.long (w (A / 64 + 1))), (.int wx), (.ref a)])
        refine hst (fun t k => XS.lload X68.here hx rfl (hb hby d1_90) rfl k) ?_
        show F T68 (mkF m 92 #[.val (.ref a), .val (.int av), .val (.long q3), .second, .val (.int cv), .val (.int wd), .val (.int sh), .val (.long fi), .second, .val (.long lw), .second] [(.long fi), (.long (w (A / 64 + 1))), (.int wx), (.ref a)])
        refine hst (fun t k => XS.bipush X68.here hx rfl (hb hby d1_92) k) ?_
        show F T68 (mkF m 94 #[.val (.ref a), .val (.int av), .val (.long q3), .second, .val (.int cv), .val (.int wd), .val (.int sh), .val (.long fi), .second, .val (.long lw), .second] [(.int (64 : Int32)), (.long fi), (.long (w (A / 64 + 1))), (.int wx), (.ref a)])
        refine hst (fun t k => XS.iload X68.here hx rfl (hb hby d1_94) rfl k) ?_
        show F T68 (mkF m 96 #[.val (.ref a), .val (.int av), .val (.long q3), .second, .val (.int cv), .val (.int wd), .val (.int sh), .val (.long fi), .second, .val (.long lw), .second] [(.int sh), (.int (64 : Int32)), (.long fi), (.long (w (A / 64 + 1))), (.int wx), (.ref a)])
        refine hst (fun t k => XS.isub X68.here hx rfl (hb hby d1_96) rfl k) ?_
        show F T68 (mkF m 97 #[.val (.ref a), .val (.int av), .val (.long q3), .second, .val (.int cv), .val (.int wd), .val (.int sh), .val (.long fi), .second, .val (.long lw), .second] [(.int ((64 : Int32) - sh)), (.long fi), (.long (w (A / 64 + 1))), (.int wx), (.ref a)])
        generalize hs2 : ((64 : Int32) - sh) = s2
        show F T68 (mkF m 97 #[.val (.ref a), .val (.int av), .val (.long q3), .second, .val (.int cv), .val (.int wd), .val (.int sh), .val (.long fi), .second, .val (.long lw), .second] [(.int s2), (.long fi), (.long (w (A / 64 + 1))), (.int wx), (.ref a)])
        have ks2 : s2.toInt = ((64 - A % 64 : Nat) : Int) := by
          have h1 := c_isub 64 sh; have h2 := rng32 s2; rw [hs2] at h1; omega
        refine hst (fun t k => XS.lushr X68.here hx rfl (hb hby d1_97) rfl k) ?_
        show F T68 (mkF m 98 #[.val (.ref a), .val (.int av), .val (.long q3), .second, .val (.int cv), .val (.int wd), .val (.int sh), .val (.long fi), .second, .val (.long lw), .second] [(.long ((fi.toUInt64 >>> (s2 &&& 0x3f).toInt64.toUInt64).toInt64)), (.long (w (A / 64 + 1))), (.int wx), (.ref a)])
        refine hst (fun t k => X68.ldc2J hx hown (mvT hZ (hw _ (List.mem_of_getElem? (i := 17) rfl))) (g := (mkF m 98 #[.val (.ref a), .val (.int av), .val (.long q3), .second, .val (.int cv), .val (.int wd), .val (.int sh), .val (.long fi), .second, .val (.long lw), .second] [(.long ((fi.toUInt64 >>> (s2 &&& 0x3f).toInt64.toUInt64).toInt64)), (.long (w (A / 64 + 1))), (.int wx), (.ref a)])) rfl (hb hby d1_98) k) ?_
        show F T68 (mkF m 101 #[.val (.ref a), .val (.int av), .val (.long q3), .second, .val (.int cv), .val (.int wd), .val (.int sh), .val (.long fi), .second, .val (.long lw), .second] [(.long (-1 : Int64)), (.long ((fi.toUInt64 >>> (s2 &&& 0x3f).toInt64.toUInt64).toInt64)), (.long (w (A / 64 + 1))), (.int wx), (.ref a)])
        refine hst (fun t k => XS.lxor X68.here hx rfl (hb hby d1_101) rfl k) ?_
        show F T68 (mkF m 102 #[.val (.ref a), .val (.int av), .val (.long q3), .second, .val (.int cv), .val (.int wd), .val (.int sh), .val (.long fi), .second, .val (.long lw), .second] [(.long (((fi.toUInt64 >>> (s2 &&& 0x3f).toInt64.toUInt64).toInt64) ^^^ (-1 : Int64))), (.long (w (A / 64 + 1))), (.int wx), (.ref a)])
        refine hst (fun t k => XS.land X68.here hx rfl (hb hby d1_102) rfl k) ?_
        show F T68 (mkF m 103 #[.val (.ref a), .val (.int av), .val (.long q3), .second, .val (.int cv), .val (.int wd), .val (.int sh), .val (.long fi), .second, .val (.long lw), .second] [(.long ((w (A / 64 + 1)) &&& (((fi.toUInt64 >>> (s2 &&& 0x3f).toInt64.toUInt64).toInt64) ^^^ (-1 : Int64)))), (.int wx), (.ref a)])
        refine hst (fun t k => XS.lload X68.here hx rfl (hb hby d1_103) rfl k) ?_
        show F T68 (mkF m 105 #[.val (.ref a), .val (.int av), .val (.long q3), .second, .val (.int cv), .val (.int wd), .val (.int sh), .val (.long fi), .second, .val (.long lw), .second] [(.long lw), (.long ((w (A / 64 + 1)) &&& (((fi.toUInt64 >>> (s2 &&& 0x3f).toInt64.toUInt64).toInt64) ^^^ (-1 : Int64)))), (.int wx), (.ref a)])
        refine hst (fun t k => XS.bipush X68.here hx rfl (hb hby d1_105) k) ?_
        show F T68 (mkF m 107 #[.val (.ref a), .val (.int av), .val (.long q3), .second, .val (.int cv), .val (.int wd), .val (.int sh), .val (.long fi), .second, .val (.long lw), .second] [(.int (64 : Int32)), (.long lw), (.long ((w (A / 64 + 1)) &&& (((fi.toUInt64 >>> (s2 &&& 0x3f).toInt64.toUInt64).toInt64) ^^^ (-1 : Int64)))), (.int wx), (.ref a)])
        refine hst (fun t k => XS.iload X68.here hx rfl (hb hby d1_107) rfl k) ?_
        show F T68 (mkF m 109 #[.val (.ref a), .val (.int av), .val (.long q3), .second, .val (.int cv), .val (.int wd), .val (.int sh), .val (.long fi), .second, .val (.long lw), .second] [(.int sh), (.int (64 : Int32)), (.long lw), (.long ((w (A / 64 + 1)) &&& (((fi.toUInt64 >>> (s2 &&& 0x3f).toInt64.toUInt64).toInt64) ^^^ (-1 : Int64)))), (.int wx), (.ref a)])
        refine hst (fun t k => XS.isub X68.here hx rfl (hb hby d1_109) rfl k) ?_
        show F T68 (mkF m 110 #[.val (.ref a), .val (.int av), .val (.long q3), .second, .val (.int cv), .val (.int wd), .val (.int sh), .val (.long fi), .second, .val (.long lw), .second] [(.int ((64 : Int32) - sh)), (.long lw), (.long ((w (A / 64 + 1)) &&& (((fi.toUInt64 >>> (s2 &&& 0x3f).toInt64.toUInt64).toInt64) ^^^ (-1 : Int64)))), (.int wx), (.ref a)])
        generalize hs3 : ((64 : Int32) - sh) = s3
        show F T68 (mkF m 110 #[.val (.ref a), .val (.int av), .val (.long q3), .second, .val (.int cv), .val (.int wd), .val (.int sh), .val (.long fi), .second, .val (.long lw), .second] [(.int s3), (.long lw), (.long ((w (A / 64 + 1)) &&& (((fi.toUInt64 >>> (s2 &&& 0x3f).toInt64.toUInt64).toInt64) ^^^ (-1 : Int64)))), (.int wx), (.ref a)])
        have ks3 : s3.toInt = ((64 - A % 64 : Nat) : Int) := by rw [← hs3]; exact hs2 ▸ ks2
        refine hst (fun t k => XS.lushr X68.here hx rfl (hb hby d1_110) rfl k) ?_
        show F T68 (mkF m 111 #[.val (.ref a), .val (.int av), .val (.long q3), .second, .val (.int cv), .val (.int wd), .val (.int sh), .val (.long fi), .second, .val (.long lw), .second] [(.long ((lw.toUInt64 >>> (s3 &&& 0x3f).toInt64.toUInt64).toInt64)), (.long ((w (A / 64 + 1)) &&& (((fi.toUInt64 >>> (s2 &&& 0x3f).toInt64.toUInt64).toInt64) ^^^ (-1 : Int64)))), (.int wx), (.ref a)])
        refine hst (fun t k => XS.lor X68.here hx rfl (hb hby d1_111) rfl k) ?_
        show F T68 (mkF m 112 #[.val (.ref a), .val (.int av), .val (.long q3), .second, .val (.int cv), .val (.int wd), .val (.int sh), .val (.long fi), .second, .val (.long lw), .second] [(.long (((w (A / 64 + 1)) &&& (((fi.toUInt64 >>> (s2 &&& 0x3f).toInt64.toUInt64).toInt64) ^^^ (-1 : Int64))) ||| ((lw.toUInt64 >>> (s3 &&& 0x3f).toInt64.toUInt64).toInt64))), (.int wx), (.ref a)])
        generalize hz1 : (((w (A / 64 + 1)) &&& (((fi.toUInt64 >>> (s2 &&& 0x3f).toInt64.toUInt64).toInt64) ^^^ (-1 : Int64))) ||| ((lw.toUInt64 >>> (s3 &&& 0x3f).toInt64.toUInt64).toInt64)) = z1
        show F T68 (mkF m 112 #[.val (.ref a), .val (.int av), .val (.long q3), .second, .val (.int cv), .val (.int wd), .val (.int sh), .val (.long fi), .second, .val (.long lw), .second] [(.long z1), (.int wx), (.ref a)])
        have kz1 : ∀ i, i < 64 → own_b z1 i = own_wr (w (A / 64 + 1)) q3 (A / 64 + 1) A c0 i := by
          intro i hi
          have e1 : own_b fi (64 - A % 64 + i) = decide (64 - A % 64 + i < c0) := by
            by_cases g : 64 - A % 64 + i < 64
            · exact kf _ g
            · rw [own_b_ge _ _ (by omega)]; symm; rw [decide_eq_false_iff_not]; omega
          have e2 : own_b lw (64 - A % 64 + i) = (own_b q3 (64 - A % 64 + i) && decide (64 - A % 64 + i < c0)) := by
            by_cases g : 64 - A % 64 + i < 64
            · exact kl _ g
            · rw [own_b_ge _ _ (by omega), own_b_ge _ _ (by omega)]; rfl
          rw [← hz1, own_b_or, own_b_and, own_b_not _ _ hi, own_b_ushr fi s2 _ i ks2 (by omega), own_b_ushr lw s3 _ i ks3 (by omega), e1, e2]
          exact own_high _ _ A c0 i (A % 64) (A / 64 + 1) hi rfl rfl q76 hC2 _ _ rfl rfl
        obtain ⟨T112, h112, X112, e112, W112, st112⟩ := own_lastore X68 hx hZ e68 Ar_p68c (own_idx wx 3 (by omega) (by omega)) (g := (mkF m 112 #[.val (.ref a), .val (.int av), .val (.long q3), .second, .val (.int cv), .val (.int wd), .val (.int sh), .val (.long fi), .second, .val (.long lw), .second] [(.long z1), (.int wx), (.ref a)])) rfl rfl (hb hby d1_112)
        have N112 := Fr.snoc X112 N68 ge_a
        have Ar_p112 : own_A Z h112 a .long 3 (fun i => if i = Int32.toNatClampNeg wx then (.long z1) else (fun i => .long (if i = A / 64 then z0 else w i)) i) := Ar_p68c.set W112
        have Z0_p112 : n0 ≤ h112.size := Nat.le_trans Z0_p68 (Keep.of_wr W112).1
        have K_p112 : Keep hI h112 [a] := K_p68.wr W112 (Or.inl (List.mem_of_getElem? (i := 0) rfl))
        refine hst st112 ?_
        have Ar_p112c : own_A Z h112 a .long 3 (fun i => .long (if i = A / 64 + 1 then z1 else if i = A / 64 then z0 else w i)) := own_A.congr Ar_p112 (fun i hi => by rw [own_clamp wx _ kwx]; split <;> rfl)
        show F T112 (mkF m 113 #[.val (.ref a), .val (.int av), .val (.long q3), .second, .val (.int cv), .val (.int wd), .val (.int sh), .val (.long fi), .second, .val (.long lw), .second] [])
        rw [hF]
        refine own_retV X112 hx hret hlk (hb hby d1_113) (by decide) (by decide) ?_
        rw [e112]
        refine ⟨_, rfl, N112, K_p112, Ar_p112c, ?_⟩
        intro k i hk hi
        try dsimp only
        by_cases g1 : k = A / 64 + 1
        · subst g1; rw [if_pos rfl]; exact kz1 i hi
        · rw [if_neg g1]
          by_cases g2 : k = A / 64
          · subst g2; rw [if_pos rfl]; exact kz0 i hi
          · rw [if_neg g2]; exact own_none _ _ _ _ _ _ (by omega) hi
      · -- pc 76: taken
        refine hst (fun t k => XS.icmpYes X68.here hx rfl (pc0 := 76) (pc' := 113) rfl (hb hby d1_76) rfl (flt hc76).2.2.2 (by decide) (by decide) k) ?_
        show F T68 (mkF m 113 #[.val (.ref a), .val (.int av), .val (.long q3), .second, .val (.int cv), .val (.int wd), .val (.int sh), .val (.long fi), .second, .val (.long lw), .second] [])
        have q76 : ¬ 64 < A % 64 + c0 := by rw [own_lt32] at hc76; omega
        rw [hF]
        refine own_retV X68 hx hret hlk (hb hby d1_113) (by decide) (by decide) ?_
        rw [e68]
        refine ⟨_, rfl, N68, K_p68, Ar_p68c, ?_⟩
        intro k i hk hi
        try dsimp only
        by_cases g2 : k = A / 64
        · subst g2; rw [if_pos rfl]; exact kz0 i hi
        · rw [if_neg g2]; exact own_none _ _ _ _ _ _ (by omega) hi
theorem d2_0 : decode method_3_code 0 = .ok (.bipush 64, 2) := by decide +kernel
theorem d2_2 : decode method_3_code 2 = .ok (.iload_n 2, 1) := by decide +kernel
theorem d2_3 : decode method_3_code 3 = .ok (.imul, 1) := by decide +kernel
theorem d2_4 : decode method_3_code 4 = .ok (.istore 7, 2) := by decide +kernel
theorem d2_6 : decode method_3_code 6 = .ok (.iload_n 3, 1) := by decide +kernel
theorem d2_7 : decode method_3_code 7 = .ok (.iload 7, 2) := by decide +kernel
theorem d2_9 : decode method_3_code 9 = .ok (.invokestatic 9, 3) := by decide +kernel
theorem d2_12 : decode method_3_code 12 = .ok (.istore 8, 2) := by decide +kernel
theorem d2_14 : decode method_3_code 14 = .ok (.iload_n 3, 1) := by decide +kernel
theorem d2_15 : decode method_3_code 15 = .ok (.iload 4, 2) := by decide +kernel
theorem d2_17 : decode method_3_code 17 = .ok (.iadd, 1) := by decide +kernel
theorem d2_18 : decode method_3_code 18 = .ok (.iload 7, 2) := by decide +kernel
theorem d2_20 : decode method_3_code 20 = .ok (.bipush 64, 2) := by decide +kernel
theorem d2_22 : decode method_3_code 22 = .ok (.iadd, 1) := by decide +kernel
theorem d2_23 : decode method_3_code 23 = .ok (.invokestatic 15, 3) := by decide +kernel
theorem d2_26 : decode method_3_code 26 = .ok (.istore 9, 2) := by decide +kernel
theorem d2_28 : decode method_3_code 28 = .ok (.iload 8, 2) := by decide +kernel
theorem d2_30 : decode method_3_code 30 = .ok (.iload 9, 2) := by decide +kernel
theorem d2_32 : decode method_3_code 32 = .ok (.if_icmp .lt 5, 3) := by decide +kernel
theorem d2_35 : decode method_3_code 35 = .ok (.lload_n 0, 1) := by decide +kernel
theorem d2_36 : decode method_3_code 36 = .ok (.lreturn, 1) := by decide +kernel
theorem d2_37 : decode method_3_code 37 = .ok (.iload 9, 2) := by decide +kernel
theorem d2_39 : decode method_3_code 39 = .ok (.iload 7, 2) := by decide +kernel
theorem d2_41 : decode method_3_code 41 = .ok (.isub, 1) := by decide +kernel
theorem d2_42 : decode method_3_code 42 = .ok (.invokestatic 18, 3) := by decide +kernel
theorem d2_45 : decode method_3_code 45 = .ok (.iload 8, 2) := by decide +kernel
theorem d2_47 : decode method_3_code 47 = .ok (.iload 7, 2) := by decide +kernel
theorem d2_49 : decode method_3_code 49 = .ok (.isub, 1) := by decide +kernel
theorem d2_50 : decode method_3_code 50 = .ok (.invokestatic 18, 3) := by decide +kernel
theorem d2_53 : decode method_3_code 53 = .ok (.ldc2_w 7, 3) := by decide +kernel
theorem d2_56 : decode method_3_code 56 = .ok (.lxor, 1) := by decide +kernel
theorem d2_57 : decode method_3_code 57 = .ok (.land, 1) := by decide +kernel
theorem d2_58 : decode method_3_code 58 = .ok (.lstore 10, 2) := by decide +kernel
theorem d2_60 : decode method_3_code 60 = .ok (.iload 7, 2) := by decide +kernel
theorem d2_62 : decode method_3_code 62 = .ok (.iload_n 3, 1) := by decide +kernel
theorem d2_63 : decode method_3_code 63 = .ok (.if_icmp .lt 15, 3) := by decide +kernel
theorem d2_66 : decode method_3_code 66 = .ok (.lload 5, 2) := by decide +kernel
theorem d2_68 : decode method_3_code 68 = .ok (.iload 7, 2) := by decide +kernel
theorem d2_70 : decode method_3_code 70 = .ok (.iload_n 3, 1) := by decide +kernel
theorem d2_71 : decode method_3_code 71 = .ok (.isub, 1) := by decide +kernel
theorem d2_72 : decode method_3_code 72 = .ok (.lushr, 1) := by decide +kernel
theorem d2_73 : decode method_3_code 73 = .ok (.lstore 12, 2) := by decide +kernel
theorem d2_75 : decode method_3_code 75 = .ok (.goto 12, 3) := by decide +kernel
theorem d2_78 : decode method_3_code 78 = .ok (.lload 5, 2) := by decide +kernel
theorem d2_80 : decode method_3_code 80 = .ok (.iload_n 3, 1) := by decide +kernel
theorem d2_81 : decode method_3_code 81 = .ok (.iload 7, 2) := by decide +kernel
theorem d2_83 : decode method_3_code 83 = .ok (.isub, 1) := by decide +kernel
theorem d2_84 : decode method_3_code 84 = .ok (.lshl, 1) := by decide +kernel
theorem d2_85 : decode method_3_code 85 = .ok (.lstore 12, 2) := by decide +kernel
theorem d2_87 : decode method_3_code 87 = .ok (.lload_n 0, 1) := by decide +kernel
theorem d2_88 : decode method_3_code 88 = .ok (.lload 10, 2) := by decide +kernel
theorem d2_90 : decode method_3_code 90 = .ok (.ldc2_w 7, 3) := by decide +kernel
theorem d2_93 : decode method_3_code 93 = .ok (.lxor, 1) := by decide +kernel
theorem d2_94 : decode method_3_code 94 = .ok (.land, 1) := by decide +kernel
theorem d2_95 : decode method_3_code 95 = .ok (.lload 12, 2) := by decide +kernel
theorem d2_97 : decode method_3_code 97 = .ok (.lload 10, 2) := by decide +kernel
theorem d2_99 : decode method_3_code 99 = .ok (.land, 1) := by decide +kernel
theorem d2_100 : decode method_3_code 100 = .ok (.lor, 1) := by decide +kernel
theorem d2_101 : decode method_3_code 101 = .ok (.lreturn, 1) := by decide +kernel
theorem pn_2 : plainFor (⟨"com/example/censo/censo/compact/BitFieldsWritePinLaw", "expected", "(JIIIJ)J"⟩ : MethodName) = true := plainFor_of_name (by first | (simp [plainName, overriddenIn]; done) | decide +kernel)
theorem pd_1 : parseMethodDescriptor "(II)I" = some ⟨[.int, .int], some .int⟩ := by decide +kernel
theorem pd_0 : parseMethodDescriptor "(I)J" = some ⟨[.int], some .long⟩ := by decide +kernel
theorem ef_2 (m : MethodId) (q0 : Int64) (iw : Int32) (av : Int32) (cv : Int32) (q4 : Int64) : entryFrame m #[(.long q0), (.int iw), (.int av), (.int cv), (.long q4)] 14 = mkF m 0 #[.val (.long q0), .second, .val (.int iw), .val (.int av), .val (.int cv), .val (.long q4), .second, .unset, .unset, .unset, .unset, .unset, .unset, .unset] [] := by first | (simp [entryFrame, mkF, argsToLocals, Value.category]; done) | rfl
def Q2 (Z : State) (q0 : Int64) (iw : Int32) (av : Int32) (cv : Int32) (q4 : Int64) (k : Nat) (A : Nat) (c0 : Nat) (hI : Heap) (n0 : Nat) (v : Option Value) (h : Heap) (L : List Loc) : Prop := ∃ (r : Int64), v = some (.long r) ∧ Fr n0 L ∧ h = hI ∧ ∀ i, i < 64 → own_b r i = own_wr q0 q4 k A c0 i
set_option maxRecDepth 65536 in
set_option maxHeartbeats 40000000 in
theorem rm2 (l : Launch) (Z : State) (a0 : Array Value) (hw : ∀ d ∈ tables_1, d.before a0 Z = true) (ws : List Jvm.Cond) (q0 : Int64) (iw : Int32) (av : Int32) (cv : Int32) (q4 : Int64) (k : Nat) (A : Nat) (c0 : Nat) (hI : Heap) (n0 : Nat) (Z0 : n0 ≤ hI.size) (hk : iw.toInt = k) (hk2 : k < 3) (hA : av.toInt = A) (hA2 : A ≤ 128) (hC : cv.toInt = c0) (hC2 : c0 ≤ 64) :
    MetFree l (⟨"com/example/censo/censo/compact/BitFieldsWritePinLaw", "expected", "(JIIIJ)J"⟩ : MethodName) (head1 (Jvm.Cond.code (⟨"com/example/censo/censo/compact/BitFieldsWritePinLaw", "expected", "(JIIIJ)J"⟩ : MethodName) method_3_code 14 (some .long) :: ws) ({ frames := 1, cells := 0, slots := 0, locals := 14 } : Room)) (fun xa U => xa = #[(.long q0), (.int iw), (.int av), (.int cv), (.long q4)] ∧ Z.Warmed39 U.vm ∧ U.heap = hI) (fun _ _ _ _ _ => True) (fun _ U o U' => ∃ v L, o = .returned v ∧ Q2 Z q0 iw av cv q4 k A c0 hI n0 v U'.heap L ∧ FrameEnd U o U' L ({ frames := 1, cells := 0, slots := 0, locals := 14 } : Room).cells ({ frames := 1, cells := 0, slots := 0, locals := 14 } : Room).slots) := by
  refine own_body pn_2 ?_
  intro p e s m below meth c s₁ hx hby hml hown hnm hret hlk hZ XI eI
  obtain ⟨F, hF⟩ : ∃ F : State → JFrame → Prop, F = own_Fin p.tables e below s ({ frames := 1, cells := 0, slots := 0, locals := 14 } : Room) (Q2 Z q0 iw av cv q4 k A c0 hI n0) := ⟨_, rfl⟩
  have hst : ∀ {T T' : State} {g g' : JFrame}, (∀ t, Steps p.tables e below (T'.setTop g') t → Steps p.tables e below (T.setTop g) t) → F T' g' → F T g := by subst hF; exact own_st
  have NI := Fr.nil n0
  show own_Fin p.tables e below s ({ frames := 1, cells := 0, slots := 0, locals := 14 } : Room) (Q2 Z q0 iw av cv q4 k A c0 hI n0) s₁ (entryFrame m #[(.long q0), (.int iw), (.int av), (.int cv), (.long q4)] 14)
  rw [← hF]
  rw [ef_2]
  show F s₁ (mkF m 0 #[.val (.long q0), .second, .val (.int iw), .val (.int av), .val (.int cv), .val (.long q4), .second, .unset, .unset, .unset, .unset, .unset, .unset, .unset] [])
  have k64 : (64 : Int32).toInt = 64 := by decide
  refine hst (fun t k => XS.bipush XI.here hx rfl (hb hby d2_0) k) ?_
  show F s₁ (mkF m 2 #[.val (.long q0), .second, .val (.int iw), .val (.int av), .val (.int cv), .val (.long q4), .second, .unset, .unset, .unset, .unset, .unset, .unset, .unset] [(.int (64 : Int32))])
  refine hst (fun t k => XS.iloadN XI.here hx rfl (hb hby d2_2) rfl k) ?_
  show F s₁ (mkF m 3 #[.val (.long q0), .second, .val (.int iw), .val (.int av), .val (.int cv), .val (.long q4), .second, .unset, .unset, .unset, .unset, .unset, .unset, .unset] [(.int iw), (.int (64 : Int32))])
  refine hst (fun t k => XS.imul XI.here hx rfl (hb hby d2_3) rfl k) ?_
  show F s₁ (mkF m 4 #[.val (.long q0), .second, .val (.int iw), .val (.int av), .val (.int cv), .val (.long q4), .second, .unset, .unset, .unset, .unset, .unset, .unset, .unset] [(.int ((64 : Int32) * iw))])
  generalize hba : ((64 : Int32) * iw) = ba
  show F s₁ (mkF m 4 #[.val (.long q0), .second, .val (.int iw), .val (.int av), .val (.int cv), .val (.long q4), .second, .unset, .unset, .unset, .unset, .unset, .unset, .unset] [(.int ba)])
  have kba : ba.toInt = ((64 * k : Nat) : Int) := by
    have h1 := c_imul 64 iw; have h2 := rng32 ba; rw [hba, k64, hk] at h1; omega
  refine hst (fun t k => XS.istore XI.here hx rfl (hb hby d2_4) rfl (l' := #[.val (.long q0), .second, .val (.int iw), .val (.int av), .val (.int cv), .val (.long q4), .second, .val (.int ba), .unset, .unset, .unset, .unset, .unset, .unset]) rfl k) ?_
  show F s₁ (mkF m 6 #[.val (.long q0), .second, .val (.int iw), .val (.int av), .val (.int cv), .val (.long q4), .second, .val (.int ba), .unset, .unset, .unset, .unset, .unset, .unset] [])
  refine hst (fun t k => XS.iloadN XI.here hx rfl (hb hby d2_6) rfl k) ?_
  show F s₁ (mkF m 7 #[.val (.long q0), .second, .val (.int iw), .val (.int av), .val (.int cv), .val (.long q4), .second, .val (.int ba), .unset, .unset, .unset, .unset, .unset, .unset] [(.int av)])
  refine hst (fun t k => XS.iload XI.here hx rfl (hb hby d2_7) rfl k) ?_
  show F s₁ (mkF m 9 #[.val (.long q0), .second, .val (.int iw), .val (.int av), .val (.int cv), .val (.long q4), .second, .val (.int ba), .unset, .unset, .unset, .unset, .unset, .unset] [(.int ba), (.int av)])
  obtain ⟨v9, T9, Lc9, X9, hQ9, st9⟩ := own_callS XI hx hZ hown (y := (⟨"java/lang/Math", "max", "(II)I"⟩ : MethodName)) (hw _ (List.mem_of_getElem? (i := 10) rfl)) (hw _ (List.mem_of_getElem? (i := 11) rfl)) (hw _ (List.mem_of_getElem? (i := 12) rfl)) (hw _ (List.mem_of_getElem? (i := 13) rfl)) (by decide) eI (rm3 l Z a0 hw [] av ba hI n0 Z0 ) (by decide) (by decide) (g := (mkF m 9 #[.val (.long q0), .second, .val (.int iw), .val (.int av), .val (.int cv), .val (.long q4), .second, .val (.int ba), .unset, .unset, .unset, .unset, .unset, .unset] [(.int ba), (.int av)])) rfl (by rw [hml]; rfl) (argsL := [(.int av), (.int ba)]) (rest := []) (lenOf pd_1 rfl) rfl rfl (W := 0) (by show 2 * 0 + _ ≤ _; exact Nat.le_of_eq rfl) (hb hby d2_9) (by decide) (by decide)
  obtain ⟨rfl, Nq9, he9⟩ := hQ9
  have N9 := Fr.app NI Nq9
  refine hst st9 ?_
  show F T9 (mkF m 12 #[.val (.long q0), .second, .val (.int iw), .val (.int av), .val (.int cv), .val (.long q4), .second, .val (.int ba), .unset, .unset, .unset, .unset, .unset, .unset] [(.int (if av < ba then ba else av))])
  generalize hlo : (if av < ba then ba else av) = lo
  show F T9 (mkF m 12 #[.val (.long q0), .second, .val (.int iw), .val (.int av), .val (.int cv), .val (.long q4), .second, .val (.int ba), .unset, .unset, .unset, .unset, .unset, .unset] [(.int lo)])
  have klo : lo.toInt = (((if A < 64 * k then 64 * k else A) : Nat) : Int) := by
    have h1 := own_max av ba; rw [hlo, hA, kba] at h1; rw [h1]; split <;> split <;> omega
  generalize hL : (if A < 64 * k then 64 * k else A) = Lo at klo
  refine hst (fun t k => XS.istore X9.here hx rfl (hb hby d2_12) rfl (l' := #[.val (.long q0), .second, .val (.int iw), .val (.int av), .val (.int cv), .val (.long q4), .second, .val (.int ba), .val (.int lo), .unset, .unset, .unset, .unset, .unset]) rfl k) ?_
  show F T9 (mkF m 14 #[.val (.long q0), .second, .val (.int iw), .val (.int av), .val (.int cv), .val (.long q4), .second, .val (.int ba), .val (.int lo), .unset, .unset, .unset, .unset, .unset] [])
  refine hst (fun t k => XS.iloadN X9.here hx rfl (hb hby d2_14) rfl k) ?_
  show F T9 (mkF m 15 #[.val (.long q0), .second, .val (.int iw), .val (.int av), .val (.int cv), .val (.long q4), .second, .val (.int ba), .val (.int lo), .unset, .unset, .unset, .unset, .unset] [(.int av)])
  refine hst (fun t k => XS.iload X9.here hx rfl (hb hby d2_15) rfl k) ?_
  show F T9 (mkF m 17 #[.val (.long q0), .second, .val (.int iw), .val (.int av), .val (.int cv), .val (.long q4), .second, .val (.int ba), .val (.int lo), .unset, .unset, .unset, .unset, .unset] [(.int cv), (.int av)])
  refine hst (fun t k => XS.iadd X9.here hx rfl (hb hby d2_17) rfl k) ?_
  show F T9 (mkF m 18 #[.val (.long q0), .second, .val (.int iw), .val (.int av), .val (.int cv), .val (.long q4), .second, .val (.int ba), .val (.int lo), .unset, .unset, .unset, .unset, .unset] [(.int (av + cv))])
  generalize hsu : (av + cv) = su
  show F T9 (mkF m 18 #[.val (.long q0), .second, .val (.int iw), .val (.int av), .val (.int cv), .val (.long q4), .second, .val (.int ba), .val (.int lo), .unset, .unset, .unset, .unset, .unset] [(.int su)])
  have ksu : su.toInt = ((A + c0 : Nat) : Int) := by have h1 := c_iadd av cv; have h2 := rng32 su; rw [hsu] at h1; omega
  refine hst (fun t k => XS.iload X9.here hx rfl (hb hby d2_18) rfl k) ?_
  show F T9 (mkF m 20 #[.val (.long q0), .second, .val (.int iw), .val (.int av), .val (.int cv), .val (.long q4), .second, .val (.int ba), .val (.int lo), .unset, .unset, .unset, .unset, .unset] [(.int ba), (.int su)])
  refine hst (fun t k => XS.bipush X9.here hx rfl (hb hby d2_20) k) ?_
  show F T9 (mkF m 22 #[.val (.long q0), .second, .val (.int iw), .val (.int av), .val (.int cv), .val (.long q4), .second, .val (.int ba), .val (.int lo), .unset, .unset, .unset, .unset, .unset] [(.int (64 : Int32)), (.int ba), (.int su)])
  refine hst (fun t k => XS.iadd X9.here hx rfl (hb hby d2_22) rfl k) ?_
  show F T9 (mkF m 23 #[.val (.long q0), .second, .val (.int iw), .val (.int av), .val (.int cv), .val (.long q4), .second, .val (.int ba), .val (.int lo), .unset, .unset, .unset, .unset, .unset] [(.int (ba + (64 : Int32))), (.int su)])
  generalize hsv : (ba + (64 : Int32)) = sv
  show F T9 (mkF m 23 #[.val (.long q0), .second, .val (.int iw), .val (.int av), .val (.int cv), .val (.long q4), .second, .val (.int ba), .val (.int lo), .unset, .unset, .unset, .unset, .unset] [(.int sv), (.int su)])
  have ksv : sv.toInt = ((64 * k + 64 : Nat) : Int) := by have h1 := c_iadd ba 64; have h2 := rng32 sv; rw [hsv] at h1; omega
  obtain ⟨v23, T23, Lc23, X23, hQ23, st23⟩ := own_callS X9 hx hZ hown (y := (⟨"java/lang/Math", "min", "(II)I"⟩ : MethodName)) (hw _ (List.mem_of_getElem? (i := 14) rfl)) (hw _ (List.mem_of_getElem? (i := 15) rfl)) (hw _ (List.mem_of_getElem? (i := 12) rfl)) (hw _ (List.mem_of_getElem? (i := 16) rfl)) (by decide) he9 (rm4 l Z a0 hw [] su sv hI n0 Z0 ) (by decide) (by decide) (g := (mkF m 23 #[.val (.long q0), .second, .val (.int iw), .val (.int av), .val (.int cv), .val (.long q4), .second, .val (.int ba), .val (.int lo), .unset, .unset, .unset, .unset, .unset] [(.int sv), (.int su)])) rfl (by rw [hml]; rfl) (argsL := [(.int su), (.int sv)]) (rest := []) (lenOf pd_1 rfl) rfl rfl (W := 0) (by show 2 * 0 + _ ≤ _; exact Nat.le_of_eq rfl) (hb hby d2_23) (by decide) (by decide)
  obtain ⟨rfl, Nq23, he23⟩ := hQ23
  have N23 := Fr.app N9 Nq23
  refine hst st23 ?_
  show F T23 (mkF m 26 #[.val (.long q0), .second, .val (.int iw), .val (.int av), .val (.int cv), .val (.long q4), .second, .val (.int ba), .val (.int lo), .unset, .unset, .unset, .unset, .unset] [(.int (if sv < su then sv else su))])
  generalize hhv : (if sv < su then sv else su) = hv
  show F T23 (mkF m 26 #[.val (.long q0), .second, .val (.int iw), .val (.int av), .val (.int cv), .val (.long q4), .second, .val (.int ba), .val (.int lo), .unset, .unset, .unset, .unset, .unset] [(.int hv)])
  have khi : hv.toInt = (((if 64 * k + 64 < A + c0 then 64 * k + 64 else A + c0) : Nat) : Int) := by
    have h1 := own_min su sv; rw [hhv, ksu, ksv] at h1; rw [h1]; split <;> split <;> omega
  generalize hH : (if 64 * k + 64 < A + c0 then 64 * k + 64 else A + c0) = Hi at khi
  have bL : (A < 64 * k ∧ Lo = 64 * k) ∨ (64 * k ≤ A ∧ Lo = A) := by rw [← hL]; split <;> omega
  have bH : (64 * k + 64 < A + c0 ∧ Hi = 64 * k + 64) ∨ (A + c0 ≤ 64 * k + 64 ∧ Hi = A + c0) := by rw [← hH]; split <;> omega
  refine hst (fun t k => XS.istore X23.here hx rfl (hb hby d2_26) rfl (l' := #[.val (.long q0), .second, .val (.int iw), .val (.int av), .val (.int cv), .val (.long q4), .second, .val (.int ba), .val (.int lo), .val (.int hv), .unset, .unset, .unset, .unset]) rfl k) ?_
  show F T23 (mkF m 28 #[.val (.long q0), .second, .val (.int iw), .val (.int av), .val (.int cv), .val (.long q4), .second, .val (.int ba), .val (.int lo), .val (.int hv), .unset, .unset, .unset, .unset] [])
  refine hst (fun t k => XS.iload X23.here hx rfl (hb hby d2_28) rfl k) ?_
  show F T23 (mkF m 30 #[.val (.long q0), .second, .val (.int iw), .val (.int av), .val (.int cv), .val (.long q4), .second, .val (.int ba), .val (.int lo), .val (.int hv), .unset, .unset, .unset, .unset] [(.int lo)])
  refine hst (fun t k => XS.iload X23.here hx rfl (hb hby d2_30) rfl k) ?_
  show F T23 (mkF m 32 #[.val (.long q0), .second, .val (.int iw), .val (.int av), .val (.int cv), .val (.long q4), .second, .val (.int ba), .val (.int lo), .val (.int hv), .unset, .unset, .unset, .unset] [(.int hv), (.int lo)])
  by_cases hc32 : lo < hv
  · -- pc 32: taken
    refine hst (fun t k => XS.icmpYes X23.here hx rfl (pc0 := 32) (pc' := 37) rfl (hb hby d2_32) rfl (tlt hc32).1 (by decide) (by decide) k) ?_
    show F T23 (mkF m 37 #[.val (.long q0), .second, .val (.int iw), .val (.int av), .val (.int cv), .val (.long q4), .second, .val (.int ba), .val (.int lo), .val (.int hv), .unset, .unset, .unset, .unset] [])
    have q32 : Lo < Hi := by rw [own_lt32] at hc32; omega
    refine hst (fun t k => XS.iload X23.here hx rfl (hb hby d2_37) rfl k) ?_
    show F T23 (mkF m 39 #[.val (.long q0), .second, .val (.int iw), .val (.int av), .val (.int cv), .val (.long q4), .second, .val (.int ba), .val (.int lo), .val (.int hv), .unset, .unset, .unset, .unset] [(.int hv)])
    refine hst (fun t k => XS.iload X23.here hx rfl (hb hby d2_39) rfl k) ?_
    show F T23 (mkF m 41 #[.val (.long q0), .second, .val (.int iw), .val (.int av), .val (.int cv), .val (.long q4), .second, .val (.int ba), .val (.int lo), .val (.int hv), .unset, .unset, .unset, .unset] [(.int ba), (.int hv)])
    refine hst (fun t k => XS.isub X23.here hx rfl (hb hby d2_41) rfl k) ?_
    show F T23 (mkF m 42 #[.val (.long q0), .second, .val (.int iw), .val (.int av), .val (.int cv), .val (.long q4), .second, .val (.int ba), .val (.int lo), .val (.int hv), .unset, .unset, .unset, .unset] [(.int (hv - ba))])
    generalize hm1 : (hv - ba) = m1
    show F T23 (mkF m 42 #[.val (.long q0), .second, .val (.int iw), .val (.int av), .val (.int cv), .val (.long q4), .second, .val (.int ba), .val (.int lo), .val (.int hv), .unset, .unset, .unset, .unset] [(.int m1)])
    have km1 : m1.toInt = ((Hi - 64 * k : Nat) : Int) := by have h1 := c_isub hv ba; have h2 := rng32 m1; rw [hm1] at h1; omega
    obtain ⟨v42, T42, Lc42, X42, hQ42, st42⟩ := own_callS X23 hx hZ hown (y := (⟨"com/example/censo/censo/compact/BitFieldsWritePinLaw", "maskOf", "(I)J"⟩ : MethodName)) (hw _ (List.mem_of_getElem? (i := 18) rfl)) (hw _ (List.mem_of_getElem? (i := 19) rfl)) (hw _ (List.mem_of_getElem? (i := 8) rfl)) (hw _ (List.mem_of_getElem? (i := 20) rfl)) (by decide) he23 (rm5 l Z a0 hw [] m1 (Hi - 64 * k) hI n0 Z0 km1 (by omega)) (by decide) (by decide) (g := (mkF m 42 #[.val (.long q0), .second, .val (.int iw), .val (.int av), .val (.int cv), .val (.long q4), .second, .val (.int ba), .val (.int lo), .val (.int hv), .unset, .unset, .unset, .unset] [(.int m1)])) rfl (by rw [hml]; rfl) (argsL := [(.int m1)]) (rest := []) (lenOf pd_0 rfl) rfl rfl (W := 0) (by show 2 * 0 + _ ≤ _; exact Nat.le_of_eq rfl) (hb hby d2_42) (by decide) (by decide)
    obtain ⟨r42, rfl, Nq42, he42, hb_42⟩ := hQ42
    have N42 := Fr.app N23 Nq42
    refine hst st42 ?_
    show F T42 (mkF m 45 #[.val (.long q0), .second, .val (.int iw), .val (.int av), .val (.int cv), .val (.long q4), .second, .val (.int ba), .val (.int lo), .val (.int hv), .unset, .unset, .unset, .unset] [(.long r42)])
    refine hst (fun t k => XS.iload X42.here hx rfl (hb hby d2_45) rfl k) ?_
    show F T42 (mkF m 47 #[.val (.long q0), .second, .val (.int iw), .val (.int av), .val (.int cv), .val (.long q4), .second, .val (.int ba), .val (.int lo), .val (.int hv), .unset, .unset, .unset, .unset] [(.int lo), (.long r42)])
    refine hst (fun t k => XS.iload X42.here hx rfl (hb hby d2_47) rfl k) ?_
    show F T42 (mkF m 49 #[.val (.long q0), .second, .val (.int iw), .val (.int av), .val (.int cv), .val (.long q4), .second, .val (.int ba), .val (.int lo), .val (.int hv), .unset, .unset, .unset, .unset] [(.int ba), (.int lo), (.long r42)])
    refine hst (fun t k => XS.isub X42.here hx rfl (hb hby d2_49) rfl k) ?_
    show F T42 (mkF m 50 #[.val (.long q0), .second, .val (.int iw), .val (.int av), .val (.int cv), .val (.long q4), .second, .val (.int ba), .val (.int lo), .val (.int hv), .unset, .unset, .unset, .unset] [(.int (lo - ba)), (.long r42)])
    generalize hm2 : (lo - ba) = m2
    show F T42 (mkF m 50 #[.val (.long q0), .second, .val (.int iw), .val (.int av), .val (.int cv), .val (.long q4), .second, .val (.int ba), .val (.int lo), .val (.int hv), .unset, .unset, .unset, .unset] [(.int m2), (.long r42)])
    have km2 : m2.toInt = ((Lo - 64 * k : Nat) : Int) := by have h1 := c_isub lo ba; have h2 := rng32 m2; rw [hm2] at h1; omega
    obtain ⟨v50, T50, Lc50, X50, hQ50, st50⟩ := own_callS X42 hx hZ hown (y := (⟨"com/example/censo/censo/compact/BitFieldsWritePinLaw", "maskOf", "(I)J"⟩ : MethodName)) (hw _ (List.mem_of_getElem? (i := 18) rfl)) (hw _ (List.mem_of_getElem? (i := 19) rfl)) (hw _ (List.mem_of_getElem? (i := 8) rfl)) (hw _ (List.mem_of_getElem? (i := 20) rfl)) (by decide) he42 (rm5 l Z a0 hw [] m2 (Lo - 64 * k) hI n0 Z0 km2 (by omega)) (by decide) (by decide) (g := (mkF m 50 #[.val (.long q0), .second, .val (.int iw), .val (.int av), .val (.int cv), .val (.long q4), .second, .val (.int ba), .val (.int lo), .val (.int hv), .unset, .unset, .unset, .unset] [(.int m2), (.long r42)])) rfl (by rw [hml]; rfl) (argsL := [(.int m2)]) (rest := [(.long r42)]) (lenOf pd_0 rfl) rfl rfl (W := 2) (by show 2 * 0 + _ ≤ _; exact Nat.le_of_eq rfl) (hb hby d2_50) (by decide) (by decide)
    obtain ⟨r50, rfl, Nq50, he50, hb_50⟩ := hQ50
    have N50 := Fr.app N42 Nq50
    refine hst st50 ?_
    show F T50 (mkF m 53 #[.val (.long q0), .second, .val (.int iw), .val (.int av), .val (.int cv), .val (.long q4), .second, .val (.int ba), .val (.int lo), .val (.int hv), .unset, .unset, .unset, .unset] [(.long r50), (.long r42)])
    refine hst (fun t k => X50.ldc2J hx hown (mvT hZ (hw _ (List.mem_of_getElem? (i := 21) rfl))) (g := (mkF m 53 #[.val (.long q0), .second, .val (.int iw), .val (.int av), .val (.int cv), .val (.long q4), .second, .val (.int ba), .val (.int lo), .val (.int hv), .unset, .unset, .unset, .unset] [(.long r50), (.long r42)])) rfl (hb hby d2_53) k) ?_
    show F T50 (mkF m 56 #[.val (.long q0), .second, .val (.int iw), .val (.int av), .val (.int cv), .val (.long q4), .second, .val (.int ba), .val (.int lo), .val (.int hv), .unset, .unset, .unset, .unset] [(.long (-1 : Int64)), (.long r50), (.long r42)])
    refine hst (fun t k => XS.lxor X50.here hx rfl (hb hby d2_56) rfl k) ?_
    show F T50 (mkF m 57 #[.val (.long q0), .second, .val (.int iw), .val (.int av), .val (.int cv), .val (.long q4), .second, .val (.int ba), .val (.int lo), .val (.int hv), .unset, .unset, .unset, .unset] [(.long (r50 ^^^ (-1 : Int64))), (.long r42)])
    refine hst (fun t k => XS.land X50.here hx rfl (hb hby d2_57) rfl k) ?_
    show F T50 (mkF m 58 #[.val (.long q0), .second, .val (.int iw), .val (.int av), .val (.int cv), .val (.long q4), .second, .val (.int ba), .val (.int lo), .val (.int hv), .unset, .unset, .unset, .unset] [(.long (r42 &&& (r50 ^^^ (-1 : Int64))))])
    generalize hmm : (r42 &&& (r50 ^^^ (-1 : Int64))) = mm
    show F T50 (mkF m 58 #[.val (.long q0), .second, .val (.int iw), .val (.int av), .val (.int cv), .val (.long q4), .second, .val (.int ba), .val (.int lo), .val (.int hv), .unset, .unset, .unset, .unset] [(.long mm)])
    have kmm : ∀ i, i < 64 → own_b mm i = (decide (i < Hi - 64 * k) && !decide (i < Lo - 64 * k)) := by
      intro i hi; rw [← hmm, own_b_and, own_b_not _ _ hi, hb_42 i hi, hb_50 i hi]
    refine hst (fun t k => XS.lstore X50.here hx rfl (hb hby d2_58) rfl (l' := #[.val (.long q0), .second, .val (.int iw), .val (.int av), .val (.int cv), .val (.long q4), .second, .val (.int ba), .val (.int lo), .val (.int hv), .val (.long mm), .second, .unset, .unset]) rfl k) ?_
    show F T50 (mkF m 60 #[.val (.long q0), .second, .val (.int iw), .val (.int av), .val (.int cv), .val (.long q4), .second, .val (.int ba), .val (.int lo), .val (.int hv), .val (.long mm), .second, .unset, .unset] [])
    refine hst (fun t k => XS.iload X50.here hx rfl (hb hby d2_60) rfl k) ?_
    show F T50 (mkF m 62 #[.val (.long q0), .second, .val (.int iw), .val (.int av), .val (.int cv), .val (.long q4), .second, .val (.int ba), .val (.int lo), .val (.int hv), .val (.long mm), .second, .unset, .unset] [(.int ba)])
    refine hst (fun t k => XS.iloadN X50.here hx rfl (hb hby d2_62) rfl k) ?_
    show F T50 (mkF m 63 #[.val (.long q0), .second, .val (.int iw), .val (.int av), .val (.int cv), .val (.long q4), .second, .val (.int ba), .val (.int lo), .val (.int hv), .val (.long mm), .second, .unset, .unset] [(.int av), (.int ba)])
    by_cases hc63 : ba < av
    · -- pc 63: taken
      refine hst (fun t k => XS.icmpYes X50.here hx rfl (pc0 := 63) (pc' := 78) rfl (hb hby d2_63) rfl (tlt hc63).1 (by decide) (by decide) k) ?_
      show F T50 (mkF m 78 #[.val (.long q0), .second, .val (.int iw), .val (.int av), .val (.int cv), .val (.long q4), .second, .val (.int ba), .val (.int lo), .val (.int hv), .val (.long mm), .second, .unset, .unset] [])
      have q63 : 64 * k < A := by rw [own_lt32] at hc63; omega
      refine hst (fun t k => XS.lload X50.here hx rfl (hb hby d2_78) rfl k) ?_
      show F T50 (mkF m 80 #[.val (.long q0), .second, .val (.int iw), .val (.int av), .val (.int cv), .val (.long q4), .second, .val (.int ba), .val (.int lo), .val (.int hv), .val (.long mm), .second, .unset, .unset] [(.long q4)])
      refine hst (fun t k => XS.iloadN X50.here hx rfl (hb hby d2_80) rfl k) ?_
      show F T50 (mkF m 81 #[.val (.long q0), .second, .val (.int iw), .val (.int av), .val (.int cv), .val (.long q4), .second, .val (.int ba), .val (.int lo), .val (.int hv), .val (.long mm), .second, .unset, .unset] [(.int av), (.long q4)])
      refine hst (fun t k => XS.iload X50.here hx rfl (hb hby d2_81) rfl k) ?_
      show F T50 (mkF m 83 #[.val (.long q0), .second, .val (.int iw), .val (.int av), .val (.int cv), .val (.long q4), .second, .val (.int ba), .val (.int lo), .val (.int hv), .val (.long mm), .second, .unset, .unset] [(.int ba), (.int av), (.long q4)])
      refine hst (fun t k => XS.isub X50.here hx rfl (hb hby d2_83) rfl k) ?_
      show F T50 (mkF m 84 #[.val (.long q0), .second, .val (.int iw), .val (.int av), .val (.int cv), .val (.long q4), .second, .val (.int ba), .val (.int lo), .val (.int hv), .val (.long mm), .second, .unset, .unset] [(.int (av - ba)), (.long q4)])
      generalize hs2 : (av - ba) = s2
      show F T50 (mkF m 84 #[.val (.long q0), .second, .val (.int iw), .val (.int av), .val (.int cv), .val (.long q4), .second, .val (.int ba), .val (.int lo), .val (.int hv), .val (.long mm), .second, .unset, .unset] [(.int s2), (.long q4)])
      have ks2 : s2.toInt = ((A - 64 * k : Nat) : Int) := by have h1 := c_isub av ba; have h2 := rng32 s2; rw [hs2] at h1; omega
      refine hst (fun t k => XS.lshl X50.here hx rfl (hb hby d2_84) rfl k) ?_
      show F T50 (mkF m 85 #[.val (.long q0), .second, .val (.int iw), .val (.int av), .val (.int cv), .val (.long q4), .second, .val (.int ba), .val (.int lo), .val (.int hv), .val (.long mm), .second, .unset, .unset] [(.long (q4 <<< (s2 &&& 0x3f).toInt64))])
      generalize hva : (q4 <<< (s2 &&& 0x3f).toInt64) = va
      show F T50 (mkF m 85 #[.val (.long q0), .second, .val (.int iw), .val (.int av), .val (.int cv), .val (.long q4), .second, .val (.int ba), .val (.int lo), .val (.int hv), .val (.long mm), .second, .unset, .unset] [(.long va)])
      have kva : ∀ i, i < 64 → own_b mm i = true → own_b va i = own_b q4 (64 * k + i - A) := by
        intro i hi hmi; rw [kmm i hi] at hmi; simp only [Bool.and_eq_true, Bool.not_eq_true', decide_eq_true_eq, decide_eq_false_iff_not] at hmi
        rw [← hva, own_b_shl q4 s2 _ i ks2 (by omega) hi]
        have g : A - 64 * k ≤ i := by omega
        have e : i - (A - 64 * k) = 64 * k + i - A := by omega
        simp [g, e]
      refine hst (fun t k => XS.lstore X50.here hx rfl (hb hby d2_85) rfl (l' := #[.val (.long q0), .second, .val (.int iw), .val (.int av), .val (.int cv), .val (.long q4), .second, .val (.int ba), .val (.int lo), .val (.int hv), .val (.long mm), .second, .val (.long va), .second]) rfl k) ?_
      show F T50 (mkF m 87 #[.val (.long q0), .second, .val (.int iw), .val (.int av), .val (.int cv), .val (.long q4), .second, .val (.int ba), .val (.int lo), .val (.int hv), .val (.long mm), .second, .val (.long va), .second] [])
      refine hst (fun t k => XS.lloadN X50.here hx rfl (hb hby d2_87) rfl k) ?_
      show F T50 (mkF m 88 #[.val (.long q0), .second, .val (.int iw), .val (.int av), .val (.int cv), .val (.long q4), .second, .val (.int ba), .val (.int lo), .val (.int hv), .val (.long mm), .second, .val (.long va), .second] [(.long q0)])
      refine hst (fun t k => XS.lload X50.here hx rfl (hb hby d2_88) rfl k) ?_
      show F T50 (mkF m 90 #[.val (.long q0), .second, .val (.int iw), .val (.int av), .val (.int cv), .val (.long q4), .second, .val (.int ba), .val (.int lo), .val (.int hv), .val (.long mm), .second, .val (.long va), .second] [(.long mm), (.long q0)])
      refine hst (fun t k => X50.ldc2J hx hown (mvT hZ (hw _ (List.mem_of_getElem? (i := 21) rfl))) (g := (mkF m 90 #[.val (.long q0), .second, .val (.int iw), .val (.int av), .val (.int cv), .val (.long q4), .second, .val (.int ba), .val (.int lo), .val (.int hv), .val (.long mm), .second, .val (.long va), .second] [(.long mm), (.long q0)])) rfl (hb hby d2_90) k) ?_
      show F T50 (mkF m 93 #[.val (.long q0), .second, .val (.int iw), .val (.int av), .val (.int cv), .val (.long q4), .second, .val (.int ba), .val (.int lo), .val (.int hv), .val (.long mm), .second, .val (.long va), .second] [(.long (-1 : Int64)), (.long mm), (.long q0)])
      refine hst (fun t k => XS.lxor X50.here hx rfl (hb hby d2_93) rfl k) ?_
      show F T50 (mkF m 94 #[.val (.long q0), .second, .val (.int iw), .val (.int av), .val (.int cv), .val (.long q4), .second, .val (.int ba), .val (.int lo), .val (.int hv), .val (.long mm), .second, .val (.long va), .second] [(.long (mm ^^^ (-1 : Int64))), (.long q0)])
      refine hst (fun t k => XS.land X50.here hx rfl (hb hby d2_94) rfl k) ?_
      show F T50 (mkF m 95 #[.val (.long q0), .second, .val (.int iw), .val (.int av), .val (.int cv), .val (.long q4), .second, .val (.int ba), .val (.int lo), .val (.int hv), .val (.long mm), .second, .val (.long va), .second] [(.long (q0 &&& (mm ^^^ (-1 : Int64))))])
      refine hst (fun t k => XS.lload X50.here hx rfl (hb hby d2_95) rfl k) ?_
      show F T50 (mkF m 97 #[.val (.long q0), .second, .val (.int iw), .val (.int av), .val (.int cv), .val (.long q4), .second, .val (.int ba), .val (.int lo), .val (.int hv), .val (.long mm), .second, .val (.long va), .second] [(.long va), (.long (q0 &&& (mm ^^^ (-1 : Int64))))])
      refine hst (fun t k => XS.lload X50.here hx rfl (hb hby d2_97) rfl k) ?_
      show F T50 (mkF m 99 #[.val (.long q0), .second, .val (.int iw), .val (.int av), .val (.int cv), .val (.long q4), .second, .val (.int ba), .val (.int lo), .val (.int hv), .val (.long mm), .second, .val (.long va), .second] [(.long mm), (.long va), (.long (q0 &&& (mm ^^^ (-1 : Int64))))])
      refine hst (fun t k => XS.land X50.here hx rfl (hb hby d2_99) rfl k) ?_
      show F T50 (mkF m 100 #[.val (.long q0), .second, .val (.int iw), .val (.int av), .val (.int cv), .val (.long q4), .second, .val (.int ba), .val (.int lo), .val (.int hv), .val (.long mm), .second, .val (.long va), .second] [(.long (va &&& mm)), (.long (q0 &&& (mm ^^^ (-1 : Int64))))])
      refine hst (fun t k => XS.lor X50.here hx rfl (hb hby d2_100) rfl k) ?_
      show F T50 (mkF m 101 #[.val (.long q0), .second, .val (.int iw), .val (.int av), .val (.int cv), .val (.long q4), .second, .val (.int ba), .val (.int lo), .val (.int hv), .val (.long mm), .second, .val (.long va), .second] [(.long ((q0 &&& (mm ^^^ (-1 : Int64))) ||| (va &&& mm)))])
      rw [hF]
      refine own_retJ X50 hx hret hlk (hb hby d2_101) (by decide) (by decide) ?_
      rw [he50]
      refine ⟨_, rfl, N50, rfl, ?_⟩
      intro i hi
      rw [own_b_or, own_b_and, own_b_and, own_b_not _ _ hi]
      exact own_expect q0 q4 k A c0 i Lo Hi hi hL.symm hH.symm _ _ (kmm i hi) (kva i hi)
    · -- pc 63: not taken
      refine hst (fun t k => XS.icmpNo X50.here hx rfl (hb hby d2_63) rfl (flt hc63).1 k) ?_
      show F T50 (mkF m 66 #[.val (.long q0), .second, .val (.int iw), .val (.int av), .val (.int cv), .val (.long q4), .second, .val (.int ba), .val (.int lo), .val (.int hv), .val (.long mm), .second, .unset, .unset] [])
      have q63 : ¬ 64 * k < A := by rw [own_lt32] at hc63; omega
      refine hst (fun t k => XS.lload X50.here hx rfl (hb hby d2_66) rfl k) ?_
      show F T50 (mkF m 68 #[.val (.long q0), .second, .val (.int iw), .val (.int av), .val (.int cv), .val (.long q4), .second, .val (.int ba), .val (.int lo), .val (.int hv), .val (.long mm), .second, .unset, .unset] [(.long q4)])
      refine hst (fun t k => XS.iload X50.here hx rfl (hb hby d2_68) rfl k) ?_
      show F T50 (mkF m 70 #[.val (.long q0), .second, .val (.int iw), .val (.int av), .val (.int cv), .val (.long q4), .second, .val (.int ba), .val (.int lo), .val (.int hv), .val (.long mm), .second, .unset, .unset] [(.int ba), (.long q4)])
      refine hst (fun t k => XS.iloadN X50.here hx rfl (hb hby d2_70) rfl k) ?_
      show F T50 (mkF m 71 #[.val (.long q0), .second, .val (.int iw), .val (.int av), .val (.int cv), .val (.long q4), .second, .val (.int ba), .val (.int lo), .val (.int hv), .val (.long mm), .second, .unset, .unset] [(.int av), (.int ba), (.long q4)])
      refine hst (fun t k => XS.isub X50.here hx rfl (hb hby d2_71) rfl k) ?_
      show F T50 (mkF m 72 #[.val (.long q0), .second, .val (.int iw), .val (.int av), .val (.int cv), .val (.long q4), .second, .val (.int ba), .val (.int lo), .val (.int hv), .val (.long mm), .second, .unset, .unset] [(.int (ba - av)), (.long q4)])
      generalize hs1 : (ba - av) = s1
      show F T50 (mkF m 72 #[.val (.long q0), .second, .val (.int iw), .val (.int av), .val (.int cv), .val (.long q4), .second, .val (.int ba), .val (.int lo), .val (.int hv), .val (.long mm), .second, .unset, .unset] [(.int s1), (.long q4)])
      have ks1 : s1.toInt = ((64 * k - A : Nat) : Int) := by have h1 := c_isub ba av; have h2 := rng32 s1; rw [hs1] at h1; omega
      refine hst (fun t k => XS.lushr X50.here hx rfl (hb hby d2_72) rfl k) ?_
      show F T50 (mkF m 73 #[.val (.long q0), .second, .val (.int iw), .val (.int av), .val (.int cv), .val (.long q4), .second, .val (.int ba), .val (.int lo), .val (.int hv), .val (.long mm), .second, .unset, .unset] [(.long ((q4.toUInt64 >>> (s1 &&& 0x3f).toInt64.toUInt64).toInt64))])
      generalize hva : ((q4.toUInt64 >>> (s1 &&& 0x3f).toInt64.toUInt64).toInt64) = va
      show F T50 (mkF m 73 #[.val (.long q0), .second, .val (.int iw), .val (.int av), .val (.int cv), .val (.long q4), .second, .val (.int ba), .val (.int lo), .val (.int hv), .val (.long mm), .second, .unset, .unset] [(.long va)])
      have kva : ∀ i, i < 64 → own_b mm i = true → own_b va i = own_b q4 (64 * k + i - A) := by
        intro i hi _; rw [← hva, own_b_ushr q4 s1 _ i ks1 (by omega)]; congr 1; omega
      refine hst (fun t k => XS.lstore X50.here hx rfl (hb hby d2_73) rfl (l' := #[.val (.long q0), .second, .val (.int iw), .val (.int av), .val (.int cv), .val (.long q4), .second, .val (.int ba), .val (.int lo), .val (.int hv), .val (.long mm), .second, .val (.long va), .second]) rfl k) ?_
      show F T50 (mkF m 75 #[.val (.long q0), .second, .val (.int iw), .val (.int av), .val (.int cv), .val (.long q4), .second, .val (.int ba), .val (.int lo), .val (.int hv), .val (.long mm), .second, .val (.long va), .second] [])
      refine hst (fun t k => XS.goto X50.here hx rfl (pc0 := 75) (pc' := 87) rfl (hb hby d2_75) (by decide) (by decide) k) ?_
      show F T50 (mkF m 87 #[.val (.long q0), .second, .val (.int iw), .val (.int av), .val (.int cv), .val (.long q4), .second, .val (.int ba), .val (.int lo), .val (.int hv), .val (.long mm), .second, .val (.long va), .second] [])
      refine hst (fun t k => XS.lloadN X50.here hx rfl (hb hby d2_87) rfl k) ?_
      show F T50 (mkF m 88 #[.val (.long q0), .second, .val (.int iw), .val (.int av), .val (.int cv), .val (.long q4), .second, .val (.int ba), .val (.int lo), .val (.int hv), .val (.long mm), .second, .val (.long va), .second] [(.long q0)])
      refine hst (fun t k => XS.lload X50.here hx rfl (hb hby d2_88) rfl k) ?_
      show F T50 (mkF m 90 #[.val (.long q0), .second, .val (.int iw), .val (.int av), .val (.int cv), .val (.long q4), .second, .val (.int ba), .val (.int lo), .val (.int hv), .val (.long mm), .second, .val (.long va), .second] [(.long mm), (.long q0)])
      refine hst (fun t k => X50.ldc2J hx hown (mvT hZ (hw _ (List.mem_of_getElem? (i := 21) rfl))) (g := (mkF m 90 #[.val (.long q0), .second, .val (.int iw), .val (.int av), .val (.int cv), .val (.long q4), .second, .val (.int ba), .val (.int lo), .val (.int hv), .val (.long mm), .second, .val (.long va), .second] [(.long mm), (.long q0)])) rfl (hb hby d2_90) k) ?_
      show F T50 (mkF m 93 #[.val (.long q0), .second, .val (.int iw), .val (.int av), .val (.int cv), .val (.long q4), .second, .val (.int ba), .val (.int lo), .val (.int hv), .val (.long mm), .second, .val (.long va), .second] [(.long (-1 : Int64)), (.long mm), (.long q0)])
      refine hst (fun t k => XS.lxor X50.here hx rfl (hb hby d2_93) rfl k) ?_
      show F T50 (mkF m 94 #[.val (.long q0), .second, .val (.int iw), .val (.int av), .val (.int cv), .val (.long q4), .second, .val (.int ba), .val (.int lo), .val (.int hv), .val (.long mm), .second, .val (.long va), .second] [(.long (mm ^^^ (-1 : Int64))), (.long q0)])
      refine hst (fun t k => XS.land X50.here hx rfl (hb hby d2_94) rfl k) ?_
      show F T50 (mkF m 95 #[.val (.long q0), .second, .val (.int iw), .val (.int av), .val (.int cv), .val (.long q4), .second, .val (.int ba), .val (.int lo), .val (.int hv), .val (.long mm), .second, .val (.long va), .second] [(.long (q0 &&& (mm ^^^ (-1 : Int64))))])
      refine hst (fun t k => XS.lload X50.here hx rfl (hb hby d2_95) rfl k) ?_
      show F T50 (mkF m 97 #[.val (.long q0), .second, .val (.int iw), .val (.int av), .val (.int cv), .val (.long q4), .second, .val (.int ba), .val (.int lo), .val (.int hv), .val (.long mm), .second, .val (.long va), .second] [(.long va), (.long (q0 &&& (mm ^^^ (-1 : Int64))))])
      refine hst (fun t k => XS.lload X50.here hx rfl (hb hby d2_97) rfl k) ?_
      show F T50 (mkF m 99 #[.val (.long q0), .second, .val (.int iw), .val (.int av), .val (.int cv), .val (.long q4), .second, .val (.int ba), .val (.int lo), .val (.int hv), .val (.long mm), .second, .val (.long va), .second] [(.long mm), (.long va), (.long (q0 &&& (mm ^^^ (-1 : Int64))))])
      refine hst (fun t k => XS.land X50.here hx rfl (hb hby d2_99) rfl k) ?_
      show F T50 (mkF m 100 #[.val (.long q0), .second, .val (.int iw), .val (.int av), .val (.int cv), .val (.long q4), .second, .val (.int ba), .val (.int lo), .val (.int hv), .val (.long mm), .second, .val (.long va), .second] [(.long (va &&& mm)), (.long (q0 &&& (mm ^^^ (-1 : Int64))))])
      refine hst (fun t k => XS.lor X50.here hx rfl (hb hby d2_100) rfl k) ?_
      show F T50 (mkF m 101 #[.val (.long q0), .second, .val (.int iw), .val (.int av), .val (.int cv), .val (.long q4), .second, .val (.int ba), .val (.int lo), .val (.int hv), .val (.long mm), .second, .val (.long va), .second] [(.long ((q0 &&& (mm ^^^ (-1 : Int64))) ||| (va &&& mm)))])
      rw [hF]
      refine own_retJ X50 hx hret hlk (hb hby d2_101) (by decide) (by decide) ?_
      rw [he50]
      refine ⟨_, rfl, N50, rfl, ?_⟩
      intro i hi
      rw [own_b_or, own_b_and, own_b_and, own_b_not _ _ hi]
      exact own_expect q0 q4 k A c0 i Lo Hi hi hL.symm hH.symm _ _ (kmm i hi) (kva i hi)
  · -- pc 32: not taken
    refine hst (fun t k => XS.icmpNo X23.here hx rfl (hb hby d2_32) rfl (flt hc32).1 k) ?_
    show F T23 (mkF m 35 #[.val (.long q0), .second, .val (.int iw), .val (.int av), .val (.int cv), .val (.long q4), .second, .val (.int ba), .val (.int lo), .val (.int hv), .unset, .unset, .unset, .unset] [])
    have q32 : ¬ Lo < Hi := by rw [own_lt32] at hc32; omega
    refine hst (fun t k => XS.lloadN X23.here hx rfl (hb hby d2_35) rfl k) ?_
    show F T23 (mkF m 36 #[.val (.long q0), .second, .val (.int iw), .val (.int av), .val (.int cv), .val (.long q4), .second, .val (.int ba), .val (.int lo), .val (.int hv), .unset, .unset, .unset, .unset] [(.long q0)])
    rw [hF]
    refine own_retJ X23 hx hret hlk (hb hby d2_36) (by decide) (by decide) ?_
    rw [he23]
    exact ⟨_, rfl, N23, rfl, (fun i hi => own_none _ _ _ _ _ _ (by omega) hi)⟩
def own_w3 (w0 w1 w2 : Int64) (k : Nat) : Int64 := if k = 0 then w0 else if k = 1 then w1 else w2
theorem pn_0 : plainFor x = true := plainFor_of_name (by first | (simp [plainName, overriddenIn]; done) | decide +kernel)
theorem pd_3 : parseMethodDescriptor "([JIJI)V" = some ⟨[(.array .long), .int, .long, .int], none⟩ := by decide +kernel
theorem pd_2 : parseMethodDescriptor "(JIIIJ)J" = some ⟨[.long, .int, .int, .int, .long], some .long⟩ := by decide +kernel
theorem ef_0 (m : MethodId) (q0 : Int64) (q1 : Int64) (q2 : Int64) (q3 : Int64) (p4 : Int32) (p5 : Int32) : entryFrame m #[(.long q0), (.long q1), (.long q2), (.long q3), (.int p4), (.int p5)] maxLocals = mkF m 0 #[.val (.long q0), .second, .val (.long q1), .second, .val (.long q2), .second, .val (.long q3), .second, .val (.int p4), .val (.int p5), .unset, .unset, .unset] [] := by first | (simp [entryFrame, mkF, argsToLocals, Value.category, maxLocals]; done) | rfl
def Q0 (Z : State) (q0 : Int64) (q1 : Int64) (q2 : Int64) (q3 : Int64) (p4 : Int32) (p5 : Int32) (hI : Heap) (n0 : Nat) (v : Option Value) (h : Heap) (L : List Loc) : Prop := v = some (.int 1) ∧ Fr n0 L
set_option maxRecDepth 65536 in
set_option maxHeartbeats 40000000 in
theorem rm0 (l : Launch) (Z : State) (a0 : Array Value) (hw : ∀ d ∈ tables_1, d.before a0 Z = true) (ws : List Jvm.Cond) (q0 : Int64) (q1 : Int64) (q2 : Int64) (q3 : Int64) (p4 : Int32) (p5 : Int32) (hI : Heap) (n0 : Nat) (Z0 : n0 ≤ hI.size) :
    MetFree l x (head1 (Jvm.Cond.code x code maxLocals ret :: ws) room_1) (fun xa U => xa = #[(.long q0), (.long q1), (.long q2), (.long q3), (.int p4), (.int p5)] ∧ Z.Warmed39 U.vm ∧ U.heap = hI) (fun _ _ _ _ _ => True) (fun _ U o U' => ∃ v L, o = .returned v ∧ Q0 Z q0 q1 q2 q3 p4 p5 hI n0 v U'.heap L ∧ FrameEnd U o U' L room_1.cells room_1.slots) := by
  refine own_body pn_0 ?_
  intro p e s m below meth c s₁ hx hby hml hown hnm hret hlk hZ XI eI
  have hml : c.maxLocals = 13 := hml
  obtain ⟨F, hF⟩ : ∃ F : State → JFrame → Prop, F = own_Fin p.tables e below s room_1 (Q0 Z q0 q1 q2 q3 p4 p5 hI n0) := ⟨_, rfl⟩
  have hst : ∀ {T T' : State} {g g' : JFrame}, (∀ t, Steps p.tables e below (T'.setTop g') t → Steps p.tables e below (T.setTop g) t) → F T' g' → F T g := by subst hF; exact own_st
  have NI := Fr.nil n0
  show own_Fin p.tables e below s room_1 (Q0 Z q0 q1 q2 q3 p4 p5 hI n0) s₁ (entryFrame m #[(.long q0), (.long q1), (.long q2), (.long q3), (.int p4), (.int p5)] maxLocals)
  rw [← hF]
  rw [ef_0]
  show F s₁ (mkF m 0 #[.val (.long q0), .second, .val (.long q1), .second, .val (.long q2), .second, .val (.long q3), .second, .val (.int p4), .val (.int p5), .unset, .unset, .unset] [])
  refine hst (fun t k => XS.iload XI.here hx rfl (hb hby at_0) rfl k) ?_
  show F s₁ (mkF m 2 #[.val (.long q0), .second, .val (.long q1), .second, .val (.long q2), .second, .val (.long q3), .second, .val (.int p4), .val (.int p5), .unset, .unset, .unset] [(.int p4)])
  refine hst (fun t k => XI.ldcI hx hown (mvT hZ (hw _ (List.mem_of_getElem? (i := 0) rfl))) (g := (mkF m 2 #[.val (.long q0), .second, .val (.long q1), .second, .val (.long q2), .second, .val (.long q3), .second, .val (.int p4), .val (.int p5), .unset, .unset, .unset] [(.int p4)])) rfl (hb hby at_2) k) ?_
  show F s₁ (mkF m 4 #[.val (.long q0), .second, .val (.long q1), .second, .val (.long q2), .second, .val (.long q3), .second, .val (.int p4), .val (.int p5), .unset, .unset, .unset] [(.int (2147483647 : Int32)), (.int p4)])
  refine hst (fun t k => XS.iand XI.here hx rfl (hb hby at_4) rfl k) ?_
  show F s₁ (mkF m 5 #[.val (.long q0), .second, .val (.long q1), .second, .val (.long q2), .second, .val (.long q3), .second, .val (.int p4), .val (.int p5), .unset, .unset, .unset] [(.int (p4 &&& (2147483647 : Int32)))])
  refine hst (fun t k => XS.sipush XI.here hx rfl (hb hby at_5) k) ?_
  show F s₁ (mkF m 8 #[.val (.long q0), .second, .val (.long q1), .second, .val (.long q2), .second, .val (.long q3), .second, .val (.int p4), .val (.int p5), .unset, .unset, .unset] [(.int (129 : Int32)), (.int (p4 &&& (2147483647 : Int32)))])
  refine hst (fun t k => iremM XI hx rfl (hb hby at_8) rfl (by decide) k) ?_
  show F s₁ (mkF m 9 #[.val (.long q0), .second, .val (.long q1), .second, .val (.long q2), .second, .val (.long q3), .second, .val (.int p4), .val (.int p5), .unset, .unset, .unset] [(.int ((p4 &&& (2147483647 : Int32)) % (129 : Int32)))])
  generalize hav : ((p4 &&& (2147483647 : Int32)) % (129 : Int32)) = av
  show F s₁ (mkF m 9 #[.val (.long q0), .second, .val (.long q1), .second, .val (.long q2), .second, .val (.long q3), .second, .val (.int p4), .val (.int p5), .unset, .unset, .unset] [(.int av)])
  obtain ⟨A, hA, hA2⟩ : ∃ A : Nat, av.toInt = A ∧ A ≤ 128 := by
    have h1 := c_mask p4 2147483647 31 (by decide) (by decide); have h2 := (c_irem (p4 &&& 2147483647) 129 129 (by decide)).1 (by omega); rw [hav] at h2; exact ⟨av.toInt.toNat, by omega, by omega⟩
  refine hst (fun t k => XS.istore XI.here hx rfl (hb hby at_9) rfl (l' := #[.val (.long q0), .second, .val (.long q1), .second, .val (.long q2), .second, .val (.long q3), .second, .val (.int p4), .val (.int p5), .val (.int av), .unset, .unset]) rfl k) ?_
  show F s₁ (mkF m 11 #[.val (.long q0), .second, .val (.long q1), .second, .val (.long q2), .second, .val (.long q3), .second, .val (.int p4), .val (.int p5), .val (.int av), .unset, .unset] [])
  refine hst (fun t k => XS.iload XI.here hx rfl (hb hby at_11) rfl k) ?_
  show F s₁ (mkF m 13 #[.val (.long q0), .second, .val (.long q1), .second, .val (.long q2), .second, .val (.long q3), .second, .val (.int p4), .val (.int p5), .val (.int av), .unset, .unset] [(.int p5)])
  refine hst (fun t k => XI.ldcI hx hown (mvT hZ (hw _ (List.mem_of_getElem? (i := 0) rfl))) (g := (mkF m 13 #[.val (.long q0), .second, .val (.long q1), .second, .val (.long q2), .second, .val (.long q3), .second, .val (.int p4), .val (.int p5), .val (.int av), .unset, .unset] [(.int p5)])) rfl (hb hby at_13) k) ?_
  show F s₁ (mkF m 15 #[.val (.long q0), .second, .val (.long q1), .second, .val (.long q2), .second, .val (.long q3), .second, .val (.int p4), .val (.int p5), .val (.int av), .unset, .unset] [(.int (2147483647 : Int32)), (.int p5)])
  refine hst (fun t k => XS.iand XI.here hx rfl (hb hby at_15) rfl k) ?_
  show F s₁ (mkF m 16 #[.val (.long q0), .second, .val (.long q1), .second, .val (.long q2), .second, .val (.long q3), .second, .val (.int p4), .val (.int p5), .val (.int av), .unset, .unset] [(.int (p5 &&& (2147483647 : Int32)))])
  refine hst (fun t k => XS.bipush XI.here hx rfl (hb hby at_16) k) ?_
  show F s₁ (mkF m 18 #[.val (.long q0), .second, .val (.long q1), .second, .val (.long q2), .second, .val (.long q3), .second, .val (.int p4), .val (.int p5), .val (.int av), .unset, .unset] [(.int (65 : Int32)), (.int (p5 &&& (2147483647 : Int32)))])
  refine hst (fun t k => iremM XI hx rfl (hb hby at_18) rfl (by decide) k) ?_
  show F s₁ (mkF m 19 #[.val (.long q0), .second, .val (.long q1), .second, .val (.long q2), .second, .val (.long q3), .second, .val (.int p4), .val (.int p5), .val (.int av), .unset, .unset] [(.int ((p5 &&& (2147483647 : Int32)) % (65 : Int32)))])
  generalize hcv : ((p5 &&& (2147483647 : Int32)) % (65 : Int32)) = cv
  show F s₁ (mkF m 19 #[.val (.long q0), .second, .val (.long q1), .second, .val (.long q2), .second, .val (.long q3), .second, .val (.int p4), .val (.int p5), .val (.int av), .unset, .unset] [(.int cv)])
  obtain ⟨c0, hC, hC2⟩ : ∃ c0 : Nat, cv.toInt = c0 ∧ c0 ≤ 64 := by
    have h1 := c_mask p5 2147483647 31 (by decide) (by decide); have h2 := (c_irem (p5 &&& 2147483647) 65 65 (by decide)).1 (by omega); rw [hcv] at h2; exact ⟨cv.toInt.toNat, by omega, by omega⟩
  refine hst (fun t k => XS.istore XI.here hx rfl (hb hby at_19) rfl (l' := #[.val (.long q0), .second, .val (.long q1), .second, .val (.long q2), .second, .val (.long q3), .second, .val (.int p4), .val (.int p5), .val (.int av), .val (.int cv), .unset]) rfl k) ?_
  show F s₁ (mkF m 21 #[.val (.long q0), .second, .val (.long q1), .second, .val (.long q2), .second, .val (.long q3), .second, .val (.int p4), .val (.int p5), .val (.int av), .val (.int cv), .unset] [])
  refine hst (fun t k => XS.iconst XI.here hx rfl (hb hby at_21) k) ?_
  show F s₁ (mkF m 22 #[.val (.long q0), .second, .val (.long q1), .second, .val (.long q2), .second, .val (.long q3), .second, .val (.int p4), .val (.int p5), .val (.int av), .val (.int cv), .unset] [(.int (3 : Int32))])
  obtain ⟨T22, h22, b22, X22, e22, g22, E22, A22, st22⟩ := own_newarr XI hx hZ (hw _ (List.mem_of_getElem? (i := 1) rfl)) eI (g := (mkF m 22 #[.val (.long q0), .second, .val (.long q1), .second, .val (.long q2), .second, .val (.long q3), .second, .val (.int p4), .val (.int p5), .val (.int av), .val (.int cv), .unset] [(.int (3 : Int32))])) rfl (hb hby at_22) rfl (by decide) (cap := 3) (by decide) (by decide) (by decide) (by decide)
  have ge_b22 : n0 ≤ b22 := Nat.le_trans Z0 (Nat.le_of_eq g22.symm)
  have Z0_p22 : n0 ≤ h22.size := (Nat.le_trans Z0 E22.1)
  have A_b22 : own_A Z h22 b22 .long 3 (fun _ => (.long (0 : Int64))) := A22
  refine hst st22 ?_
  show F T22 (mkF m 24 #[.val (.long q0), .second, .val (.long q1), .second, .val (.long q2), .second, .val (.long q3), .second, .val (.int p4), .val (.int p5), .val (.int av), .val (.int cv), .unset] [(.ref b22)])
  refine hst (fun t k => XS.astore X22.here hx rfl (hb hby at_24) rfl rfl (l' := #[.val (.long q0), .second, .val (.long q1), .second, .val (.long q2), .second, .val (.long q3), .second, .val (.int p4), .val (.int p5), .val (.int av), .val (.int cv), .val (.ref b22)]) rfl k) ?_
  show F T22 (mkF m 26 #[.val (.long q0), .second, .val (.long q1), .second, .val (.long q2), .second, .val (.long q3), .second, .val (.int p4), .val (.int p5), .val (.int av), .val (.int cv), .val (.ref b22)] [])
  refine hst (fun t k => XS.aload X22.here hx rfl (hb hby at_26) rfl rfl k) ?_
  show F T22 (mkF m 28 #[.val (.long q0), .second, .val (.long q1), .second, .val (.long q2), .second, .val (.long q3), .second, .val (.int p4), .val (.int p5), .val (.int av), .val (.int cv), .val (.ref b22)] [(.ref b22)])
  refine hst (fun t k => XS.iconst X22.here hx rfl (hb hby at_28) k) ?_
  show F T22 (mkF m 29 #[.val (.long q0), .second, .val (.long q1), .second, .val (.long q2), .second, .val (.long q3), .second, .val (.int p4), .val (.int p5), .val (.int av), .val (.int cv), .val (.ref b22)] [(.int (0 : Int32)), (.ref b22)])
  refine hst (fun t k => XS.lloadN X22.here hx rfl (hb hby at_29) rfl k) ?_
  show F T22 (mkF m 30 #[.val (.long q0), .second, .val (.long q1), .second, .val (.long q2), .second, .val (.long q3), .second, .val (.int p4), .val (.int p5), .val (.int av), .val (.int cv), .val (.ref b22)] [(.long q0), (.int (0 : Int32)), (.ref b22)])
  obtain ⟨T30, h30, X30, e30, W30, st30⟩ := own_lastore X22 hx hZ e22 A_b22 (by decide) (g := (mkF m 30 #[.val (.long q0), .second, .val (.long q1), .second, .val (.long q2), .second, .val (.long q3), .second, .val (.int p4), .val (.int p5), .val (.int av), .val (.int cv), .val (.ref b22)] [(.long q0), (.int (0 : Int32)), (.ref b22)])) rfl rfl (hb hby at_30)
  have N30 := Fr.snoc X30 NI ge_b22
  have A_b22_p30 : own_A Z h30 b22 .long 3 (fun i => if i = Int32.toNatClampNeg (0 : Int32) then (.long q0) else (fun _ => (.long (0 : Int64))) i) := A_b22.set W30
  have Z0_p30 : n0 ≤ h30.size := Nat.le_trans Z0_p22 (Keep.of_wr W30).1
  refine hst st30 ?_
  show F T30 (mkF m 31 #[.val (.long q0), .second, .val (.long q1), .second, .val (.long q2), .second, .val (.long q3), .second, .val (.int p4), .val (.int p5), .val (.int av), .val (.int cv), .val (.ref b22)] [])
  refine hst (fun t k => XS.aload X30.here hx rfl (hb hby at_31) rfl rfl k) ?_
  show F T30 (mkF m 33 #[.val (.long q0), .second, .val (.long q1), .second, .val (.long q2), .second, .val (.long q3), .second, .val (.int p4), .val (.int p5), .val (.int av), .val (.int cv), .val (.ref b22)] [(.ref b22)])
  refine hst (fun t k => XS.iconst X30.here hx rfl (hb hby at_33) k) ?_
  show F T30 (mkF m 34 #[.val (.long q0), .second, .val (.long q1), .second, .val (.long q2), .second, .val (.long q3), .second, .val (.int p4), .val (.int p5), .val (.int av), .val (.int cv), .val (.ref b22)] [(.int (1 : Int32)), (.ref b22)])
  refine hst (fun t k => XS.lloadN X30.here hx rfl (hb hby at_34) rfl k) ?_
  show F T30 (mkF m 35 #[.val (.long q0), .second, .val (.long q1), .second, .val (.long q2), .second, .val (.long q3), .second, .val (.int p4), .val (.int p5), .val (.int av), .val (.int cv), .val (.ref b22)] [(.long q1), (.int (1 : Int32)), (.ref b22)])
  obtain ⟨T35, h35, X35, e35, W35, st35⟩ := own_lastore X30 hx hZ e30 A_b22_p30 (by decide) (g := (mkF m 35 #[.val (.long q0), .second, .val (.long q1), .second, .val (.long q2), .second, .val (.long q3), .second, .val (.int p4), .val (.int p5), .val (.int av), .val (.int cv), .val (.ref b22)] [(.long q1), (.int (1 : Int32)), (.ref b22)])) rfl rfl (hb hby at_35)
  have N35 := Fr.snoc X35 N30 ge_b22
  have A_b22_p35 : own_A Z h35 b22 .long 3 (fun i => if i = Int32.toNatClampNeg (1 : Int32) then (.long q1) else (fun i => if i = Int32.toNatClampNeg (0 : Int32) then (.long q0) else (fun _ => (.long (0 : Int64))) i) i) := A_b22_p30.set W35
  have Z0_p35 : n0 ≤ h35.size := Nat.le_trans Z0_p30 (Keep.of_wr W35).1
  refine hst st35 ?_
  show F T35 (mkF m 36 #[.val (.long q0), .second, .val (.long q1), .second, .val (.long q2), .second, .val (.long q3), .second, .val (.int p4), .val (.int p5), .val (.int av), .val (.int cv), .val (.ref b22)] [])
  refine hst (fun t k => XS.aload X35.here hx rfl (hb hby at_36) rfl rfl k) ?_
  show F T35 (mkF m 38 #[.val (.long q0), .second, .val (.long q1), .second, .val (.long q2), .second, .val (.long q3), .second, .val (.int p4), .val (.int p5), .val (.int av), .val (.int cv), .val (.ref b22)] [(.ref b22)])
  refine hst (fun t k => XS.iconst X35.here hx rfl (hb hby at_38) k) ?_
  show F T35 (mkF m 39 #[.val (.long q0), .second, .val (.long q1), .second, .val (.long q2), .second, .val (.long q3), .second, .val (.int p4), .val (.int p5), .val (.int av), .val (.int cv), .val (.ref b22)] [(.int (2 : Int32)), (.ref b22)])
  refine hst (fun t k => XS.lload X35.here hx rfl (hb hby at_39) rfl k) ?_
  show F T35 (mkF m 41 #[.val (.long q0), .second, .val (.long q1), .second, .val (.long q2), .second, .val (.long q3), .second, .val (.int p4), .val (.int p5), .val (.int av), .val (.int cv), .val (.ref b22)] [(.long q2), (.int (2 : Int32)), (.ref b22)])
  obtain ⟨T41, h41, X41, e41, W41, st41⟩ := own_lastore X35 hx hZ e35 A_b22_p35 (by decide) (g := (mkF m 41 #[.val (.long q0), .second, .val (.long q1), .second, .val (.long q2), .second, .val (.long q3), .second, .val (.int p4), .val (.int p5), .val (.int av), .val (.int cv), .val (.ref b22)] [(.long q2), (.int (2 : Int32)), (.ref b22)])) rfl rfl (hb hby at_41)
  have N41 := Fr.snoc X41 N35 ge_b22
  have A_b22_p41 : own_A Z h41 b22 .long 3 (fun i => if i = Int32.toNatClampNeg (2 : Int32) then (.long q2) else (fun i => if i = Int32.toNatClampNeg (1 : Int32) then (.long q1) else (fun i => if i = Int32.toNatClampNeg (0 : Int32) then (.long q0) else (fun _ => (.long (0 : Int64))) i) i) i) := A_b22_p35.set W41
  have Z0_p41 : n0 ≤ h41.size := Nat.le_trans Z0_p35 (Keep.of_wr W41).1
  refine hst st41 ?_
  have A_b22_p41c : own_A Z h41 b22 .long 3 (fun i => .long (own_w3 q0 q1 q2 i)) := own_A.congr A_b22_p41 (fun i hi => by rcases i with _ | _ | _ | i <;> first | rfl | omega)
  show F T41 (mkF m 42 #[.val (.long q0), .second, .val (.long q1), .second, .val (.long q2), .second, .val (.long q3), .second, .val (.int p4), .val (.int p5), .val (.int av), .val (.int cv), .val (.ref b22)] [])
  refine hst (fun t k => XS.aload X41.here hx rfl (hb hby at_42) rfl rfl k) ?_
  show F T41 (mkF m 44 #[.val (.long q0), .second, .val (.long q1), .second, .val (.long q2), .second, .val (.long q3), .second, .val (.int p4), .val (.int p5), .val (.int av), .val (.int cv), .val (.ref b22)] [(.ref b22)])
  refine hst (fun t k => XS.iload X41.here hx rfl (hb hby at_44) rfl k) ?_
  show F T41 (mkF m 46 #[.val (.long q0), .second, .val (.long q1), .second, .val (.long q2), .second, .val (.long q3), .second, .val (.int p4), .val (.int p5), .val (.int av), .val (.int cv), .val (.ref b22)] [(.int av), (.ref b22)])
  refine hst (fun t k => XS.lload X41.here hx rfl (hb hby at_46) rfl k) ?_
  show F T41 (mkF m 48 #[.val (.long q0), .second, .val (.long q1), .second, .val (.long q2), .second, .val (.long q3), .second, .val (.int p4), .val (.int p5), .val (.int av), .val (.int cv), .val (.ref b22)] [(.long q3), (.int av), (.ref b22)])
  refine hst (fun t k => XS.iload X41.here hx rfl (hb hby at_48) rfl k) ?_
  show F T41 (mkF m 50 #[.val (.long q0), .second, .val (.long q1), .second, .val (.long q2), .second, .val (.long q3), .second, .val (.int p4), .val (.int p5), .val (.int av), .val (.int cv), .val (.ref b22)] [(.int cv), (.long q3), (.int av), (.ref b22)])
  obtain ⟨v50, T50, Lc50, X50, hQ50, st50⟩ := own_callS X41 hx hZ hown (y := (⟨"com/example/censo/censo/compact/BitFields", "write", "([JIJI)V"⟩ : MethodName)) (hw _ (List.mem_of_getElem? (i := 2) rfl)) (hw _ (List.mem_of_getElem? (i := 3) rfl)) (hw _ (List.mem_of_getElem? (i := 4) rfl)) (hw _ (List.mem_of_getElem? (i := 5) rfl)) (by decide) e41 (rm1 l Z a0 hw [] b22 av q3 cv (own_w3 q0 q1 q2) A c0 h41 n0 Z0_p41 A_b22_p41c ge_b22 (by assumption) (by assumption) (by assumption) (by assumption)) (by decide) (by decide) (g := (mkF m 50 #[.val (.long q0), .second, .val (.long q1), .second, .val (.long q2), .second, .val (.long q3), .second, .val (.int p4), .val (.int p5), .val (.int av), .val (.int cv), .val (.ref b22)] [(.int cv), (.long q3), (.int av), (.ref b22)])) rfl (by rw [hml]; rfl) (argsL := [(.ref b22), (.int av), (.long q3), (.int cv)]) (rest := []) (lenOf pd_3 rfl) rfl rfl (W := 0) (by show 2 * 0 + _ ≤ _; exact Nat.le_of_eq rfl) (hb hby at_50) (by decide) (by decide)
  obtain ⟨u50, rfl, Nq50, K50, q1_50, hu_50⟩ := hQ50
  have N50 := Fr.app N41 Nq50
  have Z0_p50 : n0 ≤ T50.heap.size := Nat.le_trans Z0_p41 K50.1
  refine hst st50 ?_
  show F T50 (mkF m 53 #[.val (.long q0), .second, .val (.long q1), .second, .val (.long q2), .second, .val (.long q3), .second, .val (.int p4), .val (.int p5), .val (.int av), .val (.int cv), .val (.ref b22)] [])
  refine hst (fun t k => XS.aload X50.here hx rfl (hb hby at_53) rfl rfl k) ?_
  show F T50 (mkF m 55 #[.val (.long q0), .second, .val (.long q1), .second, .val (.long q2), .second, .val (.long q3), .second, .val (.int p4), .val (.int p5), .val (.int av), .val (.int cv), .val (.ref b22)] [(.ref b22)])
  refine hst (fun t k => XS.iconst X50.here hx rfl (hb hby at_55) k) ?_
  show F T50 (mkF m 56 #[.val (.long q0), .second, .val (.long q1), .second, .val (.long q2), .second, .val (.long q3), .second, .val (.int p4), .val (.int p5), .val (.int av), .val (.int cv), .val (.ref b22)] [(.int (0 : Int32)), (.ref b22)])
  refine hst (fun t k => own_laload X50 hx hZ rfl q1_50 (by decide) (v := (.long (u50 0))) rfl (g := (mkF m 56 #[.val (.long q0), .second, .val (.long q1), .second, .val (.long q2), .second, .val (.long q3), .second, .val (.int p4), .val (.int p5), .val (.int av), .val (.int cv), .val (.ref b22)] [(.int (0 : Int32)), (.ref b22)])) rfl rfl (hb hby at_56) t k) ?_
  show F T50 (mkF m 57 #[.val (.long q0), .second, .val (.long q1), .second, .val (.long q2), .second, .val (.long q3), .second, .val (.int p4), .val (.int p5), .val (.int av), .val (.int cv), .val (.ref b22)] [(.long (u50 0))])
  refine hst (fun t k => XS.lloadN X50.here hx rfl (hb hby at_57) rfl k) ?_
  show F T50 (mkF m 58 #[.val (.long q0), .second, .val (.long q1), .second, .val (.long q2), .second, .val (.long q3), .second, .val (.int p4), .val (.int p5), .val (.int av), .val (.int cv), .val (.ref b22)] [(.long q0), (.long (u50 0))])
  refine hst (fun t k => XS.iconst X50.here hx rfl (hb hby at_58) k) ?_
  show F T50 (mkF m 59 #[.val (.long q0), .second, .val (.long q1), .second, .val (.long q2), .second, .val (.long q3), .second, .val (.int p4), .val (.int p5), .val (.int av), .val (.int cv), .val (.ref b22)] [(.int (0 : Int32)), (.long q0), (.long (u50 0))])
  refine hst (fun t k => XS.iload X50.here hx rfl (hb hby at_59) rfl k) ?_
  show F T50 (mkF m 61 #[.val (.long q0), .second, .val (.long q1), .second, .val (.long q2), .second, .val (.long q3), .second, .val (.int p4), .val (.int p5), .val (.int av), .val (.int cv), .val (.ref b22)] [(.int av), (.int (0 : Int32)), (.long q0), (.long (u50 0))])
  refine hst (fun t k => XS.iload X50.here hx rfl (hb hby at_61) rfl k) ?_
  show F T50 (mkF m 63 #[.val (.long q0), .second, .val (.long q1), .second, .val (.long q2), .second, .val (.long q3), .second, .val (.int p4), .val (.int p5), .val (.int av), .val (.int cv), .val (.ref b22)] [(.int cv), (.int av), (.int (0 : Int32)), (.long q0), (.long (u50 0))])
  refine hst (fun t k => XS.lload X50.here hx rfl (hb hby at_63) rfl k) ?_
  show F T50 (mkF m 65 #[.val (.long q0), .second, .val (.long q1), .second, .val (.long q2), .second, .val (.long q3), .second, .val (.int p4), .val (.int p5), .val (.int av), .val (.int cv), .val (.ref b22)] [(.long q3), (.int cv), (.int av), (.int (0 : Int32)), (.long q0), (.long (u50 0))])
  obtain ⟨v65, T65, Lc65, X65, hQ65, st65⟩ := own_callS X50 hx hZ hown (y := (⟨"com/example/censo/censo/compact/BitFieldsWritePinLaw", "expected", "(JIIIJ)J"⟩ : MethodName)) (hw _ (List.mem_of_getElem? (i := 6) rfl)) (hw _ (List.mem_of_getElem? (i := 7) rfl)) (hw _ (List.mem_of_getElem? (i := 8) rfl)) (hw _ (List.mem_of_getElem? (i := 9) rfl)) (by decide) rfl (rm2 l Z a0 hw [] q0 (0 : Int32) av cv q3 0 A c0 T50.heap n0 Z0_p50 (by decide) (by decide) hA hA2 hC hC2) (by decide) (by decide) (g := (mkF m 65 #[.val (.long q0), .second, .val (.long q1), .second, .val (.long q2), .second, .val (.long q3), .second, .val (.int p4), .val (.int p5), .val (.int av), .val (.int cv), .val (.ref b22)] [(.long q3), (.int cv), (.int av), (.int (0 : Int32)), (.long q0), (.long (u50 0))])) rfl (by rw [hml]; rfl) (argsL := [(.long q0), (.int (0 : Int32)), (.int av), (.int cv), (.long q3)]) (rest := [(.long (u50 0))]) (lenOf pd_2 rfl) rfl rfl (W := 2) (by show 2 * 0 + _ ≤ _; exact Nat.le_of_eq rfl) (hb hby at_65) (by decide) (by decide)
  obtain ⟨r65, rfl, Nq65, he65, hr_65⟩ := hQ65
  have N65 := Fr.app N50 Nq65
  refine hst st65 ?_
  show F T65 (mkF m 68 #[.val (.long q0), .second, .val (.long q1), .second, .val (.long q2), .second, .val (.long q3), .second, .val (.int p4), .val (.int p5), .val (.int av), .val (.int cv), .val (.ref b22)] [(.long r65), (.long (u50 0))])
  have key0 : u50 0 = r65 := own_ext (fun i hi => by rw [hr_65 i hi, hu_50 0 i (by decide) hi]; rfl)
  refine hst (fun t k => XS.lcmp X65.here hx rfl (hb hby at_68) rfl k) ?_
  show F T65 (mkF m 69 #[.val (.long q0), .second, .val (.long q1), .second, .val (.long q2), .second, .val (.long q3), .second, .val (.int p4), .val (.int p5), .val (.int av), .val (.int cv), .val (.ref b22)] [(.int (lcmpW (u50 0) r65))])
  refine hst (fun t k => XS.ifNo X65.here hx rfl (hb hby at_69) rfl ((if0 _ _).trans (teq ((lw_eq _ _).mpr key0)).2) k) ?_
  show F T65 (mkF m 72 #[.val (.long q0), .second, .val (.long q1), .second, .val (.long q2), .second, .val (.long q3), .second, .val (.int p4), .val (.int p5), .val (.int av), .val (.int cv), .val (.ref b22)] [])
  refine hst (fun t k => XS.aload X65.here hx rfl (hb hby at_72) rfl rfl k) ?_
  show F T65 (mkF m 74 #[.val (.long q0), .second, .val (.long q1), .second, .val (.long q2), .second, .val (.long q3), .second, .val (.int p4), .val (.int p5), .val (.int av), .val (.int cv), .val (.ref b22)] [(.ref b22)])
  refine hst (fun t k => XS.iconst X65.here hx rfl (hb hby at_74) k) ?_
  show F T65 (mkF m 75 #[.val (.long q0), .second, .val (.long q1), .second, .val (.long q2), .second, .val (.long q3), .second, .val (.int p4), .val (.int p5), .val (.int av), .val (.int cv), .val (.ref b22)] [(.int (1 : Int32)), (.ref b22)])
  refine hst (fun t k => own_laload X65 hx hZ he65 q1_50 (by decide) (v := (.long (u50 1))) rfl (g := (mkF m 75 #[.val (.long q0), .second, .val (.long q1), .second, .val (.long q2), .second, .val (.long q3), .second, .val (.int p4), .val (.int p5), .val (.int av), .val (.int cv), .val (.ref b22)] [(.int (1 : Int32)), (.ref b22)])) rfl rfl (hb hby at_75) t k) ?_
  show F T65 (mkF m 76 #[.val (.long q0), .second, .val (.long q1), .second, .val (.long q2), .second, .val (.long q3), .second, .val (.int p4), .val (.int p5), .val (.int av), .val (.int cv), .val (.ref b22)] [(.long (u50 1))])
  refine hst (fun t k => XS.lloadN X65.here hx rfl (hb hby at_76) rfl k) ?_
  show F T65 (mkF m 77 #[.val (.long q0), .second, .val (.long q1), .second, .val (.long q2), .second, .val (.long q3), .second, .val (.int p4), .val (.int p5), .val (.int av), .val (.int cv), .val (.ref b22)] [(.long q1), (.long (u50 1))])
  refine hst (fun t k => XS.iconst X65.here hx rfl (hb hby at_77) k) ?_
  show F T65 (mkF m 78 #[.val (.long q0), .second, .val (.long q1), .second, .val (.long q2), .second, .val (.long q3), .second, .val (.int p4), .val (.int p5), .val (.int av), .val (.int cv), .val (.ref b22)] [(.int (1 : Int32)), (.long q1), (.long (u50 1))])
  refine hst (fun t k => XS.iload X65.here hx rfl (hb hby at_78) rfl k) ?_
  show F T65 (mkF m 80 #[.val (.long q0), .second, .val (.long q1), .second, .val (.long q2), .second, .val (.long q3), .second, .val (.int p4), .val (.int p5), .val (.int av), .val (.int cv), .val (.ref b22)] [(.int av), (.int (1 : Int32)), (.long q1), (.long (u50 1))])
  refine hst (fun t k => XS.iload X65.here hx rfl (hb hby at_80) rfl k) ?_
  show F T65 (mkF m 82 #[.val (.long q0), .second, .val (.long q1), .second, .val (.long q2), .second, .val (.long q3), .second, .val (.int p4), .val (.int p5), .val (.int av), .val (.int cv), .val (.ref b22)] [(.int cv), (.int av), (.int (1 : Int32)), (.long q1), (.long (u50 1))])
  refine hst (fun t k => XS.lload X65.here hx rfl (hb hby at_82) rfl k) ?_
  show F T65 (mkF m 84 #[.val (.long q0), .second, .val (.long q1), .second, .val (.long q2), .second, .val (.long q3), .second, .val (.int p4), .val (.int p5), .val (.int av), .val (.int cv), .val (.ref b22)] [(.long q3), (.int cv), (.int av), (.int (1 : Int32)), (.long q1), (.long (u50 1))])
  obtain ⟨v84, T84, Lc84, X84, hQ84, st84⟩ := own_callS X65 hx hZ hown (y := (⟨"com/example/censo/censo/compact/BitFieldsWritePinLaw", "expected", "(JIIIJ)J"⟩ : MethodName)) (hw _ (List.mem_of_getElem? (i := 6) rfl)) (hw _ (List.mem_of_getElem? (i := 7) rfl)) (hw _ (List.mem_of_getElem? (i := 8) rfl)) (hw _ (List.mem_of_getElem? (i := 9) rfl)) (by decide) he65 (rm2 l Z a0 hw [] q1 (1 : Int32) av cv q3 1 A c0 T50.heap n0 Z0_p50 (by decide) (by decide) hA hA2 hC hC2) (by decide) (by decide) (g := (mkF m 84 #[.val (.long q0), .second, .val (.long q1), .second, .val (.long q2), .second, .val (.long q3), .second, .val (.int p4), .val (.int p5), .val (.int av), .val (.int cv), .val (.ref b22)] [(.long q3), (.int cv), (.int av), (.int (1 : Int32)), (.long q1), (.long (u50 1))])) rfl (by rw [hml]; rfl) (argsL := [(.long q1), (.int (1 : Int32)), (.int av), (.int cv), (.long q3)]) (rest := [(.long (u50 1))]) (lenOf pd_2 rfl) rfl rfl (W := 2) (by show 2 * 0 + _ ≤ _; exact Nat.le_of_eq rfl) (hb hby at_84) (by decide) (by decide)
  obtain ⟨r84, rfl, Nq84, he84, hr_84⟩ := hQ84
  have N84 := Fr.app N65 Nq84
  refine hst st84 ?_
  show F T84 (mkF m 87 #[.val (.long q0), .second, .val (.long q1), .second, .val (.long q2), .second, .val (.long q3), .second, .val (.int p4), .val (.int p5), .val (.int av), .val (.int cv), .val (.ref b22)] [(.long r84), (.long (u50 1))])
  have key1 : u50 1 = r84 := own_ext (fun i hi => by rw [hr_84 i hi, hu_50 1 i (by decide) hi]; rfl)
  refine hst (fun t k => XS.lcmp X84.here hx rfl (hb hby at_87) rfl k) ?_
  show F T84 (mkF m 88 #[.val (.long q0), .second, .val (.long q1), .second, .val (.long q2), .second, .val (.long q3), .second, .val (.int p4), .val (.int p5), .val (.int av), .val (.int cv), .val (.ref b22)] [(.int (lcmpW (u50 1) r84))])
  refine hst (fun t k => XS.ifNo X84.here hx rfl (hb hby at_88) rfl ((if0 _ _).trans (teq ((lw_eq _ _).mpr key1)).2) k) ?_
  show F T84 (mkF m 91 #[.val (.long q0), .second, .val (.long q1), .second, .val (.long q2), .second, .val (.long q3), .second, .val (.int p4), .val (.int p5), .val (.int av), .val (.int cv), .val (.ref b22)] [])
  refine hst (fun t k => XS.aload X84.here hx rfl (hb hby at_91) rfl rfl k) ?_
  show F T84 (mkF m 93 #[.val (.long q0), .second, .val (.long q1), .second, .val (.long q2), .second, .val (.long q3), .second, .val (.int p4), .val (.int p5), .val (.int av), .val (.int cv), .val (.ref b22)] [(.ref b22)])
  refine hst (fun t k => XS.iconst X84.here hx rfl (hb hby at_93) k) ?_
  show F T84 (mkF m 94 #[.val (.long q0), .second, .val (.long q1), .second, .val (.long q2), .second, .val (.long q3), .second, .val (.int p4), .val (.int p5), .val (.int av), .val (.int cv), .val (.ref b22)] [(.int (2 : Int32)), (.ref b22)])
  refine hst (fun t k => own_laload X84 hx hZ he84 q1_50 (by decide) (v := (.long (u50 2))) rfl (g := (mkF m 94 #[.val (.long q0), .second, .val (.long q1), .second, .val (.long q2), .second, .val (.long q3), .second, .val (.int p4), .val (.int p5), .val (.int av), .val (.int cv), .val (.ref b22)] [(.int (2 : Int32)), (.ref b22)])) rfl rfl (hb hby at_94) t k) ?_
  show F T84 (mkF m 95 #[.val (.long q0), .second, .val (.long q1), .second, .val (.long q2), .second, .val (.long q3), .second, .val (.int p4), .val (.int p5), .val (.int av), .val (.int cv), .val (.ref b22)] [(.long (u50 2))])
  refine hst (fun t k => XS.lload X84.here hx rfl (hb hby at_95) rfl k) ?_
  show F T84 (mkF m 97 #[.val (.long q0), .second, .val (.long q1), .second, .val (.long q2), .second, .val (.long q3), .second, .val (.int p4), .val (.int p5), .val (.int av), .val (.int cv), .val (.ref b22)] [(.long q2), (.long (u50 2))])
  refine hst (fun t k => XS.iconst X84.here hx rfl (hb hby at_97) k) ?_
  show F T84 (mkF m 98 #[.val (.long q0), .second, .val (.long q1), .second, .val (.long q2), .second, .val (.long q3), .second, .val (.int p4), .val (.int p5), .val (.int av), .val (.int cv), .val (.ref b22)] [(.int (2 : Int32)), (.long q2), (.long (u50 2))])
  refine hst (fun t k => XS.iload X84.here hx rfl (hb hby at_98) rfl k) ?_
  show F T84 (mkF m 100 #[.val (.long q0), .second, .val (.long q1), .second, .val (.long q2), .second, .val (.long q3), .second, .val (.int p4), .val (.int p5), .val (.int av), .val (.int cv), .val (.ref b22)] [(.int av), (.int (2 : Int32)), (.long q2), (.long (u50 2))])
  refine hst (fun t k => XS.iload X84.here hx rfl (hb hby at_100) rfl k) ?_
  show F T84 (mkF m 102 #[.val (.long q0), .second, .val (.long q1), .second, .val (.long q2), .second, .val (.long q3), .second, .val (.int p4), .val (.int p5), .val (.int av), .val (.int cv), .val (.ref b22)] [(.int cv), (.int av), (.int (2 : Int32)), (.long q2), (.long (u50 2))])
  refine hst (fun t k => XS.lload X84.here hx rfl (hb hby at_102) rfl k) ?_
  show F T84 (mkF m 104 #[.val (.long q0), .second, .val (.long q1), .second, .val (.long q2), .second, .val (.long q3), .second, .val (.int p4), .val (.int p5), .val (.int av), .val (.int cv), .val (.ref b22)] [(.long q3), (.int cv), (.int av), (.int (2 : Int32)), (.long q2), (.long (u50 2))])
  obtain ⟨v104, T104, Lc104, X104, hQ104, st104⟩ := own_callS X84 hx hZ hown (y := (⟨"com/example/censo/censo/compact/BitFieldsWritePinLaw", "expected", "(JIIIJ)J"⟩ : MethodName)) (hw _ (List.mem_of_getElem? (i := 6) rfl)) (hw _ (List.mem_of_getElem? (i := 7) rfl)) (hw _ (List.mem_of_getElem? (i := 8) rfl)) (hw _ (List.mem_of_getElem? (i := 9) rfl)) (by decide) he84 (rm2 l Z a0 hw [] q2 (2 : Int32) av cv q3 2 A c0 T50.heap n0 Z0_p50 (by decide) (by decide) hA hA2 hC hC2) (by decide) (by decide) (g := (mkF m 104 #[.val (.long q0), .second, .val (.long q1), .second, .val (.long q2), .second, .val (.long q3), .second, .val (.int p4), .val (.int p5), .val (.int av), .val (.int cv), .val (.ref b22)] [(.long q3), (.int cv), (.int av), (.int (2 : Int32)), (.long q2), (.long (u50 2))])) rfl (by rw [hml]; rfl) (argsL := [(.long q2), (.int (2 : Int32)), (.int av), (.int cv), (.long q3)]) (rest := [(.long (u50 2))]) (lenOf pd_2 rfl) rfl rfl (W := 2) (by show 2 * 0 + _ ≤ _; exact Nat.le_of_eq rfl) (hb hby at_104) (by decide) (by decide)
  obtain ⟨r104, rfl, Nq104, he104, hr_104⟩ := hQ104
  have N104 := Fr.app N84 Nq104
  refine hst st104 ?_
  show F T104 (mkF m 107 #[.val (.long q0), .second, .val (.long q1), .second, .val (.long q2), .second, .val (.long q3), .second, .val (.int p4), .val (.int p5), .val (.int av), .val (.int cv), .val (.ref b22)] [(.long r104), (.long (u50 2))])
  have key2 : u50 2 = r104 := own_ext (fun i hi => by rw [hr_104 i hi, hu_50 2 i (by decide) hi]; rfl)
  refine hst (fun t k => XS.lcmp X104.here hx rfl (hb hby at_107) rfl k) ?_
  show F T104 (mkF m 108 #[.val (.long q0), .second, .val (.long q1), .second, .val (.long q2), .second, .val (.long q3), .second, .val (.int p4), .val (.int p5), .val (.int av), .val (.int cv), .val (.ref b22)] [(.int (lcmpW (u50 2) r104))])
  refine hst (fun t k => XS.ifNo X104.here hx rfl (hb hby at_108) rfl ((if0 _ _).trans (teq ((lw_eq _ _).mpr key2)).2) k) ?_
  show F T104 (mkF m 111 #[.val (.long q0), .second, .val (.long q1), .second, .val (.long q2), .second, .val (.long q3), .second, .val (.int p4), .val (.int p5), .val (.int av), .val (.int cv), .val (.ref b22)] [])
  refine hst (fun t k => XS.iconst X104.here hx rfl (hb hby at_111) k) ?_
  show F T104 (mkF m 112 #[.val (.long q0), .second, .val (.long q1), .second, .val (.long q2), .second, .val (.long q3), .second, .val (.int p4), .val (.int p5), .val (.int av), .val (.int cv), .val (.ref b22)] [(.int (1 : Int32))])
  refine hst (fun t k => XS.goto X104.here hx rfl (pc0 := 112) (pc' := 116) rfl (hb hby at_112) (by decide) (by decide) k) ?_
  show F T104 (mkF m 116 #[.val (.long q0), .second, .val (.long q1), .second, .val (.long q2), .second, .val (.long q3), .second, .val (.int p4), .val (.int p5), .val (.int av), .val (.int cv), .val (.ref b22)] [(.int (1 : Int32))])
  rw [hF]
  refine own_retN X104 hx hret (by simp) hlk (hb hby at_116) (by decide) (by decide) ?_
  rw [he104]
  exact ⟨rfl, N104⟩
set_option maxRecDepth 65536 in
set_option maxHeartbeats 40000000 in
theorem comes_1 {Post : Tables → Env → Array Value → State → Outcome → State → Prop} (hpost : ∀ tb e args s v u, (limb_1_1.after args s (.returned v) u = true ∧ limb_1_2.after args s (.returned v) u = true ∧ True) → FrameEnd s (.returned v) u (Jvm.fieldLocs frame_1_writes args s ++ Jvm.arrayLocs frame_1_arrays args s ++ Jvm.staticLocs frame_1_statics s) 16 128 → Post tb e args s (.returned v) u) :
    ArmFor flags0 classFile x code maxLocals ret World_1 tables_1 room_1 Calls_1 rest_1 Pre_1 Post := by
  intro l hfl _ _ p e ha hc hk s m args below hf hA hF happ hP
  obtain ⟨hcalls, hrest, hpre⟩ := hP
  obtain ⟨-, -, -, hnamed, -, -, -, hat⟩ := (Spec.applies_iff hf).mp happ
  obtain ⟨hg, hn⟩ := and_e (Cond.before_iff.mp (show (Jvm.Cond.and given_1 narrow_1).before args s = true from hpre))
  obtain ⟨g1, g2⟩ := and_e hg
  obtain ⟨g3, g4⟩ := and_e g2
  obtain ⟨g5, g6⟩ := and_e g4
  obtain ⟨g7, g8⟩ := and_e g6
  obtain ⟨g9, g10⟩ := and_e g8
  obtain ⟨g11, g12⟩ := and_e g10
  obtain ⟨w0, w1, w2, w3, w4, w5, rfl⟩ : ∃ w0 w1 w2 w3 w4 w5 : Value, args = #[w0, w1, w2, w3, w4, w5] := by
    have hs : args.size = 6 := by simpa [Cond.value, given_1] using g1
    obtain ⟨L⟩ := args
    match L, hs with
    | [w0, w1, w2, w3, w4, w5], _ => exact ⟨w0, w1, w2, w3, w4, w5, rfl⟩
  have hw := fun d (hd : d ∈ tables_1) => atoms_spec (ws := Jvm.Cond.code x code maxLocals ret :: tables_1) hat d (List.mem_cons_of_mem _ hd)
  obtain ⟨i0, ei0⟩ := isL_v g3
  obtain rfl : w0 = (.long i0) := Option.some.inj ei0
  obtain ⟨i1, ei1⟩ := isL_v g5
  obtain rfl : w1 = (.long i1) := Option.some.inj ei1
  obtain ⟨i2, ei2⟩ := isL_v g7
  obtain rfl : w2 = (.long i2) := Option.some.inj ei2
  obtain ⟨i3, ei3⟩ := isL_v g9
  obtain rfl : w3 = (.long i3) := Option.some.inj ei3
  obtain ⟨i4, ei4⟩ := is_v g11
  obtain rfl : w4 = (.int i4) := Option.some.inj ei4
  obtain ⟨i5, ei5⟩ := is_v g12
  obtain rfl : w5 = (.int i5) := Option.some.inj ei5
  obtain ⟨n, o, h1, h2, h3, _, L, rfl, ⟨rfl, N⟩, hq⟩ := rm0 l s _ hw tables_1 i0 i1 i2 i3 i4 i5 s.heap s.heap.size (Nat.le_refl _) p e ha hc hk s m _ below hf ((Spec.applies_iff_loose hf).mp happ).1 ⟨rfl, State.Warmed39.refl s, rfl⟩ trivial
  refine ⟨n, _, h1, h2, h3, hpost _ _ _ _ _ _ ⟨Cond.after_iff.mpr rfl, Cond.after_iff.mpr (eq_i res_at (Term.int_eval (1)) rfl), trivial⟩ ⟨hq.1, hq.2.1, (hq.2.2.sift fun y hy => Or.inr (N y hy)).mono (by decide) (by decide)⟩⟩
theorem main_1_1 : Claimed_1_1 := comes_1 fun _ _ _ _ _ _ h hF => ⟨h.1, hF⟩
theorem main_1_2 : Claimed_1_2 := comes_1 fun _ _ _ _ _ _ h hF => ⟨h.2.1, hF⟩
end Jvm.Pilot.@@N@@
namespace Jvm.Pilot.@@N@@
open Jvm Jvm.ClassFile Sem Op Lib Jvm.Free Jvm.Stand Jvm.Pilot.@@N@@.Jvm.D
/-! MADE BY PROGRAM (witnessworld.py) out of the Statement's table words and the real class files: 12 classes; the members and pool entries that the words name. The judged class is class 1, her method 3. -/
namespace start1
open Jvm.ClassFile
def u (s : String) : CpInfo := .utf8 (stringToUtf16 s)
/-- a pool by its gaps: so many unusable entries, then the entry; so many at the end -/
def gap : Nat → List CpInfo → List CpInfo
  | 0, r => r
  | n + 1, r => .unusable :: gap n r
def poolList (es : List (Nat × CpInfo)) (last : Nat) : List CpInfo := es.foldr (fun e r => gap e.1 (e.2 :: r)) (gap last [])
def pool (es : List (Nat × CpInfo)) (last : Nat) : Array CpInfo := ⟨poolList es last⟩
def fileOf (pool : Array CpInfo) (this : Nat) (attrs : Array Attribute := #[]) (ms : Array MethodInfo := #[]) (fl : Nat := 33) (sup : Nat := 0) (ifs : Array Nat := #[]) (fds : Array FieldInfo := #[]) : ClassFile where
  minorVersion := 0
  majorVersion := 65
  constantPool := pool
  accessFlags := fl
  thisClass := this
  superClass := sup
  interfaces := ifs
  fields := fds
  methods := ms
  attributes := attrs
def plain (name : String) (sup : Option ClassId) : Class where
  name := name
  kind := .ordinary
  loader := none
  accessFlags := 33
  super := sup
  interfaces := #[]
  cf := none
  fields := #[]
  methods := #[]
  instanceTypes := #[]
  staticTypes := #[]
  resolved := #[]
  callSites := []
  init := .initialized
  statics := none
  mirror := none

def pool0 : Array CpInfo := pool [(5, u "<init>"), (0, u "()V"), (1, .class_ 10), (1, u "java/lang/Object")] 113

def k0m0 : Method := { name := "<init>", desc := "()V", sig := { parameters := [], returnType := none }, accessFlags := 1, code := none }
/-- java/lang/Object -/
def k0 : Class := { plain "java/lang/Object" none with
  accessFlags := 33
  interfaces := #[]
  cf := some (fileOf pool0 8 #[] #[{ accessFlags := 1, nameIndex := 5, descriptorIndex := 6, attributes := #[] }] 33 0 #[] #[])
  fields := #[]
  methods := #[k0m0]
  instanceTypes := #[]
  staticTypes := #[]
  resolved := Array.replicate 124 none
  statics := none }

def pool1 : Array CpInfo := pool [(2, .class_ 4), (1, u "java/lang/Object"), (0, u "<init>"), (0, u "()V"), (0, .long 18446744073709551615), (1, .methodref 10 11), (0, .class_ 12), (0, .nameAndType 13 14), (0, u "java/lang/Math"), (0, u "max"), (0, u "(II)I"), (0, .methodref 10 16), (0, .nameAndType 17 14), (0, u "min"), (0, .methodref 19 20), (0, .class_ 21), (0, .nameAndType 22 23), (0, u "com/example/censo/censo/compact/BitFieldsWritePinLaw"), (0, u "maskOf"), (0, u "(I)J"), (0, .integer 2147483647), (0, .methodref 26 27), (0, .class_ 28), (0, .nameAndType 29 30), (0, u "com/example/censo/censo/compact/BitFields"), (0, u "write"), (0, u "([JIJI)V"), (0, .methodref 19 32), (0, .nameAndType 33 34), (0, u "expected"), (0, u "(JIIIJ)J"), (3, u "law"), (0, u "(JJJJII)Z")] 4

def k1m0 : Method := { name := "<init>", desc := "()V", sig := { parameters := [], returnType := none }, accessFlags := 2, code := none }
def k1c1 : Code := { maxStack := 4, maxLocals := 1, code := method_2_code, exceptionTable := #[], attributes := #[] }
def k1m1 : Method := { name := "maskOf", desc := "(I)J", sig := { parameters := [.int], returnType := some .long }, accessFlags := 10, code := some k1c1 }
def k1c2 : Code := { maxStack := 6, maxLocals := 14, code := method_3_code, exceptionTable := #[], attributes := #[] }
def k1m2 : Method := { name := "expected", desc := "(JIIIJ)J", sig := { parameters := [.long, .int, .int, .int, .long], returnType := some .long }, accessFlags := 10, code := some k1c2 }
def k1c3 : Code := { maxStack := 9, maxLocals := 13, code := code, exceptionTable := #[], attributes := #[] }
def k1m3 : Method := { name := "law", desc := "(JJJJII)Z", sig := { parameters := [.long, .long, .long, .long, .int, .int], returnType := some .boolean }, accessFlags := 9, code := some k1c3 }
/-- com/example/censo/censo/compact/BitFieldsWritePinLaw -/
def k1 : Class := { plain "com/example/censo/censo/compact/BitFieldsWritePinLaw" (some 0) with
  accessFlags := 49
  interfaces := #[]
  cf := some (fileOf pool1 19 #[] #[{ accessFlags := 2, nameIndex := 5, descriptorIndex := 6, attributes := #[] }, { accessFlags := 10, nameIndex := 22, descriptorIndex := 23, attributes := #[] }, { accessFlags := 10, nameIndex := 33, descriptorIndex := 34, attributes := #[] }, { accessFlags := 9, nameIndex := 38, descriptorIndex := 39, attributes := #[] }] 49 2 #[] #[])
  fields := #[]
  methods := #[k1m0, k1m1, k1m2, k1m3]
  instanceTypes := #[]
  staticTypes := #[]
  resolved := Array.replicate 44 none
  statics := none }

def pool2 : Array CpInfo := pool [(2, .class_ 4), (1, u "java/lang/Object"), (0, u "<init>"), (0, u "()V"), (0, .long 18446744073709551615), (8, .class_ 18), (1, u "com/example/censo/censo/compact/BitFields"), (4, u "write"), (0, u "([JIJI)V")] 11

def k2m0 : Method := { name := "<init>", desc := "()V", sig := { parameters := [], returnType := none }, accessFlags := 2, code := none }
def k2c1 : Code := { maxStack := 8, maxLocals := 11, code := prog_64_method_3_code, exceptionTable := #[], attributes := #[] }
def k2m1 : Method := { name := "write", desc := "([JIJI)V", sig := { parameters := [(.array .long), .int, .long, .int], returnType := none }, accessFlags := 9, code := some k2c1 }
/-- com/example/censo/censo/compact/BitFields -/
def k2 : Class := { plain "com/example/censo/censo/compact/BitFields" (some 0) with
  accessFlags := 49
  interfaces := #[]
  cf := some (fileOf pool2 16 #[] #[{ accessFlags := 2, nameIndex := 5, descriptorIndex := 6, attributes := #[] }, { accessFlags := 9, nameIndex := 23, descriptorIndex := 24, attributes := #[] }] 49 2 #[] #[])
  fields := #[]
  methods := #[k2m0, k2m1]
  instanceTypes := #[]
  staticTypes := #[]
  resolved := Array.replicate 36 none
  statics := none }

def pool3 : Array CpInfo := pool [(1, .class_ 2), (0, u "java/lang/Math"), (1, .class_ 6), (1, u "java/lang/Object"), (0, u "<init>"), (0, u "()V"), (89, .class_ 100), (1, u "java/lang/Math$RandomNumberGeneratorHolder"), (71, u "negativeZeroFloatBits"), (0, u "J"), (2, u "negativeZeroDoubleBits"), (21, u "max"), (2, u "min"), (43, u "$assertionsDisabled"), (0, u "Z"), (88, u "(II)I"), (2, u "twoToTheDoubleScaleDown"), (0, u "D"), (4, u "twoToTheDoubleScaleUp"), (9, u "E"), (3, u "PI"), (2, u "TAU"), (2, u "DEGREES_TO_RADIANS"), (0, u "RADIANS_TO_DEGREES")] 94

def k3m0 : Method := { name := "<init>", desc := "()V", sig := { parameters := [], returnType := none }, accessFlags := 2, code := none }
def k3c1 : Code := { maxStack := 2, maxLocals := 2, code := jdk_29_method_65_code, exceptionTable := #[], attributes := #[] }
def k3m1 : Method := { name := "max", desc := "(II)I", sig := { parameters := [.int, .int], returnType := some .int }, accessFlags := 9, code := some k3c1 }
def k3c2 : Code := { maxStack := 2, maxLocals := 2, code := jdk_29_method_69_code, exceptionTable := #[], attributes := #[] }
def k3m2 : Method := { name := "min", desc := "(II)I", sig := { parameters := [.int, .int], returnType := some .int }, accessFlags := 9, code := some k3c2 }
/-- java/lang/Math -/
def k3 : Class := { plain "java/lang/Math" (some 0) with
  accessFlags := 49
  interfaces := #[]
  cf := some (fileOf pool3 1 #[.nestMembers #[98]] #[{ accessFlags := 2, nameIndex := 7, descriptorIndex := 8, attributes := #[] }, { accessFlags := 9, nameIndex := 198, descriptorIndex := 335, attributes := #[] }, { accessFlags := 9, nameIndex := 201, descriptorIndex := 335, attributes := #[] }] 49 4 #[] #[{ accessFlags := 25, nameIndex := 354, descriptorIndex := 339, attributes := #[] }, { accessFlags := 25, nameIndex := 358, descriptorIndex := 339, attributes := #[] }, { accessFlags := 25, nameIndex := 361, descriptorIndex := 339, attributes := #[] }, { accessFlags := 26, nameIndex := 364, descriptorIndex := 339, attributes := #[] }, { accessFlags := 26, nameIndex := 365, descriptorIndex := 339, attributes := #[] }, { accessFlags := 26, nameIndex := 172, descriptorIndex := 173, attributes := #[] }, { accessFlags := 26, nameIndex := 176, descriptorIndex := 173, attributes := #[] }, { accessFlags := 8, nameIndex := 344, descriptorIndex := 339, attributes := #[] }, { accessFlags := 8, nameIndex := 338, descriptorIndex := 339, attributes := #[] }, { accessFlags := 4120, nameIndex := 245, descriptorIndex := 246, attributes := #[] }])
  fields := #[{ name := "E", type := .double, accessFlags := 25, slot := 0, constantValue := 0 }, { name := "PI", type := .double, accessFlags := 25, slot := 1, constantValue := 0 }, { name := "TAU", type := .double, accessFlags := 25, slot := 2, constantValue := 0 }, { name := "DEGREES_TO_RADIANS", type := .double, accessFlags := 26, slot := 3, constantValue := 0 }, { name := "RADIANS_TO_DEGREES", type := .double, accessFlags := 26, slot := 4, constantValue := 0 }, { name := "negativeZeroFloatBits", type := .long, accessFlags := 26, slot := 5, constantValue := 0 }, { name := "negativeZeroDoubleBits", type := .long, accessFlags := 26, slot := 6, constantValue := 0 }, { name := "twoToTheDoubleScaleUp", type := .double, accessFlags := 8, slot := 7, constantValue := 0 }, { name := "twoToTheDoubleScaleDown", type := .double, accessFlags := 8, slot := 8, constantValue := 0 }, { name := "$assertionsDisabled", type := .boolean, accessFlags := 4120, slot := 9, constantValue := 0 }]
  methods := #[k3m0, k3m1, k3m2]
  instanceTypes := #[]
  staticTypes := #[.double, .double, .double, .double, .double, .long, .long, .double, .double, .boolean]
  resolved := Array.replicate 460 none
  statics := none }

def pool4 : Array CpInfo := pool [(1, u "java/lang/Cloneable"), (0, .class_ 1), (0, u "java/lang/Object"), (0, .class_ 3)] 3

/-- java/lang/Cloneable -/
def k4 : Class := { plain "java/lang/Cloneable" (some 0) with
  accessFlags := 1537
  interfaces := #[]
  cf := some (fileOf pool4 2 #[] #[] 1537 4 #[] #[])
  fields := #[]
  methods := #[]
  instanceTypes := #[]
  staticTypes := #[]
  resolved := Array.replicate 8 none
  statics := none }

def pool5 : Array CpInfo := pool [(1, u "java/io/Serializable"), (0, .class_ 1), (0, u "java/lang/Object"), (0, .class_ 3)] 3

/-- java/io/Serializable -/
def k5 : Class := { plain "java/io/Serializable" (some 0) with
  accessFlags := 1537
  interfaces := #[]
  cf := some (fileOf pool5 2 #[] #[] 1537 4 #[] #[])
  fields := #[]
  methods := #[]
  instanceTypes := #[]
  staticTypes := #[]
  resolved := Array.replicate 8 none
  statics := none }

/-- the primitive byte -/
def k6 : Class := { plain "byte" none with kind := .primitive 'B', accessFlags := 0x411 }
/-- [B -/
def k7 : Class := { plain "[B" (some 0) with kind := .array 6 .byte, interfaces := #[4, 5], accessFlags := 1041 }

/-- the primitive int -/
def k8 : Class := { plain "int" none with kind := .primitive 'I', accessFlags := 0x411 }
/-- [I -/
def k9 : Class := { plain "[I" (some 0) with kind := .array 8 .int, interfaces := #[4, 5], accessFlags := 1041 }

/-- the primitive long -/
def k10 : Class := { plain "long" none with kind := .primitive 'J', accessFlags := 0x411 }
/-- [J -/
def k11 : Class := { plain "[J" (some 0) with kind := .array 10 .long, interfaces := #[4, 5], accessFlags := 1041 }

def heap : Heap := #[]
def classes : Array Class := #[k0, k1, k2, k3, k4, k5, k6, k7, k8, k9, k10, k11]
def interned : List (Array UInt16 × Addr) := []
def slotsUsed : Nat := 0
def theMethod : MethodId := ⟨1, 3⟩
def args0 : Array Value := #[.long 1, .long 2, .long 3, .long 4, .int 5, .int 6]
def aboutOver (below : List Frame) : State where
  vm := { classes := classes, interned := interned.toArray }
  heap := heap
  slotsUsed := slotsUsed
  threads := #[{ frames := .invoking theMethod args0 :: below }]
def below0 : List Frame := [.native { method := ⟨0, 0⟩, args := #[] }]
def about1 : State := aboutOver below0
def p0 : Program := .bare "" "" ""
def e0 : Env := launch0.env 0 0 0
theorem w_frames : about1.frames = Frame.invoking theMethod args0 :: below0 := rfl
set_option maxRecDepth 65536 in
theorem w_args : argsFit about1.vm theMethod args0 = true := by decide +kernel
set_option maxRecDepth 65536 in
theorem w_heap : heapFits about1 = true := by decide +kernel
set_option maxRecDepth 65536 in
theorem w_runnable : about1.curStatus? = some .runnable := by decide +kernel
set_option maxRecDepth 65536 in
theorem w_alone : about1.alone = true := by decide +kernel
set_option maxRecDepth 65536 in
theorem w_named : about1.methodNamed? x = some theMethod := by decide +kernel
set_option maxRecDepth 65536 in
theorem w_hears : about1.hears theMethod below0 = true := by decide +kernel
set_option maxRecDepth 65536 in
theorem w_ripe : about1.ripe theMethod args0 below0 = true := by decide +kernel
theorem w_running : about1.status = .running := rfl
set_option maxRecDepth 65536 in
theorem w_room : about1.hasRoom e0.platform room_1 = true :=
  launch0.hasRoom_least _ room_1 (by decide +kernel) (by decide +kernel) (by decide +kernel) (by decide +kernel) (by decide +kernel) (by decide +kernel)
theorem allAtoms_all (ts : List Jvm.Cond) (a : Array Jvm.Value) (st : Jvm.State) : (allAtoms ts).before a st = ts.all (fun c => c.before a st) := by
  induction ts with
  | nil => rfl
  | cons c t ih =>
    show (Jvm.Cond.and c (allAtoms t)).before a st = _
    rw [Jvm.Cond.before_and, ih, List.all_cons]
def words1 : List Jvm.Cond := Jvm.Cond.code x code maxLocals ret :: tables_1
/-- a 'code' word, met by the world's own term for the bytes: nothing is compared byte by byte -/
theorem code_word {y : MethodName} {bytes : ByteArray} {mx : Nat} {rt : Option FieldType} {a : Array Value} {s : State} {m : MethodId} {meth : Method} {c : Code} (h1 : s.methodNamed? y = some m) (h2 : s.vm.method? m = some meth) (h3 : meth.code = some c) (h4 : c.code = bytes)
    (h5 : (c.maxLocals == mx && c.exceptionTable.isEmpty && decide (c.maxStack ≤ mostOperands) && decide (meth.sig.returnType = rt) && !meth.locks && decide (parseMethodDescriptor y.desc = some meth.sig)) = true) : (Jvm.Cond.code y bytes mx rt).before a s = true := by
  simp only [Bool.and_eq_true, beq_iff_eq, Bool.not_eq_true', decide_eq_true_eq] at h5
  obtain ⟨⟨⟨⟨⟨g1, g2⟩, g3⟩, g4⟩, g5⟩, g6⟩ := h5
  simp [Cond.before, Cond.holds, Cond.value, h1, h2, h3, h4, g1, g2, g3, g4, g5, g6]
def isCode : Jvm.Cond → Bool
  | .code _ _ _ _ => true
  | _ => false
theorem all_split {L : List Jvm.Cond} {P : Jvm.Cond → Bool} (h1 : L.all (fun c => isCode c || P c) = true) (h2 : ∀ c ∈ L.filter isCode, P c = true) : L.all P = true := by
  refine List.all_eq_true.mpr fun c hc => ?_
  have h := List.all_eq_true.mp h1 c hc
  rcases Bool.eq_false_or_eq_true (isCode c) with hi | hi
  · exact h2 c (List.mem_filter.mpr ⟨hc, hi⟩)
  · simpa [hi] using h
set_option maxRecDepth 65536 in
theorem w_c0 : (Jvm.Cond.code x code maxLocals ret).before args0 about1 = true := code_word (m := ⟨1, 3⟩) (meth := k1m3) (c := k1c3) (by decide +kernel) rfl rfl rfl (by decide +kernel)
set_option maxRecDepth 65536 in
theorem w_c1 : (Jvm.Cond.code ({ cls := "com/example/censo/censo/compact/BitFields", name := "write", desc := "([JIJI)V" } : Jvm.MethodName) prog_64_method_3_code (11 : Nat) (Option.none : Option Jvm.ClassFile.FieldType)).before args0 about1 = true := code_word (m := ⟨2, 1⟩) (meth := k2m1) (c := k2c1) (by decide +kernel) rfl rfl rfl (by decide +kernel)
set_option maxRecDepth 65536 in
theorem w_c2 : (Jvm.Cond.code ({ cls := "com/example/censo/censo/compact/BitFieldsWritePinLaw", name := "expected", desc := "(JIIIJ)J" } : Jvm.MethodName) method_3_code (14 : Nat) (Option.some Jvm.ClassFile.FieldType.long)).before args0 about1 = true := code_word (m := ⟨1, 2⟩) (meth := k1m2) (c := k1c2) (by decide +kernel) rfl rfl rfl (by decide +kernel)
set_option maxRecDepth 65536 in
theorem w_c3 : (Jvm.Cond.code ({ cls := "java/lang/Math", name := "max", desc := "(II)I" } : Jvm.MethodName) jdk_29_method_65_code (2 : Nat) (Option.some Jvm.ClassFile.FieldType.int)).before args0 about1 = true := code_word (m := ⟨3, 1⟩) (meth := k3m1) (c := k3c1) (by decide +kernel) rfl rfl rfl (by decide +kernel)
set_option maxRecDepth 65536 in
theorem w_c4 : (Jvm.Cond.code ({ cls := "java/lang/Math", name := "min", desc := "(II)I" } : Jvm.MethodName) jdk_29_method_69_code (2 : Nat) (Option.some Jvm.ClassFile.FieldType.int)).before args0 about1 = true := code_word (m := ⟨3, 2⟩) (meth := k3m2) (c := k3c2) (by decide +kernel) rfl rfl rfl (by decide +kernel)
set_option maxRecDepth 65536 in
theorem w_c5 : (Jvm.Cond.code ({ cls := "com/example/censo/censo/compact/BitFieldsWritePinLaw", name := "maskOf", desc := "(I)J" } : Jvm.MethodName) method_2_code (1 : Nat) (Option.some Jvm.ClassFile.FieldType.long)).before args0 about1 = true := code_word (m := ⟨1, 1⟩) (meth := k1m1) (c := k1c1) (by decide +kernel) rfl rfl rfl (by decide +kernel)
def codes1 : List Jvm.Cond := [Jvm.Cond.code x code maxLocals ret, Jvm.Cond.code ({ cls := "com/example/censo/censo/compact/BitFields", name := "write", desc := "([JIJI)V" } : Jvm.MethodName) prog_64_method_3_code (11 : Nat) (Option.none : Option Jvm.ClassFile.FieldType), Jvm.Cond.code ({ cls := "com/example/censo/censo/compact/BitFieldsWritePinLaw", name := "expected", desc := "(JIIIJ)J" } : Jvm.MethodName) method_3_code (14 : Nat) (Option.some Jvm.ClassFile.FieldType.long), Jvm.Cond.code ({ cls := "java/lang/Math", name := "max", desc := "(II)I" } : Jvm.MethodName) jdk_29_method_65_code (2 : Nat) (Option.some Jvm.ClassFile.FieldType.int), Jvm.Cond.code ({ cls := "java/lang/Math", name := "min", desc := "(II)I" } : Jvm.MethodName) jdk_29_method_69_code (2 : Nat) (Option.some Jvm.ClassFile.FieldType.int), Jvm.Cond.code ({ cls := "com/example/censo/censo/compact/BitFieldsWritePinLaw", name := "maskOf", desc := "(I)J" } : Jvm.MethodName) method_2_code (1 : Nat) (Option.some Jvm.ClassFile.FieldType.long)]
set_option maxRecDepth 65536 in
theorem codes_eq : words1.filter isCode = codes1 := rfl
theorem w_codes : ∀ c ∈ words1.filter isCode, c.before args0 about1 = true := by
  rw [codes_eq]
  intro c hc
  simp only [codes1, List.mem_cons, List.not_mem_nil, or_false] at hc
  rcases hc with rfl | rfl | rfl | rfl | rfl | rfl
  · exact w_c0
  · exact w_c1
  · exact w_c2
  · exact w_c3
  · exact w_c4
  · exact w_c5
set_option maxRecDepth 65536 in
theorem w_t1 : words1.all (fun c => isCode c || c.before args0 about1) = true := by decide +kernel
theorem w_tables : (allAtoms (Jvm.Cond.code x code maxLocals ret :: tables_1)).before args0 about1 = true := by
  rw [allAtoms_all]
  show words1.all (fun c => c.before args0 about1) = true
  refine all_split ?_ w_codes
  rw [w_t1]
set_option maxRecDepth 65536 in
theorem w_case : (Jvm.Cond.and given_1 narrow_1).before args0 about1 = true := by decide +kernel
theorem w_applies : (headSpec (Jvm.Cond.code x code maxLocals ret :: tables_1) room_1).applies x e0.platform about1 = true :=
  (Spec.applies_iff w_frames).mpr ⟨w_running, w_runnable, w_alone, w_named, w_hears, w_ripe, w_room, w_tables⟩
theorem atStart : AtStart classFile x code maxLocals ret World_1 tables_1 room_1 Calls_1 rest_1 Pre_1 launch0 p0 e0 about1 theMethod args0 below0 :=
  ⟨lists_1, trivial, launch0.admits_env _ _ _, launch0.least_env, fairChoices_fair.cas, fairChoices_fair.clock, w_frames, w_args, w_heap, w_applies, trivial, trivial, w_case⟩
end start1
theorem witness_1 : WitnessClaimed_1 := ⟨start1.p0, start1.e0, start1.about1, start1.theMethod, start1.args0, start1.below0, start1.atStart⟩
end Jvm.Pilot.@@N@@
