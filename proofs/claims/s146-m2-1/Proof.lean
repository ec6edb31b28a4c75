import JvmDerived
import JvmDerived.Pilot.@@N@@Statement
import JvmDerived.Pilot.@@N@@Code
set_option linter.unusedVariables false
set_option linter.unusedSimpArgs false
namespace Jvm.Pilot.@@N@@
open Jvm Jvm.ClassFile Sem Op Lib Jvm.Free Jvm.Stand Jvm.LawKit Jvm.RoadKit Bundle Jvm.Pilot.@@N@@.Jvm.D
/-! ## the walk's own goal: from this frame the method comes to its end, and what it leaves is Q -/
def own_Fin (tb : Tables) (e : Env) (below : List Frame) (s : State) (R : Room) (Q : Option Value → Heap → List Loc → Prop) (T : State) (g : JFrame) : Prop :=
  ∃ s₂ o, Steps tb e below (T.setTop g) s₂ ∧ s₂.status = .running ∧ Ended s₂ below o ∧ ∃ v L, o = .returned v ∧ Q v s₂.heap L ∧ FrameEnd s o s₂ L R.cells R.slots
theorem own_st {tb : Tables} {e : Env} {below : List Frame} {s : State} {R : Room} {Q : Option Value → Heap → List Loc → Prop} {T T' : State} {g g' : JFrame}
    (h : ∀ t, Steps tb e below (T'.setTop g') t → Steps tb e below (T.setTop g) t) (k : own_Fin tb e below s R Q T' g') : own_Fin tb e below s R Q T g := by
  obtain ⟨s₂, o, h1, r⟩ := k
  exact ⟨s₂, o, h _ h1, r⟩
/-- an array: its kind, its length, what lies at each place -/
def own_A (Z : State) (h : Heap) (a : Addr) (ty : FieldType) (n : Nat) (f : Nat → Value) : Prop := ∃ c : Cell, Arr Z h a c ty ∧ c.slots.size = n ∧ ∀ i, i < n → c.slots[i]? = some (f i)
section OwnArr
variable {Z : State} {h h' : Heap} {a b : Addr} {ty : FieldType} {n : Nat} {f : Nat → Value} {ws : List Addr} {sl : Nat} {v : Value}
theorem own_A.lt (F : own_A Z h a ty n f) : a < h.size := by obtain ⟨c, A, -⟩ := F; exact A.lt
theorem own_A.ext (F : own_A Z h a ty n f) (E : Ext h h') : own_A Z h' a ty n f := by obtain ⟨c, A, r⟩ := F; exact ⟨c, A.ext E, r⟩
theorem own_A.other (F : own_A Z h a ty n f) (W : Wr h h' b sl v) (q : a ≠ b) : own_A Z h' a ty n f := by obtain ⟨c, A, r⟩ := F; exact ⟨c, A.other W q, r⟩
theorem own_A.keep (F : own_A Z h a ty n f) (K : Keep h h' ws) (q : a ∉ ws) : own_A Z h' a ty n f := by obtain ⟨c, A, r⟩ := F; exact ⟨c, ⟨K.2.1 a c A.1 q, A.2⟩, r⟩
theorem own_A.congr (F : own_A Z h a ty n f) {f' : Nat → Value} (q : ∀ i, i < n → f i = f' i) : own_A Z h a ty n f' := by
  obtain ⟨c, A, r1, r2⟩ := F
  exact ⟨c, A, r1, fun i hi => by rw [r2 i hi, q i hi]⟩
theorem own_A.new {k : ClassId} {z : Int32} (A : Arr Z h a (newA k ty z) ty) : own_A Z h a ty z.toNatClampNeg (fun _ => defaultValue ty) :=
  ⟨_, A, sz_new _ _ _, fun i hi => by simp [newA, hi]⟩
theorem own_A.set (F : own_A Z h a ty n f) (W : Wr h h' a sl v) : own_A Z h' a ty n (fun i => if i = sl then v else f i) := by
  obtain ⟨c, A, r1, r2⟩ := F
  refine ⟨_, A.same W, by rw [sz_set]; exact r1, fun i hi => ?_⟩
  by_cases q : i = sl
  · subst q; simp [Cell.setSlot, r1, hi]
  · simp only [Cell.setSlot, q, if_false]; rw [Array.getElem?_setIfInBounds_ne (Ne.symm q)]; exact r2 i hi
theorem own_ne_A {c : Nat} {C : String} {a0 : Array Value} (F : Exa Z h b C) (wi : (Jvm.Cond.instantiable C c).before a0 Z = true) (G : own_A Z h a ty n f) : b ≠ a := by
  obtain ⟨cl, A, -⟩ := G; exact ne_arr F wi A
end OwnArr
section OwnStand
variable {p : Program} {l : Launch} {e : Env} {R : Room} {s : State} {m : MethodId} {args : Array Value} {below : List Frame} {meth : Method} {c : Code} {T : State} {locs : List Loc} {cells slots : Nat} {Q : Option Value → Heap → List Loc → Prop} {Z : State} {a0 : Array Value} {h : Heap}
theorem own_ret {v : Option Value} {g : JFrame} (X : Stand p l e R s m args below meth c T locs cells slots) (hv : meth.sig.returnType = none → v = none) (hlocks : meth.locks = false) (hc : cells ≤ R.cells) (hs : slots ≤ R.slots) (hQ : Q v T.heap locs)
    (hstep : ∀ fs, (∀ (f : JFrame) (acts : List Action), f.method = m → f.locked = none → f.entered = [] → (doReturn e (T.setTop f) acts v).1 = T.setFrames fs) → Steps p.tables e below (T.setTop g) (T.setFrames fs)) : own_Fin p.tables e below s R Q T g := by
  obtain ⟨fs, hr, hrun, hended, hW, hsame⟩ := X.leave hv hlocks
  exact ⟨_, _, hstep fs hr, hrun, hended, _, _, rfl, hQ, ⟨_, rfl⟩, hW, hsame.mono hc hs⟩
theorem own_retI {pc : Nat} {Ls : Array Slot} {z : Int32} {rest : List Value} (X : Stand p l e R s m args below meth c T locs cells slots) (hx : p.tables.exec = Jvm.exec) (hret : meth.sig.returnType = some .int) (hlocks : meth.locks = false) (hd : decode c.code pc = .ok (.ireturn, 1))
    (hc : cells ≤ R.cells) (hs : slots ≤ R.slots) (hQ : Q (some (.int z)) T.heap locs) : own_Fin p.tables e below s R Q T (mkF m pc Ls (.int z :: rest)) :=
  own_ret X (fun h => by rw [hret] at h; cases h) hlocks hc hs hQ fun fs hr => retOut X hx hret rfl (Or.inl ⟨rfl, Or.inl rfl, _, rfl⟩) hd hr
theorem own_retJ {pc : Nat} {Ls : Array Slot} {z : Int64} {rest : List Value} (X : Stand p l e R s m args below meth c T locs cells slots) (hx : p.tables.exec = Jvm.exec) (hret : meth.sig.returnType = some .long) (hlocks : meth.locks = false) (hd : decode c.code pc = .ok (.lreturn, 1))
    (hc : cells ≤ R.cells) (hs : slots ≤ R.slots) (hQ : Q (some (.long z)) T.heap locs) : own_Fin p.tables e below s R Q T (mkF m pc Ls (.long z :: rest)) :=
  own_ret X (fun h => by rw [hret] at h; cases h) hlocks hc hs hQ fun fs hr => retOut X hx hret rfl (Or.inr (Or.inl ⟨rfl, rfl, _, rfl⟩)) hd hr
theorem own_retA {pc : Nat} {Ls : Array Slot} {t : FieldType} {b : Addr} {rest : List Value} (X : Stand p l e R s m args below meth c T locs cells slots) (hx : p.tables.exec = Jvm.exec) (hret : meth.sig.returnType = some t) (ht : t.isReference = true) (hn : narrow t (.ref b) = .ref b) (hlocks : meth.locks = false) (hd : decode c.code pc = .ok (.areturn, 1))
    (hc : cells ≤ R.cells) (hs : slots ≤ R.slots) (hQ : Q (some (.ref b)) T.heap locs) : own_Fin p.tables e below s R Q T (mkF m pc Ls (.ref b :: rest)) :=
  own_ret X (fun h => by rw [hret] at h; cases h) hlocks hc hs hQ fun fs hr => retOut X hx hret hn (Or.inr (Or.inr (Or.inr (Or.inr ⟨rfl, ht, rfl⟩)))) hd hr
theorem own_retN {pc : Nat} {Ls : Array Slot} {t : FieldType} {z : Int32} {rest : List Value} (X : Stand p l e R s m args below meth c T locs cells slots) (hx : p.tables.exec = Jvm.exec) (hret : meth.sig.returnType = some t) (ht : t = .boolean ∨ t = .byte ∨ t = .char ∨ t = .short) (hlocks : meth.locks = false) (hd : decode c.code pc = .ok (.ireturn, 1))
    (hc : cells ≤ R.cells) (hs : slots ≤ R.slots) (hQ : Q (some (.int (nar t z))) T.heap locs) : own_Fin p.tables e below s R Q T (mkF m pc Ls (.int z :: rest)) :=
  own_ret X (fun h => by rw [hret] at h; cases h) hlocks hc hs hQ fun fs hr => retN X hx hret ht hd hr
theorem own_retV {pc : Nat} {Ls : Array Slot} (X : Stand p l e R s m args below meth c T locs cells slots) (hx : p.tables.exec = Jvm.exec) (hret : meth.sig.returnType = none) (hlocks : meth.locks = false) (hd : decode c.code pc = .ok (.return_, 1))
    (hc : cells ≤ R.cells) (hs : slots ≤ R.slots) (hQ : Q none T.heap locs) : own_Fin p.tables e below s R Q T (mkF m pc Ls []) :=
  own_ret X (fun _ => rfl) hlocks hc hs hQ fun fs hr => X.returnOut hx hret hd hr
theorem own_iaload {n : Nat} {f : Nat → Value} {a : Addr} {j : Int32} {v : Value} {g : JFrame} {rest : List Value} (X : Stand p l e R s m args below meth c T locs cells slots) (hx : p.tables.exec = Jvm.exec) (hZ : Z.Warmed39 s.vm) (eT : T.heap = h) (F : own_A Z h a .int n f) (hj : ¬ (j < 0 ∨ n ≤ j.toNatClampNeg)) (hv : f j.toNatClampNeg = v)
    (hg : g.method = m) (hs : g.stack = .int j :: .ref a :: rest) (hd : decode c.code g.pc = .ok (.iaload, 1)) (t : State) (k : Steps p.tables e below (T.setTop { g with pc := g.pc + 1, stack := v :: rest }) t) : Steps p.tables e below (T.setTop g) t := by
  obtain ⟨cl, A, r1, r2⟩ := F
  exact X.iaload hx (by rw [eT]; exact A.1) (State.isArrayOf_alike hZ.alike A.2.1) A.2.2 (by rw [r1]; exact hj) (by rw [r2 _ (Nat.lt_of_not_le fun q => hj (Or.inr q)), hv]) hg hs hd t k
theorem own_laload {n : Nat} {f : Nat → Value} {a : Addr} {j : Int32} {v : Value} {g : JFrame} {rest : List Value} (X : Stand p l e R s m args below meth c T locs cells slots) (hx : p.tables.exec = Jvm.exec) (hZ : Z.Warmed39 s.vm) (eT : T.heap = h) (F : own_A Z h a .long n f) (hj : ¬ (j < 0 ∨ n ≤ j.toNatClampNeg)) (hv : f j.toNatClampNeg = v)
    (hg : g.method = m) (hs : g.stack = .int j :: .ref a :: rest) (hd : decode c.code g.pc = .ok (.laload, 1)) (t : State) (k : Steps p.tables e below (T.setTop { g with pc := g.pc + 1, stack := v :: rest }) t) : Steps p.tables e below (T.setTop g) t := by
  obtain ⟨cl, A, r1, r2⟩ := F
  exact X.laload hx (by rw [eT]; exact A.1) (State.isArrayOf_alike hZ.alike A.2.1) A.2.2 (by rw [r1]; exact hj) (by rw [r2 _ (Nat.lt_of_not_le fun q => hj (Or.inr q)), hv]) hg hs hd t k
theorem own_baload {n : Nat} {f : Nat → Value} {a : Addr} {j : Int32} {v : Value} {g : JFrame} {rest : List Value} (X : Stand p l e R s m args below meth c T locs cells slots) (hx : p.tables.exec = Jvm.exec) (hZ : Z.Warmed39 s.vm) (eT : T.heap = h) (F : own_A Z h a .byte n f) (hj : ¬ (j < 0 ∨ n ≤ j.toNatClampNeg)) (hv : f j.toNatClampNeg = v)
    (hg : g.method = m) (hs : g.stack = .int j :: .ref a :: rest) (hd : decode c.code g.pc = .ok (.baload, 1)) (t : State) (k : Steps p.tables e below (T.setTop { g with pc := g.pc + 1, stack := v :: rest }) t) : Steps p.tables e below (T.setTop g) t := by
  obtain ⟨cl, A, r1, r2⟩ := F
  exact X.baloadBytes hx (by rw [eT]; exact A.1) (State.isArrayOf_alike hZ.alike A.2.1) A.2.2 (by rw [r1]; exact hj) (by rw [r2 _ (Nat.lt_of_not_le fun q => hj (Or.inr q)), hv]) hg hs hd t k
theorem own_alen {ty : FieldType} {n : Nat} {f : Nat → Value} {a : Addr} {z : Int32} {g : JFrame} {rest : List Value} (X : Stand p l e R s m args below meth c T locs cells slots) (hx : p.tables.exec = Jvm.exec) (hZ : Z.Warmed39 s.vm) (eT : T.heap = h) (F : own_A Z h a ty n f) (hz : n.toInt32 = z)
    (hg : g.method = m) (hs : g.stack = .ref a :: rest) (hd : decode c.code g.pc = .ok (.arraylength, 1)) (t : State) (k : Steps p.tables e below (T.setTop { g with pc := g.pc + 1, stack := .int z :: rest }) t) : Steps p.tables e below (T.setTop g) t := by
  obtain ⟨cl, A, r1, r2⟩ := F
  subst hz
  exact X.arraylength hx (by rw [eT]; exact A.1) (State.isArrayOf_alike hZ.alike A.2.1) hg hs hd t (by rw [r1]; exact k)
theorem own_iastore {n : Nat} {f : Nat → Value} {a : Addr} {j x : Int32} {g : JFrame} {rest : List Value} (X : Stand p l e R s m args below meth c T locs cells slots) (hx : p.tables.exec = Jvm.exec) (hZ : Z.Warmed39 s.vm) (eT : T.heap = h) (F : own_A Z h a .int n f) (hj : ¬ (j < 0 ∨ n ≤ j.toNatClampNeg))
    (hg : g.method = m) (hs : g.stack = .int x :: .int j :: .ref a :: rest) (hd : decode c.code g.pc = .ok (.iastore, 1)) :
    ∃ T' h', Stand p l e R s m args below meth c T' (locs ++ [⟨a, j.toNatClampNeg⟩]) cells slots ∧ T'.heap = h' ∧ Wr h h' a j.toNatClampNeg (.int x) ∧ ∀ target, Steps p.tables e below (T'.setTop { g with pc := g.pc + 1, stack := rest }) target → Steps p.tables e below (T.setTop g) target := by
  obtain ⟨cl, A, r1, r2⟩ := F
  exact stI X hx hZ eT A (by rw [r1]; exact hj) hg hs hd
theorem own_lastore {n : Nat} {f : Nat → Value} {a : Addr} {j : Int32} {x : Int64} {g : JFrame} {rest : List Value} (X : Stand p l e R s m args below meth c T locs cells slots) (hx : p.tables.exec = Jvm.exec) (hZ : Z.Warmed39 s.vm) (eT : T.heap = h) (F : own_A Z h a .long n f) (hj : ¬ (j < 0 ∨ n ≤ j.toNatClampNeg))
    (hg : g.method = m) (hs : g.stack = .long x :: .int j :: .ref a :: rest) (hd : decode c.code g.pc = .ok (.lastore, 1)) :
    ∃ T' h', Stand p l e R s m args below meth c T' (locs ++ [⟨a, j.toNatClampNeg⟩]) cells slots ∧ T'.heap = h' ∧ Wr h h' a j.toNatClampNeg (.long x) ∧ ∀ target, Steps p.tables e below (T'.setTop { g with pc := g.pc + 1, stack := rest }) target → Steps p.tables e below (T.setTop g) target := by
  obtain ⟨cl, A, r1, r2⟩ := F
  exact stJ X hx hZ eT A (by rw [r1]; exact hj) hg hs hd
theorem own_bastore {n : Nat} {f : Nat → Value} {a : Addr} {j x : Int32} {g : JFrame} {rest : List Value} (X : Stand p l e R s m args below meth c T locs cells slots) (hx : p.tables.exec = Jvm.exec) (hZ : Z.Warmed39 s.vm) (eT : T.heap = h) (F : own_A Z h a .byte n f) (hj : ¬ (j < 0 ∨ n ≤ j.toNatClampNeg))
    (hg : g.method = m) (hs : g.stack = .int x :: .int j :: .ref a :: rest) (hd : decode c.code g.pc = .ok (.bastore, 1)) :
    ∃ T' h', Stand p l e R s m args below meth c T' (locs ++ [⟨a, j.toNatClampNeg⟩]) cells slots ∧ T'.heap = h' ∧ Wr h h' a j.toNatClampNeg (.int (nar .byte x)) ∧ ∀ target, Steps p.tables e below (T'.setTop { g with pc := g.pc + 1, stack := rest }) target → Steps p.tables e below (T.setTop g) target := by
  obtain ⟨cl, A, r1, r2⟩ := F
  exact stB X hx hZ eT A (by rw [r1]; exact hj) hg hs hd
theorem own_newarr {aty : ArrayType} {n : Int32} {rest : List Value} {g : JFrame} (X : Stand p l e R s m args below meth c T locs cells slots) (hx : p.tables.exec = Jvm.exec) (hZ : Z.Warmed39 s.vm) (w : (Jvm.Cond.arrayClass (newarray.typeOf aty)).before a0 Z = true) (eT : T.heap = h) (hg : g.method = m) (hd : decode c.code g.pc = .ok (.newarray aty, 2)) (hs : g.stack = .int n :: rest)
    (hn : ¬ n < 0) {cap : Nat} (hcap : n.toNatClampNeg ≤ cap) (hb : cap * 8 ≤ 536870912) (hc : cells + 1 ≤ R.cells) (hl : slots + cap ≤ R.slots) :
    ∃ T' h' a, Stand p l e R s m args below meth c T' locs (cells + 1) (slots + cap) ∧ T'.heap = h' ∧ a = h.size ∧ Ext h h' ∧ own_A Z h' a (newarray.typeOf aty) n.toNatClampNeg (fun _ => defaultValue (newarray.typeOf aty)) ∧
      ∀ target, Steps p.tables e below (T'.setTop { g with pc := g.pc + 2, stack := .ref a :: rest }) target → Steps p.tables e below (T.setTop g) target := by
  obtain ⟨T', h', cA, X', e', E', A', st⟩ := newP X hx hZ w eT hg hd hs hn hcap hb hc hl
  exact ⟨T', h', _, X', e', rfl, E', own_A.new A', st⟩
theorem own_new {own C : String} {index n : Nat} {g : JFrame} (X : Stand p l e R s m args below meth c T locs cells slots) (hx : p.tables.exec = Jvm.exec) (hZ : Z.Warmed39 s.vm) (hown : s.vm.findClass own = some m.cls) (w : (Jvm.Cond.classLink own index C).before a0 Z = true) (wi : (Jvm.Cond.instantiable C n).before a0 Z = true) (wz : (Jvm.Cond.initialized C).before a0 Z = true) (eT : T.heap = h)
    (hg : g.method = m) (hd : decode c.code g.pc = .ok (.new index, 3)) (hc : cells + 1 ≤ R.cells) (hl : slots + n ≤ R.slots) :
    ∃ T' h' a, Stand p l e R s m args below meth c T' locs (cells + 1) (slots + n) ∧ T'.heap = h' ∧ a = h.size ∧ Ext h h' ∧ Exa Z h' a C ∧ (∀ {O nm d : String} {ty : FieldType}, Laid Z a0 C O nm d → parseFieldDescriptor d = some ty → Fld Z h' a O nm d (defaultValue ty)) ∧
      ∀ target, Steps p.tables e below (T'.setTop { g with pc := g.pc + 3, stack := .ref a :: g.stack }) target → Steps p.tables e below (T.setTop g) target := by
  obtain ⟨T', h', X', e', E', A', D', -, st⟩ := newO X hx hZ hown w wi wz eT hg hd hc hl
  exact ⟨T', h', _, X', e', rfl, E', A', D', st⟩
theorem own_body {y : MethodName} {bytes : ByteArray} {maxL : Nat} {ret : Option FieldType} {ws : List Jvm.Cond} {rm : Room} {as' : Array Value} {h0 : Heap} (hpl : plainFor y = true)
    (body : ∀ (p : Program) (e : Env) (s : State) (m : MethodId) (below : List Frame) (meth : Method) (c : Code) (s₁ : State), p.tables.exec = Jvm.exec → c.code = bytes → c.maxLocals = maxL → s.vm.findClass y.cls = some m.cls → meth.name = y.name → meth.sig.returnType = ret → meth.locks = false → Z.Warmed39 s.vm → Stand p l e rm s m as' below meth c s₁ [] 0 0 → s₁.heap = h0 → own_Fin p.tables e below s rm Q s₁ (entryFrame m as' maxL)) :
    MetFree l y (head1 (Jvm.Cond.code y bytes maxL ret :: ws) rm) (fun a U => a = as' ∧ Z.Warmed39 U.vm ∧ U.heap = h0) (fun _ _ _ _ _ => True) (fun _ U o U' => ∃ v L, o = .returned v ∧ Q v U'.heap L ∧ FrameEnd U o U' L rm.cells rm.slots) := by
  refine MetFree.of_bodySF hpl hisR ?_
  intro p e s m args below meth c s₁ Bd hml0 hP hK
  obtain ⟨rfl, hZ, hh⟩ := hP
  exact body p e s m below meth c s₁ Bd.exec Bd.bytes hml0 (findClass_of_methodNamed Bd.named) (name_of_methodNamed Bd.named Bd.method).1 Bd.returns Bd.notSynchronized hZ (Stand.of_body Bd) (by rw [← hh, Bd.state]; rfl)
theorem own_callS {own : String} {index : Nat} {y : MethodName} {bytes : ByteArray} {maxL W : Nat} {ret : Option FieldType} {rm : Room} {as' : Array Value} {g : JFrame} {argsL rest : List Value}
    (X : Stand p l e R s m args below meth c T locs cells slots) (hx : p.tables.exec = Jvm.exec) (hZ : Z.Warmed39 s.vm) (hown : s.vm.findClass own = some m.cls)
    (w1 : (Jvm.Cond.methodLink own index y).before a0 Z = true) (w2 : (Jvm.Cond.static y).before a0 Z = true) (w3 : (Jvm.Cond.initialized y.cls).before a0 Z = true) (w4 : (Jvm.Cond.code y bytes maxL ret).before a0 Z = true)
    (hy : y.cls ≠ "java/lang/invoke/MethodHandle" ∧ y.cls ≠ "java/lang/invoke/VarHandle") (eT : T.heap = h)
    (hM : MetFree l y (head1 [Jvm.Cond.code y bytes maxL ret] rm) (fun a U => a = as' ∧ Z.Warmed39 U.vm ∧ U.heap = h) (fun _ _ _ _ _ => True) (fun _ U o U' => ∃ v L, o = .returned v ∧ Q v U'.heap L ∧ FrameEnd U o U' L rm.cells rm.slots))
    (hf : rm.frames + 1 ≤ R.frames) (hl : W + (maxL + 11) + rm.locals ≤ R.locals) (hg : g.method = m) (hsize : g.locals.size = c.maxLocals) (hlen : ∀ sig, parseMethodDescriptor y.desc = some sig → argsL.length = sig.parameters.length)
    (hstack : g.stack = argsL.reverse ++ rest) (has : argsL.toArray = as') (hW : 2 * g.monitorRoom + (rest.map fun v => v.category).sum ≤ W) (hdg : decode c.code g.pc = .ok (.invokestatic index, 3)) (hc : cells + rm.cells ≤ R.cells) (hs : slots + rm.slots ≤ R.slots) :
    ∃ (v : Option Value) (T' : State) (L : List Loc), Stand p l e R s m args below meth c T' (locs ++ L) (cells + rm.cells) (slots + rm.slots) ∧ Q v T'.heap L ∧
      ∀ target, Steps p.tables e below (T'.setTop { g with pc := g.pc + 3, stack := v.toList ++ rest }) target → Steps p.tables e below (T.setTop g) target := by
  obtain ⟨v, _, ⟨T', L', k', n'⟩, -, X', ⟨Lc, hQ, l', y', z'⟩, st⟩ := Jvm.LawKit.callS X hx (y := y) hown (mvT hZ w1) (mvT hZ w2) (mvT hZ w3) (mvT hZ w4) hy (backOf (W := W) hM hZ w4 w3 hf hl) hg hsize hlen hstack hW hdg (fun _ _ => ⟨has, eT, hc, hs⟩)
  dsimp only [Pt.U, Pt.locs, Pt.cells, Pt.slots] at X' l' y' z' st hQ
  subst l' y' z'
  exact ⟨v, T', Lc, X', hQ, st⟩
theorem own_callN {own : String} {index : Nat} {y : MethodName} {bytes : ByteArray} {maxL W : Nat} {rm : Room} {as' : Array Value} {g : JFrame} {a : Addr} {argsL rest : List Value}
    (X : Stand p l e R s m args below meth c T locs cells slots) (hx : p.tables.exec = Jvm.exec) (hZ : Z.Warmed39 s.vm) (hy1 : y.name = "<init>") (hown : s.vm.findClass own = some m.cls)
    (w1 : (Jvm.Cond.methodLink own index y).before a0 Z = true) (w2 : (Jvm.Cond.instanceMethod y).before a0 Z = true) (w3 : (Jvm.Cond.initialized y.cls).before a0 Z = true) (w4 : (Jvm.Cond.code y bytes maxL none).before a0 Z = true)
    (hy : y.cls ≠ "java/lang/invoke/MethodHandle" ∧ y.cls ≠ "java/lang/invoke/VarHandle") (eT : T.heap = h)
    (hM : MetFree l y (head1 [Jvm.Cond.code y bytes maxL none] rm) (fun a U => a = as' ∧ Z.Warmed39 U.vm ∧ U.heap = h) (fun _ _ _ _ _ => True) (fun _ U o U' => ∃ v L, o = .returned v ∧ Q v U'.heap L ∧ FrameEnd U o U' L rm.cells rm.slots))
    (hf : rm.frames + 1 ≤ R.frames) (hl : W + (maxL + 11) + rm.locals ≤ R.locals) (hg : g.method = m) (hsize : g.locals.size = c.maxLocals) (hlen : ∀ sig, parseMethodDescriptor y.desc = some sig → argsL.length = sig.parameters.length)
    (hstack : g.stack = argsL.reverse ++ .ref a :: rest) (has : (.ref a :: argsL).toArray = as') (hW : 2 * g.monitorRoom + (rest.map fun v => v.category).sum ≤ W) (hdg : decode c.code g.pc = .ok (.invokespecial index, 3)) (hc : cells + rm.cells ≤ R.cells) (hs : slots + rm.slots ≤ R.slots) :
    ∃ (v : Option Value) (T' : State) (L : List Loc), Stand p l e R s m args below meth c T' (locs ++ L) (cells + rm.cells) (slots + rm.slots) ∧ Q v T'.heap L ∧
      ∀ target, Steps p.tables e below (T'.setTop { g with pc := g.pc + 3, stack := v.toList ++ rest }) target → Steps p.tables e below (T.setTop g) target := by
  obtain ⟨v, _, ⟨T', L', k', n'⟩, -, X', ⟨Lc, hQ, l', y', z'⟩, st⟩ := X.specialBack hx (y := y) hy1 hown (mvT hZ w1) (mvT hZ w2) (mvT hZ w4) hy (backOf (W := W) hM hZ w4 w3 hf hl) hg hsize (Steps.refl _) (a := a) hlen hstack hW hdg (fun _ _ => ⟨has, eT, hc, hs⟩)
  dsimp only [Pt.U, Pt.locs, Pt.cells, Pt.slots] at X' l' y' z' st hQ
  subst l' y' z'
  exact ⟨v, T', Lc, X', hQ, fun _ k => st.trans k⟩
theorem own_callV {own C : String} {index : Nat} {y : MethodName} {bytes : ByteArray} {maxL W : Nat} {ret : Option FieldType} {rm : Room} {as' : Array Value} {g : JFrame} {a : Addr} {argsL rest : List Value}
    (X : Stand p l e R s m args below meth c T locs cells slots) (hx : p.tables.exec = Jvm.exec) (hZ : Z.Warmed39 s.vm) (hown : s.vm.findClass own = some m.cls)
    (w1 : (Jvm.Cond.methodLink own index y).before a0 Z = true) (w2 : (Jvm.Cond.declares y).before a0 Z = true) (w3 : (Jvm.Cond.selects C y y).before a0 Z = true) (w4 : (Jvm.Cond.instanceMethod y).before a0 Z = true) (w5 : (Jvm.Cond.initialized y.cls).before a0 Z = true) (w6 : (Jvm.Cond.code y bytes maxL ret).before a0 Z = true)
    (hy : y.cls ≠ "java/lang/invoke/MethodHandle" ∧ y.cls ≠ "java/lang/invoke/VarHandle") (eT : T.heap = h) (E : Exa Z h a C)
    (hM : MetFree l y (head1 [Jvm.Cond.code y bytes maxL ret] rm) (fun a U => a = as' ∧ Z.Warmed39 U.vm ∧ U.heap = h) (fun _ _ _ _ _ => True) (fun _ U o U' => ∃ v L, o = .returned v ∧ Q v U'.heap L ∧ FrameEnd U o U' L rm.cells rm.slots))
    (hf : rm.frames + 1 ≤ R.frames) (hl : W + (maxL + 11) + rm.locals ≤ R.locals) (hg : g.method = m) (hsize : g.locals.size = c.maxLocals) (hlen : ∀ sig, parseMethodDescriptor y.desc = some sig → argsL.length = sig.parameters.length)
    (hstack : g.stack = argsL.reverse ++ .ref a :: rest) (has : (.ref a :: argsL).toArray = as') (hW : 2 * g.monitorRoom + (rest.map fun v => v.category).sum ≤ W) (hdg : decode c.code g.pc = .ok (.invokevirtual index, 3)) (hc : cells + rm.cells ≤ R.cells) (hs : slots + rm.slots ≤ R.slots) :
    ∃ (v : Option Value) (T' : State) (L : List Loc), Stand p l e R s m args below meth c T' (locs ++ L) (cells + rm.cells) (slots + rm.slots) ∧ Q v T'.heap L ∧
      ∀ target, Steps p.tables e below (T'.setTop { g with pc := g.pc + 3, stack := v.toList ++ rest }) target → Steps p.tables e below (T.setTop g) target := by
  obtain ⟨cq, kq, qa, qb, qc⟩ := isOf hZ eT E
  obtain ⟨v, _, ⟨T', L', k', n'⟩, -, X', ⟨Lc, hQ, l', y', z'⟩, st⟩ := X.virtualBack hx (y := y) (z := y) hown (mvT hZ w1) (mvT hZ w2) (notFace_of_selects (args := args) (mvT hZ w3)) (mvT hZ w3) (mvT hZ w4) hy (backOf (W := W) hM hZ w6 w5 hf hl) qa qc hg hsize (Steps.refl _) hlen hstack hW hdg (fun _ _ => ⟨has, eT, hc, hs⟩)
  dsimp only [Pt.U, Pt.locs, Pt.cells, Pt.slots] at X' l' y' z' st hQ
  subst l' y' z'
  exact ⟨v, T', Lc, X', hQ, fun _ k => st.trans k⟩
end OwnStand
theorem own_sm (q : Int32) (n : Nat) (h : q.toInt = n) (hn : n < 64) : (q &&& 0x3f).toInt64.toBitVec = BitVec.ofNat 64 n := by
  have e : q = Int32.ofNat n := by
    apply Int32.toInt_inj.mp
    rw [h, Int32.toInt_ofNat_of_lt (by omega)]
  subst e
  have : ∀ k : Fin 64, (Int32.ofNat k.1 &&& 0x3f).toInt64.toBitVec = BitVec.ofNat 64 k.1 := by decide
  exact this ⟨n, hn⟩
theorem own_lushr (x : Int64) (q : Int32) (n : Nat) (h : q.toInt = n) (hn : n < 64) : ((x.toUInt64 >>> (q &&& 0x3f).toInt64.toUInt64).toInt64).toBitVec = x.toBitVec >>> n := by
  show x.toBitVec >>> ((q &&& 0x3f).toInt64.toBitVec % 64) = _
  rw [own_sm q n h hn]
  show x.toBitVec >>> (BitVec.ofNat 64 n % 64).toNat = _
  have : ∀ k : Fin 64, (BitVec.ofNat 64 k.1 % 64).toNat = k.1 := by decide
  rw [this ⟨n, hn⟩]
theorem own_lshl (x : Int64) (q : Int32) (n : Nat) (h : q.toInt = n) (hn : n < 64) : (x <<< (q &&& 0x3f).toInt64).toBitVec = x.toBitVec <<< n := by
  rw [Int64.toBitVec_shiftLeft, own_sm q n h hn]
  have : ∀ k : Fin 64, ((BitVec.ofNat 64 k.1).smod 64).toNat = k.1 := by decide
  rw [BitVec.shiftLeft_eq', this ⟨n, hn⟩]
theorem own_mask (n i : Nat) (hn : n < 64) (hi : i < 64) : ((1#64 <<< n) - 1#64).getLsbD i = decide (i < n) := by
  have e : ((1#64 <<< n) - 1#64) = BitVec.ofNat 64 (2 ^ n - 1) := by
    apply BitVec.eq_of_toNat_eq
    have h1 : 2 ^ n < 2 ^ 64 := Nat.pow_lt_pow_right (by decide) hn
    have h2 : 0 < 2 ^ n := Nat.pow_pos (by decide)
    rw [BitVec.toNat_sub]
    simp only [BitVec.toNat_shiftLeft, BitVec.toNat_ofNat, Nat.shiftLeft_eq]
    omega
  rw [e, BitVec.getLsbD_ofNat, Nat.testBit_two_pow_sub_one]
  simp [hi]
theorem own_one (x : Int64) (q : Int32) (n : Nat) (h : q.toInt = n) (hn : n < 64) : ((x.toUInt64 >>> (q &&& 0x3f).toInt64.toUInt64).toInt64) &&& (1 : Int64) = if x.toBitVec.getLsbD n then 1 else 0 := by
  apply Int64.toBitVec_inj.mp
  rw [Int64.toBitVec_and, own_lushr x q n h hn]
  have e : (1 : Int64).toBitVec = 1#64 := rfl
  have e0 : (0 : Int64).toBitVec = 0#64 := rfl
  apply BitVec.eq_of_getLsbD_eq
  intro i hi
  rw [BitVec.getLsbD_and, BitVec.getLsbD_ushiftRight, e]
  by_cases g : i = 0
  · subst g; cases hb : x.toBitVec.getLsbD n <;> simp [hb]
  · cases hb : x.toBitVec.getLsbD n <;> simp [BitVec.getLsbD_one, g]
def own_b (x : Int64) (i : Nat) : Bool := x.toBitVec.getLsbD i
theorem own_ext {x y : Int64} (h : ∀ i, i < 64 → own_b x i = own_b y i) : x = y := by
  apply Int64.toBitVec_inj.mp
  exact BitVec.eq_of_getLsbD_eq h
theorem own_b_and (x y : Int64) (i : Nat) : own_b (x &&& y) i = (own_b x i && own_b y i) := by
  unfold own_b; rw [Int64.toBitVec_and, BitVec.getLsbD_and]
theorem own_b_or (x y : Int64) (i : Nat) : own_b (x ||| y) i = (own_b x i || own_b y i) := by
  unfold own_b; rw [Int64.toBitVec_or, BitVec.getLsbD_or]
theorem own_b_m1 (i : Nat) (hi : i < 64) : own_b (-1) i = true := by
  have e : (-1 : Int64).toBitVec = BitVec.allOnes 64 := by decide
  unfold own_b; rw [e, BitVec.getLsbD_allOnes]; simp [hi]
theorem own_b_not (x : Int64) (i : Nat) (hi : i < 64) : own_b (x ^^^ (-1)) i = !own_b x i := by
  have e : own_b (x ^^^ (-1)) i = (own_b x i != own_b (-1) i) := by unfold own_b; rw [Int64.toBitVec_xor, BitVec.getLsbD_xor]
  rw [e, own_b_m1 i hi]; cases own_b x i <;> rfl
theorem own_b_ge (x : Int64) (i : Nat) (h : 64 ≤ i) : own_b x i = false := BitVec.getLsbD_of_ge _ _ h
theorem own_b_shl (x : Int64) (q : Int32) (n i : Nat) (h : q.toInt = n) (hn : n < 64) (hi : i < 64) : own_b (x <<< (q &&& 0x3f).toInt64) i = (decide (n ≤ i) && own_b x (i - n)) := by
  unfold own_b; rw [own_lshl x q n h hn, BitVec.getLsbD_shiftLeft]
  by_cases g : i < n
  · have : ¬ n ≤ i := by omega
    simp [g, this]
  · have : n ≤ i := by omega
    simp [g, hi, this]
theorem own_b_ushr (x : Int64) (q : Int32) (n i : Nat) (h : q.toInt = n) (hn : n < 64) : own_b ((x.toUInt64 >>> (q &&& 0x3f).toInt64.toUInt64).toInt64) i = own_b x (n + i) := by
  unfold own_b; rw [own_lushr x q n h hn, BitVec.getLsbD_ushiftRight]
theorem own_b_mask (q : Int32) (n i : Nat) (h : q.toInt = n) (hn : n < 64) (hi : i < 64) : own_b (((1 : Int64) <<< (q &&& 0x3f).toInt64) - 1) i = decide (i < n) := by
  unfold own_b; rw [Int64.toBitVec_sub, own_lshl 1 q n h hn]; exact own_mask n i hn hi
/-- a field of c bits at bit A of a stream takes the low bits of 'bits' -/
def own_wr (old bits : Int64) (k A c i : Nat) : Bool := if A ≤ 64 * k + i ∧ 64 * k + i < A + c then own_b bits (64 * k + i - A) else own_b old i
theorem own_idx (j : Int32) (n : Nat) (h0 : 0 ≤ j.toInt) (h1 : j.toInt < n) : ¬ (j < 0 ∨ n ≤ j.toNatClampNeg) := by
  have e : j.toNatClampNeg = j.toInt.toNat := rfl
  intro q
  rcases q with q | q
  · rw [Int32.lt_iff_toInt_lt] at q
    have : (0 : Int32).toInt = 0 := by decide
    omega
  · omega
theorem own_clamp (j : Int32) (k : Nat) (h : j.toInt = k) : j.toNatClampNeg = k := by
  have e : j.toNatClampNeg = j.toInt.toNat := rfl
  omega
theorem own_lt32 (x y : Int32) : x < y ↔ x.toInt < y.toInt := Int32.lt_iff_toInt_lt
theorem own_eq32 (x y : Int32) : x = y ↔ x.toInt = y.toInt := Int32.toInt_inj.symm
theorem own_max (x y : Int32) : (if x < y then y else x).toInt = if x.toInt < y.toInt then y.toInt else x.toInt := by
  by_cases h : x < y
  · have g := (own_lt32 x y).mp h; simp [h, g]
  · have g : ¬ x.toInt < y.toInt := fun q => h ((own_lt32 x y).mpr q)
    simp [h, g]
theorem own_min (x y : Int32) : (if y < x then y else x).toInt = if y.toInt < x.toInt then y.toInt else x.toInt := by
  by_cases h : y < x
  · have g := (own_lt32 y x).mp h; simp [h, g]
  · have g : ¬ y.toInt < x.toInt := fun q => h ((own_lt32 y x).mpr q)
    simp [h, g]
theorem own_dec (x : Int32) (h : 0 ≤ x.toInt) : (x + (-1 : Int32)).toInt = x.toInt - 1 := by
  rw [Int32.toInt_add, show (-1 : Int32).toInt = -1 by decide]
  have := x.toInt_lt
  exact Int.bmod_eq_of_le (by omega) (by omega)

/-- the bit at place p of a stream of words -/
def own_sb (w : Nat → Int64) (p : Nat) : Bool := own_b (w (p / 64)) (p % 64)
/-- what stands at bit i of word j when the bits from A on have moved up by s -/
def own_mv (w : Nat → Int64) (A s j i : Nat) : Bool := if 64 * j + i < A + s then own_b (w j) i else own_sb w (64 * j + i - s)
theorem own_mvlow (w : Nat → Int64) (A s j i : Nat) (h : 64 * j + i < A + s) : own_mv w A s j i = own_b (w j) i := by unfold own_mv; rw [if_pos h]
theorem own_moved (w : Nat → Int64) (s j i : Nat) (hi : i < 64) (h0 : 0 < s) (hs : s < 64) (x : Bool) (hx : x = if 0 < j then own_b (w (j - 1)) (64 - s + i) else false) (hj : s ≤ 64 * j + i) : ((decide (s ≤ i) && own_b (w j) (i - s)) || x) = own_sb w (64 * j + i - s) := by
  unfold own_sb
  by_cases g : s ≤ i
  · have e1 : (64 * j + i - s) / 64 = j := by omega
    have e2 : (64 * j + i - s) % 64 = i - s := by omega
    have e3 : x = false := by
      rw [hx]
      split
      · exact own_b_ge _ _ (by omega)
      · rfl
    rw [e1, e2, e3]; simp [g]
  · have hj0 : 0 < j := by omega
    have e1 : (64 * j + i - s) / 64 = j - 1 := by omega
    have e2 : (64 * j + i - s) % 64 = 64 - s + i := by omega
    rw [e1, e2, hx, if_pos hj0]; simp [g]
theorem own_step (w : Nat → Int64) (A s j i : Nat) (hi : i < 64) (h0 : 0 < s) (hs : s < 64) (hf : (A + s) / 64 ≤ j) (x kp : Bool) (hx : x = if 0 < j then own_b (w (j - 1)) (64 - s + i) else false) (hk : kp = if j = (A + s) / 64 then decide (i < (A + s) % 64) else false) :
    ((own_b (w j) i && kp) || (((decide (s ≤ i) && own_b (w j) (i - s)) || x) && !kp)) = own_mv w A s j i := by
  by_cases g : 64 * j + i < A + s
  · have e : kp = true := by
      rw [hk, if_pos (by omega)]; simp; omega
    rw [own_mvlow w A s j i g, e]; simp
  · have e : kp = false := by
      rw [hk]
      split
      · simp; omega
      · rfl
    have m := own_moved w s j i hi h0 hs x hx (by omega)
    rw [e, m]; unfold own_mv; rw [if_neg g]; simp
def own_two (a b c d : Slot) : Prop := (a = .unset ∧ b = .unset ∧ c = .unset ∧ d = .unset) ∨ ∃ x y : Int64, a = .val (.long x) ∧ b = .second ∧ c = .val (.long y) ∧ d = .second
theorem d1_0 : decode prog_64_method_4_code 0 = .ok (.iload_n 2, 1) := by decide +kernel
theorem d1_1 : decode prog_64_method_4_code 1 = .ok (.ifCond .ne 4, 3) := by decide +kernel
theorem d1_4 : decode prog_64_method_4_code 4 = .ok (.return_, 1) := by decide +kernel
theorem d1_5 : decode prog_64_method_4_code 5 = .ok (.iload_n 1, 1) := by decide +kernel
theorem d1_6 : decode prog_64_method_4_code 6 = .ok (.iload_n 2, 1) := by decide +kernel
theorem d1_7 : decode prog_64_method_4_code 7 = .ok (.iadd, 1) := by decide +kernel
theorem d1_8 : decode prog_64_method_4_code 8 = .ok (.bipush 6, 2) := by decide +kernel
theorem d1_10 : decode prog_64_method_4_code 10 = .ok (.iushr, 1) := by decide +kernel
theorem d1_11 : decode prog_64_method_4_code 11 = .ok (.istore_n 3, 1) := by decide +kernel
theorem d1_12 : decode prog_64_method_4_code 12 = .ok (.aload_n 0, 1) := by decide +kernel
theorem d1_13 : decode prog_64_method_4_code 13 = .ok (.arraylength, 1) := by decide +kernel
theorem d1_14 : decode prog_64_method_4_code 14 = .ok (.iconst 1, 1) := by decide +kernel
theorem d1_15 : decode prog_64_method_4_code 15 = .ok (.isub, 1) := by decide +kernel
theorem d1_16 : decode prog_64_method_4_code 16 = .ok (.istore 4, 2) := by decide +kernel
theorem d1_18 : decode prog_64_method_4_code 18 = .ok (.iload 4, 2) := by decide +kernel
theorem d1_20 : decode prog_64_method_4_code 20 = .ok (.iload_n 3, 1) := by decide +kernel
theorem d1_21 : decode prog_64_method_4_code 21 = .ok (.if_icmp .lt 81, 3) := by decide +kernel
theorem d1_24 : decode prog_64_method_4_code 24 = .ok (.aload_n 0, 1) := by decide +kernel
theorem d1_25 : decode prog_64_method_4_code 25 = .ok (.iload 4, 2) := by decide +kernel
theorem d1_27 : decode prog_64_method_4_code 27 = .ok (.laload, 1) := by decide +kernel
theorem d1_28 : decode prog_64_method_4_code 28 = .ok (.iload_n 2, 1) := by decide +kernel
theorem d1_29 : decode prog_64_method_4_code 29 = .ok (.lshl, 1) := by decide +kernel
theorem d1_30 : decode prog_64_method_4_code 30 = .ok (.iload 4, 2) := by decide +kernel
theorem d1_32 : decode prog_64_method_4_code 32 = .ok (.ifCond .le 17, 3) := by decide +kernel
theorem d1_35 : decode prog_64_method_4_code 35 = .ok (.aload_n 0, 1) := by decide +kernel
theorem d1_36 : decode prog_64_method_4_code 36 = .ok (.iload 4, 2) := by decide +kernel
theorem d1_38 : decode prog_64_method_4_code 38 = .ok (.iconst 1, 1) := by decide +kernel
theorem d1_39 : decode prog_64_method_4_code 39 = .ok (.isub, 1) := by decide +kernel
theorem d1_40 : decode prog_64_method_4_code 40 = .ok (.laload, 1) := by decide +kernel
theorem d1_41 : decode prog_64_method_4_code 41 = .ok (.bipush 64, 2) := by decide +kernel
theorem d1_43 : decode prog_64_method_4_code 43 = .ok (.iload_n 2, 1) := by decide +kernel
theorem d1_44 : decode prog_64_method_4_code 44 = .ok (.isub, 1) := by decide +kernel
theorem d1_45 : decode prog_64_method_4_code 45 = .ok (.lushr, 1) := by decide +kernel
theorem d1_46 : decode prog_64_method_4_code 46 = .ok (.goto 4, 3) := by decide +kernel
theorem d1_49 : decode prog_64_method_4_code 49 = .ok (.lconst 0, 1) := by decide +kernel
theorem d1_50 : decode prog_64_method_4_code 50 = .ok (.lor, 1) := by decide +kernel
theorem d1_51 : decode prog_64_method_4_code 51 = .ok (.lstore 5, 2) := by decide +kernel
theorem d1_53 : decode prog_64_method_4_code 53 = .ok (.iload 4, 2) := by decide +kernel
theorem d1_55 : decode prog_64_method_4_code 55 = .ok (.iload_n 3, 1) := by decide +kernel
theorem d1_56 : decode prog_64_method_4_code 56 = .ok (.if_icmp .ne 16, 3) := by decide +kernel
theorem d1_59 : decode prog_64_method_4_code 59 = .ok (.lconst 1, 1) := by decide +kernel
theorem d1_60 : decode prog_64_method_4_code 60 = .ok (.iload_n 1, 1) := by decide +kernel
theorem d1_61 : decode prog_64_method_4_code 61 = .ok (.iload_n 2, 1) := by decide +kernel
theorem d1_62 : decode prog_64_method_4_code 62 = .ok (.iadd, 1) := by decide +kernel
theorem d1_63 : decode prog_64_method_4_code 63 = .ok (.bipush 63, 2) := by decide +kernel
theorem d1_65 : decode prog_64_method_4_code 65 = .ok (.iand, 1) := by decide +kernel
theorem d1_66 : decode prog_64_method_4_code 66 = .ok (.lshl, 1) := by decide +kernel
theorem d1_67 : decode prog_64_method_4_code 67 = .ok (.lconst 1, 1) := by decide +kernel
theorem d1_68 : decode prog_64_method_4_code 68 = .ok (.lsub, 1) := by decide +kernel
theorem d1_69 : decode prog_64_method_4_code 69 = .ok (.goto 4, 3) := by decide +kernel
theorem d1_72 : decode prog_64_method_4_code 72 = .ok (.lconst 0, 1) := by decide +kernel
theorem d1_73 : decode prog_64_method_4_code 73 = .ok (.lstore 7, 2) := by decide +kernel
theorem d1_75 : decode prog_64_method_4_code 75 = .ok (.aload_n 0, 1) := by decide +kernel
theorem d1_76 : decode prog_64_method_4_code 76 = .ok (.iload 4, 2) := by decide +kernel
theorem d1_78 : decode prog_64_method_4_code 78 = .ok (.aload_n 0, 1) := by decide +kernel
theorem d1_79 : decode prog_64_method_4_code 79 = .ok (.iload 4, 2) := by decide +kernel
theorem d1_81 : decode prog_64_method_4_code 81 = .ok (.laload, 1) := by decide +kernel
theorem d1_82 : decode prog_64_method_4_code 82 = .ok (.lload 7, 2) := by decide +kernel
theorem d1_84 : decode prog_64_method_4_code 84 = .ok (.land, 1) := by decide +kernel
theorem d1_85 : decode prog_64_method_4_code 85 = .ok (.lload 5, 2) := by decide +kernel
theorem d1_87 : decode prog_64_method_4_code 87 = .ok (.lload 7, 2) := by decide +kernel
theorem d1_89 : decode prog_64_method_4_code 89 = .ok (.ldc2_w 7, 3) := by decide +kernel
theorem d1_92 : decode prog_64_method_4_code 92 = .ok (.lxor, 1) := by decide +kernel
theorem d1_93 : decode prog_64_method_4_code 93 = .ok (.land, 1) := by decide +kernel
theorem d1_94 : decode prog_64_method_4_code 94 = .ok (.lor, 1) := by decide +kernel
theorem d1_95 : decode prog_64_method_4_code 95 = .ok (.lastore, 1) := by decide +kernel
theorem d1_96 : decode prog_64_method_4_code 96 = .ok (.iinc 4 (-1), 3) := by decide +kernel
theorem d1_99 : decode prog_64_method_4_code 99 = .ok (.goto (-81), 3) := by decide +kernel
theorem d1_102 : decode prog_64_method_4_code 102 = .ok (.return_, 1) := by decide +kernel
theorem pn_1 : plainFor (⟨"com/example/censo/censo/compact/BitFields", "moveUp", "([JII)V"⟩ : MethodName) = true := plainFor_of_name (by first | (simp [plainName, overriddenIn]; done) | decide +kernel)
theorem ef_1 (m : MethodId) (a : Addr) (fv : Int32) (sv : Int32) : entryFrame m #[(.ref a), (.int fv), (.int sv)] 9 = mkF m 0 #[.val (.ref a), .val (.int fv), .val (.int sv), .unset, .unset, .unset, .unset, .unset, .unset] [] := by first | (simp [entryFrame, mkF, argsToLocals, Value.category]; done) | rfl
def Q1 (Z : State) (a : Addr) (fv : Int32) (sv : Int32) (w : Nat → Int64) (n : Nat) (A : Nat) (s0 : Nat) (hI : Heap) (n0 : Nat) (v : Option Value) (h : Heap) (L : List Loc) : Prop := ∃ (u : Nat → Int64), v = none ∧ Fr n0 L ∧ Keep hI h [a] ∧ own_A Z h a .long n (fun i => .long (u i)) ∧ ∀ j i, j < n → i < 64 → own_b (u j) i = own_mv w A s0 j i
set_option maxRecDepth 65536 in
set_option maxHeartbeats 40000000 in
theorem rm1 (l : Launch) (Z : State) (a0 : Array Value) (hw : ∀ d ∈ tables_1, d.before a0 Z = true) (ws : List Jvm.Cond) (a : Addr) (fv : Int32) (sv : Int32) (w : Nat → Int64) (n : Nat) (A : Nat) (s0 : Nat) (hI : Heap) (n0 : Nat) (Z0 : n0 ≤ hI.size) (Ar : own_A Z hI a .long n (fun i => .long (w i))) (ge_a : n0 ≤ a) (hn : n ≤ 3) (hA : fv.toInt = A) (hA2 : A ≤ 192) (hS : sv.toInt = s0) (hS2 : s0 < 64) :
    MetFree l (⟨"com/example/censo/censo/compact/BitFields", "moveUp", "([JII)V"⟩ : MethodName) (head1 (Jvm.Cond.code (⟨"com/example/censo/censo/compact/BitFields", "moveUp", "([JII)V"⟩ : MethodName) prog_64_method_4_code 9 none :: ws) ({ frames := 0, cells := 0, slots := 0, locals := 0 } : Room)) (fun xa U => xa = #[(.ref a), (.int fv), (.int sv)] ∧ Z.Warmed39 U.vm ∧ U.heap = hI) (fun _ _ _ _ _ => True) (fun _ U o U' => ∃ v L, o = .returned v ∧ Q1 Z a fv sv w n A s0 hI n0 v U'.heap L ∧ FrameEnd U o U' L ({ frames := 0, cells := 0, slots := 0, locals := 0 } : Room).cells ({ frames := 0, cells := 0, slots := 0, locals := 0 } : Room).slots) := by
  refine own_body pn_1 ?_
  intro p e s m below meth c s₁ hx hby hml hown hnm hret hlk hZ XI eI
  obtain ⟨F, hF⟩ : ∃ F : State → JFrame → Prop, F = own_Fin p.tables e below s ({ frames := 0, cells := 0, slots := 0, locals := 0 } : Room) (Q1 Z a fv sv w n A s0 hI n0) := ⟨_, rfl⟩
  have hst : ∀ {T T' : State} {g g' : JFrame}, (∀ t, Steps p.tables e below (T'.setTop g') t → Steps p.tables e below (T.setTop g) t) → F T' g' → F T g := by subst hF; exact own_st
  have NI := Fr.nil n0
  show own_Fin p.tables e below s ({ frames := 0, cells := 0, slots := 0, locals := 0 } : Room) (Q1 Z a fv sv w n A s0 hI n0) s₁ (entryFrame m #[(.ref a), (.int fv), (.int sv)] 9)
  rw [← hF]
  rw [ef_1]
  show F s₁ (mkF m 0 #[.val (.ref a), .val (.int fv), .val (.int sv), .unset, .unset, .unset, .unset, .unset, .unset] [])
  have k0 : (0 : Int32).toInt = 0 := by decide
  have k1 : (1 : Int32).toInt = 1 := by decide
  have k64 : (64 : Int32).toInt = 64 := by decide
  refine hst (fun t₀ k₀ => XS.iloadN XI.here hx rfl (hb hby d1_0) rfl k₀) ?_
  show F s₁ (mkF m 1 #[.val (.ref a), .val (.int fv), .val (.int sv), .unset, .unset, .unset, .unset, .unset, .unset] [(.int sv)])
  by_cases hc1 : sv = (0 : Int32)
  · -- pc 1: not taken
    refine hst (fun t₀ k₀ => XS.ifNo XI.here hx rfl (hb hby d1_1) rfl ((if0 _ _).trans (teq hc1).2) k₀) ?_
    show F s₁ (mkF m 4 #[.val (.ref a), .val (.int fv), .val (.int sv), .unset, .unset, .unset, .unset, .unset, .unset] [])
    rw [hF]
    refine own_retV XI hx hret hlk (hb hby d1_4) (by decide) (by decide) ?_
    rw [eI]
    refine ⟨w, rfl, NI, (Keep.refl hI [a]), Ar, ?_⟩
    intro j i hj hi
    have q : s0 = 0 := by rw [hc1] at hS; omega
    subst q; unfold own_mv own_sb
    split
    · rfl
    · rw [show (64 * j + i - 0) / 64 = j by omega, show (64 * j + i - 0) % 64 = i by omega]
  · -- pc 1: taken
    refine hst (fun t₀ k₀ => XS.ifYes XI.here hx rfl (pc0 := 1) (pc' := 5) rfl (hb hby d1_1) rfl ((if0 _ _).trans (feq hc1).2) (by decide) (by decide) k₀) ?_
    show F s₁ (mkF m 5 #[.val (.ref a), .val (.int fv), .val (.int sv), .unset, .unset, .unset, .unset, .unset, .unset] [])
    have q1 : 0 < s0 := by
      have : ¬ sv.toInt = (0 : Int32).toInt := fun q => hc1 (Int32.toInt_inj.mp q)
      omega
    refine hst (fun t₀ k₀ => XS.iloadN XI.here hx rfl (hb hby d1_5) rfl k₀) ?_
    show F s₁ (mkF m 6 #[.val (.ref a), .val (.int fv), .val (.int sv), .unset, .unset, .unset, .unset, .unset, .unset] [(.int fv)])
    refine hst (fun t₀ k₀ => XS.iloadN XI.here hx rfl (hb hby d1_6) rfl k₀) ?_
    show F s₁ (mkF m 7 #[.val (.ref a), .val (.int fv), .val (.int sv), .unset, .unset, .unset, .unset, .unset, .unset] [(.int sv), (.int fv)])
    refine hst (fun t₀ k₀ => XS.iadd XI.here hx rfl (hb hby d1_7) rfl k₀) ?_
    show F s₁ (mkF m 8 #[.val (.ref a), .val (.int fv), .val (.int sv), .unset, .unset, .unset, .unset, .unset, .unset] [(.int (fv + sv))])
    generalize hsu : (fv + sv) = su
    show F s₁ (mkF m 8 #[.val (.ref a), .val (.int fv), .val (.int sv), .unset, .unset, .unset, .unset, .unset, .unset] [(.int su)])
    have ksu : su.toInt = ((A + s0 : Nat) : Int) := by have h1 := c_iadd fv sv; have h2 := rng32 su; rw [hsu] at h1; omega
    refine hst (fun t₀ k₀ => XS.bipush XI.here hx rfl (hb hby d1_8) k₀) ?_
    show F s₁ (mkF m 10 #[.val (.ref a), .val (.int fv), .val (.int sv), .unset, .unset, .unset, .unset, .unset, .unset] [(.int (6 : Int32)), (.int su)])
    refine hst (fun t₀ k₀ => XS.iushr XI.here hx rfl (hb hby d1_10) rfl k₀) ?_
    show F s₁ (mkF m 11 #[.val (.ref a), .val (.int fv), .val (.int sv), .unset, .unset, .unset, .unset, .unset, .unset] [(.int ((su.toUInt32 >>> ((6 : Int32) &&& 31).toUInt32).toInt32))])
    generalize hfi : ((su.toUInt32 >>> ((6 : Int32) &&& 31).toUInt32).toInt32) = fi
    show F s₁ (mkF m 11 #[.val (.ref a), .val (.int fv), .val (.int sv), .unset, .unset, .unset, .unset, .unset, .unset] [(.int fi)])
    have kfi : fi.toInt = (((A + s0) / 64 : Nat) : Int) := by rw [← hfi, c_iushr su 6 6 (by decide) (by decide)]; omega
    refine hst (fun t₀ k₀ => XS.istoreN XI.here hx rfl (hb hby d1_11) rfl (l' := #[.val (.ref a), .val (.int fv), .val (.int sv), .val (.int fi), .unset, .unset, .unset, .unset, .unset]) rfl k₀) ?_
    show F s₁ (mkF m 12 #[.val (.ref a), .val (.int fv), .val (.int sv), .val (.int fi), .unset, .unset, .unset, .unset, .unset] [])
    refine hst (fun t₀ k₀ => XS.aloadN XI.here hx rfl (hb hby d1_12) rfl rfl k₀) ?_
    show F s₁ (mkF m 13 #[.val (.ref a), .val (.int fv), .val (.int sv), .val (.int fi), .unset, .unset, .unset, .unset, .unset] [(.ref a)])
    obtain ⟨nv, knv⟩ : ∃ nv : Int32, n.toInt32 = nv := ⟨_, rfl⟩
    have knv2 : nv.toInt = n := by rw [← knv]; exact Int32.toInt_ofNat_of_lt (by omega)
    refine hst (fun t₀ k₀ => own_alen XI hx hZ eI Ar (z := nv) knv (g := (mkF m 13 #[.val (.ref a), .val (.int fv), .val (.int sv), .val (.int fi), .unset, .unset, .unset, .unset, .unset] [(.ref a)])) rfl rfl (hb hby d1_13) t₀ k₀) ?_
    show F s₁ (mkF m 14 #[.val (.ref a), .val (.int fv), .val (.int sv), .val (.int fi), .unset, .unset, .unset, .unset, .unset] [(.int nv)])
    refine hst (fun t₀ k₀ => XS.iconst XI.here hx rfl (hb hby d1_14) k₀) ?_
    show F s₁ (mkF m 15 #[.val (.ref a), .val (.int fv), .val (.int sv), .val (.int fi), .unset, .unset, .unset, .unset, .unset] [(.int (1 : Int32)), (.int nv)])
    refine hst (fun t₀ k₀ => XS.isub XI.here hx rfl (hb hby d1_15) rfl k₀) ?_
    show F s₁ (mkF m 16 #[.val (.ref a), .val (.int fv), .val (.int sv), .val (.int fi), .unset, .unset, .unset, .unset, .unset] [(.int (nv - (1 : Int32)))])
    generalize hwv0 : (nv - (1 : Int32)) = wv0
    show F s₁ (mkF m 16 #[.val (.ref a), .val (.int fv), .val (.int sv), .val (.int fi), .unset, .unset, .unset, .unset, .unset] [(.int wv0)])
    have kwv : wv0.toInt = (n : Int) - 1 := by have h1 := c_isub nv 1; have h2 := rng32 wv0; rw [hwv0] at h1; omega
    refine hst (fun t₀ k₀ => XS.istore XI.here hx rfl (hb hby d1_16) rfl (l' := #[.val (.ref a), .val (.int fv), .val (.int sv), .val (.int fi), .val (.int wv0), .unset, .unset, .unset, .unset]) rfl k₀) ?_
    show F s₁ (mkF m 18 #[.val (.ref a), .val (.int fv), .val (.int sv), .val (.int fi), .val (.int wv0), .unset, .unset, .unset, .unset] [])
    have lp : ∀ (k : Nat) (u : Nat → Int64) (s5 s6 s7 s8 : Slot) (hss : own_two s5 s6 s7 s8) (Tq1 : State) (lq1 : List Loc) (Xq1 : Stand p l e ({ frames := 0, cells := 0, slots := 0, locals := 0 } : Room) s m #[(.ref a), (.int fv), (.int sv)] below meth c Tq1 lq1 0 0) (hq1 : Heap) (eq1 : Tq1.heap = hq1) (Nq1 : Fr n0 lq1) (Zq1 : n0 ≤ hq1.size) (Kq1 : Keep hI hq1 [a]) (fq1_0 : own_A Z hq1 a .long n (fun i => .long (u i))), k ≤ n → (∀ j i, j < n → i < 64 → own_b (u j) i = if k ≤ j then own_mv w A s0 j i else own_b (w j) i) → ∀ wv : Int32, wv.toInt = (k : Int) - 1 → F Tq1 (mkF m 18 #[.val (.ref a), .val (.int fv), .val (.int sv), .val (.int fi), .val (.int wv), s5, s6, s7, s8] []) := by
      intro k
      induction k using Nat.strongRecOn with
      | _ k ih =>
        intro u s5 s6 s7 s8 hss Tq1 lq1 Xq1 hq1 eq1 Nq1 Zq1 Kq1 fq1_0 hk hu wv hwv
        rcases hss with ⟨rfl, rfl, rfl, rfl⟩ | ⟨m5, m7, rfl, rfl, rfl, rfl⟩
        ·
          show F Tq1 (mkF m 18 #[.val (.ref a), .val (.int fv), .val (.int sv), .val (.int fi), .val (.int wv), .unset, .unset, .unset, .unset] [])
          refine hst (fun t₀ k₀ => XS.iload Xq1.here hx rfl (hb hby d1_18) rfl k₀) ?_
          show F Tq1 (mkF m 20 #[.val (.ref a), .val (.int fv), .val (.int sv), .val (.int fi), .val (.int wv), .unset, .unset, .unset, .unset] [(.int wv)])
          refine hst (fun t₀ k₀ => XS.iloadN Xq1.here hx rfl (hb hby d1_20) rfl k₀) ?_
          show F Tq1 (mkF m 21 #[.val (.ref a), .val (.int fv), .val (.int sv), .val (.int fi), .val (.int wv), .unset, .unset, .unset, .unset] [(.int fi), (.int wv)])
          by_cases hc21 : wv < fi
          · -- pc 21: taken
            refine hst (fun t₀ k₀ => XS.icmpYes Xq1.here hx rfl (pc0 := 21) (pc' := 102) rfl (hb hby d1_21) rfl (tlt hc21).1 (by decide) (by decide) k₀) ?_
            show F Tq1 (mkF m 102 #[.val (.ref a), .val (.int fv), .val (.int sv), .val (.int fi), .val (.int wv), .unset, .unset, .unset, .unset] [])
            have q21 : k ≤ (A + s0) / 64 := by rw [own_lt32] at hc21; omega
            rw [hF]
            refine own_retV Xq1 hx hret hlk (hb hby d1_102) (by decide) (by decide) ?_
            rw [eq1]
            refine ⟨u, rfl, Nq1, Kq1, fq1_0, ?_⟩
            intro j i hj hi
            rw [hu j i hj hi]
            by_cases g : k ≤ j
            · rw [if_pos g]
            · rw [if_neg g, own_mvlow w A s0 j i (by omega)]
          · -- pc 21: not taken
            refine hst (fun t₀ k₀ => XS.icmpNo Xq1.here hx rfl (hb hby d1_21) rfl (flt hc21).1 k₀) ?_
            show F Tq1 (mkF m 24 #[.val (.ref a), .val (.int fv), .val (.int sv), .val (.int fi), .val (.int wv), .unset, .unset, .unset, .unset] [])
            obtain ⟨k', rfl⟩ : ∃ k', k = k' + 1 := ⟨k - 1, by rw [own_lt32] at hc21; omega⟩
            have q21 : (A + s0) / 64 ≤ k' := by rw [own_lt32] at hc21; omega
            have ku : ∀ j i, j ≤ k' → i < 64 → own_b (u j) i = own_b (w j) i := fun j i hj hi => by rw [hu j i (by omega) hi, if_neg (by omega)]
            have kc : wv.toNatClampNeg = k' := own_clamp wv k' (by omega)
            refine hst (fun t₀ k₀ => XS.aloadN Xq1.here hx rfl (hb hby d1_24) rfl rfl k₀) ?_
            show F Tq1 (mkF m 25 #[.val (.ref a), .val (.int fv), .val (.int sv), .val (.int fi), .val (.int wv), .unset, .unset, .unset, .unset] [(.ref a)])
            refine hst (fun t₀ k₀ => XS.iload Xq1.here hx rfl (hb hby d1_25) rfl k₀) ?_
            show F Tq1 (mkF m 27 #[.val (.ref a), .val (.int fv), .val (.int sv), .val (.int fi), .val (.int wv), .unset, .unset, .unset, .unset] [(.int wv), (.ref a)])
            refine hst (fun t₀ k₀ => own_laload Xq1 hx hZ eq1 fq1_0 (own_idx wv n (by omega) (by omega)) (v := (.long (u k'))) (by show Value.long (u wv.toNatClampNeg) = _; rw [kc]) (g := (mkF m 27 #[.val (.ref a), .val (.int fv), .val (.int sv), .val (.int fi), .val (.int wv), .unset, .unset, .unset, .unset] [(.int wv), (.ref a)])) rfl rfl (hb hby d1_27) t₀ k₀) ?_
            show F Tq1 (mkF m 28 #[.val (.ref a), .val (.int fv), .val (.int sv), .val (.int fi), .val (.int wv), .unset, .unset, .unset, .unset] [(.long (u k'))])
            refine hst (fun t₀ k₀ => XS.iloadN Xq1.here hx rfl (hb hby d1_28) rfl k₀) ?_
            show F Tq1 (mkF m 29 #[.val (.ref a), .val (.int fv), .val (.int sv), .val (.int fi), .val (.int wv), .unset, .unset, .unset, .unset] [(.int sv), (.long (u k'))])
            refine hst (fun t₀ k₀ => XS.lshl Xq1.here hx rfl (hb hby d1_29) rfl k₀) ?_
            show F Tq1 (mkF m 30 #[.val (.ref a), .val (.int fv), .val (.int sv), .val (.int fi), .val (.int wv), .unset, .unset, .unset, .unset] [(.long ((u k') <<< (sv &&& 0x3f).toInt64))])
            refine hst (fun t₀ k₀ => XS.iload Xq1.here hx rfl (hb hby d1_30) rfl k₀) ?_
            show F Tq1 (mkF m 32 #[.val (.ref a), .val (.int fv), .val (.int sv), .val (.int fi), .val (.int wv), .unset, .unset, .unset, .unset] [(.int wv), (.long ((u k') <<< (sv &&& 0x3f).toInt64))])
            by_cases hc32 : (0 : Int32) < wv
            · -- pc 32: not taken
              refine hst (fun t₀ k₀ => XS.ifNo Xq1.here hx rfl (hb hby d1_32) rfl ((if0 _ _).trans (tlt hc32).2.2.2) k₀) ?_
              show F Tq1 (mkF m 35 #[.val (.ref a), .val (.int fv), .val (.int sv), .val (.int fi), .val (.int wv), .unset, .unset, .unset, .unset] [(.long ((u k') <<< (sv &&& 0x3f).toInt64))])
              have q32 : 0 < k' := by rw [own_lt32] at hc32; omega
              refine hst (fun t₀ k₀ => XS.aloadN Xq1.here hx rfl (hb hby d1_35) rfl rfl k₀) ?_
              show F Tq1 (mkF m 36 #[.val (.ref a), .val (.int fv), .val (.int sv), .val (.int fi), .val (.int wv), .unset, .unset, .unset, .unset] [(.ref a), (.long ((u k') <<< (sv &&& 0x3f).toInt64))])
              refine hst (fun t₀ k₀ => XS.iload Xq1.here hx rfl (hb hby d1_36) rfl k₀) ?_
              show F Tq1 (mkF m 38 #[.val (.ref a), .val (.int fv), .val (.int sv), .val (.int fi), .val (.int wv), .unset, .unset, .unset, .unset] [(.int wv), (.ref a), (.long ((u k') <<< (sv &&& 0x3f).toInt64))])
              refine hst (fun t₀ k₀ => XS.iconst Xq1.here hx rfl (hb hby d1_38) k₀) ?_
              show F Tq1 (mkF m 39 #[.val (.ref a), .val (.int fv), .val (.int sv), .val (.int fi), .val (.int wv), .unset, .unset, .unset, .unset] [(.int (1 : Int32)), (.int wv), (.ref a), (.long ((u k') <<< (sv &&& 0x3f).toInt64))])
              refine hst (fun t₀ k₀ => XS.isub Xq1.here hx rfl (hb hby d1_39) rfl k₀) ?_
              show F Tq1 (mkF m 40 #[.val (.ref a), .val (.int fv), .val (.int sv), .val (.int fi), .val (.int wv), .unset, .unset, .unset, .unset] [(.int (wv - (1 : Int32))), (.ref a), (.long ((u k') <<< (sv &&& 0x3f).toInt64))])
              generalize hwp : (wv - (1 : Int32)) = wp
              show F Tq1 (mkF m 40 #[.val (.ref a), .val (.int fv), .val (.int sv), .val (.int fi), .val (.int wv), .unset, .unset, .unset, .unset] [(.int wp), (.ref a), (.long ((u k') <<< (sv &&& 0x3f).toInt64))])
              have kwp : wp.toInt = ((k' - 1 : Nat) : Int) := by have h1 := c_isub wv 1; have h2 := rng32 wp; rw [hwp] at h1; omega
              refine hst (fun t₀ k₀ => own_laload Xq1 hx hZ eq1 fq1_0 (own_idx wp n (by omega) (by omega)) (v := (.long (u (k' - 1)))) (by show Value.long (u wp.toNatClampNeg) = _; rw [own_clamp wp _ kwp]) (g := (mkF m 40 #[.val (.ref a), .val (.int fv), .val (.int sv), .val (.int fi), .val (.int wv), .unset, .unset, .unset, .unset] [(.int wp), (.ref a), (.long ((u k') <<< (sv &&& 0x3f).toInt64))])) rfl rfl (hb hby d1_40) t₀ k₀) ?_
              show F Tq1 (mkF m 41 #[.val (.ref a), .val (.int fv), .val (.int sv), .val (.int fi), .val (.int wv), .unset, .unset, .unset, .unset] [(.long (u (k' - 1))), (.long ((u k') <<< (sv &&& 0x3f).toInt64))])
              refine hst (fun t₀ k₀ => XS.bipush Xq1.here hx rfl (hb hby d1_41) k₀) ?_
              show F Tq1 (mkF m 43 #[.val (.ref a), .val (.int fv), .val (.int sv), .val (.int fi), .val (.int wv), .unset, .unset, .unset, .unset] [(.int (64 : Int32)), (.long (u (k' - 1))), (.long ((u k') <<< (sv &&& 0x3f).toInt64))])
              refine hst (fun t₀ k₀ => XS.iloadN Xq1.here hx rfl (hb hby d1_43) rfl k₀) ?_
              show F Tq1 (mkF m 44 #[.val (.ref a), .val (.int fv), .val (.int sv), .val (.int fi), .val (.int wv), .unset, .unset, .unset, .unset] [(.int sv), (.int (64 : Int32)), (.long (u (k' - 1))), (.long ((u k') <<< (sv &&& 0x3f).toInt64))])
              refine hst (fun t₀ k₀ => XS.isub Xq1.here hx rfl (hb hby d1_44) rfl k₀) ?_
              show F Tq1 (mkF m 45 #[.val (.ref a), .val (.int fv), .val (.int sv), .val (.int fi), .val (.int wv), .unset, .unset, .unset, .unset] [(.int ((64 : Int32) - sv)), (.long (u (k' - 1))), (.long ((u k') <<< (sv &&& 0x3f).toInt64))])
              generalize hs2 : ((64 : Int32) - sv) = s2
              show F Tq1 (mkF m 45 #[.val (.ref a), .val (.int fv), .val (.int sv), .val (.int fi), .val (.int wv), .unset, .unset, .unset, .unset] [(.int s2), (.long (u (k' - 1))), (.long ((u k') <<< (sv &&& 0x3f).toInt64))])
              have ks2 : s2.toInt = ((64 - s0 : Nat) : Int) := by have h1 := c_isub 64 sv; have h2 := rng32 s2; rw [hs2] at h1; omega
              refine hst (fun t₀ k₀ => XS.lushr Xq1.here hx rfl (hb hby d1_45) rfl k₀) ?_
              show F Tq1 (mkF m 46 #[.val (.ref a), .val (.int fv), .val (.int sv), .val (.int fi), .val (.int wv), .unset, .unset, .unset, .unset] [(.long (((u (k' - 1)).toUInt64 >>> (s2 &&& 0x3f).toInt64.toUInt64).toInt64)), (.long ((u k') <<< (sv &&& 0x3f).toInt64))])
              generalize hxl : (((u (k' - 1)).toUInt64 >>> (s2 &&& 0x3f).toInt64.toUInt64).toInt64) = xl
              show F Tq1 (mkF m 46 #[.val (.ref a), .val (.int fv), .val (.int sv), .val (.int fi), .val (.int wv), .unset, .unset, .unset, .unset] [(.long xl), (.long ((u k') <<< (sv &&& 0x3f).toInt64))])
              have kx : ∀ i, i < 64 → own_b xl i = if 0 < k' then own_b (w (k' - 1)) (64 - s0 + i) else false := by
                intro i hi; rw [← hxl, own_b_ushr _ s2 _ i ks2 (by omega), if_pos q32]
                by_cases g : 64 - s0 + i < 64
                · exact ku _ _ (by omega) g
                · rw [own_b_ge _ _ (by omega), own_b_ge _ _ (by omega)]
              refine hst (fun t₀ k₀ => XS.goto Xq1.here hx rfl (pc0 := 46) (pc' := 50) rfl (hb hby d1_46) (by decide) (by decide) k₀) ?_
              show F Tq1 (mkF m 50 #[.val (.ref a), .val (.int fv), .val (.int sv), .val (.int fi), .val (.int wv), .unset, .unset, .unset, .unset] [(.long xl), (.long ((u k') <<< (sv &&& 0x3f).toInt64))])
              refine hst (fun t₀ k₀ => XS.lor Xq1.here hx rfl (hb hby d1_50) rfl k₀) ?_
              show F Tq1 (mkF m 51 #[.val (.ref a), .val (.int fv), .val (.int sv), .val (.int fi), .val (.int wv), .unset, .unset, .unset, .unset] [(.long (((u k') <<< (sv &&& 0x3f).toInt64) ||| xl))])
              generalize hmo : (((u k') <<< (sv &&& 0x3f).toInt64) ||| xl) = mo
              show F Tq1 (mkF m 51 #[.val (.ref a), .val (.int fv), .val (.int sv), .val (.int fi), .val (.int wv), .unset, .unset, .unset, .unset] [(.long mo)])
              have kmo : ∀ i, i < 64 → own_b mo i = ((decide (s0 ≤ i) && own_b (w k') (i - s0)) || own_b xl i) := by
                intro i hi; rw [← hmo, own_b_or, own_b_shl _ sv _ i hS hS2 hi, ku _ _ (Nat.le_refl _) (by omega)]
              refine hst (fun t₀ k₀ => XS.lstore Xq1.here hx rfl (hb hby d1_51) rfl (l' := #[.val (.ref a), .val (.int fv), .val (.int sv), .val (.int fi), .val (.int wv), .val (.long mo), .second, .unset, .unset]) rfl k₀) ?_
              show F Tq1 (mkF m 53 #[.val (.ref a), .val (.int fv), .val (.int sv), .val (.int fi), .val (.int wv), .val (.long mo), .second, .unset, .unset] [])
              refine hst (fun t₀ k₀ => XS.iload Xq1.here hx rfl (hb hby d1_53) rfl k₀) ?_
              show F Tq1 (mkF m 55 #[.val (.ref a), .val (.int fv), .val (.int sv), .val (.int fi), .val (.int wv), .val (.long mo), .second, .unset, .unset] [(.int wv)])
              refine hst (fun t₀ k₀ => XS.iloadN Xq1.here hx rfl (hb hby d1_55) rfl k₀) ?_
              show F Tq1 (mkF m 56 #[.val (.ref a), .val (.int fv), .val (.int sv), .val (.int fi), .val (.int wv), .val (.long mo), .second, .unset, .unset] [(.int fi), (.int wv)])
              by_cases hc56 : wv = fi
              · -- pc 56: not taken
                refine hst (fun t₀ k₀ => XS.icmpNo Xq1.here hx rfl (hb hby d1_56) rfl (teq hc56).2 k₀) ?_
                show F Tq1 (mkF m 59 #[.val (.ref a), .val (.int fv), .val (.int sv), .val (.int fi), .val (.int wv), .val (.long mo), .second, .unset, .unset] [])
                have q56 : k' = (A + s0) / 64 := by rw [own_eq32] at hc56; omega
                refine hst (fun t₀ k₀ => XS.lconst Xq1.here hx rfl (hb hby d1_59) k₀) ?_
                show F Tq1 (mkF m 60 #[.val (.ref a), .val (.int fv), .val (.int sv), .val (.int fi), .val (.int wv), .val (.long mo), .second, .unset, .unset] [(.long (1 : Int64))])
                refine hst (fun t₀ k₀ => XS.iloadN Xq1.here hx rfl (hb hby d1_60) rfl k₀) ?_
                show F Tq1 (mkF m 61 #[.val (.ref a), .val (.int fv), .val (.int sv), .val (.int fi), .val (.int wv), .val (.long mo), .second, .unset, .unset] [(.int fv), (.long (1 : Int64))])
                refine hst (fun t₀ k₀ => XS.iloadN Xq1.here hx rfl (hb hby d1_61) rfl k₀) ?_
                show F Tq1 (mkF m 62 #[.val (.ref a), .val (.int fv), .val (.int sv), .val (.int fi), .val (.int wv), .val (.long mo), .second, .unset, .unset] [(.int sv), (.int fv), (.long (1 : Int64))])
                refine hst (fun t₀ k₀ => XS.iadd Xq1.here hx rfl (hb hby d1_62) rfl k₀) ?_
                show F Tq1 (mkF m 63 #[.val (.ref a), .val (.int fv), .val (.int sv), .val (.int fi), .val (.int wv), .val (.long mo), .second, .unset, .unset] [(.int (fv + sv)), (.long (1 : Int64))])
                generalize hsu2 : (fv + sv) = su2
                show F Tq1 (mkF m 63 #[.val (.ref a), .val (.int fv), .val (.int sv), .val (.int fi), .val (.int wv), .val (.long mo), .second, .unset, .unset] [(.int su2), (.long (1 : Int64))])
                have ksu2 : su2.toInt = ((A + s0 : Nat) : Int) := by rw [← hsu2]; exact hsu ▸ ksu
                refine hst (fun t₀ k₀ => XS.bipush Xq1.here hx rfl (hb hby d1_63) k₀) ?_
                show F Tq1 (mkF m 65 #[.val (.ref a), .val (.int fv), .val (.int sv), .val (.int fi), .val (.int wv), .val (.long mo), .second, .unset, .unset] [(.int (63 : Int32)), (.int su2), (.long (1 : Int64))])
                refine hst (fun t₀ k₀ => XS.iand Xq1.here hx rfl (hb hby d1_65) rfl k₀) ?_
                show F Tq1 (mkF m 66 #[.val (.ref a), .val (.int fv), .val (.int sv), .val (.int fi), .val (.int wv), .val (.long mo), .second, .unset, .unset] [(.int (su2 &&& (63 : Int32))), (.long (1 : Int64))])
                generalize hsm : (su2 &&& (63 : Int32)) = sm
                show F Tq1 (mkF m 66 #[.val (.ref a), .val (.int fv), .val (.int sv), .val (.int fi), .val (.int wv), .val (.long mo), .second, .unset, .unset] [(.int sm), (.long (1 : Int64))])
                have ksm : sm.toInt = (((A + s0) % 64 : Nat) : Int) := by rw [← hsm, c_mask su2 63 6 (by decide) (by decide)]; omega
                refine hst (fun t₀ k₀ => XS.lshl Xq1.here hx rfl (hb hby d1_66) rfl k₀) ?_
                show F Tq1 (mkF m 67 #[.val (.ref a), .val (.int fv), .val (.int sv), .val (.int fi), .val (.int wv), .val (.long mo), .second, .unset, .unset] [(.long ((1 : Int64) <<< (sm &&& 0x3f).toInt64))])
                refine hst (fun t₀ k₀ => XS.lconst Xq1.here hx rfl (hb hby d1_67) k₀) ?_
                show F Tq1 (mkF m 68 #[.val (.ref a), .val (.int fv), .val (.int sv), .val (.int fi), .val (.int wv), .val (.long mo), .second, .unset, .unset] [(.long (1 : Int64)), (.long ((1 : Int64) <<< (sm &&& 0x3f).toInt64))])
                refine hst (fun t₀ k₀ => XS.lsub Xq1.here hx rfl (hb hby d1_68) rfl k₀) ?_
                show F Tq1 (mkF m 69 #[.val (.ref a), .val (.int fv), .val (.int sv), .val (.int fi), .val (.int wv), .val (.long mo), .second, .unset, .unset] [(.long (((1 : Int64) <<< (sm &&& 0x3f).toInt64) - (1 : Int64)))])
                generalize hkp : (((1 : Int64) <<< (sm &&& 0x3f).toInt64) - (1 : Int64)) = kp
                show F Tq1 (mkF m 69 #[.val (.ref a), .val (.int fv), .val (.int sv), .val (.int fi), .val (.int wv), .val (.long mo), .second, .unset, .unset] [(.long kp)])
                have kkp : ∀ i, i < 64 → own_b kp i = if k' = (A + s0) / 64 then decide (i < (A + s0) % 64) else false := by
                  intro i hi; rw [← hkp, if_pos q56]; exact own_b_mask sm _ i ksm (by omega) hi
                refine hst (fun t₀ k₀ => XS.goto Xq1.here hx rfl (pc0 := 69) (pc' := 73) rfl (hb hby d1_69) (by decide) (by decide) k₀) ?_
                show F Tq1 (mkF m 73 #[.val (.ref a), .val (.int fv), .val (.int sv), .val (.int fi), .val (.int wv), .val (.long mo), .second, .unset, .unset] [(.long kp)])
                refine hst (fun t₀ k₀ => XS.lstore Xq1.here hx rfl (hb hby d1_73) rfl (l' := #[.val (.ref a), .val (.int fv), .val (.int sv), .val (.int fi), .val (.int wv), .val (.long mo), .second, .val (.long kp), .second]) rfl k₀) ?_
                show F Tq1 (mkF m 75 #[.val (.ref a), .val (.int fv), .val (.int sv), .val (.int fi), .val (.int wv), .val (.long mo), .second, .val (.long kp), .second] [])
                refine hst (fun t₀ k₀ => XS.aloadN Xq1.here hx rfl (hb hby d1_75) rfl rfl k₀) ?_
                show F Tq1 (mkF m 76 #[.val (.ref a), .val (.int fv), .val (.int sv), .val (.int fi), .val (.int wv), .val (.long mo), .second, .val (.long kp), .second] [(.ref a)])
                refine hst (fun t₀ k₀ => XS.iload Xq1.here hx rfl (hb hby d1_76) rfl k₀) ?_
                show F Tq1 (mkF m 78 #[.val (.ref a), .val (.int fv), .val (.int sv), .val (.int fi), .val (.int wv), .val (.long mo), .second, .val (.long kp), .second] [(.int wv), (.ref a)])
                refine hst (fun t₀ k₀ => XS.aloadN Xq1.here hx rfl (hb hby d1_78) rfl rfl k₀) ?_
                show F Tq1 (mkF m 79 #[.val (.ref a), .val (.int fv), .val (.int sv), .val (.int fi), .val (.int wv), .val (.long mo), .second, .val (.long kp), .second] [(.ref a), (.int wv), (.ref a)])
                refine hst (fun t₀ k₀ => XS.iload Xq1.here hx rfl (hb hby d1_79) rfl k₀) ?_
                show F Tq1 (mkF m 81 #[.val (.ref a), .val (.int fv), .val (.int sv), .val (.int fi), .val (.int wv), .val (.long mo), .second, .val (.long kp), .second] [(.int wv), (.ref a), (.int wv), (.ref a)])
                refine hst (fun t₀ k₀ => own_laload Xq1 hx hZ eq1 fq1_0 (own_idx wv n (by omega) (by omega)) (v := (.long (u k'))) (by show Value.long (u wv.toNatClampNeg) = _; rw [kc]) (g := (mkF m 81 #[.val (.ref a), .val (.int fv), .val (.int sv), .val (.int fi), .val (.int wv), .val (.long mo), .second, .val (.long kp), .second] [(.int wv), (.ref a), (.int wv), (.ref a)])) rfl rfl (hb hby d1_81) t₀ k₀) ?_
                show F Tq1 (mkF m 82 #[.val (.ref a), .val (.int fv), .val (.int sv), .val (.int fi), .val (.int wv), .val (.long mo), .second, .val (.long kp), .second] [(.long (u k')), (.int wv), (.ref a)])
                refine hst (fun t₀ k₀ => XS.lload Xq1.here hx rfl (hb hby d1_82) rfl k₀) ?_
                show F Tq1 (mkF m 84 #[.val (.ref a), .val (.int fv), .val (.int sv), .val (.int fi), .val (.int wv), .val (.long mo), .second, .val (.long kp), .second] [(.long kp), (.long (u k')), (.int wv), (.ref a)])
                refine hst (fun t₀ k₀ => XS.land Xq1.here hx rfl (hb hby d1_84) rfl k₀) ?_
                show F Tq1 (mkF m 85 #[.val (.ref a), .val (.int fv), .val (.int sv), .val (.int fi), .val (.int wv), .val (.long mo), .second, .val (.long kp), .second] [(.long ((u k') &&& kp)), (.int wv), (.ref a)])
                refine hst (fun t₀ k₀ => XS.lload Xq1.here hx rfl (hb hby d1_85) rfl k₀) ?_
                show F Tq1 (mkF m 87 #[.val (.ref a), .val (.int fv), .val (.int sv), .val (.int fi), .val (.int wv), .val (.long mo), .second, .val (.long kp), .second] [(.long mo), (.long ((u k') &&& kp)), (.int wv), (.ref a)])
                refine hst (fun t₀ k₀ => XS.lload Xq1.here hx rfl (hb hby d1_87) rfl k₀) ?_
                show F Tq1 (mkF m 89 #[.val (.ref a), .val (.int fv), .val (.int sv), .val (.int fi), .val (.int wv), .val (.long mo), .second, .val (.long kp), .second] [(.long kp), (.long mo), (.long ((u k') &&& kp)), (.int wv), (.ref a)])
                refine hst (fun t₀ k₀ => Xq1.ldc2J hx hown (mvT hZ (hw _ (List.mem_of_getElem? (i := 7) rfl))) (g := (mkF m 89 #[.val (.ref a), .val (.int fv), .val (.int sv), .val (.int fi), .val (.int wv), .val (.long mo), .second, .val (.long kp), .second] [(.long kp), (.long mo), (.long ((u k') &&& kp)), (.int wv), (.ref a)])) rfl (hb hby d1_89) k₀) ?_
                show F Tq1 (mkF m 92 #[.val (.ref a), .val (.int fv), .val (.int sv), .val (.int fi), .val (.int wv), .val (.long mo), .second, .val (.long kp), .second] [(.long (-1 : Int64)), (.long kp), (.long mo), (.long ((u k') &&& kp)), (.int wv), (.ref a)])
                refine hst (fun t₀ k₀ => XS.lxor Xq1.here hx rfl (hb hby d1_92) rfl k₀) ?_
                show F Tq1 (mkF m 93 #[.val (.ref a), .val (.int fv), .val (.int sv), .val (.int fi), .val (.int wv), .val (.long mo), .second, .val (.long kp), .second] [(.long (kp ^^^ (-1 : Int64))), (.long mo), (.long ((u k') &&& kp)), (.int wv), (.ref a)])
                refine hst (fun t₀ k₀ => XS.land Xq1.here hx rfl (hb hby d1_93) rfl k₀) ?_
                show F Tq1 (mkF m 94 #[.val (.ref a), .val (.int fv), .val (.int sv), .val (.int fi), .val (.int wv), .val (.long mo), .second, .val (.long kp), .second] [(.long (mo &&& (kp ^^^ (-1 : Int64)))), (.long ((u k') &&& kp)), (.int wv), (.ref a)])
                refine hst (fun t₀ k₀ => XS.lor Xq1.here hx rfl (hb hby d1_94) rfl k₀) ?_
                show F Tq1 (mkF m 95 #[.val (.ref a), .val (.int fv), .val (.int sv), .val (.int fi), .val (.int wv), .val (.long mo), .second, .val (.long kp), .second] [(.long (((u k') &&& kp) ||| (mo &&& (kp ^^^ (-1 : Int64))))), (.int wv), (.ref a)])
                generalize hz : (((u k') &&& kp) ||| (mo &&& (kp ^^^ (-1 : Int64)))) = z
                show F Tq1 (mkF m 95 #[.val (.ref a), .val (.int fv), .val (.int sv), .val (.int fi), .val (.int wv), .val (.long mo), .second, .val (.long kp), .second] [(.long z), (.int wv), (.ref a)])
                have kz : ∀ i, i < 64 → own_b z i = own_mv w A s0 k' i := by
                  intro i hi; rw [← hz, own_b_or, own_b_and, own_b_and, own_b_not _ _ hi, ku _ _ (Nat.le_refl _) hi, kmo i hi]
                  exact own_step w A s0 k' i hi q1 hS2 q21 _ _ (kx i hi) (kkp i hi)
                obtain ⟨T95, h95, X95, e95, W95, st95⟩ := own_lastore Xq1 hx hZ eq1 fq1_0 (own_idx wv n (by omega) (by omega)) (g := (mkF m 95 #[.val (.ref a), .val (.int fv), .val (.int sv), .val (.int fi), .val (.int wv), .val (.long mo), .second, .val (.long kp), .second] [(.long z), (.int wv), (.ref a)])) rfl rfl (hb hby d1_95)
                have N95 := Fr.snoc X95 Nq1 ge_a
                have fq1_0_p95 : own_A Z h95 a .long n (fun i => if i = Int32.toNatClampNeg wv then (.long z) else (fun i => .long (u i)) i) := fq1_0.set W95
                have Z0_p95 : n0 ≤ h95.size := Nat.le_trans Zq1 (Keep.of_wr W95).1
                have K_p95 : Keep hI h95 [a] := Kq1.wr W95 (Or.inl (List.mem_of_getElem? (i := 0) rfl))
                refine hst st95 ?_
                have fq1_0_p95c : own_A Z h95 a .long n (fun i => .long (if i = k' then z else u i)) := own_A.congr fq1_0_p95 (fun i hi => by rw [kc]; split <;> rfl)
                show F T95 (mkF m 96 #[.val (.ref a), .val (.int fv), .val (.int sv), .val (.int fi), .val (.int wv), .val (.long mo), .second, .val (.long kp), .second] [])
                refine hst (fun t₀ k₀ => XS.iinc X95.here hx rfl (hb hby d1_96) rfl (l' := #[.val (.ref a), .val (.int fv), .val (.int sv), .val (.int fi), .val (.int (wv + (-1 : Int32))), .val (.long mo), .second, .val (.long kp), .second]) rfl k₀) ?_
                show F T95 (mkF m 99 #[.val (.ref a), .val (.int fv), .val (.int sv), .val (.int fi), .val (.int (wv + (-1 : Int32))), .val (.long mo), .second, .val (.long kp), .second] [])
                refine hst (fun t₀ k₀ => XS.goto X95.here hx rfl (pc0 := 99) (pc' := 18) rfl (hb hby d1_99) (by decide) (by decide) k₀) ?_
                show F T95 (mkF m 18 #[.val (.ref a), .val (.int fv), .val (.int sv), .val (.int fi), .val (.int (wv + (-1 : Int32))), .val (.long mo), .second, .val (.long kp), .second] [])
                refine ih k' (by omega) (fun i => if i = k' then z else u i) _ _ _ _ (Or.inr ⟨mo, kp, rfl, rfl, rfl, rfl⟩) T95 _ X95 _ e95 N95 Z0_p95 K_p95 fq1_0_p95c (by omega) ?_ _ (by rw [own_dec wv (by omega)]; omega)
                intro j i hj hi
                by_cases g : j = k'
                · subst g; rw [if_pos rfl, if_pos (Nat.le_refl _)]; exact kz i hi
                · rw [if_neg g, hu j i hj hi]; by_cases g2 : k' + 1 ≤ j
                  · rw [if_pos g2, if_pos (by omega)]
                  · rw [if_neg g2, if_neg (by omega)]
              · -- pc 56: taken
                refine hst (fun t₀ k₀ => XS.icmpYes Xq1.here hx rfl (pc0 := 56) (pc' := 72) rfl (hb hby d1_56) rfl (feq hc56).2 (by decide) (by decide) k₀) ?_
                show F Tq1 (mkF m 72 #[.val (.ref a), .val (.int fv), .val (.int sv), .val (.int fi), .val (.int wv), .val (.long mo), .second, .unset, .unset] [])
                have q56 : ¬ k' = (A + s0) / 64 := fun q => hc56 ((own_eq32 _ _).mpr (by omega))
                refine hst (fun t₀ k₀ => XS.lconst Xq1.here hx rfl (hb hby d1_72) k₀) ?_
                show F Tq1 (mkF m 73 #[.val (.ref a), .val (.int fv), .val (.int sv), .val (.int fi), .val (.int wv), .val (.long mo), .second, .unset, .unset] [(.long (0 : Int64))])
                generalize hkp : (0 : Int64) = kp
                show F Tq1 (mkF m 73 #[.val (.ref a), .val (.int fv), .val (.int sv), .val (.int fi), .val (.int wv), .val (.long mo), .second, .unset, .unset] [(.long kp)])
                have kkp : ∀ i, i < 64 → own_b kp i = if k' = (A + s0) / 64 then decide (i < (A + s0) % 64) else false := by
                  intro i hi; rw [← hkp, if_neg q56]; unfold own_b; simp
                refine hst (fun t₀ k₀ => XS.lstore Xq1.here hx rfl (hb hby d1_73) rfl (l' := #[.val (.ref a), .val (.int fv), .val (.int sv), .val (.int fi), .val (.int wv), .val (.long mo), .second, .val (.long kp), .second]) rfl k₀) ?_
                show F Tq1 (mkF m 75 #[.val (.ref a), .val (.int fv), .val (.int sv), .val (.int fi), .val (.int wv), .val (.long mo), .second, .val (.long kp), .second] [])
                refine hst (fun t₀ k₀ => XS.aloadN Xq1.here hx rfl (hb hby d1_75) rfl rfl k₀) ?_
                show F Tq1 (mkF m 76 #[.val (.ref a), .val (.int fv), .val (.int sv), .val (.int fi), .val (.int wv), .val (.long mo), .second, .val (.long kp), .second] [(.ref a)])
                refine hst (fun t₀ k₀ => XS.iload Xq1.here hx rfl (hb hby d1_76) rfl k₀) ?_
                show F Tq1 (mkF m 78 #[.val (.ref a), .val (.int fv), .val (.int sv), .val (.int fi), .val (.int wv), .val (.long mo), .second, .val (.long kp), .second] [(.int wv), (.ref a)])
                refine hst (fun t₀ k₀ => XS.aloadN Xq1.here hx rfl (hb hby d1_78) rfl rfl k₀) ?_
                show F Tq1 (mkF m 79 #[.val (.ref a), .val (.int fv), .val (.int sv), .val (.int fi), .val (.int wv), .val (.long mo), .second, .val (.long kp), .second] [(.ref a), (.int wv), (.ref a)])
                refine hst (fun t₀ k₀ => XS.iload Xq1.here hx rfl (hb hby d1_79) rfl k₀) ?_
                show F Tq1 (mkF m 81 #[.val (.ref a), .val (.int fv), .val (.int sv), .val (.int fi), .val (.int wv), .val (.long mo), .second, .val (.long kp), .second] [(.int wv), (.ref a), (.int wv), (.ref a)])
                refine hst (fun t₀ k₀ => own_laload Xq1 hx hZ eq1 fq1_0 (own_idx wv n (by omega) (by omega)) (v := (.long (u k'))) (by show Value.long (u wv.toNatClampNeg) = _; rw [kc]) (g := (mkF m 81 #[.val (.ref a), .val (.int fv), .val (.int sv), .val (.int fi), .val (.int wv), .val (.long mo), .second, .val (.long kp), .second] [(.int wv), (.ref a), (.int wv), (.ref a)])) rfl rfl (hb hby d1_81) t₀ k₀) ?_
                show F Tq1 (mkF m 82 #[.val (.ref a), .val (.int fv), .val (.int sv), .val (.int fi), .val (.int wv), .val (.long mo), .second, .val (.long kp), .second] [(.long (u k')), (.int wv), (.ref a)])
                refine hst (fun t₀ k₀ => XS.lload Xq1.here hx rfl (hb hby d1_82) rfl k₀) ?_
                show F Tq1 (mkF m 84 #[.val (.ref a), .val (.int fv), .val (.int sv), .val (.int fi), .val (.int wv), .val (.long mo), .second, .val (.long kp), .second] [(.long kp), (.long (u k')), (.int wv), (.ref a)])
                refine hst (fun t₀ k₀ => XS.land Xq1.here hx rfl (hb hby d1_84) rfl k₀) ?_
                show F Tq1 (mkF m 85 #[.val (.ref a), .val (.int fv), .val (.int sv), .val (.int fi), .val (.int wv), .val (.long mo), .second, .val (.long kp), .second] [(.long ((u k') &&& kp)), (.int wv), (.ref a)])
                refine hst (fun t₀ k₀ => XS.lload Xq1.here hx rfl (hb hby d1_85) rfl k₀) ?_
                show F Tq1 (mkF m 87 #[.val (.ref a), .val (.int fv), .val (.int sv), .val (.int fi), .val (.int wv), .val (.long mo), .second, .val (.long kp), .second] [(.long mo), (.long ((u k') &&& kp)), (.int wv), (.ref a)])
                refine hst (fun t₀ k₀ => XS.lload Xq1.here hx rfl (hb hby d1_87) rfl k₀) ?_
                show F Tq1 (mkF m 89 #[.val (.ref a), .val (.int fv), .val (.int sv), .val (.int fi), .val (.int wv), .val (.long mo), .second, .val (.long kp), .second] [(.long kp), (.long mo), (.long ((u k') &&& kp)), (.int wv), (.ref a)])
                refine hst (fun t₀ k₀ => Xq1.ldc2J hx hown (mvT hZ (hw _ (List.mem_of_getElem? (i := 7) rfl))) (g := (mkF m 89 #[.val (.ref a), .val (.int fv), .val (.int sv), .val (.int fi), .val (.int wv), .val (.long mo), .second, .val (.long kp), .second] [(.long kp), (.long mo), (.long ((u k') &&& kp)), (.int wv), (.ref a)])) rfl (hb hby d1_89) k₀) ?_
                show F Tq1 (mkF m 92 #[.val (.ref a), .val (.int fv), .val (.int sv), .val (.int fi), .val (.int wv), .val (.long mo), .second, .val (.long kp), .second] [(.long (-1 : Int64)), (.long kp), (.long mo), (.long ((u k') &&& kp)), (.int wv), (.ref a)])
                refine hst (fun t₀ k₀ => XS.lxor Xq1.here hx rfl (hb hby d1_92) rfl k₀) ?_
                show F Tq1 (mkF m 93 #[.val (.ref a), .val (.int fv), .val (.int sv), .val (.int fi), .val (.int wv), .val (.long mo), .second, .val (.long kp), .second] [(.long (kp ^^^ (-1 : Int64))), (.long mo), (.long ((u k') &&& kp)), (.int wv), (.ref a)])
                refine hst (fun t₀ k₀ => XS.land Xq1.here hx rfl (hb hby d1_93) rfl k₀) ?_
                show F Tq1 (mkF m 94 #[.val (.ref a), .val (.int fv), .val (.int sv), .val (.int fi), .val (.int wv), .val (.long mo), .second, .val (.long kp), .second] [(.long (mo &&& (kp ^^^ (-1 : Int64)))), (.long ((u k') &&& kp)), (.int wv), (.ref a)])
                refine hst (fun t₀ k₀ => XS.lor Xq1.here hx rfl (hb hby d1_94) rfl k₀) ?_
                show F Tq1 (mkF m 95 #[.val (.ref a), .val (.int fv), .val (.int sv), .val (.int fi), .val (.int wv), .val (.long mo), .second, .val (.long kp), .second] [(.long (((u k') &&& kp) ||| (mo &&& (kp ^^^ (-1 : Int64))))), (.int wv), (.ref a)])
                generalize hz : (((u k') &&& kp) ||| (mo &&& (kp ^^^ (-1 : Int64)))) = z
                show F Tq1 (mkF m 95 #[.val (.ref a), .val (.int fv), .val (.int sv), .val (.int fi), .val (.int wv), .val (.long mo), .second, .val (.long kp), .second] [(.long z), (.int wv), (.ref a)])
                have kz : ∀ i, i < 64 → own_b z i = own_mv w A s0 k' i := by
                  intro i hi; rw [← hz, own_b_or, own_b_and, own_b_and, own_b_not _ _ hi, ku _ _ (Nat.le_refl _) hi, kmo i hi]
                  exact own_step w A s0 k' i hi q1 hS2 q21 _ _ (kx i hi) (kkp i hi)
                obtain ⟨T95, h95, X95, e95, W95, st95⟩ := own_lastore Xq1 hx hZ eq1 fq1_0 (own_idx wv n (by omega) (by omega)) (g := (mkF m 95 #[.val (.ref a), .val (.int fv), .val (.int sv), .val (.int fi), .val (.int wv), .val (.long mo), .second, .val (.long kp), .second] [(.long z), (.int wv), (.ref a)])) rfl rfl (hb hby d1_95)
                have N95 := Fr.snoc X95 Nq1 ge_a
                have fq1_0_p95 : own_A Z h95 a .long n (fun i => if i = Int32.toNatClampNeg wv then (.long z) else (fun i => .long (u i)) i) := fq1_0.set W95
                have Z0_p95 : n0 ≤ h95.size := Nat.le_trans Zq1 (Keep.of_wr W95).1
                have K_p95 : Keep hI h95 [a] := Kq1.wr W95 (Or.inl (List.mem_of_getElem? (i := 0) rfl))
                refine hst st95 ?_
                have fq1_0_p95c : own_A Z h95 a .long n (fun i => .long (if i = k' then z else u i)) := own_A.congr fq1_0_p95 (fun i hi => by rw [kc]; split <;> rfl)
                show F T95 (mkF m 96 #[.val (.ref a), .val (.int fv), .val (.int sv), .val (.int fi), .val (.int wv), .val (.long mo), .second, .val (.long kp), .second] [])
                refine hst (fun t₀ k₀ => XS.iinc X95.here hx rfl (hb hby d1_96) rfl (l' := #[.val (.ref a), .val (.int fv), .val (.int sv), .val (.int fi), .val (.int (wv + (-1 : Int32))), .val (.long mo), .second, .val (.long kp), .second]) rfl k₀) ?_
                show F T95 (mkF m 99 #[.val (.ref a), .val (.int fv), .val (.int sv), .val (.int fi), .val (.int (wv + (-1 : Int32))), .val (.long mo), .second, .val (.long kp), .second] [])
                refine hst (fun t₀ k₀ => XS.goto X95.here hx rfl (pc0 := 99) (pc' := 18) rfl (hb hby d1_99) (by decide) (by decide) k₀) ?_
                show F T95 (mkF m 18 #[.val (.ref a), .val (.int fv), .val (.int sv), .val (.int fi), .val (.int (wv + (-1 : Int32))), .val (.long mo), .second, .val (.long kp), .second] [])
                refine ih k' (by omega) (fun i => if i = k' then z else u i) _ _ _ _ (Or.inr ⟨mo, kp, rfl, rfl, rfl, rfl⟩) T95 _ X95 _ e95 N95 Z0_p95 K_p95 fq1_0_p95c (by omega) ?_ _ (by rw [own_dec wv (by omega)]; omega)
                intro j i hj hi
                by_cases g : j = k'
                · subst g; rw [if_pos rfl, if_pos (Nat.le_refl _)]; exact kz i hi
                · rw [if_neg g, hu j i hj hi]; by_cases g2 : k' + 1 ≤ j
                  · rw [if_pos g2, if_pos (by omega)]
                  · rw [if_neg g2, if_neg (by omega)]
            · -- pc 32: taken
              refine hst (fun t₀ k₀ => XS.ifYes Xq1.here hx rfl (pc0 := 32) (pc' := 49) rfl (hb hby d1_32) rfl ((if0 _ _).trans (flt hc32).2.2.2) (by decide) (by decide) k₀) ?_
              show F Tq1 (mkF m 49 #[.val (.ref a), .val (.int fv), .val (.int sv), .val (.int fi), .val (.int wv), .unset, .unset, .unset, .unset] [(.long ((u k') <<< (sv &&& 0x3f).toInt64))])
              have q32 : ¬ 0 < k' := by rw [own_lt32] at hc32; omega
              refine hst (fun t₀ k₀ => XS.lconst Xq1.here hx rfl (hb hby d1_49) k₀) ?_
              show F Tq1 (mkF m 50 #[.val (.ref a), .val (.int fv), .val (.int sv), .val (.int fi), .val (.int wv), .unset, .unset, .unset, .unset] [(.long (0 : Int64)), (.long ((u k') <<< (sv &&& 0x3f).toInt64))])
              generalize hxl : (0 : Int64) = xl
              show F Tq1 (mkF m 50 #[.val (.ref a), .val (.int fv), .val (.int sv), .val (.int fi), .val (.int wv), .unset, .unset, .unset, .unset] [(.long xl), (.long ((u k') <<< (sv &&& 0x3f).toInt64))])
              have kx : ∀ i, i < 64 → own_b xl i = if 0 < k' then own_b (w (k' - 1)) (64 - s0 + i) else false := by
                intro i hi; rw [← hxl, if_neg q32]; unfold own_b; simp
              refine hst (fun t₀ k₀ => XS.lor Xq1.here hx rfl (hb hby d1_50) rfl k₀) ?_
              show F Tq1 (mkF m 51 #[.val (.ref a), .val (.int fv), .val (.int sv), .val (.int fi), .val (.int wv), .unset, .unset, .unset, .unset] [(.long (((u k') <<< (sv &&& 0x3f).toInt64) ||| xl))])
              generalize hmo : (((u k') <<< (sv &&& 0x3f).toInt64) ||| xl) = mo
              show F Tq1 (mkF m 51 #[.val (.ref a), .val (.int fv), .val (.int sv), .val (.int fi), .val (.int wv), .unset, .unset, .unset, .unset] [(.long mo)])
              have kmo : ∀ i, i < 64 → own_b mo i = ((decide (s0 ≤ i) && own_b (w k') (i - s0)) || own_b xl i) := by
                intro i hi; rw [← hmo, own_b_or, own_b_shl _ sv _ i hS hS2 hi, ku _ _ (Nat.le_refl _) (by omega)]
              refine hst (fun t₀ k₀ => XS.lstore Xq1.here hx rfl (hb hby d1_51) rfl (l' := #[.val (.ref a), .val (.int fv), .val (.int sv), .val (.int fi), .val (.int wv), .val (.long mo), .second, .unset, .unset]) rfl k₀) ?_
              show F Tq1 (mkF m 53 #[.val (.ref a), .val (.int fv), .val (.int sv), .val (.int fi), .val (.int wv), .val (.long mo), .second, .unset, .unset] [])
              refine hst (fun t₀ k₀ => XS.iload Xq1.here hx rfl (hb hby d1_53) rfl k₀) ?_
              show F Tq1 (mkF m 55 #[.val (.ref a), .val (.int fv), .val (.int sv), .val (.int fi), .val (.int wv), .val (.long mo), .second, .unset, .unset] [(.int wv)])
              refine hst (fun t₀ k₀ => XS.iloadN Xq1.here hx rfl (hb hby d1_55) rfl k₀) ?_
              show F Tq1 (mkF m 56 #[.val (.ref a), .val (.int fv), .val (.int sv), .val (.int fi), .val (.int wv), .val (.long mo), .second, .unset, .unset] [(.int fi), (.int wv)])
              by_cases hc56 : wv = fi
              · -- pc 56: not taken
                refine hst (fun t₀ k₀ => XS.icmpNo Xq1.here hx rfl (hb hby d1_56) rfl (teq hc56).2 k₀) ?_
                show F Tq1 (mkF m 59 #[.val (.ref a), .val (.int fv), .val (.int sv), .val (.int fi), .val (.int wv), .val (.long mo), .second, .unset, .unset] [])
                have q56 : k' = (A + s0) / 64 := by rw [own_eq32] at hc56; omega
                refine hst (fun t₀ k₀ => XS.lconst Xq1.here hx rfl (hb hby d1_59) k₀) ?_
                show F Tq1 (mkF m 60 #[.val (.ref a), .val (.int fv), .val (.int sv), .val (.int fi), .val (.int wv), .val (.long mo), .second, .unset, .unset] [(.long (1 : Int64))])
                refine hst (fun t₀ k₀ => XS.iloadN Xq1.here hx rfl (hb hby d1_60) rfl k₀) ?_
                show F Tq1 (mkF m 61 #[.val (.ref a), .val (.int fv), .val (.int sv), .val (.int fi), .val (.int wv), .val (.long mo), .second, .unset, .unset] [(.int fv), (.long (1 : Int64))])
                refine hst (fun t₀ k₀ => XS.iloadN Xq1.here hx rfl (hb hby d1_61) rfl k₀) ?_
                show F Tq1 (mkF m 62 #[.val (.ref a), .val (.int fv), .val (.int sv), .val (.int fi), .val (.int wv), .val (.long mo), .second, .unset, .unset] [(.int sv), (.int fv), (.long (1 : Int64))])
                refine hst (fun t₀ k₀ => XS.iadd Xq1.here hx rfl (hb hby d1_62) rfl k₀) ?_
                show F Tq1 (mkF m 63 #[.val (.ref a), .val (.int fv), .val (.int sv), .val (.int fi), .val (.int wv), .val (.long mo), .second, .unset, .unset] [(.int (fv + sv)), (.long (1 : Int64))])
                generalize hsu2 : (fv + sv) = su2
                show F Tq1 (mkF m 63 #[.val (.ref a), .val (.int fv), .val (.int sv), .val (.int fi), .val (.int wv), .val (.long mo), .second, .unset, .unset] [(.int su2), (.long (1 : Int64))])
                have ksu2 : su2.toInt = ((A + s0 : Nat) : Int) := by rw [← hsu2]; exact hsu ▸ ksu
                refine hst (fun t₀ k₀ => XS.bipush Xq1.here hx rfl (hb hby d1_63) k₀) ?_
                show F Tq1 (mkF m 65 #[.val (.ref a), .val (.int fv), .val (.int sv), .val (.int fi), .val (.int wv), .val (.long mo), .second, .unset, .unset] [(.int (63 : Int32)), (.int su2), (.long (1 : Int64))])
                refine hst (fun t₀ k₀ => XS.iand Xq1.here hx rfl (hb hby d1_65) rfl k₀) ?_
                show F Tq1 (mkF m 66 #[.val (.ref a), .val (.int fv), .val (.int sv), .val (.int fi), .val (.int wv), .val (.long mo), .second, .unset, .unset] [(.int (su2 &&& (63 : Int32))), (.long (1 : Int64))])
                generalize hsm : (su2 &&& (63 : Int32)) = sm
                show F Tq1 (mkF m 66 #[.val (.ref a), .val (.int fv), .val (.int sv), .val (.int fi), .val (.int wv), .val (.long mo), .second, .unset, .unset] [(.int sm), (.long (1 : Int64))])
                have ksm : sm.toInt = (((A + s0) % 64 : Nat) : Int) := by rw [← hsm, c_mask su2 63 6 (by decide) (by decide)]; omega
                refine hst (fun t₀ k₀ => XS.lshl Xq1.here hx rfl (hb hby d1_66) rfl k₀) ?_
                show F Tq1 (mkF m 67 #[.val (.ref a), .val (.int fv), .val (.int sv), .val (.int fi), .val (.int wv), .val (.long mo), .second, .unset, .unset] [(.long ((1 : Int64) <<< (sm &&& 0x3f).toInt64))])
                refine hst (fun t₀ k₀ => XS.lconst Xq1.here hx rfl (hb hby d1_67) k₀) ?_
                show F Tq1 (mkF m 68 #[.val (.ref a), .val (.int fv), .val (.int sv), .val (.int fi), .val (.int wv), .val (.long mo), .second, .unset, .unset] [(.long (1 : Int64)), (.long ((1 : Int64) <<< (sm &&& 0x3f).toInt64))])
                refine hst (fun t₀ k₀ => XS.lsub Xq1.here hx rfl (hb hby d1_68) rfl k₀) ?_
                show F Tq1 (mkF m 69 #[.val (.ref a), .val (.int fv), .val (.int sv), .val (.int fi), .val (.int wv), .val (.long mo), .second, .unset, .unset] [(.long (((1 : Int64) <<< (sm &&& 0x3f).toInt64) - (1 : Int64)))])
                generalize hkp : (((1 : Int64) <<< (sm &&& 0x3f).toInt64) - (1 : Int64)) = kp
                show F Tq1 (mkF m 69 #[.val (.ref a), .val (.int fv), .val (.int sv), .val (.int fi), .val (.int wv), .val (.long mo), .second, .unset, .unset] [(.long kp)])
                have kkp : ∀ i, i < 64 → own_b kp i = if k' = (A + s0) / 64 then decide (i < (A + s0) % 64) else false := by
                  intro i hi; rw [← hkp, if_pos q56]; exact own_b_mask sm _ i ksm (by omega) hi
                refine hst (fun t₀ k₀ => XS.goto Xq1.here hx rfl (pc0 := 69) (pc' := 73) rfl (hb hby d1_69) (by decide) (by decide) k₀) ?_
                show F Tq1 (mkF m 73 #[.val (.ref a), .val (.int fv), .val (.int sv), .val (.int fi), .val (.int wv), .val (.long mo), .second, .unset, .unset] [(.long kp)])
                refine hst (fun t₀ k₀ => XS.lstore Xq1.here hx rfl (hb hby d1_73) rfl (l' := #[.val (.ref a), .val (.int fv), .val (.int sv), .val (.int fi), .val (.int wv), .val (.long mo), .second, .val (.long kp), .second]) rfl k₀) ?_
                show F Tq1 (mkF m 75 #[.val (.ref a), .val (.int fv), .val (.int sv), .val (.int fi), .val (.int wv), .val (.long mo), .second, .val (.long kp), .second] [])
                refine hst (fun t₀ k₀ => XS.aloadN Xq1.here hx rfl (hb hby d1_75) rfl rfl k₀) ?_
                show F Tq1 (mkF m 76 #[.val (.ref a), .val (.int fv), .val (.int sv), .val (.int fi), .val (.int wv), .val (.long mo), .second, .val (.long kp), .second] [(.ref a)])
                refine hst (fun t₀ k₀ => XS.iload Xq1.here hx rfl (hb hby d1_76) rfl k₀) ?_
                show F Tq1 (mkF m 78 #[.val (.ref a), .val (.int fv), .val (.int sv), .val (.int fi), .val (.int wv), .val (.long mo), .second, .val (.long kp), .second] [(.int wv), (.ref a)])
                refine hst (fun t₀ k₀ => XS.aloadN Xq1.here hx rfl (hb hby d1_78) rfl rfl k₀) ?_
                show F Tq1 (mkF m 79 #[.val (.ref a), .val (.int fv), .val (.int sv), .val (.int fi), .val (.int wv), .val (.long mo), .second, .val (.long kp), .second] [(.ref a), (.int wv), (.ref a)])
                refine hst (fun t₀ k₀ => XS.iload Xq1.here hx rfl (hb hby d1_79) rfl k₀) ?_
                show F Tq1 (mkF m 81 #[.val (.ref a), .val (.int fv), .val (.int sv), .val (.int fi), .val (.int wv), .val (.long mo), .second, .val (.long kp), .second] [(.int wv), (.ref a), (.int wv), (.ref a)])
                refine hst (fun t₀ k₀ => own_laload Xq1 hx hZ eq1 fq1_0 (own_idx wv n (by omega) (by omega)) (v := (.long (u k'))) (by show Value.long (u wv.toNatClampNeg) = _; rw [kc]) (g := (mkF m 81 #[.val (.ref a), .val (.int fv), .val (.int sv), .val (.int fi), .val (.int wv), .val (.long mo), .second, .val (.long kp), .second] [(.int wv), (.ref a), (.int wv), (.ref a)])) rfl rfl (hb hby d1_81) t₀ k₀) ?_
                show F Tq1 (mkF m 82 #[.val (.ref a), .val (.int fv), .val (.int sv), .val (.int fi), .val (.int wv), .val (.long mo), .second, .val (.long kp), .second] [(.long (u k')), (.int wv), (.ref a)])
                refine hst (fun t₀ k₀ => XS.lload Xq1.here hx rfl (hb hby d1_82) rfl k₀) ?_
                show F Tq1 (mkF m 84 #[.val (.ref a), .val (.int fv), .val (.int sv), .val (.int fi), .val (.int wv), .val (.long mo), .second, .val (.long kp), .second] [(.long kp), (.long (u k')), (.int wv), (.ref a)])
                refine hst (fun t₀ k₀ => XS.land Xq1.here hx rfl (hb hby d1_84) rfl k₀) ?_
                show F Tq1 (mkF m 85 #[.val (.ref a), .val (.int fv), .val (.int sv), .val (.int fi), .val (.int wv), .val (.long mo), .second, .val (.long kp), .second] [(.long ((u k') &&& kp)), (.int wv), (.ref a)])
                refine hst (fun t₀ k₀ => XS.lload Xq1.here hx rfl (hb hby d1_85) rfl k₀) ?_
                show F Tq1 (mkF m 87 #[.val (.ref a), .val (.int fv), .val (.int sv), .val (.int fi), .val (.int wv), .val (.long mo), .second, .val (.long kp), .second] [(.long mo), (.long ((u k') &&& kp)), (.int wv), (.ref a)])
                refine hst (fun t₀ k₀ => XS.lload Xq1.here hx rfl (hb hby d1_87) rfl k₀) ?_
                show F Tq1 (mkF m 89 #[.val (.ref a), .val (.int fv), .val (.int sv), .val (.int fi), .val (.int wv), .val (.long mo), .second, .val (.long kp), .second] [(.long kp), (.long mo), (.long ((u k') &&& kp)), (.int wv), (.ref a)])
                refine hst (fun t₀ k₀ => Xq1.ldc2J hx hown (mvT hZ (hw _ (List.mem_of_getElem? (i := 7) rfl))) (g := (mkF m 89 #[.val (.ref a), .val (.int fv), .val (.int sv), .val (.int fi), .val (.int wv), .val (.long mo), .second, .val (.long kp), .second] [(.long kp), (.long mo), (.long ((u k') &&& kp)), (.int wv), (.ref a)])) rfl (hb hby d1_89) k₀) ?_
                show F Tq1 (mkF m 92 #[.val (.ref a), .val (.int fv), .val (.int sv), .val (.int fi), .val (.int wv), .val (.long mo), .second, .val (.long kp), .second] [(.long (-1 : Int64)), (.long kp), (.long mo), (.long ((u k') &&& kp)), (.int wv), (.ref a)])
                refine hst (fun t₀ k₀ => XS.lxor Xq1.here hx rfl (hb hby d1_92) rfl k₀) ?_
                show F Tq1 (mkF m 93 #[.val (.ref a), .val (.int fv), .val (.int sv), .val (.int fi), .val (.int wv), .val (.long mo), .second, .val (.long kp), .second] [(.long (kp ^^^ (-1 : Int64))), (.long mo), (.long ((u k') &&& kp)), (.int wv), (.ref a)])
                refine hst (fun t₀ k₀ => XS.land Xq1.here hx rfl (hb hby d1_93) rfl k₀) ?_
                show F Tq1 (mkF m 94 #[.val (.ref a), .val (.int fv), .val (.int sv), .val (.int fi), .val (.int wv), .val (.long mo), .second, .val (.long kp), .second] [(.long (mo &&& (kp ^^^ (-1 : Int64)))), (.long ((u k') &&& kp)), (.int wv), (.ref a)])
                refine hst (fun t₀ k₀ => XS.lor Xq1.here hx rfl (hb hby d1_94) rfl k₀) ?_
                show F Tq1 (mkF m 95 #[.val (.ref a), .val (.int fv), .val (.int sv), .val (.int fi), .val (.int wv), .val (.long mo), .second, .val (.long kp), .second] [(.long (((u k') &&& kp) ||| (mo &&& (kp ^^^ (-1 : Int64))))), (.int wv), (.ref a)])
                generalize hz : (((u k') &&& kp) ||| (mo &&& (kp ^^^ (-1 : Int64)))) = z
                show F Tq1 (mkF m 95 #[.val (.ref a), .val (.int fv), .val (.int sv), .val (.int fi), .val (.int wv), .val (.long mo), .second, .val (.long kp), .second] [(.long z), (.int wv), (.ref a)])
                have kz : ∀ i, i < 64 → own_b z i = own_mv w A s0 k' i := by
                  intro i hi; rw [← hz, own_b_or, own_b_and, own_b_and, own_b_not _ _ hi, ku _ _ (Nat.le_refl _) hi, kmo i hi]
                  exact own_step w A s0 k' i hi q1 hS2 q21 _ _ (kx i hi) (kkp i hi)
                obtain ⟨T95, h95, X95, e95, W95, st95⟩ := own_lastore Xq1 hx hZ eq1 fq1_0 (own_idx wv n (by omega) (by omega)) (g := (mkF m 95 #[.val (.ref a), .val (.int fv), .val (.int sv), .val (.int fi), .val (.int wv), .val (.long mo), .second, .val (.long kp), .second] [(.long z), (.int wv), (.ref a)])) rfl rfl (hb hby d1_95)
                have N95 := Fr.snoc X95 Nq1 ge_a
                have fq1_0_p95 : own_A Z h95 a .long n (fun i => if i = Int32.toNatClampNeg wv then (.long z) else (fun i => .long (u i)) i) := fq1_0.set W95
                have Z0_p95 : n0 ≤ h95.size := Nat.le_trans Zq1 (Keep.of_wr W95).1
                have K_p95 : Keep hI h95 [a] := Kq1.wr W95 (Or.inl (List.mem_of_getElem? (i := 0) rfl))
                refine hst st95 ?_
                have fq1_0_p95c : own_A Z h95 a .long n (fun i => .long (if i = k' then z else u i)) := own_A.congr fq1_0_p95 (fun i hi => by rw [kc]; split <;> rfl)
                show F T95 (mkF m 96 #[.val (.ref a), .val (.int fv), .val (.int sv), .val (.int fi), .val (.int wv), .val (.long mo), .second, .val (.long kp), .second] [])
                refine hst (fun t₀ k₀ => XS.iinc X95.here hx rfl (hb hby d1_96) rfl (l' := #[.val (.ref a), .val (.int fv), .val (.int sv), .val (.int fi), .val (.int (wv + (-1 : Int32))), .val (.long mo), .second, .val (.long kp), .second]) rfl k₀) ?_
                show F T95 (mkF m 99 #[.val (.ref a), .val (.int fv), .val (.int sv), .val (.int fi), .val (.int (wv + (-1 : Int32))), .val (.long mo), .second, .val (.long kp), .second] [])
                refine hst (fun t₀ k₀ => XS.goto X95.here hx rfl (pc0 := 99) (pc' := 18) rfl (hb hby d1_99) (by decide) (by decide) k₀) ?_
                show F T95 (mkF m 18 #[.val (.ref a), .val (.int fv), .val (.int sv), .val (.int fi), .val (.int (wv + (-1 : Int32))), .val (.long mo), .second, .val (.long kp), .second] [])
                refine ih k' (by omega) (fun i => if i = k' then z else u i) _ _ _ _ (Or.inr ⟨mo, kp, rfl, rfl, rfl, rfl⟩) T95 _ X95 _ e95 N95 Z0_p95 K_p95 fq1_0_p95c (by omega) ?_ _ (by rw [own_dec wv (by omega)]; omega)
                intro j i hj hi
                by_cases g : j = k'
                · subst g; rw [if_pos rfl, if_pos (Nat.le_refl _)]; exact kz i hi
                · rw [if_neg g, hu j i hj hi]; by_cases g2 : k' + 1 ≤ j
                  · rw [if_pos g2, if_pos (by omega)]
                  · rw [if_neg g2, if_neg (by omega)]
              · -- pc 56: taken
                refine hst (fun t₀ k₀ => XS.icmpYes Xq1.here hx rfl (pc0 := 56) (pc' := 72) rfl (hb hby d1_56) rfl (feq hc56).2 (by decide) (by decide) k₀) ?_
                show F Tq1 (mkF m 72 #[.val (.ref a), .val (.int fv), .val (.int sv), .val (.int fi), .val (.int wv), .val (.long mo), .second, .unset, .unset] [])
                have q56 : ¬ k' = (A + s0) / 64 := fun q => hc56 ((own_eq32 _ _).mpr (by omega))
                refine hst (fun t₀ k₀ => XS.lconst Xq1.here hx rfl (hb hby d1_72) k₀) ?_
                show F Tq1 (mkF m 73 #[.val (.ref a), .val (.int fv), .val (.int sv), .val (.int fi), .val (.int wv), .val (.long mo), .second, .unset, .unset] [(.long (0 : Int64))])
                generalize hkp : (0 : Int64) = kp
                show F Tq1 (mkF m 73 #[.val (.ref a), .val (.int fv), .val (.int sv), .val (.int fi), .val (.int wv), .val (.long mo), .second, .unset, .unset] [(.long kp)])
                have kkp : ∀ i, i < 64 → own_b kp i = if k' = (A + s0) / 64 then decide (i < (A + s0) % 64) else false := by
                  intro i hi; rw [← hkp, if_neg q56]; unfold own_b; simp
                refine hst (fun t₀ k₀ => XS.lstore Xq1.here hx rfl (hb hby d1_73) rfl (l' := #[.val (.ref a), .val (.int fv), .val (.int sv), .val (.int fi), .val (.int wv), .val (.long mo), .second, .val (.long kp), .second]) rfl k₀) ?_
                show F Tq1 (mkF m 75 #[.val (.ref a), .val (.int fv), .val (.int sv), .val (.int fi), .val (.int wv), .val (.long mo), .second, .val (.long kp), .second] [])
                refine hst (fun t₀ k₀ => XS.aloadN Xq1.here hx rfl (hb hby d1_75) rfl rfl k₀) ?_
                show F Tq1 (mkF m 76 #[.val (.ref a), .val (.int fv), .val (.int sv), .val (.int fi), .val (.int wv), .val (.long mo), .second, .val (.long kp), .second] [(.ref a)])
                refine hst (fun t₀ k₀ => XS.iload Xq1.here hx rfl (hb hby d1_76) rfl k₀) ?_
                show F Tq1 (mkF m 78 #[.val (.ref a), .val (.int fv), .val (.int sv), .val (.int fi), .val (.int wv), .val (.long mo), .second, .val (.long kp), .second] [(.int wv), (.ref a)])
                refine hst (fun t₀ k₀ => XS.aloadN Xq1.here hx rfl (hb hby d1_78) rfl rfl k₀) ?_
                show F Tq1 (mkF m 79 #[.val (.ref a), .val (.int fv), .val (.int sv), .val (.int fi), .val (.int wv), .val (.long mo), .second, .val (.long kp), .second] [(.ref a), (.int wv), (.ref a)])
                refine hst (fun t₀ k₀ => XS.iload Xq1.here hx rfl (hb hby d1_79) rfl k₀) ?_
                show F Tq1 (mkF m 81 #[.val (.ref a), .val (.int fv), .val (.int sv), .val (.int fi), .val (.int wv), .val (.long mo), .second, .val (.long kp), .second] [(.int wv), (.ref a), (.int wv), (.ref a)])
                refine hst (fun t₀ k₀ => own_laload Xq1 hx hZ eq1 fq1_0 (own_idx wv n (by omega) (by omega)) (v := (.long (u k'))) (by show Value.long (u wv.toNatClampNeg) = _; rw [kc]) (g := (mkF m 81 #[.val (.ref a), .val (.int fv), .val (.int sv), .val (.int fi), .val (.int wv), .val (.long mo), .second, .val (.long kp), .second] [(.int wv), (.ref a), (.int wv), (.ref a)])) rfl rfl (hb hby d1_81) t₀ k₀) ?_
                show F Tq1 (mkF m 82 #[.val (.ref a), .val (.int fv), .val (.int sv), .val (.int fi), .val (.int wv), .val (.long mo), .second, .val (.long kp), .second] [(.long (u k')), (.int wv), (.ref a)])
                refine hst (fun t₀ k₀ => XS.lload Xq1.here hx rfl (hb hby d1_82) rfl k₀) ?_
                show F Tq1 (mkF m 84 #[.val (.ref a), .val (.int fv), .val (.int sv), .val (.int fi), .val (.int wv), .val (.long mo), .second, .val (.long kp), .second] [(.long kp), (.long (u k')), (.int wv), (.ref a)])
                refine hst (fun t₀ k₀ => XS.land Xq1.here hx rfl (hb hby d1_84) rfl k₀) ?_
                show F Tq1 (mkF m 85 #[.val (.ref a), .val (.int fv), .val (.int sv), .val (.int fi), .val (.int wv), .val (.long mo), .second, .val (.long kp), .second] [(.long ((u k') &&& kp)), (.int wv), (.ref a)])
                refine hst (fun t₀ k₀ => XS.lload Xq1.here hx rfl (hb hby d1_85) rfl k₀) ?_
                show F Tq1 (mkF m 87 #[.val (.ref a), .val (.int fv), .val (.int sv), .val (.int fi), .val (.int wv), .val (.long mo), .second, .val (.long kp), .second] [(.long mo), (.long ((u k') &&& kp)), (.int wv), (.ref a)])
                refine hst (fun t₀ k₀ => XS.lload Xq1.here hx rfl (hb hby d1_87) rfl k₀) ?_
                show F Tq1 (mkF m 89 #[.val (.ref a), .val (.int fv), .val (.int sv), .val (.int fi), .val (.int wv), .val (.long mo), .second, .val (.long kp), .second] [(.long kp), (.long mo), (.long ((u k') &&& kp)), (.int wv), (.ref a)])
                refine hst (fun t₀ k₀ => Xq1.ldc2J hx hown (mvT hZ (hw _ (List.mem_of_getElem? (i := 7) rfl))) (g := (mkF m 89 #[.val (.ref a), .val (.int fv), .val (.int sv), .val (.int fi), .val (.int wv), .val (.long mo), .second, .val (.long kp), .second] [(.long kp), (.long mo), (.long ((u k') &&& kp)), (.int wv), (.ref a)])) rfl (hb hby d1_89) k₀) ?_
                show F Tq1 (mkF m 92 #[.val (.ref a), .val (.int fv), .val (.int sv), .val (.int fi), .val (.int wv), .val (.long mo), .second, .val (.long kp), .second] [(.long (-1 : Int64)), (.long kp), (.long mo), (.long ((u k') &&& kp)), (.int wv), (.ref a)])
                refine hst (fun t₀ k₀ => XS.lxor Xq1.here hx rfl (hb hby d1_92) rfl k₀) ?_
                show F Tq1 (mkF m 93 #[.val (.ref a), .val (.int fv), .val (.int sv), .val (.int fi), .val (.int wv), .val (.long mo), .second, .val (.long kp), .second] [(.long (kp ^^^ (-1 : Int64))), (.long mo), (.long ((u k') &&& kp)), (.int wv), (.ref a)])
                refine hst (fun t₀ k₀ => XS.land Xq1.here hx rfl (hb hby d1_93) rfl k₀) ?_
                show F Tq1 (mkF m 94 #[.val (.ref a), .val (.int fv), .val (.int sv), .val (.int fi), .val (.int wv), .val (.long mo), .second, .val (.long kp), .second] [(.long (mo &&& (kp ^^^ (-1 : Int64)))), (.long ((u k') &&& kp)), (.int wv), (.ref a)])
                refine hst (fun t₀ k₀ => XS.lor Xq1.here hx rfl (hb hby d1_94) rfl k₀) ?_
                show F Tq1 (mkF m 95 #[.val (.ref a), .val (.int fv), .val (.int sv), .val (.int fi), .val (.int wv), .val (.long mo), .second, .val (.long kp), .second] [(.long (((u k') &&& kp) ||| (mo &&& (kp ^^^ (-1 : Int64))))), (.int wv), (.ref a)])
                generalize hz : (((u k') &&& kp) ||| (mo &&& (kp ^^^ (-1 : Int64)))) = z
                show F Tq1 (mkF m 95 #[.val (.ref a), .val (.int fv), .val (.int sv), .val (.int fi), .val (.int wv), .val (.long mo), .second, .val (.long kp), .second] [(.long z), (.int wv), (.ref a)])
                have kz : ∀ i, i < 64 → own_b z i = own_mv w A s0 k' i := by
                  intro i hi; rw [← hz, own_b_or, own_b_and, own_b_and, own_b_not _ _ hi, ku _ _ (Nat.le_refl _) hi, kmo i hi]
                  exact own_step w A s0 k' i hi q1 hS2 q21 _ _ (kx i hi) (kkp i hi)
                obtain ⟨T95, h95, X95, e95, W95, st95⟩ := own_lastore Xq1 hx hZ eq1 fq1_0 (own_idx wv n (by omega) (by omega)) (g := (mkF m 95 #[.val (.ref a), .val (.int fv), .val (.int sv), .val (.int fi), .val (.int wv), .val (.long mo), .second, .val (.long kp), .second] [(.long z), (.int wv), (.ref a)])) rfl rfl (hb hby d1_95)
                have N95 := Fr.snoc X95 Nq1 ge_a
                have fq1_0_p95 : own_A Z h95 a .long n (fun i => if i = Int32.toNatClampNeg wv then (.long z) else (fun i => .long (u i)) i) := fq1_0.set W95
                have Z0_p95 : n0 ≤ h95.size := Nat.le_trans Zq1 (Keep.of_wr W95).1
                have K_p95 : Keep hI h95 [a] := Kq1.wr W95 (Or.inl (List.mem_of_getElem? (i := 0) rfl))
                refine hst st95 ?_
                have fq1_0_p95c : own_A Z h95 a .long n (fun i => .long (if i = k' then z else u i)) := own_A.congr fq1_0_p95 (fun i hi => by rw [kc]; split <;> rfl)
                show F T95 (mkF m 96 #[.val (.ref a), .val (.int fv), .val (.int sv), .val (.int fi), .val (.int wv), .val (.long mo), .second, .val (.long kp), .second] [])
                refine hst (fun t₀ k₀ => XS.iinc X95.here hx rfl (hb hby d1_96) rfl (l' := #[.val (.ref a), .val (.int fv), .val (.int sv), .val (.int fi), .val (.int (wv + (-1 : Int32))), .val (.long mo), .second, .val (.long kp), .second]) rfl k₀) ?_
                show F T95 (mkF m 99 #[.val (.ref a), .val (.int fv), .val (.int sv), .val (.int fi), .val (.int (wv + (-1 : Int32))), .val (.long mo), .second, .val (.long kp), .second] [])
                refine hst (fun t₀ k₀ => XS.goto X95.here hx rfl (pc0 := 99) (pc' := 18) rfl (hb hby d1_99) (by decide) (by decide) k₀) ?_
                show F T95 (mkF m 18 #[.val (.ref a), .val (.int fv), .val (.int sv), .val (.int fi), .val (.int (wv + (-1 : Int32))), .val (.long mo), .second, .val (.long kp), .second] [])
                refine ih k' (by omega) (fun i => if i = k' then z else u i) _ _ _ _ (Or.inr ⟨mo, kp, rfl, rfl, rfl, rfl⟩) T95 _ X95 _ e95 N95 Z0_p95 K_p95 fq1_0_p95c (by omega) ?_ _ (by rw [own_dec wv (by omega)]; omega)
                intro j i hj hi
                by_cases g : j = k'
                · subst g; rw [if_pos rfl, if_pos (Nat.le_refl _)]; exact kz i hi
                · rw [if_neg g, hu j i hj hi]; by_cases g2 : k' + 1 ≤ j
                  · rw [if_pos g2, if_pos (by omega)]
                  · rw [if_neg g2, if_neg (by omega)]
        ·
          show F Tq1 (mkF m 18 #[.val (.ref a), .val (.int fv), .val (.int sv), .val (.int fi), .val (.int wv), .val (.long m5), .second, .val (.long m7), .second] [])
          refine hst (fun t₀ k₀ => XS.iload Xq1.here hx rfl (hb hby d1_18) rfl k₀) ?_
          show F Tq1 (mkF m 20 #[.val (.ref a), .val (.int fv), .val (.int sv), .val (.int fi), .val (.int wv), .val (.long m5), .second, .val (.long m7), .second] [(.int wv)])
          refine hst (fun t₀ k₀ => XS.iloadN Xq1.here hx rfl (hb hby d1_20) rfl k₀) ?_
          show F Tq1 (mkF m 21 #[.val (.ref a), .val (.int fv), .val (.int sv), .val (.int fi), .val (.int wv), .val (.long m5), .second, .val (.long m7), .second] [(.int fi), (.int wv)])
          by_cases hc21 : wv < fi
          · -- pc 21: taken
            refine hst (fun t₀ k₀ => XS.icmpYes Xq1.here hx rfl (pc0 := 21) (pc' := 102) rfl (hb hby d1_21) rfl (tlt hc21).1 (by decide) (by decide) k₀) ?_
            show F Tq1 (mkF m 102 #[.val (.ref a), .val (.int fv), .val (.int sv), .val (.int fi), .val (.int wv), .val (.long m5), .second, .val (.long m7), .second] [])
            have q21 : k ≤ (A + s0) / 64 := by rw [own_lt32] at hc21; omega
            rw [hF]
            refine own_retV Xq1 hx hret hlk (hb hby d1_102) (by decide) (by decide) ?_
            rw [eq1]
            refine ⟨u, rfl, Nq1, Kq1, fq1_0, ?_⟩
            intro j i hj hi
            rw [hu j i hj hi]
            by_cases g : k ≤ j
            · rw [if_pos g]
            · rw [if_neg g, own_mvlow w A s0 j i (by omega)]
          · -- pc 21: not taken
            refine hst (fun t₀ k₀ => XS.icmpNo Xq1.here hx rfl (hb hby d1_21) rfl (flt hc21).1 k₀) ?_
            show F Tq1 (mkF m 24 #[.val (.ref a), .val (.int fv), .val (.int sv), .val (.int fi), .val (.int wv), .val (.long m5), .second, .val (.long m7), .second] [])
            obtain ⟨k', rfl⟩ : ∃ k', k = k' + 1 := ⟨k - 1, by rw [own_lt32] at hc21; omega⟩
            have q21 : (A + s0) / 64 ≤ k' := by rw [own_lt32] at hc21; omega
            have ku : ∀ j i, j ≤ k' → i < 64 → own_b (u j) i = own_b (w j) i := fun j i hj hi => by rw [hu j i (by omega) hi, if_neg (by omega)]
            have kc : wv.toNatClampNeg = k' := own_clamp wv k' (by omega)
            refine hst (fun t₀ k₀ => XS.aloadN Xq1.here hx rfl (hb hby d1_24) rfl rfl k₀) ?_
            show F Tq1 (mkF m 25 #[.val (.ref a), .val (.int fv), .val (.int sv), .val (.int fi), .val (.int wv), .val (.long m5), .second, .val (.long m7), .second] [(.ref a)])
            refine hst (fun t₀ k₀ => XS.iload Xq1.here hx rfl (hb hby d1_25) rfl k₀) ?_
            show F Tq1 (mkF m 27 #[.val (.ref a), .val (.int fv), .val (.int sv), .val (.int fi), .val (.int wv), .val (.long m5), .second, .val (.long m7), .second] [(.int wv), (.ref a)])
            refine hst (fun t₀ k₀ => own_laload Xq1 hx hZ eq1 fq1_0 (own_idx wv n (by omega) (by omega)) (v := (.long (u k'))) (by show Value.long (u wv.toNatClampNeg) = _; rw [kc]) (g := (mkF m 27 #[.val (.ref a), .val (.int fv), .val (.int sv), .val (.int fi), .val (.int wv), .val (.long m5), .second, .val (.long m7), .second] [(.int wv), (.ref a)])) rfl rfl (hb hby d1_27) t₀ k₀) ?_
            show F Tq1 (mkF m 28 #[.val (.ref a), .val (.int fv), .val (.int sv), .val (.int fi), .val (.int wv), .val (.long m5), .second, .val (.long m7), .second] [(.long (u k'))])
            refine hst (fun t₀ k₀ => XS.iloadN Xq1.here hx rfl (hb hby d1_28) rfl k₀) ?_
            show F Tq1 (mkF m 29 #[.val (.ref a), .val (.int fv), .val (.int sv), .val (.int fi), .val (.int wv), .val (.long m5), .second, .val (.long m7), .second] [(.int sv), (.long (u k'))])
            refine hst (fun t₀ k₀ => XS.lshl Xq1.here hx rfl (hb hby d1_29) rfl k₀) ?_
            show F Tq1 (mkF m 30 #[.val (.ref a), .val (.int fv), .val (.int sv), .val (.int fi), .val (.int wv), .val (.long m5), .second, .val (.long m7), .second] [(.long ((u k') <<< (sv &&& 0x3f).toInt64))])
            refine hst (fun t₀ k₀ => XS.iload Xq1.here hx rfl (hb hby d1_30) rfl k₀) ?_
            show F Tq1 (mkF m 32 #[.val (.ref a), .val (.int fv), .val (.int sv), .val (.int fi), .val (.int wv), .val (.long m5), .second, .val (.long m7), .second] [(.int wv), (.long ((u k') <<< (sv &&& 0x3f).toInt64))])
            by_cases hc32 : (0 : Int32) < wv
            · -- pc 32: not taken
              refine hst (fun t₀ k₀ => XS.ifNo Xq1.here hx rfl (hb hby d1_32) rfl ((if0 _ _).trans (tlt hc32).2.2.2) k₀) ?_
              show F Tq1 (mkF m 35 #[.val (.ref a), .val (.int fv), .val (.int sv), .val (.int fi), .val (.int wv), .val (.long m5), .second, .val (.long m7), .second] [(.long ((u k') <<< (sv &&& 0x3f).toInt64))])
              have q32 : 0 < k' := by rw [own_lt32] at hc32; omega
              refine hst (fun t₀ k₀ => XS.aloadN Xq1.here hx rfl (hb hby d1_35) rfl rfl k₀) ?_
              show F Tq1 (mkF m 36 #[.val (.ref a), .val (.int fv), .val (.int sv), .val (.int fi), .val (.int wv), .val (.long m5), .second, .val (.long m7), .second] [(.ref a), (.long ((u k') <<< (sv &&& 0x3f).toInt64))])
              refine hst (fun t₀ k₀ => XS.iload Xq1.here hx rfl (hb hby d1_36) rfl k₀) ?_
              show F Tq1 (mkF m 38 #[.val (.ref a), .val (.int fv), .val (.int sv), .val (.int fi), .val (.int wv), .val (.long m5), .second, .val (.long m7), .second] [(.int wv), (.ref a), (.long ((u k') <<< (sv &&& 0x3f).toInt64))])
              refine hst (fun t₀ k₀ => XS.iconst Xq1.here hx rfl (hb hby d1_38) k₀) ?_
              show F Tq1 (mkF m 39 #[.val (.ref a), .val (.int fv), .val (.int sv), .val (.int fi), .val (.int wv), .val (.long m5), .second, .val (.long m7), .second] [(.int (1 : Int32)), (.int wv), (.ref a), (.long ((u k') <<< (sv &&& 0x3f).toInt64))])
              refine hst (fun t₀ k₀ => XS.isub Xq1.here hx rfl (hb hby d1_39) rfl k₀) ?_
              show F Tq1 (mkF m 40 #[.val (.ref a), .val (.int fv), .val (.int sv), .val (.int fi), .val (.int wv), .val (.long m5), .second, .val (.long m7), .second] [(.int (wv - (1 : Int32))), (.ref a), (.long ((u k') <<< (sv &&& 0x3f).toInt64))])
              generalize hwp : (wv - (1 : Int32)) = wp
              show F Tq1 (mkF m 40 #[.val (.ref a), .val (.int fv), .val (.int sv), .val (.int fi), .val (.int wv), .val (.long m5), .second, .val (.long m7), .second] [(.int wp), (.ref a), (.long ((u k') <<< (sv &&& 0x3f).toInt64))])
              have kwp : wp.toInt = ((k' - 1 : Nat) : Int) := by have h1 := c_isub wv 1; have h2 := rng32 wp; rw [hwp] at h1; omega
              refine hst (fun t₀ k₀ => own_laload Xq1 hx hZ eq1 fq1_0 (own_idx wp n (by omega) (by omega)) (v := (.long (u (k' - 1)))) (by show Value.long (u wp.toNatClampNeg) = _; rw [own_clamp wp _ kwp]) (g := (mkF m 40 #[.val (.ref a), .val (.int fv), .val (.int sv), .val (.int fi), .val (.int wv), .val (.long m5), .second, .val (.long m7), .second] [(.int wp), (.ref a), (.long ((u k') <<< (sv &&& 0x3f).toInt64))])) rfl rfl (hb hby d1_40) t₀ k₀) ?_
              show F Tq1 (mkF m 41 #[.val (.ref a), .val (.int fv), .val (.int sv), .val (.int fi), .val (.int wv), .val (.long m5), .second, .val (.long m7), .second] [(.long (u (k' - 1))), (.long ((u k') <<< (sv &&& 0x3f).toInt64))])
              refine hst (fun t₀ k₀ => XS.bipush Xq1.here hx rfl (hb hby d1_41) k₀) ?_
              show F Tq1 (mkF m 43 #[.val (.ref a), .val (.int fv), .val (.int sv), .val (.int fi), .val (.int wv), .val (.long m5), .second, .val (.long m7), .second] [(.int (64 : Int32)), (.long (u (k' - 1))), (.long ((u k') <<< (sv &&& 0x3f).toInt64))])
              refine hst (fun t₀ k₀ => XS.iloadN Xq1.here hx rfl (hb hby d1_43) rfl k₀) ?_
              show F Tq1 (mkF m 44 #[.val (.ref a), .val (.int fv), .val (.int sv), .val (.int fi), .val (.int wv), .val (.long m5), .second, .val (.long m7), .second] [(.int sv), (.int (64 : Int32)), (.long (u (k' - 1))), (.long ((u k') <<< (sv &&& 0x3f).toInt64))])
              refine hst (fun t₀ k₀ => XS.isub Xq1.here hx rfl (hb hby d1_44) rfl k₀) ?_
              show F Tq1 (mkF m 45 #[.val (.ref a), .val (.int fv), .val (.int sv), .val (.int fi), .val (.int wv), .val (.long m5), .second, .val (.long m7), .second] [(.int ((64 : Int32) - sv)), (.long (u (k' - 1))), (.long ((u k') <<< (sv &&& 0x3f).toInt64))])
              generalize hs2 : ((64 : Int32) - sv) = s2
              show F Tq1 (mkF m 45 #[.val (.ref a), .val (.int fv), .val (.int sv), .val (.int fi), .val (.int wv), .val (.long m5), .second, .val (.long m7), .second] [(.int s2), (.long (u (k' - 1))), (.long ((u k') <<< (sv &&& 0x3f).toInt64))])
              have ks2 : s2.toInt = ((64 - s0 : Nat) : Int) := by have h1 := c_isub 64 sv; have h2 := rng32 s2; rw [hs2] at h1; omega
              refine hst (fun t₀ k₀ => XS.lushr Xq1.here hx rfl (hb hby d1_45) rfl k₀) ?_
              show F Tq1 (mkF m 46 #[.val (.ref a), .val (.int fv), .val (.int sv), .val (.int fi), .val (.int wv), .val (.long m5), .second, .val (.long m7), .second] [(.long (((u (k' - 1)).toUInt64 >>> (s2 &&& 0x3f).toInt64.toUInt64).toInt64)), (.long ((u k') <<< (sv &&& 0x3f).toInt64))])
              generalize hxl : (((u (k' - 1)).toUInt64 >>> (s2 &&& 0x3f).toInt64.toUInt64).toInt64) = xl
              show F Tq1 (mkF m 46 #[.val (.ref a), .val (.int fv), .val (.int sv), .val (.int fi), .val (.int wv), .val (.long m5), .second, .val (.long m7), .second] [(.long xl), (.long ((u k') <<< (sv &&& 0x3f).toInt64))])
              have kx : ∀ i, i < 64 → own_b xl i = if 0 < k' then own_b (w (k' - 1)) (64 - s0 + i) else false := by
                intro i hi; rw [← hxl, own_b_ushr _ s2 _ i ks2 (by omega), if_pos q32]
                by_cases g : 64 - s0 + i < 64
                · exact ku _ _ (by omega) g
                · rw [own_b_ge _ _ (by omega), own_b_ge _ _ (by omega)]
              refine hst (fun t₀ k₀ => XS.goto Xq1.here hx rfl (pc0 := 46) (pc' := 50) rfl (hb hby d1_46) (by decide) (by decide) k₀) ?_
              show F Tq1 (mkF m 50 #[.val (.ref a), .val (.int fv), .val (.int sv), .val (.int fi), .val (.int wv), .val (.long m5), .second, .val (.long m7), .second] [(.long xl), (.long ((u k') <<< (sv &&& 0x3f).toInt64))])
              refine hst (fun t₀ k₀ => XS.lor Xq1.here hx rfl (hb hby d1_50) rfl k₀) ?_
              show F Tq1 (mkF m 51 #[.val (.ref a), .val (.int fv), .val (.int sv), .val (.int fi), .val (.int wv), .val (.long m5), .second, .val (.long m7), .second] [(.long (((u k') <<< (sv &&& 0x3f).toInt64) ||| xl))])
              generalize hmo : (((u k') <<< (sv &&& 0x3f).toInt64) ||| xl) = mo
              show F Tq1 (mkF m 51 #[.val (.ref a), .val (.int fv), .val (.int sv), .val (.int fi), .val (.int wv), .val (.long m5), .second, .val (.long m7), .second] [(.long mo)])
              have kmo : ∀ i, i < 64 → own_b mo i = ((decide (s0 ≤ i) && own_b (w k') (i - s0)) || own_b xl i) := by
                intro i hi; rw [← hmo, own_b_or, own_b_shl _ sv _ i hS hS2 hi, ku _ _ (Nat.le_refl _) (by omega)]
              refine hst (fun t₀ k₀ => XS.lstore Xq1.here hx rfl (hb hby d1_51) rfl (l' := #[.val (.ref a), .val (.int fv), .val (.int sv), .val (.int fi), .val (.int wv), .val (.long mo), .second, .val (.long m7), .second]) rfl k₀) ?_
              show F Tq1 (mkF m 53 #[.val (.ref a), .val (.int fv), .val (.int sv), .val (.int fi), .val (.int wv), .val (.long mo), .second, .val (.long m7), .second] [])
              refine hst (fun t₀ k₀ => XS.iload Xq1.here hx rfl (hb hby d1_53) rfl k₀) ?_
              show F Tq1 (mkF m 55 #[.val (.ref a), .val (.int fv), .val (.int sv), .val (.int fi), .val (.int wv), .val (.long mo), .second, .val (.long m7), .second] [(.int wv)])
              refine hst (fun t₀ k₀ => XS.iloadN Xq1.here hx rfl (hb hby d1_55) rfl k₀) ?_
              show F Tq1 (mkF m 56 #[.val (.ref a), .val (.int fv), .val (.int sv), .val (.int fi), .val (.int wv), .val (.long mo), .second, .val (.long m7), .second] [(.int fi), (.int wv)])
              by_cases hc56 : wv = fi
              · -- pc 56: not taken
                refine hst (fun t₀ k₀ => XS.icmpNo Xq1.here hx rfl (hb hby d1_56) rfl (teq hc56).2 k₀) ?_
                show F Tq1 (mkF m 59 #[.val (.ref a), .val (.int fv), .val (.int sv), .val (.int fi), .val (.int wv), .val (.long mo), .second, .val (.long m7), .second] [])
                have q56 : k' = (A + s0) / 64 := by rw [own_eq32] at hc56; omega
                refine hst (fun t₀ k₀ => XS.lconst Xq1.here hx rfl (hb hby d1_59) k₀) ?_
                show F Tq1 (mkF m 60 #[.val (.ref a), .val (.int fv), .val (.int sv), .val (.int fi), .val (.int wv), .val (.long mo), .second, .val (.long m7), .second] [(.long (1 : Int64))])
                refine hst (fun t₀ k₀ => XS.iloadN Xq1.here hx rfl (hb hby d1_60) rfl k₀) ?_
                show F Tq1 (mkF m 61 #[.val (.ref a), .val (.int fv), .val (.int sv), .val (.int fi), .val (.int wv), .val (.long mo), .second, .val (.long m7), .second] [(.int fv), (.long (1 : Int64))])
                refine hst (fun t₀ k₀ => XS.iloadN Xq1.here hx rfl (hb hby d1_61) rfl k₀) ?_
                show F Tq1 (mkF m 62 #[.val (.ref a), .val (.int fv), .val (.int sv), .val (.int fi), .val (.int wv), .val (.long mo), .second, .val (.long m7), .second] [(.int sv), (.int fv), (.long (1 : Int64))])
                refine hst (fun t₀ k₀ => XS.iadd Xq1.here hx rfl (hb hby d1_62) rfl k₀) ?_
                show F Tq1 (mkF m 63 #[.val (.ref a), .val (.int fv), .val (.int sv), .val (.int fi), .val (.int wv), .val (.long mo), .second, .val (.long m7), .second] [(.int (fv + sv)), (.long (1 : Int64))])
                generalize hsu2 : (fv + sv) = su2
                show F Tq1 (mkF m 63 #[.val (.ref a), .val (.int fv), .val (.int sv), .val (.int fi), .val (.int wv), .val (.long mo), .second, .val (.long m7), .second] [(.int su2), (.long (1 : Int64))])
                have ksu2 : su2.toInt = ((A + s0 : Nat) : Int) := by rw [← hsu2]; exact hsu ▸ ksu
                refine hst (fun t₀ k₀ => XS.bipush Xq1.here hx rfl (hb hby d1_63) k₀) ?_
                show F Tq1 (mkF m 65 #[.val (.ref a), .val (.int fv), .val (.int sv), .val (.int fi), .val (.int wv), .val (.long mo), .second, .val (.long m7), .second] [(.int (63 : Int32)), (.int su2), (.long (1 : Int64))])
                refine hst (fun t₀ k₀ => XS.iand Xq1.here hx rfl (hb hby d1_65) rfl k₀) ?_
                show F Tq1 (mkF m 66 #[.val (.ref a), .val (.int fv), .val (.int sv), .val (.int fi), .val (.int wv), .val (.long mo), .second, .val (.long m7), .second] [(.int (su2 &&& (63 : Int32))), (.long (1 : Int64))])
                generalize hsm : (su2 &&& (63 : Int32)) = sm
                show F Tq1 (mkF m 66 #[.val (.ref a), .val (.int fv), .val (.int sv), .val (.int fi), .val (.int wv), .val (.long mo), .second, .val (.long m7), .second] [(.int sm), (.long (1 : Int64))])
                have ksm : sm.toInt = (((A + s0) % 64 : Nat) : Int) := by rw [← hsm, c_mask su2 63 6 (by decide) (by decide)]; omega
                refine hst (fun t₀ k₀ => XS.lshl Xq1.here hx rfl (hb hby d1_66) rfl k₀) ?_
                show F Tq1 (mkF m 67 #[.val (.ref a), .val (.int fv), .val (.int sv), .val (.int fi), .val (.int wv), .val (.long mo), .second, .val (.long m7), .second] [(.long ((1 : Int64) <<< (sm &&& 0x3f).toInt64))])
                refine hst (fun t₀ k₀ => XS.lconst Xq1.here hx rfl (hb hby d1_67) k₀) ?_
                show F Tq1 (mkF m 68 #[.val (.ref a), .val (.int fv), .val (.int sv), .val (.int fi), .val (.int wv), .val (.long mo), .second, .val (.long m7), .second] [(.long (1 : Int64)), (.long ((1 : Int64) <<< (sm &&& 0x3f).toInt64))])
                refine hst (fun t₀ k₀ => XS.lsub Xq1.here hx rfl (hb hby d1_68) rfl k₀) ?_
                show F Tq1 (mkF m 69 #[.val (.ref a), .val (.int fv), .val (.int sv), .val (.int fi), .val (.int wv), .val (.long mo), .second, .val (.long m7), .second] [(.long (((1 : Int64) <<< (sm &&& 0x3f).toInt64) - (1 : Int64)))])
                generalize hkp : (((1 : Int64) <<< (sm &&& 0x3f).toInt64) - (1 : Int64)) = kp
                show F Tq1 (mkF m 69 #[.val (.ref a), .val (.int fv), .val (.int sv), .val (.int fi), .val (.int wv), .val (.long mo), .second, .val (.long m7), .second] [(.long kp)])
                have kkp : ∀ i, i < 64 → own_b kp i = if k' = (A + s0) / 64 then decide (i < (A + s0) % 64) else false := by
                  intro i hi; rw [← hkp, if_pos q56]; exact own_b_mask sm _ i ksm (by omega) hi
                refine hst (fun t₀ k₀ => XS.goto Xq1.here hx rfl (pc0 := 69) (pc' := 73) rfl (hb hby d1_69) (by decide) (by decide) k₀) ?_
                show F Tq1 (mkF m 73 #[.val (.ref a), .val (.int fv), .val (.int sv), .val (.int fi), .val (.int wv), .val (.long mo), .second, .val (.long m7), .second] [(.long kp)])
                refine hst (fun t₀ k₀ => XS.lstore Xq1.here hx rfl (hb hby d1_73) rfl (l' := #[.val (.ref a), .val (.int fv), .val (.int sv), .val (.int fi), .val (.int wv), .val (.long mo), .second, .val (.long kp), .second]) rfl k₀) ?_
                show F Tq1 (mkF m 75 #[.val (.ref a), .val (.int fv), .val (.int sv), .val (.int fi), .val (.int wv), .val (.long mo), .second, .val (.long kp), .second] [])
                refine hst (fun t₀ k₀ => XS.aloadN Xq1.here hx rfl (hb hby d1_75) rfl rfl k₀) ?_
                show F Tq1 (mkF m 76 #[.val (.ref a), .val (.int fv), .val (.int sv), .val (.int fi), .val (.int wv), .val (.long mo), .second, .val (.long kp), .second] [(.ref a)])
                refine hst (fun t₀ k₀ => XS.iload Xq1.here hx rfl (hb hby d1_76) rfl k₀) ?_
                show F Tq1 (mkF m 78 #[.val (.ref a), .val (.int fv), .val (.int sv), .val (.int fi), .val (.int wv), .val (.long mo), .second, .val (.long kp), .second] [(.int wv), (.ref a)])
                refine hst (fun t₀ k₀ => XS.aloadN Xq1.here hx rfl (hb hby d1_78) rfl rfl k₀) ?_
                show F Tq1 (mkF m 79 #[.val (.ref a), .val (.int fv), .val (.int sv), .val (.int fi), .val (.int wv), .val (.long mo), .second, .val (.long kp), .second] [(.ref a), (.int wv), (.ref a)])
                refine hst (fun t₀ k₀ => XS.iload Xq1.here hx rfl (hb hby d1_79) rfl k₀) ?_
                show F Tq1 (mkF m 81 #[.val (.ref a), .val (.int fv), .val (.int sv), .val (.int fi), .val (.int wv), .val (.long mo), .second, .val (.long kp), .second] [(.int wv), (.ref a), (.int wv), (.ref a)])
                refine hst (fun t₀ k₀ => own_laload Xq1 hx hZ eq1 fq1_0 (own_idx wv n (by omega) (by omega)) (v := (.long (u k'))) (by show Value.long (u wv.toNatClampNeg) = _; rw [kc]) (g := (mkF m 81 #[.val (.ref a), .val (.int fv), .val (.int sv), .val (.int fi), .val (.int wv), .val (.long mo), .second, .val (.long kp), .second] [(.int wv), (.ref a), (.int wv), (.ref a)])) rfl rfl (hb hby d1_81) t₀ k₀) ?_
                show F Tq1 (mkF m 82 #[.val (.ref a), .val (.int fv), .val (.int sv), .val (.int fi), .val (.int wv), .val (.long mo), .second, .val (.long kp), .second] [(.long (u k')), (.int wv), (.ref a)])
                refine hst (fun t₀ k₀ => XS.lload Xq1.here hx rfl (hb hby d1_82) rfl k₀) ?_
                show F Tq1 (mkF m 84 #[.val (.ref a), .val (.int fv), .val (.int sv), .val (.int fi), .val (.int wv), .val (.long mo), .second, .val (.long kp), .second] [(.long kp), (.long (u k')), (.int wv), (.ref a)])
                refine hst (fun t₀ k₀ => XS.land Xq1.here hx rfl (hb hby d1_84) rfl k₀) ?_
                show F Tq1 (mkF m 85 #[.val (.ref a), .val (.int fv), .val (.int sv), .val (.int fi), .val (.int wv), .val (.long mo), .second, .val (.long kp), .second] [(.long ((u k') &&& kp)), (.int wv), (.ref a)])
                refine hst (fun t₀ k₀ => XS.lload Xq1.here hx rfl (hb hby d1_85) rfl k₀) ?_
                show F Tq1 (mkF m 87 #[.val (.ref a), .val (.int fv), .val (.int sv), .val (.int fi), .val (.int wv), .val (.long mo), .second, .val (.long kp), .second] [(.long mo), (.long ((u k') &&& kp)), (.int wv), (.ref a)])
                refine hst (fun t₀ k₀ => XS.lload Xq1.here hx rfl (hb hby d1_87) rfl k₀) ?_
                show F Tq1 (mkF m 89 #[.val (.ref a), .val (.int fv), .val (.int sv), .val (.int fi), .val (.int wv), .val (.long mo), .second, .val (.long kp), .second] [(.long kp), (.long mo), (.long ((u k') &&& kp)), (.int wv), (.ref a)])
                refine hst (fun t₀ k₀ => Xq1.ldc2J hx hown (mvT hZ (hw _ (List.mem_of_getElem? (i := 7) rfl))) (g := (mkF m 89 #[.val (.ref a), .val (.int fv), .val (.int sv), .val (.int fi), .val (.int wv), .val (.long mo), .second, .val (.long kp), .second] [(.long kp), (.long mo), (.long ((u k') &&& kp)), (.int wv), (.ref a)])) rfl (hb hby d1_89) k₀) ?_
                show F Tq1 (mkF m 92 #[.val (.ref a), .val (.int fv), .val (.int sv), .val (.int fi), .val (.int wv), .val (.long mo), .second, .val (.long kp), .second] [(.long (-1 : Int64)), (.long kp), (.long mo), (.long ((u k') &&& kp)), (.int wv), (.ref a)])
                refine hst (fun t₀ k₀ => XS.lxor Xq1.here hx rfl (hb hby d1_92) rfl k₀) ?_
                show F Tq1 (mkF m 93 #[.val (.ref a), .val (.int fv), .val (.int sv), .val (.int fi), .val (.int wv), .val (.long mo), .second, .val (.long kp), .second] [(.long (kp ^^^ (-1 : Int64))), (.long mo), (.long ((u k') &&& kp)), (.int wv), (.ref a)])
                refine hst (fun t₀ k₀ => XS.land Xq1.here hx rfl (hb hby d1_93) rfl k₀) ?_
                show F Tq1 (mkF m 94 #[.val (.ref a), .val (.int fv), .val (.int sv), .val (.int fi), .val (.int wv), .val (.long mo), .second, .val (.long kp), .second] [(.long (mo &&& (kp ^^^ (-1 : Int64)))), (.long ((u k') &&& kp)), (.int wv), (.ref a)])
                refine hst (fun t₀ k₀ => XS.lor Xq1.here hx rfl (hb hby d1_94) rfl k₀) ?_
                show F Tq1 (mkF m 95 #[.val (.ref a), .val (.int fv), .val (.int sv), .val (.int fi), .val (.int wv), .val (.long mo), .second, .val (.long kp), .second] [(.long (((u k') &&& kp) ||| (mo &&& (kp ^^^ (-1 : Int64))))), (.int wv), (.ref a)])
                generalize hz : (((u k') &&& kp) ||| (mo &&& (kp ^^^ (-1 : Int64)))) = z
                show F Tq1 (mkF m 95 #[.val (.ref a), .val (.int fv), .val (.int sv), .val (.int fi), .val (.int wv), .val (.long mo), .second, .val (.long kp), .second] [(.long z), (.int wv), (.ref a)])
                have kz : ∀ i, i < 64 → own_b z i = own_mv w A s0 k' i := by
                  intro i hi; rw [← hz, own_b_or, own_b_and, own_b_and, own_b_not _ _ hi, ku _ _ (Nat.le_refl _) hi, kmo i hi]
                  exact own_step w A s0 k' i hi q1 hS2 q21 _ _ (kx i hi) (kkp i hi)
                obtain ⟨T95, h95, X95, e95, W95, st95⟩ := own_lastore Xq1 hx hZ eq1 fq1_0 (own_idx wv n (by omega) (by omega)) (g := (mkF m 95 #[.val (.ref a), .val (.int fv), .val (.int sv), .val (.int fi), .val (.int wv), .val (.long mo), .second, .val (.long kp), .second] [(.long z), (.int wv), (.ref a)])) rfl rfl (hb hby d1_95)
                have N95 := Fr.snoc X95 Nq1 ge_a
                have fq1_0_p95 : own_A Z h95 a .long n (fun i => if i = Int32.toNatClampNeg wv then (.long z) else (fun i => .long (u i)) i) := fq1_0.set W95
                have Z0_p95 : n0 ≤ h95.size := Nat.le_trans Zq1 (Keep.of_wr W95).1
                have K_p95 : Keep hI h95 [a] := Kq1.wr W95 (Or.inl (List.mem_of_getElem? (i := 0) rfl))
                refine hst st95 ?_
                have fq1_0_p95c : own_A Z h95 a .long n (fun i => .long (if i = k' then z else u i)) := own_A.congr fq1_0_p95 (fun i hi => by rw [kc]; split <;> rfl)
                show F T95 (mkF m 96 #[.val (.ref a), .val (.int fv), .val (.int sv), .val (.int fi), .val (.int wv), .val (.long mo), .second, .val (.long kp), .second] [])
                refine hst (fun t₀ k₀ => XS.iinc X95.here hx rfl (hb hby d1_96) rfl (l' := #[.val (.ref a), .val (.int fv), .val (.int sv), .val (.int fi), .val (.int (wv + (-1 : Int32))), .val (.long mo), .second, .val (.long kp), .second]) rfl k₀) ?_
                show F T95 (mkF m 99 #[.val (.ref a), .val (.int fv), .val (.int sv), .val (.int fi), .val (.int (wv + (-1 : Int32))), .val (.long mo), .second, .val (.long kp), .second] [])
                refine hst (fun t₀ k₀ => XS.goto X95.here hx rfl (pc0 := 99) (pc' := 18) rfl (hb hby d1_99) (by decide) (by decide) k₀) ?_
                show F T95 (mkF m 18 #[.val (.ref a), .val (.int fv), .val (.int sv), .val (.int fi), .val (.int (wv + (-1 : Int32))), .val (.long mo), .second, .val (.long kp), .second] [])
                refine ih k' (by omega) (fun i => if i = k' then z else u i) _ _ _ _ (Or.inr ⟨mo, kp, rfl, rfl, rfl, rfl⟩) T95 _ X95 _ e95 N95 Z0_p95 K_p95 fq1_0_p95c (by omega) ?_ _ (by rw [own_dec wv (by omega)]; omega)
                intro j i hj hi
                by_cases g : j = k'
                · subst g; rw [if_pos rfl, if_pos (Nat.le_refl _)]; exact kz i hi
                · rw [if_neg g, hu j i hj hi]; by_cases g2 : k' + 1 ≤ j
                  · rw [if_pos g2, if_pos (by omega)]
                  · rw [if_neg g2, if_neg (by omega)]
              · -- pc 56: taken
                refine hst (fun t₀ k₀ => XS.icmpYes Xq1.here hx rfl (pc0 := 56) (pc' := 72) rfl (hb hby d1_56) rfl (feq hc56).2 (by decide) (by decide) k₀) ?_
                show F Tq1 (mkF m 72 #[.val (.ref a), .val (.int fv), .val (.int sv), .val (.int fi), .val (.int wv), .val (.long mo), .second, .val (.long m7), .second] [])
                have q56 : ¬ k' = (A + s0) / 64 := fun q => hc56 ((own_eq32 _ _).mpr (by omega))
                refine hst (fun t₀ k₀ => XS.lconst Xq1.here hx rfl (hb hby d1_72) k₀) ?_
                show F Tq1 (mkF m 73 #[.val (.ref a), .val (.int fv), .val (.int sv), .val (.int fi), .val (.int wv), .val (.long mo), .second, .val (.long m7), .second] [(.long (0 : Int64))])
                generalize hkp : (0 : Int64) = kp
                show F Tq1 (mkF m 73 #[.val (.ref a), .val (.int fv), .val (.int sv), .val (.int fi), .val (.int wv), .val (.long mo), .second, .val (.long m7), .second] [(.long kp)])
                have kkp : ∀ i, i < 64 → own_b kp i = if k' = (A + s0) / 64 then decide (i < (A + s0) % 64) else false := by
                  intro i hi; rw [← hkp, if_neg q56]; unfold own_b; simp
                refine hst (fun t₀ k₀ => XS.lstore Xq1.here hx rfl (hb hby d1_73) rfl (l' := #[.val (.ref a), .val (.int fv), .val (.int sv), .val (.int fi), .val (.int wv), .val (.long mo), .second, .val (.long kp), .second]) rfl k₀) ?_
                show F Tq1 (mkF m 75 #[.val (.ref a), .val (.int fv), .val (.int sv), .val (.int fi), .val (.int wv), .val (.long mo), .second, .val (.long kp), .second] [])
                refine hst (fun t₀ k₀ => XS.aloadN Xq1.here hx rfl (hb hby d1_75) rfl rfl k₀) ?_
                show F Tq1 (mkF m 76 #[.val (.ref a), .val (.int fv), .val (.int sv), .val (.int fi), .val (.int wv), .val (.long mo), .second, .val (.long kp), .second] [(.ref a)])
                refine hst (fun t₀ k₀ => XS.iload Xq1.here hx rfl (hb hby d1_76) rfl k₀) ?_
                show F Tq1 (mkF m 78 #[.val (.ref a), .val (.int fv), .val (.int sv), .val (.int fi), .val (.int wv), .val (.long mo), .second, .val (.long kp), .second] [(.int wv), (.ref a)])
                refine hst (fun t₀ k₀ => XS.aloadN Xq1.here hx rfl (hb hby d1_78) rfl rfl k₀) ?_
                show F Tq1 (mkF m 79 #[.val (.ref a), .val (.int fv), .val (.int sv), .val (.int fi), .val (.int wv), .val (.long mo), .second, .val (.long kp), .second] [(.ref a), (.int wv), (.ref a)])
                refine hst (fun t₀ k₀ => XS.iload Xq1.here hx rfl (hb hby d1_79) rfl k₀) ?_
                show F Tq1 (mkF m 81 #[.val (.ref a), .val (.int fv), .val (.int sv), .val (.int fi), .val (.int wv), .val (.long mo), .second, .val (.long kp), .second] [(.int wv), (.ref a), (.int wv), (.ref a)])
                refine hst (fun t₀ k₀ => own_laload Xq1 hx hZ eq1 fq1_0 (own_idx wv n (by omega) (by omega)) (v := (.long (u k'))) (by show Value.long (u wv.toNatClampNeg) = _; rw [kc]) (g := (mkF m 81 #[.val (.ref a), .val (.int fv), .val (.int sv), .val (.int fi), .val (.int wv), .val (.long mo), .second, .val (.long kp), .second] [(.int wv), (.ref a), (.int wv), (.ref a)])) rfl rfl (hb hby d1_81) t₀ k₀) ?_
                show F Tq1 (mkF m 82 #[.val (.ref a), .val (.int fv), .val (.int sv), .val (.int fi), .val (.int wv), .val (.long mo), .second, .val (.long kp), .second] [(.long (u k')), (.int wv), (.ref a)])
                refine hst (fun t₀ k₀ => XS.lload Xq1.here hx rfl (hb hby d1_82) rfl k₀) ?_
                show F Tq1 (mkF m 84 #[.val (.ref a), .val (.int fv), .val (.int sv), .val (.int fi), .val (.int wv), .val (.long mo), .second, .val (.long kp), .second] [(.long kp), (.long (u k')), (.int wv), (.ref a)])
                refine hst (fun t₀ k₀ => XS.land Xq1.here hx rfl (hb hby d1_84) rfl k₀) ?_
                show F Tq1 (mkF m 85 #[.val (.ref a), .val (.int fv), .val (.int sv), .val (.int fi), .val (.int wv), .val (.long mo), .second, .val (.long kp), .second] [(.long ((u k') &&& kp)), (.int wv), (.ref a)])
                refine hst (fun t₀ k₀ => XS.lload Xq1.here hx rfl (hb hby d1_85) rfl k₀) ?_
                show F Tq1 (mkF m 87 #[.val (.ref a), .val (.int fv), .val (.int sv), .val (.int fi), .val (.int wv), .val (.long mo), .second, .val (.long kp), .second] [(.long mo), (.long ((u k') &&& kp)), (.int wv), (.ref a)])
                refine hst (fun t₀ k₀ => XS.lload Xq1.here hx rfl (hb hby d1_87) rfl k₀) ?_
                show F Tq1 (mkF m 89 #[.val (.ref a), .val (.int fv), .val (.int sv), .val (.int fi), .val (.int wv), .val (.long mo), .second, .val (.long kp), .second] [(.long kp), (.long mo), (.long ((u k') &&& kp)), (.int wv), (.ref a)])
                refine hst (fun t₀ k₀ => Xq1.ldc2J hx hown (mvT hZ (hw _ (List.mem_of_getElem? (i := 7) rfl))) (g := (mkF m 89 #[.val (.ref a), .val (.int fv), .val (.int sv), .val (.int fi), .val (.int wv), .val (.long mo), .second, .val (.long kp), .second] [(.long kp), (.long mo), (.long ((u k') &&& kp)), (.int wv), (.ref a)])) rfl (hb hby d1_89) k₀) ?_
                show F Tq1 (mkF m 92 #[.val (.ref a), .val (.int fv), .val (.int sv), .val (.int fi), .val (.int wv), .val (.long mo), .second, .val (.long kp), .second] [(.long (-1 : Int64)), (.long kp), (.long mo), (.long ((u k') &&& kp)), (.int wv), (.ref a)])
                refine hst (fun t₀ k₀ => XS.lxor Xq1.here hx rfl (hb hby d1_92) rfl k₀) ?_
                show F Tq1 (mkF m 93 #[.val (.ref a), .val (.int fv), .val (.int sv), .val (.int fi), .val (.int wv), .val (.long mo), .second, .val (.long kp), .second] [(.long (kp ^^^ (-1 : Int64))), (.long mo), (.long ((u k') &&& kp)), (.int wv), (.ref a)])
                refine hst (fun t₀ k₀ => XS.land Xq1.here hx rfl (hb hby d1_93) rfl k₀) ?_
                show F Tq1 (mkF m 94 #[.val (.ref a), .val (.int fv), .val (.int sv), .val (.int fi), .val (.int wv), .val (.long mo), .second, .val (.long kp), .second] [(.long (mo &&& (kp ^^^ (-1 : Int64)))), (.long ((u k') &&& kp)), (.int wv), (.ref a)])
                refine hst (fun t₀ k₀ => XS.lor Xq1.here hx rfl (hb hby d1_94) rfl k₀) ?_
                show F Tq1 (mkF m 95 #[.val (.ref a), .val (.int fv), .val (.int sv), .val (.int fi), .val (.int wv), .val (.long mo), .second, .val (.long kp), .second] [(.long (((u k') &&& kp) ||| (mo &&& (kp ^^^ (-1 : Int64))))), (.int wv), (.ref a)])
                generalize hz : (((u k') &&& kp) ||| (mo &&& (kp ^^^ (-1 : Int64)))) = z
                show F Tq1 (mkF m 95 #[.val (.ref a), .val (.int fv), .val (.int sv), .val (.int fi), .val (.int wv), .val (.long mo), .second, .val (.long kp), .second] [(.long z), (.int wv), (.ref a)])
                have kz : ∀ i, i < 64 → own_b z i = own_mv w A s0 k' i := by
                  intro i hi; rw [← hz, own_b_or, own_b_and, own_b_and, own_b_not _ _ hi, ku _ _ (Nat.le_refl _) hi, kmo i hi]
                  exact own_step w A s0 k' i hi q1 hS2 q21 _ _ (kx i hi) (kkp i hi)
                obtain ⟨T95, h95, X95, e95, W95, st95⟩ := own_lastore Xq1 hx hZ eq1 fq1_0 (own_idx wv n (by omega) (by omega)) (g := (mkF m 95 #[.val (.ref a), .val (.int fv), .val (.int sv), .val (.int fi), .val (.int wv), .val (.long mo), .second, .val (.long kp), .second] [(.long z), (.int wv), (.ref a)])) rfl rfl (hb hby d1_95)
                have N95 := Fr.snoc X95 Nq1 ge_a
                have fq1_0_p95 : own_A Z h95 a .long n (fun i => if i = Int32.toNatClampNeg wv then (.long z) else (fun i => .long (u i)) i) := fq1_0.set W95
                have Z0_p95 : n0 ≤ h95.size := Nat.le_trans Zq1 (Keep.of_wr W95).1
                have K_p95 : Keep hI h95 [a] := Kq1.wr W95 (Or.inl (List.mem_of_getElem? (i := 0) rfl))
                refine hst st95 ?_
                have fq1_0_p95c : own_A Z h95 a .long n (fun i => .long (if i = k' then z else u i)) := own_A.congr fq1_0_p95 (fun i hi => by rw [kc]; split <;> rfl)
                show F T95 (mkF m 96 #[.val (.ref a), .val (.int fv), .val (.int sv), .val (.int fi), .val (.int wv), .val (.long mo), .second, .val (.long kp), .second] [])
                refine hst (fun t₀ k₀ => XS.iinc X95.here hx rfl (hb hby d1_96) rfl (l' := #[.val (.ref a), .val (.int fv), .val (.int sv), .val (.int fi), .val (.int (wv + (-1 : Int32))), .val (.long mo), .second, .val (.long kp), .second]) rfl k₀) ?_
                show F T95 (mkF m 99 #[.val (.ref a), .val (.int fv), .val (.int sv), .val (.int fi), .val (.int (wv + (-1 : Int32))), .val (.long mo), .second, .val (.long kp), .second] [])
                refine hst (fun t₀ k₀ => XS.goto X95.here hx rfl (pc0 := 99) (pc' := 18) rfl (hb hby d1_99) (by decide) (by decide) k₀) ?_
                show F T95 (mkF m 18 #[.val (.ref a), .val (.int fv), .val (.int sv), .val (.int fi), .val (.int (wv + (-1 : Int32))), .val (.long mo), .second, .val (.long kp), .second] [])
                refine ih k' (by omega) (fun i => if i = k' then z else u i) _ _ _ _ (Or.inr ⟨mo, kp, rfl, rfl, rfl, rfl⟩) T95 _ X95 _ e95 N95 Z0_p95 K_p95 fq1_0_p95c (by omega) ?_ _ (by rw [own_dec wv (by omega)]; omega)
                intro j i hj hi
                by_cases g : j = k'
                · subst g; rw [if_pos rfl, if_pos (Nat.le_refl _)]; exact kz i hi
                · rw [if_neg g, hu j i hj hi]; by_cases g2 : k' + 1 ≤ j
                  · rw [if_pos g2, if_pos (by omega)]
                  · rw [if_neg g2, if_neg (by omega)]
            · -- pc 32: taken
              refine hst (fun t₀ k₀ => XS.ifYes Xq1.here hx rfl (pc0 := 32) (pc' := 49) rfl (hb hby d1_32) rfl ((if0 _ _).trans (flt hc32).2.2.2) (by decide) (by decide) k₀) ?_
              show F Tq1 (mkF m 49 #[.val (.ref a), .val (.int fv), .val (.int sv), .val (.int fi), .val (.int wv), .val (.long m5), .second, .val (.long m7), .second] [(.long ((u k') <<< (sv &&& 0x3f).toInt64))])
              have q32 : ¬ 0 < k' := by rw [own_lt32] at hc32; omega
              refine hst (fun t₀ k₀ => XS.lconst Xq1.here hx rfl (hb hby d1_49) k₀) ?_
              show F Tq1 (mkF m 50 #[.val (.ref a), .val (.int fv), .val (.int sv), .val (.int fi), .val (.int wv), .val (.long m5), .second, .val (.long m7), .second] [(.long (0 : Int64)), (.long ((u k') <<< (sv &&& 0x3f).toInt64))])
              generalize hxl : (0 : Int64) = xl
              show F Tq1 (mkF m 50 #[.val (.ref a), .val (.int fv), .val (.int sv), .val (.int fi), .val (.int wv), .val (.long m5), .second, .val (.long m7), .second] [(.long xl), (.long ((u k') <<< (sv &&& 0x3f).toInt64))])
              have kx : ∀ i, i < 64 → own_b xl i = if 0 < k' then own_b (w (k' - 1)) (64 - s0 + i) else false := by
                intro i hi; rw [← hxl, if_neg q32]; unfold own_b; simp
              refine hst (fun t₀ k₀ => XS.lor Xq1.here hx rfl (hb hby d1_50) rfl k₀) ?_
              show F Tq1 (mkF m 51 #[.val (.ref a), .val (.int fv), .val (.int sv), .val (.int fi), .val (.int wv), .val (.long m5), .second, .val (.long m7), .second] [(.long (((u k') <<< (sv &&& 0x3f).toInt64) ||| xl))])
              generalize hmo : (((u k') <<< (sv &&& 0x3f).toInt64) ||| xl) = mo
              show F Tq1 (mkF m 51 #[.val (.ref a), .val (.int fv), .val (.int sv), .val (.int fi), .val (.int wv), .val (.long m5), .second, .val (.long m7), .second] [(.long mo)])
              have kmo : ∀ i, i < 64 → own_b mo i = ((decide (s0 ≤ i) && own_b (w k') (i - s0)) || own_b xl i) := by
                intro i hi; rw [← hmo, own_b_or, own_b_shl _ sv _ i hS hS2 hi, ku _ _ (Nat.le_refl _) (by omega)]
              refine hst (fun t₀ k₀ => XS.lstore Xq1.here hx rfl (hb hby d1_51) rfl (l' := #[.val (.ref a), .val (.int fv), .val (.int sv), .val (.int fi), .val (.int wv), .val (.long mo), .second, .val (.long m7), .second]) rfl k₀) ?_
              show F Tq1 (mkF m 53 #[.val (.ref a), .val (.int fv), .val (.int sv), .val (.int fi), .val (.int wv), .val (.long mo), .second, .val (.long m7), .second] [])
              refine hst (fun t₀ k₀ => XS.iload Xq1.here hx rfl (hb hby d1_53) rfl k₀) ?_
              show F Tq1 (mkF m 55 #[.val (.ref a), .val (.int fv), .val (.int sv), .val (.int fi), .val (.int wv), .val (.long mo), .second, .val (.long m7), .second] [(.int wv)])
              refine hst (fun t₀ k₀ => XS.iloadN Xq1.here hx rfl (hb hby d1_55) rfl k₀) ?_
              show F Tq1 (mkF m 56 #[.val (.ref a), .val (.int fv), .val (.int sv), .val (.int fi), .val (.int wv), .val (.long mo), .second, .val (.long m7), .second] [(.int fi), (.int wv)])
              by_cases hc56 : wv = fi
              · -- pc 56: not taken
                refine hst (fun t₀ k₀ => XS.icmpNo Xq1.here hx rfl (hb hby d1_56) rfl (teq hc56).2 k₀) ?_
                show F Tq1 (mkF m 59 #[.val (.ref a), .val (.int fv), .val (.int sv), .val (.int fi), .val (.int wv), .val (.long mo), .second, .val (.long m7), .second] [])
                have q56 : k' = (A + s0) / 64 := by rw [own_eq32] at hc56; omega
                refine hst (fun t₀ k₀ => XS.lconst Xq1.here hx rfl (hb hby d1_59) k₀) ?_
                show F Tq1 (mkF m 60 #[.val (.ref a), .val (.int fv), .val (.int sv), .val (.int fi), .val (.int wv), .val (.long mo), .second, .val (.long m7), .second] [(.long (1 : Int64))])
                refine hst (fun t₀ k₀ => XS.iloadN Xq1.here hx rfl (hb hby d1_60) rfl k₀) ?_
                show F Tq1 (mkF m 61 #[.val (.ref a), .val (.int fv), .val (.int sv), .val (.int fi), .val (.int wv), .val (.long mo), .second, .val (.long m7), .second] [(.int fv), (.long (1 : Int64))])
                refine hst (fun t₀ k₀ => XS.iloadN Xq1.here hx rfl (hb hby d1_61) rfl k₀) ?_
                show F Tq1 (mkF m 62 #[.val (.ref a), .val (.int fv), .val (.int sv), .val (.int fi), .val (.int wv), .val (.long mo), .second, .val (.long m7), .second] [(.int sv), (.int fv), (.long (1 : Int64))])
                refine hst (fun t₀ k₀ => XS.iadd Xq1.here hx rfl (hb hby d1_62) rfl k₀) ?_
                show F Tq1 (mkF m 63 #[.val (.ref a), .val (.int fv), .val (.int sv), .val (.int fi), .val (.int wv), .val (.long mo), .second, .val (.long m7), .second] [(.int (fv + sv)), (.long (1 : Int64))])
                generalize hsu2 : (fv + sv) = su2
                show F Tq1 (mkF m 63 #[.val (.ref a), .val (.int fv), .val (.int sv), .val (.int fi), .val (.int wv), .val (.long mo), .second, .val (.long m7), .second] [(.int su2), (.long (1 : Int64))])
                have ksu2 : su2.toInt = ((A + s0 : Nat) : Int) := by rw [← hsu2]; exact hsu ▸ ksu
                refine hst (fun t₀ k₀ => XS.bipush Xq1.here hx rfl (hb hby d1_63) k₀) ?_
                show F Tq1 (mkF m 65 #[.val (.ref a), .val (.int fv), .val (.int sv), .val (.int fi), .val (.int wv), .val (.long mo), .second, .val (.long m7), .second] [(.int (63 : Int32)), (.int su2), (.long (1 : Int64))])
                refine hst (fun t₀ k₀ => XS.iand Xq1.here hx rfl (hb hby d1_65) rfl k₀) ?_
                show F Tq1 (mkF m 66 #[.val (.ref a), .val (.int fv), .val (.int sv), .val (.int fi), .val (.int wv), .val (.long mo), .second, .val (.long m7), .second] [(.int (su2 &&& (63 : Int32))), (.long (1 : Int64))])
                generalize hsm : (su2 &&& (63 : Int32)) = sm
                show F Tq1 (mkF m 66 #[.val (.ref a), .val (.int fv), .val (.int sv), .val (.int fi), .val (.int wv), .val (.long mo), .second, .val (.long m7), .second] [(.int sm), (.long (1 : Int64))])
                have ksm : sm.toInt = (((A + s0) % 64 : Nat) : Int) := by rw [← hsm, c_mask su2 63 6 (by decide) (by decide)]; omega
                refine hst (fun t₀ k₀ => XS.lshl Xq1.here hx rfl (hb hby d1_66) rfl k₀) ?_
                show F Tq1 (mkF m 67 #[.val (.ref a), .val (.int fv), .val (.int sv), .val (.int fi), .val (.int wv), .val (.long mo), .second, .val (.long m7), .second] [(.long ((1 : Int64) <<< (sm &&& 0x3f).toInt64))])
                refine hst (fun t₀ k₀ => XS.lconst Xq1.here hx rfl (hb hby d1_67) k₀) ?_
                show F Tq1 (mkF m 68 #[.val (.ref a), .val (.int fv), .val (.int sv), .val (.int fi), .val (.int wv), .val (.long mo), .second, .val (.long m7), .second] [(.long (1 : Int64)), (.long ((1 : Int64) <<< (sm &&& 0x3f).toInt64))])
                refine hst (fun t₀ k₀ => XS.lsub Xq1.here hx rfl (hb hby d1_68) rfl k₀) ?_
                show F Tq1 (mkF m 69 #[.val (.ref a), .val (.int fv), .val (.int sv), .val (.int fi), .val (.int wv), .val (.long mo), .second, .val (.long m7), .second] [(.long (((1 : Int64) <<< (sm &&& 0x3f).toInt64) - (1 : Int64)))])
                generalize hkp : (((1 : Int64) <<< (sm &&& 0x3f).toInt64) - (1 : Int64)) = kp
                show F Tq1 (mkF m 69 #[.val (.ref a), .val (.int fv), .val (.int sv), .val (.int fi), .val (.int wv), .val (.long mo), .second, .val (.long m7), .second] [(.long kp)])
                have kkp : ∀ i, i < 64 → own_b kp i = if k' = (A + s0) / 64 then decide (i < (A + s0) % 64) else false := by
                  intro i hi; rw [← hkp, if_pos q56]; exact own_b_mask sm _ i ksm (by omega) hi
                refine hst (fun t₀ k₀ => XS.goto Xq1.here hx rfl (pc0 := 69) (pc' := 73) rfl (hb hby d1_69) (by decide) (by decide) k₀) ?_
                show F Tq1 (mkF m 73 #[.val (.ref a), .val (.int fv), .val (.int sv), .val (.int fi), .val (.int wv), .val (.long mo), .second, .val (.long m7), .second] [(.long kp)])
                refine hst (fun t₀ k₀ => XS.lstore Xq1.here hx rfl (hb hby d1_73) rfl (l' := #[.val (.ref a), .val (.int fv), .val (.int sv), .val (.int fi), .val (.int wv), .val (.long mo), .second, .val (.long kp), .second]) rfl k₀) ?_
                show F Tq1 (mkF m 75 #[.val (.ref a), .val (.int fv), .val (.int sv), .val (.int fi), .val (.int wv), .val (.long mo), .second, .val (.long kp), .second] [])
                refine hst (fun t₀ k₀ => XS.aloadN Xq1.here hx rfl (hb hby d1_75) rfl rfl k₀) ?_
                show F Tq1 (mkF m 76 #[.val (.ref a), .val (.int fv), .val (.int sv), .val (.int fi), .val (.int wv), .val (.long mo), .second, .val (.long kp), .second] [(.ref a)])
                refine hst (fun t₀ k₀ => XS.iload Xq1.here hx rfl (hb hby d1_76) rfl k₀) ?_
                show F Tq1 (mkF m 78 #[.val (.ref a), .val (.int fv), .val (.int sv), .val (.int fi), .val (.int wv), .val (.long mo), .second, .val (.long kp), .second] [(.int wv), (.ref a)])
                refine hst (fun t₀ k₀ => XS.aloadN Xq1.here hx rfl (hb hby d1_78) rfl rfl k₀) ?_
                show F Tq1 (mkF m 79 #[.val (.ref a), .val (.int fv), .val (.int sv), .val (.int fi), .val (.int wv), .val (.long mo), .second, .val (.long kp), .second] [(.ref a), (.int wv), (.ref a)])
                refine hst (fun t₀ k₀ => XS.iload Xq1.here hx rfl (hb hby d1_79) rfl k₀) ?_
                show F Tq1 (mkF m 81 #[.val (.ref a), .val (.int fv), .val (.int sv), .val (.int fi), .val (.int wv), .val (.long mo), .second, .val (.long kp), .second] [(.int wv), (.ref a), (.int wv), (.ref a)])
                refine hst (fun t₀ k₀ => own_laload Xq1 hx hZ eq1 fq1_0 (own_idx wv n (by omega) (by omega)) (v := (.long (u k'))) (by show Value.long (u wv.toNatClampNeg) = _; rw [kc]) (g := (mkF m 81 #[.val (.ref a), .val (.int fv), .val (.int sv), .val (.int fi), .val (.int wv), .val (.long mo), .second, .val (.long kp), .second] [(.int wv), (.ref a), (.int wv), (.ref a)])) rfl rfl (hb hby d1_81) t₀ k₀) ?_
                show F Tq1 (mkF m 82 #[.val (.ref a), .val (.int fv), .val (.int sv), .val (.int fi), .val (.int wv), .val (.long mo), .second, .val (.long kp), .second] [(.long (u k')), (.int wv), (.ref a)])
                refine hst (fun t₀ k₀ => XS.lload Xq1.here hx rfl (hb hby d1_82) rfl k₀) ?_
                show F Tq1 (mkF m 84 #[.val (.ref a), .val (.int fv), .val (.int sv), .val (.int fi), .val (.int wv), .val (.long mo), .second, .val (.long kp), .second] [(.long kp), (.long (u k')), (.int wv), (.ref a)])
                refine hst (fun t₀ k₀ => XS.land Xq1.here hx rfl (hb hby d1_84) rfl k₀) ?_
                show F Tq1 (mkF m 85 #[.val (.ref a), .val (.int fv), .val (.int sv), .val (.int fi), .val (.int wv), .val (.long mo), .second, .val (.long kp), .second] [(.long ((u k') &&& kp)), (.int wv), (.ref a)])
                refine hst (fun t₀ k₀ => XS.lload Xq1.here hx rfl (hb hby d1_85) rfl k₀) ?_
                show F Tq1 (mkF m 87 #[.val (.ref a), .val (.int fv), .val (.int sv), .val (.int fi), .val (.int wv), .val (.long mo), .second, .val (.long kp), .second] [(.long mo), (.long ((u k') &&& kp)), (.int wv), (.ref a)])
                refine hst (fun t₀ k₀ => XS.lload Xq1.here hx rfl (hb hby d1_87) rfl k₀) ?_
                show F Tq1 (mkF m 89 #[.val (.ref a), .val (.int fv), .val (.int sv), .val (.int fi), .val (.int wv), .val (.long mo), .second, .val (.long kp), .second] [(.long kp), (.long mo), (.long ((u k') &&& kp)), (.int wv), (.ref a)])
                refine hst (fun t₀ k₀ => Xq1.ldc2J hx hown (mvT hZ (hw _ (List.mem_of_getElem? (i := 7) rfl))) (g := (mkF m 89 #[.val (.ref a), .val (.int fv), .val (.int sv), .val (.int fi), .val (.int wv), .val (.long mo), .second, .val (.long kp), .second] [(.long kp), (.long mo), (.long ((u k') &&& kp)), (.int wv), (.ref a)])) rfl (hb hby d1_89) k₀) ?_
                show F Tq1 (mkF m 92 #[.val (.ref a), .val (.int fv), .val (.int sv), .val (.int fi), .val (.int wv), .val (.long mo), .second, .val (.long kp), .second] [(.long (-1 : Int64)), (.long kp), (.long mo), (.long ((u k') &&& kp)), (.int wv), (.ref a)])
                refine hst (fun t₀ k₀ => XS.lxor Xq1.here hx rfl (hb hby d1_92) rfl k₀) ?_
                show F Tq1 (mkF m 93 #[.val (.ref a), .val (.int fv), .val (.int sv), .val (.int fi), .val (.int wv), .val (.long mo), .second, .val (.long kp), .second] [(.long (kp ^^^ (-1 : Int64))), (.long mo), (.long ((u k') &&& kp)), (.int wv), (.ref a)])
                refine hst (fun t₀ k₀ => XS.land Xq1.here hx rfl (hb hby d1_93) rfl k₀) ?_
                show F Tq1 (mkF m 94 #[.val (.ref a), .val (.int fv), .val (.int sv), .val (.int fi), .val (.int wv), .val (.long mo), .second, .val (.long kp), .second] [(.long (mo &&& (kp ^^^ (-1 : Int64)))), (.long ((u k') &&& kp)), (.int wv), (.ref a)])
                refine hst (fun t₀ k₀ => XS.lor Xq1.here hx rfl (hb hby d1_94) rfl k₀) ?_
                show F Tq1 (mkF m 95 #[.val (.ref a), .val (.int fv), .val (.int sv), .val (.int fi), .val (.int wv), .val (.long mo), .second, .val (.long kp), .second] [(.long (((u k') &&& kp) ||| (mo &&& (kp ^^^ (-1 : Int64))))), (.int wv), (.ref a)])
                generalize hz : (((u k') &&& kp) ||| (mo &&& (kp ^^^ (-1 : Int64)))) = z
                show F Tq1 (mkF m 95 #[.val (.ref a), .val (.int fv), .val (.int sv), .val (.int fi), .val (.int wv), .val (.long mo), .second, .val (.long kp), .second] [(.long z), (.int wv), (.ref a)])
                have kz : ∀ i, i < 64 → own_b z i = own_mv w A s0 k' i := by
                  intro i hi; rw [← hz, own_b_or, own_b_and, own_b_and, own_b_not _ _ hi, ku _ _ (Nat.le_refl _) hi, kmo i hi]
                  exact own_step w A s0 k' i hi q1 hS2 q21 _ _ (kx i hi) (kkp i hi)
                obtain ⟨T95, h95, X95, e95, W95, st95⟩ := own_lastore Xq1 hx hZ eq1 fq1_0 (own_idx wv n (by omega) (by omega)) (g := (mkF m 95 #[.val (.ref a), .val (.int fv), .val (.int sv), .val (.int fi), .val (.int wv), .val (.long mo), .second, .val (.long kp), .second] [(.long z), (.int wv), (.ref a)])) rfl rfl (hb hby d1_95)
                have N95 := Fr.snoc X95 Nq1 ge_a
                have fq1_0_p95 : own_A Z h95 a .long n (fun i => if i = Int32.toNatClampNeg wv then (.long z) else (fun i => .long (u i)) i) := fq1_0.set W95
                have Z0_p95 : n0 ≤ h95.size := Nat.le_trans Zq1 (Keep.of_wr W95).1
                have K_p95 : Keep hI h95 [a] := Kq1.wr W95 (Or.inl (List.mem_of_getElem? (i := 0) rfl))
                refine hst st95 ?_
                have fq1_0_p95c : own_A Z h95 a .long n (fun i => .long (if i = k' then z else u i)) := own_A.congr fq1_0_p95 (fun i hi => by rw [kc]; split <;> rfl)
                show F T95 (mkF m 96 #[.val (.ref a), .val (.int fv), .val (.int sv), .val (.int fi), .val (.int wv), .val (.long mo), .second, .val (.long kp), .second] [])
                refine hst (fun t₀ k₀ => XS.iinc X95.here hx rfl (hb hby d1_96) rfl (l' := #[.val (.ref a), .val (.int fv), .val (.int sv), .val (.int fi), .val (.int (wv + (-1 : Int32))), .val (.long mo), .second, .val (.long kp), .second]) rfl k₀) ?_
                show F T95 (mkF m 99 #[.val (.ref a), .val (.int fv), .val (.int sv), .val (.int fi), .val (.int (wv + (-1 : Int32))), .val (.long mo), .second, .val (.long kp), .second] [])
                refine hst (fun t₀ k₀ => XS.goto X95.here hx rfl (pc0 := 99) (pc' := 18) rfl (hb hby d1_99) (by decide) (by decide) k₀) ?_
                show F T95 (mkF m 18 #[.val (.ref a), .val (.int fv), .val (.int sv), .val (.int fi), .val (.int (wv + (-1 : Int32))), .val (.long mo), .second, .val (.long kp), .second] [])
                refine ih k' (by omega) (fun i => if i = k' then z else u i) _ _ _ _ (Or.inr ⟨mo, kp, rfl, rfl, rfl, rfl⟩) T95 _ X95 _ e95 N95 Z0_p95 K_p95 fq1_0_p95c (by omega) ?_ _ (by rw [own_dec wv (by omega)]; omega)
                intro j i hj hi
                by_cases g : j = k'
                · subst g; rw [if_pos rfl, if_pos (Nat.le_refl _)]; exact kz i hi
                · rw [if_neg g, hu j i hj hi]; by_cases g2 : k' + 1 ≤ j
                  · rw [if_pos g2, if_pos (by omega)]
                  · rw [if_neg g2, if_neg (by omega)]
              · -- pc 56: taken
                refine hst (fun t₀ k₀ => XS.icmpYes Xq1.here hx rfl (pc0 := 56) (pc' := 72) rfl (hb hby d1_56) rfl (feq hc56).2 (by decide) (by decide) k₀) ?_
                show F Tq1 (mkF m 72 #[.val (.ref a), .val (.int fv), .val (.int sv), .val (.int fi), .val (.int wv), .val (.long mo), .second, .val (.long m7), .second] [])
                have q56 : ¬ k' = (A + s0) / 64 := fun q => hc56 ((own_eq32 _ _).mpr (by omega))
                refine hst (fun t₀ k₀ => XS.lconst Xq1.here hx rfl (hb hby d1_72) k₀) ?_
                show F Tq1 (mkF m 73 #[.val (.ref a), .val (.int fv), .val (.int sv), .val (.int fi), .val (.int wv), .val (.long mo), .second, .val (.long m7), .second] [(.long (0 : Int64))])
                generalize hkp : (0 : Int64) = kp
                show F Tq1 (mkF m 73 #[.val (.ref a), .val (.int fv), .val (.int sv), .val (.int fi), .val (.int wv), .val (.long mo), .second, .val (.long m7), .second] [(.long kp)])
                have kkp : ∀ i, i < 64 → own_b kp i = if k' = (A + s0) / 64 then decide (i < (A + s0) % 64) else false := by
                  intro i hi; rw [← hkp, if_neg q56]; unfold own_b; simp
                refine hst (fun t₀ k₀ => XS.lstore Xq1.here hx rfl (hb hby d1_73) rfl (l' := #[.val (.ref a), .val (.int fv), .val (.int sv), .val (.int fi), .val (.int wv), .val (.long mo), .second, .val (.long kp), .second]) rfl k₀) ?_
                show F Tq1 (mkF m 75 #[.val (.ref a), .val (.int fv), .val (.int sv), .val (.int fi), .val (.int wv), .val (.long mo), .second, .val (.long kp), .second] [])
                refine hst (fun t₀ k₀ => XS.aloadN Xq1.here hx rfl (hb hby d1_75) rfl rfl k₀) ?_
                show F Tq1 (mkF m 76 #[.val (.ref a), .val (.int fv), .val (.int sv), .val (.int fi), .val (.int wv), .val (.long mo), .second, .val (.long kp), .second] [(.ref a)])
                refine hst (fun t₀ k₀ => XS.iload Xq1.here hx rfl (hb hby d1_76) rfl k₀) ?_
                show F Tq1 (mkF m 78 #[.val (.ref a), .val (.int fv), .val (.int sv), .val (.int fi), .val (.int wv), .val (.long mo), .second, .val (.long kp), .second] [(.int wv), (.ref a)])
                refine hst (fun t₀ k₀ => XS.aloadN Xq1.here hx rfl (hb hby d1_78) rfl rfl k₀) ?_
                show F Tq1 (mkF m 79 #[.val (.ref a), .val (.int fv), .val (.int sv), .val (.int fi), .val (.int wv), .val (.long mo), .second, .val (.long kp), .second] [(.ref a), (.int wv), (.ref a)])
                refine hst (fun t₀ k₀ => XS.iload Xq1.here hx rfl (hb hby d1_79) rfl k₀) ?_
                show F Tq1 (mkF m 81 #[.val (.ref a), .val (.int fv), .val (.int sv), .val (.int fi), .val (.int wv), .val (.long mo), .second, .val (.long kp), .second] [(.int wv), (.ref a), (.int wv), (.ref a)])
                refine hst (fun t₀ k₀ => own_laload Xq1 hx hZ eq1 fq1_0 (own_idx wv n (by omega) (by omega)) (v := (.long (u k'))) (by show Value.long (u wv.toNatClampNeg) = _; rw [kc]) (g := (mkF m 81 #[.val (.ref a), .val (.int fv), .val (.int sv), .val (.int fi), .val (.int wv), .val (.long mo), .second, .val (.long kp), .second] [(.int wv), (.ref a), (.int wv), (.ref a)])) rfl rfl (hb hby d1_81) t₀ k₀) ?_
                show F Tq1 (mkF m 82 #[.val (.ref a), .val (.int fv), .val (.int sv), .val (.int fi), .val (.int wv), .val (.long mo), .second, .val (.long kp), .second] [(.long (u k')), (.int wv), (.ref a)])
                refine hst (fun t₀ k₀ => XS.lload Xq1.here hx rfl (hb hby d1_82) rfl k₀) ?_
                show F Tq1 (mkF m 84 #[.val (.ref a), .val (.int fv), .val (.int sv), .val (.int fi), .val (.int wv), .val (.long mo), .second, .val (.long kp), .second] [(.long kp), (.long (u k')), (.int wv), (.ref a)])
                refine hst (fun t₀ k₀ => XS.land Xq1.here hx rfl (hb hby d1_84) rfl k₀) ?_
                show F Tq1 (mkF m 85 #[.val (.ref a), .val (.int fv), .val (.int sv), .val (.int fi), .val (.int wv), .val (.long mo), .second, .val (.long kp), .second] [(.long ((u k') &&& kp)), (.int wv), (.ref a)])
                refine hst (fun t₀ k₀ => XS.lload Xq1.here hx rfl (hb hby d1_85) rfl k₀) ?_
                show F Tq1 (mkF m 87 #[.val (.ref a), .val (.int fv), .val (.int sv), .val (.int fi), .val (.int wv), .val (.long mo), .second, .val (.long kp), .second] [(.long mo), (.long ((u k') &&& kp)), (.int wv), (.ref a)])
                refine hst (fun t₀ k₀ => XS.lload Xq1.here hx rfl (hb hby d1_87) rfl k₀) ?_
                show F Tq1 (mkF m 89 #[.val (.ref a), .val (.int fv), .val (.int sv), .val (.int fi), .val (.int wv), .val (.long mo), .second, .val (.long kp), .second] [(.long kp), (.long mo), (.long ((u k') &&& kp)), (.int wv), (.ref a)])
                refine hst (fun t₀ k₀ => Xq1.ldc2J hx hown (mvT hZ (hw _ (List.mem_of_getElem? (i := 7) rfl))) (g := (mkF m 89 #[.val (.ref a), .val (.int fv), .val (.int sv), .val (.int fi), .val (.int wv), .val (.long mo), .second, .val (.long kp), .second] [(.long kp), (.long mo), (.long ((u k') &&& kp)), (.int wv), (.ref a)])) rfl (hb hby d1_89) k₀) ?_
                show F Tq1 (mkF m 92 #[.val (.ref a), .val (.int fv), .val (.int sv), .val (.int fi), .val (.int wv), .val (.long mo), .second, .val (.long kp), .second] [(.long (-1 : Int64)), (.long kp), (.long mo), (.long ((u k') &&& kp)), (.int wv), (.ref a)])
                refine hst (fun t₀ k₀ => XS.lxor Xq1.here hx rfl (hb hby d1_92) rfl k₀) ?_
                show F Tq1 (mkF m 93 #[.val (.ref a), .val (.int fv), .val (.int sv), .val (.int fi), .val (.int wv), .val (.long mo), .second, .val (.long kp), .second] [(.long (kp ^^^ (-1 : Int64))), (.long mo), (.long ((u k') &&& kp)), (.int wv), (.ref a)])
                refine hst (fun t₀ k₀ => XS.land Xq1.here hx rfl (hb hby d1_93) rfl k₀) ?_
                show F Tq1 (mkF m 94 #[.val (.ref a), .val (.int fv), .val (.int sv), .val (.int fi), .val (.int wv), .val (.long mo), .second, .val (.long kp), .second] [(.long (mo &&& (kp ^^^ (-1 : Int64)))), (.long ((u k') &&& kp)), (.int wv), (.ref a)])
                refine hst (fun t₀ k₀ => XS.lor Xq1.here hx rfl (hb hby d1_94) rfl k₀) ?_
                show F Tq1 (mkF m 95 #[.val (.ref a), .val (.int fv), .val (.int sv), .val (.int fi), .val (.int wv), .val (.long mo), .second, .val (.long kp), .second] [(.long (((u k') &&& kp) ||| (mo &&& (kp ^^^ (-1 : Int64))))), (.int wv), (.ref a)])
                generalize hz : (((u k') &&& kp) ||| (mo &&& (kp ^^^ (-1 : Int64)))) = z
                show F Tq1 (mkF m 95 #[.val (.ref a), .val (.int fv), .val (.int sv), .val (.int fi), .val (.int wv), .val (.long mo), .second, .val (.long kp), .second] [(.long z), (.int wv), (.ref a)])
                have kz : ∀ i, i < 64 → own_b z i = own_mv w A s0 k' i := by
                  intro i hi; rw [← hz, own_b_or, own_b_and, own_b_and, own_b_not _ _ hi, ku _ _ (Nat.le_refl _) hi, kmo i hi]
                  exact own_step w A s0 k' i hi q1 hS2 q21 _ _ (kx i hi) (kkp i hi)
                obtain ⟨T95, h95, X95, e95, W95, st95⟩ := own_lastore Xq1 hx hZ eq1 fq1_0 (own_idx wv n (by omega) (by omega)) (g := (mkF m 95 #[.val (.ref a), .val (.int fv), .val (.int sv), .val (.int fi), .val (.int wv), .val (.long mo), .second, .val (.long kp), .second] [(.long z), (.int wv), (.ref a)])) rfl rfl (hb hby d1_95)
                have N95 := Fr.snoc X95 Nq1 ge_a
                have fq1_0_p95 : own_A Z h95 a .long n (fun i => if i = Int32.toNatClampNeg wv then (.long z) else (fun i => .long (u i)) i) := fq1_0.set W95
                have Z0_p95 : n0 ≤ h95.size := Nat.le_trans Zq1 (Keep.of_wr W95).1
                have K_p95 : Keep hI h95 [a] := Kq1.wr W95 (Or.inl (List.mem_of_getElem? (i := 0) rfl))
                refine hst st95 ?_
                have fq1_0_p95c : own_A Z h95 a .long n (fun i => .long (if i = k' then z else u i)) := own_A.congr fq1_0_p95 (fun i hi => by rw [kc]; split <;> rfl)
                show F T95 (mkF m 96 #[.val (.ref a), .val (.int fv), .val (.int sv), .val (.int fi), .val (.int wv), .val (.long mo), .second, .val (.long kp), .second] [])
                refine hst (fun t₀ k₀ => XS.iinc X95.here hx rfl (hb hby d1_96) rfl (l' := #[.val (.ref a), .val (.int fv), .val (.int sv), .val (.int fi), .val (.int (wv + (-1 : Int32))), .val (.long mo), .second, .val (.long kp), .second]) rfl k₀) ?_
                show F T95 (mkF m 99 #[.val (.ref a), .val (.int fv), .val (.int sv), .val (.int fi), .val (.int (wv + (-1 : Int32))), .val (.long mo), .second, .val (.long kp), .second] [])
                refine hst (fun t₀ k₀ => XS.goto X95.here hx rfl (pc0 := 99) (pc' := 18) rfl (hb hby d1_99) (by decide) (by decide) k₀) ?_
                show F T95 (mkF m 18 #[.val (.ref a), .val (.int fv), .val (.int sv), .val (.int fi), .val (.int (wv + (-1 : Int32))), .val (.long mo), .second, .val (.long kp), .second] [])
                refine ih k' (by omega) (fun i => if i = k' then z else u i) _ _ _ _ (Or.inr ⟨mo, kp, rfl, rfl, rfl, rfl⟩) T95 _ X95 _ e95 N95 Z0_p95 K_p95 fq1_0_p95c (by omega) ?_ _ (by rw [own_dec wv (by omega)]; omega)
                intro j i hj hi
                by_cases g : j = k'
                · subst g; rw [if_pos rfl, if_pos (Nat.le_refl _)]; exact kz i hi
                · rw [if_neg g, hu j i hj hi]; by_cases g2 : k' + 1 ≤ j
                  · rw [if_pos g2, if_pos (by omega)]
                  · rw [if_neg g2, if_neg (by omega)]
    exact lp n w _ _ _ _ (Or.inl ⟨rfl, rfl, rfl, rfl⟩) s₁ _ XI _ eI NI Z0 (Keep.refl hI [a]) Ar (Nat.le_refl _) (fun j i hj hi => by rw [if_neg (by omega)]) _ kwv
def own_w3 (w0 w1 w2 : Int64) (k : Nat) : Int64 := if k = 0 then w0 else if k = 1 then w1 else w2
theorem d2_0 : decode method_3_code 0 = .ok (.iload 6, 2) := by decide +kernel
theorem d2_2 : decode method_3_code 2 = .ok (.bipush 6, 2) := by decide +kernel
theorem d2_4 : decode method_3_code 4 = .ok (.iushr, 1) := by decide +kernel
theorem d2_5 : decode method_3_code 5 = .ok (.istore 7, 2) := by decide +kernel
theorem d2_7 : decode method_3_code 7 = .ok (.iload 7, 2) := by decide +kernel
theorem d2_9 : decode method_3_code 9 = .ok (.ifCond .ne 7, 3) := by decide +kernel
theorem d2_12 : decode method_3_code 12 = .ok (.lload_n 0, 1) := by decide +kernel
theorem d2_13 : decode method_3_code 13 = .ok (.goto 15, 3) := by decide +kernel
theorem d2_16 : decode method_3_code 16 = .ok (.iload 7, 2) := by decide +kernel
theorem d2_18 : decode method_3_code 18 = .ok (.iconst 1, 1) := by decide +kernel
theorem d2_19 : decode method_3_code 19 = .ok (.if_icmp .ne 7, 3) := by decide +kernel
theorem d2_22 : decode method_3_code 22 = .ok (.lload_n 2, 1) := by decide +kernel
theorem d2_23 : decode method_3_code 23 = .ok (.goto 5, 3) := by decide +kernel
theorem d2_26 : decode method_3_code 26 = .ok (.lload 4, 2) := by decide +kernel
theorem d2_28 : decode method_3_code 28 = .ok (.lstore 8, 2) := by decide +kernel
theorem d2_30 : decode method_3_code 30 = .ok (.lload 8, 2) := by decide +kernel
theorem d2_32 : decode method_3_code 32 = .ok (.iload 6, 2) := by decide +kernel
theorem d2_34 : decode method_3_code 34 = .ok (.bipush 63, 2) := by decide +kernel
theorem d2_36 : decode method_3_code 36 = .ok (.iand, 1) := by decide +kernel
theorem d2_37 : decode method_3_code 37 = .ok (.lushr, 1) := by decide +kernel
theorem d2_38 : decode method_3_code 38 = .ok (.lconst 1, 1) := by decide +kernel
theorem d2_39 : decode method_3_code 39 = .ok (.land, 1) := by decide +kernel
theorem d2_40 : decode method_3_code 40 = .ok (.lreturn, 1) := by decide +kernel
theorem pn_2 : plainFor (⟨"com/example/censo/censo/compact/BitFieldsMoveUpPinLaw", "oldBit", "(JJJI)J"⟩ : MethodName) = true := plainFor_of_name (by first | (simp [plainName, overriddenIn]; done) | decide +kernel)
theorem ef_2 (m : MethodId) (w0 : Int64) (w1 : Int64) (w2 : Int64) (pv : Int32) : entryFrame m #[(.long w0), (.long w1), (.long w2), (.int pv)] 10 = mkF m 0 #[.val (.long w0), .second, .val (.long w1), .second, .val (.long w2), .second, .val (.int pv), .unset, .unset, .unset] [] := by first | (simp [entryFrame, mkF, argsToLocals, Value.category]; done) | rfl
def Q2 (Z : State) (w0 : Int64) (w1 : Int64) (w2 : Int64) (pv : Int32) (B : Nat) (hI : Heap) (n0 : Nat) (v : Option Value) (h : Heap) (L : List Loc) : Prop := v = some (.long (if own_sb (own_w3 w0 w1 w2) B then 1 else 0)) ∧ Fr n0 L ∧ h = hI
set_option maxRecDepth 65536 in
set_option maxHeartbeats 40000000 in
theorem rm2 (l : Launch) (Z : State) (a0 : Array Value) (hw : ∀ d ∈ tables_1, d.before a0 Z = true) (ws : List Jvm.Cond) (w0 : Int64) (w1 : Int64) (w2 : Int64) (pv : Int32) (B : Nat) (hI : Heap) (n0 : Nat) (Z0 : n0 ≤ hI.size) (hB : pv.toInt = B) (hB2 : B < 192) :
    MetFree l (⟨"com/example/censo/censo/compact/BitFieldsMoveUpPinLaw", "oldBit", "(JJJI)J"⟩ : MethodName) (head1 (Jvm.Cond.code (⟨"com/example/censo/censo/compact/BitFieldsMoveUpPinLaw", "oldBit", "(JJJI)J"⟩ : MethodName) method_3_code 10 (some .long) :: ws) ({ frames := 0, cells := 0, slots := 0, locals := 0 } : Room)) (fun xa U => xa = #[(.long w0), (.long w1), (.long w2), (.int pv)] ∧ Z.Warmed39 U.vm ∧ U.heap = hI) (fun _ _ _ _ _ => True) (fun _ U o U' => ∃ v L, o = .returned v ∧ Q2 Z w0 w1 w2 pv B hI n0 v U'.heap L ∧ FrameEnd U o U' L ({ frames := 0, cells := 0, slots := 0, locals := 0 } : Room).cells ({ frames := 0, cells := 0, slots := 0, locals := 0 } : Room).slots) := by
  refine own_body pn_2 ?_
  intro p e s m below meth c s₁ hx hby hml hown hnm hret hlk hZ XI eI
  obtain ⟨F, hF⟩ : ∃ F : State → JFrame → Prop, F = own_Fin p.tables e below s ({ frames := 0, cells := 0, slots := 0, locals := 0 } : Room) (Q2 Z w0 w1 w2 pv B hI n0) := ⟨_, rfl⟩
  have hst : ∀ {T T' : State} {g g' : JFrame}, (∀ t, Steps p.tables e below (T'.setTop g') t → Steps p.tables e below (T.setTop g) t) → F T' g' → F T g := by subst hF; exact own_st
  have NI := Fr.nil n0
  show own_Fin p.tables e below s ({ frames := 0, cells := 0, slots := 0, locals := 0 } : Room) (Q2 Z w0 w1 w2 pv B hI n0) s₁ (entryFrame m #[(.long w0), (.long w1), (.long w2), (.int pv)] 10)
  rw [← hF]
  rw [ef_2]
  show F s₁ (mkF m 0 #[.val (.long w0), .second, .val (.long w1), .second, .val (.long w2), .second, .val (.int pv), .unset, .unset, .unset] [])
  have k0 : (0 : Int32).toInt = 0 := by decide
  have k1 : (1 : Int32).toInt = 1 := by decide
  refine hst (fun t₀ k₀ => XS.iload XI.here hx rfl (hb hby d2_0) rfl k₀) ?_
  show F s₁ (mkF m 2 #[.val (.long w0), .second, .val (.long w1), .second, .val (.long w2), .second, .val (.int pv), .unset, .unset, .unset] [(.int pv)])
  refine hst (fun t₀ k₀ => XS.bipush XI.here hx rfl (hb hby d2_2) k₀) ?_
  show F s₁ (mkF m 4 #[.val (.long w0), .second, .val (.long w1), .second, .val (.long w2), .second, .val (.int pv), .unset, .unset, .unset] [(.int (6 : Int32)), (.int pv)])
  refine hst (fun t₀ k₀ => XS.iushr XI.here hx rfl (hb hby d2_4) rfl k₀) ?_
  show F s₁ (mkF m 5 #[.val (.long w0), .second, .val (.long w1), .second, .val (.long w2), .second, .val (.int pv), .unset, .unset, .unset] [(.int ((pv.toUInt32 >>> ((6 : Int32) &&& 31).toUInt32).toInt32))])
  generalize hwd : ((pv.toUInt32 >>> ((6 : Int32) &&& 31).toUInt32).toInt32) = wd
  show F s₁ (mkF m 5 #[.val (.long w0), .second, .val (.long w1), .second, .val (.long w2), .second, .val (.int pv), .unset, .unset, .unset] [(.int wd)])
  have kw : wd.toInt = ((B / 64 : Nat) : Int) := by rw [← hwd, c_iushr pv 6 6 (by decide) (by decide)]; omega
  refine hst (fun t₀ k₀ => XS.istore XI.here hx rfl (hb hby d2_5) rfl (l' := #[.val (.long w0), .second, .val (.long w1), .second, .val (.long w2), .second, .val (.int pv), .val (.int wd), .unset, .unset]) rfl k₀) ?_
  show F s₁ (mkF m 7 #[.val (.long w0), .second, .val (.long w1), .second, .val (.long w2), .second, .val (.int pv), .val (.int wd), .unset, .unset] [])
  refine hst (fun t₀ k₀ => XS.iload XI.here hx rfl (hb hby d2_7) rfl k₀) ?_
  show F s₁ (mkF m 9 #[.val (.long w0), .second, .val (.long w1), .second, .val (.long w2), .second, .val (.int pv), .val (.int wd), .unset, .unset] [(.int wd)])
  by_cases hc9 : wd = (0 : Int32)
  · -- pc 9: not taken
    refine hst (fun t₀ k₀ => XS.ifNo XI.here hx rfl (hb hby d2_9) rfl ((if0 _ _).trans (teq hc9).2) k₀) ?_
    show F s₁ (mkF m 12 #[.val (.long w0), .second, .val (.long w1), .second, .val (.long w2), .second, .val (.int pv), .val (.int wd), .unset, .unset] [])
    have kx : own_w3 w0 w1 w2 (B / 64) = w0 := by
      have q : B / 64 = 0 := by rw [hc9] at kw; omega
      rw [q]; rfl
    refine hst (fun t₀ k₀ => XS.lloadN XI.here hx rfl (hb hby d2_12) rfl k₀) ?_
    show F s₁ (mkF m 13 #[.val (.long w0), .second, .val (.long w1), .second, .val (.long w2), .second, .val (.int pv), .val (.int wd), .unset, .unset] [(.long w0)])
    refine hst (fun t₀ k₀ => XS.goto XI.here hx rfl (pc0 := 13) (pc' := 28) rfl (hb hby d2_13) (by decide) (by decide) k₀) ?_
    show F s₁ (mkF m 28 #[.val (.long w0), .second, .val (.long w1), .second, .val (.long w2), .second, .val (.int pv), .val (.int wd), .unset, .unset] [(.long w0)])
    refine hst (fun t₀ k₀ => XS.lstore XI.here hx rfl (hb hby d2_28) rfl (l' := #[.val (.long w0), .second, .val (.long w1), .second, .val (.long w2), .second, .val (.int pv), .val (.int wd), .val (.long w0), .second]) rfl k₀) ?_
    show F s₁ (mkF m 30 #[.val (.long w0), .second, .val (.long w1), .second, .val (.long w2), .second, .val (.int pv), .val (.int wd), .val (.long w0), .second] [])
    refine hst (fun t₀ k₀ => XS.lload XI.here hx rfl (hb hby d2_30) rfl k₀) ?_
    show F s₁ (mkF m 32 #[.val (.long w0), .second, .val (.long w1), .second, .val (.long w2), .second, .val (.int pv), .val (.int wd), .val (.long w0), .second] [(.long w0)])
    refine hst (fun t₀ k₀ => XS.iload XI.here hx rfl (hb hby d2_32) rfl k₀) ?_
    show F s₁ (mkF m 34 #[.val (.long w0), .second, .val (.long w1), .second, .val (.long w2), .second, .val (.int pv), .val (.int wd), .val (.long w0), .second] [(.int pv), (.long w0)])
    refine hst (fun t₀ k₀ => XS.bipush XI.here hx rfl (hb hby d2_34) k₀) ?_
    show F s₁ (mkF m 36 #[.val (.long w0), .second, .val (.long w1), .second, .val (.long w2), .second, .val (.int pv), .val (.int wd), .val (.long w0), .second] [(.int (63 : Int32)), (.int pv), (.long w0)])
    refine hst (fun t₀ k₀ => XS.iand XI.here hx rfl (hb hby d2_36) rfl k₀) ?_
    show F s₁ (mkF m 37 #[.val (.long w0), .second, .val (.long w1), .second, .val (.long w2), .second, .val (.int pv), .val (.int wd), .val (.long w0), .second] [(.int (pv &&& (63 : Int32))), (.long w0)])
    generalize hsh : (pv &&& (63 : Int32)) = sh
    show F s₁ (mkF m 37 #[.val (.long w0), .second, .val (.long w1), .second, .val (.long w2), .second, .val (.int pv), .val (.int wd), .val (.long w0), .second] [(.int sh), (.long w0)])
    have ks : sh.toInt = ((B % 64 : Nat) : Int) := by rw [← hsh, c_mask pv 63 6 (by decide) (by decide)]; omega
    refine hst (fun t₀ k₀ => XS.lushr XI.here hx rfl (hb hby d2_37) rfl k₀) ?_
    show F s₁ (mkF m 38 #[.val (.long w0), .second, .val (.long w1), .second, .val (.long w2), .second, .val (.int pv), .val (.int wd), .val (.long w0), .second] [(.long ((w0.toUInt64 >>> (sh &&& 0x3f).toInt64.toUInt64).toInt64))])
    refine hst (fun t₀ k₀ => XS.lconst XI.here hx rfl (hb hby d2_38) k₀) ?_
    show F s₁ (mkF m 39 #[.val (.long w0), .second, .val (.long w1), .second, .val (.long w2), .second, .val (.int pv), .val (.int wd), .val (.long w0), .second] [(.long (1 : Int64)), (.long ((w0.toUInt64 >>> (sh &&& 0x3f).toInt64.toUInt64).toInt64))])
    refine hst (fun t₀ k₀ => XS.land XI.here hx rfl (hb hby d2_39) rfl k₀) ?_
    show F s₁ (mkF m 40 #[.val (.long w0), .second, .val (.long w1), .second, .val (.long w2), .second, .val (.int pv), .val (.int wd), .val (.long w0), .second] [(.long (((w0.toUInt64 >>> (sh &&& 0x3f).toInt64.toUInt64).toInt64) &&& (1 : Int64)))])
    rw [hF]
    refine own_retJ XI hx hret hlk (hb hby d2_40) (by decide) (by decide) ?_
    rw [eI]
    exact ⟨(by rw [own_one _ sh _ ks (by omega)]; unfold own_sb own_b; rw [kx]), NI, rfl⟩
  · -- pc 9: taken
    refine hst (fun t₀ k₀ => XS.ifYes XI.here hx rfl (pc0 := 9) (pc' := 16) rfl (hb hby d2_9) rfl ((if0 _ _).trans (feq hc9).2) (by decide) (by decide) k₀) ?_
    show F s₁ (mkF m 16 #[.val (.long w0), .second, .val (.long w1), .second, .val (.long w2), .second, .val (.int pv), .val (.int wd), .unset, .unset] [])
    have q9 : ¬ B / 64 = 0 := fun q => hc9 (Int32.toInt_inj.mp (by omega))
    refine hst (fun t₀ k₀ => XS.iload XI.here hx rfl (hb hby d2_16) rfl k₀) ?_
    show F s₁ (mkF m 18 #[.val (.long w0), .second, .val (.long w1), .second, .val (.long w2), .second, .val (.int pv), .val (.int wd), .unset, .unset] [(.int wd)])
    refine hst (fun t₀ k₀ => XS.iconst XI.here hx rfl (hb hby d2_18) k₀) ?_
    show F s₁ (mkF m 19 #[.val (.long w0), .second, .val (.long w1), .second, .val (.long w2), .second, .val (.int pv), .val (.int wd), .unset, .unset] [(.int (1 : Int32)), (.int wd)])
    by_cases hc19 : wd = (1 : Int32)
    · -- pc 19: not taken
      refine hst (fun t₀ k₀ => XS.icmpNo XI.here hx rfl (hb hby d2_19) rfl (teq hc19).2 k₀) ?_
      show F s₁ (mkF m 22 #[.val (.long w0), .second, .val (.long w1), .second, .val (.long w2), .second, .val (.int pv), .val (.int wd), .unset, .unset] [])
      have kx : own_w3 w0 w1 w2 (B / 64) = w1 := by
        have q : B / 64 = 1 := by rw [hc19] at kw; omega
        rw [q]; rfl
      refine hst (fun t₀ k₀ => XS.lloadN XI.here hx rfl (hb hby d2_22) rfl k₀) ?_
      show F s₁ (mkF m 23 #[.val (.long w0), .second, .val (.long w1), .second, .val (.long w2), .second, .val (.int pv), .val (.int wd), .unset, .unset] [(.long w1)])
      refine hst (fun t₀ k₀ => XS.goto XI.here hx rfl (pc0 := 23) (pc' := 28) rfl (hb hby d2_23) (by decide) (by decide) k₀) ?_
      show F s₁ (mkF m 28 #[.val (.long w0), .second, .val (.long w1), .second, .val (.long w2), .second, .val (.int pv), .val (.int wd), .unset, .unset] [(.long w1)])
      refine hst (fun t₀ k₀ => XS.lstore XI.here hx rfl (hb hby d2_28) rfl (l' := #[.val (.long w0), .second, .val (.long w1), .second, .val (.long w2), .second, .val (.int pv), .val (.int wd), .val (.long w1), .second]) rfl k₀) ?_
      show F s₁ (mkF m 30 #[.val (.long w0), .second, .val (.long w1), .second, .val (.long w2), .second, .val (.int pv), .val (.int wd), .val (.long w1), .second] [])
      refine hst (fun t₀ k₀ => XS.lload XI.here hx rfl (hb hby d2_30) rfl k₀) ?_
      show F s₁ (mkF m 32 #[.val (.long w0), .second, .val (.long w1), .second, .val (.long w2), .second, .val (.int pv), .val (.int wd), .val (.long w1), .second] [(.long w1)])
      refine hst (fun t₀ k₀ => XS.iload XI.here hx rfl (hb hby d2_32) rfl k₀) ?_
      show F s₁ (mkF m 34 #[.val (.long w0), .second, .val (.long w1), .second, .val (.long w2), .second, .val (.int pv), .val (.int wd), .val (.long w1), .second] [(.int pv), (.long w1)])
      refine hst (fun t₀ k₀ => XS.bipush XI.here hx rfl (hb hby d2_34) k₀) ?_
      show F s₁ (mkF m 36 #[.val (.long w0), .second, .val (.long w1), .second, .val (.long w2), .second, .val (.int pv), .val (.int wd), .val (.long w1), .second] [(.int (63 : Int32)), (.int pv), (.long w1)])
      refine hst (fun t₀ k₀ => XS.iand XI.here hx rfl (hb hby d2_36) rfl k₀) ?_
      show F s₁ (mkF m 37 #[.val (.long w0), .second, .val (.long w1), .second, .val (.long w2), .second, .val (.int pv), .val (.int wd), .val (.long w1), .second] [(.int (pv &&& (63 : Int32))), (.long w1)])
      generalize hsh : (pv &&& (63 : Int32)) = sh
      show F s₁ (mkF m 37 #[.val (.long w0), .second, .val (.long w1), .second, .val (.long w2), .second, .val (.int pv), .val (.int wd), .val (.long w1), .second] [(.int sh), (.long w1)])
      have ks : sh.toInt = ((B % 64 : Nat) : Int) := by rw [← hsh, c_mask pv 63 6 (by decide) (by decide)]; omega
      refine hst (fun t₀ k₀ => XS.lushr XI.here hx rfl (hb hby d2_37) rfl k₀) ?_
      show F s₁ (mkF m 38 #[.val (.long w0), .second, .val (.long w1), .second, .val (.long w2), .second, .val (.int pv), .val (.int wd), .val (.long w1), .second] [(.long ((w1.toUInt64 >>> (sh &&& 0x3f).toInt64.toUInt64).toInt64))])
      refine hst (fun t₀ k₀ => XS.lconst XI.here hx rfl (hb hby d2_38) k₀) ?_
      show F s₁ (mkF m 39 #[.val (.long w0), .second, .val (.long w1), .second, .val (.long w2), .second, .val (.int pv), .val (.int wd), .val (.long w1), .second] [(.long (1 : Int64)), (.long ((w1.toUInt64 >>> (sh &&& 0x3f).toInt64.toUInt64).toInt64))])
      refine hst (fun t₀ k₀ => XS.land XI.here hx rfl (hb hby d2_39) rfl k₀) ?_
      show F s₁ (mkF m 40 #[.val (.long w0), .second, .val (.long w1), .second, .val (.long w2), .second, .val (.int pv), .val (.int wd), .val (.long w1), .second] [(.long (((w1.toUInt64 >>> (sh &&& 0x3f).toInt64.toUInt64).toInt64) &&& (1 : Int64)))])
      rw [hF]
      refine own_retJ XI hx hret hlk (hb hby d2_40) (by decide) (by decide) ?_
      rw [eI]
      exact ⟨(by rw [own_one _ sh _ ks (by omega)]; unfold own_sb own_b; rw [kx]), NI, rfl⟩
    · -- pc 19: taken
      refine hst (fun t₀ k₀ => XS.icmpYes XI.here hx rfl (pc0 := 19) (pc' := 26) rfl (hb hby d2_19) rfl (feq hc19).2 (by decide) (by decide) k₀) ?_
      show F s₁ (mkF m 26 #[.val (.long w0), .second, .val (.long w1), .second, .val (.long w2), .second, .val (.int pv), .val (.int wd), .unset, .unset] [])
      have q19 : ¬ B / 64 = 1 := fun q => hc19 (Int32.toInt_inj.mp (by omega))
      have kx : own_w3 w0 w1 w2 (B / 64) = w2 := by unfold own_w3; rw [if_neg q9, if_neg q19]
      refine hst (fun t₀ k₀ => XS.lload XI.here hx rfl (hb hby d2_26) rfl k₀) ?_
      show F s₁ (mkF m 28 #[.val (.long w0), .second, .val (.long w1), .second, .val (.long w2), .second, .val (.int pv), .val (.int wd), .unset, .unset] [(.long w2)])
      refine hst (fun t₀ k₀ => XS.lstore XI.here hx rfl (hb hby d2_28) rfl (l' := #[.val (.long w0), .second, .val (.long w1), .second, .val (.long w2), .second, .val (.int pv), .val (.int wd), .val (.long w2), .second]) rfl k₀) ?_
      show F s₁ (mkF m 30 #[.val (.long w0), .second, .val (.long w1), .second, .val (.long w2), .second, .val (.int pv), .val (.int wd), .val (.long w2), .second] [])
      refine hst (fun t₀ k₀ => XS.lload XI.here hx rfl (hb hby d2_30) rfl k₀) ?_
      show F s₁ (mkF m 32 #[.val (.long w0), .second, .val (.long w1), .second, .val (.long w2), .second, .val (.int pv), .val (.int wd), .val (.long w2), .second] [(.long w2)])
      refine hst (fun t₀ k₀ => XS.iload XI.here hx rfl (hb hby d2_32) rfl k₀) ?_
      show F s₁ (mkF m 34 #[.val (.long w0), .second, .val (.long w1), .second, .val (.long w2), .second, .val (.int pv), .val (.int wd), .val (.long w2), .second] [(.int pv), (.long w2)])
      refine hst (fun t₀ k₀ => XS.bipush XI.here hx rfl (hb hby d2_34) k₀) ?_
      show F s₁ (mkF m 36 #[.val (.long w0), .second, .val (.long w1), .second, .val (.long w2), .second, .val (.int pv), .val (.int wd), .val (.long w2), .second] [(.int (63 : Int32)), (.int pv), (.long w2)])
      refine hst (fun t₀ k₀ => XS.iand XI.here hx rfl (hb hby d2_36) rfl k₀) ?_
      show F s₁ (mkF m 37 #[.val (.long w0), .second, .val (.long w1), .second, .val (.long w2), .second, .val (.int pv), .val (.int wd), .val (.long w2), .second] [(.int (pv &&& (63 : Int32))), (.long w2)])
      generalize hsh : (pv &&& (63 : Int32)) = sh
      show F s₁ (mkF m 37 #[.val (.long w0), .second, .val (.long w1), .second, .val (.long w2), .second, .val (.int pv), .val (.int wd), .val (.long w2), .second] [(.int sh), (.long w2)])
      have ks : sh.toInt = ((B % 64 : Nat) : Int) := by rw [← hsh, c_mask pv 63 6 (by decide) (by decide)]; omega
      refine hst (fun t₀ k₀ => XS.lushr XI.here hx rfl (hb hby d2_37) rfl k₀) ?_
      show F s₁ (mkF m 38 #[.val (.long w0), .second, .val (.long w1), .second, .val (.long w2), .second, .val (.int pv), .val (.int wd), .val (.long w2), .second] [(.long ((w2.toUInt64 >>> (sh &&& 0x3f).toInt64.toUInt64).toInt64))])
      refine hst (fun t₀ k₀ => XS.lconst XI.here hx rfl (hb hby d2_38) k₀) ?_
      show F s₁ (mkF m 39 #[.val (.long w0), .second, .val (.long w1), .second, .val (.long w2), .second, .val (.int pv), .val (.int wd), .val (.long w2), .second] [(.long (1 : Int64)), (.long ((w2.toUInt64 >>> (sh &&& 0x3f).toInt64.toUInt64).toInt64))])
      refine hst (fun t₀ k₀ => XS.land XI.here hx rfl (hb hby d2_39) rfl k₀) ?_
      show F s₁ (mkF m 40 #[.val (.long w0), .second, .val (.long w1), .second, .val (.long w2), .second, .val (.int pv), .val (.int wd), .val (.long w2), .second] [(.long (((w2.toUInt64 >>> (sh &&& 0x3f).toInt64.toUInt64).toInt64) &&& (1 : Int64)))])
      rw [hF]
      refine own_retJ XI hx hret hlk (hb hby d2_40) (by decide) (by decide) ?_
      rw [eI]
      exact ⟨(by rw [own_one _ sh _ ks (by omega)]; unfold own_sb own_b; rw [kx]), NI, rfl⟩
theorem pn_0 : plainFor x = true := plainFor_of_name (by first | (simp [plainName, overriddenIn]; done) | decide +kernel)
theorem pd_1 : parseMethodDescriptor "([JII)V" = some ⟨[(.array .long), .int, .int], none⟩ := by decide +kernel
theorem pd_0 : parseMethodDescriptor "(JJJI)J" = some ⟨[.long, .long, .long, .int], some .long⟩ := by decide +kernel
theorem ef_0 (m : MethodId) (q0 : Int64) (q1 : Int64) (q2 : Int64) (p3 : Int32) (p4 : Int32) (p5 : Int32) : entryFrame m #[(.long q0), (.long q1), (.long q2), (.int p3), (.int p4), (.int p5)] maxLocals = mkF m 0 #[.val (.long q0), .second, .val (.long q1), .second, .val (.long q2), .second, .val (.int p3), .val (.int p4), .val (.int p5), .unset, .unset, .unset, .unset, .unset, .unset, .unset, .unset, .unset, .unset, .unset] [] := by first | (simp [entryFrame, mkF, argsToLocals, Value.category, maxLocals]; done) | rfl
def Q0 (Z : State) (q0 : Int64) (q1 : Int64) (q2 : Int64) (p3 : Int32) (p4 : Int32) (p5 : Int32) (hI : Heap) (n0 : Nat) (v : Option Value) (h : Heap) (L : List Loc) : Prop := v = some (.int 1) ∧ Fr n0 L
set_option maxRecDepth 65536 in
set_option maxHeartbeats 40000000 in
theorem rm0 (l : Launch) (Z : State) (a0 : Array Value) (hw : ∀ d ∈ tables_1, d.before a0 Z = true) (ws : List Jvm.Cond) (q0 : Int64) (q1 : Int64) (q2 : Int64) (p3 : Int32) (p4 : Int32) (p5 : Int32) (hI : Heap) (n0 : Nat) (Z0 : n0 ≤ hI.size) :
    MetFree l x (head1 (Jvm.Cond.code x code maxLocals ret :: ws) room_1) (fun xa U => xa = #[(.long q0), (.long q1), (.long q2), (.int p3), (.int p4), (.int p5)] ∧ Z.Warmed39 U.vm ∧ U.heap = hI) (fun _ _ _ _ _ => True) (fun _ U o U' => ∃ v L, o = .returned v ∧ Q0 Z q0 q1 q2 p3 p4 p5 hI n0 v U'.heap L ∧ FrameEnd U o U' L room_1.cells room_1.slots) := by
  refine own_body pn_0 ?_
  intro p e s m below meth c s₁ hx hby hml hown hnm hret hlk hZ XI eI
  have hml : c.maxLocals = 20 := hml
  obtain ⟨F, hF⟩ : ∃ F : State → JFrame → Prop, F = own_Fin p.tables e below s room_1 (Q0 Z q0 q1 q2 p3 p4 p5 hI n0) := ⟨_, rfl⟩
  have hst : ∀ {T T' : State} {g g' : JFrame}, (∀ t, Steps p.tables e below (T'.setTop g') t → Steps p.tables e below (T.setTop g) t) → F T' g' → F T g := by subst hF; exact own_st
  have NI := Fr.nil n0
  show own_Fin p.tables e below s room_1 (Q0 Z q0 q1 q2 p3 p4 p5 hI n0) s₁ (entryFrame m #[(.long q0), (.long q1), (.long q2), (.int p3), (.int p4), (.int p5)] maxLocals)
  rw [← hF]
  rw [ef_0]
  show F s₁ (mkF m 0 #[.val (.long q0), .second, .val (.long q1), .second, .val (.long q2), .second, .val (.int p3), .val (.int p4), .val (.int p5), .unset, .unset, .unset, .unset, .unset, .unset, .unset, .unset, .unset, .unset, .unset] [])
  have k0 : (0 : Int32).toInt = 0 := by decide
  have k1 : (1 : Int32).toInt = 1 := by decide
  have k64 : (64 : Int32).toInt = 64 := by decide
  have k3 : (3 : Int32).toInt = 3 := by decide
  have k2 : (2 : Int32).toInt = 2 := by decide
  refine hst (fun t₀ k₀ => XS.iconst XI.here hx rfl (hb hby at_0) k₀) ?_
  show F s₁ (mkF m 1 #[.val (.long q0), .second, .val (.long q1), .second, .val (.long q2), .second, .val (.int p3), .val (.int p4), .val (.int p5), .unset, .unset, .unset, .unset, .unset, .unset, .unset, .unset, .unset, .unset, .unset] [(.int (1 : Int32))])
  refine hst (fun t₀ k₀ => XS.iload XI.here hx rfl (hb hby at_1) rfl k₀) ?_
  show F s₁ (mkF m 3 #[.val (.long q0), .second, .val (.long q1), .second, .val (.long q2), .second, .val (.int p3), .val (.int p4), .val (.int p5), .unset, .unset, .unset, .unset, .unset, .unset, .unset, .unset, .unset, .unset, .unset] [(.int p5), (.int (1 : Int32))])
  refine hst (fun t₀ k₀ => XS.bipush XI.here hx rfl (hb hby at_3) k₀) ?_
  show F s₁ (mkF m 5 #[.val (.long q0), .second, .val (.long q1), .second, .val (.long q2), .second, .val (.int p3), .val (.int p4), .val (.int p5), .unset, .unset, .unset, .unset, .unset, .unset, .unset, .unset, .unset, .unset, .unset] [(.int (16 : Int32)), (.int p5), (.int (1 : Int32))])
  refine hst (fun t₀ k₀ => XS.iushr XI.here hx rfl (hb hby at_5) rfl k₀) ?_
  show F s₁ (mkF m 6 #[.val (.long q0), .second, .val (.long q1), .second, .val (.long q2), .second, .val (.int p3), .val (.int p4), .val (.int p5), .unset, .unset, .unset, .unset, .unset, .unset, .unset, .unset, .unset, .unset, .unset] [(.int ((p5.toUInt32 >>> ((16 : Int32) &&& 31).toUInt32).toInt32)), (.int (1 : Int32))])
  generalize hus : ((p5.toUInt32 >>> ((16 : Int32) &&& 31).toUInt32).toInt32) = us
  show F s₁ (mkF m 6 #[.val (.long q0), .second, .val (.long q1), .second, .val (.long q2), .second, .val (.int p3), .val (.int p4), .val (.int p5), .unset, .unset, .unset, .unset, .unset, .unset, .unset, .unset, .unset, .unset, .unset] [(.int us), (.int (1 : Int32))])
  have kus : us.toInt = p5.toInt % 4294967296 / (2 ^ 16 : Nat) := by rw [← hus, c_iushr p5 16 16 (by decide) (by decide)]
  refine hst (fun t₀ k₀ => XS.iconst XI.here hx rfl (hb hby at_6) k₀) ?_
  show F s₁ (mkF m 7 #[.val (.long q0), .second, .val (.long q1), .second, .val (.long q2), .second, .val (.int p3), .val (.int p4), .val (.int p5), .unset, .unset, .unset, .unset, .unset, .unset, .unset, .unset, .unset, .unset, .unset] [(.int (3 : Int32)), (.int us), (.int (1 : Int32))])
  refine hst (fun t₀ k₀ => iremM XI hx rfl (hb hby at_7) rfl (by decide) k₀) ?_
  show F s₁ (mkF m 8 #[.val (.long q0), .second, .val (.long q1), .second, .val (.long q2), .second, .val (.int p3), .val (.int p4), .val (.int p5), .unset, .unset, .unset, .unset, .unset, .unset, .unset, .unset, .unset, .unset, .unset] [(.int (us % (3 : Int32))), (.int (1 : Int32))])
  refine hst (fun t₀ k₀ => XS.iadd XI.here hx rfl (hb hby at_8) rfl k₀) ?_
  show F s₁ (mkF m 9 #[.val (.long q0), .second, .val (.long q1), .second, .val (.long q2), .second, .val (.int p3), .val (.int p4), .val (.int p5), .unset, .unset, .unset, .unset, .unset, .unset, .unset, .unset, .unset, .unset, .unset] [(.int ((1 : Int32) + (us % (3 : Int32))))])
  generalize hnv : ((1 : Int32) + (us % (3 : Int32))) = nv
  show F s₁ (mkF m 9 #[.val (.long q0), .second, .val (.long q1), .second, .val (.long q2), .second, .val (.int p3), .val (.int p4), .val (.int p5), .unset, .unset, .unset, .unset, .unset, .unset, .unset, .unset, .unset, .unset, .unset] [(.int nv)])
  have hn3 : ∃ N : Nat, nv.toInt = N ∧ 1 ≤ N ∧ N ≤ 3 := by
    have hr := rng32 p5
    have h2 := (c_irem us 3 3 (by decide)).1 (by omega)
    have h3 := c_iadd 1 (us % 3); have h4 := rng32 nv; rw [hnv] at h3; exact ⟨nv.toInt.toNat, by omega, by omega, by omega⟩
  obtain ⟨N, hN, hN1, hN3⟩ := hn3
  refine hst (fun t₀ k₀ => XS.istore XI.here hx rfl (hb hby at_9) rfl (l' := #[.val (.long q0), .second, .val (.long q1), .second, .val (.long q2), .second, .val (.int p3), .val (.int p4), .val (.int p5), .val (.int nv), .unset, .unset, .unset, .unset, .unset, .unset, .unset, .unset, .unset, .unset]) rfl k₀) ?_
  show F s₁ (mkF m 11 #[.val (.long q0), .second, .val (.long q1), .second, .val (.long q2), .second, .val (.int p3), .val (.int p4), .val (.int p5), .val (.int nv), .unset, .unset, .unset, .unset, .unset, .unset, .unset, .unset, .unset, .unset] [])
  refine hst (fun t₀ k₀ => XS.bipush XI.here hx rfl (hb hby at_11) k₀) ?_
  show F s₁ (mkF m 13 #[.val (.long q0), .second, .val (.long q1), .second, .val (.long q2), .second, .val (.int p3), .val (.int p4), .val (.int p5), .val (.int nv), .unset, .unset, .unset, .unset, .unset, .unset, .unset, .unset, .unset, .unset] [(.int (64 : Int32))])
  refine hst (fun t₀ k₀ => XS.iload XI.here hx rfl (hb hby at_13) rfl k₀) ?_
  show F s₁ (mkF m 15 #[.val (.long q0), .second, .val (.long q1), .second, .val (.long q2), .second, .val (.int p3), .val (.int p4), .val (.int p5), .val (.int nv), .unset, .unset, .unset, .unset, .unset, .unset, .unset, .unset, .unset, .unset] [(.int nv), (.int (64 : Int32))])
  refine hst (fun t₀ k₀ => XS.imul XI.here hx rfl (hb hby at_15) rfl k₀) ?_
  show F s₁ (mkF m 16 #[.val (.long q0), .second, .val (.long q1), .second, .val (.long q2), .second, .val (.int p3), .val (.int p4), .val (.int p5), .val (.int nv), .unset, .unset, .unset, .unset, .unset, .unset, .unset, .unset, .unset, .unset] [(.int ((64 : Int32) * nv))])
  generalize hsz : ((64 : Int32) * nv) = sz
  show F s₁ (mkF m 16 #[.val (.long q0), .second, .val (.long q1), .second, .val (.long q2), .second, .val (.int p3), .val (.int p4), .val (.int p5), .val (.int nv), .unset, .unset, .unset, .unset, .unset, .unset, .unset, .unset, .unset, .unset] [(.int sz)])
  have ksz : sz.toInt = ((64 * N : Nat) : Int) := by have h1 := c_imul 64 nv; have h2 := rng32 sz; rw [hsz, k64, hN] at h1; omega
  have nzsz : sz ≠ 0 := fun q => by rw [own_eq32] at q; omega
  refine hst (fun t₀ k₀ => XS.istore XI.here hx rfl (hb hby at_16) rfl (l' := #[.val (.long q0), .second, .val (.long q1), .second, .val (.long q2), .second, .val (.int p3), .val (.int p4), .val (.int p5), .val (.int nv), .val (.int sz), .unset, .unset, .unset, .unset, .unset, .unset, .unset, .unset, .unset]) rfl k₀) ?_
  show F s₁ (mkF m 18 #[.val (.long q0), .second, .val (.long q1), .second, .val (.long q2), .second, .val (.int p3), .val (.int p4), .val (.int p5), .val (.int nv), .val (.int sz), .unset, .unset, .unset, .unset, .unset, .unset, .unset, .unset, .unset] [])
  refine hst (fun t₀ k₀ => XS.iload XI.here hx rfl (hb hby at_18) rfl k₀) ?_
  show F s₁ (mkF m 20 #[.val (.long q0), .second, .val (.long q1), .second, .val (.long q2), .second, .val (.int p3), .val (.int p4), .val (.int p5), .val (.int nv), .val (.int sz), .unset, .unset, .unset, .unset, .unset, .unset, .unset, .unset, .unset] [(.int p5)])
  refine hst (fun t₀ k₀ => XI.ldcI hx hown (mvT hZ (hw _ (List.mem_of_getElem? (i := 0) rfl))) (g := (mkF m 20 #[.val (.long q0), .second, .val (.long q1), .second, .val (.long q2), .second, .val (.int p3), .val (.int p4), .val (.int p5), .val (.int nv), .val (.int sz), .unset, .unset, .unset, .unset, .unset, .unset, .unset, .unset, .unset] [(.int p5)])) rfl (hb hby at_20) k₀) ?_
  show F s₁ (mkF m 22 #[.val (.long q0), .second, .val (.long q1), .second, .val (.long q2), .second, .val (.int p3), .val (.int p4), .val (.int p5), .val (.int nv), .val (.int sz), .unset, .unset, .unset, .unset, .unset, .unset, .unset, .unset, .unset] [(.int (65535 : Int32)), (.int p5)])
  refine hst (fun t₀ k₀ => XS.iand XI.here hx rfl (hb hby at_22) rfl k₀) ?_
  show F s₁ (mkF m 23 #[.val (.long q0), .second, .val (.long q1), .second, .val (.long q2), .second, .val (.int p3), .val (.int p4), .val (.int p5), .val (.int nv), .val (.int sz), .unset, .unset, .unset, .unset, .unset, .unset, .unset, .unset, .unset] [(.int (p5 &&& (65535 : Int32)))])
  refine hst (fun t₀ k₀ => XS.iload XI.here hx rfl (hb hby at_23) rfl k₀) ?_
  show F s₁ (mkF m 25 #[.val (.long q0), .second, .val (.long q1), .second, .val (.long q2), .second, .val (.int p3), .val (.int p4), .val (.int p5), .val (.int nv), .val (.int sz), .unset, .unset, .unset, .unset, .unset, .unset, .unset, .unset, .unset] [(.int sz), (.int (p5 &&& (65535 : Int32)))])
  refine hst (fun t₀ k₀ => iremM XI hx rfl (hb hby at_25) rfl nzsz k₀) ?_
  show F s₁ (mkF m 26 #[.val (.long q0), .second, .val (.long q1), .second, .val (.long q2), .second, .val (.int p3), .val (.int p4), .val (.int p5), .val (.int nv), .val (.int sz), .unset, .unset, .unset, .unset, .unset, .unset, .unset, .unset, .unset] [(.int ((p5 &&& (65535 : Int32)) % sz))])
  generalize hiv : ((p5 &&& (65535 : Int32)) % sz) = iv
  show F s₁ (mkF m 26 #[.val (.long q0), .second, .val (.long q1), .second, .val (.long q2), .second, .val (.int p3), .val (.int p4), .val (.int p5), .val (.int nv), .val (.int sz), .unset, .unset, .unset, .unset, .unset, .unset, .unset, .unset, .unset] [(.int iv)])
  obtain ⟨i, hI, hI2⟩ : ∃ i : Nat, iv.toInt = i ∧ i < 64 * N := by
    have h1 := c_mask p5 65535 16 (by decide) (by decide); have h2 := (c_irem (p5 &&& 65535) sz _ ksz).1 (by omega); rw [hiv] at h2; have h3 := Int.emod_lt_of_pos (p5 &&& 65535).toInt (b := ((64 * N : Nat) : Int)) (by omega); have h4 := Int.emod_nonneg (p5 &&& 65535).toInt (b := ((64 * N : Nat) : Int)) (by omega); exact ⟨iv.toInt.toNat, by omega, by omega⟩
  refine hst (fun t₀ k₀ => XS.istore XI.here hx rfl (hb hby at_26) rfl (l' := #[.val (.long q0), .second, .val (.long q1), .second, .val (.long q2), .second, .val (.int p3), .val (.int p4), .val (.int p5), .val (.int nv), .val (.int sz), .val (.int iv), .unset, .unset, .unset, .unset, .unset, .unset, .unset, .unset]) rfl k₀) ?_
  show F s₁ (mkF m 28 #[.val (.long q0), .second, .val (.long q1), .second, .val (.long q2), .second, .val (.int p3), .val (.int p4), .val (.int p5), .val (.int nv), .val (.int sz), .val (.int iv), .unset, .unset, .unset, .unset, .unset, .unset, .unset, .unset] [])
  refine hst (fun t₀ k₀ => XS.iload XI.here hx rfl (hb hby at_28) rfl k₀) ?_
  show F s₁ (mkF m 30 #[.val (.long q0), .second, .val (.long q1), .second, .val (.long q2), .second, .val (.int p3), .val (.int p4), .val (.int p5), .val (.int nv), .val (.int sz), .val (.int iv), .unset, .unset, .unset, .unset, .unset, .unset, .unset, .unset] [(.int p3)])
  refine hst (fun t₀ k₀ => XI.ldcI hx hown (mvT hZ (hw _ (List.mem_of_getElem? (i := 1) rfl))) (g := (mkF m 30 #[.val (.long q0), .second, .val (.long q1), .second, .val (.long q2), .second, .val (.int p3), .val (.int p4), .val (.int p5), .val (.int nv), .val (.int sz), .val (.int iv), .unset, .unset, .unset, .unset, .unset, .unset, .unset, .unset] [(.int p3)])) rfl (hb hby at_30) k₀) ?_
  show F s₁ (mkF m 32 #[.val (.long q0), .second, .val (.long q1), .second, .val (.long q2), .second, .val (.int p3), .val (.int p4), .val (.int p5), .val (.int nv), .val (.int sz), .val (.int iv), .unset, .unset, .unset, .unset, .unset, .unset, .unset, .unset] [(.int (2147483647 : Int32)), (.int p3)])
  refine hst (fun t₀ k₀ => XS.iand XI.here hx rfl (hb hby at_32) rfl k₀) ?_
  show F s₁ (mkF m 33 #[.val (.long q0), .second, .val (.long q1), .second, .val (.long q2), .second, .val (.int p3), .val (.int p4), .val (.int p5), .val (.int nv), .val (.int sz), .val (.int iv), .unset, .unset, .unset, .unset, .unset, .unset, .unset, .unset] [(.int (p3 &&& (2147483647 : Int32)))])
  refine hst (fun t₀ k₀ => XS.iload XI.here hx rfl (hb hby at_33) rfl k₀) ?_
  show F s₁ (mkF m 35 #[.val (.long q0), .second, .val (.long q1), .second, .val (.long q2), .second, .val (.int p3), .val (.int p4), .val (.int p5), .val (.int nv), .val (.int sz), .val (.int iv), .unset, .unset, .unset, .unset, .unset, .unset, .unset, .unset] [(.int sz), (.int (p3 &&& (2147483647 : Int32)))])
  refine hst (fun t₀ k₀ => XS.iconst XI.here hx rfl (hb hby at_35) k₀) ?_
  show F s₁ (mkF m 36 #[.val (.long q0), .second, .val (.long q1), .second, .val (.long q2), .second, .val (.int p3), .val (.int p4), .val (.int p5), .val (.int nv), .val (.int sz), .val (.int iv), .unset, .unset, .unset, .unset, .unset, .unset, .unset, .unset] [(.int (1 : Int32)), (.int sz), (.int (p3 &&& (2147483647 : Int32)))])
  refine hst (fun t₀ k₀ => XS.iadd XI.here hx rfl (hb hby at_36) rfl k₀) ?_
  show F s₁ (mkF m 37 #[.val (.long q0), .second, .val (.long q1), .second, .val (.long q2), .second, .val (.int p3), .val (.int p4), .val (.int p5), .val (.int nv), .val (.int sz), .val (.int iv), .unset, .unset, .unset, .unset, .unset, .unset, .unset, .unset] [(.int (sz + (1 : Int32))), (.int (p3 &&& (2147483647 : Int32)))])
  generalize hs1 : (sz + (1 : Int32)) = s1
  show F s₁ (mkF m 37 #[.val (.long q0), .second, .val (.long q1), .second, .val (.long q2), .second, .val (.int p3), .val (.int p4), .val (.int p5), .val (.int nv), .val (.int sz), .val (.int iv), .unset, .unset, .unset, .unset, .unset, .unset, .unset, .unset] [(.int s1), (.int (p3 &&& (2147483647 : Int32)))])
  have ks1 : s1.toInt = ((64 * N + 1 : Nat) : Int) := by have h1 := c_iadd sz 1; have h2 := rng32 s1; rw [hs1] at h1; omega
  have nzs1 : s1 ≠ 0 := fun q => by rw [own_eq32] at q; omega
  refine hst (fun t₀ k₀ => iremM XI hx rfl (hb hby at_37) rfl nzs1 k₀) ?_
  show F s₁ (mkF m 38 #[.val (.long q0), .second, .val (.long q1), .second, .val (.long q2), .second, .val (.int p3), .val (.int p4), .val (.int p5), .val (.int nv), .val (.int sz), .val (.int iv), .unset, .unset, .unset, .unset, .unset, .unset, .unset, .unset] [(.int ((p3 &&& (2147483647 : Int32)) % s1))])
  generalize hfv : ((p3 &&& (2147483647 : Int32)) % s1) = fv
  show F s₁ (mkF m 38 #[.val (.long q0), .second, .val (.long q1), .second, .val (.long q2), .second, .val (.int p3), .val (.int p4), .val (.int p5), .val (.int nv), .val (.int sz), .val (.int iv), .unset, .unset, .unset, .unset, .unset, .unset, .unset, .unset] [(.int fv)])
  obtain ⟨A, hA, hA2⟩ : ∃ A : Nat, fv.toInt = A ∧ A ≤ 64 * N := by
    have h1 := c_mask p3 2147483647 31 (by decide) (by decide); have h2 := (c_irem (p3 &&& 2147483647) s1 _ ks1).1 (by omega); rw [hfv] at h2; have h3 := Int.emod_lt_of_pos (p3 &&& 2147483647).toInt (b := ((64 * N + 1 : Nat) : Int)) (by omega); have h4 := Int.emod_nonneg (p3 &&& 2147483647).toInt (b := ((64 * N + 1 : Nat) : Int)) (by omega); exact ⟨fv.toInt.toNat, by omega, by omega⟩
  refine hst (fun t₀ k₀ => XS.istore XI.here hx rfl (hb hby at_38) rfl (l' := #[.val (.long q0), .second, .val (.long q1), .second, .val (.long q2), .second, .val (.int p3), .val (.int p4), .val (.int p5), .val (.int nv), .val (.int sz), .val (.int iv), .val (.int fv), .unset, .unset, .unset, .unset, .unset, .unset, .unset]) rfl k₀) ?_
  show F s₁ (mkF m 40 #[.val (.long q0), .second, .val (.long q1), .second, .val (.long q2), .second, .val (.int p3), .val (.int p4), .val (.int p5), .val (.int nv), .val (.int sz), .val (.int iv), .val (.int fv), .unset, .unset, .unset, .unset, .unset, .unset, .unset] [])
  refine hst (fun t₀ k₀ => XS.iload XI.here hx rfl (hb hby at_40) rfl k₀) ?_
  show F s₁ (mkF m 42 #[.val (.long q0), .second, .val (.long q1), .second, .val (.long q2), .second, .val (.int p3), .val (.int p4), .val (.int p5), .val (.int nv), .val (.int sz), .val (.int iv), .val (.int fv), .unset, .unset, .unset, .unset, .unset, .unset, .unset] [(.int p4)])
  refine hst (fun t₀ k₀ => XS.bipush XI.here hx rfl (hb hby at_42) k₀) ?_
  show F s₁ (mkF m 44 #[.val (.long q0), .second, .val (.long q1), .second, .val (.long q2), .second, .val (.int p3), .val (.int p4), .val (.int p5), .val (.int nv), .val (.int sz), .val (.int iv), .val (.int fv), .unset, .unset, .unset, .unset, .unset, .unset, .unset] [(.int (63 : Int32)), (.int p4)])
  refine hst (fun t₀ k₀ => XS.iand XI.here hx rfl (hb hby at_44) rfl k₀) ?_
  show F s₁ (mkF m 45 #[.val (.long q0), .second, .val (.long q1), .second, .val (.long q2), .second, .val (.int p3), .val (.int p4), .val (.int p5), .val (.int nv), .val (.int sz), .val (.int iv), .val (.int fv), .unset, .unset, .unset, .unset, .unset, .unset, .unset] [(.int (p4 &&& (63 : Int32)))])
  generalize hsv : (p4 &&& (63 : Int32)) = sv
  show F s₁ (mkF m 45 #[.val (.long q0), .second, .val (.long q1), .second, .val (.long q2), .second, .val (.int p3), .val (.int p4), .val (.int p5), .val (.int nv), .val (.int sz), .val (.int iv), .val (.int fv), .unset, .unset, .unset, .unset, .unset, .unset, .unset] [(.int sv)])
  obtain ⟨s0, hS, hS2⟩ : ∃ s0 : Nat, sv.toInt = s0 ∧ s0 < 64 := by
    have := c_mask p4 63 6 (by decide) (by decide); rw [hsv] at this; exact ⟨sv.toInt.toNat, by omega, by omega⟩
  have hn3 : (nv = 1 ∧ N = 1) ∨ (nv = 2 ∧ N = 2) ∨ (nv = 3 ∧ N = 3) := by simp only [own_eq32]; omega
  clear hnv hsz
  refine hst (fun t₀ k₀ => XS.istore XI.here hx rfl (hb hby at_45) rfl (l' := #[.val (.long q0), .second, .val (.long q1), .second, .val (.long q2), .second, .val (.int p3), .val (.int p4), .val (.int p5), .val (.int nv), .val (.int sz), .val (.int iv), .val (.int fv), .val (.int sv), .unset, .unset, .unset, .unset, .unset, .unset]) rfl k₀) ?_
  show F s₁ (mkF m 47 #[.val (.long q0), .second, .val (.long q1), .second, .val (.long q2), .second, .val (.int p3), .val (.int p4), .val (.int p5), .val (.int nv), .val (.int sz), .val (.int iv), .val (.int fv), .val (.int sv), .unset, .unset, .unset, .unset, .unset, .unset] [])
  rcases hn3 with ⟨rfl, hNq⟩ | ⟨rfl, hNq⟩ | ⟨rfl, hNq⟩
  · subst hNq
    show F s₁ (mkF m 47 #[.val (.long q0), .second, .val (.long q1), .second, .val (.long q2), .second, .val (.int p3), .val (.int p4), .val (.int p5), .val (.int (1 : Int32)), .val (.int sz), .val (.int iv), .val (.int fv), .val (.int sv), .unset, .unset, .unset, .unset, .unset, .unset] [])
    refine hst (fun t₀ k₀ => XS.iload XI.here hx rfl (hb hby at_47) rfl k₀) ?_
    show F s₁ (mkF m 49 #[.val (.long q0), .second, .val (.long q1), .second, .val (.long q2), .second, .val (.int p3), .val (.int p4), .val (.int p5), .val (.int (1 : Int32)), .val (.int sz), .val (.int iv), .val (.int fv), .val (.int sv), .unset, .unset, .unset, .unset, .unset, .unset] [(.int (1 : Int32))])
    refine hst (fun t₀ k₀ => XS.iconst XI.here hx rfl (hb hby at_49) k₀) ?_
    show F s₁ (mkF m 50 #[.val (.long q0), .second, .val (.long q1), .second, .val (.long q2), .second, .val (.int p3), .val (.int p4), .val (.int p5), .val (.int (1 : Int32)), .val (.int sz), .val (.int iv), .val (.int fv), .val (.int sv), .unset, .unset, .unset, .unset, .unset, .unset] [(.int (1 : Int32)), (.int (1 : Int32))])
    refine hst (fun t₀ k₀ => XS.icmpNo XI.here hx rfl (hb hby at_50) rfl (teq (by decide)).2 k₀) ?_
    show F s₁ (mkF m 53 #[.val (.long q0), .second, .val (.long q1), .second, .val (.long q2), .second, .val (.int p3), .val (.int p4), .val (.int p5), .val (.int (1 : Int32)), .val (.int sz), .val (.int iv), .val (.int fv), .val (.int sv), .unset, .unset, .unset, .unset, .unset, .unset] [])
    refine hst (fun t₀ k₀ => XS.iconst XI.here hx rfl (hb hby at_53) k₀) ?_
    show F s₁ (mkF m 54 #[.val (.long q0), .second, .val (.long q1), .second, .val (.long q2), .second, .val (.int p3), .val (.int p4), .val (.int p5), .val (.int (1 : Int32)), .val (.int sz), .val (.int iv), .val (.int fv), .val (.int sv), .unset, .unset, .unset, .unset, .unset, .unset] [(.int (1 : Int32))])
    obtain ⟨T54, h54, b54, X54, e54, g54, E54, A54, st54⟩ := own_newarr XI hx hZ (hw _ (List.mem_of_getElem? (i := 2) rfl)) eI (g := (mkF m 54 #[.val (.long q0), .second, .val (.long q1), .second, .val (.long q2), .second, .val (.int p3), .val (.int p4), .val (.int p5), .val (.int (1 : Int32)), .val (.int sz), .val (.int iv), .val (.int fv), .val (.int sv), .unset, .unset, .unset, .unset, .unset, .unset] [(.int (1 : Int32))])) rfl (hb hby at_54) rfl (by decide) (cap := 1) (by decide) (by decide) (by decide) (by decide)
    have ge_b54 : n0 ≤ b54 := Nat.le_trans Z0 (Nat.le_of_eq g54.symm)
    have Z0_p54 : n0 ≤ h54.size := (Nat.le_trans Z0 E54.1)
    have A_b54 : own_A Z h54 b54 .long 1 (fun _ => (.long (0 : Int64))) := A54
    refine hst st54 ?_
    show F T54 (mkF m 56 #[.val (.long q0), .second, .val (.long q1), .second, .val (.long q2), .second, .val (.int p3), .val (.int p4), .val (.int p5), .val (.int (1 : Int32)), .val (.int sz), .val (.int iv), .val (.int fv), .val (.int sv), .unset, .unset, .unset, .unset, .unset, .unset] [(.ref b54)])
    refine hst (fun t₀ k₀ => XS.dup X54.here hx rfl (hb hby at_56) rfl rfl k₀) ?_
    show F T54 (mkF m 57 #[.val (.long q0), .second, .val (.long q1), .second, .val (.long q2), .second, .val (.int p3), .val (.int p4), .val (.int p5), .val (.int (1 : Int32)), .val (.int sz), .val (.int iv), .val (.int fv), .val (.int sv), .unset, .unset, .unset, .unset, .unset, .unset] [(.ref b54), (.ref b54)])
    refine hst (fun t₀ k₀ => XS.iconst X54.here hx rfl (hb hby at_57) k₀) ?_
    show F T54 (mkF m 58 #[.val (.long q0), .second, .val (.long q1), .second, .val (.long q2), .second, .val (.int p3), .val (.int p4), .val (.int p5), .val (.int (1 : Int32)), .val (.int sz), .val (.int iv), .val (.int fv), .val (.int sv), .unset, .unset, .unset, .unset, .unset, .unset] [(.int (0 : Int32)), (.ref b54), (.ref b54)])
    refine hst (fun t₀ k₀ => XS.lloadN X54.here hx rfl (hb hby at_58) rfl k₀) ?_
    show F T54 (mkF m 59 #[.val (.long q0), .second, .val (.long q1), .second, .val (.long q2), .second, .val (.int p3), .val (.int p4), .val (.int p5), .val (.int (1 : Int32)), .val (.int sz), .val (.int iv), .val (.int fv), .val (.int sv), .unset, .unset, .unset, .unset, .unset, .unset] [(.long q0), (.int (0 : Int32)), (.ref b54), (.ref b54)])
    obtain ⟨T59, h59, X59, e59, W59, st59⟩ := own_lastore X54 hx hZ e54 A_b54 (by decide) (g := (mkF m 59 #[.val (.long q0), .second, .val (.long q1), .second, .val (.long q2), .second, .val (.int p3), .val (.int p4), .val (.int p5), .val (.int (1 : Int32)), .val (.int sz), .val (.int iv), .val (.int fv), .val (.int sv), .unset, .unset, .unset, .unset, .unset, .unset] [(.long q0), (.int (0 : Int32)), (.ref b54), (.ref b54)])) rfl rfl (hb hby at_59)
    have N59 := Fr.snoc X59 NI ge_b54
    have A_b54_p59 : own_A Z h59 b54 .long 1 (fun i => if i = Int32.toNatClampNeg (0 : Int32) then (.long q0) else (fun _ => (.long (0 : Int64))) i) := A_b54.set W59
    have Z0_p59 : n0 ≤ h59.size := Nat.le_trans Z0_p54 (Keep.of_wr W59).1
    refine hst st59 ?_
    have A_b54_p59c : own_A Z h59 b54 .long 1 (fun i => .long (own_w3 q0 q1 q2 i)) := own_A.congr A_b54_p59 (fun i hi => by rcases i with _ | _ | _ | i <;> first | rfl | omega)
    show F T59 (mkF m 60 #[.val (.long q0), .second, .val (.long q1), .second, .val (.long q2), .second, .val (.int p3), .val (.int p4), .val (.int p5), .val (.int (1 : Int32)), .val (.int sz), .val (.int iv), .val (.int fv), .val (.int sv), .unset, .unset, .unset, .unset, .unset, .unset] [(.ref b54)])
    refine hst (fun t₀ k₀ => XS.astore X59.here hx rfl (hb hby at_60) rfl rfl (l' := #[.val (.long q0), .second, .val (.long q1), .second, .val (.long q2), .second, .val (.int p3), .val (.int p4), .val (.int p5), .val (.int (1 : Int32)), .val (.int sz), .val (.int iv), .val (.int fv), .val (.int sv), .val (.ref b54), .unset, .unset, .unset, .unset, .unset]) rfl k₀) ?_
    show F T59 (mkF m 62 #[.val (.long q0), .second, .val (.long q1), .second, .val (.long q2), .second, .val (.int p3), .val (.int p4), .val (.int p5), .val (.int (1 : Int32)), .val (.int sz), .val (.int iv), .val (.int fv), .val (.int sv), .val (.ref b54), .unset, .unset, .unset, .unset, .unset] [])
    refine hst (fun t₀ k₀ => XS.goto X59.here hx rfl (pc0 := 62) (pc' := 105) rfl (hb hby at_62) (by decide) (by decide) k₀) ?_
    show F T59 (mkF m 105 #[.val (.long q0), .second, .val (.long q1), .second, .val (.long q2), .second, .val (.int p3), .val (.int p4), .val (.int p5), .val (.int (1 : Int32)), .val (.int sz), .val (.int iv), .val (.int fv), .val (.int sv), .val (.ref b54), .unset, .unset, .unset, .unset, .unset] [])
    refine hst (fun t₀ k₀ => XS.aload X59.here hx rfl (hb hby at_105) rfl rfl k₀) ?_
    show F T59 (mkF m 107 #[.val (.long q0), .second, .val (.long q1), .second, .val (.long q2), .second, .val (.int p3), .val (.int p4), .val (.int p5), .val (.int (1 : Int32)), .val (.int sz), .val (.int iv), .val (.int fv), .val (.int sv), .val (.ref b54), .unset, .unset, .unset, .unset, .unset] [(.ref b54)])
    refine hst (fun t₀ k₀ => XS.iload X59.here hx rfl (hb hby at_107) rfl k₀) ?_
    show F T59 (mkF m 109 #[.val (.long q0), .second, .val (.long q1), .second, .val (.long q2), .second, .val (.int p3), .val (.int p4), .val (.int p5), .val (.int (1 : Int32)), .val (.int sz), .val (.int iv), .val (.int fv), .val (.int sv), .val (.ref b54), .unset, .unset, .unset, .unset, .unset] [(.int fv), (.ref b54)])
    refine hst (fun t₀ k₀ => XS.iload X59.here hx rfl (hb hby at_109) rfl k₀) ?_
    show F T59 (mkF m 111 #[.val (.long q0), .second, .val (.long q1), .second, .val (.long q2), .second, .val (.int p3), .val (.int p4), .val (.int p5), .val (.int (1 : Int32)), .val (.int sz), .val (.int iv), .val (.int fv), .val (.int sv), .val (.ref b54), .unset, .unset, .unset, .unset, .unset] [(.int sv), (.int fv), (.ref b54)])
    obtain ⟨v111, T111, Lc111, X111, hQ111, st111⟩ := own_callS X59 hx hZ hown (y := (⟨"com/example/censo/censo/compact/BitFields", "moveUp", "([JII)V"⟩ : MethodName)) (hw _ (List.mem_of_getElem? (i := 3) rfl)) (hw _ (List.mem_of_getElem? (i := 4) rfl)) (hw _ (List.mem_of_getElem? (i := 5) rfl)) (hw _ (List.mem_of_getElem? (i := 6) rfl)) (by decide) e59 (rm1 l Z a0 hw [] b54 fv sv (own_w3 q0 q1 q2) 1 A s0 h59 n0 Z0_p59 A_b54_p59c ge_b54 (by decide) hA (by omega) hS hS2) (by decide) (by decide) (g := (mkF m 111 #[.val (.long q0), .second, .val (.long q1), .second, .val (.long q2), .second, .val (.int p3), .val (.int p4), .val (.int p5), .val (.int (1 : Int32)), .val (.int sz), .val (.int iv), .val (.int fv), .val (.int sv), .val (.ref b54), .unset, .unset, .unset, .unset, .unset] [(.int sv), (.int fv), (.ref b54)])) rfl (by rw [hml]; rfl) (argsL := [(.ref b54), (.int fv), (.int sv)]) (rest := []) (lenOf pd_1 rfl) rfl rfl (W := 0) (by show 2 * 0 + _ ≤ _; exact Nat.le_of_eq rfl) (hb hby at_111) (by decide) (by decide)
    obtain ⟨u111, rfl, Nq111, K111, q1_111, hu_111⟩ := hQ111
    have N111 := Fr.app N59 Nq111
    have Z0_p111 : n0 ≤ T111.heap.size := Nat.le_trans Z0_p59 K111.1
    refine hst st111 ?_
    show F T111 (mkF m 114 #[.val (.long q0), .second, .val (.long q1), .second, .val (.long q2), .second, .val (.int p3), .val (.int p4), .val (.int p5), .val (.int (1 : Int32)), .val (.int sz), .val (.int iv), .val (.int fv), .val (.int sv), .val (.ref b54), .unset, .unset, .unset, .unset, .unset] [])
    refine hst (fun t₀ k₀ => XS.iload X111.here hx rfl (hb hby at_114) rfl k₀) ?_
    show F T111 (mkF m 116 #[.val (.long q0), .second, .val (.long q1), .second, .val (.long q2), .second, .val (.int p3), .val (.int p4), .val (.int p5), .val (.int (1 : Int32)), .val (.int sz), .val (.int iv), .val (.int fv), .val (.int sv), .val (.ref b54), .unset, .unset, .unset, .unset, .unset] [(.int iv)])
    refine hst (fun t₀ k₀ => XS.iload X111.here hx rfl (hb hby at_116) rfl k₀) ?_
    show F T111 (mkF m 118 #[.val (.long q0), .second, .val (.long q1), .second, .val (.long q2), .second, .val (.int p3), .val (.int p4), .val (.int p5), .val (.int (1 : Int32)), .val (.int sz), .val (.int iv), .val (.int fv), .val (.int sv), .val (.ref b54), .unset, .unset, .unset, .unset, .unset] [(.int fv), (.int iv)])
    refine hst (fun t₀ k₀ => XS.iload X111.here hx rfl (hb hby at_118) rfl k₀) ?_
    show F T111 (mkF m 120 #[.val (.long q0), .second, .val (.long q1), .second, .val (.long q2), .second, .val (.int p3), .val (.int p4), .val (.int p5), .val (.int (1 : Int32)), .val (.int sz), .val (.int iv), .val (.int fv), .val (.int sv), .val (.ref b54), .unset, .unset, .unset, .unset, .unset] [(.int sv), (.int fv), (.int iv)])
    refine hst (fun t₀ k₀ => XS.iadd X111.here hx rfl (hb hby at_120) rfl k₀) ?_
    show F T111 (mkF m 121 #[.val (.long q0), .second, .val (.long q1), .second, .val (.long q2), .second, .val (.int p3), .val (.int p4), .val (.int p5), .val (.int (1 : Int32)), .val (.int sz), .val (.int iv), .val (.int fv), .val (.int sv), .val (.ref b54), .unset, .unset, .unset, .unset, .unset] [(.int (fv + sv)), (.int iv)])
    generalize hsu : (fv + sv) = su
    show F T111 (mkF m 121 #[.val (.long q0), .second, .val (.long q1), .second, .val (.long q2), .second, .val (.int p3), .val (.int p4), .val (.int p5), .val (.int (1 : Int32)), .val (.int sz), .val (.int iv), .val (.int fv), .val (.int sv), .val (.ref b54), .unset, .unset, .unset, .unset, .unset] [(.int su), (.int iv)])
    have ksu : su.toInt = ((A + s0 : Nat) : Int) := by have h1 := c_iadd fv sv; have h2 := rng32 su; rw [hsu] at h1; omega
    by_cases hc121 : iv < su
    · -- pc 121: not taken
      refine hst (fun t₀ k₀ => XS.icmpNo X111.here hx rfl (hb hby at_121) rfl (tlt hc121).2.1 k₀) ?_
      show F T111 (mkF m 124 #[.val (.long q0), .second, .val (.long q1), .second, .val (.long q2), .second, .val (.int p3), .val (.int p4), .val (.int p5), .val (.int (1 : Int32)), .val (.int sz), .val (.int iv), .val (.int fv), .val (.int sv), .val (.ref b54), .unset, .unset, .unset, .unset, .unset] [])
      have q121 : i < A + s0 := by rw [own_lt32] at hc121; omega
      have ksr : iv.toInt = ((if i < A + s0 then i else i - s0 : Nat) : Int) := by rw [if_pos q121]; exact hI
      refine hst (fun t₀ k₀ => XS.iload X111.here hx rfl (hb hby at_124) rfl k₀) ?_
      show F T111 (mkF m 126 #[.val (.long q0), .second, .val (.long q1), .second, .val (.long q2), .second, .val (.int p3), .val (.int p4), .val (.int p5), .val (.int (1 : Int32)), .val (.int sz), .val (.int iv), .val (.int fv), .val (.int sv), .val (.ref b54), .unset, .unset, .unset, .unset, .unset] [(.int iv)])
      refine hst (fun t₀ k₀ => XS.goto X111.here hx rfl (pc0 := 126) (pc' := 134) rfl (hb hby at_126) (by decide) (by decide) k₀) ?_
      show F T111 (mkF m 134 #[.val (.long q0), .second, .val (.long q1), .second, .val (.long q2), .second, .val (.int p3), .val (.int p4), .val (.int p5), .val (.int (1 : Int32)), .val (.int sz), .val (.int iv), .val (.int fv), .val (.int sv), .val (.ref b54), .unset, .unset, .unset, .unset, .unset] [(.int iv)])
      refine hst (fun t₀ k₀ => XS.istore X111.here hx rfl (hb hby at_134) rfl (l' := #[.val (.long q0), .second, .val (.long q1), .second, .val (.long q2), .second, .val (.int p3), .val (.int p4), .val (.int p5), .val (.int (1 : Int32)), .val (.int sz), .val (.int iv), .val (.int fv), .val (.int sv), .val (.ref b54), .val (.int iv), .unset, .unset, .unset, .unset]) rfl k₀) ?_
      show F T111 (mkF m 136 #[.val (.long q0), .second, .val (.long q1), .second, .val (.long q2), .second, .val (.int p3), .val (.int p4), .val (.int p5), .val (.int (1 : Int32)), .val (.int sz), .val (.int iv), .val (.int fv), .val (.int sv), .val (.ref b54), .val (.int iv), .unset, .unset, .unset, .unset] [])
      refine hst (fun t₀ k₀ => XS.lloadN X111.here hx rfl (hb hby at_136) rfl k₀) ?_
      show F T111 (mkF m 137 #[.val (.long q0), .second, .val (.long q1), .second, .val (.long q2), .second, .val (.int p3), .val (.int p4), .val (.int p5), .val (.int (1 : Int32)), .val (.int sz), .val (.int iv), .val (.int fv), .val (.int sv), .val (.ref b54), .val (.int iv), .unset, .unset, .unset, .unset] [(.long q0)])
      refine hst (fun t₀ k₀ => XS.lloadN X111.here hx rfl (hb hby at_137) rfl k₀) ?_
      show F T111 (mkF m 138 #[.val (.long q0), .second, .val (.long q1), .second, .val (.long q2), .second, .val (.int p3), .val (.int p4), .val (.int p5), .val (.int (1 : Int32)), .val (.int sz), .val (.int iv), .val (.int fv), .val (.int sv), .val (.ref b54), .val (.int iv), .unset, .unset, .unset, .unset] [(.long q1), (.long q0)])
      refine hst (fun t₀ k₀ => XS.lload X111.here hx rfl (hb hby at_138) rfl k₀) ?_
      show F T111 (mkF m 140 #[.val (.long q0), .second, .val (.long q1), .second, .val (.long q2), .second, .val (.int p3), .val (.int p4), .val (.int p5), .val (.int (1 : Int32)), .val (.int sz), .val (.int iv), .val (.int fv), .val (.int sv), .val (.ref b54), .val (.int iv), .unset, .unset, .unset, .unset] [(.long q2), (.long q1), (.long q0)])
      refine hst (fun t₀ k₀ => XS.iload X111.here hx rfl (hb hby at_140) rfl k₀) ?_
      show F T111 (mkF m 142 #[.val (.long q0), .second, .val (.long q1), .second, .val (.long q2), .second, .val (.int p3), .val (.int p4), .val (.int p5), .val (.int (1 : Int32)), .val (.int sz), .val (.int iv), .val (.int fv), .val (.int sv), .val (.ref b54), .val (.int iv), .unset, .unset, .unset, .unset] [(.int iv), (.long q2), (.long q1), (.long q0)])
      obtain ⟨v142, T142, Lc142, X142, hQ142, st142⟩ := own_callS X111 hx hZ hown (y := (⟨"com/example/censo/censo/compact/BitFieldsMoveUpPinLaw", "oldBit", "(JJJI)J"⟩ : MethodName)) (hw _ (List.mem_of_getElem? (i := 8) rfl)) (hw _ (List.mem_of_getElem? (i := 9) rfl)) (hw _ (List.mem_of_getElem? (i := 10) rfl)) (hw _ (List.mem_of_getElem? (i := 11) rfl)) (by decide) rfl (rm2 l Z a0 hw [] q0 q1 q2 iv (if i < A + s0 then i else i - s0) T111.heap n0 Z0_p111 ksr (by split <;> omega)) (by decide) (by decide) (g := (mkF m 142 #[.val (.long q0), .second, .val (.long q1), .second, .val (.long q2), .second, .val (.int p3), .val (.int p4), .val (.int p5), .val (.int (1 : Int32)), .val (.int sz), .val (.int iv), .val (.int fv), .val (.int sv), .val (.ref b54), .val (.int iv), .unset, .unset, .unset, .unset] [(.int iv), (.long q2), (.long q1), (.long q0)])) rfl (by rw [hml]; rfl) (argsL := [(.long q0), (.long q1), (.long q2), (.int iv)]) (rest := []) (lenOf pd_0 rfl) rfl rfl (W := 0) (by show 2 * 0 + _ ≤ _; exact Nat.le_of_eq rfl) (hb hby at_142) (by decide) (by decide)
      obtain ⟨rfl, Nq142, he142⟩ := hQ142
      have N142 := Fr.app N111 Nq142
      refine hst st142 ?_
      show F T142 (mkF m 145 #[.val (.long q0), .second, .val (.long q1), .second, .val (.long q2), .second, .val (.int p3), .val (.int p4), .val (.int p5), .val (.int (1 : Int32)), .val (.int sz), .val (.int iv), .val (.int fv), .val (.int sv), .val (.ref b54), .val (.int iv), .unset, .unset, .unset, .unset] [(.long (if own_sb (own_w3 q0 q1 q2) (if i < A + s0 then i else i - s0) then 1 else 0))])
      refine hst (fun t₀ k₀ => XS.lstore X142.here hx rfl (hb hby at_145) rfl (l' := #[.val (.long q0), .second, .val (.long q1), .second, .val (.long q2), .second, .val (.int p3), .val (.int p4), .val (.int p5), .val (.int (1 : Int32)), .val (.int sz), .val (.int iv), .val (.int fv), .val (.int sv), .val (.ref b54), .val (.int iv), .val (.long (if own_sb (own_w3 q0 q1 q2) (if i < A + s0 then i else i - s0) then 1 else 0)), .second, .unset, .unset]) rfl k₀) ?_
      show F T142 (mkF m 147 #[.val (.long q0), .second, .val (.long q1), .second, .val (.long q2), .second, .val (.int p3), .val (.int p4), .val (.int p5), .val (.int (1 : Int32)), .val (.int sz), .val (.int iv), .val (.int fv), .val (.int sv), .val (.ref b54), .val (.int iv), .val (.long (if own_sb (own_w3 q0 q1 q2) (if i < A + s0 then i else i - s0) then 1 else 0)), .second, .unset, .unset] [])
      refine hst (fun t₀ k₀ => XS.aload X142.here hx rfl (hb hby at_147) rfl rfl k₀) ?_
      show F T142 (mkF m 149 #[.val (.long q0), .second, .val (.long q1), .second, .val (.long q2), .second, .val (.int p3), .val (.int p4), .val (.int p5), .val (.int (1 : Int32)), .val (.int sz), .val (.int iv), .val (.int fv), .val (.int sv), .val (.ref b54), .val (.int iv), .val (.long (if own_sb (own_w3 q0 q1 q2) (if i < A + s0 then i else i - s0) then 1 else 0)), .second, .unset, .unset] [(.ref b54)])
      refine hst (fun t₀ k₀ => XS.iload X142.here hx rfl (hb hby at_149) rfl k₀) ?_
      show F T142 (mkF m 151 #[.val (.long q0), .second, .val (.long q1), .second, .val (.long q2), .second, .val (.int p3), .val (.int p4), .val (.int p5), .val (.int (1 : Int32)), .val (.int sz), .val (.int iv), .val (.int fv), .val (.int sv), .val (.ref b54), .val (.int iv), .val (.long (if own_sb (own_w3 q0 q1 q2) (if i < A + s0 then i else i - s0) then 1 else 0)), .second, .unset, .unset] [(.int iv), (.ref b54)])
      refine hst (fun t₀ k₀ => XS.bipush X142.here hx rfl (hb hby at_151) k₀) ?_
      show F T142 (mkF m 153 #[.val (.long q0), .second, .val (.long q1), .second, .val (.long q2), .second, .val (.int p3), .val (.int p4), .val (.int p5), .val (.int (1 : Int32)), .val (.int sz), .val (.int iv), .val (.int fv), .val (.int sv), .val (.ref b54), .val (.int iv), .val (.long (if own_sb (own_w3 q0 q1 q2) (if i < A + s0 then i else i - s0) then 1 else 0)), .second, .unset, .unset] [(.int (6 : Int32)), (.int iv), (.ref b54)])
      refine hst (fun t₀ k₀ => XS.iushr X142.here hx rfl (hb hby at_153) rfl k₀) ?_
      show F T142 (mkF m 154 #[.val (.long q0), .second, .val (.long q1), .second, .val (.long q2), .second, .val (.int p3), .val (.int p4), .val (.int p5), .val (.int (1 : Int32)), .val (.int sz), .val (.int iv), .val (.int fv), .val (.int sv), .val (.ref b54), .val (.int iv), .val (.long (if own_sb (own_w3 q0 q1 q2) (if i < A + s0 then i else i - s0) then 1 else 0)), .second, .unset, .unset] [(.int ((iv.toUInt32 >>> ((6 : Int32) &&& 31).toUInt32).toInt32)), (.ref b54)])
      generalize hwd : ((iv.toUInt32 >>> ((6 : Int32) &&& 31).toUInt32).toInt32) = wd
      show F T142 (mkF m 154 #[.val (.long q0), .second, .val (.long q1), .second, .val (.long q2), .second, .val (.int p3), .val (.int p4), .val (.int p5), .val (.int (1 : Int32)), .val (.int sz), .val (.int iv), .val (.int fv), .val (.int sv), .val (.ref b54), .val (.int iv), .val (.long (if own_sb (own_w3 q0 q1 q2) (if i < A + s0 then i else i - s0) then 1 else 0)), .second, .unset, .unset] [(.int wd), (.ref b54)])
      have kwd : wd.toInt = ((i / 64 : Nat) : Int) := by rw [← hwd, c_iushr iv 6 6 (by decide) (by decide)]; omega
      refine hst (fun t₀ k₀ => own_laload X142 hx hZ he142 q1_111 (own_idx wd 1 (by omega) (by omega)) (v := (.long (u111 (i / 64)))) (by show Value.long (u111 wd.toNatClampNeg) = _; rw [own_clamp wd _ kwd]) (g := (mkF m 154 #[.val (.long q0), .second, .val (.long q1), .second, .val (.long q2), .second, .val (.int p3), .val (.int p4), .val (.int p5), .val (.int (1 : Int32)), .val (.int sz), .val (.int iv), .val (.int fv), .val (.int sv), .val (.ref b54), .val (.int iv), .val (.long (if own_sb (own_w3 q0 q1 q2) (if i < A + s0 then i else i - s0) then 1 else 0)), .second, .unset, .unset] [(.int wd), (.ref b54)])) rfl rfl (hb hby at_154) t₀ k₀) ?_
      show F T142 (mkF m 155 #[.val (.long q0), .second, .val (.long q1), .second, .val (.long q2), .second, .val (.int p3), .val (.int p4), .val (.int p5), .val (.int (1 : Int32)), .val (.int sz), .val (.int iv), .val (.int fv), .val (.int sv), .val (.ref b54), .val (.int iv), .val (.long (if own_sb (own_w3 q0 q1 q2) (if i < A + s0 then i else i - s0) then 1 else 0)), .second, .unset, .unset] [(.long (u111 (i / 64)))])
      refine hst (fun t₀ k₀ => XS.iload X142.here hx rfl (hb hby at_155) rfl k₀) ?_
      show F T142 (mkF m 157 #[.val (.long q0), .second, .val (.long q1), .second, .val (.long q2), .second, .val (.int p3), .val (.int p4), .val (.int p5), .val (.int (1 : Int32)), .val (.int sz), .val (.int iv), .val (.int fv), .val (.int sv), .val (.ref b54), .val (.int iv), .val (.long (if own_sb (own_w3 q0 q1 q2) (if i < A + s0 then i else i - s0) then 1 else 0)), .second, .unset, .unset] [(.int iv), (.long (u111 (i / 64)))])
      refine hst (fun t₀ k₀ => XS.bipush X142.here hx rfl (hb hby at_157) k₀) ?_
      show F T142 (mkF m 159 #[.val (.long q0), .second, .val (.long q1), .second, .val (.long q2), .second, .val (.int p3), .val (.int p4), .val (.int p5), .val (.int (1 : Int32)), .val (.int sz), .val (.int iv), .val (.int fv), .val (.int sv), .val (.ref b54), .val (.int iv), .val (.long (if own_sb (own_w3 q0 q1 q2) (if i < A + s0 then i else i - s0) then 1 else 0)), .second, .unset, .unset] [(.int (63 : Int32)), (.int iv), (.long (u111 (i / 64)))])
      refine hst (fun t₀ k₀ => XS.iand X142.here hx rfl (hb hby at_159) rfl k₀) ?_
      show F T142 (mkF m 160 #[.val (.long q0), .second, .val (.long q1), .second, .val (.long q2), .second, .val (.int p3), .val (.int p4), .val (.int p5), .val (.int (1 : Int32)), .val (.int sz), .val (.int iv), .val (.int fv), .val (.int sv), .val (.ref b54), .val (.int iv), .val (.long (if own_sb (own_w3 q0 q1 q2) (if i < A + s0 then i else i - s0) then 1 else 0)), .second, .unset, .unset] [(.int (iv &&& (63 : Int32))), (.long (u111 (i / 64)))])
      generalize hsm : (iv &&& (63 : Int32)) = sm
      show F T142 (mkF m 160 #[.val (.long q0), .second, .val (.long q1), .second, .val (.long q2), .second, .val (.int p3), .val (.int p4), .val (.int p5), .val (.int (1 : Int32)), .val (.int sz), .val (.int iv), .val (.int fv), .val (.int sv), .val (.ref b54), .val (.int iv), .val (.long (if own_sb (own_w3 q0 q1 q2) (if i < A + s0 then i else i - s0) then 1 else 0)), .second, .unset, .unset] [(.int sm), (.long (u111 (i / 64)))])
      have ksm : sm.toInt = ((i % 64 : Nat) : Int) := by rw [← hsm, c_mask iv 63 6 (by decide) (by decide)]; omega
      refine hst (fun t₀ k₀ => XS.lushr X142.here hx rfl (hb hby at_160) rfl k₀) ?_
      show F T142 (mkF m 161 #[.val (.long q0), .second, .val (.long q1), .second, .val (.long q2), .second, .val (.int p3), .val (.int p4), .val (.int p5), .val (.int (1 : Int32)), .val (.int sz), .val (.int iv), .val (.int fv), .val (.int sv), .val (.ref b54), .val (.int iv), .val (.long (if own_sb (own_w3 q0 q1 q2) (if i < A + s0 then i else i - s0) then 1 else 0)), .second, .unset, .unset] [(.long (((u111 (i / 64)).toUInt64 >>> (sm &&& 0x3f).toInt64.toUInt64).toInt64))])
      refine hst (fun t₀ k₀ => XS.lconst X142.here hx rfl (hb hby at_161) k₀) ?_
      show F T142 (mkF m 162 #[.val (.long q0), .second, .val (.long q1), .second, .val (.long q2), .second, .val (.int p3), .val (.int p4), .val (.int p5), .val (.int (1 : Int32)), .val (.int sz), .val (.int iv), .val (.int fv), .val (.int sv), .val (.ref b54), .val (.int iv), .val (.long (if own_sb (own_w3 q0 q1 q2) (if i < A + s0 then i else i - s0) then 1 else 0)), .second, .unset, .unset] [(.long (1 : Int64)), (.long (((u111 (i / 64)).toUInt64 >>> (sm &&& 0x3f).toInt64.toUInt64).toInt64))])
      refine hst (fun t₀ k₀ => XS.land X142.here hx rfl (hb hby at_162) rfl k₀) ?_
      show F T142 (mkF m 163 #[.val (.long q0), .second, .val (.long q1), .second, .val (.long q2), .second, .val (.int p3), .val (.int p4), .val (.int p5), .val (.int (1 : Int32)), .val (.int sz), .val (.int iv), .val (.int fv), .val (.int sv), .val (.ref b54), .val (.int iv), .val (.long (if own_sb (own_w3 q0 q1 q2) (if i < A + s0 then i else i - s0) then 1 else 0)), .second, .unset, .unset] [(.long ((((u111 (i / 64)).toUInt64 >>> (sm &&& 0x3f).toInt64.toUInt64).toInt64) &&& (1 : Int64)))])
      generalize hac : ((((u111 (i / 64)).toUInt64 >>> (sm &&& 0x3f).toInt64.toUInt64).toInt64) &&& (1 : Int64)) = ac
      show F T142 (mkF m 163 #[.val (.long q0), .second, .val (.long q1), .second, .val (.long q2), .second, .val (.int p3), .val (.int p4), .val (.int p5), .val (.int (1 : Int32)), .val (.int sz), .val (.int iv), .val (.int fv), .val (.int sv), .val (.ref b54), .val (.int iv), .val (.long (if own_sb (own_w3 q0 q1 q2) (if i < A + s0 then i else i - s0) then 1 else 0)), .second, .unset, .unset] [(.long ac)])
      have kac : ac = (if own_sb (own_w3 q0 q1 q2) (if i < A + s0 then i else i - s0) then 1 else 0) := by
        rw [← hac, own_one _ sm _ ksm (by omega)]
        have h1 := hu_111 (i / 64) (i % 64) (by omega) (by omega); unfold own_b at h1; rw [h1]
        unfold own_mv own_sb; rw [show 64 * (i / 64) + i % 64 = i by omega]
        by_cases g : i < A + s0
        · rw [if_pos g, if_pos g]
        · rw [if_neg g, if_neg g]
      refine hst (fun t₀ k₀ => XS.lstore X142.here hx rfl (hb hby at_163) rfl (l' := #[.val (.long q0), .second, .val (.long q1), .second, .val (.long q2), .second, .val (.int p3), .val (.int p4), .val (.int p5), .val (.int (1 : Int32)), .val (.int sz), .val (.int iv), .val (.int fv), .val (.int sv), .val (.ref b54), .val (.int iv), .val (.long (if own_sb (own_w3 q0 q1 q2) (if i < A + s0 then i else i - s0) then 1 else 0)), .second, .val (.long ac), .second]) rfl k₀) ?_
      show F T142 (mkF m 165 #[.val (.long q0), .second, .val (.long q1), .second, .val (.long q2), .second, .val (.int p3), .val (.int p4), .val (.int p5), .val (.int (1 : Int32)), .val (.int sz), .val (.int iv), .val (.int fv), .val (.int sv), .val (.ref b54), .val (.int iv), .val (.long (if own_sb (own_w3 q0 q1 q2) (if i < A + s0 then i else i - s0) then 1 else 0)), .second, .val (.long ac), .second] [])
      refine hst (fun t₀ k₀ => XS.lload X142.here hx rfl (hb hby at_165) rfl k₀) ?_
      show F T142 (mkF m 167 #[.val (.long q0), .second, .val (.long q1), .second, .val (.long q2), .second, .val (.int p3), .val (.int p4), .val (.int p5), .val (.int (1 : Int32)), .val (.int sz), .val (.int iv), .val (.int fv), .val (.int sv), .val (.ref b54), .val (.int iv), .val (.long (if own_sb (own_w3 q0 q1 q2) (if i < A + s0 then i else i - s0) then 1 else 0)), .second, .val (.long ac), .second] [(.long ac)])
      refine hst (fun t₀ k₀ => XS.lload X142.here hx rfl (hb hby at_167) rfl k₀) ?_
      show F T142 (mkF m 169 #[.val (.long q0), .second, .val (.long q1), .second, .val (.long q2), .second, .val (.int p3), .val (.int p4), .val (.int p5), .val (.int (1 : Int32)), .val (.int sz), .val (.int iv), .val (.int fv), .val (.int sv), .val (.ref b54), .val (.int iv), .val (.long (if own_sb (own_w3 q0 q1 q2) (if i < A + s0 then i else i - s0) then 1 else 0)), .second, .val (.long ac), .second] [(.long (if own_sb (own_w3 q0 q1 q2) (if i < A + s0 then i else i - s0) then 1 else 0)), (.long ac)])
      refine hst (fun t₀ k₀ => XS.lcmp X142.here hx rfl (hb hby at_169) rfl k₀) ?_
      show F T142 (mkF m 170 #[.val (.long q0), .second, .val (.long q1), .second, .val (.long q2), .second, .val (.int p3), .val (.int p4), .val (.int p5), .val (.int (1 : Int32)), .val (.int sz), .val (.int iv), .val (.int fv), .val (.int sv), .val (.ref b54), .val (.int iv), .val (.long (if own_sb (own_w3 q0 q1 q2) (if i < A + s0 then i else i - s0) then 1 else 0)), .second, .val (.long ac), .second] [(.int (lcmpW ac (if own_sb (own_w3 q0 q1 q2) (if i < A + s0 then i else i - s0) then 1 else 0)))])
      refine hst (fun t₀ k₀ => XS.ifNo X142.here hx rfl (hb hby at_170) rfl ((if0 _ _).trans (teq ((lw_eq _ _).mpr kac)).2) k₀) ?_
      show F T142 (mkF m 173 #[.val (.long q0), .second, .val (.long q1), .second, .val (.long q2), .second, .val (.int p3), .val (.int p4), .val (.int p5), .val (.int (1 : Int32)), .val (.int sz), .val (.int iv), .val (.int fv), .val (.int sv), .val (.ref b54), .val (.int iv), .val (.long (if own_sb (own_w3 q0 q1 q2) (if i < A + s0 then i else i - s0) then 1 else 0)), .second, .val (.long ac), .second] [])
      refine hst (fun t₀ k₀ => XS.iconst X142.here hx rfl (hb hby at_173) k₀) ?_
      show F T142 (mkF m 174 #[.val (.long q0), .second, .val (.long q1), .second, .val (.long q2), .second, .val (.int p3), .val (.int p4), .val (.int p5), .val (.int (1 : Int32)), .val (.int sz), .val (.int iv), .val (.int fv), .val (.int sv), .val (.ref b54), .val (.int iv), .val (.long (if own_sb (own_w3 q0 q1 q2) (if i < A + s0 then i else i - s0) then 1 else 0)), .second, .val (.long ac), .second] [(.int (1 : Int32))])
      refine hst (fun t₀ k₀ => XS.goto X142.here hx rfl (pc0 := 174) (pc' := 178) rfl (hb hby at_174) (by decide) (by decide) k₀) ?_
      show F T142 (mkF m 178 #[.val (.long q0), .second, .val (.long q1), .second, .val (.long q2), .second, .val (.int p3), .val (.int p4), .val (.int p5), .val (.int (1 : Int32)), .val (.int sz), .val (.int iv), .val (.int fv), .val (.int sv), .val (.ref b54), .val (.int iv), .val (.long (if own_sb (own_w3 q0 q1 q2) (if i < A + s0 then i else i - s0) then 1 else 0)), .second, .val (.long ac), .second] [(.int (1 : Int32))])
      rw [hF]
      refine own_retN X142 hx hret (by simp) hlk (hb hby at_178) (by decide) (by decide) ?_
      rw [he142]
      exact ⟨rfl, N142⟩
    · -- pc 121: taken
      refine hst (fun t₀ k₀ => XS.icmpYes X111.here hx rfl (pc0 := 121) (pc' := 129) rfl (hb hby at_121) rfl (flt hc121).2.1 (by decide) (by decide) k₀) ?_
      show F T111 (mkF m 129 #[.val (.long q0), .second, .val (.long q1), .second, .val (.long q2), .second, .val (.int p3), .val (.int p4), .val (.int p5), .val (.int (1 : Int32)), .val (.int sz), .val (.int iv), .val (.int fv), .val (.int sv), .val (.ref b54), .unset, .unset, .unset, .unset, .unset] [])
      have q121 : ¬ i < A + s0 := by rw [own_lt32] at hc121; omega
      refine hst (fun t₀ k₀ => XS.iload X111.here hx rfl (hb hby at_129) rfl k₀) ?_
      show F T111 (mkF m 131 #[.val (.long q0), .second, .val (.long q1), .second, .val (.long q2), .second, .val (.int p3), .val (.int p4), .val (.int p5), .val (.int (1 : Int32)), .val (.int sz), .val (.int iv), .val (.int fv), .val (.int sv), .val (.ref b54), .unset, .unset, .unset, .unset, .unset] [(.int iv)])
      refine hst (fun t₀ k₀ => XS.iload X111.here hx rfl (hb hby at_131) rfl k₀) ?_
      show F T111 (mkF m 133 #[.val (.long q0), .second, .val (.long q1), .second, .val (.long q2), .second, .val (.int p3), .val (.int p4), .val (.int p5), .val (.int (1 : Int32)), .val (.int sz), .val (.int iv), .val (.int fv), .val (.int sv), .val (.ref b54), .unset, .unset, .unset, .unset, .unset] [(.int sv), (.int iv)])
      refine hst (fun t₀ k₀ => XS.isub X111.here hx rfl (hb hby at_133) rfl k₀) ?_
      show F T111 (mkF m 134 #[.val (.long q0), .second, .val (.long q1), .second, .val (.long q2), .second, .val (.int p3), .val (.int p4), .val (.int p5), .val (.int (1 : Int32)), .val (.int sz), .val (.int iv), .val (.int fv), .val (.int sv), .val (.ref b54), .unset, .unset, .unset, .unset, .unset] [(.int (iv - sv))])
      generalize hsr : (iv - sv) = sr
      show F T111 (mkF m 134 #[.val (.long q0), .second, .val (.long q1), .second, .val (.long q2), .second, .val (.int p3), .val (.int p4), .val (.int p5), .val (.int (1 : Int32)), .val (.int sz), .val (.int iv), .val (.int fv), .val (.int sv), .val (.ref b54), .unset, .unset, .unset, .unset, .unset] [(.int sr)])
      have ksr : sr.toInt = ((if i < A + s0 then i else i - s0 : Nat) : Int) := by rw [if_neg q121]; have h1 := c_isub iv sv; have h2 := rng32 sr; rw [hsr] at h1; omega
      refine hst (fun t₀ k₀ => XS.istore X111.here hx rfl (hb hby at_134) rfl (l' := #[.val (.long q0), .second, .val (.long q1), .second, .val (.long q2), .second, .val (.int p3), .val (.int p4), .val (.int p5), .val (.int (1 : Int32)), .val (.int sz), .val (.int iv), .val (.int fv), .val (.int sv), .val (.ref b54), .val (.int sr), .unset, .unset, .unset, .unset]) rfl k₀) ?_
      show F T111 (mkF m 136 #[.val (.long q0), .second, .val (.long q1), .second, .val (.long q2), .second, .val (.int p3), .val (.int p4), .val (.int p5), .val (.int (1 : Int32)), .val (.int sz), .val (.int iv), .val (.int fv), .val (.int sv), .val (.ref b54), .val (.int sr), .unset, .unset, .unset, .unset] [])
      refine hst (fun t₀ k₀ => XS.lloadN X111.here hx rfl (hb hby at_136) rfl k₀) ?_
      show F T111 (mkF m 137 #[.val (.long q0), .second, .val (.long q1), .second, .val (.long q2), .second, .val (.int p3), .val (.int p4), .val (.int p5), .val (.int (1 : Int32)), .val (.int sz), .val (.int iv), .val (.int fv), .val (.int sv), .val (.ref b54), .val (.int sr), .unset, .unset, .unset, .unset] [(.long q0)])
      refine hst (fun t₀ k₀ => XS.lloadN X111.here hx rfl (hb hby at_137) rfl k₀) ?_
      show F T111 (mkF m 138 #[.val (.long q0), .second, .val (.long q1), .second, .val (.long q2), .second, .val (.int p3), .val (.int p4), .val (.int p5), .val (.int (1 : Int32)), .val (.int sz), .val (.int iv), .val (.int fv), .val (.int sv), .val (.ref b54), .val (.int sr), .unset, .unset, .unset, .unset] [(.long q1), (.long q0)])
      refine hst (fun t₀ k₀ => XS.lload X111.here hx rfl (hb hby at_138) rfl k₀) ?_
      show F T111 (mkF m 140 #[.val (.long q0), .second, .val (.long q1), .second, .val (.long q2), .second, .val (.int p3), .val (.int p4), .val (.int p5), .val (.int (1 : Int32)), .val (.int sz), .val (.int iv), .val (.int fv), .val (.int sv), .val (.ref b54), .val (.int sr), .unset, .unset, .unset, .unset] [(.long q2), (.long q1), (.long q0)])
      refine hst (fun t₀ k₀ => XS.iload X111.here hx rfl (hb hby at_140) rfl k₀) ?_
      show F T111 (mkF m 142 #[.val (.long q0), .second, .val (.long q1), .second, .val (.long q2), .second, .val (.int p3), .val (.int p4), .val (.int p5), .val (.int (1 : Int32)), .val (.int sz), .val (.int iv), .val (.int fv), .val (.int sv), .val (.ref b54), .val (.int sr), .unset, .unset, .unset, .unset] [(.int sr), (.long q2), (.long q1), (.long q0)])
      obtain ⟨v142, T142, Lc142, X142, hQ142, st142⟩ := own_callS X111 hx hZ hown (y := (⟨"com/example/censo/censo/compact/BitFieldsMoveUpPinLaw", "oldBit", "(JJJI)J"⟩ : MethodName)) (hw _ (List.mem_of_getElem? (i := 8) rfl)) (hw _ (List.mem_of_getElem? (i := 9) rfl)) (hw _ (List.mem_of_getElem? (i := 10) rfl)) (hw _ (List.mem_of_getElem? (i := 11) rfl)) (by decide) rfl (rm2 l Z a0 hw [] q0 q1 q2 sr (if i < A + s0 then i else i - s0) T111.heap n0 Z0_p111 ksr (by split <;> omega)) (by decide) (by decide) (g := (mkF m 142 #[.val (.long q0), .second, .val (.long q1), .second, .val (.long q2), .second, .val (.int p3), .val (.int p4), .val (.int p5), .val (.int (1 : Int32)), .val (.int sz), .val (.int iv), .val (.int fv), .val (.int sv), .val (.ref b54), .val (.int sr), .unset, .unset, .unset, .unset] [(.int sr), (.long q2), (.long q1), (.long q0)])) rfl (by rw [hml]; rfl) (argsL := [(.long q0), (.long q1), (.long q2), (.int sr)]) (rest := []) (lenOf pd_0 rfl) rfl rfl (W := 0) (by show 2 * 0 + _ ≤ _; exact Nat.le_of_eq rfl) (hb hby at_142) (by decide) (by decide)
      obtain ⟨rfl, Nq142, he142⟩ := hQ142
      have N142 := Fr.app N111 Nq142
      refine hst st142 ?_
      show F T142 (mkF m 145 #[.val (.long q0), .second, .val (.long q1), .second, .val (.long q2), .second, .val (.int p3), .val (.int p4), .val (.int p5), .val (.int (1 : Int32)), .val (.int sz), .val (.int iv), .val (.int fv), .val (.int sv), .val (.ref b54), .val (.int sr), .unset, .unset, .unset, .unset] [(.long (if own_sb (own_w3 q0 q1 q2) (if i < A + s0 then i else i - s0) then 1 else 0))])
      refine hst (fun t₀ k₀ => XS.lstore X142.here hx rfl (hb hby at_145) rfl (l' := #[.val (.long q0), .second, .val (.long q1), .second, .val (.long q2), .second, .val (.int p3), .val (.int p4), .val (.int p5), .val (.int (1 : Int32)), .val (.int sz), .val (.int iv), .val (.int fv), .val (.int sv), .val (.ref b54), .val (.int sr), .val (.long (if own_sb (own_w3 q0 q1 q2) (if i < A + s0 then i else i - s0) then 1 else 0)), .second, .unset, .unset]) rfl k₀) ?_
      show F T142 (mkF m 147 #[.val (.long q0), .second, .val (.long q1), .second, .val (.long q2), .second, .val (.int p3), .val (.int p4), .val (.int p5), .val (.int (1 : Int32)), .val (.int sz), .val (.int iv), .val (.int fv), .val (.int sv), .val (.ref b54), .val (.int sr), .val (.long (if own_sb (own_w3 q0 q1 q2) (if i < A + s0 then i else i - s0) then 1 else 0)), .second, .unset, .unset] [])
      refine hst (fun t₀ k₀ => XS.aload X142.here hx rfl (hb hby at_147) rfl rfl k₀) ?_
      show F T142 (mkF m 149 #[.val (.long q0), .second, .val (.long q1), .second, .val (.long q2), .second, .val (.int p3), .val (.int p4), .val (.int p5), .val (.int (1 : Int32)), .val (.int sz), .val (.int iv), .val (.int fv), .val (.int sv), .val (.ref b54), .val (.int sr), .val (.long (if own_sb (own_w3 q0 q1 q2) (if i < A + s0 then i else i - s0) then 1 else 0)), .second, .unset, .unset] [(.ref b54)])
      refine hst (fun t₀ k₀ => XS.iload X142.here hx rfl (hb hby at_149) rfl k₀) ?_
      show F T142 (mkF m 151 #[.val (.long q0), .second, .val (.long q1), .second, .val (.long q2), .second, .val (.int p3), .val (.int p4), .val (.int p5), .val (.int (1 : Int32)), .val (.int sz), .val (.int iv), .val (.int fv), .val (.int sv), .val (.ref b54), .val (.int sr), .val (.long (if own_sb (own_w3 q0 q1 q2) (if i < A + s0 then i else i - s0) then 1 else 0)), .second, .unset, .unset] [(.int iv), (.ref b54)])
      refine hst (fun t₀ k₀ => XS.bipush X142.here hx rfl (hb hby at_151) k₀) ?_
      show F T142 (mkF m 153 #[.val (.long q0), .second, .val (.long q1), .second, .val (.long q2), .second, .val (.int p3), .val (.int p4), .val (.int p5), .val (.int (1 : Int32)), .val (.int sz), .val (.int iv), .val (.int fv), .val (.int sv), .val (.ref b54), .val (.int sr), .val (.long (if own_sb (own_w3 q0 q1 q2) (if i < A + s0 then i else i - s0) then 1 else 0)), .second, .unset, .unset] [(.int (6 : Int32)), (.int iv), (.ref b54)])
      refine hst (fun t₀ k₀ => XS.iushr X142.here hx rfl (hb hby at_153) rfl k₀) ?_
      show F T142 (mkF m 154 #[.val (.long q0), .second, .val (.long q1), .second, .val (.long q2), .second, .val (.int p3), .val (.int p4), .val (.int p5), .val (.int (1 : Int32)), .val (.int sz), .val (.int iv), .val (.int fv), .val (.int sv), .val (.ref b54), .val (.int sr), .val (.long (if own_sb (own_w3 q0 q1 q2) (if i < A + s0 then i else i - s0) then 1 else 0)), .second, .unset, .unset] [(.int ((iv.toUInt32 >>> ((6 : Int32) &&& 31).toUInt32).toInt32)), (.ref b54)])
      generalize hwd : ((iv.toUInt32 >>> ((6 : Int32) &&& 31).toUInt32).toInt32) = wd
      show F T142 (mkF m 154 #[.val (.long q0), .second, .val (.long q1), .second, .val (.long q2), .second, .val (.int p3), .val (.int p4), .val (.int p5), .val (.int (1 : Int32)), .val (.int sz), .val (.int iv), .val (.int fv), .val (.int sv), .val (.ref b54), .val (.int sr), .val (.long (if own_sb (own_w3 q0 q1 q2) (if i < A + s0 then i else i - s0) then 1 else 0)), .second, .unset, .unset] [(.int wd), (.ref b54)])
      have kwd : wd.toInt = ((i / 64 : Nat) : Int) := by rw [← hwd, c_iushr iv 6 6 (by decide) (by decide)]; omega
      refine hst (fun t₀ k₀ => own_laload X142 hx hZ he142 q1_111 (own_idx wd 1 (by omega) (by omega)) (v := (.long (u111 (i / 64)))) (by show Value.long (u111 wd.toNatClampNeg) = _; rw [own_clamp wd _ kwd]) (g := (mkF m 154 #[.val (.long q0), .second, .val (.long q1), .second, .val (.long q2), .second, .val (.int p3), .val (.int p4), .val (.int p5), .val (.int (1 : Int32)), .val (.int sz), .val (.int iv), .val (.int fv), .val (.int sv), .val (.ref b54), .val (.int sr), .val (.long (if own_sb (own_w3 q0 q1 q2) (if i < A + s0 then i else i - s0) then 1 else 0)), .second, .unset, .unset] [(.int wd), (.ref b54)])) rfl rfl (hb hby at_154) t₀ k₀) ?_
      show F T142 (mkF m 155 #[.val (.long q0), .second, .val (.long q1), .second, .val (.long q2), .second, .val (.int p3), .val (.int p4), .val (.int p5), .val (.int (1 : Int32)), .val (.int sz), .val (.int iv), .val (.int fv), .val (.int sv), .val (.ref b54), .val (.int sr), .val (.long (if own_sb (own_w3 q0 q1 q2) (if i < A + s0 then i else i - s0) then 1 else 0)), .second, .unset, .unset] [(.long (u111 (i / 64)))])
      refine hst (fun t₀ k₀ => XS.iload X142.here hx rfl (hb hby at_155) rfl k₀) ?_
      show F T142 (mkF m 157 #[.val (.long q0), .second, .val (.long q1), .second, .val (.long q2), .second, .val (.int p3), .val (.int p4), .val (.int p5), .val (.int (1 : Int32)), .val (.int sz), .val (.int iv), .val (.int fv), .val (.int sv), .val (.ref b54), .val (.int sr), .val (.long (if own_sb (own_w3 q0 q1 q2) (if i < A + s0 then i else i - s0) then 1 else 0)), .second, .unset, .unset] [(.int iv), (.long (u111 (i / 64)))])
      refine hst (fun t₀ k₀ => XS.bipush X142.here hx rfl (hb hby at_157) k₀) ?_
      show F T142 (mkF m 159 #[.val (.long q0), .second, .val (.long q1), .second, .val (.long q2), .second, .val (.int p3), .val (.int p4), .val (.int p5), .val (.int (1 : Int32)), .val (.int sz), .val (.int iv), .val (.int fv), .val (.int sv), .val (.ref b54), .val (.int sr), .val (.long (if own_sb (own_w3 q0 q1 q2) (if i < A + s0 then i else i - s0) then 1 else 0)), .second, .unset, .unset] [(.int (63 : Int32)), (.int iv), (.long (u111 (i / 64)))])
      refine hst (fun t₀ k₀ => XS.iand X142.here hx rfl (hb hby at_159) rfl k₀) ?_
      show F T142 (mkF m 160 #[.val (.long q0), .second, .val (.long q1), .second, .val (.long q2), .second, .val (.int p3), .val (.int p4), .val (.int p5), .val (.int (1 : Int32)), .val (.int sz), .val (.int iv), .val (.int fv), .val (.int sv), .val (.ref b54), .val (.int sr), .val (.long (if own_sb (own_w3 q0 q1 q2) (if i < A + s0 then i else i - s0) then 1 else 0)), .second, .unset, .unset] [(.int (iv &&& (63 : Int32))), (.long (u111 (i / 64)))])
      generalize hsm : (iv &&& (63 : Int32)) = sm
      show F T142 (mkF m 160 #[.val (.long q0), .second, .val (.long q1), .second, .val (.long q2), .second, .val (.int p3), .val (.int p4), .val (.int p5), .val (.int (1 : Int32)), .val (.int sz), .val (.int iv), .val (.int fv), .val (.int sv), .val (.ref b54), .val (.int sr), .val (.long (if own_sb (own_w3 q0 q1 q2) (if i < A + s0 then i else i - s0) then 1 else 0)), .second, .unset, .unset] [(.int sm), (.long (u111 (i / 64)))])
      have ksm : sm.toInt = ((i % 64 : Nat) : Int) := by rw [← hsm, c_mask iv 63 6 (by decide) (by decide)]; omega
      refine hst (fun t₀ k₀ => XS.lushr X142.here hx rfl (hb hby at_160) rfl k₀) ?_
      show F T142 (mkF m 161 #[.val (.long q0), .second, .val (.long q1), .second, .val (.long q2), .second, .val (.int p3), .val (.int p4), .val (.int p5), .val (.int (1 : Int32)), .val (.int sz), .val (.int iv), .val (.int fv), .val (.int sv), .val (.ref b54), .val (.int sr), .val (.long (if own_sb (own_w3 q0 q1 q2) (if i < A + s0 then i else i - s0) then 1 else 0)), .second, .unset, .unset] [(.long (((u111 (i / 64)).toUInt64 >>> (sm &&& 0x3f).toInt64.toUInt64).toInt64))])
      refine hst (fun t₀ k₀ => XS.lconst X142.here hx rfl (hb hby at_161) k₀) ?_
      show F T142 (mkF m 162 #[.val (.long q0), .second, .val (.long q1), .second, .val (.long q2), .second, .val (.int p3), .val (.int p4), .val (.int p5), .val (.int (1 : Int32)), .val (.int sz), .val (.int iv), .val (.int fv), .val (.int sv), .val (.ref b54), .val (.int sr), .val (.long (if own_sb (own_w3 q0 q1 q2) (if i < A + s0 then i else i - s0) then 1 else 0)), .second, .unset, .unset] [(.long (1 : Int64)), (.long (((u111 (i / 64)).toUInt64 >>> (sm &&& 0x3f).toInt64.toUInt64).toInt64))])
      refine hst (fun t₀ k₀ => XS.land X142.here hx rfl (hb hby at_162) rfl k₀) ?_
      show F T142 (mkF m 163 #[.val (.long q0), .second, .val (.long q1), .second, .val (.long q2), .second, .val (.int p3), .val (.int p4), .val (.int p5), .val (.int (1 : Int32)), .val (.int sz), .val (.int iv), .val (.int fv), .val (.int sv), .val (.ref b54), .val (.int sr), .val (.long (if own_sb (own_w3 q0 q1 q2) (if i < A + s0 then i else i - s0) then 1 else 0)), .second, .unset, .unset] [(.long ((((u111 (i / 64)).toUInt64 >>> (sm &&& 0x3f).toInt64.toUInt64).toInt64) &&& (1 : Int64)))])
      generalize hac : ((((u111 (i / 64)).toUInt64 >>> (sm &&& 0x3f).toInt64.toUInt64).toInt64) &&& (1 : Int64)) = ac
      show F T142 (mkF m 163 #[.val (.long q0), .second, .val (.long q1), .second, .val (.long q2), .second, .val (.int p3), .val (.int p4), .val (.int p5), .val (.int (1 : Int32)), .val (.int sz), .val (.int iv), .val (.int fv), .val (.int sv), .val (.ref b54), .val (.int sr), .val (.long (if own_sb (own_w3 q0 q1 q2) (if i < A + s0 then i else i - s0) then 1 else 0)), .second, .unset, .unset] [(.long ac)])
      have kac : ac = (if own_sb (own_w3 q0 q1 q2) (if i < A + s0 then i else i - s0) then 1 else 0) := by
        rw [← hac, own_one _ sm _ ksm (by omega)]
        have h1 := hu_111 (i / 64) (i % 64) (by omega) (by omega); unfold own_b at h1; rw [h1]
        unfold own_mv own_sb; rw [show 64 * (i / 64) + i % 64 = i by omega]
        by_cases g : i < A + s0
        · rw [if_pos g, if_pos g]
        · rw [if_neg g, if_neg g]
      refine hst (fun t₀ k₀ => XS.lstore X142.here hx rfl (hb hby at_163) rfl (l' := #[.val (.long q0), .second, .val (.long q1), .second, .val (.long q2), .second, .val (.int p3), .val (.int p4), .val (.int p5), .val (.int (1 : Int32)), .val (.int sz), .val (.int iv), .val (.int fv), .val (.int sv), .val (.ref b54), .val (.int sr), .val (.long (if own_sb (own_w3 q0 q1 q2) (if i < A + s0 then i else i - s0) then 1 else 0)), .second, .val (.long ac), .second]) rfl k₀) ?_
      show F T142 (mkF m 165 #[.val (.long q0), .second, .val (.long q1), .second, .val (.long q2), .second, .val (.int p3), .val (.int p4), .val (.int p5), .val (.int (1 : Int32)), .val (.int sz), .val (.int iv), .val (.int fv), .val (.int sv), .val (.ref b54), .val (.int sr), .val (.long (if own_sb (own_w3 q0 q1 q2) (if i < A + s0 then i else i - s0) then 1 else 0)), .second, .val (.long ac), .second] [])
      refine hst (fun t₀ k₀ => XS.lload X142.here hx rfl (hb hby at_165) rfl k₀) ?_
      show F T142 (mkF m 167 #[.val (.long q0), .second, .val (.long q1), .second, .val (.long q2), .second, .val (.int p3), .val (.int p4), .val (.int p5), .val (.int (1 : Int32)), .val (.int sz), .val (.int iv), .val (.int fv), .val (.int sv), .val (.ref b54), .val (.int sr), .val (.long (if own_sb (own_w3 q0 q1 q2) (if i < A + s0 then i else i - s0) then 1 else 0)), .second, .val (.long ac), .second] [(.long ac)])
      refine hst (fun t₀ k₀ => XS.lload X142.here hx rfl (hb hby at_167) rfl k₀) ?_
      show F T142 (mkF m 169 #[.val (.long q0), .second, .val (.long q1), .second, .val (.long q2), .second, .val (.int p3), .val (.int p4), .val (.int p5), .val (.int (1 : Int32)), .val (.int sz), .val (.int iv), .val (.int fv), .val (.int sv), .val (.ref b54), .val (.int sr), .val (.long (if own_sb (own_w3 q0 q1 q2) (if i < A + s0 then i else i - s0) then 1 else 0)), .second, .val (.long ac), .second] [(.long (if own_sb (own_w3 q0 q1 q2) (if i < A + s0 then i else i - s0) then 1 else 0)), (.long ac)])
      refine hst (fun t₀ k₀ => XS.lcmp X142.here hx rfl (hb hby at_169) rfl k₀) ?_
      show F T142 (mkF m 170 #[.val (.long q0), .second, .val (.long q1), .second, .val (.long q2), .second, .val (.int p3), .val (.int p4), .val (.int p5), .val (.int (1 : Int32)), .val (.int sz), .val (.int iv), .val (.int fv), .val (.int sv), .val (.ref b54), .val (.int sr), .val (.long (if own_sb (own_w3 q0 q1 q2) (if i < A + s0 then i else i - s0) then 1 else 0)), .second, .val (.long ac), .second] [(.int (lcmpW ac (if own_sb (own_w3 q0 q1 q2) (if i < A + s0 then i else i - s0) then 1 else 0)))])
      refine hst (fun t₀ k₀ => XS.ifNo X142.here hx rfl (hb hby at_170) rfl ((if0 _ _).trans (teq ((lw_eq _ _).mpr kac)).2) k₀) ?_
      show F T142 (mkF m 173 #[.val (.long q0), .second, .val (.long q1), .second, .val (.long q2), .second, .val (.int p3), .val (.int p4), .val (.int p5), .val (.int (1 : Int32)), .val (.int sz), .val (.int iv), .val (.int fv), .val (.int sv), .val (.ref b54), .val (.int sr), .val (.long (if own_sb (own_w3 q0 q1 q2) (if i < A + s0 then i else i - s0) then 1 else 0)), .second, .val (.long ac), .second] [])
      refine hst (fun t₀ k₀ => XS.iconst X142.here hx rfl (hb hby at_173) k₀) ?_
      show F T142 (mkF m 174 #[.val (.long q0), .second, .val (.long q1), .second, .val (.long q2), .second, .val (.int p3), .val (.int p4), .val (.int p5), .val (.int (1 : Int32)), .val (.int sz), .val (.int iv), .val (.int fv), .val (.int sv), .val (.ref b54), .val (.int sr), .val (.long (if own_sb (own_w3 q0 q1 q2) (if i < A + s0 then i else i - s0) then 1 else 0)), .second, .val (.long ac), .second] [(.int (1 : Int32))])
      refine hst (fun t₀ k₀ => XS.goto X142.here hx rfl (pc0 := 174) (pc' := 178) rfl (hb hby at_174) (by decide) (by decide) k₀) ?_
      show F T142 (mkF m 178 #[.val (.long q0), .second, .val (.long q1), .second, .val (.long q2), .second, .val (.int p3), .val (.int p4), .val (.int p5), .val (.int (1 : Int32)), .val (.int sz), .val (.int iv), .val (.int fv), .val (.int sv), .val (.ref b54), .val (.int sr), .val (.long (if own_sb (own_w3 q0 q1 q2) (if i < A + s0 then i else i - s0) then 1 else 0)), .second, .val (.long ac), .second] [(.int (1 : Int32))])
      rw [hF]
      refine own_retN X142 hx hret (by simp) hlk (hb hby at_178) (by decide) (by decide) ?_
      rw [he142]
      exact ⟨rfl, N142⟩
  · subst hNq
    show F s₁ (mkF m 47 #[.val (.long q0), .second, .val (.long q1), .second, .val (.long q2), .second, .val (.int p3), .val (.int p4), .val (.int p5), .val (.int (2 : Int32)), .val (.int sz), .val (.int iv), .val (.int fv), .val (.int sv), .unset, .unset, .unset, .unset, .unset, .unset] [])
    refine hst (fun t₀ k₀ => XS.iload XI.here hx rfl (hb hby at_47) rfl k₀) ?_
    show F s₁ (mkF m 49 #[.val (.long q0), .second, .val (.long q1), .second, .val (.long q2), .second, .val (.int p3), .val (.int p4), .val (.int p5), .val (.int (2 : Int32)), .val (.int sz), .val (.int iv), .val (.int fv), .val (.int sv), .unset, .unset, .unset, .unset, .unset, .unset] [(.int (2 : Int32))])
    refine hst (fun t₀ k₀ => XS.iconst XI.here hx rfl (hb hby at_49) k₀) ?_
    show F s₁ (mkF m 50 #[.val (.long q0), .second, .val (.long q1), .second, .val (.long q2), .second, .val (.int p3), .val (.int p4), .val (.int p5), .val (.int (2 : Int32)), .val (.int sz), .val (.int iv), .val (.int fv), .val (.int sv), .unset, .unset, .unset, .unset, .unset, .unset] [(.int (1 : Int32)), (.int (2 : Int32))])
    refine hst (fun t₀ k₀ => XS.icmpYes XI.here hx rfl (pc0 := 50) (pc' := 65) rfl (hb hby at_50) rfl (feq (by decide)).2 (by decide) (by decide) k₀) ?_
    show F s₁ (mkF m 65 #[.val (.long q0), .second, .val (.long q1), .second, .val (.long q2), .second, .val (.int p3), .val (.int p4), .val (.int p5), .val (.int (2 : Int32)), .val (.int sz), .val (.int iv), .val (.int fv), .val (.int sv), .unset, .unset, .unset, .unset, .unset, .unset] [])
    refine hst (fun t₀ k₀ => XS.iload XI.here hx rfl (hb hby at_65) rfl k₀) ?_
    show F s₁ (mkF m 67 #[.val (.long q0), .second, .val (.long q1), .second, .val (.long q2), .second, .val (.int p3), .val (.int p4), .val (.int p5), .val (.int (2 : Int32)), .val (.int sz), .val (.int iv), .val (.int fv), .val (.int sv), .unset, .unset, .unset, .unset, .unset, .unset] [(.int (2 : Int32))])
    refine hst (fun t₀ k₀ => XS.iconst XI.here hx rfl (hb hby at_67) k₀) ?_
    show F s₁ (mkF m 68 #[.val (.long q0), .second, .val (.long q1), .second, .val (.long q2), .second, .val (.int p3), .val (.int p4), .val (.int p5), .val (.int (2 : Int32)), .val (.int sz), .val (.int iv), .val (.int fv), .val (.int sv), .unset, .unset, .unset, .unset, .unset, .unset] [(.int (2 : Int32)), (.int (2 : Int32))])
    refine hst (fun t₀ k₀ => XS.icmpNo XI.here hx rfl (hb hby at_68) rfl (teq (by decide)).2 k₀) ?_
    show F s₁ (mkF m 71 #[.val (.long q0), .second, .val (.long q1), .second, .val (.long q2), .second, .val (.int p3), .val (.int p4), .val (.int p5), .val (.int (2 : Int32)), .val (.int sz), .val (.int iv), .val (.int fv), .val (.int sv), .unset, .unset, .unset, .unset, .unset, .unset] [])
    refine hst (fun t₀ k₀ => XS.iconst XI.here hx rfl (hb hby at_71) k₀) ?_
    show F s₁ (mkF m 72 #[.val (.long q0), .second, .val (.long q1), .second, .val (.long q2), .second, .val (.int p3), .val (.int p4), .val (.int p5), .val (.int (2 : Int32)), .val (.int sz), .val (.int iv), .val (.int fv), .val (.int sv), .unset, .unset, .unset, .unset, .unset, .unset] [(.int (2 : Int32))])
    obtain ⟨T72, h72, b72, X72, e72, g72, E72, A72, st72⟩ := own_newarr XI hx hZ (hw _ (List.mem_of_getElem? (i := 2) rfl)) eI (g := (mkF m 72 #[.val (.long q0), .second, .val (.long q1), .second, .val (.long q2), .second, .val (.int p3), .val (.int p4), .val (.int p5), .val (.int (2 : Int32)), .val (.int sz), .val (.int iv), .val (.int fv), .val (.int sv), .unset, .unset, .unset, .unset, .unset, .unset] [(.int (2 : Int32))])) rfl (hb hby at_72) rfl (by decide) (cap := 2) (by decide) (by decide) (by decide) (by decide)
    have ge_b72 : n0 ≤ b72 := Nat.le_trans Z0 (Nat.le_of_eq g72.symm)
    have Z0_p72 : n0 ≤ h72.size := (Nat.le_trans Z0 E72.1)
    have A_b72 : own_A Z h72 b72 .long 2 (fun _ => (.long (0 : Int64))) := A72
    refine hst st72 ?_
    show F T72 (mkF m 74 #[.val (.long q0), .second, .val (.long q1), .second, .val (.long q2), .second, .val (.int p3), .val (.int p4), .val (.int p5), .val (.int (2 : Int32)), .val (.int sz), .val (.int iv), .val (.int fv), .val (.int sv), .unset, .unset, .unset, .unset, .unset, .unset] [(.ref b72)])
    refine hst (fun t₀ k₀ => XS.dup X72.here hx rfl (hb hby at_74) rfl rfl k₀) ?_
    show F T72 (mkF m 75 #[.val (.long q0), .second, .val (.long q1), .second, .val (.long q2), .second, .val (.int p3), .val (.int p4), .val (.int p5), .val (.int (2 : Int32)), .val (.int sz), .val (.int iv), .val (.int fv), .val (.int sv), .unset, .unset, .unset, .unset, .unset, .unset] [(.ref b72), (.ref b72)])
    refine hst (fun t₀ k₀ => XS.iconst X72.here hx rfl (hb hby at_75) k₀) ?_
    show F T72 (mkF m 76 #[.val (.long q0), .second, .val (.long q1), .second, .val (.long q2), .second, .val (.int p3), .val (.int p4), .val (.int p5), .val (.int (2 : Int32)), .val (.int sz), .val (.int iv), .val (.int fv), .val (.int sv), .unset, .unset, .unset, .unset, .unset, .unset] [(.int (0 : Int32)), (.ref b72), (.ref b72)])
    refine hst (fun t₀ k₀ => XS.lloadN X72.here hx rfl (hb hby at_76) rfl k₀) ?_
    show F T72 (mkF m 77 #[.val (.long q0), .second, .val (.long q1), .second, .val (.long q2), .second, .val (.int p3), .val (.int p4), .val (.int p5), .val (.int (2 : Int32)), .val (.int sz), .val (.int iv), .val (.int fv), .val (.int sv), .unset, .unset, .unset, .unset, .unset, .unset] [(.long q0), (.int (0 : Int32)), (.ref b72), (.ref b72)])
    obtain ⟨T77, h77, X77, e77, W77, st77⟩ := own_lastore X72 hx hZ e72 A_b72 (by decide) (g := (mkF m 77 #[.val (.long q0), .second, .val (.long q1), .second, .val (.long q2), .second, .val (.int p3), .val (.int p4), .val (.int p5), .val (.int (2 : Int32)), .val (.int sz), .val (.int iv), .val (.int fv), .val (.int sv), .unset, .unset, .unset, .unset, .unset, .unset] [(.long q0), (.int (0 : Int32)), (.ref b72), (.ref b72)])) rfl rfl (hb hby at_77)
    have N77 := Fr.snoc X77 NI ge_b72
    have A_b72_p77 : own_A Z h77 b72 .long 2 (fun i => if i = Int32.toNatClampNeg (0 : Int32) then (.long q0) else (fun _ => (.long (0 : Int64))) i) := A_b72.set W77
    have Z0_p77 : n0 ≤ h77.size := Nat.le_trans Z0_p72 (Keep.of_wr W77).1
    refine hst st77 ?_
    show F T77 (mkF m 78 #[.val (.long q0), .second, .val (.long q1), .second, .val (.long q2), .second, .val (.int p3), .val (.int p4), .val (.int p5), .val (.int (2 : Int32)), .val (.int sz), .val (.int iv), .val (.int fv), .val (.int sv), .unset, .unset, .unset, .unset, .unset, .unset] [(.ref b72)])
    refine hst (fun t₀ k₀ => XS.dup X77.here hx rfl (hb hby at_78) rfl rfl k₀) ?_
    show F T77 (mkF m 79 #[.val (.long q0), .second, .val (.long q1), .second, .val (.long q2), .second, .val (.int p3), .val (.int p4), .val (.int p5), .val (.int (2 : Int32)), .val (.int sz), .val (.int iv), .val (.int fv), .val (.int sv), .unset, .unset, .unset, .unset, .unset, .unset] [(.ref b72), (.ref b72)])
    refine hst (fun t₀ k₀ => XS.iconst X77.here hx rfl (hb hby at_79) k₀) ?_
    show F T77 (mkF m 80 #[.val (.long q0), .second, .val (.long q1), .second, .val (.long q2), .second, .val (.int p3), .val (.int p4), .val (.int p5), .val (.int (2 : Int32)), .val (.int sz), .val (.int iv), .val (.int fv), .val (.int sv), .unset, .unset, .unset, .unset, .unset, .unset] [(.int (1 : Int32)), (.ref b72), (.ref b72)])
    refine hst (fun t₀ k₀ => XS.lloadN X77.here hx rfl (hb hby at_80) rfl k₀) ?_
    show F T77 (mkF m 81 #[.val (.long q0), .second, .val (.long q1), .second, .val (.long q2), .second, .val (.int p3), .val (.int p4), .val (.int p5), .val (.int (2 : Int32)), .val (.int sz), .val (.int iv), .val (.int fv), .val (.int sv), .unset, .unset, .unset, .unset, .unset, .unset] [(.long q1), (.int (1 : Int32)), (.ref b72), (.ref b72)])
    obtain ⟨T81, h81, X81, e81, W81, st81⟩ := own_lastore X77 hx hZ e77 A_b72_p77 (by decide) (g := (mkF m 81 #[.val (.long q0), .second, .val (.long q1), .second, .val (.long q2), .second, .val (.int p3), .val (.int p4), .val (.int p5), .val (.int (2 : Int32)), .val (.int sz), .val (.int iv), .val (.int fv), .val (.int sv), .unset, .unset, .unset, .unset, .unset, .unset] [(.long q1), (.int (1 : Int32)), (.ref b72), (.ref b72)])) rfl rfl (hb hby at_81)
    have N81 := Fr.snoc X81 N77 ge_b72
    have A_b72_p81 : own_A Z h81 b72 .long 2 (fun i => if i = Int32.toNatClampNeg (1 : Int32) then (.long q1) else (fun i => if i = Int32.toNatClampNeg (0 : Int32) then (.long q0) else (fun _ => (.long (0 : Int64))) i) i) := A_b72_p77.set W81
    have Z0_p81 : n0 ≤ h81.size := Nat.le_trans Z0_p77 (Keep.of_wr W81).1
    refine hst st81 ?_
    have A_b72_p81c : own_A Z h81 b72 .long 2 (fun i => .long (own_w3 q0 q1 q2 i)) := own_A.congr A_b72_p81 (fun i hi => by rcases i with _ | _ | _ | i <;> first | rfl | omega)
    show F T81 (mkF m 82 #[.val (.long q0), .second, .val (.long q1), .second, .val (.long q2), .second, .val (.int p3), .val (.int p4), .val (.int p5), .val (.int (2 : Int32)), .val (.int sz), .val (.int iv), .val (.int fv), .val (.int sv), .unset, .unset, .unset, .unset, .unset, .unset] [(.ref b72)])
    refine hst (fun t₀ k₀ => XS.astore X81.here hx rfl (hb hby at_82) rfl rfl (l' := #[.val (.long q0), .second, .val (.long q1), .second, .val (.long q2), .second, .val (.int p3), .val (.int p4), .val (.int p5), .val (.int (2 : Int32)), .val (.int sz), .val (.int iv), .val (.int fv), .val (.int sv), .val (.ref b72), .unset, .unset, .unset, .unset, .unset]) rfl k₀) ?_
    show F T81 (mkF m 84 #[.val (.long q0), .second, .val (.long q1), .second, .val (.long q2), .second, .val (.int p3), .val (.int p4), .val (.int p5), .val (.int (2 : Int32)), .val (.int sz), .val (.int iv), .val (.int fv), .val (.int sv), .val (.ref b72), .unset, .unset, .unset, .unset, .unset] [])
    refine hst (fun t₀ k₀ => XS.goto X81.here hx rfl (pc0 := 84) (pc' := 105) rfl (hb hby at_84) (by decide) (by decide) k₀) ?_
    show F T81 (mkF m 105 #[.val (.long q0), .second, .val (.long q1), .second, .val (.long q2), .second, .val (.int p3), .val (.int p4), .val (.int p5), .val (.int (2 : Int32)), .val (.int sz), .val (.int iv), .val (.int fv), .val (.int sv), .val (.ref b72), .unset, .unset, .unset, .unset, .unset] [])
    refine hst (fun t₀ k₀ => XS.aload X81.here hx rfl (hb hby at_105) rfl rfl k₀) ?_
    show F T81 (mkF m 107 #[.val (.long q0), .second, .val (.long q1), .second, .val (.long q2), .second, .val (.int p3), .val (.int p4), .val (.int p5), .val (.int (2 : Int32)), .val (.int sz), .val (.int iv), .val (.int fv), .val (.int sv), .val (.ref b72), .unset, .unset, .unset, .unset, .unset] [(.ref b72)])
    refine hst (fun t₀ k₀ => XS.iload X81.here hx rfl (hb hby at_107) rfl k₀) ?_
    show F T81 (mkF m 109 #[.val (.long q0), .second, .val (.long q1), .second, .val (.long q2), .second, .val (.int p3), .val (.int p4), .val (.int p5), .val (.int (2 : Int32)), .val (.int sz), .val (.int iv), .val (.int fv), .val (.int sv), .val (.ref b72), .unset, .unset, .unset, .unset, .unset] [(.int fv), (.ref b72)])
    refine hst (fun t₀ k₀ => XS.iload X81.here hx rfl (hb hby at_109) rfl k₀) ?_
    show F T81 (mkF m 111 #[.val (.long q0), .second, .val (.long q1), .second, .val (.long q2), .second, .val (.int p3), .val (.int p4), .val (.int p5), .val (.int (2 : Int32)), .val (.int sz), .val (.int iv), .val (.int fv), .val (.int sv), .val (.ref b72), .unset, .unset, .unset, .unset, .unset] [(.int sv), (.int fv), (.ref b72)])
    obtain ⟨v111, T111, Lc111, X111, hQ111, st111⟩ := own_callS X81 hx hZ hown (y := (⟨"com/example/censo/censo/compact/BitFields", "moveUp", "([JII)V"⟩ : MethodName)) (hw _ (List.mem_of_getElem? (i := 3) rfl)) (hw _ (List.mem_of_getElem? (i := 4) rfl)) (hw _ (List.mem_of_getElem? (i := 5) rfl)) (hw _ (List.mem_of_getElem? (i := 6) rfl)) (by decide) e81 (rm1 l Z a0 hw [] b72 fv sv (own_w3 q0 q1 q2) 2 A s0 h81 n0 Z0_p81 A_b72_p81c ge_b72 (by decide) hA (by omega) hS hS2) (by decide) (by decide) (g := (mkF m 111 #[.val (.long q0), .second, .val (.long q1), .second, .val (.long q2), .second, .val (.int p3), .val (.int p4), .val (.int p5), .val (.int (2 : Int32)), .val (.int sz), .val (.int iv), .val (.int fv), .val (.int sv), .val (.ref b72), .unset, .unset, .unset, .unset, .unset] [(.int sv), (.int fv), (.ref b72)])) rfl (by rw [hml]; rfl) (argsL := [(.ref b72), (.int fv), (.int sv)]) (rest := []) (lenOf pd_1 rfl) rfl rfl (W := 0) (by show 2 * 0 + _ ≤ _; exact Nat.le_of_eq rfl) (hb hby at_111) (by decide) (by decide)
    obtain ⟨u111, rfl, Nq111, K111, q1_111, hu_111⟩ := hQ111
    have N111 := Fr.app N81 Nq111
    have Z0_p111 : n0 ≤ T111.heap.size := Nat.le_trans Z0_p81 K111.1
    refine hst st111 ?_
    show F T111 (mkF m 114 #[.val (.long q0), .second, .val (.long q1), .second, .val (.long q2), .second, .val (.int p3), .val (.int p4), .val (.int p5), .val (.int (2 : Int32)), .val (.int sz), .val (.int iv), .val (.int fv), .val (.int sv), .val (.ref b72), .unset, .unset, .unset, .unset, .unset] [])
    refine hst (fun t₀ k₀ => XS.iload X111.here hx rfl (hb hby at_114) rfl k₀) ?_
    show F T111 (mkF m 116 #[.val (.long q0), .second, .val (.long q1), .second, .val (.long q2), .second, .val (.int p3), .val (.int p4), .val (.int p5), .val (.int (2 : Int32)), .val (.int sz), .val (.int iv), .val (.int fv), .val (.int sv), .val (.ref b72), .unset, .unset, .unset, .unset, .unset] [(.int iv)])
    refine hst (fun t₀ k₀ => XS.iload X111.here hx rfl (hb hby at_116) rfl k₀) ?_
    show F T111 (mkF m 118 #[.val (.long q0), .second, .val (.long q1), .second, .val (.long q2), .second, .val (.int p3), .val (.int p4), .val (.int p5), .val (.int (2 : Int32)), .val (.int sz), .val (.int iv), .val (.int fv), .val (.int sv), .val (.ref b72), .unset, .unset, .unset, .unset, .unset] [(.int fv), (.int iv)])
    refine hst (fun t₀ k₀ => XS.iload X111.here hx rfl (hb hby at_118) rfl k₀) ?_
    show F T111 (mkF m 120 #[.val (.long q0), .second, .val (.long q1), .second, .val (.long q2), .second, .val (.int p3), .val (.int p4), .val (.int p5), .val (.int (2 : Int32)), .val (.int sz), .val (.int iv), .val (.int fv), .val (.int sv), .val (.ref b72), .unset, .unset, .unset, .unset, .unset] [(.int sv), (.int fv), (.int iv)])
    refine hst (fun t₀ k₀ => XS.iadd X111.here hx rfl (hb hby at_120) rfl k₀) ?_
    show F T111 (mkF m 121 #[.val (.long q0), .second, .val (.long q1), .second, .val (.long q2), .second, .val (.int p3), .val (.int p4), .val (.int p5), .val (.int (2 : Int32)), .val (.int sz), .val (.int iv), .val (.int fv), .val (.int sv), .val (.ref b72), .unset, .unset, .unset, .unset, .unset] [(.int (fv + sv)), (.int iv)])
    generalize hsu : (fv + sv) = su
    show F T111 (mkF m 121 #[.val (.long q0), .second, .val (.long q1), .second, .val (.long q2), .second, .val (.int p3), .val (.int p4), .val (.int p5), .val (.int (2 : Int32)), .val (.int sz), .val (.int iv), .val (.int fv), .val (.int sv), .val (.ref b72), .unset, .unset, .unset, .unset, .unset] [(.int su), (.int iv)])
    have ksu : su.toInt = ((A + s0 : Nat) : Int) := by have h1 := c_iadd fv sv; have h2 := rng32 su; rw [hsu] at h1; omega
    by_cases hc121 : iv < su
    · -- pc 121: not taken
      refine hst (fun t₀ k₀ => XS.icmpNo X111.here hx rfl (hb hby at_121) rfl (tlt hc121).2.1 k₀) ?_
      show F T111 (mkF m 124 #[.val (.long q0), .second, .val (.long q1), .second, .val (.long q2), .second, .val (.int p3), .val (.int p4), .val (.int p5), .val (.int (2 : Int32)), .val (.int sz), .val (.int iv), .val (.int fv), .val (.int sv), .val (.ref b72), .unset, .unset, .unset, .unset, .unset] [])
      have q121 : i < A + s0 := by rw [own_lt32] at hc121; omega
      have ksr : iv.toInt = ((if i < A + s0 then i else i - s0 : Nat) : Int) := by rw [if_pos q121]; exact hI
      refine hst (fun t₀ k₀ => XS.iload X111.here hx rfl (hb hby at_124) rfl k₀) ?_
      show F T111 (mkF m 126 #[.val (.long q0), .second, .val (.long q1), .second, .val (.long q2), .second, .val (.int p3), .val (.int p4), .val (.int p5), .val (.int (2 : Int32)), .val (.int sz), .val (.int iv), .val (.int fv), .val (.int sv), .val (.ref b72), .unset, .unset, .unset, .unset, .unset] [(.int iv)])
      refine hst (fun t₀ k₀ => XS.goto X111.here hx rfl (pc0 := 126) (pc' := 134) rfl (hb hby at_126) (by decide) (by decide) k₀) ?_
      show F T111 (mkF m 134 #[.val (.long q0), .second, .val (.long q1), .second, .val (.long q2), .second, .val (.int p3), .val (.int p4), .val (.int p5), .val (.int (2 : Int32)), .val (.int sz), .val (.int iv), .val (.int fv), .val (.int sv), .val (.ref b72), .unset, .unset, .unset, .unset, .unset] [(.int iv)])
      refine hst (fun t₀ k₀ => XS.istore X111.here hx rfl (hb hby at_134) rfl (l' := #[.val (.long q0), .second, .val (.long q1), .second, .val (.long q2), .second, .val (.int p3), .val (.int p4), .val (.int p5), .val (.int (2 : Int32)), .val (.int sz), .val (.int iv), .val (.int fv), .val (.int sv), .val (.ref b72), .val (.int iv), .unset, .unset, .unset, .unset]) rfl k₀) ?_
      show F T111 (mkF m 136 #[.val (.long q0), .second, .val (.long q1), .second, .val (.long q2), .second, .val (.int p3), .val (.int p4), .val (.int p5), .val (.int (2 : Int32)), .val (.int sz), .val (.int iv), .val (.int fv), .val (.int sv), .val (.ref b72), .val (.int iv), .unset, .unset, .unset, .unset] [])
      refine hst (fun t₀ k₀ => XS.lloadN X111.here hx rfl (hb hby at_136) rfl k₀) ?_
      show F T111 (mkF m 137 #[.val (.long q0), .second, .val (.long q1), .second, .val (.long q2), .second, .val (.int p3), .val (.int p4), .val (.int p5), .val (.int (2 : Int32)), .val (.int sz), .val (.int iv), .val (.int fv), .val (.int sv), .val (.ref b72), .val (.int iv), .unset, .unset, .unset, .unset] [(.long q0)])
      refine hst (fun t₀ k₀ => XS.lloadN X111.here hx rfl (hb hby at_137) rfl k₀) ?_
      show F T111 (mkF m 138 #[.val (.long q0), .second, .val (.long q1), .second, .val (.long q2), .second, .val (.int p3), .val (.int p4), .val (.int p5), .val (.int (2 : Int32)), .val (.int sz), .val (.int iv), .val (.int fv), .val (.int sv), .val (.ref b72), .val (.int iv), .unset, .unset, .unset, .unset] [(.long q1), (.long q0)])
      refine hst (fun t₀ k₀ => XS.lload X111.here hx rfl (hb hby at_138) rfl k₀) ?_
      show F T111 (mkF m 140 #[.val (.long q0), .second, .val (.long q1), .second, .val (.long q2), .second, .val (.int p3), .val (.int p4), .val (.int p5), .val (.int (2 : Int32)), .val (.int sz), .val (.int iv), .val (.int fv), .val (.int sv), .val (.ref b72), .val (.int iv), .unset, .unset, .unset, .unset] [(.long q2), (.long q1), (.long q0)])
      refine hst (fun t₀ k₀ => XS.iload X111.here hx rfl (hb hby at_140) rfl k₀) ?_
      show F T111 (mkF m 142 #[.val (.long q0), .second, .val (.long q1), .second, .val (.long q2), .second, .val (.int p3), .val (.int p4), .val (.int p5), .val (.int (2 : Int32)), .val (.int sz), .val (.int iv), .val (.int fv), .val (.int sv), .val (.ref b72), .val (.int iv), .unset, .unset, .unset, .unset] [(.int iv), (.long q2), (.long q1), (.long q0)])
      obtain ⟨v142, T142, Lc142, X142, hQ142, st142⟩ := own_callS X111 hx hZ hown (y := (⟨"com/example/censo/censo/compact/BitFieldsMoveUpPinLaw", "oldBit", "(JJJI)J"⟩ : MethodName)) (hw _ (List.mem_of_getElem? (i := 8) rfl)) (hw _ (List.mem_of_getElem? (i := 9) rfl)) (hw _ (List.mem_of_getElem? (i := 10) rfl)) (hw _ (List.mem_of_getElem? (i := 11) rfl)) (by decide) rfl (rm2 l Z a0 hw [] q0 q1 q2 iv (if i < A + s0 then i else i - s0) T111.heap n0 Z0_p111 ksr (by split <;> omega)) (by decide) (by decide) (g := (mkF m 142 #[.val (.long q0), .second, .val (.long q1), .second, .val (.long q2), .second, .val (.int p3), .val (.int p4), .val (.int p5), .val (.int (2 : Int32)), .val (.int sz), .val (.int iv), .val (.int fv), .val (.int sv), .val (.ref b72), .val (.int iv), .unset, .unset, .unset, .unset] [(.int iv), (.long q2), (.long q1), (.long q0)])) rfl (by rw [hml]; rfl) (argsL := [(.long q0), (.long q1), (.long q2), (.int iv)]) (rest := []) (lenOf pd_0 rfl) rfl rfl (W := 0) (by show 2 * 0 + _ ≤ _; exact Nat.le_of_eq rfl) (hb hby at_142) (by decide) (by decide)
      obtain ⟨rfl, Nq142, he142⟩ := hQ142
      have N142 := Fr.app N111 Nq142
      refine hst st142 ?_
      show F T142 (mkF m 145 #[.val (.long q0), .second, .val (.long q1), .second, .val (.long q2), .second, .val (.int p3), .val (.int p4), .val (.int p5), .val (.int (2 : Int32)), .val (.int sz), .val (.int iv), .val (.int fv), .val (.int sv), .val (.ref b72), .val (.int iv), .unset, .unset, .unset, .unset] [(.long (if own_sb (own_w3 q0 q1 q2) (if i < A + s0 then i else i - s0) then 1 else 0))])
      refine hst (fun t₀ k₀ => XS.lstore X142.here hx rfl (hb hby at_145) rfl (l' := #[.val (.long q0), .second, .val (.long q1), .second, .val (.long q2), .second, .val (.int p3), .val (.int p4), .val (.int p5), .val (.int (2 : Int32)), .val (.int sz), .val (.int iv), .val (.int fv), .val (.int sv), .val (.ref b72), .val (.int iv), .val (.long (if own_sb (own_w3 q0 q1 q2) (if i < A + s0 then i else i - s0) then 1 else 0)), .second, .unset, .unset]) rfl k₀) ?_
      show F T142 (mkF m 147 #[.val (.long q0), .second, .val (.long q1), .second, .val (.long q2), .second, .val (.int p3), .val (.int p4), .val (.int p5), .val (.int (2 : Int32)), .val (.int sz), .val (.int iv), .val (.int fv), .val (.int sv), .val (.ref b72), .val (.int iv), .val (.long (if own_sb (own_w3 q0 q1 q2) (if i < A + s0 then i else i - s0) then 1 else 0)), .second, .unset, .unset] [])
      refine hst (fun t₀ k₀ => XS.aload X142.here hx rfl (hb hby at_147) rfl rfl k₀) ?_
      show F T142 (mkF m 149 #[.val (.long q0), .second, .val (.long q1), .second, .val (.long q2), .second, .val (.int p3), .val (.int p4), .val (.int p5), .val (.int (2 : Int32)), .val (.int sz), .val (.int iv), .val (.int fv), .val (.int sv), .val (.ref b72), .val (.int iv), .val (.long (if own_sb (own_w3 q0 q1 q2) (if i < A + s0 then i else i - s0) then 1 else 0)), .second, .unset, .unset] [(.ref b72)])
      refine hst (fun t₀ k₀ => XS.iload X142.here hx rfl (hb hby at_149) rfl k₀) ?_
      show F T142 (mkF m 151 #[.val (.long q0), .second, .val (.long q1), .second, .val (.long q2), .second, .val (.int p3), .val (.int p4), .val (.int p5), .val (.int (2 : Int32)), .val (.int sz), .val (.int iv), .val (.int fv), .val (.int sv), .val (.ref b72), .val (.int iv), .val (.long (if own_sb (own_w3 q0 q1 q2) (if i < A + s0 then i else i - s0) then 1 else 0)), .second, .unset, .unset] [(.int iv), (.ref b72)])
      refine hst (fun t₀ k₀ => XS.bipush X142.here hx rfl (hb hby at_151) k₀) ?_
      show F T142 (mkF m 153 #[.val (.long q0), .second, .val (.long q1), .second, .val (.long q2), .second, .val (.int p3), .val (.int p4), .val (.int p5), .val (.int (2 : Int32)), .val (.int sz), .val (.int iv), .val (.int fv), .val (.int sv), .val (.ref b72), .val (.int iv), .val (.long (if own_sb (own_w3 q0 q1 q2) (if i < A + s0 then i else i - s0) then 1 else 0)), .second, .unset, .unset] [(.int (6 : Int32)), (.int iv), (.ref b72)])
      refine hst (fun t₀ k₀ => XS.iushr X142.here hx rfl (hb hby at_153) rfl k₀) ?_
      show F T142 (mkF m 154 #[.val (.long q0), .second, .val (.long q1), .second, .val (.long q2), .second, .val (.int p3), .val (.int p4), .val (.int p5), .val (.int (2 : Int32)), .val (.int sz), .val (.int iv), .val (.int fv), .val (.int sv), .val (.ref b72), .val (.int iv), .val (.long (if own_sb (own_w3 q0 q1 q2) (if i < A + s0 then i else i - s0) then 1 else 0)), .second, .unset, .unset] [(.int ((iv.toUInt32 >>> ((6 : Int32) &&& 31).toUInt32).toInt32)), (.ref b72)])
      generalize hwd : ((iv.toUInt32 >>> ((6 : Int32) &&& 31).toUInt32).toInt32) = wd
      show F T142 (mkF m 154 #[.val (.long q0), .second, .val (.long q1), .second, .val (.long q2), .second, .val (.int p3), .val (.int p4), .val (.int p5), .val (.int (2 : Int32)), .val (.int sz), .val (.int iv), .val (.int fv), .val (.int sv), .val (.ref b72), .val (.int iv), .val (.long (if own_sb (own_w3 q0 q1 q2) (if i < A + s0 then i else i - s0) then 1 else 0)), .second, .unset, .unset] [(.int wd), (.ref b72)])
      have kwd : wd.toInt = ((i / 64 : Nat) : Int) := by rw [← hwd, c_iushr iv 6 6 (by decide) (by decide)]; omega
      refine hst (fun t₀ k₀ => own_laload X142 hx hZ he142 q1_111 (own_idx wd 2 (by omega) (by omega)) (v := (.long (u111 (i / 64)))) (by show Value.long (u111 wd.toNatClampNeg) = _; rw [own_clamp wd _ kwd]) (g := (mkF m 154 #[.val (.long q0), .second, .val (.long q1), .second, .val (.long q2), .second, .val (.int p3), .val (.int p4), .val (.int p5), .val (.int (2 : Int32)), .val (.int sz), .val (.int iv), .val (.int fv), .val (.int sv), .val (.ref b72), .val (.int iv), .val (.long (if own_sb (own_w3 q0 q1 q2) (if i < A + s0 then i else i - s0) then 1 else 0)), .second, .unset, .unset] [(.int wd), (.ref b72)])) rfl rfl (hb hby at_154) t₀ k₀) ?_
      show F T142 (mkF m 155 #[.val (.long q0), .second, .val (.long q1), .second, .val (.long q2), .second, .val (.int p3), .val (.int p4), .val (.int p5), .val (.int (2 : Int32)), .val (.int sz), .val (.int iv), .val (.int fv), .val (.int sv), .val (.ref b72), .val (.int iv), .val (.long (if own_sb (own_w3 q0 q1 q2) (if i < A + s0 then i else i - s0) then 1 else 0)), .second, .unset, .unset] [(.long (u111 (i / 64)))])
      refine hst (fun t₀ k₀ => XS.iload X142.here hx rfl (hb hby at_155) rfl k₀) ?_
      show F T142 (mkF m 157 #[.val (.long q0), .second, .val (.long q1), .second, .val (.long q2), .second, .val (.int p3), .val (.int p4), .val (.int p5), .val (.int (2 : Int32)), .val (.int sz), .val (.int iv), .val (.int fv), .val (.int sv), .val (.ref b72), .val (.int iv), .val (.long (if own_sb (own_w3 q0 q1 q2) (if i < A + s0 then i else i - s0) then 1 else 0)), .second, .unset, .unset] [(.int iv), (.long (u111 (i / 64)))])
      refine hst (fun t₀ k₀ => XS.bipush X142.here hx rfl (hb hby at_157) k₀) ?_
      show F T142 (mkF m 159 #[.val (.long q0), .second, .val (.long q1), .second, .val (.long q2), .second, .val (.int p3), .val (.int p4), .val (.int p5), .val (.int (2 : Int32)), .val (.int sz), .val (.int iv), .val (.int fv), .val (.int sv), .val (.ref b72), .val (.int iv), .val (.long (if own_sb (own_w3 q0 q1 q2) (if i < A + s0 then i else i - s0) then 1 else 0)), .second, .unset, .unset] [(.int (63 : Int32)), (.int iv), (.long (u111 (i / 64)))])
      refine hst (fun t₀ k₀ => XS.iand X142.here hx rfl (hb hby at_159) rfl k₀) ?_
      show F T142 (mkF m 160 #[.val (.long q0), .second, .val (.long q1), .second, .val (.long q2), .second, .val (.int p3), .val (.int p4), .val (.int p5), .val (.int (2 : Int32)), .val (.int sz), .val (.int iv), .val (.int fv), .val (.int sv), .val (.ref b72), .val (.int iv), .val (.long (if own_sb (own_w3 q0 q1 q2) (if i < A + s0 then i else i - s0) then 1 else 0)), .second, .unset, .unset] [(.int (iv &&& (63 : Int32))), (.long (u111 (i / 64)))])
      generalize hsm : (iv &&& (63 : Int32)) = sm
      show F T142 (mkF m 160 #[.val (.long q0), .second, .val (.long q1), .second, .val (.long q2), .second, .val (.int p3), .val (.int p4), .val (.int p5), .val (.int (2 : Int32)), .val (.int sz), .val (.int iv), .val (.int fv), .val (.int sv), .val (.ref b72), .val (.int iv), .val (.long (if own_sb (own_w3 q0 q1 q2) (if i < A + s0 then i else i - s0) then 1 else 0)), .second, .unset, .unset] [(.int sm), (.long (u111 (i / 64)))])
      have ksm : sm.toInt = ((i % 64 : Nat) : Int) := by rw [← hsm, c_mask iv 63 6 (by decide) (by decide)]; omega
      refine hst (fun t₀ k₀ => XS.lushr X142.here hx rfl (hb hby at_160) rfl k₀) ?_
      show F T142 (mkF m 161 #[.val (.long q0), .second, .val (.long q1), .second, .val (.long q2), .second, .val (.int p3), .val (.int p4), .val (.int p5), .val (.int (2 : Int32)), .val (.int sz), .val (.int iv), .val (.int fv), .val (.int sv), .val (.ref b72), .val (.int iv), .val (.long (if own_sb (own_w3 q0 q1 q2) (if i < A + s0 then i else i - s0) then 1 else 0)), .second, .unset, .unset] [(.long (((u111 (i / 64)).toUInt64 >>> (sm &&& 0x3f).toInt64.toUInt64).toInt64))])
      refine hst (fun t₀ k₀ => XS.lconst X142.here hx rfl (hb hby at_161) k₀) ?_
      show F T142 (mkF m 162 #[.val (.long q0), .second, .val (.long q1), .second, .val (.long q2), .second, .val (.int p3), .val (.int p4), .val (.int p5), .val (.int (2 : Int32)), .val (.int sz), .val (.int iv), .val (.int fv), .val (.int sv), .val (.ref b72), .val (.int iv), .val (.long (if own_sb (own_w3 q0 q1 q2) (if i < A + s0 then i else i - s0) then 1 else 0)), .second, .unset, .unset] [(.long (1 : Int64)), (.long (((u111 (i / 64)).toUInt64 >>> (sm &&& 0x3f).toInt64.toUInt64).toInt64))])
      refine hst (fun t₀ k₀ => XS.land X142.here hx rfl (hb hby at_162) rfl k₀) ?_
      show F T142 (mkF m 163 #[.val (.long q0), .second, .val (.long q1), .second, .val (.long q2), .second, .val (.int p3), .val (.int p4), .val (.int p5), .val (.int (2 : Int32)), .val (.int sz), .val (.int iv), .val (.int fv), .val (.int sv), .val (.ref b72), .val (.int iv), .val (.long (if own_sb (own_w3 q0 q1 q2) (if i < A + s0 then i else i - s0) then 1 else 0)), .second, .unset, .unset] [(.long ((((u111 (i / 64)).toUInt64 >>> (sm &&& 0x3f).toInt64.toUInt64).toInt64) &&& (1 : Int64)))])
      generalize hac : ((((u111 (i / 64)).toUInt64 >>> (sm &&& 0x3f).toInt64.toUInt64).toInt64) &&& (1 : Int64)) = ac
      show F T142 (mkF m 163 #[.val (.long q0), .second, .val (.long q1), .second, .val (.long q2), .second, .val (.int p3), .val (.int p4), .val (.int p5), .val (.int (2 : Int32)), .val (.int sz), .val (.int iv), .val (.int fv), .val (.int sv), .val (.ref b72), .val (.int iv), .val (.long (if own_sb (own_w3 q0 q1 q2) (if i < A + s0 then i else i - s0) then 1 else 0)), .second, .unset, .unset] [(.long ac)])
      have kac : ac = (if own_sb (own_w3 q0 q1 q2) (if i < A + s0 then i else i - s0) then 1 else 0) := by
        rw [← hac, own_one _ sm _ ksm (by omega)]
        have h1 := hu_111 (i / 64) (i % 64) (by omega) (by omega); unfold own_b at h1; rw [h1]
        unfold own_mv own_sb; rw [show 64 * (i / 64) + i % 64 = i by omega]
        by_cases g : i < A + s0
        · rw [if_pos g, if_pos g]
        · rw [if_neg g, if_neg g]
      refine hst (fun t₀ k₀ => XS.lstore X142.here hx rfl (hb hby at_163) rfl (l' := #[.val (.long q0), .second, .val (.long q1), .second, .val (.long q2), .second, .val (.int p3), .val (.int p4), .val (.int p5), .val (.int (2 : Int32)), .val (.int sz), .val (.int iv), .val (.int fv), .val (.int sv), .val (.ref b72), .val (.int iv), .val (.long (if own_sb (own_w3 q0 q1 q2) (if i < A + s0 then i else i - s0) then 1 else 0)), .second, .val (.long ac), .second]) rfl k₀) ?_
      show F T142 (mkF m 165 #[.val (.long q0), .second, .val (.long q1), .second, .val (.long q2), .second, .val (.int p3), .val (.int p4), .val (.int p5), .val (.int (2 : Int32)), .val (.int sz), .val (.int iv), .val (.int fv), .val (.int sv), .val (.ref b72), .val (.int iv), .val (.long (if own_sb (own_w3 q0 q1 q2) (if i < A + s0 then i else i - s0) then 1 else 0)), .second, .val (.long ac), .second] [])
      refine hst (fun t₀ k₀ => XS.lload X142.here hx rfl (hb hby at_165) rfl k₀) ?_
      show F T142 (mkF m 167 #[.val (.long q0), .second, .val (.long q1), .second, .val (.long q2), .second, .val (.int p3), .val (.int p4), .val (.int p5), .val (.int (2 : Int32)), .val (.int sz), .val (.int iv), .val (.int fv), .val (.int sv), .val (.ref b72), .val (.int iv), .val (.long (if own_sb (own_w3 q0 q1 q2) (if i < A + s0 then i else i - s0) then 1 else 0)), .second, .val (.long ac), .second] [(.long ac)])
      refine hst (fun t₀ k₀ => XS.lload X142.here hx rfl (hb hby at_167) rfl k₀) ?_
      show F T142 (mkF m 169 #[.val (.long q0), .second, .val (.long q1), .second, .val (.long q2), .second, .val (.int p3), .val (.int p4), .val (.int p5), .val (.int (2 : Int32)), .val (.int sz), .val (.int iv), .val (.int fv), .val (.int sv), .val (.ref b72), .val (.int iv), .val (.long (if own_sb (own_w3 q0 q1 q2) (if i < A + s0 then i else i - s0) then 1 else 0)), .second, .val (.long ac), .second] [(.long (if own_sb (own_w3 q0 q1 q2) (if i < A + s0 then i else i - s0) then 1 else 0)), (.long ac)])
      refine hst (fun t₀ k₀ => XS.lcmp X142.here hx rfl (hb hby at_169) rfl k₀) ?_
      show F T142 (mkF m 170 #[.val (.long q0), .second, .val (.long q1), .second, .val (.long q2), .second, .val (.int p3), .val (.int p4), .val (.int p5), .val (.int (2 : Int32)), .val (.int sz), .val (.int iv), .val (.int fv), .val (.int sv), .val (.ref b72), .val (.int iv), .val (.long (if own_sb (own_w3 q0 q1 q2) (if i < A + s0 then i else i - s0) then 1 else 0)), .second, .val (.long ac), .second] [(.int (lcmpW ac (if own_sb (own_w3 q0 q1 q2) (if i < A + s0 then i else i - s0) then 1 else 0)))])
      refine hst (fun t₀ k₀ => XS.ifNo X142.here hx rfl (hb hby at_170) rfl ((if0 _ _).trans (teq ((lw_eq _ _).mpr kac)).2) k₀) ?_
      show F T142 (mkF m 173 #[.val (.long q0), .second, .val (.long q1), .second, .val (.long q2), .second, .val (.int p3), .val (.int p4), .val (.int p5), .val (.int (2 : Int32)), .val (.int sz), .val (.int iv), .val (.int fv), .val (.int sv), .val (.ref b72), .val (.int iv), .val (.long (if own_sb (own_w3 q0 q1 q2) (if i < A + s0 then i else i - s0) then 1 else 0)), .second, .val (.long ac), .second] [])
      refine hst (fun t₀ k₀ => XS.iconst X142.here hx rfl (hb hby at_173) k₀) ?_
      show F T142 (mkF m 174 #[.val (.long q0), .second, .val (.long q1), .second, .val (.long q2), .second, .val (.int p3), .val (.int p4), .val (.int p5), .val (.int (2 : Int32)), .val (.int sz), .val (.int iv), .val (.int fv), .val (.int sv), .val (.ref b72), .val (.int iv), .val (.long (if own_sb (own_w3 q0 q1 q2) (if i < A + s0 then i else i - s0) then 1 else 0)), .second, .val (.long ac), .second] [(.int (1 : Int32))])
      refine hst (fun t₀ k₀ => XS.goto X142.here hx rfl (pc0 := 174) (pc' := 178) rfl (hb hby at_174) (by decide) (by decide) k₀) ?_
      show F T142 (mkF m 178 #[.val (.long q0), .second, .val (.long q1), .second, .val (.long q2), .second, .val (.int p3), .val (.int p4), .val (.int p5), .val (.int (2 : Int32)), .val (.int sz), .val (.int iv), .val (.int fv), .val (.int sv), .val (.ref b72), .val (.int iv), .val (.long (if own_sb (own_w3 q0 q1 q2) (if i < A + s0 then i else i - s0) then 1 else 0)), .second, .val (.long ac), .second] [(.int (1 : Int32))])
      rw [hF]
      refine own_retN X142 hx hret (by simp) hlk (hb hby at_178) (by decide) (by decide) ?_
      rw [he142]
      exact ⟨rfl, N142⟩
    · -- pc 121: taken
      refine hst (fun t₀ k₀ => XS.icmpYes X111.here hx rfl (pc0 := 121) (pc' := 129) rfl (hb hby at_121) rfl (flt hc121).2.1 (by decide) (by decide) k₀) ?_
      show F T111 (mkF m 129 #[.val (.long q0), .second, .val (.long q1), .second, .val (.long q2), .second, .val (.int p3), .val (.int p4), .val (.int p5), .val (.int (2 : Int32)), .val (.int sz), .val (.int iv), .val (.int fv), .val (.int sv), .val (.ref b72), .unset, .unset, .unset, .unset, .unset] [])
      have q121 : ¬ i < A + s0 := by rw [own_lt32] at hc121; omega
      refine hst (fun t₀ k₀ => XS.iload X111.here hx rfl (hb hby at_129) rfl k₀) ?_
      show F T111 (mkF m 131 #[.val (.long q0), .second, .val (.long q1), .second, .val (.long q2), .second, .val (.int p3), .val (.int p4), .val (.int p5), .val (.int (2 : Int32)), .val (.int sz), .val (.int iv), .val (.int fv), .val (.int sv), .val (.ref b72), .unset, .unset, .unset, .unset, .unset] [(.int iv)])
      refine hst (fun t₀ k₀ => XS.iload X111.here hx rfl (hb hby at_131) rfl k₀) ?_
      show F T111 (mkF m 133 #[.val (.long q0), .second, .val (.long q1), .second, .val (.long q2), .second, .val (.int p3), .val (.int p4), .val (.int p5), .val (.int (2 : Int32)), .val (.int sz), .val (.int iv), .val (.int fv), .val (.int sv), .val (.ref b72), .unset, .unset, .unset, .unset, .unset] [(.int sv), (.int iv)])
      refine hst (fun t₀ k₀ => XS.isub X111.here hx rfl (hb hby at_133) rfl k₀) ?_
      show F T111 (mkF m 134 #[.val (.long q0), .second, .val (.long q1), .second, .val (.long q2), .second, .val (.int p3), .val (.int p4), .val (.int p5), .val (.int (2 : Int32)), .val (.int sz), .val (.int iv), .val (.int fv), .val (.int sv), .val (.ref b72), .unset, .unset, .unset, .unset, .unset] [(.int (iv - sv))])
      generalize hsr : (iv - sv) = sr
      show F T111 (mkF m 134 #[.val (.long q0), .second, .val (.long q1), .second, .val (.long q2), .second, .val (.int p3), .val (.int p4), .val (.int p5), .val (.int (2 : Int32)), .val (.int sz), .val (.int iv), .val (.int fv), .val (.int sv), .val (.ref b72), .unset, .unset, .unset, .unset, .unset] [(.int sr)])
      have ksr : sr.toInt = ((if i < A + s0 then i else i - s0 : Nat) : Int) := by rw [if_neg q121]; have h1 := c_isub iv sv; have h2 := rng32 sr; rw [hsr] at h1; omega
      refine hst (fun t₀ k₀ => XS.istore X111.here hx rfl (hb hby at_134) rfl (l' := #[.val (.long q0), .second, .val (.long q1), .second, .val (.long q2), .second, .val (.int p3), .val (.int p4), .val (.int p5), .val (.int (2 : Int32)), .val (.int sz), .val (.int iv), .val (.int fv), .val (.int sv), .val (.ref b72), .val (.int sr), .unset, .unset, .unset, .unset]) rfl k₀) ?_
      show F T111 (mkF m 136 #[.val (.long q0), .second, .val (.long q1), .second, .val (.long q2), .second, .val (.int p3), .val (.int p4), .val (.int p5), .val (.int (2 : Int32)), .val (.int sz), .val (.int iv), .val (.int fv), .val (.int sv), .val (.ref b72), .val (.int sr), .unset, .unset, .unset, .unset] [])
      refine hst (fun t₀ k₀ => XS.lloadN X111.here hx rfl (hb hby at_136) rfl k₀) ?_
      show F T111 (mkF m 137 #[.val (.long q0), .second, .val (.long q1), .second, .val (.long q2), .second, .val (.int p3), .val (.int p4), .val (.int p5), .val (.int (2 : Int32)), .val (.int sz), .val (.int iv), .val (.int fv), .val (.int sv), .val (.ref b72), .val (.int sr), .unset, .unset, .unset, .unset] [(.long q0)])
      refine hst (fun t₀ k₀ => XS.lloadN X111.here hx rfl (hb hby at_137) rfl k₀) ?_
      show F T111 (mkF m 138 #[.val (.long q0), .second, .val (.long q1), .second, .val (.long q2), .second, .val (.int p3), .val (.int p4), .val (.int p5), .val (.int (2 : Int32)), .val (.int sz), .val (.int iv), .val (.int fv), .val (.int sv), .val (.ref b72), .val (.int sr), .unset, .unset, .unset, .unset] [(.long q1), (.long q0)])
      refine hst (fun t₀ k₀ => XS.lload X111.here hx rfl (hb hby at_138) rfl k₀) ?_
      show F T111 (mkF m 140 #[.val (.long q0), .second, .val (.long q1), .second, .val (.long q2), .second, .val (.int p3), .val (.int p4), .val (.int p5), .val (.int (2 : Int32)), .val (.int sz), .val (.int iv), .val (.int fv), .val (.int sv), .val (.ref b72), .val (.int sr), .unset, .unset, .unset, .unset] [(.long q2), (.long q1), (.long q0)])
      refine hst (fun t₀ k₀ => XS.iload X111.here hx rfl (hb hby at_140) rfl k₀) ?_
      show F T111 (mkF m 142 #[.val (.long q0), .second, .val (.long q1), .second, .val (.long q2), .second, .val (.int p3), .val (.int p4), .val (.int p5), .val (.int (2 : Int32)), .val (.int sz), .val (.int iv), .val (.int fv), .val (.int sv), .val (.ref b72), .val (.int sr), .unset, .unset, .unset, .unset] [(.int sr), (.long q2), (.long q1), (.long q0)])
      obtain ⟨v142, T142, Lc142, X142, hQ142, st142⟩ := own_callS X111 hx hZ hown (y := (⟨"com/example/censo/censo/compact/BitFieldsMoveUpPinLaw", "oldBit", "(JJJI)J"⟩ : MethodName)) (hw _ (List.mem_of_getElem? (i := 8) rfl)) (hw _ (List.mem_of_getElem? (i := 9) rfl)) (hw _ (List.mem_of_getElem? (i := 10) rfl)) (hw _ (List.mem_of_getElem? (i := 11) rfl)) (by decide) rfl (rm2 l Z a0 hw [] q0 q1 q2 sr (if i < A + s0 then i else i - s0) T111.heap n0 Z0_p111 ksr (by split <;> omega)) (by decide) (by decide) (g := (mkF m 142 #[.val (.long q0), .second, .val (.long q1), .second, .val (.long q2), .second, .val (.int p3), .val (.int p4), .val (.int p5), .val (.int (2 : Int32)), .val (.int sz), .val (.int iv), .val (.int fv), .val (.int sv), .val (.ref b72), .val (.int sr), .unset, .unset, .unset, .unset] [(.int sr), (.long q2), (.long q1), (.long q0)])) rfl (by rw [hml]; rfl) (argsL := [(.long q0), (.long q1), (.long q2), (.int sr)]) (rest := []) (lenOf pd_0 rfl) rfl rfl (W := 0) (by show 2 * 0 + _ ≤ _; exact Nat.le_of_eq rfl) (hb hby at_142) (by decide) (by decide)
      obtain ⟨rfl, Nq142, he142⟩ := hQ142
      have N142 := Fr.app N111 Nq142
      refine hst st142 ?_
      show F T142 (mkF m 145 #[.val (.long q0), .second, .val (.long q1), .second, .val (.long q2), .second, .val (.int p3), .val (.int p4), .val (.int p5), .val (.int (2 : Int32)), .val (.int sz), .val (.int iv), .val (.int fv), .val (.int sv), .val (.ref b72), .val (.int sr), .unset, .unset, .unset, .unset] [(.long (if own_sb (own_w3 q0 q1 q2) (if i < A + s0 then i else i - s0) then 1 else 0))])
      refine hst (fun t₀ k₀ => XS.lstore X142.here hx rfl (hb hby at_145) rfl (l' := #[.val (.long q0), .second, .val (.long q1), .second, .val (.long q2), .second, .val (.int p3), .val (.int p4), .val (.int p5), .val (.int (2 : Int32)), .val (.int sz), .val (.int iv), .val (.int fv), .val (.int sv), .val (.ref b72), .val (.int sr), .val (.long (if own_sb (own_w3 q0 q1 q2) (if i < A + s0 then i else i - s0) then 1 else 0)), .second, .unset, .unset]) rfl k₀) ?_
      show F T142 (mkF m 147 #[.val (.long q0), .second, .val (.long q1), .second, .val (.long q2), .second, .val (.int p3), .val (.int p4), .val (.int p5), .val (.int (2 : Int32)), .val (.int sz), .val (.int iv), .val (.int fv), .val (.int sv), .val (.ref b72), .val (.int sr), .val (.long (if own_sb (own_w3 q0 q1 q2) (if i < A + s0 then i else i - s0) then 1 else 0)), .second, .unset, .unset] [])
      refine hst (fun t₀ k₀ => XS.aload X142.here hx rfl (hb hby at_147) rfl rfl k₀) ?_
      show F T142 (mkF m 149 #[.val (.long q0), .second, .val (.long q1), .second, .val (.long q2), .second, .val (.int p3), .val (.int p4), .val (.int p5), .val (.int (2 : Int32)), .val (.int sz), .val (.int iv), .val (.int fv), .val (.int sv), .val (.ref b72), .val (.int sr), .val (.long (if own_sb (own_w3 q0 q1 q2) (if i < A + s0 then i else i - s0) then 1 else 0)), .second, .unset, .unset] [(.ref b72)])
      refine hst (fun t₀ k₀ => XS.iload X142.here hx rfl (hb hby at_149) rfl k₀) ?_
      show F T142 (mkF m 151 #[.val (.long q0), .second, .val (.long q1), .second, .val (.long q2), .second, .val (.int p3), .val (.int p4), .val (.int p5), .val (.int (2 : Int32)), .val (.int sz), .val (.int iv), .val (.int fv), .val (.int sv), .val (.ref b72), .val (.int sr), .val (.long (if own_sb (own_w3 q0 q1 q2) (if i < A + s0 then i else i - s0) then 1 else 0)), .second, .unset, .unset] [(.int iv), (.ref b72)])
      refine hst (fun t₀ k₀ => XS.bipush X142.here hx rfl (hb hby at_151) k₀) ?_
      show F T142 (mkF m 153 #[.val (.long q0), .second, .val (.long q1), .second, .val (.long q2), .second, .val (.int p3), .val (.int p4), .val (.int p5), .val (.int (2 : Int32)), .val (.int sz), .val (.int iv), .val (.int fv), .val (.int sv), .val (.ref b72), .val (.int sr), .val (.long (if own_sb (own_w3 q0 q1 q2) (if i < A + s0 then i else i - s0) then 1 else 0)), .second, .unset, .unset] [(.int (6 : Int32)), (.int iv), (.ref b72)])
      refine hst (fun t₀ k₀ => XS.iushr X142.here hx rfl (hb hby at_153) rfl k₀) ?_
      show F T142 (mkF m 154 #[.val (.long q0), .second, .val (.long q1), .second, .val (.long q2), .second, .val (.int p3), .val (.int p4), .val (.int p5), .val (.int (2 : Int32)), .val (.int sz), .val (.int iv), .val (.int fv), .val (.int sv), .val (.ref b72), .val (.int sr), .val (.long (if own_sb (own_w3 q0 q1 q2) (if i < A + s0 then i else i - s0) then 1 else 0)), .second, .unset, .unset] [(.int ((iv.toUInt32 >>> ((6 : Int32) &&& 31).toUInt32).toInt32)), (.ref b72)])
      generalize hwd : ((iv.toUInt32 >>> ((6 : Int32) &&& 31).toUInt32).toInt32) = wd
      show F T142 (mkF m 154 #[.val (.long q0), .second, .val (.long q1), .second, .val (.long q2), .second, .val (.int p3), .val (.int p4), .val (.int p5), .val (.int (2 : Int32)), .val (.int sz), .val (.int iv), .val (.int fv), .val (.int sv), .val (.ref b72), .val (.int sr), .val (.long (if own_sb (own_w3 q0 q1 q2) (if i < A + s0 then i else i - s0) then 1 else 0)), .second, .unset, .unset] [(.int wd), (.ref b72)])
      have kwd : wd.toInt = ((i / 64 : Nat) : Int) := by rw [← hwd, c_iushr iv 6 6 (by decide) (by decide)]; omega
      refine hst (fun t₀ k₀ => own_laload X142 hx hZ he142 q1_111 (own_idx wd 2 (by omega) (by omega)) (v := (.long (u111 (i / 64)))) (by show Value.long (u111 wd.toNatClampNeg) = _; rw [own_clamp wd _ kwd]) (g := (mkF m 154 #[.val (.long q0), .second, .val (.long q1), .second, .val (.long q2), .second, .val (.int p3), .val (.int p4), .val (.int p5), .val (.int (2 : Int32)), .val (.int sz), .val (.int iv), .val (.int fv), .val (.int sv), .val (.ref b72), .val (.int sr), .val (.long (if own_sb (own_w3 q0 q1 q2) (if i < A + s0 then i else i - s0) then 1 else 0)), .second, .unset, .unset] [(.int wd), (.ref b72)])) rfl rfl (hb hby at_154) t₀ k₀) ?_
      show F T142 (mkF m 155 #[.val (.long q0), .second, .val (.long q1), .second, .val (.long q2), .second, .val (.int p3), .val (.int p4), .val (.int p5), .val (.int (2 : Int32)), .val (.int sz), .val (.int iv), .val (.int fv), .val (.int sv), .val (.ref b72), .val (.int sr), .val (.long (if own_sb (own_w3 q0 q1 q2) (if i < A + s0 then i else i - s0) then 1 else 0)), .second, .unset, .unset] [(.long (u111 (i / 64)))])
      refine hst (fun t₀ k₀ => XS.iload X142.here hx rfl (hb hby at_155) rfl k₀) ?_
      show F T142 (mkF m 157 #[.val (.long q0), .second, .val (.long q1), .second, .val (.long q2), .second, .val (.int p3), .val (.int p4), .val (.int p5), .val (.int (2 : Int32)), .val (.int sz), .val (.int iv), .val (.int fv), .val (.int sv), .val (.ref b72), .val (.int sr), .val (.long (if own_sb (own_w3 q0 q1 q2) (if i < A + s0 then i else i - s0) then 1 else 0)), .second, .unset, .unset] [(.int iv), (.long (u111 (i / 64)))])
      refine hst (fun t₀ k₀ => XS.bipush X142.here hx rfl (hb hby at_157) k₀) ?_
      show F T142 (mkF m 159 #[.val (.long q0), .second, .val (.long q1), .second, .val (.long q2), .second, .val (.int p3), .val (.int p4), .val (.int p5), .val (.int (2 : Int32)), .val (.int sz), .val (.int iv), .val (.int fv), .val (.int sv), .val (.ref b72), .val (.int sr), .val (.long (if own_sb (own_w3 q0 q1 q2) (if i < A + s0 then i else i - s0) then 1 else 0)), .second, .unset, .unset] [(.int (63 : Int32)), (.int iv), (.long (u111 (i / 64)))])
      refine hst (fun t₀ k₀ => XS.iand X142.here hx rfl (hb hby at_159) rfl k₀) ?_
      show F T142 (mkF m 160 #[.val (.long q0), .second, .val (.long q1), .second, .val (.long q2), .second, .val (.int p3), .val (.int p4), .val (.int p5), .val (.int (2 : Int32)), .val (.int sz), .val (.int iv), .val (.int fv), .val (.int sv), .val (.ref b72), .val (.int sr), .val (.long (if own_sb (own_w3 q0 q1 q2) (if i < A + s0 then i else i - s0) then 1 else 0)), .second, .unset, .unset] [(.int (iv &&& (63 : Int32))), (.long (u111 (i / 64)))])
      generalize hsm : (iv &&& (63 : Int32)) = sm
      show F T142 (mkF m 160 #[.val (.long q0), .second, .val (.long q1), .second, .val (.long q2), .second, .val (.int p3), .val (.int p4), .val (.int p5), .val (.int (2 : Int32)), .val (.int sz), .val (.int iv), .val (.int fv), .val (.int sv), .val (.ref b72), .val (.int sr), .val (.long (if own_sb (own_w3 q0 q1 q2) (if i < A + s0 then i else i - s0) then 1 else 0)), .second, .unset, .unset] [(.int sm), (.long (u111 (i / 64)))])
      have ksm : sm.toInt = ((i % 64 : Nat) : Int) := by rw [← hsm, c_mask iv 63 6 (by decide) (by decide)]; omega
      refine hst (fun t₀ k₀ => XS.lushr X142.here hx rfl (hb hby at_160) rfl k₀) ?_
      show F T142 (mkF m 161 #[.val (.long q0), .second, .val (.long q1), .second, .val (.long q2), .second, .val (.int p3), .val (.int p4), .val (.int p5), .val (.int (2 : Int32)), .val (.int sz), .val (.int iv), .val (.int fv), .val (.int sv), .val (.ref b72), .val (.int sr), .val (.long (if own_sb (own_w3 q0 q1 q2) (if i < A + s0 then i else i - s0) then 1 else 0)), .second, .unset, .unset] [(.long (((u111 (i / 64)).toUInt64 >>> (sm &&& 0x3f).toInt64.toUInt64).toInt64))])
      refine hst (fun t₀ k₀ => XS.lconst X142.here hx rfl (hb hby at_161) k₀) ?_
      show F T142 (mkF m 162 #[.val (.long q0), .second, .val (.long q1), .second, .val (.long q2), .second, .val (.int p3), .val (.int p4), .val (.int p5), .val (.int (2 : Int32)), .val (.int sz), .val (.int iv), .val (.int fv), .val (.int sv), .val (.ref b72), .val (.int sr), .val (.long (if own_sb (own_w3 q0 q1 q2) (if i < A + s0 then i else i - s0) then 1 else 0)), .second, .unset, .unset] [(.long (1 : Int64)), (.long (((u111 (i / 64)).toUInt64 >>> (sm &&& 0x3f).toInt64.toUInt64).toInt64))])
      refine hst (fun t₀ k₀ => XS.land X142.here hx rfl (hb hby at_162) rfl k₀) ?_
      show F T142 (mkF m 163 #[.val (.long q0), .second, .val (.long q1), .second, .val (.long q2), .second, .val (.int p3), .val (.int p4), .val (.int p5), .val (.int (2 : Int32)), .val (.int sz), .val (.int iv), .val (.int fv), .val (.int sv), .val (.ref b72), .val (.int sr), .val (.long (if own_sb (own_w3 q0 q1 q2) (if i < A + s0 then i else i - s0) then 1 else 0)), .second, .unset, .unset] [(.long ((((u111 (i / 64)).toUInt64 >>> (sm &&& 0x3f).toInt64.toUInt64).toInt64) &&& (1 : Int64)))])
      generalize hac : ((((u111 (i / 64)).toUInt64 >>> (sm &&& 0x3f).toInt64.toUInt64).toInt64) &&& (1 : Int64)) = ac
      show F T142 (mkF m 163 #[.val (.long q0), .second, .val (.long q1), .second, .val (.long q2), .second, .val (.int p3), .val (.int p4), .val (.int p5), .val (.int (2 : Int32)), .val (.int sz), .val (.int iv), .val (.int fv), .val (.int sv), .val (.ref b72), .val (.int sr), .val (.long (if own_sb (own_w3 q0 q1 q2) (if i < A + s0 then i else i - s0) then 1 else 0)), .second, .unset, .unset] [(.long ac)])
      have kac : ac = (if own_sb (own_w3 q0 q1 q2) (if i < A + s0 then i else i - s0) then 1 else 0) := by
        rw [← hac, own_one _ sm _ ksm (by omega)]
        have h1 := hu_111 (i / 64) (i % 64) (by omega) (by omega); unfold own_b at h1; rw [h1]
        unfold own_mv own_sb; rw [show 64 * (i / 64) + i % 64 = i by omega]
        by_cases g : i < A + s0
        · rw [if_pos g, if_pos g]
        · rw [if_neg g, if_neg g]
      refine hst (fun t₀ k₀ => XS.lstore X142.here hx rfl (hb hby at_163) rfl (l' := #[.val (.long q0), .second, .val (.long q1), .second, .val (.long q2), .second, .val (.int p3), .val (.int p4), .val (.int p5), .val (.int (2 : Int32)), .val (.int sz), .val (.int iv), .val (.int fv), .val (.int sv), .val (.ref b72), .val (.int sr), .val (.long (if own_sb (own_w3 q0 q1 q2) (if i < A + s0 then i else i - s0) then 1 else 0)), .second, .val (.long ac), .second]) rfl k₀) ?_
      show F T142 (mkF m 165 #[.val (.long q0), .second, .val (.long q1), .second, .val (.long q2), .second, .val (.int p3), .val (.int p4), .val (.int p5), .val (.int (2 : Int32)), .val (.int sz), .val (.int iv), .val (.int fv), .val (.int sv), .val (.ref b72), .val (.int sr), .val (.long (if own_sb (own_w3 q0 q1 q2) (if i < A + s0 then i else i - s0) then 1 else 0)), .second, .val (.long ac), .second] [])
      refine hst (fun t₀ k₀ => XS.lload X142.here hx rfl (hb hby at_165) rfl k₀) ?_
      show F T142 (mkF m 167 #[.val (.long q0), .second, .val (.long q1), .second, .val (.long q2), .second, .val (.int p3), .val (.int p4), .val (.int p5), .val (.int (2 : Int32)), .val (.int sz), .val (.int iv), .val (.int fv), .val (.int sv), .val (.ref b72), .val (.int sr), .val (.long (if own_sb (own_w3 q0 q1 q2) (if i < A + s0 then i else i - s0) then 1 else 0)), .second, .val (.long ac), .second] [(.long ac)])
      refine hst (fun t₀ k₀ => XS.lload X142.here hx rfl (hb hby at_167) rfl k₀) ?_
      show F T142 (mkF m 169 #[.val (.long q0), .second, .val (.long q1), .second, .val (.long q2), .second, .val (.int p3), .val (.int p4), .val (.int p5), .val (.int (2 : Int32)), .val (.int sz), .val (.int iv), .val (.int fv), .val (.int sv), .val (.ref b72), .val (.int sr), .val (.long (if own_sb (own_w3 q0 q1 q2) (if i < A + s0 then i else i - s0) then 1 else 0)), .second, .val (.long ac), .second] [(.long (if own_sb (own_w3 q0 q1 q2) (if i < A + s0 then i else i - s0) then 1 else 0)), (.long ac)])
      refine hst (fun t₀ k₀ => XS.lcmp X142.here hx rfl (hb hby at_169) rfl k₀) ?_
      show F T142 (mkF m 170 #[.val (.long q0), .second, .val (.long q1), .second, .val (.long q2), .second, .val (.int p3), .val (.int p4), .val (.int p5), .val (.int (2 : Int32)), .val (.int sz), .val (.int iv), .val (.int fv), .val (.int sv), .val (.ref b72), .val (.int sr), .val (.long (if own_sb (own_w3 q0 q1 q2) (if i < A + s0 then i else i - s0) then 1 else 0)), .second, .val (.long ac), .second] [(.int (lcmpW ac (if own_sb (own_w3 q0 q1 q2) (if i < A + s0 then i else i - s0) then 1 else 0)))])
      refine hst (fun t₀ k₀ => XS.ifNo X142.here hx rfl (hb hby at_170) rfl ((if0 _ _).trans (teq ((lw_eq _ _).mpr kac)).2) k₀) ?_
      show F T142 (mkF m 173 #[.val (.long q0), .second, .val (.long q1), .second, .val (.long q2), .second, .val (.int p3), .val (.int p4), .val (.int p5), .val (.int (2 : Int32)), .val (.int sz), .val (.int iv), .val (.int fv), .val (.int sv), .val (.ref b72), .val (.int sr), .val (.long (if own_sb (own_w3 q0 q1 q2) (if i < A + s0 then i else i - s0) then 1 else 0)), .second, .val (.long ac), .second] [])
      refine hst (fun t₀ k₀ => XS.iconst X142.here hx rfl (hb hby at_173) k₀) ?_
      show F T142 (mkF m 174 #[.val (.long q0), .second, .val (.long q1), .second, .val (.long q2), .second, .val (.int p3), .val (.int p4), .val (.int p5), .val (.int (2 : Int32)), .val (.int sz), .val (.int iv), .val (.int fv), .val (.int sv), .val (.ref b72), .val (.int sr), .val (.long (if own_sb (own_w3 q0 q1 q2) (if i < A + s0 then i else i - s0) then 1 else 0)), .second, .val (.long ac), .second] [(.int (1 : Int32))])
      refine hst (fun t₀ k₀ => XS.goto X142.here hx rfl (pc0 := 174) (pc' := 178) rfl (hb hby at_174) (by decide) (by decide) k₀) ?_
      show F T142 (mkF m 178 #[.val (.long q0), .second, .val (.long q1), .second, .val (.long q2), .second, .val (.int p3), .val (.int p4), .val (.int p5), .val (.int (2 : Int32)), .val (.int sz), .val (.int iv), .val (.int fv), .val (.int sv), .val (.ref b72), .val (.int sr), .val (.long (if own_sb (own_w3 q0 q1 q2) (if i < A + s0 then i else i - s0) then 1 else 0)), .second, .val (.long ac), .second] [(.int (1 : Int32))])
      rw [hF]
      refine own_retN X142 hx hret (by simp) hlk (hb hby at_178) (by decide) (by decide) ?_
      rw [he142]
      exact ⟨rfl, N142⟩
  · subst hNq
    show F s₁ (mkF m 47 #[.val (.long q0), .second, .val (.long q1), .second, .val (.long q2), .second, .val (.int p3), .val (.int p4), .val (.int p5), .val (.int (3 : Int32)), .val (.int sz), .val (.int iv), .val (.int fv), .val (.int sv), .unset, .unset, .unset, .unset, .unset, .unset] [])
    refine hst (fun t₀ k₀ => XS.iload XI.here hx rfl (hb hby at_47) rfl k₀) ?_
    show F s₁ (mkF m 49 #[.val (.long q0), .second, .val (.long q1), .second, .val (.long q2), .second, .val (.int p3), .val (.int p4), .val (.int p5), .val (.int (3 : Int32)), .val (.int sz), .val (.int iv), .val (.int fv), .val (.int sv), .unset, .unset, .unset, .unset, .unset, .unset] [(.int (3 : Int32))])
    refine hst (fun t₀ k₀ => XS.iconst XI.here hx rfl (hb hby at_49) k₀) ?_
    show F s₁ (mkF m 50 #[.val (.long q0), .second, .val (.long q1), .second, .val (.long q2), .second, .val (.int p3), .val (.int p4), .val (.int p5), .val (.int (3 : Int32)), .val (.int sz), .val (.int iv), .val (.int fv), .val (.int sv), .unset, .unset, .unset, .unset, .unset, .unset] [(.int (1 : Int32)), (.int (3 : Int32))])
    refine hst (fun t₀ k₀ => XS.icmpYes XI.here hx rfl (pc0 := 50) (pc' := 65) rfl (hb hby at_50) rfl (feq (by decide)).2 (by decide) (by decide) k₀) ?_
    show F s₁ (mkF m 65 #[.val (.long q0), .second, .val (.long q1), .second, .val (.long q2), .second, .val (.int p3), .val (.int p4), .val (.int p5), .val (.int (3 : Int32)), .val (.int sz), .val (.int iv), .val (.int fv), .val (.int sv), .unset, .unset, .unset, .unset, .unset, .unset] [])
    refine hst (fun t₀ k₀ => XS.iload XI.here hx rfl (hb hby at_65) rfl k₀) ?_
    show F s₁ (mkF m 67 #[.val (.long q0), .second, .val (.long q1), .second, .val (.long q2), .second, .val (.int p3), .val (.int p4), .val (.int p5), .val (.int (3 : Int32)), .val (.int sz), .val (.int iv), .val (.int fv), .val (.int sv), .unset, .unset, .unset, .unset, .unset, .unset] [(.int (3 : Int32))])
    refine hst (fun t₀ k₀ => XS.iconst XI.here hx rfl (hb hby at_67) k₀) ?_
    show F s₁ (mkF m 68 #[.val (.long q0), .second, .val (.long q1), .second, .val (.long q2), .second, .val (.int p3), .val (.int p4), .val (.int p5), .val (.int (3 : Int32)), .val (.int sz), .val (.int iv), .val (.int fv), .val (.int sv), .unset, .unset, .unset, .unset, .unset, .unset] [(.int (2 : Int32)), (.int (3 : Int32))])
    refine hst (fun t₀ k₀ => XS.icmpYes XI.here hx rfl (pc0 := 68) (pc' := 87) rfl (hb hby at_68) rfl (feq (by decide)).2 (by decide) (by decide) k₀) ?_
    show F s₁ (mkF m 87 #[.val (.long q0), .second, .val (.long q1), .second, .val (.long q2), .second, .val (.int p3), .val (.int p4), .val (.int p5), .val (.int (3 : Int32)), .val (.int sz), .val (.int iv), .val (.int fv), .val (.int sv), .unset, .unset, .unset, .unset, .unset, .unset] [])
    refine hst (fun t₀ k₀ => XS.iconst XI.here hx rfl (hb hby at_87) k₀) ?_
    show F s₁ (mkF m 88 #[.val (.long q0), .second, .val (.long q1), .second, .val (.long q2), .second, .val (.int p3), .val (.int p4), .val (.int p5), .val (.int (3 : Int32)), .val (.int sz), .val (.int iv), .val (.int fv), .val (.int sv), .unset, .unset, .unset, .unset, .unset, .unset] [(.int (3 : Int32))])
    obtain ⟨T88, h88, b88, X88, e88, g88, E88, A88, st88⟩ := own_newarr XI hx hZ (hw _ (List.mem_of_getElem? (i := 2) rfl)) eI (g := (mkF m 88 #[.val (.long q0), .second, .val (.long q1), .second, .val (.long q2), .second, .val (.int p3), .val (.int p4), .val (.int p5), .val (.int (3 : Int32)), .val (.int sz), .val (.int iv), .val (.int fv), .val (.int sv), .unset, .unset, .unset, .unset, .unset, .unset] [(.int (3 : Int32))])) rfl (hb hby at_88) rfl (by decide) (cap := 3) (by decide) (by decide) (by decide) (by decide)
    have ge_b88 : n0 ≤ b88 := Nat.le_trans Z0 (Nat.le_of_eq g88.symm)
    have Z0_p88 : n0 ≤ h88.size := (Nat.le_trans Z0 E88.1)
    have A_b88 : own_A Z h88 b88 .long 3 (fun _ => (.long (0 : Int64))) := A88
    refine hst st88 ?_
    show F T88 (mkF m 90 #[.val (.long q0), .second, .val (.long q1), .second, .val (.long q2), .second, .val (.int p3), .val (.int p4), .val (.int p5), .val (.int (3 : Int32)), .val (.int sz), .val (.int iv), .val (.int fv), .val (.int sv), .unset, .unset, .unset, .unset, .unset, .unset] [(.ref b88)])
    refine hst (fun t₀ k₀ => XS.dup X88.here hx rfl (hb hby at_90) rfl rfl k₀) ?_
    show F T88 (mkF m 91 #[.val (.long q0), .second, .val (.long q1), .second, .val (.long q2), .second, .val (.int p3), .val (.int p4), .val (.int p5), .val (.int (3 : Int32)), .val (.int sz), .val (.int iv), .val (.int fv), .val (.int sv), .unset, .unset, .unset, .unset, .unset, .unset] [(.ref b88), (.ref b88)])
    refine hst (fun t₀ k₀ => XS.iconst X88.here hx rfl (hb hby at_91) k₀) ?_
    show F T88 (mkF m 92 #[.val (.long q0), .second, .val (.long q1), .second, .val (.long q2), .second, .val (.int p3), .val (.int p4), .val (.int p5), .val (.int (3 : Int32)), .val (.int sz), .val (.int iv), .val (.int fv), .val (.int sv), .unset, .unset, .unset, .unset, .unset, .unset] [(.int (0 : Int32)), (.ref b88), (.ref b88)])
    refine hst (fun t₀ k₀ => XS.lloadN X88.here hx rfl (hb hby at_92) rfl k₀) ?_
    show F T88 (mkF m 93 #[.val (.long q0), .second, .val (.long q1), .second, .val (.long q2), .second, .val (.int p3), .val (.int p4), .val (.int p5), .val (.int (3 : Int32)), .val (.int sz), .val (.int iv), .val (.int fv), .val (.int sv), .unset, .unset, .unset, .unset, .unset, .unset] [(.long q0), (.int (0 : Int32)), (.ref b88), (.ref b88)])
    obtain ⟨T93, h93, X93, e93, W93, st93⟩ := own_lastore X88 hx hZ e88 A_b88 (by decide) (g := (mkF m 93 #[.val (.long q0), .second, .val (.long q1), .second, .val (.long q2), .second, .val (.int p3), .val (.int p4), .val (.int p5), .val (.int (3 : Int32)), .val (.int sz), .val (.int iv), .val (.int fv), .val (.int sv), .unset, .unset, .unset, .unset, .unset, .unset] [(.long q0), (.int (0 : Int32)), (.ref b88), (.ref b88)])) rfl rfl (hb hby at_93)
    have N93 := Fr.snoc X93 NI ge_b88
    have A_b88_p93 : own_A Z h93 b88 .long 3 (fun i => if i = Int32.toNatClampNeg (0 : Int32) then (.long q0) else (fun _ => (.long (0 : Int64))) i) := A_b88.set W93
    have Z0_p93 : n0 ≤ h93.size := Nat.le_trans Z0_p88 (Keep.of_wr W93).1
    refine hst st93 ?_
    show F T93 (mkF m 94 #[.val (.long q0), .second, .val (.long q1), .second, .val (.long q2), .second, .val (.int p3), .val (.int p4), .val (.int p5), .val (.int (3 : Int32)), .val (.int sz), .val (.int iv), .val (.int fv), .val (.int sv), .unset, .unset, .unset, .unset, .unset, .unset] [(.ref b88)])
    refine hst (fun t₀ k₀ => XS.dup X93.here hx rfl (hb hby at_94) rfl rfl k₀) ?_
    show F T93 (mkF m 95 #[.val (.long q0), .second, .val (.long q1), .second, .val (.long q2), .second, .val (.int p3), .val (.int p4), .val (.int p5), .val (.int (3 : Int32)), .val (.int sz), .val (.int iv), .val (.int fv), .val (.int sv), .unset, .unset, .unset, .unset, .unset, .unset] [(.ref b88), (.ref b88)])
    refine hst (fun t₀ k₀ => XS.iconst X93.here hx rfl (hb hby at_95) k₀) ?_
    show F T93 (mkF m 96 #[.val (.long q0), .second, .val (.long q1), .second, .val (.long q2), .second, .val (.int p3), .val (.int p4), .val (.int p5), .val (.int (3 : Int32)), .val (.int sz), .val (.int iv), .val (.int fv), .val (.int sv), .unset, .unset, .unset, .unset, .unset, .unset] [(.int (1 : Int32)), (.ref b88), (.ref b88)])
    refine hst (fun t₀ k₀ => XS.lloadN X93.here hx rfl (hb hby at_96) rfl k₀) ?_
    show F T93 (mkF m 97 #[.val (.long q0), .second, .val (.long q1), .second, .val (.long q2), .second, .val (.int p3), .val (.int p4), .val (.int p5), .val (.int (3 : Int32)), .val (.int sz), .val (.int iv), .val (.int fv), .val (.int sv), .unset, .unset, .unset, .unset, .unset, .unset] [(.long q1), (.int (1 : Int32)), (.ref b88), (.ref b88)])
    obtain ⟨T97, h97, X97, e97, W97, st97⟩ := own_lastore X93 hx hZ e93 A_b88_p93 (by decide) (g := (mkF m 97 #[.val (.long q0), .second, .val (.long q1), .second, .val (.long q2), .second, .val (.int p3), .val (.int p4), .val (.int p5), .val (.int (3 : Int32)), .val (.int sz), .val (.int iv), .val (.int fv), .val (.int sv), .unset, .unset, .unset, .unset, .unset, .unset] [(.long q1), (.int (1 : Int32)), (.ref b88), (.ref b88)])) rfl rfl (hb hby at_97)
    have N97 := Fr.snoc X97 N93 ge_b88
    have A_b88_p97 : own_A Z h97 b88 .long 3 (fun i => if i = Int32.toNatClampNeg (1 : Int32) then (.long q1) else (fun i => if i = Int32.toNatClampNeg (0 : Int32) then (.long q0) else (fun _ => (.long (0 : Int64))) i) i) := A_b88_p93.set W97
    have Z0_p97 : n0 ≤ h97.size := Nat.le_trans Z0_p93 (Keep.of_wr W97).1
    refine hst st97 ?_
    show F T97 (mkF m 98 #[.val (.long q0), .second, .val (.long q1), .second, .val (.long q2), .second, .val (.int p3), .val (.int p4), .val (.int p5), .val (.int (3 : Int32)), .val (.int sz), .val (.int iv), .val (.int fv), .val (.int sv), .unset, .unset, .unset, .unset, .unset, .unset] [(.ref b88)])
    refine hst (fun t₀ k₀ => XS.dup X97.here hx rfl (hb hby at_98) rfl rfl k₀) ?_
    show F T97 (mkF m 99 #[.val (.long q0), .second, .val (.long q1), .second, .val (.long q2), .second, .val (.int p3), .val (.int p4), .val (.int p5), .val (.int (3 : Int32)), .val (.int sz), .val (.int iv), .val (.int fv), .val (.int sv), .unset, .unset, .unset, .unset, .unset, .unset] [(.ref b88), (.ref b88)])
    refine hst (fun t₀ k₀ => XS.iconst X97.here hx rfl (hb hby at_99) k₀) ?_
    show F T97 (mkF m 100 #[.val (.long q0), .second, .val (.long q1), .second, .val (.long q2), .second, .val (.int p3), .val (.int p4), .val (.int p5), .val (.int (3 : Int32)), .val (.int sz), .val (.int iv), .val (.int fv), .val (.int sv), .unset, .unset, .unset, .unset, .unset, .unset] [(.int (2 : Int32)), (.ref b88), (.ref b88)])
    refine hst (fun t₀ k₀ => XS.lload X97.here hx rfl (hb hby at_100) rfl k₀) ?_
    show F T97 (mkF m 102 #[.val (.long q0), .second, .val (.long q1), .second, .val (.long q2), .second, .val (.int p3), .val (.int p4), .val (.int p5), .val (.int (3 : Int32)), .val (.int sz), .val (.int iv), .val (.int fv), .val (.int sv), .unset, .unset, .unset, .unset, .unset, .unset] [(.long q2), (.int (2 : Int32)), (.ref b88), (.ref b88)])
    obtain ⟨T102, h102, X102, e102, W102, st102⟩ := own_lastore X97 hx hZ e97 A_b88_p97 (by decide) (g := (mkF m 102 #[.val (.long q0), .second, .val (.long q1), .second, .val (.long q2), .second, .val (.int p3), .val (.int p4), .val (.int p5), .val (.int (3 : Int32)), .val (.int sz), .val (.int iv), .val (.int fv), .val (.int sv), .unset, .unset, .unset, .unset, .unset, .unset] [(.long q2), (.int (2 : Int32)), (.ref b88), (.ref b88)])) rfl rfl (hb hby at_102)
    have N102 := Fr.snoc X102 N97 ge_b88
    have A_b88_p102 : own_A Z h102 b88 .long 3 (fun i => if i = Int32.toNatClampNeg (2 : Int32) then (.long q2) else (fun i => if i = Int32.toNatClampNeg (1 : Int32) then (.long q1) else (fun i => if i = Int32.toNatClampNeg (0 : Int32) then (.long q0) else (fun _ => (.long (0 : Int64))) i) i) i) := A_b88_p97.set W102
    have Z0_p102 : n0 ≤ h102.size := Nat.le_trans Z0_p97 (Keep.of_wr W102).1
    refine hst st102 ?_
    have A_b88_p102c : own_A Z h102 b88 .long 3 (fun i => .long (own_w3 q0 q1 q2 i)) := own_A.congr A_b88_p102 (fun i hi => by rcases i with _ | _ | _ | i <;> first | rfl | omega)
    show F T102 (mkF m 103 #[.val (.long q0), .second, .val (.long q1), .second, .val (.long q2), .second, .val (.int p3), .val (.int p4), .val (.int p5), .val (.int (3 : Int32)), .val (.int sz), .val (.int iv), .val (.int fv), .val (.int sv), .unset, .unset, .unset, .unset, .unset, .unset] [(.ref b88)])
    refine hst (fun t₀ k₀ => XS.astore X102.here hx rfl (hb hby at_103) rfl rfl (l' := #[.val (.long q0), .second, .val (.long q1), .second, .val (.long q2), .second, .val (.int p3), .val (.int p4), .val (.int p5), .val (.int (3 : Int32)), .val (.int sz), .val (.int iv), .val (.int fv), .val (.int sv), .val (.ref b88), .unset, .unset, .unset, .unset, .unset]) rfl k₀) ?_
    show F T102 (mkF m 105 #[.val (.long q0), .second, .val (.long q1), .second, .val (.long q2), .second, .val (.int p3), .val (.int p4), .val (.int p5), .val (.int (3 : Int32)), .val (.int sz), .val (.int iv), .val (.int fv), .val (.int sv), .val (.ref b88), .unset, .unset, .unset, .unset, .unset] [])
    refine hst (fun t₀ k₀ => XS.aload X102.here hx rfl (hb hby at_105) rfl rfl k₀) ?_
    show F T102 (mkF m 107 #[.val (.long q0), .second, .val (.long q1), .second, .val (.long q2), .second, .val (.int p3), .val (.int p4), .val (.int p5), .val (.int (3 : Int32)), .val (.int sz), .val (.int iv), .val (.int fv), .val (.int sv), .val (.ref b88), .unset, .unset, .unset, .unset, .unset] [(.ref b88)])
    refine hst (fun t₀ k₀ => XS.iload X102.here hx rfl (hb hby at_107) rfl k₀) ?_
    show F T102 (mkF m 109 #[.val (.long q0), .second, .val (.long q1), .second, .val (.long q2), .second, .val (.int p3), .val (.int p4), .val (.int p5), .val (.int (3 : Int32)), .val (.int sz), .val (.int iv), .val (.int fv), .val (.int sv), .val (.ref b88), .unset, .unset, .unset, .unset, .unset] [(.int fv), (.ref b88)])
    refine hst (fun t₀ k₀ => XS.iload X102.here hx rfl (hb hby at_109) rfl k₀) ?_
    show F T102 (mkF m 111 #[.val (.long q0), .second, .val (.long q1), .second, .val (.long q2), .second, .val (.int p3), .val (.int p4), .val (.int p5), .val (.int (3 : Int32)), .val (.int sz), .val (.int iv), .val (.int fv), .val (.int sv), .val (.ref b88), .unset, .unset, .unset, .unset, .unset] [(.int sv), (.int fv), (.ref b88)])
    obtain ⟨v111, T111, Lc111, X111, hQ111, st111⟩ := own_callS X102 hx hZ hown (y := (⟨"com/example/censo/censo/compact/BitFields", "moveUp", "([JII)V"⟩ : MethodName)) (hw _ (List.mem_of_getElem? (i := 3) rfl)) (hw _ (List.mem_of_getElem? (i := 4) rfl)) (hw _ (List.mem_of_getElem? (i := 5) rfl)) (hw _ (List.mem_of_getElem? (i := 6) rfl)) (by decide) e102 (rm1 l Z a0 hw [] b88 fv sv (own_w3 q0 q1 q2) 3 A s0 h102 n0 Z0_p102 A_b88_p102c ge_b88 (by decide) hA (by omega) hS hS2) (by decide) (by decide) (g := (mkF m 111 #[.val (.long q0), .second, .val (.long q1), .second, .val (.long q2), .second, .val (.int p3), .val (.int p4), .val (.int p5), .val (.int (3 : Int32)), .val (.int sz), .val (.int iv), .val (.int fv), .val (.int sv), .val (.ref b88), .unset, .unset, .unset, .unset, .unset] [(.int sv), (.int fv), (.ref b88)])) rfl (by rw [hml]; rfl) (argsL := [(.ref b88), (.int fv), (.int sv)]) (rest := []) (lenOf pd_1 rfl) rfl rfl (W := 0) (by show 2 * 0 + _ ≤ _; exact Nat.le_of_eq rfl) (hb hby at_111) (by decide) (by decide)
    obtain ⟨u111, rfl, Nq111, K111, q1_111, hu_111⟩ := hQ111
    have N111 := Fr.app N102 Nq111
    have Z0_p111 : n0 ≤ T111.heap.size := Nat.le_trans Z0_p102 K111.1
    refine hst st111 ?_
    show F T111 (mkF m 114 #[.val (.long q0), .second, .val (.long q1), .second, .val (.long q2), .second, .val (.int p3), .val (.int p4), .val (.int p5), .val (.int (3 : Int32)), .val (.int sz), .val (.int iv), .val (.int fv), .val (.int sv), .val (.ref b88), .unset, .unset, .unset, .unset, .unset] [])
    refine hst (fun t₀ k₀ => XS.iload X111.here hx rfl (hb hby at_114) rfl k₀) ?_
    show F T111 (mkF m 116 #[.val (.long q0), .second, .val (.long q1), .second, .val (.long q2), .second, .val (.int p3), .val (.int p4), .val (.int p5), .val (.int (3 : Int32)), .val (.int sz), .val (.int iv), .val (.int fv), .val (.int sv), .val (.ref b88), .unset, .unset, .unset, .unset, .unset] [(.int iv)])
    refine hst (fun t₀ k₀ => XS.iload X111.here hx rfl (hb hby at_116) rfl k₀) ?_
    show F T111 (mkF m 118 #[.val (.long q0), .second, .val (.long q1), .second, .val (.long q2), .second, .val (.int p3), .val (.int p4), .val (.int p5), .val (.int (3 : Int32)), .val (.int sz), .val (.int iv), .val (.int fv), .val (.int sv), .val (.ref b88), .unset, .unset, .unset, .unset, .unset] [(.int fv), (.int iv)])
    refine hst (fun t₀ k₀ => XS.iload X111.here hx rfl (hb hby at_118) rfl k₀) ?_
    show F T111 (mkF m 120 #[.val (.long q0), .second, .val (.long q1), .second, .val (.long q2), .second, .val (.int p3), .val (.int p4), .val (.int p5), .val (.int (3 : Int32)), .val (.int sz), .val (.int iv), .val (.int fv), .val (.int sv), .val (.ref b88), .unset, .unset, .unset, .unset, .unset] [(.int sv), (.int fv), (.int iv)])
    refine hst (fun t₀ k₀ => XS.iadd X111.here hx rfl (hb hby at_120) rfl k₀) ?_
    show F T111 (mkF m 121 #[.val (.long q0), .second, .val (.long q1), .second, .val (.long q2), .second, .val (.int p3), .val (.int p4), .val (.int p5), .val (.int (3 : Int32)), .val (.int sz), .val (.int iv), .val (.int fv), .val (.int sv), .val (.ref b88), .unset, .unset, .unset, .unset, .unset] [(.int (fv + sv)), (.int iv)])
    generalize hsu : (fv + sv) = su
    show F T111 (mkF m 121 #[.val (.long q0), .second, .val (.long q1), .second, .val (.long q2), .second, .val (.int p3), .val (.int p4), .val (.int p5), .val (.int (3 : Int32)), .val (.int sz), .val (.int iv), .val (.int fv), .val (.int sv), .val (.ref b88), .unset, .unset, .unset, .unset, .unset] [(.int su), (.int iv)])
    have ksu : su.toInt = ((A + s0 : Nat) : Int) := by have h1 := c_iadd fv sv; have h2 := rng32 su; rw [hsu] at h1; omega
    by_cases hc121 : iv < su
    · -- pc 121: not taken
      refine hst (fun t₀ k₀ => XS.icmpNo X111.here hx rfl (hb hby at_121) rfl (tlt hc121).2.1 k₀) ?_
      show F T111 (mkF m 124 #[.val (.long q0), .second, .val (.long q1), .second, .val (.long q2), .second, .val (.int p3), .val (.int p4), .val (.int p5), .val (.int (3 : Int32)), .val (.int sz), .val (.int iv), .val (.int fv), .val (.int sv), .val (.ref b88), .unset, .unset, .unset, .unset, .unset] [])
      have q121 : i < A + s0 := by rw [own_lt32] at hc121; omega
      have ksr : iv.toInt = ((if i < A + s0 then i else i - s0 : Nat) : Int) := by rw [if_pos q121]; exact hI
      refine hst (fun t₀ k₀ => XS.iload X111.here hx rfl (hb hby at_124) rfl k₀) ?_
      show F T111 (mkF m 126 #[.val (.long q0), .second, .val (.long q1), .second, .val (.long q2), .second, .val (.int p3), .val (.int p4), .val (.int p5), .val (.int (3 : Int32)), .val (.int sz), .val (.int iv), .val (.int fv), .val (.int sv), .val (.ref b88), .unset, .unset, .unset, .unset, .unset] [(.int iv)])
      refine hst (fun t₀ k₀ => XS.goto X111.here hx rfl (pc0 := 126) (pc' := 134) rfl (hb hby at_126) (by decide) (by decide) k₀) ?_
      show F T111 (mkF m 134 #[.val (.long q0), .second, .val (.long q1), .second, .val (.long q2), .second, .val (.int p3), .val (.int p4), .val (.int p5), .val (.int (3 : Int32)), .val (.int sz), .val (.int iv), .val (.int fv), .val (.int sv), .val (.ref b88), .unset, .unset, .unset, .unset, .unset] [(.int iv)])
      refine hst (fun t₀ k₀ => XS.istore X111.here hx rfl (hb hby at_134) rfl (l' := #[.val (.long q0), .second, .val (.long q1), .second, .val (.long q2), .second, .val (.int p3), .val (.int p4), .val (.int p5), .val (.int (3 : Int32)), .val (.int sz), .val (.int iv), .val (.int fv), .val (.int sv), .val (.ref b88), .val (.int iv), .unset, .unset, .unset, .unset]) rfl k₀) ?_
      show F T111 (mkF m 136 #[.val (.long q0), .second, .val (.long q1), .second, .val (.long q2), .second, .val (.int p3), .val (.int p4), .val (.int p5), .val (.int (3 : Int32)), .val (.int sz), .val (.int iv), .val (.int fv), .val (.int sv), .val (.ref b88), .val (.int iv), .unset, .unset, .unset, .unset] [])
      refine hst (fun t₀ k₀ => XS.lloadN X111.here hx rfl (hb hby at_136) rfl k₀) ?_
      show F T111 (mkF m 137 #[.val (.long q0), .second, .val (.long q1), .second, .val (.long q2), .second, .val (.int p3), .val (.int p4), .val (.int p5), .val (.int (3 : Int32)), .val (.int sz), .val (.int iv), .val (.int fv), .val (.int sv), .val (.ref b88), .val (.int iv), .unset, .unset, .unset, .unset] [(.long q0)])
      refine hst (fun t₀ k₀ => XS.lloadN X111.here hx rfl (hb hby at_137) rfl k₀) ?_
      show F T111 (mkF m 138 #[.val (.long q0), .second, .val (.long q1), .second, .val (.long q2), .second, .val (.int p3), .val (.int p4), .val (.int p5), .val (.int (3 : Int32)), .val (.int sz), .val (.int iv), .val (.int fv), .val (.int sv), .val (.ref b88), .val (.int iv), .unset, .unset, .unset, .unset] [(.long q1), (.long q0)])
      refine hst (fun t₀ k₀ => XS.lload X111.here hx rfl (hb hby at_138) rfl k₀) ?_
      show F T111 (mkF m 140 #[.val (.long q0), .second, .val (.long q1), .second, .val (.long q2), .second, .val (.int p3), .val (.int p4), .val (.int p5), .val (.int (3 : Int32)), .val (.int sz), .val (.int iv), .val (.int fv), .val (.int sv), .val (.ref b88), .val (.int iv), .unset, .unset, .unset, .unset] [(.long q2), (.long q1), (.long q0)])
      refine hst (fun t₀ k₀ => XS.iload X111.here hx rfl (hb hby at_140) rfl k₀) ?_
      show F T111 (mkF m 142 #[.val (.long q0), .second, .val (.long q1), .second, .val (.long q2), .second, .val (.int p3), .val (.int p4), .val (.int p5), .val (.int (3 : Int32)), .val (.int sz), .val (.int iv), .val (.int fv), .val (.int sv), .val (.ref b88), .val (.int iv), .unset, .unset, .unset, .unset] [(.int iv), (.long q2), (.long q1), (.long q0)])
      obtain ⟨v142, T142, Lc142, X142, hQ142, st142⟩ := own_callS X111 hx hZ hown (y := (⟨"com/example/censo/censo/compact/BitFieldsMoveUpPinLaw", "oldBit", "(JJJI)J"⟩ : MethodName)) (hw _ (List.mem_of_getElem? (i := 8) rfl)) (hw _ (List.mem_of_getElem? (i := 9) rfl)) (hw _ (List.mem_of_getElem? (i := 10) rfl)) (hw _ (List.mem_of_getElem? (i := 11) rfl)) (by decide) rfl (rm2 l Z a0 hw [] q0 q1 q2 iv (if i < A + s0 then i else i - s0) T111.heap n0 Z0_p111 ksr (by split <;> omega)) (by decide) (by decide) (g := (mkF m 142 #[.val (.long q0), .second, .val (.long q1), .second, .val (.long q2), .second, .val (.int p3), .val (.int p4), .val (.int p5), .val (.int (3 : Int32)), .val (.int sz), .val (.int iv), .val (.int fv), .val (.int sv), .val (.ref b88), .val (.int iv), .unset, .unset, .unset, .unset] [(.int iv), (.long q2), (.long q1), (.long q0)])) rfl (by rw [hml]; rfl) (argsL := [(.long q0), (.long q1), (.long q2), (.int iv)]) (rest := []) (lenOf pd_0 rfl) rfl rfl (W := 0) (by show 2 * 0 + _ ≤ _; exact Nat.le_of_eq rfl) (hb hby at_142) (by decide) (by decide)
      obtain ⟨rfl, Nq142, he142⟩ := hQ142
      have N142 := Fr.app N111 Nq142
      refine hst st142 ?_
      show F T142 (mkF m 145 #[.val (.long q0), .second, .val (.long q1), .second, .val (.long q2), .second, .val (.int p3), .val (.int p4), .val (.int p5), .val (.int (3 : Int32)), .val (.int sz), .val (.int iv), .val (.int fv), .val (.int sv), .val (.ref b88), .val (.int iv), .unset, .unset, .unset, .unset] [(.long (if own_sb (own_w3 q0 q1 q2) (if i < A + s0 then i else i - s0) then 1 else 0))])
      refine hst (fun t₀ k₀ => XS.lstore X142.here hx rfl (hb hby at_145) rfl (l' := #[.val (.long q0), .second, .val (.long q1), .second, .val (.long q2), .second, .val (.int p3), .val (.int p4), .val (.int p5), .val (.int (3 : Int32)), .val (.int sz), .val (.int iv), .val (.int fv), .val (.int sv), .val (.ref b88), .val (.int iv), .val (.long (if own_sb (own_w3 q0 q1 q2) (if i < A + s0 then i else i - s0) then 1 else 0)), .second, .unset, .unset]) rfl k₀) ?_
      show F T142 (mkF m 147 #[.val (.long q0), .second, .val (.long q1), .second, .val (.long q2), .second, .val (.int p3), .val (.int p4), .val (.int p5), .val (.int (3 : Int32)), .val (.int sz), .val (.int iv), .val (.int fv), .val (.int sv), .val (.ref b88), .val (.int iv), .val (.long (if own_sb (own_w3 q0 q1 q2) (if i < A + s0 then i else i - s0) then 1 else 0)), .second, .unset, .unset] [])
      refine hst (fun t₀ k₀ => XS.aload X142.here hx rfl (hb hby at_147) rfl rfl k₀) ?_
      show F T142 (mkF m 149 #[.val (.long q0), .second, .val (.long q1), .second, .val (.long q2), .second, .val (.int p3), .val (.int p4), .val (.int p5), .val (.int (3 : Int32)), .val (.int sz), .val (.int iv), .val (.int fv), .val (.int sv), .val (.ref b88), .val (.int iv), .val (.long (if own_sb (own_w3 q0 q1 q2) (if i < A + s0 then i else i - s0) then 1 else 0)), .second, .unset, .unset] [(.ref b88)])
      refine hst (fun t₀ k₀ => XS.iload X142.here hx rfl (hb hby at_149) rfl k₀) ?_
      show F T142 (mkF m 151 #[.val (.long q0), .second, .val (.long q1), .second, .val (.long q2), .second, .val (.int p3), .val (.int p4), .val (.int p5), .val (.int (3 : Int32)), .val (.int sz), .val (.int iv), .val (.int fv), .val (.int sv), .val (.ref b88), .val (.int iv), .val (.long (if own_sb (own_w3 q0 q1 q2) (if i < A + s0 then i else i - s0) then 1 else 0)), .second, .unset, .unset] [(.int iv), (.ref b88)])
      refine hst (fun t₀ k₀ => XS.bipush X142.here hx rfl (hb hby at_151) k₀) ?_
      show F T142 (mkF m 153 #[.val (.long q0), .second, .val (.long q1), .second, .val (.long q2), .second, .val (.int p3), .val (.int p4), .val (.int p5), .val (.int (3 : Int32)), .val (.int sz), .val (.int iv), .val (.int fv), .val (.int sv), .val (.ref b88), .val (.int iv), .val (.long (if own_sb (own_w3 q0 q1 q2) (if i < A + s0 then i else i - s0) then 1 else 0)), .second, .unset, .unset] [(.int (6 : Int32)), (.int iv), (.ref b88)])
      refine hst (fun t₀ k₀ => XS.iushr X142.here hx rfl (hb hby at_153) rfl k₀) ?_
      show F T142 (mkF m 154 #[.val (.long q0), .second, .val (.long q1), .second, .val (.long q2), .second, .val (.int p3), .val (.int p4), .val (.int p5), .val (.int (3 : Int32)), .val (.int sz), .val (.int iv), .val (.int fv), .val (.int sv), .val (.ref b88), .val (.int iv), .val (.long (if own_sb (own_w3 q0 q1 q2) (if i < A + s0 then i else i - s0) then 1 else 0)), .second, .unset, .unset] [(.int ((iv.toUInt32 >>> ((6 : Int32) &&& 31).toUInt32).toInt32)), (.ref b88)])
      generalize hwd : ((iv.toUInt32 >>> ((6 : Int32) &&& 31).toUInt32).toInt32) = wd
      show F T142 (mkF m 154 #[.val (.long q0), .second, .val (.long q1), .second, .val (.long q2), .second, .val (.int p3), .val (.int p4), .val (.int p5), .val (.int (3 : Int32)), .val (.int sz), .val (.int iv), .val (.int fv), .val (.int sv), .val (.ref b88), .val (.int iv), .val (.long (if own_sb (own_w3 q0 q1 q2) (if i < A + s0 then i else i - s0) then 1 else 0)), .second, .unset, .unset] [(.int wd), (.ref b88)])
      have kwd : wd.toInt = ((i / 64 : Nat) : Int) := by rw [← hwd, c_iushr iv 6 6 (by decide) (by decide)]; omega
      refine hst (fun t₀ k₀ => own_laload X142 hx hZ he142 q1_111 (own_idx wd 3 (by omega) (by omega)) (v := (.long (u111 (i / 64)))) (by show Value.long (u111 wd.toNatClampNeg) = _; rw [own_clamp wd _ kwd]) (g := (mkF m 154 #[.val (.long q0), .second, .val (.long q1), .second, .val (.long q2), .second, .val (.int p3), .val (.int p4), .val (.int p5), .val (.int (3 : Int32)), .val (.int sz), .val (.int iv), .val (.int fv), .val (.int sv), .val (.ref b88), .val (.int iv), .val (.long (if own_sb (own_w3 q0 q1 q2) (if i < A + s0 then i else i - s0) then 1 else 0)), .second, .unset, .unset] [(.int wd), (.ref b88)])) rfl rfl (hb hby at_154) t₀ k₀) ?_
      show F T142 (mkF m 155 #[.val (.long q0), .second, .val (.long q1), .second, .val (.long q2), .second, .val (.int p3), .val (.int p4), .val (.int p5), .val (.int (3 : Int32)), .val (.int sz), .val (.int iv), .val (.int fv), .val (.int sv), .val (.ref b88), .val (.int iv), .val (.long (if own_sb (own_w3 q0 q1 q2) (if i < A + s0 then i else i - s0) then 1 else 0)), .second, .unset, .unset] [(.long (u111 (i / 64)))])
      refine hst (fun t₀ k₀ => XS.iload X142.here hx rfl (hb hby at_155) rfl k₀) ?_
      show F T142 (mkF m 157 #[.val (.long q0), .second, .val (.long q1), .second, .val (.long q2), .second, .val (.int p3), .val (.int p4), .val (.int p5), .val (.int (3 : Int32)), .val (.int sz), .val (.int iv), .val (.int fv), .val (.int sv), .val (.ref b88), .val (.int iv), .val (.long (if own_sb (own_w3 q0 q1 q2) (if i < A + s0 then i else i - s0) then 1 else 0)), .second, .unset, .unset] [(.int iv), (.long (u111 (i / 64)))])
      refine hst (fun t₀ k₀ => XS.bipush X142.here hx rfl (hb hby at_157) k₀) ?_
      show F T142 (mkF m 159 #[.val (.long q0), .second, .val (.long q1), .second, .val (.long q2), .second, .val (.int p3), .val (.int p4), .val (.int p5), .val (.int (3 : Int32)), .val (.int sz), .val (.int iv), .val (.int fv), .val (.int sv), .val (.ref b88), .val (.int iv), .val (.long (if own_sb (own_w3 q0 q1 q2) (if i < A + s0 then i else i - s0) then 1 else 0)), .second, .unset, .unset] [(.int (63 : Int32)), (.int iv), (.long (u111 (i / 64)))])
      refine hst (fun t₀ k₀ => XS.iand X142.here hx rfl (hb hby at_159) rfl k₀) ?_
      show F T142 (mkF m 160 #[.val (.long q0), .second, .val (.long q1), .second, .val (.long q2), .second, .val (.int p3), .val (.int p4), .val (.int p5), .val (.int (3 : Int32)), .val (.int sz), .val (.int iv), .val (.int fv), .val (.int sv), .val (.ref b88), .val (.int iv), .val (.long (if own_sb (own_w3 q0 q1 q2) (if i < A + s0 then i else i - s0) then 1 else 0)), .second, .unset, .unset] [(.int (iv &&& (63 : Int32))), (.long (u111 (i / 64)))])
      generalize hsm : (iv &&& (63 : Int32)) = sm
      show F T142 (mkF m 160 #[.val (.long q0), .second, .val (.long q1), .second, .val (.long q2), .second, .val (.int p3), .val (.int p4), .val (.int p5), .val (.int (3 : Int32)), .val (.int sz), .val (.int iv), .val (.int fv), .val (.int sv), .val (.ref b88), .val (.int iv), .val (.long (if own_sb (own_w3 q0 q1 q2) (if i < A + s0 then i else i - s0) then 1 else 0)), .second, .unset, .unset] [(.int sm), (.long (u111 (i / 64)))])
      have ksm : sm.toInt = ((i % 64 : Nat) : Int) := by rw [← hsm, c_mask iv 63 6 (by decide) (by decide)]; omega
      refine hst (fun t₀ k₀ => XS.lushr X142.here hx rfl (hb hby at_160) rfl k₀) ?_
      show F T142 (mkF m 161 #[.val (.long q0), .second, .val (.long q1), .second, .val (.long q2), .second, .val (.int p3), .val (.int p4), .val (.int p5), .val (.int (3 : Int32)), .val (.int sz), .val (.int iv), .val (.int fv), .val (.int sv), .val (.ref b88), .val (.int iv), .val (.long (if own_sb (own_w3 q0 q1 q2) (if i < A + s0 then i else i - s0) then 1 else 0)), .second, .unset, .unset] [(.long (((u111 (i / 64)).toUInt64 >>> (sm &&& 0x3f).toInt64.toUInt64).toInt64))])
      refine hst (fun t₀ k₀ => XS.lconst X142.here hx rfl (hb hby at_161) k₀) ?_
      show F T142 (mkF m 162 #[.val (.long q0), .second, .val (.long q1), .second, .val (.long q2), .second, .val (.int p3), .val (.int p4), .val (.int p5), .val (.int (3 : Int32)), .val (.int sz), .val (.int iv), .val (.int fv), .val (.int sv), .val (.ref b88), .val (.int iv), .val (.long (if own_sb (own_w3 q0 q1 q2) (if i < A + s0 then i else i - s0) then 1 else 0)), .second, .unset, .unset] [(.long (1 : Int64)), (.long (((u111 (i / 64)).toUInt64 >>> (sm &&& 0x3f).toInt64.toUInt64).toInt64))])
      refine hst (fun t₀ k₀ => XS.land X142.here hx rfl (hb hby at_162) rfl k₀) ?_
      show F T142 (mkF m 163 #[.val (.long q0), .second, .val (.long q1), .second, .val (.long q2), .second, .val (.int p3), .val (.int p4), .val (.int p5), .val (.int (3 : Int32)), .val (.int sz), .val (.int iv), .val (.int fv), .val (.int sv), .val (.ref b88), .val (.int iv), .val (.long (if own_sb (own_w3 q0 q1 q2) (if i < A + s0 then i else i - s0) then 1 else 0)), .second, .unset, .unset] [(.long ((((u111 (i / 64)).toUInt64 >>> (sm &&& 0x3f).toInt64.toUInt64).toInt64) &&& (1 : Int64)))])
      generalize hac : ((((u111 (i / 64)).toUInt64 >>> (sm &&& 0x3f).toInt64.toUInt64).toInt64) &&& (1 : Int64)) = ac
      show F T142 (mkF m 163 #[.val (.long q0), .second, .val (.long q1), .second, .val (.long q2), .second, .val (.int p3), .val (.int p4), .val (.int p5), .val (.int (3 : Int32)), .val (.int sz), .val (.int iv), .val (.int fv), .val (.int sv), .val (.ref b88), .val (.int iv), .val (.long (if own_sb (own_w3 q0 q1 q2) (if i < A + s0 then i else i - s0) then 1 else 0)), .second, .unset, .unset] [(.long ac)])
      have kac : ac = (if own_sb (own_w3 q0 q1 q2) (if i < A + s0 then i else i - s0) then 1 else 0) := by
        rw [← hac, own_one _ sm _ ksm (by omega)]
        have h1 := hu_111 (i / 64) (i % 64) (by omega) (by omega); unfold own_b at h1; rw [h1]
        unfold own_mv own_sb; rw [show 64 * (i / 64) + i % 64 = i by omega]
        by_cases g : i < A + s0
        · rw [if_pos g, if_pos g]
        · rw [if_neg g, if_neg g]
      refine hst (fun t₀ k₀ => XS.lstore X142.here hx rfl (hb hby at_163) rfl (l' := #[.val (.long q0), .second, .val (.long q1), .second, .val (.long q2), .second, .val (.int p3), .val (.int p4), .val (.int p5), .val (.int (3 : Int32)), .val (.int sz), .val (.int iv), .val (.int fv), .val (.int sv), .val (.ref b88), .val (.int iv), .val (.long (if own_sb (own_w3 q0 q1 q2) (if i < A + s0 then i else i - s0) then 1 else 0)), .second, .val (.long ac), .second]) rfl k₀) ?_
      show F T142 (mkF m 165 #[.val (.long q0), .second, .val (.long q1), .second, .val (.long q2), .second, .val (.int p3), .val (.int p4), .val (.int p5), .val (.int (3 : Int32)), .val (.int sz), .val (.int iv), .val (.int fv), .val (.int sv), .val (.ref b88), .val (.int iv), .val (.long (if own_sb (own_w3 q0 q1 q2) (if i < A + s0 then i else i - s0) then 1 else 0)), .second, .val (.long ac), .second] [])
      refine hst (fun t₀ k₀ => XS.lload X142.here hx rfl (hb hby at_165) rfl k₀) ?_
      show F T142 (mkF m 167 #[.val (.long q0), .second, .val (.long q1), .second, .val (.long q2), .second, .val (.int p3), .val (.int p4), .val (.int p5), .val (.int (3 : Int32)), .val (.int sz), .val (.int iv), .val (.int fv), .val (.int sv), .val (.ref b88), .val (.int iv), .val (.long (if own_sb (own_w3 q0 q1 q2) (if i < A + s0 then i else i - s0) then 1 else 0)), .second, .val (.long ac), .second] [(.long ac)])
      refine hst (fun t₀ k₀ => XS.lload X142.here hx rfl (hb hby at_167) rfl k₀) ?_
      show F T142 (mkF m 169 #[.val (.long q0), .second, .val (.long q1), .second, .val (.long q2), .second, .val (.int p3), .val (.int p4), .val (.int p5), .val (.int (3 : Int32)), .val (.int sz), .val (.int iv), .val (.int fv), .val (.int sv), .val (.ref b88), .val (.int iv), .val (.long (if own_sb (own_w3 q0 q1 q2) (if i < A + s0 then i else i - s0) then 1 else 0)), .second, .val (.long ac), .second] [(.long (if own_sb (own_w3 q0 q1 q2) (if i < A + s0 then i else i - s0) then 1 else 0)), (.long ac)])
      refine hst (fun t₀ k₀ => XS.lcmp X142.here hx rfl (hb hby at_169) rfl k₀) ?_
      show F T142 (mkF m 170 #[.val (.long q0), .second, .val (.long q1), .second, .val (.long q2), .second, .val (.int p3), .val (.int p4), .val (.int p5), .val (.int (3 : Int32)), .val (.int sz), .val (.int iv), .val (.int fv), .val (.int sv), .val (.ref b88), .val (.int iv), .val (.long (if own_sb (own_w3 q0 q1 q2) (if i < A + s0 then i else i - s0) then 1 else 0)), .second, .val (.long ac), .second] [(.int (lcmpW ac (if own_sb (own_w3 q0 q1 q2) (if i < A + s0 then i else i - s0) then 1 else 0)))])
      refine hst (fun t₀ k₀ => XS.ifNo X142.here hx rfl (hb hby at_170) rfl ((if0 _ _).trans (teq ((lw_eq _ _).mpr kac)).2) k₀) ?_
      show F T142 (mkF m 173 #[.val (.long q0), .second, .val (.long q1), .second, .val (.long q2), .second, .val (.int p3), .val (.int p4), .val (.int p5), .val (.int (3 : Int32)), .val (.int sz), .val (.int iv), .val (.int fv), .val (.int sv), .val (.ref b88), .val (.int iv), .val (.long (if own_sb (own_w3 q0 q1 q2) (if i < A + s0 then i else i - s0) then 1 else 0)), .second, .val (.long ac), .second] [])
      refine hst (fun t₀ k₀ => XS.iconst X142.here hx rfl (hb hby at_173) k₀) ?_
      show F T142 (mkF m 174 #[.val (.long q0), .second, .val (.long q1), .second, .val (.long q2), .second, .val (.int p3), .val (.int p4), .val (.int p5), .val (.int (3 : Int32)), .val (.int sz), .val (.int iv), .val (.int fv), .val (.int sv), .val (.ref b88), .val (.int iv), .val (.long (if own_sb (own_w3 q0 q1 q2) (if i < A + s0 then i else i - s0) then 1 else 0)), .second, .val (.long ac), .second] [(.int (1 : Int32))])
      refine hst (fun t₀ k₀ => XS.goto X142.here hx rfl (pc0 := 174) (pc' := 178) rfl (hb hby at_174) (by decide) (by decide) k₀) ?_
      show F T142 (mkF m 178 #[.val (.long q0), .second, .val (.long q1), .second, .val (.long q2), .second, .val (.int p3), .val (.int p4), .val (.int p5), .val (.int (3 : Int32)), .val (.int sz), .val (.int iv), .val (.int fv), .val (.int sv), .val (.ref b88), .val (.int iv), .val (.long (if own_sb (own_w3 q0 q1 q2) (if i < A + s0 then i else i - s0) then 1 else 0)), .second, .val (.long ac), .second] [(.int (1 : Int32))])
      rw [hF]
      refine own_retN X142 hx hret (by simp) hlk (hb hby at_178) (by decide) (by decide) ?_
      rw [he142]
      exact ⟨rfl, N142⟩
    · -- pc 121: taken
      refine hst (fun t₀ k₀ => XS.icmpYes X111.here hx rfl (pc0 := 121) (pc' := 129) rfl (hb hby at_121) rfl (flt hc121).2.1 (by decide) (by decide) k₀) ?_
      show F T111 (mkF m 129 #[.val (.long q0), .second, .val (.long q1), .second, .val (.long q2), .second, .val (.int p3), .val (.int p4), .val (.int p5), .val (.int (3 : Int32)), .val (.int sz), .val (.int iv), .val (.int fv), .val (.int sv), .val (.ref b88), .unset, .unset, .unset, .unset, .unset] [])
      have q121 : ¬ i < A + s0 := by rw [own_lt32] at hc121; omega
      refine hst (fun t₀ k₀ => XS.iload X111.here hx rfl (hb hby at_129) rfl k₀) ?_
      show F T111 (mkF m 131 #[.val (.long q0), .second, .val (.long q1), .second, .val (.long q2), .second, .val (.int p3), .val (.int p4), .val (.int p5), .val (.int (3 : Int32)), .val (.int sz), .val (.int iv), .val (.int fv), .val (.int sv), .val (.ref b88), .unset, .unset, .unset, .unset, .unset] [(.int iv)])
      refine hst (fun t₀ k₀ => XS.iload X111.here hx rfl (hb hby at_131) rfl k₀) ?_
      show F T111 (mkF m 133 #[.val (.long q0), .second, .val (.long q1), .second, .val (.long q2), .second, .val (.int p3), .val (.int p4), .val (.int p5), .val (.int (3 : Int32)), .val (.int sz), .val (.int iv), .val (.int fv), .val (.int sv), .val (.ref b88), .unset, .unset, .unset, .unset, .unset] [(.int sv), (.int iv)])
      refine hst (fun t₀ k₀ => XS.isub X111.here hx rfl (hb hby at_133) rfl k₀) ?_
      show F T111 (mkF m 134 #[.val (.long q0), .second, .val (.long q1), .second, .val (.long q2), .second, .val (.int p3), .val (.int p4), .val (.int p5), .val (.int (3 : Int32)), .val (.int sz), .val (.int iv), .val (.int fv), .val (.int sv), .val (.ref b88), .unset, .unset, .unset, .unset, .unset] [(.int (iv - sv))])
      generalize hsr : (iv - sv) = sr
      show F T111 (mkF m 134 #[.val (.long q0), .second, .val (.long q1), .second, .val (.long q2), .second, .val (.int p3), .val (.int p4), .val (.int p5), .val (.int (3 : Int32)), .val (.int sz), .val (.int iv), .val (.int fv), .val (.int sv), .val (.ref b88), .unset, .unset, .unset, .unset, .unset] [(.int sr)])
      have ksr : sr.toInt = ((if i < A + s0 then i else i - s0 : Nat) : Int) := by rw [if_neg q121]; have h1 := c_isub iv sv; have h2 := rng32 sr; rw [hsr] at h1; omega
      refine hst (fun t₀ k₀ => XS.istore X111.here hx rfl (hb hby at_134) rfl (l' := #[.val (.long q0), .second, .val (.long q1), .second, .val (.long q2), .second, .val (.int p3), .val (.int p4), .val (.int p5), .val (.int (3 : Int32)), .val (.int sz), .val (.int iv), .val (.int fv), .val (.int sv), .val (.ref b88), .val (.int sr), .unset, .unset, .unset, .unset]) rfl k₀) ?_
      show F T111 (mkF m 136 #[.val (.long q0), .second, .val (.long q1), .second, .val (.long q2), .second, .val (.int p3), .val (.int p4), .val (.int p5), .val (.int (3 : Int32)), .val (.int sz), .val (.int iv), .val (.int fv), .val (.int sv), .val (.ref b88), .val (.int sr), .unset, .unset, .unset, .unset] [])
      refine hst (fun t₀ k₀ => XS.lloadN X111.here hx rfl (hb hby at_136) rfl k₀) ?_
      show F T111 (mkF m 137 #[.val (.long q0), .second, .val (.long q1), .second, .val (.long q2), .second, .val (.int p3), .val (.int p4), .val (.int p5), .val (.int (3 : Int32)), .val (.int sz), .val (.int iv), .val (.int fv), .val (.int sv), .val (.ref b88), .val (.int sr), .unset, .unset, .unset, .unset] [(.long q0)])
      refine hst (fun t₀ k₀ => XS.lloadN X111.here hx rfl (hb hby at_137) rfl k₀) ?_
      show F T111 (mkF m 138 #[.val (.long q0), .second, .val (.long q1), .second, .val (.long q2), .second, .val (.int p3), .val (.int p4), .val (.int p5), .val (.int (3 : Int32)), .val (.int sz), .val (.int iv), .val (.int fv), .val (.int sv), .val (.ref b88), .val (.int sr), .unset, .unset, .unset, .unset] [(.long q1), (.long q0)])
      refine hst (fun t₀ k₀ => XS.lload X111.here hx rfl (hb hby at_138) rfl k₀) ?_
      show F T111 (mkF m 140 #[.val (.long q0), .second, .val (.long q1), .second, .val (.long q2), .second, .val (.int p3), .val (.int p4), .val (.int p5), .val (.int (3 : Int32)), .val (.int sz), .val (.int iv), .val (.int fv), .val (.int sv), .val (.ref b88), .val (.int sr), .unset, .unset, .unset, .unset] [(.long q2), (.long q1), (.long q0)])
      refine hst (fun t₀ k₀ => XS.iload X111.here hx rfl (hb hby at_140) rfl k₀) ?_
      show F T111 (mkF m 142 #[.val (.long q0), .second, .val (.long q1), .second, .val (.long q2), .second, .val (.int p3), .val (.int p4), .val (.int p5), .val (.int (3 : Int32)), .val (.int sz), .val (.int iv), .val (.int fv), .val (.int sv), .val (.ref b88), .val (.int sr), .unset, .unset, .unset, .unset] [(.int sr), (.long q2), (.long q1), (.long q0)])
      obtain ⟨v142, T142, Lc142, X142, hQ142, st142⟩ := own_callS X111 hx hZ hown (y := (⟨"com/example/censo/censo/compact/BitFieldsMoveUpPinLaw", "oldBit", "(JJJI)J"⟩ : MethodName)) (hw _ (List.mem_of_getElem? (i := 8) rfl)) (hw _ (List.mem_of_getElem? (i := 9) rfl)) (hw _ (List.mem_of_getElem? (i := 10) rfl)) (hw _ (List.mem_of_getElem? (i := 11) rfl)) (by decide) rfl (rm2 l Z a0 hw [] q0 q1 q2 sr (if i < A + s0 then i else i - s0) T111.heap n0 Z0_p111 ksr (by split <;> omega)) (by decide) (by decide) (g := (mkF m 142 #[.val (.long q0), .second, .val (.long q1), .second, .val (.long q2), .second, .val (.int p3), .val (.int p4), .val (.int p5), .val (.int (3 : Int32)), .val (.int sz), .val (.int iv), .val (.int fv), .val (.int sv), .val (.ref b88), .val (.int sr), .unset, .unset, .unset, .unset] [(.int sr), (.long q2), (.long q1), (.long q0)])) rfl (by rw [hml]; rfl) (argsL := [(.long q0), (.long q1), (.long q2), (.int sr)]) (rest := []) (lenOf pd_0 rfl) rfl rfl (W := 0) (by show 2 * 0 + _ ≤ _; exact Nat.le_of_eq rfl) (hb hby at_142) (by decide) (by decide)
      obtain ⟨rfl, Nq142, he142⟩ := hQ142
      have N142 := Fr.app N111 Nq142
      refine hst st142 ?_
      show F T142 (mkF m 145 #[.val (.long q0), .second, .val (.long q1), .second, .val (.long q2), .second, .val (.int p3), .val (.int p4), .val (.int p5), .val (.int (3 : Int32)), .val (.int sz), .val (.int iv), .val (.int fv), .val (.int sv), .val (.ref b88), .val (.int sr), .unset, .unset, .unset, .unset] [(.long (if own_sb (own_w3 q0 q1 q2) (if i < A + s0 then i else i - s0) then 1 else 0))])
      refine hst (fun t₀ k₀ => XS.lstore X142.here hx rfl (hb hby at_145) rfl (l' := #[.val (.long q0), .second, .val (.long q1), .second, .val (.long q2), .second, .val (.int p3), .val (.int p4), .val (.int p5), .val (.int (3 : Int32)), .val (.int sz), .val (.int iv), .val (.int fv), .val (.int sv), .val (.ref b88), .val (.int sr), .val (.long (if own_sb (own_w3 q0 q1 q2) (if i < A + s0 then i else i - s0) then 1 else 0)), .second, .unset, .unset]) rfl k₀) ?_
      show F T142 (mkF m 147 #[.val (.long q0), .second, .val (.long q1), .second, .val (.long q2), .second, .val (.int p3), .val (.int p4), .val (.int p5), .val (.int (3 : Int32)), .val (.int sz), .val (.int iv), .val (.int fv), .val (.int sv), .val (.ref b88), .val (.int sr), .val (.long (if own_sb (own_w3 q0 q1 q2) (if i < A + s0 then i else i - s0) then 1 else 0)), .second, .unset, .unset] [])
      refine hst (fun t₀ k₀ => XS.aload X142.here hx rfl (hb hby at_147) rfl rfl k₀) ?_
      show F T142 (mkF m 149 #[.val (.long q0), .second, .val (.long q1), .second, .val (.long q2), .second, .val (.int p3), .val (.int p4), .val (.int p5), .val (.int (3 : Int32)), .val (.int sz), .val (.int iv), .val (.int fv), .val (.int sv), .val (.ref b88), .val (.int sr), .val (.long (if own_sb (own_w3 q0 q1 q2) (if i < A + s0 then i else i - s0) then 1 else 0)), .second, .unset, .unset] [(.ref b88)])
      refine hst (fun t₀ k₀ => XS.iload X142.here hx rfl (hb hby at_149) rfl k₀) ?_
      show F T142 (mkF m 151 #[.val (.long q0), .second, .val (.long q1), .second, .val (.long q2), .second, .val (.int p3), .val (.int p4), .val (.int p5), .val (.int (3 : Int32)), .val (.int sz), .val (.int iv), .val (.int fv), .val (.int sv), .val (.ref b88), .val (.int sr), .val (.long (if own_sb (own_w3 q0 q1 q2) (if i < A + s0 then i else i - s0) then 1 else 0)), .second, .unset, .unset] [(.int iv), (.ref b88)])
      refine hst (fun t₀ k₀ => XS.bipush X142.here hx rfl (hb hby at_151) k₀) ?_
      show F T142 (mkF m 153 #[.val (.long q0), .second, .val (.long q1), .second, .val (.long q2), .second, .val (.int p3), .val (.int p4), .val (.int p5), .val (.int (3 : Int32)), .val (.int sz), .val (.int iv), .val (.int fv), .val (.int sv), .val (.ref b88), .val (.int sr), .val (.long (if own_sb (own_w3 q0 q1 q2) (if i < A + s0 then i else i - s0) then 1 else 0)), .second, .unset, .unset] [(.int (6 : Int32)), (.int iv), (.ref b88)])
      refine hst (fun t₀ k₀ => XS.iushr X142.here hx rfl (hb hby at_153) rfl k₀) ?_
      show F T142 (mkF m 154 #[.val (.long q0), .second, .val (.long q1), .second, .val (.long q2), .second, .val (.int p3), .val (.int p4), .val (.int p5), .val (.int (3 : Int32)), .val (.int sz), .val (.int iv), .val (.int fv), .val (.int sv), .val (.ref b88), .val (.int sr), .val (.long (if own_sb (own_w3 q0 q1 q2) (if i < A + s0 then i else i - s0) then 1 else 0)), .second, .unset, .unset] [(.int ((iv.toUInt32 >>> ((6 : Int32) &&& 31).toUInt32).toInt32)), (.ref b88)])
      generalize hwd : ((iv.toUInt32 >>> ((6 : Int32) &&& 31).toUInt32).toInt32) = wd
      show F T142 (mkF m 154 #[.val (.long q0), .second, .val (.long q1), .second, .val (.long q2), .second, .val (.int p3), .val (.int p4), .val (.int p5), .val (.int (3 : Int32)), .val (.int sz), .val (.int iv), .val (.int fv), .val (.int sv), .val (.ref b88), .val (.int sr), .val (.long (if own_sb (own_w3 q0 q1 q2) (if i < A + s0 then i else i - s0) then 1 else 0)), .second, .unset, .unset] [(.int wd), (.ref b88)])
      have kwd : wd.toInt = ((i / 64 : Nat) : Int) := by rw [← hwd, c_iushr iv 6 6 (by decide) (by decide)]; omega
      refine hst (fun t₀ k₀ => own_laload X142 hx hZ he142 q1_111 (own_idx wd 3 (by omega) (by omega)) (v := (.long (u111 (i / 64)))) (by show Value.long (u111 wd.toNatClampNeg) = _; rw [own_clamp wd _ kwd]) (g := (mkF m 154 #[.val (.long q0), .second, .val (.long q1), .second, .val (.long q2), .second, .val (.int p3), .val (.int p4), .val (.int p5), .val (.int (3 : Int32)), .val (.int sz), .val (.int iv), .val (.int fv), .val (.int sv), .val (.ref b88), .val (.int sr), .val (.long (if own_sb (own_w3 q0 q1 q2) (if i < A + s0 then i else i - s0) then 1 else 0)), .second, .unset, .unset] [(.int wd), (.ref b88)])) rfl rfl (hb hby at_154) t₀ k₀) ?_
      show F T142 (mkF m 155 #[.val (.long q0), .second, .val (.long q1), .second, .val (.long q2), .second, .val (.int p3), .val (.int p4), .val (.int p5), .val (.int (3 : Int32)), .val (.int sz), .val (.int iv), .val (.int fv), .val (.int sv), .val (.ref b88), .val (.int sr), .val (.long (if own_sb (own_w3 q0 q1 q2) (if i < A + s0 then i else i - s0) then 1 else 0)), .second, .unset, .unset] [(.long (u111 (i / 64)))])
      refine hst (fun t₀ k₀ => XS.iload X142.here hx rfl (hb hby at_155) rfl k₀) ?_
      show F T142 (mkF m 157 #[.val (.long q0), .second, .val (.long q1), .second, .val (.long q2), .second, .val (.int p3), .val (.int p4), .val (.int p5), .val (.int (3 : Int32)), .val (.int sz), .val (.int iv), .val (.int fv), .val (.int sv), .val (.ref b88), .val (.int sr), .val (.long (if own_sb (own_w3 q0 q1 q2) (if i < A + s0 then i else i - s0) then 1 else 0)), .second, .unset, .unset] [(.int iv), (.long (u111 (i / 64)))])
      refine hst (fun t₀ k₀ => XS.bipush X142.here hx rfl (hb hby at_157) k₀) ?_
      show F T142 (mkF m 159 #[.val (.long q0), .second, .val (.long q1), .second, .val (.long q2), .second, .val (.int p3), .val (.int p4), .val (.int p5), .val (.int (3 : Int32)), .val (.int sz), .val (.int iv), .val (.int fv), .val (.int sv), .val (.ref b88), .val (.int sr), .val (.long (if own_sb (own_w3 q0 q1 q2) (if i < A + s0 then i else i - s0) then 1 else 0)), .second, .unset, .unset] [(.int (63 : Int32)), (.int iv), (.long (u111 (i / 64)))])
      refine hst (fun t₀ k₀ => XS.iand X142.here hx rfl (hb hby at_159) rfl k₀) ?_
      show F T142 (mkF m 160 #[.val (.long q0), .second, .val (.long q1), .second, .val (.long q2), .second, .val (.int p3), .val (.int p4), .val (.int p5), .val (.int (3 : Int32)), .val (.int sz), .val (.int iv), .val (.int fv), .val (.int sv), .val (.ref b88), .val (.int sr), .val (.long (if own_sb (own_w3 q0 q1 q2) (if i < A + s0 then i else i - s0) then 1 else 0)), .second, .unset, .unset] [(.int (iv &&& (63 : Int32))), (.long (u111 (i / 64)))])
      generalize hsm : (iv &&& (63 : Int32)) = sm
      show F T142 (mkF m 160 #[.val (.long q0), .second, .val (.long q1), .second, .val (.long q2), .second, .val (.int p3), .val (.int p4), .val (.int p5), .val (.int (3 : Int32)), .val (.int sz), .val (.int iv), .val (.int fv), .val (.int sv), .val (.ref b88), .val (.int sr), .val (.long (if own_sb (own_w3 q0 q1 q2) (if i < A + s0 then i else i - s0) then 1 else 0)), .second, .unset, .unset] [(.int sm), (.long (u111 (i / 64)))])
      have ksm : sm.toInt = ((i % 64 : Nat) : Int) := by rw [← hsm, c_mask iv 63 6 (by decide) (by decide)]; omega
      refine hst (fun t₀ k₀ => XS.lushr X142.here hx rfl (hb hby at_160) rfl k₀) ?_
      show F T142 (mkF m 161 #[.val (.long q0), .second, .val (.long q1), .second, .val (.long q2), .second, .val (.int p3), .val (.int p4), .val (.int p5), .val (.int (3 : Int32)), .val (.int sz), .val (.int iv), .val (.int fv), .val (.int sv), .val (.ref b88), .val (.int sr), .val (.long (if own_sb (own_w3 q0 q1 q2) (if i < A + s0 then i else i - s0) then 1 else 0)), .second, .unset, .unset] [(.long (((u111 (i / 64)).toUInt64 >>> (sm &&& 0x3f).toInt64.toUInt64).toInt64))])
      refine hst (fun t₀ k₀ => XS.lconst X142.here hx rfl (hb hby at_161) k₀) ?_
      show F T142 (mkF m 162 #[.val (.long q0), .second, .val (.long q1), .second, .val (.long q2), .second, .val (.int p3), .val (.int p4), .val (.int p5), .val (.int (3 : Int32)), .val (.int sz), .val (.int iv), .val (.int fv), .val (.int sv), .val (.ref b88), .val (.int sr), .val (.long (if own_sb (own_w3 q0 q1 q2) (if i < A + s0 then i else i - s0) then 1 else 0)), .second, .unset, .unset] [(.long (1 : Int64)), (.long (((u111 (i / 64)).toUInt64 >>> (sm &&& 0x3f).toInt64.toUInt64).toInt64))])
      refine hst (fun t₀ k₀ => XS.land X142.here hx rfl (hb hby at_162) rfl k₀) ?_
      show F T142 (mkF m 163 #[.val (.long q0), .second, .val (.long q1), .second, .val (.long q2), .second, .val (.int p3), .val (.int p4), .val (.int p5), .val (.int (3 : Int32)), .val (.int sz), .val (.int iv), .val (.int fv), .val (.int sv), .val (.ref b88), .val (.int sr), .val (.long (if own_sb (own_w3 q0 q1 q2) (if i < A + s0 then i else i - s0) then 1 else 0)), .second, .unset, .unset] [(.long ((((u111 (i / 64)).toUInt64 >>> (sm &&& 0x3f).toInt64.toUInt64).toInt64) &&& (1 : Int64)))])
      generalize hac : ((((u111 (i / 64)).toUInt64 >>> (sm &&& 0x3f).toInt64.toUInt64).toInt64) &&& (1 : Int64)) = ac
      show F T142 (mkF m 163 #[.val (.long q0), .second, .val (.long q1), .second, .val (.long q2), .second, .val (.int p3), .val (.int p4), .val (.int p5), .val (.int (3 : Int32)), .val (.int sz), .val (.int iv), .val (.int fv), .val (.int sv), .val (.ref b88), .val (.int sr), .val (.long (if own_sb (own_w3 q0 q1 q2) (if i < A + s0 then i else i - s0) then 1 else 0)), .second, .unset, .unset] [(.long ac)])
      have kac : ac = (if own_sb (own_w3 q0 q1 q2) (if i < A + s0 then i else i - s0) then 1 else 0) := by
        rw [← hac, own_one _ sm _ ksm (by omega)]
        have h1 := hu_111 (i / 64) (i % 64) (by omega) (by omega); unfold own_b at h1; rw [h1]
        unfold own_mv own_sb; rw [show 64 * (i / 64) + i % 64 = i by omega]
        by_cases g : i < A + s0
        · rw [if_pos g, if_pos g]
        · rw [if_neg g, if_neg g]
      refine hst (fun t₀ k₀ => XS.lstore X142.here hx rfl (hb hby at_163) rfl (l' := #[.val (.long q0), .second, .val (.long q1), .second, .val (.long q2), .second, .val (.int p3), .val (.int p4), .val (.int p5), .val (.int (3 : Int32)), .val (.int sz), .val (.int iv), .val (.int fv), .val (.int sv), .val (.ref b88), .val (.int sr), .val (.long (if own_sb (own_w3 q0 q1 q2) (if i < A + s0 then i else i - s0) then 1 else 0)), .second, .val (.long ac), .second]) rfl k₀) ?_
      show F T142 (mkF m 165 #[.val (.long q0), .second, .val (.long q1), .second, .val (.long q2), .second, .val (.int p3), .val (.int p4), .val (.int p5), .val (.int (3 : Int32)), .val (.int sz), .val (.int iv), .val (.int fv), .val (.int sv), .val (.ref b88), .val (.int sr), .val (.long (if own_sb (own_w3 q0 q1 q2) (if i < A + s0 then i else i - s0) then 1 else 0)), .second, .val (.long ac), .second] [])
      refine hst (fun t₀ k₀ => XS.lload X142.here hx rfl (hb hby at_165) rfl k₀) ?_
      show F T142 (mkF m 167 #[.val (.long q0), .second, .val (.long q1), .second, .val (.long q2), .second, .val (.int p3), .val (.int p4), .val (.int p5), .val (.int (3 : Int32)), .val (.int sz), .val (.int iv), .val (.int fv), .val (.int sv), .val (.ref b88), .val (.int sr), .val (.long (if own_sb (own_w3 q0 q1 q2) (if i < A + s0 then i else i - s0) then 1 else 0)), .second, .val (.long ac), .second] [(.long ac)])
      refine hst (fun t₀ k₀ => XS.lload X142.here hx rfl (hb hby at_167) rfl k₀) ?_
      show F T142 (mkF m 169 #[.val (.long q0), .second, .val (.long q1), .second, .val (.long q2), .second, .val (.int p3), .val (.int p4), .val (.int p5), .val (.int (3 : Int32)), .val (.int sz), .val (.int iv), .val (.int fv), .val (.int sv), .val (.ref b88), .val (.int sr), .val (.long (if own_sb (own_w3 q0 q1 q2) (if i < A + s0 then i else i - s0) then 1 else 0)), .second, .val (.long ac), .second] [(.long (if own_sb (own_w3 q0 q1 q2) (if i < A + s0 then i else i - s0) then 1 else 0)), (.long ac)])
      refine hst (fun t₀ k₀ => XS.lcmp X142.here hx rfl (hb hby at_169) rfl k₀) ?_
      show F T142 (mkF m 170 #[.val (.long q0), .second, .val (.long q1), .second, .val (.long q2), .second, .val (.int p3), .val (.int p4), .val (.int p5), .val (.int (3 : Int32)), .val (.int sz), .val (.int iv), .val (.int fv), .val (.int sv), .val (.ref b88), .val (.int sr), .val (.long (if own_sb (own_w3 q0 q1 q2) (if i < A + s0 then i else i - s0) then 1 else 0)), .second, .val (.long ac), .second] [(.int (lcmpW ac (if own_sb (own_w3 q0 q1 q2) (if i < A + s0 then i else i - s0) then 1 else 0)))])
      refine hst (fun t₀ k₀ => XS.ifNo X142.here hx rfl (hb hby at_170) rfl ((if0 _ _).trans (teq ((lw_eq _ _).mpr kac)).2) k₀) ?_
      show F T142 (mkF m 173 #[.val (.long q0), .second, .val (.long q1), .second, .val (.long q2), .second, .val (.int p3), .val (.int p4), .val (.int p5), .val (.int (3 : Int32)), .val (.int sz), .val (.int iv), .val (.int fv), .val (.int sv), .val (.ref b88), .val (.int sr), .val (.long (if own_sb (own_w3 q0 q1 q2) (if i < A + s0 then i else i - s0) then 1 else 0)), .second, .val (.long ac), .second] [])
      refine hst (fun t₀ k₀ => XS.iconst X142.here hx rfl (hb hby at_173) k₀) ?_
      show F T142 (mkF m 174 #[.val (.long q0), .second, .val (.long q1), .second, .val (.long q2), .second, .val (.int p3), .val (.int p4), .val (.int p5), .val (.int (3 : Int32)), .val (.int sz), .val (.int iv), .val (.int fv), .val (.int sv), .val (.ref b88), .val (.int sr), .val (.long (if own_sb (own_w3 q0 q1 q2) (if i < A + s0 then i else i - s0) then 1 else 0)), .second, .val (.long ac), .second] [(.int (1 : Int32))])
      refine hst (fun t₀ k₀ => XS.goto X142.here hx rfl (pc0 := 174) (pc' := 178) rfl (hb hby at_174) (by decide) (by decide) k₀) ?_
      show F T142 (mkF m 178 #[.val (.long q0), .second, .val (.long q1), .second, .val (.long q2), .second, .val (.int p3), .val (.int p4), .val (.int p5), .val (.int (3 : Int32)), .val (.int sz), .val (.int iv), .val (.int fv), .val (.int sv), .val (.ref b88), .val (.int sr), .val (.long (if own_sb (own_w3 q0 q1 q2) (if i < A + s0 then i else i - s0) then 1 else 0)), .second, .val (.long ac), .second] [(.int (1 : Int32))])
      rw [hF]
      refine own_retN X142 hx hret (by simp) hlk (hb hby at_178) (by decide) (by decide) ?_
      rw [he142]
      exact ⟨rfl, N142⟩
set_option maxRecDepth 65536 in
set_option maxHeartbeats 40000000 in
theorem comes_1 {Post : Tables → Env → Array Value → State → Outcome → State → Prop} (hpost : ∀ tb e args s v u, (limb_1_1.after args s (.returned v) u = true ∧ limb_1_2.after args s (.returned v) u = true ∧ True) → FrameEnd s (.returned v) u (Jvm.fieldLocs frame_1_writes args s ++ Jvm.arrayLocs frame_1_arrays args s ++ Jvm.staticLocs frame_1_statics s) 16 128 → Post tb e args s (.returned v) u) :
    ArmFor flags0 classFile x code maxLocals ret World_1 tables_1 room_1 Calls_1 rest_1 Pre_1 Post := by
  intro l hfl _ _ p e ha hc hk s m args below hf hA hF happ hP
  obtain ⟨hcalls, hrest, hpre⟩ := hP
  obtain ⟨-, -, -, hnamed, -, -, -, hat⟩ := (Spec.applies_iff hf).mp happ
  obtain ⟨hg, hn⟩ := and_e (Cond.before_iff.mp (show (Jvm.Cond.and given_1 narrow_1).before args s = true from hpre))
  obtain ⟨g1, g2⟩ := and_e hg
  obtain ⟨g3, g4⟩ := and_e g2
  obtain ⟨g5, g6⟩ := and_e g4
  obtain ⟨g7, g8⟩ := and_e g6
  obtain ⟨g9, g10⟩ := and_e g8
  obtain ⟨g11, g12⟩ := and_e g10
  obtain ⟨w0, w1, w2, w3, w4, w5, rfl⟩ : ∃ w0 w1 w2 w3 w4 w5 : Value, args = #[w0, w1, w2, w3, w4, w5] := by
    have hs : args.size = 6 := by simpa [Cond.value, given_1] using g1
    obtain ⟨L⟩ := args
    match L, hs with
    | [w0, w1, w2, w3, w4, w5], _ => exact ⟨w0, w1, w2, w3, w4, w5, rfl⟩
  have hw := fun d (hd : d ∈ tables_1) => atoms_spec (ws := Jvm.Cond.code x code maxLocals ret :: tables_1) hat d (List.mem_cons_of_mem _ hd)
  obtain ⟨i0, ei0⟩ := isL_v g3
  obtain rfl : w0 = (.long i0) := Option.some.inj ei0
  obtain ⟨i1, ei1⟩ := isL_v g5
  obtain rfl : w1 = (.long i1) := Option.some.inj ei1
  obtain ⟨i2, ei2⟩ := isL_v g7
  obtain rfl : w2 = (.long i2) := Option.some.inj ei2
  obtain ⟨i3, ei3⟩ := is_v g9
  obtain rfl : w3 = (.int i3) := Option.some.inj ei3
  obtain ⟨i4, ei4⟩ := is_v g11
  obtain rfl : w4 = (.int i4) := Option.some.inj ei4
  obtain ⟨i5, ei5⟩ := is_v g12
  obtain rfl : w5 = (.int i5) := Option.some.inj ei5
  obtain ⟨n, o, h1, h2, h3, _, L, rfl, ⟨rfl, N⟩, hq⟩ := rm0 l s _ hw tables_1 i0 i1 i2 i3 i4 i5 s.heap s.heap.size (Nat.le_refl _) p e ha hc hk s m _ below hf ((Spec.applies_iff_loose hf).mp happ).1 ⟨rfl, State.Warmed39.refl s, rfl⟩ trivial
  refine ⟨n, _, h1, h2, h3, hpost _ _ _ _ _ _ ⟨Cond.after_iff.mpr rfl, Cond.after_iff.mpr (eq_i res_at (Term.int_eval (1)) rfl), trivial⟩ ⟨hq.1, hq.2.1, (hq.2.2.sift fun y hy => Or.inr (N y hy)).mono (by decide) (by decide)⟩⟩
theorem main_1_1 : Claimed_1_1 := comes_1 fun _ _ _ _ _ _ h hF => ⟨h.1, hF⟩
theorem main_1_2 : Claimed_1_2 := comes_1 fun _ _ _ _ _ _ h hF => ⟨h.2.1, hF⟩
end Jvm.Pilot.@@N@@
namespace Jvm.Pilot.@@N@@
open Jvm Jvm.ClassFile Sem Op Lib Jvm.Free Jvm.Stand Jvm.Pilot.@@N@@.Jvm.D
/-! MADE BY PROGRAM (witnessworld.py) out of the Statement's table words and the real class files: 11 classes; the members and pool entries that the words name. The judged class is class 1, her method 1. -/
namespace start1
open Jvm.ClassFile
def u (s : String) : CpInfo := .utf8 (stringToUtf16 s)
/-- a pool by its gaps: so many unusable entries, then the entry; so many at the end -/
def gap : Nat → List CpInfo → List CpInfo
  | 0, r => r
  | n + 1, r => .unusable :: gap n r
def poolList (es : List (Nat × CpInfo)) (last : Nat) : List CpInfo := es.foldr (fun e r => gap e.1 (e.2 :: r)) (gap last [])
def pool (es : List (Nat × CpInfo)) (last : Nat) : Array CpInfo := ⟨poolList es last⟩
def fileOf (pool : Array CpInfo) (this : Nat) (attrs : Array Attribute := #[]) (ms : Array MethodInfo := #[]) (fl : Nat := 33) (sup : Nat := 0) (ifs : Array Nat := #[]) (fds : Array FieldInfo := #[]) : ClassFile where
  minorVersion := 0
  majorVersion := 65
  constantPool := pool
  accessFlags := fl
  thisClass := this
  superClass := sup
  interfaces := ifs
  fields := fds
  methods := ms
  attributes := attrs
def plain (name : String) (sup : Option ClassId) : Class where
  name := name
  kind := .ordinary
  loader := none
  accessFlags := 33
  super := sup
  interfaces := #[]
  cf := none
  fields := #[]
  methods := #[]
  instanceTypes := #[]
  staticTypes := #[]
  resolved := #[]
  callSites := []
  init := .initialized
  statics := none
  mirror := none

def pool0 : Array CpInfo := pool [(5, u "<init>"), (0, u "()V"), (1, .class_ 10), (1, u "java/lang/Object")] 113

def k0m0 : Method := { name := "<init>", desc := "()V", sig := { parameters := [], returnType := none }, accessFlags := 1, code := none }
/-- java/lang/Object -/
def k0 : Class := { plain "java/lang/Object" none with
  accessFlags := 33
  interfaces := #[]
  cf := some (fileOf pool0 8 #[] #[{ accessFlags := 1, nameIndex := 5, descriptorIndex := 6, attributes := #[] }] 33 0 #[] #[])
  fields := #[]
  methods := #[k0m0]
  instanceTypes := #[]
  staticTypes := #[]
  resolved := Array.replicate 124 none
  statics := none }

def pool1 : Array CpInfo := pool [(2, .class_ 4), (1, u "java/lang/Object"), (0, u "<init>"), (0, u "()V"), (0, .integer 65535), (0, .integer 2147483647), (0, .methodref 10 11), (0, .class_ 12), (0, .nameAndType 13 14), (0, u "com/example/censo/censo/compact/BitFields"), (0, u "moveUp"), (0, u "([JII)V"), (0, .methodref 16 17), (0, .class_ 18), (0, .nameAndType 19 20), (0, u "com/example/censo/censo/compact/BitFieldsMoveUpPinLaw"), (0, u "oldBit"), (0, u "(JJJI)J"), (2, u "law"), (0, u "(JJJIII)Z")] 5

def k1m0 : Method := { name := "<init>", desc := "()V", sig := { parameters := [], returnType := none }, accessFlags := 2, code := none }
def k1c1 : Code := { maxStack := 7, maxLocals := 20, code := code, exceptionTable := #[], attributes := #[] }
def k1m1 : Method := { name := "law", desc := "(JJJIII)Z", sig := { parameters := [.long, .long, .long, .int, .int, .int], returnType := some .boolean }, accessFlags := 9, code := some k1c1 }
def k1c2 : Code := { maxStack := 4, maxLocals := 10, code := method_3_code, exceptionTable := #[], attributes := #[] }
def k1m2 : Method := { name := "oldBit", desc := "(JJJI)J", sig := { parameters := [.long, .long, .long, .int], returnType := some .long }, accessFlags := 10, code := some k1c2 }
/-- com/example/censo/censo/compact/BitFieldsMoveUpPinLaw -/
def k1 : Class := { plain "com/example/censo/censo/compact/BitFieldsMoveUpPinLaw" (some 0) with
  accessFlags := 49
  interfaces := #[]
  cf := some (fileOf pool1 16 #[] #[{ accessFlags := 2, nameIndex := 5, descriptorIndex := 6, attributes := #[] }, { accessFlags := 9, nameIndex := 23, descriptorIndex := 24, attributes := #[] }, { accessFlags := 10, nameIndex := 19, descriptorIndex := 20, attributes := #[] }] 49 2 #[] #[])
  fields := #[]
  methods := #[k1m0, k1m1, k1m2]
  instanceTypes := #[]
  staticTypes := #[]
  resolved := Array.replicate 30 none
  statics := none }

def pool2 : Array CpInfo := pool [(2, .class_ 4), (1, u "java/lang/Object"), (0, u "<init>"), (0, u "()V"), (0, .long 18446744073709551615), (8, .class_ 18), (1, u "com/example/censo/censo/compact/BitFields"), (9, u "moveUp"), (0, u "([JII)V")] 6

def k2m0 : Method := { name := "<init>", desc := "()V", sig := { parameters := [], returnType := none }, accessFlags := 2, code := none }
def k2c1 : Code := { maxStack := 10, maxLocals := 9, code := prog_64_method_4_code, exceptionTable := #[], attributes := #[] }
def k2m1 : Method := { name := "moveUp", desc := "([JII)V", sig := { parameters := [(.array .long), .int, .int], returnType := none }, accessFlags := 9, code := some k2c1 }
/-- com/example/censo/censo/compact/BitFields -/
def k2 : Class := { plain "com/example/censo/censo/compact/BitFields" (some 0) with
  accessFlags := 49
  interfaces := #[]
  cf := some (fileOf pool2 16 #[] #[{ accessFlags := 2, nameIndex := 5, descriptorIndex := 6, attributes := #[] }, { accessFlags := 9, nameIndex := 28, descriptorIndex := 29, attributes := #[] }] 49 2 #[] #[])
  fields := #[]
  methods := #[k2m0, k2m1]
  instanceTypes := #[]
  staticTypes := #[]
  resolved := Array.replicate 36 none
  statics := none }

def pool3 : Array CpInfo := pool [(1, u "java/lang/Cloneable"), (0, .class_ 1), (0, u "java/lang/Object"), (0, .class_ 3)] 3

/-- java/lang/Cloneable -/
def k3 : Class := { plain "java/lang/Cloneable" (some 0) with
  accessFlags := 1537
  interfaces := #[]
  cf := some (fileOf pool3 2 #[] #[] 1537 4 #[] #[])
  fields := #[]
  methods := #[]
  instanceTypes := #[]
  staticTypes := #[]
  resolved := Array.replicate 8 none
  statics := none }

def pool4 : Array CpInfo := pool [(1, u "java/io/Serializable"), (0, .class_ 1), (0, u "java/lang/Object"), (0, .class_ 3)] 3

/-- java/io/Serializable -/
def k4 : Class := { plain "java/io/Serializable" (some 0) with
  accessFlags := 1537
  interfaces := #[]
  cf := some (fileOf pool4 2 #[] #[] 1537 4 #[] #[])
  fields := #[]
  methods := #[]
  instanceTypes := #[]
  staticTypes := #[]
  resolved := Array.replicate 8 none
  statics := none }

/-- the primitive byte -/
def k5 : Class := { plain "byte" none with kind := .primitive 'B', accessFlags := 0x411 }
/-- [B -/
def k6 : Class := { plain "[B" (some 0) with kind := .array 5 .byte, interfaces := #[3, 4], accessFlags := 1041 }

/-- the primitive int -/
def k7 : Class := { plain "int" none with kind := .primitive 'I', accessFlags := 0x411 }
/-- [I -/
def k8 : Class := { plain "[I" (some 0) with kind := .array 7 .int, interfaces := #[3, 4], accessFlags := 1041 }

/-- the primitive long -/
def k9 : Class := { plain "long" none with kind := .primitive 'J', accessFlags := 0x411 }
/-- [J -/
def k10 : Class := { plain "[J" (some 0) with kind := .array 9 .long, interfaces := #[3, 4], accessFlags := 1041 }

def heap : Heap := #[]
def classes : Array Class := #[k0, k1, k2, k3, k4, k5, k6, k7, k8, k9, k10]
def interned : List (Array UInt16 × Addr) := []
def slotsUsed : Nat := 0
def theMethod : MethodId := ⟨1, 1⟩
def args0 : Array Value := #[.long 1, .long 2, .long 3, .int 4, .int 5, .int 6]
def aboutOver (below : List Frame) : State where
  vm := { classes := classes, interned := interned.toArray }
  heap := heap
  slotsUsed := slotsUsed
  threads := #[{ frames := .invoking theMethod args0 :: below }]
def below0 : List Frame := [.native { method := ⟨0, 0⟩, args := #[] }]
def about1 : State := aboutOver below0
def p0 : Program := .bare "" "" ""
def e0 : Env := launch0.env 0 0 0
theorem w_frames : about1.frames = Frame.invoking theMethod args0 :: below0 := rfl
set_option maxRecDepth 65536 in
theorem w_args : argsFit about1.vm theMethod args0 = true := by decide +kernel
set_option maxRecDepth 65536 in
theorem w_heap : heapFits about1 = true := by decide +kernel
set_option maxRecDepth 65536 in
theorem w_runnable : about1.curStatus? = some .runnable := by decide +kernel
set_option maxRecDepth 65536 in
theorem w_alone : about1.alone = true := by decide +kernel
set_option maxRecDepth 65536 in
theorem w_named : about1.methodNamed? x = some theMethod := by decide +kernel
set_option maxRecDepth 65536 in
theorem w_hears : about1.hears theMethod below0 = true := by decide +kernel
set_option maxRecDepth 65536 in
theorem w_ripe : about1.ripe theMethod args0 below0 = true := by decide +kernel
theorem w_running : about1.status = .running := rfl
set_option maxRecDepth 65536 in
theorem w_room : about1.hasRoom e0.platform room_1 = true :=
  launch0.hasRoom_least _ room_1 (by decide +kernel) (by decide +kernel) (by decide +kernel) (by decide +kernel) (by decide +kernel) (by decide +kernel)
theorem allAtoms_all (ts : List Jvm.Cond) (a : Array Jvm.Value) (st : Jvm.State) : (allAtoms ts).before a st = ts.all (fun c => c.before a st) := by
  induction ts with
  | nil => rfl
  | cons c t ih =>
    show (Jvm.Cond.and c (allAtoms t)).before a st = _
    rw [Jvm.Cond.before_and, ih, List.all_cons]
def words1 : List Jvm.Cond := Jvm.Cond.code x code maxLocals ret :: tables_1
/-- a 'code' word, met by the world's own term for the bytes: nothing is compared byte by byte -/
theorem code_word {y : MethodName} {bytes : ByteArray} {mx : Nat} {rt : Option FieldType} {a : Array Value} {s : State} {m : MethodId} {meth : Method} {c : Code} (h1 : s.methodNamed? y = some m) (h2 : s.vm.method? m = some meth) (h3 : meth.code = some c) (h4 : c.code = bytes)
    (h5 : (c.maxLocals == mx && c.exceptionTable.isEmpty && decide (c.maxStack ≤ mostOperands) && decide (meth.sig.returnType = rt) && !meth.locks && decide (parseMethodDescriptor y.desc = some meth.sig)) = true) : (Jvm.Cond.code y bytes mx rt).before a s = true := by
  simp only [Bool.and_eq_true, beq_iff_eq, Bool.not_eq_true', decide_eq_true_eq] at h5
  obtain ⟨⟨⟨⟨⟨g1, g2⟩, g3⟩, g4⟩, g5⟩, g6⟩ := h5
  simp [Cond.before, Cond.holds, Cond.value, h1, h2, h3, h4, g1, g2, g3, g4, g5, g6]
def isCode : Jvm.Cond → Bool
  | .code _ _ _ _ => true
  | _ => false
theorem all_split {L : List Jvm.Cond} {P : Jvm.Cond → Bool} (h1 : L.all (fun c => isCode c || P c) = true) (h2 : ∀ c ∈ L.filter isCode, P c = true) : L.all P = true := by
  refine List.all_eq_true.mpr fun c hc => ?_
  have h := List.all_eq_true.mp h1 c hc
  rcases Bool.eq_false_or_eq_true (isCode c) with hi | hi
  · exact h2 c (List.mem_filter.mpr ⟨hc, hi⟩)
  · simpa [hi] using h
set_option maxRecDepth 65536 in
theorem w_c0 : (Jvm.Cond.code x code maxLocals ret).before args0 about1 = true := code_word (m := ⟨1, 1⟩) (meth := k1m1) (c := k1c1) (by decide +kernel) rfl rfl rfl (by decide +kernel)
set_option maxRecDepth 65536 in
theorem w_c1 : (Jvm.Cond.code ({ cls := "com/example/censo/censo/compact/BitFields", name := "moveUp", desc := "([JII)V" } : Jvm.MethodName) prog_64_method_4_code (9 : Nat) (Option.none : Option Jvm.ClassFile.FieldType)).before args0 about1 = true := code_word (m := ⟨2, 1⟩) (meth := k2m1) (c := k2c1) (by decide +kernel) rfl rfl rfl (by decide +kernel)
set_option maxRecDepth 65536 in
theorem w_c2 : (Jvm.Cond.code ({ cls := "com/example/censo/censo/compact/BitFieldsMoveUpPinLaw", name := "oldBit", desc := "(JJJI)J" } : Jvm.MethodName) method_3_code (10 : Nat) (Option.some Jvm.ClassFile.FieldType.long)).before args0 about1 = true := code_word (m := ⟨1, 2⟩) (meth := k1m2) (c := k1c2) (by decide +kernel) rfl rfl rfl (by decide +kernel)
def codes1 : List Jvm.Cond := [Jvm.Cond.code x code maxLocals ret, Jvm.Cond.code ({ cls := "com/example/censo/censo/compact/BitFields", name := "moveUp", desc := "([JII)V" } : Jvm.MethodName) prog_64_method_4_code (9 : Nat) (Option.none : Option Jvm.ClassFile.FieldType), Jvm.Cond.code ({ cls := "com/example/censo/censo/compact/BitFieldsMoveUpPinLaw", name := "oldBit", desc := "(JJJI)J" } : Jvm.MethodName) method_3_code (10 : Nat) (Option.some Jvm.ClassFile.FieldType.long)]
set_option maxRecDepth 65536 in
theorem codes_eq : words1.filter isCode = codes1 := rfl
theorem w_codes : ∀ c ∈ words1.filter isCode, c.before args0 about1 = true := by
  rw [codes_eq]
  intro c hc
  simp only [codes1, List.mem_cons, List.not_mem_nil, or_false] at hc
  rcases hc with rfl | rfl | rfl
  · exact w_c0
  · exact w_c1
  · exact w_c2
set_option maxRecDepth 65536 in
theorem w_t1 : words1.all (fun c => isCode c || c.before args0 about1) = true := by decide +kernel
theorem w_tables : (allAtoms (Jvm.Cond.code x code maxLocals ret :: tables_1)).before args0 about1 = true := by
  rw [allAtoms_all]
  show words1.all (fun c => c.before args0 about1) = true
  refine all_split ?_ w_codes
  rw [w_t1]
set_option maxRecDepth 65536 in
theorem w_case : (Jvm.Cond.and given_1 narrow_1).before args0 about1 = true := by decide +kernel
theorem w_applies : (headSpec (Jvm.Cond.code x code maxLocals ret :: tables_1) room_1).applies x e0.platform about1 = true :=
  (Spec.applies_iff w_frames).mpr ⟨w_running, w_runnable, w_alone, w_named, w_hears, w_ripe, w_room, w_tables⟩
theorem atStart : AtStart classFile x code maxLocals ret World_1 tables_1 room_1 Calls_1 rest_1 Pre_1 launch0 p0 e0 about1 theMethod args0 below0 :=
  ⟨lists_1, trivial, launch0.admits_env _ _ _, launch0.least_env, fairChoices_fair.cas, fairChoices_fair.clock, w_frames, w_args, w_heap, w_applies, trivial, trivial, w_case⟩
end start1
theorem witness_1 : WitnessClaimed_1 := ⟨start1.p0, start1.e0, start1.about1, start1.theMethod, start1.args0, start1.below0, start1.atStart⟩
end Jvm.Pilot.@@N@@
