import JvmDerived
import JvmDerived.Pilot.@@N@@Statement
import JvmDerived.Pilot.@@N@@Code
set_option linter.unusedVariables false
set_option linter.unusedSimpArgs false
namespace Jvm.Pilot.@@N@@
open Jvm Jvm.ClassFile Sem Op Lib Jvm.Free Jvm.Stand Jvm.LawKit Jvm.RoadKit Bundle Jvm.Pilot.@@N@@.Jvm.D
/-! ## the walk's own goal: from this frame the method comes to its end, and what it leaves is Q -/
def own_Fin (tb : Tables) (e : Env) (below : List Frame) (s : State) (R : Room) (Q : Option Value → Heap → List Loc → Prop) (T : State) (g : JFrame) : Prop :=
  ∃ s₂ o, Steps tb e below (T.setTop g) s₂ ∧ s₂.status = .running ∧ Ended s₂ below o ∧ ∃ v L, o = .returned v ∧ Q v s₂.heap L ∧ FrameEnd s o s₂ L R.cells R.slots
theorem own_st {tb : Tables} {e : Env} {below : List Frame} {s : State} {R : Room} {Q : Option Value → Heap → List Loc → Prop} {T T' : State} {g g' : JFrame}
    (h : ∀ t, Steps tb e below (T'.setTop g') t → Steps tb e below (T.setTop g) t) (k : own_Fin tb e below s R Q T' g') : own_Fin tb e below s R Q T g := by
  obtain ⟨s₂, o, h1, r⟩ := k
  exact ⟨s₂, o, h _ h1, r⟩
/-- an array: its kind, its length, what lies at each place -/
def own_A (Z : State) (h : Heap) (a : Addr) (ty : FieldType) (n : Nat) (f : Nat → Value) : Prop := ∃ c : Cell, Arr Z h a c ty ∧ c.slots.size = n ∧ ∀ i, i < n → c.slots[i]? = some (f i)
section OwnArr
variable {Z : State} {h h' : Heap} {a b : Addr} {ty : FieldType} {n : Nat} {f : Nat → Value} {ws : List Addr} {sl : Nat} {v : Value}
theorem own_A.lt (F : own_A Z h a ty n f) : a < h.size := by obtain ⟨c, A, -⟩ := F; exact A.lt
theorem own_A.ext (F : own_A Z h a ty n f) (E : Ext h h') : own_A Z h' a ty n f := by obtain ⟨c, A, r⟩ := F; exact ⟨c, A.ext E, r⟩
theorem own_A.other (F : own_A Z h a ty n f) (W : Wr h h' b sl v) (q : a ≠ b) : own_A Z h' a ty n f := by obtain ⟨c, A, r⟩ := F; exact ⟨c, A.other W q, r⟩
theorem own_A.keep (F : own_A Z h a ty n f) (K : Keep h h' ws) (q : a ∉ ws) : own_A Z h' a ty n f := by obtain ⟨c, A, r⟩ := F; exact ⟨c, ⟨K.2.1 a c A.1 q, A.2⟩, r⟩
theorem own_A.congr (F : own_A Z h a ty n f) {f' : Nat → Value} (q : ∀ i, i < n → f i = f' i) : own_A Z h a ty n f' := by
  obtain ⟨c, A, r1, r2⟩ := F
  exact ⟨c, A, r1, fun i hi => by rw [r2 i hi, q i hi]⟩
theorem own_A.new {k : ClassId} {z : Int32} (A : Arr Z h a (newA k ty z) ty) : own_A Z h a ty z.toNatClampNeg (fun _ => defaultValue ty) :=
  ⟨_, A, sz_new _ _ _, fun i hi => by simp [newA, hi]⟩
theorem own_A.set (F : own_A Z h a ty n f) (W : Wr h h' a sl v) : own_A Z h' a ty n (fun i => if i = sl then v else f i) := by
  obtain ⟨c, A, r1, r2⟩ := F
  refine ⟨_, A.same W, by rw [sz_set]; exact r1, fun i hi => ?_⟩
  by_cases q : i = sl
  · subst q; simp [Cell.setSlot, r1, hi]
  · simp only [Cell.setSlot, q, if_false]; rw [Array.getElem?_setIfInBounds_ne (Ne.symm q)]; exact r2 i hi
theorem own_ne_A {c : Nat} {C : String} {a0 : Array Value} (F : Exa Z h b C) (wi : (Jvm.Cond.instantiable C c).before a0 Z = true) (G : own_A Z h a ty n f) : b ≠ a := by
  obtain ⟨cl, A, -⟩ := G; exact ne_arr F wi A
end OwnArr
section OwnStand
variable {p : Program} {l : Launch} {e : Env} {R : Room} {s : State} {m : MethodId} {args : Array Value} {below : List Frame} {meth : Method} {c : Code} {T : State} {locs : List Loc} {cells slots : Nat} {Q : Option Value → Heap → List Loc → Prop} {Z : State} {a0 : Array Value} {h : Heap}
theorem own_ret {v : Option Value} {g : JFrame} (X : Stand p l e R s m args below meth c T locs cells slots) (hv : meth.sig.returnType = none → v = none) (hlocks : meth.locks = false) (hc : cells ≤ R.cells) (hs : slots ≤ R.slots) (hQ : Q v T.heap locs)
    (hstep : ∀ fs, (∀ (f : JFrame) (acts : List Action), f.method = m → f.locked = none → f.entered = [] → (doReturn e (T.setTop f) acts v).1 = T.setFrames fs) → Steps p.tables e below (T.setTop g) (T.setFrames fs)) : own_Fin p.tables e below s R Q T g := by
  obtain ⟨fs, hr, hrun, hended, hW, hsame⟩ := X.leave hv hlocks
  exact ⟨_, _, hstep fs hr, hrun, hended, _, _, rfl, hQ, ⟨_, rfl⟩, hW, hsame.mono hc hs⟩
theorem own_retI {pc : Nat} {Ls : Array Slot} {z : Int32} {rest : List Value} (X : Stand p l e R s m args below meth c T locs cells slots) (hx : p.tables.exec = Jvm.exec) (hret : meth.sig.returnType = some .int) (hlocks : meth.locks = false) (hd : decode c.code pc = .ok (.ireturn, 1))
    (hc : cells ≤ R.cells) (hs : slots ≤ R.slots) (hQ : Q (some (.int z)) T.heap locs) : own_Fin p.tables e below s R Q T (mkF m pc Ls (.int z :: rest)) :=
  own_ret X (fun h => by rw [hret] at h; cases h) hlocks hc hs hQ fun fs hr => retOut X hx hret rfl (Or.inl ⟨rfl, Or.inl rfl, _, rfl⟩) hd hr
theorem own_retJ {pc : Nat} {Ls : Array Slot} {z : Int64} {rest : List Value} (X : Stand p l e R s m args below meth c T locs cells slots) (hx : p.tables.exec = Jvm.exec) (hret : meth.sig.returnType = some .long) (hlocks : meth.locks = false) (hd : decode c.code pc = .ok (.lreturn, 1))
    (hc : cells ≤ R.cells) (hs : slots ≤ R.slots) (hQ : Q (some (.long z)) T.heap locs) : own_Fin p.tables e below s R Q T (mkF m pc Ls (.long z :: rest)) :=
  own_ret X (fun h => by rw [hret] at h; cases h) hlocks hc hs hQ fun fs hr => retOut X hx hret rfl (Or.inr (Or.inl ⟨rfl, rfl, _, rfl⟩)) hd hr
theorem own_retA {pc : Nat} {Ls : Array Slot} {t : FieldType} {b : Addr} {rest : List Value} (X : Stand p l e R s m args below meth c T locs cells slots) (hx : p.tables.exec = Jvm.exec) (hret : meth.sig.returnType = some t) (ht : t.isReference = true) (hn : narrow t (.ref b) = .ref b) (hlocks : meth.locks = false) (hd : decode c.code pc = .ok (.areturn, 1))
    (hc : cells ≤ R.cells) (hs : slots ≤ R.slots) (hQ : Q (some (.ref b)) T.heap locs) : own_Fin p.tables e below s R Q T (mkF m pc Ls (.ref b :: rest)) :=
  own_ret X (fun h => by rw [hret] at h; cases h) hlocks hc hs hQ fun fs hr => retOut X hx hret hn (Or.inr (Or.inr (Or.inr (Or.inr ⟨rfl, ht, rfl⟩)))) hd hr
theorem own_retN {pc : Nat} {Ls : Array Slot} {t : FieldType} {z : Int32} {rest : List Value} (X : Stand p l e R s m args below meth c T locs cells slots) (hx : p.tables.exec = Jvm.exec) (hret : meth.sig.returnType = some t) (ht : t = .boolean ∨ t = .byte ∨ t = .char ∨ t = .short) (hlocks : meth.locks = false) (hd : decode c.code pc = .ok (.ireturn, 1))
    (hc : cells ≤ R.cells) (hs : slots ≤ R.slots) (hQ : Q (some (.int (nar t z))) T.heap locs) : own_Fin p.tables e below s R Q T (mkF m pc Ls (.int z :: rest)) :=
  own_ret X (fun h => by rw [hret] at h; cases h) hlocks hc hs hQ fun fs hr => retN X hx hret ht hd hr
theorem own_retV {pc : Nat} {Ls : Array Slot} (X : Stand p l e R s m args below meth c T locs cells slots) (hx : p.tables.exec = Jvm.exec) (hret : meth.sig.returnType = none) (hlocks : meth.locks = false) (hd : decode c.code pc = .ok (.return_, 1))
    (hc : cells ≤ R.cells) (hs : slots ≤ R.slots) (hQ : Q none T.heap locs) : own_Fin p.tables e below s R Q T (mkF m pc Ls []) :=
  own_ret X (fun _ => rfl) hlocks hc hs hQ fun fs hr => X.returnOut hx hret hd hr
theorem own_iaload {n : Nat} {f : Nat → Value} {a : Addr} {j : Int32} {v : Value} {g : JFrame} {rest : List Value} (X : Stand p l e R s m args below meth c T locs cells slots) (hx : p.tables.exec = Jvm.exec) (hZ : Z.Warmed39 s.vm) (eT : T.heap = h) (F : own_A Z h a .int n f) (hj : ¬ (j < 0 ∨ n ≤ j.toNatClampNeg)) (hv : f j.toNatClampNeg = v)
    (hg : g.method = m) (hs : g.stack = .int j :: .ref a :: rest) (hd : decode c.code g.pc = .ok (.iaload, 1)) (t : State) (k : Steps p.tables e below (T.setTop { g with pc := g.pc + 1, stack := v :: rest }) t) : Steps p.tables e below (T.setTop g) t := by
  obtain ⟨cl, A, r1, r2⟩ := F
  exact X.iaload hx (by rw [eT]; exact A.1) (State.isArrayOf_alike hZ.alike A.2.1) A.2.2 (by rw [r1]; exact hj) (by rw [r2 _ (Nat.lt_of_not_le fun q => hj (Or.inr q)), hv]) hg hs hd t k
theorem own_laload {n : Nat} {f : Nat → Value} {a : Addr} {j : Int32} {v : Value} {g : JFrame} {rest : List Value} (X : Stand p l e R s m args below meth c T locs cells slots) (hx : p.tables.exec = Jvm.exec) (hZ : Z.Warmed39 s.vm) (eT : T.heap = h) (F : own_A Z h a .long n f) (hj : ¬ (j < 0 ∨ n ≤ j.toNatClampNeg)) (hv : f j.toNatClampNeg = v)
    (hg : g.method = m) (hs : g.stack = .int j :: .ref a :: rest) (hd : decode c.code g.pc = .ok (.laload, 1)) (t : State) (k : Steps p.tables e below (T.setTop { g with pc := g.pc + 1, stack := v :: rest }) t) : Steps p.tables e below (T.setTop g) t := by
  obtain ⟨cl, A, r1, r2⟩ := F
  exact X.laload hx (by rw [eT]; exact A.1) (State.isArrayOf_alike hZ.alike A.2.1) A.2.2 (by rw [r1]; exact hj) (by rw [r2 _ (Nat.lt_of_not_le fun q => hj (Or.inr q)), hv]) hg hs hd t k
theorem own_baload {n : Nat} {f : Nat → Value} {a : Addr} {j : Int32} {v : Value} {g : JFrame} {rest : List Value} (X : Stand p l e R s m args below meth c T locs cells slots) (hx : p.tables.exec = Jvm.exec) (hZ : Z.Warmed39 s.vm) (eT : T.heap = h) (F : own_A Z h a .byte n f) (hj : ¬ (j < 0 ∨ n ≤ j.toNatClampNeg)) (hv : f j.toNatClampNeg = v)
    (hg : g.method = m) (hs : g.stack = .int j :: .ref a :: rest) (hd : decode c.code g.pc = .ok (.baload, 1)) (t : State) (k : Steps p.tables e below (T.setTop { g with pc := g.pc + 1, stack := v :: rest }) t) : Steps p.tables e below (T.setTop g) t := by
  obtain ⟨cl, A, r1, r2⟩ := F
  exact X.baloadBytes hx (by rw [eT]; exact A.1) (State.isArrayOf_alike hZ.alike A.2.1) A.2.2 (by rw [r1]; exact hj) (by rw [r2 _ (Nat.lt_of_not_le fun q => hj (Or.inr q)), hv]) hg hs hd t k
theorem own_alen {ty : FieldType} {n : Nat} {f : Nat → Value} {a : Addr} {z : Int32} {g : JFrame} {rest : List Value} (X : Stand p l e R s m args below meth c T locs cells slots) (hx : p.tables.exec = Jvm.exec) (hZ : Z.Warmed39 s.vm) (eT : T.heap = h) (F : own_A Z h a ty n f) (hz : n.toInt32 = z)
    (hg : g.method = m) (hs : g.stack = .ref a :: rest) (hd : decode c.code g.pc = .ok (.arraylength, 1)) (t : State) (k : Steps p.tables e below (T.setTop { g with pc := g.pc + 1, stack := .int z :: rest }) t) : Steps p.tables e below (T.setTop g) t := by
  obtain ⟨cl, A, r1, r2⟩ := F
  subst hz
  exact X.arraylength hx (by rw [eT]; exact A.1) (State.isArrayOf_alike hZ.alike A.2.1) hg hs hd t (by rw [r1]; exact k)
theorem own_iastore {n : Nat} {f : Nat → Value} {a : Addr} {j x : Int32} {g : JFrame} {rest : List Value} (X : Stand p l e R s m args below meth c T locs cells slots) (hx : p.tables.exec = Jvm.exec) (hZ : Z.Warmed39 s.vm) (eT : T.heap = h) (F : own_A Z h a .int n f) (hj : ¬ (j < 0 ∨ n ≤ j.toNatClampNeg))
    (hg : g.method = m) (hs : g.stack = .int x :: .int j :: .ref a :: rest) (hd : decode c.code g.pc = .ok (.iastore, 1)) :
    ∃ T' h', Stand p l e R s m args below meth c T' (locs ++ [⟨a, j.toNatClampNeg⟩]) cells slots ∧ T'.heap = h' ∧ Wr h h' a j.toNatClampNeg (.int x) ∧ ∀ target, Steps p.tables e below (T'.setTop { g with pc := g.pc + 1, stack := rest }) target → Steps p.tables e below (T.setTop g) target := by
  obtain ⟨cl, A, r1, r2⟩ := F
  exact stI X hx hZ eT A (by rw [r1]; exact hj) hg hs hd
theorem own_lastore {n : Nat} {f : Nat → Value} {a : Addr} {j : Int32} {x : Int64} {g : JFrame} {rest : List Value} (X : Stand p l e R s m args below meth c T locs cells slots) (hx : p.tables.exec = Jvm.exec) (hZ : Z.Warmed39 s.vm) (eT : T.heap = h) (F : own_A Z h a .long n f) (hj : ¬ (j < 0 ∨ n ≤ j.toNatClampNeg))
    (hg : g.method = m) (hs : g.stack = .long x :: .int j :: .ref a :: rest) (hd : decode c.code g.pc = .ok (.lastore, 1)) :
    ∃ T' h', Stand p l e R s m args below meth c T' (locs ++ [⟨a, j.toNatClampNeg⟩]) cells slots ∧ T'.heap = h' ∧ Wr h h' a j.toNatClampNeg (.long x) ∧ ∀ target, Steps p.tables e below (T'.setTop { g with pc := g.pc + 1, stack := rest }) target → Steps p.tables e below (T.setTop g) target := by
  obtain ⟨cl, A, r1, r2⟩ := F
  exact stJ X hx hZ eT A (by rw [r1]; exact hj) hg hs hd
theorem own_bastore {n : Nat} {f : Nat → Value} {a : Addr} {j x : Int32} {g : JFrame} {rest : List Value} (X : Stand p l e R s m args below meth c T locs cells slots) (hx : p.tables.exec = Jvm.exec) (hZ : Z.Warmed39 s.vm) (eT : T.heap = h) (F : own_A Z h a .byte n f) (hj : ¬ (j < 0 ∨ n ≤ j.toNatClampNeg))
    (hg : g.method = m) (hs : g.stack = .int x :: .int j :: .ref a :: rest) (hd : decode c.code g.pc = .ok (.bastore, 1)) :
    ∃ T' h', Stand p l e R s m args below meth c T' (locs ++ [⟨a, j.toNatClampNeg⟩]) cells slots ∧ T'.heap = h' ∧ Wr h h' a j.toNatClampNeg (.int (nar .byte x)) ∧ ∀ target, Steps p.tables e below (T'.setTop { g with pc := g.pc + 1, stack := rest }) target → Steps p.tables e below (T.setTop g) target := by
  obtain ⟨cl, A, r1, r2⟩ := F
  exact stB X hx hZ eT A (by rw [r1]; exact hj) hg hs hd
theorem own_newarr {aty : ArrayType} {n : Int32} {rest : List Value} {g : JFrame} (X : Stand p l e R s m args below meth c T locs cells slots) (hx : p.tables.exec = Jvm.exec) (hZ : Z.Warmed39 s.vm) (w : (Jvm.Cond.arrayClass (newarray.typeOf aty)).before a0 Z = true) (eT : T.heap = h) (hg : g.method = m) (hd : decode c.code g.pc = .ok (.newarray aty, 2)) (hs : g.stack = .int n :: rest)
    (hn : ¬ n < 0) {cap : Nat} (hcap : n.toNatClampNeg ≤ cap) (hb : cap * 8 ≤ 536870912) (hc : cells + 1 ≤ R.cells) (hl : slots + cap ≤ R.slots) :
    ∃ T' h' a, Stand p l e R s m args below meth c T' locs (cells + 1) (slots + cap) ∧ T'.heap = h' ∧ a = h.size ∧ Ext h h' ∧ own_A Z h' a (newarray.typeOf aty) n.toNatClampNeg (fun _ => defaultValue (newarray.typeOf aty)) ∧
      ∀ target, Steps p.tables e below (T'.setTop { g with pc := g.pc + 2, stack := .ref a :: rest }) target → Steps p.tables e below (T.setTop g) target := by
  obtain ⟨T', h', cA, X', e', E', A', st⟩ := newP X hx hZ w eT hg hd hs hn hcap hb hc hl
  exact ⟨T', h', _, X', e', rfl, E', own_A.new A', st⟩
theorem own_new {own C : String} {index n : Nat} {g : JFrame} (X : Stand p l e R s m args below meth c T locs cells slots) (hx : p.tables.exec = Jvm.exec) (hZ : Z.Warmed39 s.vm) (hown : s.vm.findClass own = some m.cls) (w : (Jvm.Cond.classLink own index C).before a0 Z = true) (wi : (Jvm.Cond.instantiable C n).before a0 Z = true) (wz : (Jvm.Cond.initialized C).before a0 Z = true) (eT : T.heap = h)
    (hg : g.method = m) (hd : decode c.code g.pc = .ok (.new index, 3)) (hc : cells + 1 ≤ R.cells) (hl : slots + n ≤ R.slots) :
    ∃ T' h' a, Stand p l e R s m args below meth c T' locs (cells + 1) (slots + n) ∧ T'.heap = h' ∧ a = h.size ∧ Ext h h' ∧ Exa Z h' a C ∧ (∀ {O nm d : String} {ty : FieldType}, Laid Z a0 C O nm d → parseFieldDescriptor d = some ty → Fld Z h' a O nm d (defaultValue ty)) ∧
      ∀ target, Steps p.tables e below (T'.setTop { g with pc := g.pc + 3, stack := .ref a :: g.stack }) target → Steps p.tables e below (T.setTop g) target := by
  obtain ⟨T', h', X', e', E', A', D', -, st⟩ := newO X hx hZ hown w wi wz eT hg hd hc hl
  exact ⟨T', h', _, X', e', rfl, E', A', D', st⟩
theorem own_body {y : MethodName} {bytes : ByteArray} {maxL : Nat} {ret : Option FieldType} {ws : List Jvm.Cond} {rm : Room} {as' : Array Value} {h0 : Heap} (hpl : plainFor y = true)
    (body : ∀ (p : Program) (e : Env) (s : State) (m : MethodId) (below : List Frame) (meth : Method) (c : Code) (s₁ : State), p.tables.exec = Jvm.exec → c.code = bytes → c.maxLocals = maxL → s.vm.findClass y.cls = some m.cls → meth.name = y.name → meth.sig.returnType = ret → meth.locks = false → Z.Warmed39 s.vm → Stand p l e rm s m as' below meth c s₁ [] 0 0 → s₁.heap = h0 → own_Fin p.tables e below s rm Q s₁ (entryFrame m as' maxL)) :
    MetFree l y (head1 (Jvm.Cond.code y bytes maxL ret :: ws) rm) (fun a U => a = as' ∧ Z.Warmed39 U.vm ∧ U.heap = h0) (fun _ _ _ _ _ => True) (fun _ U o U' => ∃ v L, o = .returned v ∧ Q v U'.heap L ∧ FrameEnd U o U' L rm.cells rm.slots) := by
  refine MetFree.of_bodySF hpl hisR ?_
  intro p e s m args below meth c s₁ Bd hml0 hP hK
  obtain ⟨rfl, hZ, hh⟩ := hP
  exact body p e s m below meth c s₁ Bd.exec Bd.bytes hml0 (findClass_of_methodNamed Bd.named) (name_of_methodNamed Bd.named Bd.method).1 Bd.returns Bd.notSynchronized hZ (Stand.of_body Bd) (by rw [← hh, Bd.state]; rfl)
theorem own_callS {own : String} {index : Nat} {y : MethodName} {bytes : ByteArray} {maxL W : Nat} {ret : Option FieldType} {rm : Room} {as' : Array Value} {g : JFrame} {argsL rest : List Value}
    (X : Stand p l e R s m args below meth c T locs cells slots) (hx : p.tables.exec = Jvm.exec) (hZ : Z.Warmed39 s.vm) (hown : s.vm.findClass own = some m.cls)
    (w1 : (Jvm.Cond.methodLink own index y).before a0 Z = true) (w2 : (Jvm.Cond.static y).before a0 Z = true) (w3 : (Jvm.Cond.initialized y.cls).before a0 Z = true) (w4 : (Jvm.Cond.code y bytes maxL ret).before a0 Z = true)
    (hy : y.cls ≠ "java/lang/invoke/MethodHandle" ∧ y.cls ≠ "java/lang/invoke/VarHandle") (eT : T.heap = h)
    (hM : MetFree l y (head1 [Jvm.Cond.code y bytes maxL ret] rm) (fun a U => a = as' ∧ Z.Warmed39 U.vm ∧ U.heap = h) (fun _ _ _ _ _ => True) (fun _ U o U' => ∃ v L, o = .returned v ∧ Q v U'.heap L ∧ FrameEnd U o U' L rm.cells rm.slots))
    (hf : rm.frames + 1 ≤ R.frames) (hl : W + (maxL + 11) + rm.locals ≤ R.locals) (hg : g.method = m) (hsize : g.locals.size = c.maxLocals) (hlen : ∀ sig, parseMethodDescriptor y.desc = some sig → argsL.length = sig.parameters.length)
    (hstack : g.stack = argsL.reverse ++ rest) (has : argsL.toArray = as') (hW : 2 * g.monitorRoom + (rest.map fun v => v.category).sum ≤ W) (hdg : decode c.code g.pc = .ok (.invokestatic index, 3)) (hc : cells + rm.cells ≤ R.cells) (hs : slots + rm.slots ≤ R.slots) :
    ∃ (v : Option Value) (T' : State) (L : List Loc), Stand p l e R s m args below meth c T' (locs ++ L) (cells + rm.cells) (slots + rm.slots) ∧ Q v T'.heap L ∧
      ∀ target, Steps p.tables e below (T'.setTop { g with pc := g.pc + 3, stack := v.toList ++ rest }) target → Steps p.tables e below (T.setTop g) target := by
  obtain ⟨v, _, ⟨T', L', k', n'⟩, -, X', ⟨Lc, hQ, l', y', z'⟩, st⟩ := Jvm.LawKit.callS X hx (y := y) hown (mvT hZ w1) (mvT hZ w2) (mvT hZ w3) (mvT hZ w4) hy (backOf (W := W) hM hZ w4 w3 hf hl) hg hsize hlen hstack hW hdg (fun _ _ => ⟨has, eT, hc, hs⟩)
  dsimp only [Pt.U, Pt.locs, Pt.cells, Pt.slots] at X' l' y' z' st hQ
  subst l' y' z'
  exact ⟨v, T', Lc, X', hQ, st⟩
theorem own_callN {own : String} {index : Nat} {y : MethodName} {bytes : ByteArray} {maxL W : Nat} {rm : Room} {as' : Array Value} {g : JFrame} {a : Addr} {argsL rest : List Value}
    (X : Stand p l e R s m args below meth c T locs cells slots) (hx : p.tables.exec = Jvm.exec) (hZ : Z.Warmed39 s.vm) (hy1 : y.name = "<init>") (hown : s.vm.findClass own = some m.cls)
    (w1 : (Jvm.Cond.methodLink own index y).before a0 Z = true) (w2 : (Jvm.Cond.instanceMethod y).before a0 Z = true) (w3 : (Jvm.Cond.initialized y.cls).before a0 Z = true) (w4 : (Jvm.Cond.code y bytes maxL none).before a0 Z = true)
    (hy : y.cls ≠ "java/lang/invoke/MethodHandle" ∧ y.cls ≠ "java/lang/invoke/VarHandle") (eT : T.heap = h)
    (hM : MetFree l y (head1 [Jvm.Cond.code y bytes maxL none] rm) (fun a U => a = as' ∧ Z.Warmed39 U.vm ∧ U.heap = h) (fun _ _ _ _ _ => True) (fun _ U o U' => ∃ v L, o = .returned v ∧ Q v U'.heap L ∧ FrameEnd U o U' L rm.cells rm.slots))
    (hf : rm.frames + 1 ≤ R.frames) (hl : W + (maxL + 11) + rm.locals ≤ R.locals) (hg : g.method = m) (hsize : g.locals.size = c.maxLocals) (hlen : ∀ sig, parseMethodDescriptor y.desc = some sig → argsL.length = sig.parameters.length)
    (hstack : g.stack = argsL.reverse ++ .ref a :: rest) (has : (.ref a :: argsL).toArray = as') (hW : 2 * g.monitorRoom + (rest.map fun v => v.category).sum ≤ W) (hdg : decode c.code g.pc = .ok (.invokespecial index, 3)) (hc : cells + rm.cells ≤ R.cells) (hs : slots + rm.slots ≤ R.slots) :
    ∃ (v : Option Value) (T' : State) (L : List Loc), Stand p l e R s m args below meth c T' (locs ++ L) (cells + rm.cells) (slots + rm.slots) ∧ Q v T'.heap L ∧
      ∀ target, Steps p.tables e below (T'.setTop { g with pc := g.pc + 3, stack := v.toList ++ rest }) target → Steps p.tables e below (T.setTop g) target := by
  obtain ⟨v, _, ⟨T', L', k', n'⟩, -, X', ⟨Lc, hQ, l', y', z'⟩, st⟩ := X.specialBack hx (y := y) hy1 hown (mvT hZ w1) (mvT hZ w2) (mvT hZ w4) hy (backOf (W := W) hM hZ w4 w3 hf hl) hg hsize (Steps.refl _) (a := a) hlen hstack hW hdg (fun _ _ => ⟨has, eT, hc, hs⟩)
  dsimp only [Pt.U, Pt.locs, Pt.cells, Pt.slots] at X' l' y' z' st hQ
  subst l' y' z'
  exact ⟨v, T', Lc, X', hQ, fun _ k => st.trans k⟩
theorem own_callV {own C : String} {index : Nat} {y : MethodName} {bytes : ByteArray} {maxL W : Nat} {ret : Option FieldType} {rm : Room} {as' : Array Value} {g : JFrame} {a : Addr} {argsL rest : List Value}
    (X : Stand p l e R s m args below meth c T locs cells slots) (hx : p.tables.exec = Jvm.exec) (hZ : Z.Warmed39 s.vm) (hown : s.vm.findClass own = some m.cls)
    (w1 : (Jvm.Cond.methodLink own index y).before a0 Z = true) (w2 : (Jvm.Cond.declares y).before a0 Z = true) (w3 : (Jvm.Cond.selects C y y).before a0 Z = true) (w4 : (Jvm.Cond.instanceMethod y).before a0 Z = true) (w5 : (Jvm.Cond.initialized y.cls).before a0 Z = true) (w6 : (Jvm.Cond.code y bytes maxL ret).before a0 Z = true)
    (hy : y.cls ≠ "java/lang/invoke/MethodHandle" ∧ y.cls ≠ "java/lang/invoke/VarHandle") (eT : T.heap = h) (E : Exa Z h a C)
    (hM : MetFree l y (head1 [Jvm.Cond.code y bytes maxL ret] rm) (fun a U => a = as' ∧ Z.Warmed39 U.vm ∧ U.heap = h) (fun _ _ _ _ _ => True) (fun _ U o U' => ∃ v L, o = .returned v ∧ Q v U'.heap L ∧ FrameEnd U o U' L rm.cells rm.slots))
    (hf : rm.frames + 1 ≤ R.frames) (hl : W + (maxL + 11) + rm.locals ≤ R.locals) (hg : g.method = m) (hsize : g.locals.size = c.maxLocals) (hlen : ∀ sig, parseMethodDescriptor y.desc = some sig → argsL.length = sig.parameters.length)
    (hstack : g.stack = argsL.reverse ++ .ref a :: rest) (has : (.ref a :: argsL).toArray = as') (hW : 2 * g.monitorRoom + (rest.map fun v => v.category).sum ≤ W) (hdg : decode c.code g.pc = .ok (.invokevirtual index, 3)) (hc : cells + rm.cells ≤ R.cells) (hs : slots + rm.slots ≤ R.slots) :
    ∃ (v : Option Value) (T' : State) (L : List Loc), Stand p l e R s m args below meth c T' (locs ++ L) (cells + rm.cells) (slots + rm.slots) ∧ Q v T'.heap L ∧
      ∀ target, Steps p.tables e below (T'.setTop { g with pc := g.pc + 3, stack := v.toList ++ rest }) target → Steps p.tables e below (T.setTop g) target := by
  obtain ⟨cq, kq, qa, qb, qc⟩ := isOf hZ eT E
  obtain ⟨v, _, ⟨T', L', k', n'⟩, -, X', ⟨Lc, hQ, l', y', z'⟩, st⟩ := X.virtualBack hx (y := y) (z := y) hown (mvT hZ w1) (mvT hZ w2) (notFace_of_selects (args := args) (mvT hZ w3)) (mvT hZ w3) (mvT hZ w4) hy (backOf (W := W) hM hZ w6 w5 hf hl) qa qc hg hsize (Steps.refl _) hlen hstack hW hdg (fun _ _ => ⟨has, eT, hc, hs⟩)
  dsimp only [Pt.U, Pt.locs, Pt.cells, Pt.slots] at X' l' y' z' st hQ
  subst l' y' z'
  exact ⟨v, T', Lc, X', hQ, fun _ k => st.trans k⟩
end OwnStand
theorem own_sm (q : Int32) (n : Nat) (h : q.toInt = n) (hn : n < 64) : (q &&& 0x3f).toInt64.toBitVec = BitVec.ofNat 64 n := by
  have e : q = Int32.ofNat n := by
    apply Int32.toInt_inj.mp
    rw [h, Int32.toInt_ofNat_of_lt (by omega)]
  subst e
  have : ∀ k : Fin 64, (Int32.ofNat k.1 &&& 0x3f).toInt64.toBitVec = BitVec.ofNat 64 k.1 := by decide
  exact this ⟨n, hn⟩
theorem own_lushr (x : Int64) (q : Int32) (n : Nat) (h : q.toInt = n) (hn : n < 64) : ((x.toUInt64 >>> (q &&& 0x3f).toInt64.toUInt64).toInt64).toBitVec = x.toBitVec >>> n := by
  show x.toBitVec >>> ((q &&& 0x3f).toInt64.toBitVec % 64) = _
  rw [own_sm q n h hn]
  show x.toBitVec >>> (BitVec.ofNat 64 n % 64).toNat = _
  have : ∀ k : Fin 64, (BitVec.ofNat 64 k.1 % 64).toNat = k.1 := by decide
  rw [this ⟨n, hn⟩]
theorem own_lshl (x : Int64) (q : Int32) (n : Nat) (h : q.toInt = n) (hn : n < 64) : (x <<< (q &&& 0x3f).toInt64).toBitVec = x.toBitVec <<< n := by
  rw [Int64.toBitVec_shiftLeft, own_sm q n h hn]
  have : ∀ k : Fin 64, ((BitVec.ofNat 64 k.1).smod 64).toNat = k.1 := by decide
  rw [BitVec.shiftLeft_eq', this ⟨n, hn⟩]
theorem own_mask (n i : Nat) (hn : n < 64) (hi : i < 64) : ((1#64 <<< n) - 1#64).getLsbD i = decide (i < n) := by
  have e : ((1#64 <<< n) - 1#64) = BitVec.ofNat 64 (2 ^ n - 1) := by
    apply BitVec.eq_of_toNat_eq
    have h1 : 2 ^ n < 2 ^ 64 := Nat.pow_lt_pow_right (by decide) hn
    have h2 : 0 < 2 ^ n := Nat.pow_pos (by decide)
    rw [BitVec.toNat_sub]
    simp only [BitVec.toNat_shiftLeft, BitVec.toNat_ofNat, Nat.shiftLeft_eq]
    omega
  rw [e, BitVec.getLsbD_ofNat, Nat.testBit_two_pow_sub_one]
  simp [hi]
theorem own_one (x : Int64) (q : Int32) (n : Nat) (h : q.toInt = n) (hn : n < 64) : ((x.toUInt64 >>> (q &&& 0x3f).toInt64.toUInt64).toInt64) &&& (1 : Int64) = if x.toBitVec.getLsbD n then 1 else 0 := by
  apply Int64.toBitVec_inj.mp
  rw [Int64.toBitVec_and, own_lushr x q n h hn]
  have e : (1 : Int64).toBitVec = 1#64 := rfl
  have e0 : (0 : Int64).toBitVec = 0#64 := rfl
  apply BitVec.eq_of_getLsbD_eq
  intro i hi
  rw [BitVec.getLsbD_and, BitVec.getLsbD_ushiftRight, e]
  by_cases g : i = 0
  · subst g; cases hb : x.toBitVec.getLsbD n <;> simp [hb]
  · cases hb : x.toBitVec.getLsbD n <;> simp [BitVec.getLsbD_one, g]
def own_b (x : Int64) (i : Nat) : Bool := x.toBitVec.getLsbD i
theorem own_ext {x y : Int64} (h : ∀ i, i < 64 → own_b x i = own_b y i) : x = y := by
  apply Int64.toBitVec_inj.mp
  exact BitVec.eq_of_getLsbD_eq h
theorem own_b_and (x y : Int64) (i : Nat) : own_b (x &&& y) i = (own_b x i && own_b y i) := by
  unfold own_b; rw [Int64.toBitVec_and, BitVec.getLsbD_and]
theorem own_b_or (x y : Int64) (i : Nat) : own_b (x ||| y) i = (own_b x i || own_b y i) := by
  unfold own_b; rw [Int64.toBitVec_or, BitVec.getLsbD_or]
theorem own_b_m1 (i : Nat) (hi : i < 64) : own_b (-1) i = true := by
  have e : (-1 : Int64).toBitVec = BitVec.allOnes 64 := by decide
  unfold own_b; rw [e, BitVec.getLsbD_allOnes]; simp [hi]
theorem own_b_not (x : Int64) (i : Nat) (hi : i < 64) : own_b (x ^^^ (-1)) i = !own_b x i := by
  have e : own_b (x ^^^ (-1)) i = (own_b x i != own_b (-1) i) := by unfold own_b; rw [Int64.toBitVec_xor, BitVec.getLsbD_xor]
  rw [e, own_b_m1 i hi]; cases own_b x i <;> rfl
theorem own_b_ge (x : Int64) (i : Nat) (h : 64 ≤ i) : own_b x i = false := BitVec.getLsbD_of_ge _ _ h
theorem own_b_shl (x : Int64) (q : Int32) (n i : Nat) (h : q.toInt = n) (hn : n < 64) (hi : i < 64) : own_b (x <<< (q &&& 0x3f).toInt64) i = (decide (n ≤ i) && own_b x (i - n)) := by
  unfold own_b; rw [own_lshl x q n h hn, BitVec.getLsbD_shiftLeft]
  by_cases g : i < n
  · have : ¬ n ≤ i := by omega
    simp [g, this]
  · have : n ≤ i := by omega
    simp [g, hi, this]
theorem own_b_ushr (x : Int64) (q : Int32) (n i : Nat) (h : q.toInt = n) (hn : n < 64) : own_b ((x.toUInt64 >>> (q &&& 0x3f).toInt64.toUInt64).toInt64) i = own_b x (n + i) := by
  unfold own_b; rw [own_lushr x q n h hn, BitVec.getLsbD_ushiftRight]
theorem own_b_mask (q : Int32) (n i : Nat) (h : q.toInt = n) (hn : n < 64) (hi : i < 64) : own_b (((1 : Int64) <<< (q &&& 0x3f).toInt64) - 1) i = decide (i < n) := by
  unfold own_b; rw [Int64.toBitVec_sub, own_lshl 1 q n h hn]; exact own_mask n i hn hi
/-- a field of c bits at bit A of a stream takes the low bits of 'bits' -/
def own_wr (old bits : Int64) (k A c i : Nat) : Bool := if A ≤ 64 * k + i ∧ 64 * k + i < A + c then own_b bits (64 * k + i - A) else own_b old i
theorem own_idx (j : Int32) (n : Nat) (h0 : 0 ≤ j.toInt) (h1 : j.toInt < n) : ¬ (j < 0 ∨ n ≤ j.toNatClampNeg) := by
  have e : j.toNatClampNeg = j.toInt.toNat := rfl
  intro q
  rcases q with q | q
  · rw [Int32.lt_iff_toInt_lt] at q
    have : (0 : Int32).toInt = 0 := by decide
    omega
  · omega
theorem own_clamp (j : Int32) (k : Nat) (h : j.toInt = k) : j.toNatClampNeg = k := by
  have e : j.toNatClampNeg = j.toInt.toNat := rfl
  omega
theorem own_lt32 (x y : Int32) : x < y ↔ x.toInt < y.toInt := Int32.lt_iff_toInt_lt
theorem own_eq32 (x y : Int32) : x = y ↔ x.toInt = y.toInt := Int32.toInt_inj.symm
theorem own_max (x y : Int32) : (if x < y then y else x).toInt = if x.toInt < y.toInt then y.toInt else x.toInt := by
  by_cases h : x < y
  · have g := (own_lt32 x y).mp h; simp [h, g]
  · have g : ¬ x.toInt < y.toInt := fun q => h ((own_lt32 x y).mpr q)
    simp [h, g]
theorem own_min (x y : Int32) : (if y < x then y else x).toInt = if y.toInt < x.toInt then y.toInt else x.toInt := by
  by_cases h : y < x
  · have g := (own_lt32 y x).mp h; simp [h, g]
  · have g : ¬ y.toInt < x.toInt := fun q => h ((own_lt32 y x).mpr q)
    simp [h, g]
def own_w (w0 w1 w2 : Int64) (k : Nat) : Int64 := if k = 0 then w0 else if k = 1 then w1 else w2
def own_wb (w0 w1 w2 : Int64) (p : Nat) : Bool := (own_w w0 w1 w2 (p / 64)).toBitVec.getLsbD (p % 64)
theorem own_wb_split (w0 w1 w2 : Int64) (A i : Nat) (hi : i < 64) : own_wb w0 w1 w2 (A + i) = if A % 64 + i < 64 then (own_w w0 w1 w2 (A / 64)).toBitVec.getLsbD (A % 64 + i) else (own_w w0 w1 w2 (A / 64 + 1)).toBitVec.getLsbD (A % 64 + i - 64) := by
  unfold own_wb
  by_cases h : A % 64 + i < 64
  · rw [if_pos h]
    have h1 : (A + i) / 64 = A / 64 := by omega
    have h2 : (A + i) % 64 = A % 64 + i := by omega
    rw [h1, h2]
  · rw [if_neg h]
    have h1 : (A + i) / 64 = A / 64 + 1 := by omega
    have h2 : (A + i) % 64 = A % 64 + i - 64 := by omega
    rw [h1, h2]
/-- what 'read' leaves, bit by bit -/
theorem own_rd1 (x0 : BitVec 64) (s i : Nat) (hi : i < 64) : (x0 >>> s).getLsbD i = if s + i < 64 then x0.getLsbD (s + i) else false := by
  rw [BitVec.getLsbD_ushiftRight]
  by_cases h : s + i < 64
  · rw [if_pos h]
  · rw [if_neg h]; exact BitVec.getLsbD_of_ge _ _ (by omega)
theorem own_rd2 (x0 x1 : BitVec 64) (s i : Nat) (hs : 0 < s) (hs2 : s < 64) (hi : i < 64) : ((x0 >>> s) ||| (x1 <<< (64 - s))).getLsbD i = if s + i < 64 then x0.getLsbD (s + i) else x1.getLsbD (s + i - 64) := by
  rw [BitVec.getLsbD_or, own_rd1 x0 s i hi, BitVec.getLsbD_shiftLeft]
  by_cases h : s + i < 64
  · have g : i < 64 - s := by omega
    simp [h, g]
  · have g : ¬ i < 64 - s := by omega
    have e : i - (64 - s) = s + i - 64 := by omega
    simp [h, g, hi, e]

theorem d1_0 : decode prog_64_method_2_code 0 = .ok (.iload_n 2, 1) := by decide +kernel
theorem d1_1 : decode prog_64_method_2_code 1 = .ok (.ifCond .ne 5, 3) := by decide +kernel
theorem d1_4 : decode prog_64_method_2_code 4 = .ok (.lconst 0, 1) := by decide +kernel
theorem d1_5 : decode prog_64_method_2_code 5 = .ok (.lreturn, 1) := by decide +kernel
theorem d1_6 : decode prog_64_method_2_code 6 = .ok (.iload_n 1, 1) := by decide +kernel
theorem d1_7 : decode prog_64_method_2_code 7 = .ok (.bipush 6, 2) := by decide +kernel
theorem d1_9 : decode prog_64_method_2_code 9 = .ok (.iushr, 1) := by decide +kernel
theorem d1_10 : decode prog_64_method_2_code 10 = .ok (.istore_n 3, 1) := by decide +kernel
theorem d1_11 : decode prog_64_method_2_code 11 = .ok (.iload_n 1, 1) := by decide +kernel
theorem d1_12 : decode prog_64_method_2_code 12 = .ok (.bipush 63, 2) := by decide +kernel
theorem d1_14 : decode prog_64_method_2_code 14 = .ok (.iand, 1) := by decide +kernel
theorem d1_15 : decode prog_64_method_2_code 15 = .ok (.istore 4, 2) := by decide +kernel
theorem d1_17 : decode prog_64_method_2_code 17 = .ok (.aload_n 0, 1) := by decide +kernel
theorem d1_18 : decode prog_64_method_2_code 18 = .ok (.iload_n 3, 1) := by decide +kernel
theorem d1_19 : decode prog_64_method_2_code 19 = .ok (.laload, 1) := by decide +kernel
theorem d1_20 : decode prog_64_method_2_code 20 = .ok (.iload 4, 2) := by decide +kernel
theorem d1_22 : decode prog_64_method_2_code 22 = .ok (.lushr, 1) := by decide +kernel
theorem d1_23 : decode prog_64_method_2_code 23 = .ok (.lstore 5, 2) := by decide +kernel
theorem d1_25 : decode prog_64_method_2_code 25 = .ok (.iload 4, 2) := by decide +kernel
theorem d1_27 : decode prog_64_method_2_code 27 = .ok (.iload_n 2, 1) := by decide +kernel
theorem d1_28 : decode prog_64_method_2_code 28 = .ok (.iadd, 1) := by decide +kernel
theorem d1_29 : decode prog_64_method_2_code 29 = .ok (.bipush 64, 2) := by decide +kernel
theorem d1_31 : decode prog_64_method_2_code 31 = .ok (.if_icmp .le 19, 3) := by decide +kernel
theorem d1_34 : decode prog_64_method_2_code 34 = .ok (.lload 5, 2) := by decide +kernel
theorem d1_36 : decode prog_64_method_2_code 36 = .ok (.aload_n 0, 1) := by decide +kernel
theorem d1_37 : decode prog_64_method_2_code 37 = .ok (.iload_n 3, 1) := by decide +kernel
theorem d1_38 : decode prog_64_method_2_code 38 = .ok (.iconst 1, 1) := by decide +kernel
theorem d1_39 : decode prog_64_method_2_code 39 = .ok (.iadd, 1) := by decide +kernel
theorem d1_40 : decode prog_64_method_2_code 40 = .ok (.laload, 1) := by decide +kernel
theorem d1_41 : decode prog_64_method_2_code 41 = .ok (.bipush 64, 2) := by decide +kernel
theorem d1_43 : decode prog_64_method_2_code 43 = .ok (.iload 4, 2) := by decide +kernel
theorem d1_45 : decode prog_64_method_2_code 45 = .ok (.isub, 1) := by decide +kernel
theorem d1_46 : decode prog_64_method_2_code 46 = .ok (.lshl, 1) := by decide +kernel
theorem d1_47 : decode prog_64_method_2_code 47 = .ok (.lor, 1) := by decide +kernel
theorem d1_48 : decode prog_64_method_2_code 48 = .ok (.lstore 5, 2) := by decide +kernel
theorem d1_50 : decode prog_64_method_2_code 50 = .ok (.iload_n 2, 1) := by decide +kernel
theorem d1_51 : decode prog_64_method_2_code 51 = .ok (.bipush 64, 2) := by decide +kernel
theorem d1_53 : decode prog_64_method_2_code 53 = .ok (.if_icmp .ne 8, 3) := by decide +kernel
theorem d1_56 : decode prog_64_method_2_code 56 = .ok (.lload 5, 2) := by decide +kernel
theorem d1_58 : decode prog_64_method_2_code 58 = .ok (.goto 11, 3) := by decide +kernel
theorem d1_61 : decode prog_64_method_2_code 61 = .ok (.lload 5, 2) := by decide +kernel
theorem d1_63 : decode prog_64_method_2_code 63 = .ok (.lconst 1, 1) := by decide +kernel
theorem d1_64 : decode prog_64_method_2_code 64 = .ok (.iload_n 2, 1) := by decide +kernel
theorem d1_65 : decode prog_64_method_2_code 65 = .ok (.lshl, 1) := by decide +kernel
theorem d1_66 : decode prog_64_method_2_code 66 = .ok (.lconst 1, 1) := by decide +kernel
theorem d1_67 : decode prog_64_method_2_code 67 = .ok (.lsub, 1) := by decide +kernel
theorem d1_68 : decode prog_64_method_2_code 68 = .ok (.land, 1) := by decide +kernel
theorem d1_69 : decode prog_64_method_2_code 69 = .ok (.lreturn, 1) := by decide +kernel
theorem pn_1 : plainFor (⟨"com/example/censo/censo/compact/BitFields", "read", "([JII)J"⟩ : MethodName) = true := plainFor_of_name (by first | (simp [plainName, overriddenIn]; done) | decide +kernel)
theorem ef_1 (m : MethodId) (a : Addr) (av : Int32) (cv : Int32) : entryFrame m #[(.ref a), (.int av), (.int cv)] 7 = mkF m 0 #[.val (.ref a), .val (.int av), .val (.int cv), .unset, .unset, .unset, .unset] [] := by first | (simp [entryFrame, mkF, argsToLocals, Value.category]; done) | rfl
def Q1 (Z : State) (a : Addr) (av : Int32) (cv : Int32) (w0 : Int64) (w1 : Int64) (w2 : Int64) (A : Nat) (c0 : Nat) (hI : Heap) (n0 : Nat) (v : Option Value) (h : Heap) (L : List Loc) : Prop := ∃ (r : Int64), v = some (.long r) ∧ Fr n0 L ∧ h = hI ∧ ∀ i, i < 64 → r.toBitVec.getLsbD i = (decide (i < c0) && own_wb w0 w1 w2 (A + i))
set_option maxRecDepth 65536 in
set_option maxHeartbeats 40000000 in
theorem rm1 (l : Launch) (Z : State) (a0 : Array Value) (hw : ∀ d ∈ tables_1, d.before a0 Z = true) (ws : List Jvm.Cond) (a : Addr) (av : Int32) (cv : Int32) (w0 : Int64) (w1 : Int64) (w2 : Int64) (A : Nat) (c0 : Nat) (hI : Heap) (n0 : Nat) (Z0 : n0 ≤ hI.size) (Ar : own_A Z hI a .long 3 (fun i => .long (own_w w0 w1 w2 i))) (hA : av.toInt = A) (hA2 : A < 128) (hC : cv.toInt = c0) (hC2 : c0 ≤ 64) :
    MetFree l (⟨"com/example/censo/censo/compact/BitFields", "read", "([JII)J"⟩ : MethodName) (head1 (Jvm.Cond.code (⟨"com/example/censo/censo/compact/BitFields", "read", "([JII)J"⟩ : MethodName) prog_64_method_2_code 7 (some .long) :: ws) ({ frames := 0, cells := 0, slots := 0, locals := 0 } : Room)) (fun xa U => xa = #[(.ref a), (.int av), (.int cv)] ∧ Z.Warmed39 U.vm ∧ U.heap = hI) (fun _ _ _ _ _ => True) (fun _ U o U' => ∃ v L, o = .returned v ∧ Q1 Z a av cv w0 w1 w2 A c0 hI n0 v U'.heap L ∧ FrameEnd U o U' L ({ frames := 0, cells := 0, slots := 0, locals := 0 } : Room).cells ({ frames := 0, cells := 0, slots := 0, locals := 0 } : Room).slots) := by
  refine own_body pn_1 ?_
  intro p e s m below meth c s₁ hx hby hml hown hnm hret hlk hZ XI eI
  obtain ⟨F, hF⟩ : ∃ F : State → JFrame → Prop, F = own_Fin p.tables e below s ({ frames := 0, cells := 0, slots := 0, locals := 0 } : Room) (Q1 Z a av cv w0 w1 w2 A c0 hI n0) := ⟨_, rfl⟩
  have hst : ∀ {T T' : State} {g g' : JFrame}, (∀ t, Steps p.tables e below (T'.setTop g') t → Steps p.tables e below (T.setTop g) t) → F T' g' → F T g := by subst hF; exact own_st
  have NI := Fr.nil n0
  show own_Fin p.tables e below s ({ frames := 0, cells := 0, slots := 0, locals := 0 } : Room) (Q1 Z a av cv w0 w1 w2 A c0 hI n0) s₁ (entryFrame m #[(.ref a), (.int av), (.int cv)] 7)
  rw [← hF]
  rw [ef_1]
  show F s₁ (mkF m 0 #[.val (.ref a), .val (.int av), .val (.int cv), .unset, .unset, .unset, .unset] [])
  refine hst (fun t k => XS.iloadN XI.here hx rfl (hb hby d1_0) rfl k) ?_
  show F s₁ (mkF m 1 #[.val (.ref a), .val (.int av), .val (.int cv), .unset, .unset, .unset, .unset] [(.int cv)])
  by_cases hc1 : cv = (0 : Int32)
  · -- pc 1: not taken
    refine hst (fun t k => XS.ifNo XI.here hx rfl (hb hby d1_1) rfl ((if0 _ _).trans (teq hc1).2) k) ?_
    show F s₁ (mkF m 4 #[.val (.ref a), .val (.int av), .val (.int cv), .unset, .unset, .unset, .unset] [])
    refine hst (fun t k => XS.lconst XI.here hx rfl (hb hby d1_4) k) ?_
    show F s₁ (mkF m 5 #[.val (.ref a), .val (.int av), .val (.int cv), .unset, .unset, .unset, .unset] [(.long (0 : Int64))])
    rw [hF]
    refine own_retJ XI hx hret hlk (hb hby d1_5) (by decide) (by decide) ?_
    rw [eI]
    refine ⟨_, rfl, NI, rfl, ?_⟩
    intro i hi
    have q : c0 = 0 := by
      rw [hc1] at hC; have : (0 : Int32).toInt = 0 := by decide
      omega
    subst q; show (0#64).getLsbD i = _; simp
  · -- pc 1: taken
    refine hst (fun t k => XS.ifYes XI.here hx rfl (pc0 := 1) (pc' := 6) rfl (hb hby d1_1) rfl ((if0 _ _).trans (feq hc1).2) (by decide) (by decide) k) ?_
    show F s₁ (mkF m 6 #[.val (.ref a), .val (.int av), .val (.int cv), .unset, .unset, .unset, .unset] [])
    refine hst (fun t k => XS.iloadN XI.here hx rfl (hb hby d1_6) rfl k) ?_
    show F s₁ (mkF m 7 #[.val (.ref a), .val (.int av), .val (.int cv), .unset, .unset, .unset, .unset] [(.int av)])
    refine hst (fun t k => XS.bipush XI.here hx rfl (hb hby d1_7) k) ?_
    show F s₁ (mkF m 9 #[.val (.ref a), .val (.int av), .val (.int cv), .unset, .unset, .unset, .unset] [(.int (6 : Int32)), (.int av)])
    refine hst (fun t k => XS.iushr XI.here hx rfl (hb hby d1_9) rfl k) ?_
    show F s₁ (mkF m 10 #[.val (.ref a), .val (.int av), .val (.int cv), .unset, .unset, .unset, .unset] [(.int ((av.toUInt32 >>> ((6 : Int32) &&& 31).toUInt32).toInt32))])
    generalize hwd : ((av.toUInt32 >>> ((6 : Int32) &&& 31).toUInt32).toInt32) = wd
    show F s₁ (mkF m 10 #[.val (.ref a), .val (.int av), .val (.int cv), .unset, .unset, .unset, .unset] [(.int wd)])
    have kw : wd.toInt = ((A / 64 : Nat) : Int) := by
      rw [← hwd, c_iushr av 6 6 (by decide) (by decide)]; omega
    refine hst (fun t k => XS.istoreN XI.here hx rfl (hb hby d1_10) rfl (l' := #[.val (.ref a), .val (.int av), .val (.int cv), .val (.int wd), .unset, .unset, .unset]) rfl k) ?_
    show F s₁ (mkF m 11 #[.val (.ref a), .val (.int av), .val (.int cv), .val (.int wd), .unset, .unset, .unset] [])
    refine hst (fun t k => XS.iloadN XI.here hx rfl (hb hby d1_11) rfl k) ?_
    show F s₁ (mkF m 12 #[.val (.ref a), .val (.int av), .val (.int cv), .val (.int wd), .unset, .unset, .unset] [(.int av)])
    refine hst (fun t k => XS.bipush XI.here hx rfl (hb hby d1_12) k) ?_
    show F s₁ (mkF m 14 #[.val (.ref a), .val (.int av), .val (.int cv), .val (.int wd), .unset, .unset, .unset] [(.int (63 : Int32)), (.int av)])
    refine hst (fun t k => XS.iand XI.here hx rfl (hb hby d1_14) rfl k) ?_
    show F s₁ (mkF m 15 #[.val (.ref a), .val (.int av), .val (.int cv), .val (.int wd), .unset, .unset, .unset] [(.int (av &&& (63 : Int32)))])
    generalize hsh : (av &&& (63 : Int32)) = sh
    show F s₁ (mkF m 15 #[.val (.ref a), .val (.int av), .val (.int cv), .val (.int wd), .unset, .unset, .unset] [(.int sh)])
    have ks : sh.toInt = ((A % 64 : Nat) : Int) := by
      rw [← hsh, c_mask av 63 6 (by decide) (by decide)]; omega
    refine hst (fun t k => XS.istore XI.here hx rfl (hb hby d1_15) rfl (l' := #[.val (.ref a), .val (.int av), .val (.int cv), .val (.int wd), .val (.int sh), .unset, .unset]) rfl k) ?_
    show F s₁ (mkF m 17 #[.val (.ref a), .val (.int av), .val (.int cv), .val (.int wd), .val (.int sh), .unset, .unset] [])
    refine hst (fun t k => XS.aloadN XI.here hx rfl (hb hby d1_17) rfl rfl k) ?_
    show F s₁ (mkF m 18 #[.val (.ref a), .val (.int av), .val (.int cv), .val (.int wd), .val (.int sh), .unset, .unset] [(.ref a)])
    refine hst (fun t k => XS.iloadN XI.here hx rfl (hb hby d1_18) rfl k) ?_
    show F s₁ (mkF m 19 #[.val (.ref a), .val (.int av), .val (.int cv), .val (.int wd), .val (.int sh), .unset, .unset] [(.int wd), (.ref a)])
    refine hst (fun t k => own_laload XI hx hZ eI Ar (own_idx wd 3 (by omega) (by omega)) (v := (.long (own_w w0 w1 w2 (A / 64)))) (by show Value.long (own_w w0 w1 w2 wd.toNatClampNeg) = _; rw [own_clamp wd _ kw]) (g := (mkF m 19 #[.val (.ref a), .val (.int av), .val (.int cv), .val (.int wd), .val (.int sh), .unset, .unset] [(.int wd), (.ref a)])) rfl rfl (hb hby d1_19) t k) ?_
    show F s₁ (mkF m 20 #[.val (.ref a), .val (.int av), .val (.int cv), .val (.int wd), .val (.int sh), .unset, .unset] [(.long (own_w w0 w1 w2 (A / 64)))])
    refine hst (fun t k => XS.iload XI.here hx rfl (hb hby d1_20) rfl k) ?_
    show F s₁ (mkF m 22 #[.val (.ref a), .val (.int av), .val (.int cv), .val (.int wd), .val (.int sh), .unset, .unset] [(.int sh), (.long (own_w w0 w1 w2 (A / 64)))])
    refine hst (fun t k => XS.lushr XI.here hx rfl (hb hby d1_22) rfl k) ?_
    show F s₁ (mkF m 23 #[.val (.ref a), .val (.int av), .val (.int cv), .val (.int wd), .val (.int sh), .unset, .unset] [(.long (((own_w w0 w1 w2 (A / 64)).toUInt64 >>> (sh &&& 0x3f).toInt64.toUInt64).toInt64))])
    generalize hb0 : (((own_w w0 w1 w2 (A / 64)).toUInt64 >>> (sh &&& 0x3f).toInt64.toUInt64).toInt64) = b0
    show F s₁ (mkF m 23 #[.val (.ref a), .val (.int av), .val (.int cv), .val (.int wd), .val (.int sh), .unset, .unset] [(.long b0)])
    have kb0 : b0.toBitVec = (own_w w0 w1 w2 (A / 64)).toBitVec >>> (A % 64) := by rw [← hb0]; exact own_lushr _ sh _ ks (by omega)
    refine hst (fun t k => XS.lstore XI.here hx rfl (hb hby d1_23) rfl (l' := #[.val (.ref a), .val (.int av), .val (.int cv), .val (.int wd), .val (.int sh), .val (.long b0), .second]) rfl k) ?_
    show F s₁ (mkF m 25 #[.val (.ref a), .val (.int av), .val (.int cv), .val (.int wd), .val (.int sh), .val (.long b0), .second] [])
    refine hst (fun t k => XS.iload XI.here hx rfl (hb hby d1_25) rfl k) ?_
    show F s₁ (mkF m 27 #[.val (.ref a), .val (.int av), .val (.int cv), .val (.int wd), .val (.int sh), .val (.long b0), .second] [(.int sh)])
    refine hst (fun t k => XS.iloadN XI.here hx rfl (hb hby d1_27) rfl k) ?_
    show F s₁ (mkF m 28 #[.val (.ref a), .val (.int av), .val (.int cv), .val (.int wd), .val (.int sh), .val (.long b0), .second] [(.int cv), (.int sh)])
    refine hst (fun t k => XS.iadd XI.here hx rfl (hb hby d1_28) rfl k) ?_
    show F s₁ (mkF m 29 #[.val (.ref a), .val (.int av), .val (.int cv), .val (.int wd), .val (.int sh), .val (.long b0), .second] [(.int (sh + cv))])
    generalize hsu : (sh + cv) = su
    show F s₁ (mkF m 29 #[.val (.ref a), .val (.int av), .val (.int cv), .val (.int wd), .val (.int sh), .val (.long b0), .second] [(.int su)])
    have ksu : su.toInt = ((A % 64 + c0 : Nat) : Int) := by
      have h1 := c_iadd sh cv; have h2 := rng32 su; rw [hsu] at h1; omega
    have k64 : (64 : Int32).toInt = 64 := by decide
    refine hst (fun t k => XS.bipush XI.here hx rfl (hb hby d1_29) k) ?_
    show F s₁ (mkF m 31 #[.val (.ref a), .val (.int av), .val (.int cv), .val (.int wd), .val (.int sh), .val (.long b0), .second] [(.int (64 : Int32)), (.int su)])
    by_cases hc31 : (64 : Int32) < su
    · -- pc 31: not taken
      refine hst (fun t k => XS.icmpNo XI.here hx rfl (hb hby d1_31) rfl (tlt hc31).2.2.2 k) ?_
      show F s₁ (mkF m 34 #[.val (.ref a), .val (.int av), .val (.int cv), .val (.int wd), .val (.int sh), .val (.long b0), .second] [])
      have q31 : 64 < A % 64 + c0 := by rw [Int32.lt_iff_toInt_lt] at hc31; omega
      refine hst (fun t k => XS.lload XI.here hx rfl (hb hby d1_34) rfl k) ?_
      show F s₁ (mkF m 36 #[.val (.ref a), .val (.int av), .val (.int cv), .val (.int wd), .val (.int sh), .val (.long b0), .second] [(.long b0)])
      refine hst (fun t k => XS.aloadN XI.here hx rfl (hb hby d1_36) rfl rfl k) ?_
      show F s₁ (mkF m 37 #[.val (.ref a), .val (.int av), .val (.int cv), .val (.int wd), .val (.int sh), .val (.long b0), .second] [(.ref a), (.long b0)])
      refine hst (fun t k => XS.iloadN XI.here hx rfl (hb hby d1_37) rfl k) ?_
      show F s₁ (mkF m 38 #[.val (.ref a), .val (.int av), .val (.int cv), .val (.int wd), .val (.int sh), .val (.long b0), .second] [(.int wd), (.ref a), (.long b0)])
      refine hst (fun t k => XS.iconst XI.here hx rfl (hb hby d1_38) k) ?_
      show F s₁ (mkF m 39 #[.val (.ref a), .val (.int av), .val (.int cv), .val (.int wd), .val (.int sh), .val (.long b0), .second] [(.int (1 : Int32)), (.int wd), (.ref a), (.long b0)])
      refine hst (fun t k => XS.iadd XI.here hx rfl (hb hby d1_39) rfl k) ?_
      show F s₁ (mkF m 40 #[.val (.ref a), .val (.int av), .val (.int cv), .val (.int wd), .val (.int sh), .val (.long b0), .second] [(.int (wd + (1 : Int32))), (.ref a), (.long b0)])
      generalize hw2x : (wd + (1 : Int32)) = w2x
      show F s₁ (mkF m 40 #[.val (.ref a), .val (.int av), .val (.int cv), .val (.int wd), .val (.int sh), .val (.long b0), .second] [(.int w2x), (.ref a), (.long b0)])
      have kw2 : w2x.toInt = ((A / 64 + 1 : Nat) : Int) := by
        have h1 := c_iadd wd 1; have h2 := rng32 w2x; have : (1 : Int32).toInt = 1 := by decide
        rw [hw2x] at h1; omega
      refine hst (fun t k => own_laload XI hx hZ eI Ar (own_idx w2x 3 (by omega) (by omega)) (v := (.long (own_w w0 w1 w2 (A / 64 + 1)))) (by show Value.long (own_w w0 w1 w2 w2x.toNatClampNeg) = _; rw [own_clamp w2x _ kw2]) (g := (mkF m 40 #[.val (.ref a), .val (.int av), .val (.int cv), .val (.int wd), .val (.int sh), .val (.long b0), .second] [(.int w2x), (.ref a), (.long b0)])) rfl rfl (hb hby d1_40) t k) ?_
      show F s₁ (mkF m 41 #[.val (.ref a), .val (.int av), .val (.int cv), .val (.int wd), .val (.int sh), .val (.long b0), .second] [(.long (own_w w0 w1 w2 (A / 64 + 1))), (.long b0)])
      refine hst (fun t k => XS.bipush XI.here hx rfl (hb hby d1_41) k) ?_
      show F s₁ (mkF m 43 #[.val (.ref a), .val (.int av), .val (.int cv), .val (.int wd), .val (.int sh), .val (.long b0), .second] [(.int (64 : Int32)), (.long (own_w w0 w1 w2 (A / 64 + 1))), (.long b0)])
      refine hst (fun t k => XS.iload XI.here hx rfl (hb hby d1_43) rfl k) ?_
      show F s₁ (mkF m 45 #[.val (.ref a), .val (.int av), .val (.int cv), .val (.int wd), .val (.int sh), .val (.long b0), .second] [(.int sh), (.int (64 : Int32)), (.long (own_w w0 w1 w2 (A / 64 + 1))), (.long b0)])
      refine hst (fun t k => XS.isub XI.here hx rfl (hb hby d1_45) rfl k) ?_
      show F s₁ (mkF m 46 #[.val (.ref a), .val (.int av), .val (.int cv), .val (.int wd), .val (.int sh), .val (.long b0), .second] [(.int ((64 : Int32) - sh)), (.long (own_w w0 w1 w2 (A / 64 + 1))), (.long b0)])
      generalize hs2 : ((64 : Int32) - sh) = s2
      show F s₁ (mkF m 46 #[.val (.ref a), .val (.int av), .val (.int cv), .val (.int wd), .val (.int sh), .val (.long b0), .second] [(.int s2), (.long (own_w w0 w1 w2 (A / 64 + 1))), (.long b0)])
      have ks2 : s2.toInt = ((64 - A % 64 : Nat) : Int) := by
        have h1 := c_isub 64 sh; have h2 := rng32 s2; rw [hs2] at h1; omega
      refine hst (fun t k => XS.lshl XI.here hx rfl (hb hby d1_46) rfl k) ?_
      show F s₁ (mkF m 47 #[.val (.ref a), .val (.int av), .val (.int cv), .val (.int wd), .val (.int sh), .val (.long b0), .second] [(.long ((own_w w0 w1 w2 (A / 64 + 1)) <<< (s2 &&& 0x3f).toInt64)), (.long b0)])
      refine hst (fun t k => XS.lor XI.here hx rfl (hb hby d1_47) rfl k) ?_
      show F s₁ (mkF m 48 #[.val (.ref a), .val (.int av), .val (.int cv), .val (.int wd), .val (.int sh), .val (.long b0), .second] [(.long (b0 ||| ((own_w w0 w1 w2 (A / 64 + 1)) <<< (s2 &&& 0x3f).toInt64)))])
      generalize hb1 : (b0 ||| ((own_w w0 w1 w2 (A / 64 + 1)) <<< (s2 &&& 0x3f).toInt64)) = b1
      show F s₁ (mkF m 48 #[.val (.ref a), .val (.int av), .val (.int cv), .val (.int wd), .val (.int sh), .val (.long b0), .second] [(.long b1)])
      have kb1 : b1.toBitVec = b0.toBitVec ||| (own_w w0 w1 w2 (A / 64 + 1)).toBitVec <<< (64 - A % 64) := by rw [← hb1, Int64.toBitVec_or, own_lshl _ s2 _ ks2 (by omega)]
      refine hst (fun t k => XS.lstore XI.here hx rfl (hb hby d1_48) rfl (l' := #[.val (.ref a), .val (.int av), .val (.int cv), .val (.int wd), .val (.int sh), .val (.long b1), .second]) rfl k) ?_
      show F s₁ (mkF m 50 #[.val (.ref a), .val (.int av), .val (.int cv), .val (.int wd), .val (.int sh), .val (.long b1), .second] [])
      refine hst (fun t k => XS.iloadN XI.here hx rfl (hb hby d1_50) rfl k) ?_
      show F s₁ (mkF m 51 #[.val (.ref a), .val (.int av), .val (.int cv), .val (.int wd), .val (.int sh), .val (.long b1), .second] [(.int cv)])
      refine hst (fun t k => XS.bipush XI.here hx rfl (hb hby d1_51) k) ?_
      show F s₁ (mkF m 53 #[.val (.ref a), .val (.int av), .val (.int cv), .val (.int wd), .val (.int sh), .val (.long b1), .second] [(.int (64 : Int32)), (.int cv)])
      by_cases hc53 : cv = (64 : Int32)
      · -- pc 53: not taken
        refine hst (fun t k => XS.icmpNo XI.here hx rfl (hb hby d1_53) rfl (teq hc53).2 k) ?_
        show F s₁ (mkF m 56 #[.val (.ref a), .val (.int av), .val (.int cv), .val (.int wd), .val (.int sh), .val (.long b1), .second] [])
        have q53 : c0 = 64 := by rw [hc53] at hC; omega
        refine hst (fun t k => XS.lload XI.here hx rfl (hb hby d1_56) rfl k) ?_
        show F s₁ (mkF m 58 #[.val (.ref a), .val (.int av), .val (.int cv), .val (.int wd), .val (.int sh), .val (.long b1), .second] [(.long b1)])
        refine hst (fun t k => XS.goto XI.here hx rfl (pc0 := 58) (pc' := 69) rfl (hb hby d1_58) (by decide) (by decide) k) ?_
        show F s₁ (mkF m 69 #[.val (.ref a), .val (.int av), .val (.int cv), .val (.int wd), .val (.int sh), .val (.long b1), .second] [(.long b1)])
        rw [hF]
        refine own_retJ XI hx hret hlk (hb hby d1_69) (by decide) (by decide) ?_
        rw [eI]
        refine ⟨_, rfl, NI, rfl, ?_⟩
        intro i hi
        have hsp := own_wb_split w0 w1 w2 A i hi
        rw [hsp]
        have g0 : i < c0 := by omega
        rw [kb1, kb0, own_rd2 _ _ (A % 64) i (by omega) (by omega) hi]
        simp [g0]
      · -- pc 53: taken
        refine hst (fun t k => XS.icmpYes XI.here hx rfl (pc0 := 53) (pc' := 61) rfl (hb hby d1_53) rfl (feq hc53).2 (by decide) (by decide) k) ?_
        show F s₁ (mkF m 61 #[.val (.ref a), .val (.int av), .val (.int cv), .val (.int wd), .val (.int sh), .val (.long b1), .second] [])
        have q53 : c0 < 64 := by
          have : ¬ cv.toInt = (64 : Int32).toInt := fun q => hc53 (Int32.toInt_inj.mp q)
          omega
        refine hst (fun t k => XS.lload XI.here hx rfl (hb hby d1_61) rfl k) ?_
        show F s₁ (mkF m 63 #[.val (.ref a), .val (.int av), .val (.int cv), .val (.int wd), .val (.int sh), .val (.long b1), .second] [(.long b1)])
        refine hst (fun t k => XS.lconst XI.here hx rfl (hb hby d1_63) k) ?_
        show F s₁ (mkF m 64 #[.val (.ref a), .val (.int av), .val (.int cv), .val (.int wd), .val (.int sh), .val (.long b1), .second] [(.long (1 : Int64)), (.long b1)])
        refine hst (fun t k => XS.iloadN XI.here hx rfl (hb hby d1_64) rfl k) ?_
        show F s₁ (mkF m 65 #[.val (.ref a), .val (.int av), .val (.int cv), .val (.int wd), .val (.int sh), .val (.long b1), .second] [(.int cv), (.long (1 : Int64)), (.long b1)])
        refine hst (fun t k => XS.lshl XI.here hx rfl (hb hby d1_65) rfl k) ?_
        show F s₁ (mkF m 66 #[.val (.ref a), .val (.int av), .val (.int cv), .val (.int wd), .val (.int sh), .val (.long b1), .second] [(.long ((1 : Int64) <<< (cv &&& 0x3f).toInt64)), (.long b1)])
        refine hst (fun t k => XS.lconst XI.here hx rfl (hb hby d1_66) k) ?_
        show F s₁ (mkF m 67 #[.val (.ref a), .val (.int av), .val (.int cv), .val (.int wd), .val (.int sh), .val (.long b1), .second] [(.long (1 : Int64)), (.long ((1 : Int64) <<< (cv &&& 0x3f).toInt64)), (.long b1)])
        refine hst (fun t k => XS.lsub XI.here hx rfl (hb hby d1_67) rfl k) ?_
        show F s₁ (mkF m 68 #[.val (.ref a), .val (.int av), .val (.int cv), .val (.int wd), .val (.int sh), .val (.long b1), .second] [(.long (((1 : Int64) <<< (cv &&& 0x3f).toInt64) - (1 : Int64))), (.long b1)])
        refine hst (fun t k => XS.land XI.here hx rfl (hb hby d1_68) rfl k) ?_
        show F s₁ (mkF m 69 #[.val (.ref a), .val (.int av), .val (.int cv), .val (.int wd), .val (.int sh), .val (.long b1), .second] [(.long (b1 &&& (((1 : Int64) <<< (cv &&& 0x3f).toInt64) - (1 : Int64))))])
        generalize hmk : (b1 &&& (((1 : Int64) <<< (cv &&& 0x3f).toInt64) - (1 : Int64))) = mk
        show F s₁ (mkF m 69 #[.val (.ref a), .val (.int av), .val (.int cv), .val (.int wd), .val (.int sh), .val (.long b1), .second] [(.long mk)])
        rw [hF]
        refine own_retJ XI hx hret hlk (hb hby d1_69) (by decide) (by decide) ?_
        rw [eI]
        refine ⟨_, rfl, NI, rfl, ?_⟩
        intro i hi
        have hsp := own_wb_split w0 w1 w2 A i hi
        rw [hsp]
        rw [← hmk, Int64.toBitVec_and, BitVec.getLsbD_and, Int64.toBitVec_sub, own_lshl 1 cv c0 hC q53]
        have e1 : ((1 : Int64).toBitVec <<< c0 - (1 : Int64).toBitVec).getLsbD i = decide (i < c0) := own_mask c0 i q53 hi
        rw [e1, Bool.and_comm]
        rw [kb1, kb0, own_rd2 _ _ (A % 64) i (by omega) (by omega) hi]
    · -- pc 31: taken
      refine hst (fun t k => XS.icmpYes XI.here hx rfl (pc0 := 31) (pc' := 50) rfl (hb hby d1_31) rfl (flt hc31).2.2.2 (by decide) (by decide) k) ?_
      show F s₁ (mkF m 50 #[.val (.ref a), .val (.int av), .val (.int cv), .val (.int wd), .val (.int sh), .val (.long b0), .second] [])
      have q31 : ¬ 64 < A % 64 + c0 := by rw [Int32.lt_iff_toInt_lt] at hc31; omega
      refine hst (fun t k => XS.iloadN XI.here hx rfl (hb hby d1_50) rfl k) ?_
      show F s₁ (mkF m 51 #[.val (.ref a), .val (.int av), .val (.int cv), .val (.int wd), .val (.int sh), .val (.long b0), .second] [(.int cv)])
      refine hst (fun t k => XS.bipush XI.here hx rfl (hb hby d1_51) k) ?_
      show F s₁ (mkF m 53 #[.val (.ref a), .val (.int av), .val (.int cv), .val (.int wd), .val (.int sh), .val (.long b0), .second] [(.int (64 : Int32)), (.int cv)])
      by_cases hc53 : cv = (64 : Int32)
      · -- pc 53: not taken
        refine hst (fun t k => XS.icmpNo XI.here hx rfl (hb hby d1_53) rfl (teq hc53).2 k) ?_
        show F s₁ (mkF m 56 #[.val (.ref a), .val (.int av), .val (.int cv), .val (.int wd), .val (.int sh), .val (.long b0), .second] [])
        have q53 : c0 = 64 := by rw [hc53] at hC; omega
        refine hst (fun t k => XS.lload XI.here hx rfl (hb hby d1_56) rfl k) ?_
        show F s₁ (mkF m 58 #[.val (.ref a), .val (.int av), .val (.int cv), .val (.int wd), .val (.int sh), .val (.long b0), .second] [(.long b0)])
        refine hst (fun t k => XS.goto XI.here hx rfl (pc0 := 58) (pc' := 69) rfl (hb hby d1_58) (by decide) (by decide) k) ?_
        show F s₁ (mkF m 69 #[.val (.ref a), .val (.int av), .val (.int cv), .val (.int wd), .val (.int sh), .val (.long b0), .second] [(.long b0)])
        rw [hF]
        refine own_retJ XI hx hret hlk (hb hby d1_69) (by decide) (by decide) ?_
        rw [eI]
        refine ⟨_, rfl, NI, rfl, ?_⟩
        intro i hi
        have hsp := own_wb_split w0 w1 w2 A i hi
        rw [hsp]
        have g0 : i < c0 := by omega
        rw [kb0, own_rd1 _ (A % 64) i hi]
        have g2 : A % 64 + i < 64 := by omega
        simp [g0, g2]
      · -- pc 53: taken
        refine hst (fun t k => XS.icmpYes XI.here hx rfl (pc0 := 53) (pc' := 61) rfl (hb hby d1_53) rfl (feq hc53).2 (by decide) (by decide) k) ?_
        show F s₁ (mkF m 61 #[.val (.ref a), .val (.int av), .val (.int cv), .val (.int wd), .val (.int sh), .val (.long b0), .second] [])
        have q53 : c0 < 64 := by
          have : ¬ cv.toInt = (64 : Int32).toInt := fun q => hc53 (Int32.toInt_inj.mp q)
          omega
        refine hst (fun t k => XS.lload XI.here hx rfl (hb hby d1_61) rfl k) ?_
        show F s₁ (mkF m 63 #[.val (.ref a), .val (.int av), .val (.int cv), .val (.int wd), .val (.int sh), .val (.long b0), .second] [(.long b0)])
        refine hst (fun t k => XS.lconst XI.here hx rfl (hb hby d1_63) k) ?_
        show F s₁ (mkF m 64 #[.val (.ref a), .val (.int av), .val (.int cv), .val (.int wd), .val (.int sh), .val (.long b0), .second] [(.long (1 : Int64)), (.long b0)])
        refine hst (fun t k => XS.iloadN XI.here hx rfl (hb hby d1_64) rfl k) ?_
        show F s₁ (mkF m 65 #[.val (.ref a), .val (.int av), .val (.int cv), .val (.int wd), .val (.int sh), .val (.long b0), .second] [(.int cv), (.long (1 : Int64)), (.long b0)])
        refine hst (fun t k => XS.lshl XI.here hx rfl (hb hby d1_65) rfl k) ?_
        show F s₁ (mkF m 66 #[.val (.ref a), .val (.int av), .val (.int cv), .val (.int wd), .val (.int sh), .val (.long b0), .second] [(.long ((1 : Int64) <<< (cv &&& 0x3f).toInt64)), (.long b0)])
        refine hst (fun t k => XS.lconst XI.here hx rfl (hb hby d1_66) k) ?_
        show F s₁ (mkF m 67 #[.val (.ref a), .val (.int av), .val (.int cv), .val (.int wd), .val (.int sh), .val (.long b0), .second] [(.long (1 : Int64)), (.long ((1 : Int64) <<< (cv &&& 0x3f).toInt64)), (.long b0)])
        refine hst (fun t k => XS.lsub XI.here hx rfl (hb hby d1_67) rfl k) ?_
        show F s₁ (mkF m 68 #[.val (.ref a), .val (.int av), .val (.int cv), .val (.int wd), .val (.int sh), .val (.long b0), .second] [(.long (((1 : Int64) <<< (cv &&& 0x3f).toInt64) - (1 : Int64))), (.long b0)])
        refine hst (fun t k => XS.land XI.here hx rfl (hb hby d1_68) rfl k) ?_
        show F s₁ (mkF m 69 #[.val (.ref a), .val (.int av), .val (.int cv), .val (.int wd), .val (.int sh), .val (.long b0), .second] [(.long (b0 &&& (((1 : Int64) <<< (cv &&& 0x3f).toInt64) - (1 : Int64))))])
        generalize hmk : (b0 &&& (((1 : Int64) <<< (cv &&& 0x3f).toInt64) - (1 : Int64))) = mk
        show F s₁ (mkF m 69 #[.val (.ref a), .val (.int av), .val (.int cv), .val (.int wd), .val (.int sh), .val (.long b0), .second] [(.long mk)])
        rw [hF]
        refine own_retJ XI hx hret hlk (hb hby d1_69) (by decide) (by decide) ?_
        rw [eI]
        refine ⟨_, rfl, NI, rfl, ?_⟩
        intro i hi
        have hsp := own_wb_split w0 w1 w2 A i hi
        rw [hsp]
        rw [← hmk, Int64.toBitVec_and, BitVec.getLsbD_and, Int64.toBitVec_sub, own_lshl 1 cv c0 hC q53]
        have e1 : ((1 : Int64).toBitVec <<< c0 - (1 : Int64).toBitVec).getLsbD i = decide (i < c0) := own_mask c0 i q53 hi
        rw [e1, Bool.and_comm]
        rw [kb0, own_rd1 _ (A % 64) i hi]
        by_cases g : i < c0
        · have g2 : A % 64 + i < 64 := by omega
          simp [g, g2]
        · simp [g]
theorem own_big (p : Int32) (h : p.toInt < 192) (h0 : 0 ≤ p.toInt) : ∃ n : Nat, p.toInt = n ∧ n < 192 := ⟨p.toInt.toNat, by omega, by omega⟩
theorem d2_0 : decode method_2_code 0 = .ok (.iload 6, 2) := by decide +kernel
theorem d2_2 : decode method_2_code 2 = .ok (.bipush 6, 2) := by decide +kernel
theorem d2_4 : decode method_2_code 4 = .ok (.iushr, 1) := by decide +kernel
theorem d2_5 : decode method_2_code 5 = .ok (.istore 7, 2) := by decide +kernel
theorem d2_7 : decode method_2_code 7 = .ok (.iload 7, 2) := by decide +kernel
theorem d2_9 : decode method_2_code 9 = .ok (.ifCond .ne 9, 3) := by decide +kernel
theorem d2_12 : decode method_2_code 12 = .ok (.lload_n 0, 1) := by decide +kernel
theorem d2_13 : decode method_2_code 13 = .ok (.lstore 8, 2) := by decide +kernel
theorem d2_15 : decode method_2_code 15 = .ok (.goto 19, 3) := by decide +kernel
theorem d2_18 : decode method_2_code 18 = .ok (.iload 7, 2) := by decide +kernel
theorem d2_20 : decode method_2_code 20 = .ok (.iconst 1, 1) := by decide +kernel
theorem d2_21 : decode method_2_code 21 = .ok (.if_icmp .ne 9, 3) := by decide +kernel
theorem d2_24 : decode method_2_code 24 = .ok (.lload_n 2, 1) := by decide +kernel
theorem d2_25 : decode method_2_code 25 = .ok (.lstore 8, 2) := by decide +kernel
theorem d2_27 : decode method_2_code 27 = .ok (.goto 7, 3) := by decide +kernel
theorem d2_30 : decode method_2_code 30 = .ok (.lload 4, 2) := by decide +kernel
theorem d2_32 : decode method_2_code 32 = .ok (.lstore 8, 2) := by decide +kernel
theorem d2_34 : decode method_2_code 34 = .ok (.lload 8, 2) := by decide +kernel
theorem d2_36 : decode method_2_code 36 = .ok (.iload 6, 2) := by decide +kernel
theorem d2_38 : decode method_2_code 38 = .ok (.bipush 63, 2) := by decide +kernel
theorem d2_40 : decode method_2_code 40 = .ok (.iand, 1) := by decide +kernel
theorem d2_41 : decode method_2_code 41 = .ok (.lushr, 1) := by decide +kernel
theorem d2_42 : decode method_2_code 42 = .ok (.lconst 1, 1) := by decide +kernel
theorem d2_43 : decode method_2_code 43 = .ok (.land, 1) := by decide +kernel
theorem d2_44 : decode method_2_code 44 = .ok (.lreturn, 1) := by decide +kernel
theorem pn_2 : plainFor (⟨"com/example/censo/censo/compact/BitFieldsReadPinLaw", "bitOf", "(JJJI)J"⟩ : MethodName) = true := plainFor_of_name (by first | (simp [plainName, overriddenIn]; done) | decide +kernel)
theorem ef_2 (m : MethodId) (w0 : Int64) (w1 : Int64) (w2 : Int64) (pv : Int32) : entryFrame m #[(.long w0), (.long w1), (.long w2), (.int pv)] 10 = mkF m 0 #[.val (.long w0), .second, .val (.long w1), .second, .val (.long w2), .second, .val (.int pv), .unset, .unset, .unset] [] := by first | (simp [entryFrame, mkF, argsToLocals, Value.category]; done) | rfl
def Q2 (Z : State) (w0 : Int64) (w1 : Int64) (w2 : Int64) (pv : Int32) (B : Nat) (hI : Heap) (n0 : Nat) (v : Option Value) (h : Heap) (L : List Loc) : Prop := v = some (.long (if own_wb w0 w1 w2 B then 1 else 0)) ∧ Fr n0 L ∧ h = hI
set_option maxRecDepth 65536 in
set_option maxHeartbeats 40000000 in
theorem rm2 (l : Launch) (Z : State) (a0 : Array Value) (hw : ∀ d ∈ tables_1, d.before a0 Z = true) (ws : List Jvm.Cond) (w0 : Int64) (w1 : Int64) (w2 : Int64) (pv : Int32) (B : Nat) (hI : Heap) (n0 : Nat) (Z0 : n0 ≤ hI.size) (hB : pv.toInt = B) (hB2 : B < 192) :
    MetFree l (⟨"com/example/censo/censo/compact/BitFieldsReadPinLaw", "bitOf", "(JJJI)J"⟩ : MethodName) (head1 (Jvm.Cond.code (⟨"com/example/censo/censo/compact/BitFieldsReadPinLaw", "bitOf", "(JJJI)J"⟩ : MethodName) method_2_code 10 (some .long) :: ws) ({ frames := 0, cells := 0, slots := 0, locals := 0 } : Room)) (fun xa U => xa = #[(.long w0), (.long w1), (.long w2), (.int pv)] ∧ Z.Warmed39 U.vm ∧ U.heap = hI) (fun _ _ _ _ _ => True) (fun _ U o U' => ∃ v L, o = .returned v ∧ Q2 Z w0 w1 w2 pv B hI n0 v U'.heap L ∧ FrameEnd U o U' L ({ frames := 0, cells := 0, slots := 0, locals := 0 } : Room).cells ({ frames := 0, cells := 0, slots := 0, locals := 0 } : Room).slots) := by
  refine own_body pn_2 ?_
  intro p e s m below meth c s₁ hx hby hml hown hnm hret hlk hZ XI eI
  obtain ⟨F, hF⟩ : ∃ F : State → JFrame → Prop, F = own_Fin p.tables e below s ({ frames := 0, cells := 0, slots := 0, locals := 0 } : Room) (Q2 Z w0 w1 w2 pv B hI n0) := ⟨_, rfl⟩
  have hst : ∀ {T T' : State} {g g' : JFrame}, (∀ t, Steps p.tables e below (T'.setTop g') t → Steps p.tables e below (T.setTop g) t) → F T' g' → F T g := by subst hF; exact own_st
  have NI := Fr.nil n0
  show own_Fin p.tables e below s ({ frames := 0, cells := 0, slots := 0, locals := 0 } : Room) (Q2 Z w0 w1 w2 pv B hI n0) s₁ (entryFrame m #[(.long w0), (.long w1), (.long w2), (.int pv)] 10)
  rw [← hF]
  rw [ef_2]
  show F s₁ (mkF m 0 #[.val (.long w0), .second, .val (.long w1), .second, .val (.long w2), .second, .val (.int pv), .unset, .unset, .unset] [])
  refine hst (fun t k => XS.iload XI.here hx rfl (hb hby d2_0) rfl k) ?_
  show F s₁ (mkF m 2 #[.val (.long w0), .second, .val (.long w1), .second, .val (.long w2), .second, .val (.int pv), .unset, .unset, .unset] [(.int pv)])
  refine hst (fun t k => XS.bipush XI.here hx rfl (hb hby d2_2) k) ?_
  show F s₁ (mkF m 4 #[.val (.long w0), .second, .val (.long w1), .second, .val (.long w2), .second, .val (.int pv), .unset, .unset, .unset] [(.int (6 : Int32)), (.int pv)])
  refine hst (fun t k => XS.iushr XI.here hx rfl (hb hby d2_4) rfl k) ?_
  show F s₁ (mkF m 5 #[.val (.long w0), .second, .val (.long w1), .second, .val (.long w2), .second, .val (.int pv), .unset, .unset, .unset] [(.int ((pv.toUInt32 >>> ((6 : Int32) &&& 31).toUInt32).toInt32))])
  generalize hwd : ((pv.toUInt32 >>> ((6 : Int32) &&& 31).toUInt32).toInt32) = wd
  show F s₁ (mkF m 5 #[.val (.long w0), .second, .val (.long w1), .second, .val (.long w2), .second, .val (.int pv), .unset, .unset, .unset] [(.int wd)])
  have kw : wd.toInt = ((B / 64 : Nat) : Int) := by
    rw [← hwd, c_iushr pv 6 6 (by decide) (by decide)]; omega
  have k0 : (0 : Int32).toInt = 0 := by decide
  have k1 : (1 : Int32).toInt = 1 := by decide
  refine hst (fun t k => XS.istore XI.here hx rfl (hb hby d2_5) rfl (l' := #[.val (.long w0), .second, .val (.long w1), .second, .val (.long w2), .second, .val (.int pv), .val (.int wd), .unset, .unset]) rfl k) ?_
  show F s₁ (mkF m 7 #[.val (.long w0), .second, .val (.long w1), .second, .val (.long w2), .second, .val (.int pv), .val (.int wd), .unset, .unset] [])
  refine hst (fun t k => XS.iload XI.here hx rfl (hb hby d2_7) rfl k) ?_
  show F s₁ (mkF m 9 #[.val (.long w0), .second, .val (.long w1), .second, .val (.long w2), .second, .val (.int pv), .val (.int wd), .unset, .unset] [(.int wd)])
  by_cases hc9 : wd = (0 : Int32)
  · -- pc 9: not taken
    refine hst (fun t k => XS.ifNo XI.here hx rfl (hb hby d2_9) rfl ((if0 _ _).trans (teq hc9).2) k) ?_
    show F s₁ (mkF m 12 #[.val (.long w0), .second, .val (.long w1), .second, .val (.long w2), .second, .val (.int pv), .val (.int wd), .unset, .unset] [])
    have kx : own_w w0 w1 w2 (B / 64) = w0 := by
      rw [hc9] at kw; have : B / 64 = 0 := by omega
      simp [own_w, this]
    refine hst (fun t k => XS.lloadN XI.here hx rfl (hb hby d2_12) rfl k) ?_
    show F s₁ (mkF m 13 #[.val (.long w0), .second, .val (.long w1), .second, .val (.long w2), .second, .val (.int pv), .val (.int wd), .unset, .unset] [(.long w0)])
    refine hst (fun t k => XS.lstore XI.here hx rfl (hb hby d2_13) rfl (l' := #[.val (.long w0), .second, .val (.long w1), .second, .val (.long w2), .second, .val (.int pv), .val (.int wd), .val (.long w0), .second]) rfl k) ?_
    show F s₁ (mkF m 15 #[.val (.long w0), .second, .val (.long w1), .second, .val (.long w2), .second, .val (.int pv), .val (.int wd), .val (.long w0), .second] [])
    refine hst (fun t k => XS.goto XI.here hx rfl (pc0 := 15) (pc' := 34) rfl (hb hby d2_15) (by decide) (by decide) k) ?_
    show F s₁ (mkF m 34 #[.val (.long w0), .second, .val (.long w1), .second, .val (.long w2), .second, .val (.int pv), .val (.int wd), .val (.long w0), .second] [])
    refine hst (fun t k => XS.lload XI.here hx rfl (hb hby d2_34) rfl k) ?_
    show F s₁ (mkF m 36 #[.val (.long w0), .second, .val (.long w1), .second, .val (.long w2), .second, .val (.int pv), .val (.int wd), .val (.long w0), .second] [(.long w0)])
    refine hst (fun t k => XS.iload XI.here hx rfl (hb hby d2_36) rfl k) ?_
    show F s₁ (mkF m 38 #[.val (.long w0), .second, .val (.long w1), .second, .val (.long w2), .second, .val (.int pv), .val (.int wd), .val (.long w0), .second] [(.int pv), (.long w0)])
    refine hst (fun t k => XS.bipush XI.here hx rfl (hb hby d2_38) k) ?_
    show F s₁ (mkF m 40 #[.val (.long w0), .second, .val (.long w1), .second, .val (.long w2), .second, .val (.int pv), .val (.int wd), .val (.long w0), .second] [(.int (63 : Int32)), (.int pv), (.long w0)])
    refine hst (fun t k => XS.iand XI.here hx rfl (hb hby d2_40) rfl k) ?_
    show F s₁ (mkF m 41 #[.val (.long w0), .second, .val (.long w1), .second, .val (.long w2), .second, .val (.int pv), .val (.int wd), .val (.long w0), .second] [(.int (pv &&& (63 : Int32))), (.long w0)])
    generalize hsh : (pv &&& (63 : Int32)) = sh
    show F s₁ (mkF m 41 #[.val (.long w0), .second, .val (.long w1), .second, .val (.long w2), .second, .val (.int pv), .val (.int wd), .val (.long w0), .second] [(.int sh), (.long w0)])
    have ks : sh.toInt = ((B % 64 : Nat) : Int) := by
      rw [← hsh, c_mask pv 63 6 (by decide) (by decide)]; omega
    refine hst (fun t k => XS.lushr XI.here hx rfl (hb hby d2_41) rfl k) ?_
    show F s₁ (mkF m 42 #[.val (.long w0), .second, .val (.long w1), .second, .val (.long w2), .second, .val (.int pv), .val (.int wd), .val (.long w0), .second] [(.long ((w0.toUInt64 >>> (sh &&& 0x3f).toInt64.toUInt64).toInt64))])
    refine hst (fun t k => XS.lconst XI.here hx rfl (hb hby d2_42) k) ?_
    show F s₁ (mkF m 43 #[.val (.long w0), .second, .val (.long w1), .second, .val (.long w2), .second, .val (.int pv), .val (.int wd), .val (.long w0), .second] [(.long (1 : Int64)), (.long ((w0.toUInt64 >>> (sh &&& 0x3f).toInt64.toUInt64).toInt64))])
    refine hst (fun t k => XS.land XI.here hx rfl (hb hby d2_43) rfl k) ?_
    show F s₁ (mkF m 44 #[.val (.long w0), .second, .val (.long w1), .second, .val (.long w2), .second, .val (.int pv), .val (.int wd), .val (.long w0), .second] [(.long (((w0.toUInt64 >>> (sh &&& 0x3f).toInt64.toUInt64).toInt64) &&& (1 : Int64)))])
    rw [hF]
    refine own_retJ XI hx hret hlk (hb hby d2_44) (by decide) (by decide) ?_
    rw [eI]
    exact ⟨(by rw [own_one _ sh _ ks (by omega)]; unfold own_wb; rw [kx]), NI, rfl⟩
  · -- pc 9: taken
    refine hst (fun t k => XS.ifYes XI.here hx rfl (pc0 := 9) (pc' := 18) rfl (hb hby d2_9) rfl ((if0 _ _).trans (feq hc9).2) (by decide) (by decide) k) ?_
    show F s₁ (mkF m 18 #[.val (.long w0), .second, .val (.long w1), .second, .val (.long w2), .second, .val (.int pv), .val (.int wd), .unset, .unset] [])
    have q9 : ¬ B / 64 = 0 := fun q => hc9 (Int32.toInt_inj.mp (by omega))
    refine hst (fun t k => XS.iload XI.here hx rfl (hb hby d2_18) rfl k) ?_
    show F s₁ (mkF m 20 #[.val (.long w0), .second, .val (.long w1), .second, .val (.long w2), .second, .val (.int pv), .val (.int wd), .unset, .unset] [(.int wd)])
    refine hst (fun t k => XS.iconst XI.here hx rfl (hb hby d2_20) k) ?_
    show F s₁ (mkF m 21 #[.val (.long w0), .second, .val (.long w1), .second, .val (.long w2), .second, .val (.int pv), .val (.int wd), .unset, .unset] [(.int (1 : Int32)), (.int wd)])
    by_cases hc21 : wd = (1 : Int32)
    · -- pc 21: not taken
      refine hst (fun t k => XS.icmpNo XI.here hx rfl (hb hby d2_21) rfl (teq hc21).2 k) ?_
      show F s₁ (mkF m 24 #[.val (.long w0), .second, .val (.long w1), .second, .val (.long w2), .second, .val (.int pv), .val (.int wd), .unset, .unset] [])
      have kx : own_w w0 w1 w2 (B / 64) = w1 := by
        rw [hc21] at kw; have : B / 64 = 1 := by omega
        simp [own_w, this]
      refine hst (fun t k => XS.lloadN XI.here hx rfl (hb hby d2_24) rfl k) ?_
      show F s₁ (mkF m 25 #[.val (.long w0), .second, .val (.long w1), .second, .val (.long w2), .second, .val (.int pv), .val (.int wd), .unset, .unset] [(.long w1)])
      refine hst (fun t k => XS.lstore XI.here hx rfl (hb hby d2_25) rfl (l' := #[.val (.long w0), .second, .val (.long w1), .second, .val (.long w2), .second, .val (.int pv), .val (.int wd), .val (.long w1), .second]) rfl k) ?_
      show F s₁ (mkF m 27 #[.val (.long w0), .second, .val (.long w1), .second, .val (.long w2), .second, .val (.int pv), .val (.int wd), .val (.long w1), .second] [])
      refine hst (fun t k => XS.goto XI.here hx rfl (pc0 := 27) (pc' := 34) rfl (hb hby d2_27) (by decide) (by decide) k) ?_
      show F s₁ (mkF m 34 #[.val (.long w0), .second, .val (.long w1), .second, .val (.long w2), .second, .val (.int pv), .val (.int wd), .val (.long w1), .second] [])
      refine hst (fun t k => XS.lload XI.here hx rfl (hb hby d2_34) rfl k) ?_
      show F s₁ (mkF m 36 #[.val (.long w0), .second, .val (.long w1), .second, .val (.long w2), .second, .val (.int pv), .val (.int wd), .val (.long w1), .second] [(.long w1)])
      refine hst (fun t k => XS.iload XI.here hx rfl (hb hby d2_36) rfl k) ?_
      show F s₁ (mkF m 38 #[.val (.long w0), .second, .val (.long w1), .second, .val (.long w2), .second, .val (.int pv), .val (.int wd), .val (.long w1), .second] [(.int pv), (.long w1)])
      refine hst (fun t k => XS.bipush XI.here hx rfl (hb hby d2_38) k) ?_
      show F s₁ (mkF m 40 #[.val (.long w0), .second, .val (.long w1), .second, .val (.long w2), .second, .val (.int pv), .val (.int wd), .val (.long w1), .second] [(.int (63 : Int32)), (.int pv), (.long w1)])
      refine hst (fun t k => XS.iand XI.here hx rfl (hb hby d2_40) rfl k) ?_
      show F s₁ (mkF m 41 #[.val (.long w0), .second, .val (.long w1), .second, .val (.long w2), .second, .val (.int pv), .val (.int wd), .val (.long w1), .second] [(.int (pv &&& (63 : Int32))), (.long w1)])
      generalize hsh : (pv &&& (63 : Int32)) = sh
      show F s₁ (mkF m 41 #[.val (.long w0), .second, .val (.long w1), .second, .val (.long w2), .second, .val (.int pv), .val (.int wd), .val (.long w1), .second] [(.int sh), (.long w1)])
      have ks : sh.toInt = ((B % 64 : Nat) : Int) := by
        rw [← hsh, c_mask pv 63 6 (by decide) (by decide)]; omega
      refine hst (fun t k => XS.lushr XI.here hx rfl (hb hby d2_41) rfl k) ?_
      show F s₁ (mkF m 42 #[.val (.long w0), .second, .val (.long w1), .second, .val (.long w2), .second, .val (.int pv), .val (.int wd), .val (.long w1), .second] [(.long ((w1.toUInt64 >>> (sh &&& 0x3f).toInt64.toUInt64).toInt64))])
      refine hst (fun t k => XS.lconst XI.here hx rfl (hb hby d2_42) k) ?_
      show F s₁ (mkF m 43 #[.val (.long w0), .second, .val (.long w1), .second, .val (.long w2), .second, .val (.int pv), .val (.int wd), .val (.long w1), .second] [(.long (1 : Int64)), (.long ((w1.toUInt64 >>> (sh &&& 0x3f).toInt64.toUInt64).toInt64))])
      refine hst (fun t k => XS.land XI.here hx rfl (hb hby d2_43) rfl k) ?_
      show F s₁ (mkF m 44 #[.val (.long w0), .second, .val (.long w1), .second, .val (.long w2), .second, .val (.int pv), .val (.int wd), .val (.long w1), .second] [(.long (((w1.toUInt64 >>> (sh &&& 0x3f).toInt64.toUInt64).toInt64) &&& (1 : Int64)))])
      rw [hF]
      refine own_retJ XI hx hret hlk (hb hby d2_44) (by decide) (by decide) ?_
      rw [eI]
      exact ⟨(by rw [own_one _ sh _ ks (by omega)]; unfold own_wb; rw [kx]), NI, rfl⟩
    · -- pc 21: taken
      refine hst (fun t k => XS.icmpYes XI.here hx rfl (pc0 := 21) (pc' := 30) rfl (hb hby d2_21) rfl (feq hc21).2 (by decide) (by decide) k) ?_
      show F s₁ (mkF m 30 #[.val (.long w0), .second, .val (.long w1), .second, .val (.long w2), .second, .val (.int pv), .val (.int wd), .unset, .unset] [])
      have q21 : ¬ B / 64 = 1 := fun q => hc21 (Int32.toInt_inj.mp (by omega))
      have kx : own_w w0 w1 w2 (B / 64) = w2 := by simp [own_w, q9, q21]
      refine hst (fun t k => XS.lload XI.here hx rfl (hb hby d2_30) rfl k) ?_
      show F s₁ (mkF m 32 #[.val (.long w0), .second, .val (.long w1), .second, .val (.long w2), .second, .val (.int pv), .val (.int wd), .unset, .unset] [(.long w2)])
      refine hst (fun t k => XS.lstore XI.here hx rfl (hb hby d2_32) rfl (l' := #[.val (.long w0), .second, .val (.long w1), .second, .val (.long w2), .second, .val (.int pv), .val (.int wd), .val (.long w2), .second]) rfl k) ?_
      show F s₁ (mkF m 34 #[.val (.long w0), .second, .val (.long w1), .second, .val (.long w2), .second, .val (.int pv), .val (.int wd), .val (.long w2), .second] [])
      refine hst (fun t k => XS.lload XI.here hx rfl (hb hby d2_34) rfl k) ?_
      show F s₁ (mkF m 36 #[.val (.long w0), .second, .val (.long w1), .second, .val (.long w2), .second, .val (.int pv), .val (.int wd), .val (.long w2), .second] [(.long w2)])
      refine hst (fun t k => XS.iload XI.here hx rfl (hb hby d2_36) rfl k) ?_
      show F s₁ (mkF m 38 #[.val (.long w0), .second, .val (.long w1), .second, .val (.long w2), .second, .val (.int pv), .val (.int wd), .val (.long w2), .second] [(.int pv), (.long w2)])
      refine hst (fun t k => XS.bipush XI.here hx rfl (hb hby d2_38) k) ?_
      show F s₁ (mkF m 40 #[.val (.long w0), .second, .val (.long w1), .second, .val (.long w2), .second, .val (.int pv), .val (.int wd), .val (.long w2), .second] [(.int (63 : Int32)), (.int pv), (.long w2)])
      refine hst (fun t k => XS.iand XI.here hx rfl (hb hby d2_40) rfl k) ?_
      show F s₁ (mkF m 41 #[.val (.long w0), .second, .val (.long w1), .second, .val (.long w2), .second, .val (.int pv), .val (.int wd), .val (.long w2), .second] [(.int (pv &&& (63 : Int32))), (.long w2)])
      generalize hsh : (pv &&& (63 : Int32)) = sh
      show F s₁ (mkF m 41 #[.val (.long w0), .second, .val (.long w1), .second, .val (.long w2), .second, .val (.int pv), .val (.int wd), .val (.long w2), .second] [(.int sh), (.long w2)])
      have ks : sh.toInt = ((B % 64 : Nat) : Int) := by
        rw [← hsh, c_mask pv 63 6 (by decide) (by decide)]; omega
      refine hst (fun t k => XS.lushr XI.here hx rfl (hb hby d2_41) rfl k) ?_
      show F s₁ (mkF m 42 #[.val (.long w0), .second, .val (.long w1), .second, .val (.long w2), .second, .val (.int pv), .val (.int wd), .val (.long w2), .second] [(.long ((w2.toUInt64 >>> (sh &&& 0x3f).toInt64.toUInt64).toInt64))])
      refine hst (fun t k => XS.lconst XI.here hx rfl (hb hby d2_42) k) ?_
      show F s₁ (mkF m 43 #[.val (.long w0), .second, .val (.long w1), .second, .val (.long w2), .second, .val (.int pv), .val (.int wd), .val (.long w2), .second] [(.long (1 : Int64)), (.long ((w2.toUInt64 >>> (sh &&& 0x3f).toInt64.toUInt64).toInt64))])
      refine hst (fun t k => XS.land XI.here hx rfl (hb hby d2_43) rfl k) ?_
      show F s₁ (mkF m 44 #[.val (.long w0), .second, .val (.long w1), .second, .val (.long w2), .second, .val (.int pv), .val (.int wd), .val (.long w2), .second] [(.long (((w2.toUInt64 >>> (sh &&& 0x3f).toInt64.toUInt64).toInt64) &&& (1 : Int64)))])
      rw [hF]
      refine own_retJ XI hx hret hlk (hb hby d2_44) (by decide) (by decide) ?_
      rw [eI]
      exact ⟨(by rw [own_one _ sh _ ks (by omega)]; unfold own_wb; rw [kx]), NI, rfl⟩
theorem pn_0 : plainFor x = true := plainFor_of_name (by first | (simp [plainName, overriddenIn]; done) | decide +kernel)
theorem pd_1 : parseMethodDescriptor "([JII)J" = some ⟨[(.array .long), .int, .int], some .long⟩ := by decide +kernel
theorem pd_0 : parseMethodDescriptor "(JJJI)J" = some ⟨[.long, .long, .long, .int], some .long⟩ := by decide +kernel
theorem ef_0 (m : MethodId) (q1 : Int64) (q2 : Int64) (q3 : Int64) (p4 : Int32) (p5 : Int32) (p6 : Int32) : entryFrame m #[(.long q1), (.long q2), (.long q3), (.int p4), (.int p5), (.int p6)] maxLocals = mkF m 0 #[.val (.long q1), .second, .val (.long q2), .second, .val (.long q3), .second, .val (.int p4), .val (.int p5), .val (.int p6), .unset, .unset, .unset, .unset, .unset, .unset, .unset, .unset, .unset, .unset] [] := by first | (simp [entryFrame, mkF, argsToLocals, Value.category, maxLocals]; done) | rfl
def Q0 (Z : State) (q1 : Int64) (q2 : Int64) (q3 : Int64) (p4 : Int32) (p5 : Int32) (p6 : Int32) (hI : Heap) (n0 : Nat) (v : Option Value) (h : Heap) (L : List Loc) : Prop := v = some (.int 1) ∧ Fr n0 L
set_option maxRecDepth 65536 in
set_option maxHeartbeats 40000000 in
theorem rm0 (l : Launch) (Z : State) (a0 : Array Value) (hw : ∀ d ∈ tables_1, d.before a0 Z = true) (ws : List Jvm.Cond) (q1 : Int64) (q2 : Int64) (q3 : Int64) (p4 : Int32) (p5 : Int32) (p6 : Int32) (hI : Heap) (n0 : Nat) (Z0 : n0 ≤ hI.size) :
    MetFree l x (head1 (Jvm.Cond.code x code maxLocals ret :: ws) room_1) (fun xa U => xa = #[(.long q1), (.long q2), (.long q3), (.int p4), (.int p5), (.int p6)] ∧ Z.Warmed39 U.vm ∧ U.heap = hI) (fun _ _ _ _ _ => True) (fun _ U o U' => ∃ v L, o = .returned v ∧ Q0 Z q1 q2 q3 p4 p5 p6 hI n0 v U'.heap L ∧ FrameEnd U o U' L room_1.cells room_1.slots) := by
  refine own_body pn_0 ?_
  intro p e s m below meth c s₁ hx hby hml hown hnm hret hlk hZ XI eI
  have hml : c.maxLocals = 19 := hml
  obtain ⟨F, hF⟩ : ∃ F : State → JFrame → Prop, F = own_Fin p.tables e below s room_1 (Q0 Z q1 q2 q3 p4 p5 p6 hI n0) := ⟨_, rfl⟩
  have hst : ∀ {T T' : State} {g g' : JFrame}, (∀ t, Steps p.tables e below (T'.setTop g') t → Steps p.tables e below (T.setTop g) t) → F T' g' → F T g := by subst hF; exact own_st
  have NI := Fr.nil n0
  show own_Fin p.tables e below s room_1 (Q0 Z q1 q2 q3 p4 p5 p6 hI n0) s₁ (entryFrame m #[(.long q1), (.long q2), (.long q3), (.int p4), (.int p5), (.int p6)] maxLocals)
  rw [← hF]
  rw [ef_0]
  show F s₁ (mkF m 0 #[.val (.long q1), .second, .val (.long q2), .second, .val (.long q3), .second, .val (.int p4), .val (.int p5), .val (.int p6), .unset, .unset, .unset, .unset, .unset, .unset, .unset, .unset, .unset, .unset] [])
  refine hst (fun t k => XS.iconst XI.here hx rfl (hb hby at_0) k) ?_
  show F s₁ (mkF m 1 #[.val (.long q1), .second, .val (.long q2), .second, .val (.long q3), .second, .val (.int p4), .val (.int p5), .val (.int p6), .unset, .unset, .unset, .unset, .unset, .unset, .unset, .unset, .unset, .unset] [(.int (3 : Int32))])
  obtain ⟨T1, h1, b1, X1, e1, g1, E1, A1, st1⟩ := own_newarr XI hx hZ (hw _ (List.mem_of_getElem? (i := 0) rfl)) eI (g := (mkF m 1 #[.val (.long q1), .second, .val (.long q2), .second, .val (.long q3), .second, .val (.int p4), .val (.int p5), .val (.int p6), .unset, .unset, .unset, .unset, .unset, .unset, .unset, .unset, .unset, .unset] [(.int (3 : Int32))])) rfl (hb hby at_1) rfl (by decide) (cap := 3) (by decide) (by decide) (by decide) (by decide)
  have ge_b1 : n0 ≤ b1 := Nat.le_trans Z0 (Nat.le_of_eq g1.symm)
  have Z0_p1 : n0 ≤ h1.size := (Nat.le_trans Z0 E1.1)
  have A_b1 : own_A Z h1 b1 .long 3 (fun _ => (.long (0 : Int64))) := A1
  refine hst st1 ?_
  show F T1 (mkF m 3 #[.val (.long q1), .second, .val (.long q2), .second, .val (.long q3), .second, .val (.int p4), .val (.int p5), .val (.int p6), .unset, .unset, .unset, .unset, .unset, .unset, .unset, .unset, .unset, .unset] [(.ref b1)])
  refine hst (fun t k => XS.dup X1.here hx rfl (hb hby at_3) rfl rfl k) ?_
  show F T1 (mkF m 4 #[.val (.long q1), .second, .val (.long q2), .second, .val (.long q3), .second, .val (.int p4), .val (.int p5), .val (.int p6), .unset, .unset, .unset, .unset, .unset, .unset, .unset, .unset, .unset, .unset] [(.ref b1), (.ref b1)])
  refine hst (fun t k => XS.iconst X1.here hx rfl (hb hby at_4) k) ?_
  show F T1 (mkF m 5 #[.val (.long q1), .second, .val (.long q2), .second, .val (.long q3), .second, .val (.int p4), .val (.int p5), .val (.int p6), .unset, .unset, .unset, .unset, .unset, .unset, .unset, .unset, .unset, .unset] [(.int (0 : Int32)), (.ref b1), (.ref b1)])
  refine hst (fun t k => XS.lloadN X1.here hx rfl (hb hby at_5) rfl k) ?_
  show F T1 (mkF m 6 #[.val (.long q1), .second, .val (.long q2), .second, .val (.long q3), .second, .val (.int p4), .val (.int p5), .val (.int p6), .unset, .unset, .unset, .unset, .unset, .unset, .unset, .unset, .unset, .unset] [(.long q1), (.int (0 : Int32)), (.ref b1), (.ref b1)])
  obtain ⟨T6, h6, X6, e6, W6, st6⟩ := own_lastore X1 hx hZ e1 A_b1 (by decide) (g := (mkF m 6 #[.val (.long q1), .second, .val (.long q2), .second, .val (.long q3), .second, .val (.int p4), .val (.int p5), .val (.int p6), .unset, .unset, .unset, .unset, .unset, .unset, .unset, .unset, .unset, .unset] [(.long q1), (.int (0 : Int32)), (.ref b1), (.ref b1)])) rfl rfl (hb hby at_6)
  have N6 := Fr.snoc X6 NI ge_b1
  have A_b1_p6 : own_A Z h6 b1 .long 3 (fun i => if i = Int32.toNatClampNeg (0 : Int32) then (.long q1) else (fun _ => (.long (0 : Int64))) i) := A_b1.set W6
  have Z0_p6 : n0 ≤ h6.size := Nat.le_trans Z0_p1 (Keep.of_wr W6).1
  refine hst st6 ?_
  show F T6 (mkF m 7 #[.val (.long q1), .second, .val (.long q2), .second, .val (.long q3), .second, .val (.int p4), .val (.int p5), .val (.int p6), .unset, .unset, .unset, .unset, .unset, .unset, .unset, .unset, .unset, .unset] [(.ref b1)])
  refine hst (fun t k => XS.dup X6.here hx rfl (hb hby at_7) rfl rfl k) ?_
  show F T6 (mkF m 8 #[.val (.long q1), .second, .val (.long q2), .second, .val (.long q3), .second, .val (.int p4), .val (.int p5), .val (.int p6), .unset, .unset, .unset, .unset, .unset, .unset, .unset, .unset, .unset, .unset] [(.ref b1), (.ref b1)])
  refine hst (fun t k => XS.iconst X6.here hx rfl (hb hby at_8) k) ?_
  show F T6 (mkF m 9 #[.val (.long q1), .second, .val (.long q2), .second, .val (.long q3), .second, .val (.int p4), .val (.int p5), .val (.int p6), .unset, .unset, .unset, .unset, .unset, .unset, .unset, .unset, .unset, .unset] [(.int (1 : Int32)), (.ref b1), (.ref b1)])
  refine hst (fun t k => XS.lloadN X6.here hx rfl (hb hby at_9) rfl k) ?_
  show F T6 (mkF m 10 #[.val (.long q1), .second, .val (.long q2), .second, .val (.long q3), .second, .val (.int p4), .val (.int p5), .val (.int p6), .unset, .unset, .unset, .unset, .unset, .unset, .unset, .unset, .unset, .unset] [(.long q2), (.int (1 : Int32)), (.ref b1), (.ref b1)])
  obtain ⟨T10, h10, X10, e10, W10, st10⟩ := own_lastore X6 hx hZ e6 A_b1_p6 (by decide) (g := (mkF m 10 #[.val (.long q1), .second, .val (.long q2), .second, .val (.long q3), .second, .val (.int p4), .val (.int p5), .val (.int p6), .unset, .unset, .unset, .unset, .unset, .unset, .unset, .unset, .unset, .unset] [(.long q2), (.int (1 : Int32)), (.ref b1), (.ref b1)])) rfl rfl (hb hby at_10)
  have N10 := Fr.snoc X10 N6 ge_b1
  have A_b1_p10 : own_A Z h10 b1 .long 3 (fun i => if i = Int32.toNatClampNeg (1 : Int32) then (.long q2) else (fun i => if i = Int32.toNatClampNeg (0 : Int32) then (.long q1) else (fun _ => (.long (0 : Int64))) i) i) := A_b1_p6.set W10
  have Z0_p10 : n0 ≤ h10.size := Nat.le_trans Z0_p6 (Keep.of_wr W10).1
  refine hst st10 ?_
  show F T10 (mkF m 11 #[.val (.long q1), .second, .val (.long q2), .second, .val (.long q3), .second, .val (.int p4), .val (.int p5), .val (.int p6), .unset, .unset, .unset, .unset, .unset, .unset, .unset, .unset, .unset, .unset] [(.ref b1)])
  refine hst (fun t k => XS.dup X10.here hx rfl (hb hby at_11) rfl rfl k) ?_
  show F T10 (mkF m 12 #[.val (.long q1), .second, .val (.long q2), .second, .val (.long q3), .second, .val (.int p4), .val (.int p5), .val (.int p6), .unset, .unset, .unset, .unset, .unset, .unset, .unset, .unset, .unset, .unset] [(.ref b1), (.ref b1)])
  refine hst (fun t k => XS.iconst X10.here hx rfl (hb hby at_12) k) ?_
  show F T10 (mkF m 13 #[.val (.long q1), .second, .val (.long q2), .second, .val (.long q3), .second, .val (.int p4), .val (.int p5), .val (.int p6), .unset, .unset, .unset, .unset, .unset, .unset, .unset, .unset, .unset, .unset] [(.int (2 : Int32)), (.ref b1), (.ref b1)])
  refine hst (fun t k => XS.lload X10.here hx rfl (hb hby at_13) rfl k) ?_
  show F T10 (mkF m 15 #[.val (.long q1), .second, .val (.long q2), .second, .val (.long q3), .second, .val (.int p4), .val (.int p5), .val (.int p6), .unset, .unset, .unset, .unset, .unset, .unset, .unset, .unset, .unset, .unset] [(.long q3), (.int (2 : Int32)), (.ref b1), (.ref b1)])
  obtain ⟨T15, h15, X15, e15, W15, st15⟩ := own_lastore X10 hx hZ e10 A_b1_p10 (by decide) (g := (mkF m 15 #[.val (.long q1), .second, .val (.long q2), .second, .val (.long q3), .second, .val (.int p4), .val (.int p5), .val (.int p6), .unset, .unset, .unset, .unset, .unset, .unset, .unset, .unset, .unset, .unset] [(.long q3), (.int (2 : Int32)), (.ref b1), (.ref b1)])) rfl rfl (hb hby at_15)
  have N15 := Fr.snoc X15 N10 ge_b1
  have A_b1_p15 : own_A Z h15 b1 .long 3 (fun i => if i = Int32.toNatClampNeg (2 : Int32) then (.long q3) else (fun i => if i = Int32.toNatClampNeg (1 : Int32) then (.long q2) else (fun i => if i = Int32.toNatClampNeg (0 : Int32) then (.long q1) else (fun _ => (.long (0 : Int64))) i) i) i) := A_b1_p10.set W15
  have Z0_p15 : n0 ≤ h15.size := Nat.le_trans Z0_p10 (Keep.of_wr W15).1
  refine hst st15 ?_
  have A_b1_p15c : own_A Z h15 b1 .long 3 (fun i => .long (own_w q1 q2 q3 i)) := own_A.congr A_b1_p15 (fun i hi => by rcases i with _ | _ | _ | i <;> first | rfl | omega)
  show F T15 (mkF m 16 #[.val (.long q1), .second, .val (.long q2), .second, .val (.long q3), .second, .val (.int p4), .val (.int p5), .val (.int p6), .unset, .unset, .unset, .unset, .unset, .unset, .unset, .unset, .unset, .unset] [(.ref b1)])
  refine hst (fun t k => XS.astore X15.here hx rfl (hb hby at_16) rfl rfl (l' := #[.val (.long q1), .second, .val (.long q2), .second, .val (.long q3), .second, .val (.int p4), .val (.int p5), .val (.int p6), .val (.ref b1), .unset, .unset, .unset, .unset, .unset, .unset, .unset, .unset, .unset]) rfl k) ?_
  show F T15 (mkF m 18 #[.val (.long q1), .second, .val (.long q2), .second, .val (.long q3), .second, .val (.int p4), .val (.int p5), .val (.int p6), .val (.ref b1), .unset, .unset, .unset, .unset, .unset, .unset, .unset, .unset, .unset] [])
  refine hst (fun t k => XS.iload X15.here hx rfl (hb hby at_18) rfl k) ?_
  show F T15 (mkF m 20 #[.val (.long q1), .second, .val (.long q2), .second, .val (.long q3), .second, .val (.int p4), .val (.int p5), .val (.int p6), .val (.ref b1), .unset, .unset, .unset, .unset, .unset, .unset, .unset, .unset, .unset] [(.int p4)])
  refine hst (fun t k => XS.bipush X15.here hx rfl (hb hby at_20) k) ?_
  show F T15 (mkF m 22 #[.val (.long q1), .second, .val (.long q2), .second, .val (.long q3), .second, .val (.int p4), .val (.int p5), .val (.int p6), .val (.ref b1), .unset, .unset, .unset, .unset, .unset, .unset, .unset, .unset, .unset] [(.int (127 : Int32)), (.int p4)])
  refine hst (fun t k => XS.iand X15.here hx rfl (hb hby at_22) rfl k) ?_
  show F T15 (mkF m 23 #[.val (.long q1), .second, .val (.long q2), .second, .val (.long q3), .second, .val (.int p4), .val (.int p5), .val (.int p6), .val (.ref b1), .unset, .unset, .unset, .unset, .unset, .unset, .unset, .unset, .unset] [(.int (p4 &&& (127 : Int32)))])
  generalize hav : (p4 &&& (127 : Int32)) = av
  show F T15 (mkF m 23 #[.val (.long q1), .second, .val (.long q2), .second, .val (.long q3), .second, .val (.int p4), .val (.int p5), .val (.int p6), .val (.ref b1), .unset, .unset, .unset, .unset, .unset, .unset, .unset, .unset, .unset] [(.int av)])
  obtain ⟨A, hA, hA2⟩ : ∃ A : Nat, av.toInt = A ∧ A < 128 := by
    have := c_mask p4 127 7 (by decide) (by decide); rw [hav] at this; exact ⟨av.toInt.toNat, by omega, by omega⟩
  refine hst (fun t k => XS.istore X15.here hx rfl (hb hby at_23) rfl (l' := #[.val (.long q1), .second, .val (.long q2), .second, .val (.long q3), .second, .val (.int p4), .val (.int p5), .val (.int p6), .val (.ref b1), .val (.int av), .unset, .unset, .unset, .unset, .unset, .unset, .unset, .unset]) rfl k) ?_
  show F T15 (mkF m 25 #[.val (.long q1), .second, .val (.long q2), .second, .val (.long q3), .second, .val (.int p4), .val (.int p5), .val (.int p6), .val (.ref b1), .val (.int av), .unset, .unset, .unset, .unset, .unset, .unset, .unset, .unset] [])
  refine hst (fun t k => XS.iload X15.here hx rfl (hb hby at_25) rfl k) ?_
  show F T15 (mkF m 27 #[.val (.long q1), .second, .val (.long q2), .second, .val (.long q3), .second, .val (.int p4), .val (.int p5), .val (.int p6), .val (.ref b1), .val (.int av), .unset, .unset, .unset, .unset, .unset, .unset, .unset, .unset] [(.int p5)])
  refine hst (fun t k => X15.ldcI hx hown (mvT hZ (hw _ (List.mem_of_getElem? (i := 1) rfl))) (g := (mkF m 27 #[.val (.long q1), .second, .val (.long q2), .second, .val (.long q3), .second, .val (.int p4), .val (.int p5), .val (.int p6), .val (.ref b1), .val (.int av), .unset, .unset, .unset, .unset, .unset, .unset, .unset, .unset] [(.int p5)])) rfl (hb hby at_27) k) ?_
  show F T15 (mkF m 29 #[.val (.long q1), .second, .val (.long q2), .second, .val (.long q3), .second, .val (.int p4), .val (.int p5), .val (.int p6), .val (.ref b1), .val (.int av), .unset, .unset, .unset, .unset, .unset, .unset, .unset, .unset] [(.int (2147483647 : Int32)), (.int p5)])
  refine hst (fun t k => XS.iand X15.here hx rfl (hb hby at_29) rfl k) ?_
  show F T15 (mkF m 30 #[.val (.long q1), .second, .val (.long q2), .second, .val (.long q3), .second, .val (.int p4), .val (.int p5), .val (.int p6), .val (.ref b1), .val (.int av), .unset, .unset, .unset, .unset, .unset, .unset, .unset, .unset] [(.int (p5 &&& (2147483647 : Int32)))])
  refine hst (fun t k => XS.bipush X15.here hx rfl (hb hby at_30) k) ?_
  show F T15 (mkF m 32 #[.val (.long q1), .second, .val (.long q2), .second, .val (.long q3), .second, .val (.int p4), .val (.int p5), .val (.int p6), .val (.ref b1), .val (.int av), .unset, .unset, .unset, .unset, .unset, .unset, .unset, .unset] [(.int (65 : Int32)), (.int (p5 &&& (2147483647 : Int32)))])
  refine hst (fun t k => iremM X15 hx rfl (hb hby at_32) rfl (by decide) k) ?_
  show F T15 (mkF m 33 #[.val (.long q1), .second, .val (.long q2), .second, .val (.long q3), .second, .val (.int p4), .val (.int p5), .val (.int p6), .val (.ref b1), .val (.int av), .unset, .unset, .unset, .unset, .unset, .unset, .unset, .unset] [(.int ((p5 &&& (2147483647 : Int32)) % (65 : Int32)))])
  generalize hcv : ((p5 &&& (2147483647 : Int32)) % (65 : Int32)) = cv
  show F T15 (mkF m 33 #[.val (.long q1), .second, .val (.long q2), .second, .val (.long q3), .second, .val (.int p4), .val (.int p5), .val (.int p6), .val (.ref b1), .val (.int av), .unset, .unset, .unset, .unset, .unset, .unset, .unset, .unset] [(.int cv)])
  obtain ⟨c0, hC, hC2⟩ : ∃ c0 : Nat, cv.toInt = c0 ∧ c0 ≤ 64 := by
    have h1 := c_mask p5 2147483647 31 (by decide) (by decide); have h2 := (c_irem (p5 &&& 2147483647) 65 65 (by decide)).1 (by omega); rw [hcv] at h2; exact ⟨cv.toInt.toNat, by omega, by omega⟩
  refine hst (fun t k => XS.istore X15.here hx rfl (hb hby at_33) rfl (l' := #[.val (.long q1), .second, .val (.long q2), .second, .val (.long q3), .second, .val (.int p4), .val (.int p5), .val (.int p6), .val (.ref b1), .val (.int av), .val (.int cv), .unset, .unset, .unset, .unset, .unset, .unset, .unset]) rfl k) ?_
  show F T15 (mkF m 35 #[.val (.long q1), .second, .val (.long q2), .second, .val (.long q3), .second, .val (.int p4), .val (.int p5), .val (.int p6), .val (.ref b1), .val (.int av), .val (.int cv), .unset, .unset, .unset, .unset, .unset, .unset, .unset] [])
  refine hst (fun t k => XS.iload X15.here hx rfl (hb hby at_35) rfl k) ?_
  show F T15 (mkF m 37 #[.val (.long q1), .second, .val (.long q2), .second, .val (.long q3), .second, .val (.int p4), .val (.int p5), .val (.int p6), .val (.ref b1), .val (.int av), .val (.int cv), .unset, .unset, .unset, .unset, .unset, .unset, .unset] [(.int p6)])
  refine hst (fun t k => XS.bipush X15.here hx rfl (hb hby at_37) k) ?_
  show F T15 (mkF m 39 #[.val (.long q1), .second, .val (.long q2), .second, .val (.long q3), .second, .val (.int p4), .val (.int p5), .val (.int p6), .val (.ref b1), .val (.int av), .val (.int cv), .unset, .unset, .unset, .unset, .unset, .unset, .unset] [(.int (63 : Int32)), (.int p6)])
  refine hst (fun t k => XS.iand X15.here hx rfl (hb hby at_39) rfl k) ?_
  show F T15 (mkF m 40 #[.val (.long q1), .second, .val (.long q2), .second, .val (.long q3), .second, .val (.int p4), .val (.int p5), .val (.int p6), .val (.ref b1), .val (.int av), .val (.int cv), .unset, .unset, .unset, .unset, .unset, .unset, .unset] [(.int (p6 &&& (63 : Int32)))])
  generalize hjv : (p6 &&& (63 : Int32)) = jv
  show F T15 (mkF m 40 #[.val (.long q1), .second, .val (.long q2), .second, .val (.long q3), .second, .val (.int p4), .val (.int p5), .val (.int p6), .val (.ref b1), .val (.int av), .val (.int cv), .unset, .unset, .unset, .unset, .unset, .unset, .unset] [(.int jv)])
  obtain ⟨j, hJ, hJ2⟩ : ∃ j : Nat, jv.toInt = j ∧ j < 64 := by
    have := c_mask p6 63 6 (by decide) (by decide); rw [hjv] at this; exact ⟨jv.toInt.toNat, by omega, by omega⟩
  refine hst (fun t k => XS.istore X15.here hx rfl (hb hby at_40) rfl (l' := #[.val (.long q1), .second, .val (.long q2), .second, .val (.long q3), .second, .val (.int p4), .val (.int p5), .val (.int p6), .val (.ref b1), .val (.int av), .val (.int cv), .val (.int jv), .unset, .unset, .unset, .unset, .unset, .unset]) rfl k) ?_
  show F T15 (mkF m 42 #[.val (.long q1), .second, .val (.long q2), .second, .val (.long q3), .second, .val (.int p4), .val (.int p5), .val (.int p6), .val (.ref b1), .val (.int av), .val (.int cv), .val (.int jv), .unset, .unset, .unset, .unset, .unset, .unset] [])
  refine hst (fun t k => XS.aload X15.here hx rfl (hb hby at_42) rfl rfl k) ?_
  show F T15 (mkF m 44 #[.val (.long q1), .second, .val (.long q2), .second, .val (.long q3), .second, .val (.int p4), .val (.int p5), .val (.int p6), .val (.ref b1), .val (.int av), .val (.int cv), .val (.int jv), .unset, .unset, .unset, .unset, .unset, .unset] [(.ref b1)])
  refine hst (fun t k => XS.iload X15.here hx rfl (hb hby at_44) rfl k) ?_
  show F T15 (mkF m 46 #[.val (.long q1), .second, .val (.long q2), .second, .val (.long q3), .second, .val (.int p4), .val (.int p5), .val (.int p6), .val (.ref b1), .val (.int av), .val (.int cv), .val (.int jv), .unset, .unset, .unset, .unset, .unset, .unset] [(.int av), (.ref b1)])
  refine hst (fun t k => XS.iload X15.here hx rfl (hb hby at_46) rfl k) ?_
  show F T15 (mkF m 48 #[.val (.long q1), .second, .val (.long q2), .second, .val (.long q3), .second, .val (.int p4), .val (.int p5), .val (.int p6), .val (.ref b1), .val (.int av), .val (.int cv), .val (.int jv), .unset, .unset, .unset, .unset, .unset, .unset] [(.int cv), (.int av), (.ref b1)])
  obtain ⟨v48, T48, Lc48, X48, hQ48, st48⟩ := own_callS X15 hx hZ hown (y := (⟨"com/example/censo/censo/compact/BitFields", "read", "([JII)J"⟩ : MethodName)) (hw _ (List.mem_of_getElem? (i := 2) rfl)) (hw _ (List.mem_of_getElem? (i := 3) rfl)) (hw _ (List.mem_of_getElem? (i := 4) rfl)) (hw _ (List.mem_of_getElem? (i := 5) rfl)) (by decide) e15 (rm1 l Z a0 hw [] b1 av cv q1 q2 q3 A c0 h15 n0 Z0_p15 A_b1_p15c (by assumption) (by assumption) (by assumption) (by assumption)) (by decide) (by decide) (g := (mkF m 48 #[.val (.long q1), .second, .val (.long q2), .second, .val (.long q3), .second, .val (.int p4), .val (.int p5), .val (.int p6), .val (.ref b1), .val (.int av), .val (.int cv), .val (.int jv), .unset, .unset, .unset, .unset, .unset, .unset] [(.int cv), (.int av), (.ref b1)])) rfl (by rw [hml]; rfl) (argsL := [(.ref b1), (.int av), (.int cv)]) (rest := []) (lenOf pd_1 rfl) rfl rfl (W := 0) (by show 2 * 0 + _ ≤ _; exact Nat.le_of_eq rfl) (hb hby at_48) (by decide) (by decide)
  obtain ⟨r48, rfl, Nq48, he48, hbits_48⟩ := hQ48
  have N48 := Fr.app N15 Nq48
  refine hst st48 ?_
  show F T48 (mkF m 51 #[.val (.long q1), .second, .val (.long q2), .second, .val (.long q3), .second, .val (.int p4), .val (.int p5), .val (.int p6), .val (.ref b1), .val (.int av), .val (.int cv), .val (.int jv), .unset, .unset, .unset, .unset, .unset, .unset] [(.long r48)])
  refine hst (fun t k => XS.lstore X48.here hx rfl (hb hby at_51) rfl (l' := #[.val (.long q1), .second, .val (.long q2), .second, .val (.long q3), .second, .val (.int p4), .val (.int p5), .val (.int p6), .val (.ref b1), .val (.int av), .val (.int cv), .val (.int jv), .val (.long r48), .second, .unset, .unset, .unset, .unset]) rfl k) ?_
  show F T48 (mkF m 53 #[.val (.long q1), .second, .val (.long q2), .second, .val (.long q3), .second, .val (.int p4), .val (.int p5), .val (.int p6), .val (.ref b1), .val (.int av), .val (.int cv), .val (.int jv), .val (.long r48), .second, .unset, .unset, .unset, .unset] [])
  refine hst (fun t k => XS.lload X48.here hx rfl (hb hby at_53) rfl k) ?_
  show F T48 (mkF m 55 #[.val (.long q1), .second, .val (.long q2), .second, .val (.long q3), .second, .val (.int p4), .val (.int p5), .val (.int p6), .val (.ref b1), .val (.int av), .val (.int cv), .val (.int jv), .val (.long r48), .second, .unset, .unset, .unset, .unset] [(.long r48)])
  refine hst (fun t k => XS.iload X48.here hx rfl (hb hby at_55) rfl k) ?_
  show F T48 (mkF m 57 #[.val (.long q1), .second, .val (.long q2), .second, .val (.long q3), .second, .val (.int p4), .val (.int p5), .val (.int p6), .val (.ref b1), .val (.int av), .val (.int cv), .val (.int jv), .val (.long r48), .second, .unset, .unset, .unset, .unset] [(.int jv), (.long r48)])
  refine hst (fun t k => XS.lushr X48.here hx rfl (hb hby at_57) rfl k) ?_
  show F T48 (mkF m 58 #[.val (.long q1), .second, .val (.long q2), .second, .val (.long q3), .second, .val (.int p4), .val (.int p5), .val (.int p6), .val (.ref b1), .val (.int av), .val (.int cv), .val (.int jv), .val (.long r48), .second, .unset, .unset, .unset, .unset] [(.long ((r48.toUInt64 >>> (jv &&& 0x3f).toInt64.toUInt64).toInt64))])
  refine hst (fun t k => XS.lconst X48.here hx rfl (hb hby at_58) k) ?_
  show F T48 (mkF m 59 #[.val (.long q1), .second, .val (.long q2), .second, .val (.long q3), .second, .val (.int p4), .val (.int p5), .val (.int p6), .val (.ref b1), .val (.int av), .val (.int cv), .val (.int jv), .val (.long r48), .second, .unset, .unset, .unset, .unset] [(.long (1 : Int64)), (.long ((r48.toUInt64 >>> (jv &&& 0x3f).toInt64.toUInt64).toInt64))])
  refine hst (fun t k => XS.land X48.here hx rfl (hb hby at_59) rfl k) ?_
  show F T48 (mkF m 60 #[.val (.long q1), .second, .val (.long q2), .second, .val (.long q3), .second, .val (.int p4), .val (.int p5), .val (.int p6), .val (.ref b1), .val (.int av), .val (.int cv), .val (.int jv), .val (.long r48), .second, .unset, .unset, .unset, .unset] [(.long (((r48.toUInt64 >>> (jv &&& 0x3f).toInt64.toUInt64).toInt64) &&& (1 : Int64)))])
  generalize hgb : (((r48.toUInt64 >>> (jv &&& 0x3f).toInt64.toUInt64).toInt64) &&& (1 : Int64)) = gb
  show F T48 (mkF m 60 #[.val (.long q1), .second, .val (.long q2), .second, .val (.long q3), .second, .val (.int p4), .val (.int p5), .val (.int p6), .val (.ref b1), .val (.int av), .val (.int cv), .val (.int jv), .val (.long r48), .second, .unset, .unset, .unset, .unset] [(.long gb)])
  have kgb : gb = if r48.toBitVec.getLsbD j then 1 else 0 := by rw [← hgb]; exact own_one _ jv j hJ hJ2
  rw [hbits_48 j hJ2] at kgb
  refine hst (fun t k => XS.lstore X48.here hx rfl (hb hby at_60) rfl (l' := #[.val (.long q1), .second, .val (.long q2), .second, .val (.long q3), .second, .val (.int p4), .val (.int p5), .val (.int p6), .val (.ref b1), .val (.int av), .val (.int cv), .val (.int jv), .val (.long r48), .second, .val (.long gb), .second, .unset, .unset]) rfl k) ?_
  show F T48 (mkF m 62 #[.val (.long q1), .second, .val (.long q2), .second, .val (.long q3), .second, .val (.int p4), .val (.int p5), .val (.int p6), .val (.ref b1), .val (.int av), .val (.int cv), .val (.int jv), .val (.long r48), .second, .val (.long gb), .second, .unset, .unset] [])
  refine hst (fun t k => XS.iload X48.here hx rfl (hb hby at_62) rfl k) ?_
  show F T48 (mkF m 64 #[.val (.long q1), .second, .val (.long q2), .second, .val (.long q3), .second, .val (.int p4), .val (.int p5), .val (.int p6), .val (.ref b1), .val (.int av), .val (.int cv), .val (.int jv), .val (.long r48), .second, .val (.long gb), .second, .unset, .unset] [(.int jv)])
  refine hst (fun t k => XS.iload X48.here hx rfl (hb hby at_64) rfl k) ?_
  show F T48 (mkF m 66 #[.val (.long q1), .second, .val (.long q2), .second, .val (.long q3), .second, .val (.int p4), .val (.int p5), .val (.int p6), .val (.ref b1), .val (.int av), .val (.int cv), .val (.int jv), .val (.long r48), .second, .val (.long gb), .second, .unset, .unset] [(.int cv), (.int jv)])
  by_cases hc66 : jv < cv
  · -- pc 66: not taken
    refine hst (fun t k => XS.icmpNo X48.here hx rfl (hb hby at_66) rfl (tlt hc66).2.1 k) ?_
    show F T48 (mkF m 69 #[.val (.long q1), .second, .val (.long q2), .second, .val (.long q3), .second, .val (.int p4), .val (.int p5), .val (.int p6), .val (.ref b1), .val (.int av), .val (.int cv), .val (.int jv), .val (.long r48), .second, .val (.long gb), .second, .unset, .unset] [])
    have q66 : j < c0 := by rw [Int32.lt_iff_toInt_lt] at hc66; omega
    refine hst (fun t k => XS.lloadN X48.here hx rfl (hb hby at_69) rfl k) ?_
    show F T48 (mkF m 70 #[.val (.long q1), .second, .val (.long q2), .second, .val (.long q3), .second, .val (.int p4), .val (.int p5), .val (.int p6), .val (.ref b1), .val (.int av), .val (.int cv), .val (.int jv), .val (.long r48), .second, .val (.long gb), .second, .unset, .unset] [(.long q1)])
    refine hst (fun t k => XS.lloadN X48.here hx rfl (hb hby at_70) rfl k) ?_
    show F T48 (mkF m 71 #[.val (.long q1), .second, .val (.long q2), .second, .val (.long q3), .second, .val (.int p4), .val (.int p5), .val (.int p6), .val (.ref b1), .val (.int av), .val (.int cv), .val (.int jv), .val (.long r48), .second, .val (.long gb), .second, .unset, .unset] [(.long q2), (.long q1)])
    refine hst (fun t k => XS.lload X48.here hx rfl (hb hby at_71) rfl k) ?_
    show F T48 (mkF m 73 #[.val (.long q1), .second, .val (.long q2), .second, .val (.long q3), .second, .val (.int p4), .val (.int p5), .val (.int p6), .val (.ref b1), .val (.int av), .val (.int cv), .val (.int jv), .val (.long r48), .second, .val (.long gb), .second, .unset, .unset] [(.long q3), (.long q2), (.long q1)])
    refine hst (fun t k => XS.iload X48.here hx rfl (hb hby at_73) rfl k) ?_
    show F T48 (mkF m 75 #[.val (.long q1), .second, .val (.long q2), .second, .val (.long q3), .second, .val (.int p4), .val (.int p5), .val (.int p6), .val (.ref b1), .val (.int av), .val (.int cv), .val (.int jv), .val (.long r48), .second, .val (.long gb), .second, .unset, .unset] [(.int av), (.long q3), (.long q2), (.long q1)])
    refine hst (fun t k => XS.iload X48.here hx rfl (hb hby at_75) rfl k) ?_
    show F T48 (mkF m 77 #[.val (.long q1), .second, .val (.long q2), .second, .val (.long q3), .second, .val (.int p4), .val (.int p5), .val (.int p6), .val (.ref b1), .val (.int av), .val (.int cv), .val (.int jv), .val (.long r48), .second, .val (.long gb), .second, .unset, .unset] [(.int jv), (.int av), (.long q3), (.long q2), (.long q1)])
    refine hst (fun t k => XS.iadd X48.here hx rfl (hb hby at_77) rfl k) ?_
    show F T48 (mkF m 78 #[.val (.long q1), .second, .val (.long q2), .second, .val (.long q3), .second, .val (.int p4), .val (.int p5), .val (.int p6), .val (.ref b1), .val (.int av), .val (.int cv), .val (.int jv), .val (.long r48), .second, .val (.long gb), .second, .unset, .unset] [(.int (av + jv)), (.long q3), (.long q2), (.long q1)])
    generalize hpv : (av + jv) = pv
    show F T48 (mkF m 78 #[.val (.long q1), .second, .val (.long q2), .second, .val (.long q3), .second, .val (.int p4), .val (.int p5), .val (.int p6), .val (.ref b1), .val (.int av), .val (.int cv), .val (.int jv), .val (.long r48), .second, .val (.long gb), .second, .unset, .unset] [(.int pv), (.long q3), (.long q2), (.long q1)])
    have hB : pv.toInt = ((A + j : Nat) : Int) := by have h1 := c_iadd av jv; have h2 := rng32 pv; rw [hpv] at h1; omega
    obtain ⟨v78, T78, Lc78, X78, hQ78, st78⟩ := own_callS X48 hx hZ hown (y := (⟨"com/example/censo/censo/compact/BitFieldsReadPinLaw", "bitOf", "(JJJI)J"⟩ : MethodName)) (hw _ (List.mem_of_getElem? (i := 6) rfl)) (hw _ (List.mem_of_getElem? (i := 7) rfl)) (hw _ (List.mem_of_getElem? (i := 8) rfl)) (hw _ (List.mem_of_getElem? (i := 9) rfl)) (by decide) he48 (rm2 l Z a0 hw [] q1 q2 q3 pv (A + j) h15 n0 Z0_p15 hB (by omega)) (by decide) (by decide) (g := (mkF m 78 #[.val (.long q1), .second, .val (.long q2), .second, .val (.long q3), .second, .val (.int p4), .val (.int p5), .val (.int p6), .val (.ref b1), .val (.int av), .val (.int cv), .val (.int jv), .val (.long r48), .second, .val (.long gb), .second, .unset, .unset] [(.int pv), (.long q3), (.long q2), (.long q1)])) rfl (by rw [hml]; rfl) (argsL := [(.long q1), (.long q2), (.long q3), (.int pv)]) (rest := []) (lenOf pd_0 rfl) rfl rfl (W := 0) (by show 2 * 0 + _ ≤ _; exact Nat.le_of_eq rfl) (hb hby at_78) (by decide) (by decide)
    obtain ⟨rfl, Nq78, he78⟩ := hQ78
    have N78 := Fr.app N48 Nq78
    refine hst st78 ?_
    show F T78 (mkF m 81 #[.val (.long q1), .second, .val (.long q2), .second, .val (.long q3), .second, .val (.int p4), .val (.int p5), .val (.int p6), .val (.ref b1), .val (.int av), .val (.int cv), .val (.int jv), .val (.long r48), .second, .val (.long gb), .second, .unset, .unset] [(.long (if own_wb q1 q2 q3 (A + j) then 1 else 0))])
    have key : gb = (if own_wb q1 q2 q3 (A + j) then 1 else 0) := by rw [kgb]; simp [q66]
    refine hst (fun t k => XS.lstore X78.here hx rfl (hb hby at_81) rfl (l' := #[.val (.long q1), .second, .val (.long q2), .second, .val (.long q3), .second, .val (.int p4), .val (.int p5), .val (.int p6), .val (.ref b1), .val (.int av), .val (.int cv), .val (.int jv), .val (.long r48), .second, .val (.long gb), .second, .val (.long (if own_wb q1 q2 q3 (A + j) then 1 else 0)), .second]) rfl k) ?_
    show F T78 (mkF m 83 #[.val (.long q1), .second, .val (.long q2), .second, .val (.long q3), .second, .val (.int p4), .val (.int p5), .val (.int p6), .val (.ref b1), .val (.int av), .val (.int cv), .val (.int jv), .val (.long r48), .second, .val (.long gb), .second, .val (.long (if own_wb q1 q2 q3 (A + j) then 1 else 0)), .second] [])
    refine hst (fun t k => XS.goto X78.here hx rfl (pc0 := 83) (pc' := 89) rfl (hb hby at_83) (by decide) (by decide) k) ?_
    show F T78 (mkF m 89 #[.val (.long q1), .second, .val (.long q2), .second, .val (.long q3), .second, .val (.int p4), .val (.int p5), .val (.int p6), .val (.ref b1), .val (.int av), .val (.int cv), .val (.int jv), .val (.long r48), .second, .val (.long gb), .second, .val (.long (if own_wb q1 q2 q3 (A + j) then 1 else 0)), .second] [])
    refine hst (fun t k => XS.lload X78.here hx rfl (hb hby at_89) rfl k) ?_
    show F T78 (mkF m 91 #[.val (.long q1), .second, .val (.long q2), .second, .val (.long q3), .second, .val (.int p4), .val (.int p5), .val (.int p6), .val (.ref b1), .val (.int av), .val (.int cv), .val (.int jv), .val (.long r48), .second, .val (.long gb), .second, .val (.long (if own_wb q1 q2 q3 (A + j) then 1 else 0)), .second] [(.long gb)])
    refine hst (fun t k => XS.lload X78.here hx rfl (hb hby at_91) rfl k) ?_
    show F T78 (mkF m 93 #[.val (.long q1), .second, .val (.long q2), .second, .val (.long q3), .second, .val (.int p4), .val (.int p5), .val (.int p6), .val (.ref b1), .val (.int av), .val (.int cv), .val (.int jv), .val (.long r48), .second, .val (.long gb), .second, .val (.long (if own_wb q1 q2 q3 (A + j) then 1 else 0)), .second] [(.long (if own_wb q1 q2 q3 (A + j) then 1 else 0)), (.long gb)])
    refine hst (fun t k => XS.lcmp X78.here hx rfl (hb hby at_93) rfl k) ?_
    show F T78 (mkF m 94 #[.val (.long q1), .second, .val (.long q2), .second, .val (.long q3), .second, .val (.int p4), .val (.int p5), .val (.int p6), .val (.ref b1), .val (.int av), .val (.int cv), .val (.int jv), .val (.long r48), .second, .val (.long gb), .second, .val (.long (if own_wb q1 q2 q3 (A + j) then 1 else 0)), .second] [(.int (lcmpW gb (if own_wb q1 q2 q3 (A + j) then 1 else 0)))])
    refine hst (fun t k => XS.ifNo X78.here hx rfl (hb hby at_94) rfl ((if0 _ _).trans (teq ((lw_eq _ _).mpr key)).2) k) ?_
    show F T78 (mkF m 97 #[.val (.long q1), .second, .val (.long q2), .second, .val (.long q3), .second, .val (.int p4), .val (.int p5), .val (.int p6), .val (.ref b1), .val (.int av), .val (.int cv), .val (.int jv), .val (.long r48), .second, .val (.long gb), .second, .val (.long (if own_wb q1 q2 q3 (A + j) then 1 else 0)), .second] [])
    refine hst (fun t k => XS.aload X78.here hx rfl (hb hby at_97) rfl rfl k) ?_
    show F T78 (mkF m 99 #[.val (.long q1), .second, .val (.long q2), .second, .val (.long q3), .second, .val (.int p4), .val (.int p5), .val (.int p6), .val (.ref b1), .val (.int av), .val (.int cv), .val (.int jv), .val (.long r48), .second, .val (.long gb), .second, .val (.long (if own_wb q1 q2 q3 (A + j) then 1 else 0)), .second] [(.ref b1)])
    refine hst (fun t k => XS.iconst X78.here hx rfl (hb hby at_99) k) ?_
    show F T78 (mkF m 100 #[.val (.long q1), .second, .val (.long q2), .second, .val (.long q3), .second, .val (.int p4), .val (.int p5), .val (.int p6), .val (.ref b1), .val (.int av), .val (.int cv), .val (.int jv), .val (.long r48), .second, .val (.long gb), .second, .val (.long (if own_wb q1 q2 q3 (A + j) then 1 else 0)), .second] [(.int (0 : Int32)), (.ref b1)])
    refine hst (fun t k => own_laload X78 hx hZ he78 A_b1_p15c (by decide) (v := (.long q1)) rfl (g := (mkF m 100 #[.val (.long q1), .second, .val (.long q2), .second, .val (.long q3), .second, .val (.int p4), .val (.int p5), .val (.int p6), .val (.ref b1), .val (.int av), .val (.int cv), .val (.int jv), .val (.long r48), .second, .val (.long gb), .second, .val (.long (if own_wb q1 q2 q3 (A + j) then 1 else 0)), .second] [(.int (0 : Int32)), (.ref b1)])) rfl rfl (hb hby at_100) t k) ?_
    show F T78 (mkF m 101 #[.val (.long q1), .second, .val (.long q2), .second, .val (.long q3), .second, .val (.int p4), .val (.int p5), .val (.int p6), .val (.ref b1), .val (.int av), .val (.int cv), .val (.int jv), .val (.long r48), .second, .val (.long gb), .second, .val (.long (if own_wb q1 q2 q3 (A + j) then 1 else 0)), .second] [(.long q1)])
    refine hst (fun t k => XS.lloadN X78.here hx rfl (hb hby at_101) rfl k) ?_
    show F T78 (mkF m 102 #[.val (.long q1), .second, .val (.long q2), .second, .val (.long q3), .second, .val (.int p4), .val (.int p5), .val (.int p6), .val (.ref b1), .val (.int av), .val (.int cv), .val (.int jv), .val (.long r48), .second, .val (.long gb), .second, .val (.long (if own_wb q1 q2 q3 (A + j) then 1 else 0)), .second] [(.long q1), (.long q1)])
    refine hst (fun t k => XS.lcmp X78.here hx rfl (hb hby at_102) rfl k) ?_
    show F T78 (mkF m 103 #[.val (.long q1), .second, .val (.long q2), .second, .val (.long q3), .second, .val (.int p4), .val (.int p5), .val (.int p6), .val (.ref b1), .val (.int av), .val (.int cv), .val (.int jv), .val (.long r48), .second, .val (.long gb), .second, .val (.long (if own_wb q1 q2 q3 (A + j) then 1 else 0)), .second] [(.int (lcmpW q1 q1))])
    refine hst (fun t k => XS.ifNo X78.here hx rfl (hb hby at_103) rfl ((if0 _ _).trans (teq ((lw_eq _ _).mpr rfl)).2) k) ?_
    show F T78 (mkF m 106 #[.val (.long q1), .second, .val (.long q2), .second, .val (.long q3), .second, .val (.int p4), .val (.int p5), .val (.int p6), .val (.ref b1), .val (.int av), .val (.int cv), .val (.int jv), .val (.long r48), .second, .val (.long gb), .second, .val (.long (if own_wb q1 q2 q3 (A + j) then 1 else 0)), .second] [])
    refine hst (fun t k => XS.aload X78.here hx rfl (hb hby at_106) rfl rfl k) ?_
    show F T78 (mkF m 108 #[.val (.long q1), .second, .val (.long q2), .second, .val (.long q3), .second, .val (.int p4), .val (.int p5), .val (.int p6), .val (.ref b1), .val (.int av), .val (.int cv), .val (.int jv), .val (.long r48), .second, .val (.long gb), .second, .val (.long (if own_wb q1 q2 q3 (A + j) then 1 else 0)), .second] [(.ref b1)])
    refine hst (fun t k => XS.iconst X78.here hx rfl (hb hby at_108) k) ?_
    show F T78 (mkF m 109 #[.val (.long q1), .second, .val (.long q2), .second, .val (.long q3), .second, .val (.int p4), .val (.int p5), .val (.int p6), .val (.ref b1), .val (.int av), .val (.int cv), .val (.int jv), .val (.long r48), .second, .val (.long gb), .second, .val (.long (if own_wb q1 q2 q3 (A + j) then 1 else 0)), .second] [(.int (1 : Int32)), (.ref b1)])
    refine hst (fun t k => own_laload X78 hx hZ he78 A_b1_p15c (by decide) (v := (.long q2)) rfl (g := (mkF m 109 #[.val (.long q1), .second, .val (.long q2), .second, .val (.long q3), .second, .val (.int p4), .val (.int p5), .val (.int p6), .val (.ref b1), .val (.int av), .val (.int cv), .val (.int jv), .val (.long r48), .second, .val (.long gb), .second, .val (.long (if own_wb q1 q2 q3 (A + j) then 1 else 0)), .second] [(.int (1 : Int32)), (.ref b1)])) rfl rfl (hb hby at_109) t k) ?_
    show F T78 (mkF m 110 #[.val (.long q1), .second, .val (.long q2), .second, .val (.long q3), .second, .val (.int p4), .val (.int p5), .val (.int p6), .val (.ref b1), .val (.int av), .val (.int cv), .val (.int jv), .val (.long r48), .second, .val (.long gb), .second, .val (.long (if own_wb q1 q2 q3 (A + j) then 1 else 0)), .second] [(.long q2)])
    refine hst (fun t k => XS.lloadN X78.here hx rfl (hb hby at_110) rfl k) ?_
    show F T78 (mkF m 111 #[.val (.long q1), .second, .val (.long q2), .second, .val (.long q3), .second, .val (.int p4), .val (.int p5), .val (.int p6), .val (.ref b1), .val (.int av), .val (.int cv), .val (.int jv), .val (.long r48), .second, .val (.long gb), .second, .val (.long (if own_wb q1 q2 q3 (A + j) then 1 else 0)), .second] [(.long q2), (.long q2)])
    refine hst (fun t k => XS.lcmp X78.here hx rfl (hb hby at_111) rfl k) ?_
    show F T78 (mkF m 112 #[.val (.long q1), .second, .val (.long q2), .second, .val (.long q3), .second, .val (.int p4), .val (.int p5), .val (.int p6), .val (.ref b1), .val (.int av), .val (.int cv), .val (.int jv), .val (.long r48), .second, .val (.long gb), .second, .val (.long (if own_wb q1 q2 q3 (A + j) then 1 else 0)), .second] [(.int (lcmpW q2 q2))])
    refine hst (fun t k => XS.ifNo X78.here hx rfl (hb hby at_112) rfl ((if0 _ _).trans (teq ((lw_eq _ _).mpr rfl)).2) k) ?_
    show F T78 (mkF m 115 #[.val (.long q1), .second, .val (.long q2), .second, .val (.long q3), .second, .val (.int p4), .val (.int p5), .val (.int p6), .val (.ref b1), .val (.int av), .val (.int cv), .val (.int jv), .val (.long r48), .second, .val (.long gb), .second, .val (.long (if own_wb q1 q2 q3 (A + j) then 1 else 0)), .second] [])
    refine hst (fun t k => XS.aload X78.here hx rfl (hb hby at_115) rfl rfl k) ?_
    show F T78 (mkF m 117 #[.val (.long q1), .second, .val (.long q2), .second, .val (.long q3), .second, .val (.int p4), .val (.int p5), .val (.int p6), .val (.ref b1), .val (.int av), .val (.int cv), .val (.int jv), .val (.long r48), .second, .val (.long gb), .second, .val (.long (if own_wb q1 q2 q3 (A + j) then 1 else 0)), .second] [(.ref b1)])
    refine hst (fun t k => XS.iconst X78.here hx rfl (hb hby at_117) k) ?_
    show F T78 (mkF m 118 #[.val (.long q1), .second, .val (.long q2), .second, .val (.long q3), .second, .val (.int p4), .val (.int p5), .val (.int p6), .val (.ref b1), .val (.int av), .val (.int cv), .val (.int jv), .val (.long r48), .second, .val (.long gb), .second, .val (.long (if own_wb q1 q2 q3 (A + j) then 1 else 0)), .second] [(.int (2 : Int32)), (.ref b1)])
    refine hst (fun t k => own_laload X78 hx hZ he78 A_b1_p15c (by decide) (v := (.long q3)) rfl (g := (mkF m 118 #[.val (.long q1), .second, .val (.long q2), .second, .val (.long q3), .second, .val (.int p4), .val (.int p5), .val (.int p6), .val (.ref b1), .val (.int av), .val (.int cv), .val (.int jv), .val (.long r48), .second, .val (.long gb), .second, .val (.long (if own_wb q1 q2 q3 (A + j) then 1 else 0)), .second] [(.int (2 : Int32)), (.ref b1)])) rfl rfl (hb hby at_118) t k) ?_
    show F T78 (mkF m 119 #[.val (.long q1), .second, .val (.long q2), .second, .val (.long q3), .second, .val (.int p4), .val (.int p5), .val (.int p6), .val (.ref b1), .val (.int av), .val (.int cv), .val (.int jv), .val (.long r48), .second, .val (.long gb), .second, .val (.long (if own_wb q1 q2 q3 (A + j) then 1 else 0)), .second] [(.long q3)])
    refine hst (fun t k => XS.lload X78.here hx rfl (hb hby at_119) rfl k) ?_
    show F T78 (mkF m 121 #[.val (.long q1), .second, .val (.long q2), .second, .val (.long q3), .second, .val (.int p4), .val (.int p5), .val (.int p6), .val (.ref b1), .val (.int av), .val (.int cv), .val (.int jv), .val (.long r48), .second, .val (.long gb), .second, .val (.long (if own_wb q1 q2 q3 (A + j) then 1 else 0)), .second] [(.long q3), (.long q3)])
    refine hst (fun t k => XS.lcmp X78.here hx rfl (hb hby at_121) rfl k) ?_
    show F T78 (mkF m 122 #[.val (.long q1), .second, .val (.long q2), .second, .val (.long q3), .second, .val (.int p4), .val (.int p5), .val (.int p6), .val (.ref b1), .val (.int av), .val (.int cv), .val (.int jv), .val (.long r48), .second, .val (.long gb), .second, .val (.long (if own_wb q1 q2 q3 (A + j) then 1 else 0)), .second] [(.int (lcmpW q3 q3))])
    refine hst (fun t k => XS.ifNo X78.here hx rfl (hb hby at_122) rfl ((if0 _ _).trans (teq ((lw_eq _ _).mpr rfl)).2) k) ?_
    show F T78 (mkF m 125 #[.val (.long q1), .second, .val (.long q2), .second, .val (.long q3), .second, .val (.int p4), .val (.int p5), .val (.int p6), .val (.ref b1), .val (.int av), .val (.int cv), .val (.int jv), .val (.long r48), .second, .val (.long gb), .second, .val (.long (if own_wb q1 q2 q3 (A + j) then 1 else 0)), .second] [])
    refine hst (fun t k => XS.iconst X78.here hx rfl (hb hby at_125) k) ?_
    show F T78 (mkF m 126 #[.val (.long q1), .second, .val (.long q2), .second, .val (.long q3), .second, .val (.int p4), .val (.int p5), .val (.int p6), .val (.ref b1), .val (.int av), .val (.int cv), .val (.int jv), .val (.long r48), .second, .val (.long gb), .second, .val (.long (if own_wb q1 q2 q3 (A + j) then 1 else 0)), .second] [(.int (1 : Int32))])
    refine hst (fun t k => XS.goto X78.here hx rfl (pc0 := 126) (pc' := 130) rfl (hb hby at_126) (by decide) (by decide) k) ?_
    show F T78 (mkF m 130 #[.val (.long q1), .second, .val (.long q2), .second, .val (.long q3), .second, .val (.int p4), .val (.int p5), .val (.int p6), .val (.ref b1), .val (.int av), .val (.int cv), .val (.int jv), .val (.long r48), .second, .val (.long gb), .second, .val (.long (if own_wb q1 q2 q3 (A + j) then 1 else 0)), .second] [(.int (1 : Int32))])
    rw [hF]
    refine own_retN X78 hx hret (by simp) hlk (hb hby at_130) (by decide) (by decide) ?_
    rw [he78]
    exact ⟨rfl, N78⟩
  · -- pc 66: taken
    refine hst (fun t k => XS.icmpYes X48.here hx rfl (pc0 := 66) (pc' := 86) rfl (hb hby at_66) rfl (flt hc66).2.1 (by decide) (by decide) k) ?_
    show F T48 (mkF m 86 #[.val (.long q1), .second, .val (.long q2), .second, .val (.long q3), .second, .val (.int p4), .val (.int p5), .val (.int p6), .val (.ref b1), .val (.int av), .val (.int cv), .val (.int jv), .val (.long r48), .second, .val (.long gb), .second, .unset, .unset] [])
    have q66 : ¬ j < c0 := by rw [Int32.lt_iff_toInt_lt] at hc66; omega
    refine hst (fun t k => XS.lconst X48.here hx rfl (hb hby at_86) k) ?_
    show F T48 (mkF m 87 #[.val (.long q1), .second, .val (.long q2), .second, .val (.long q3), .second, .val (.int p4), .val (.int p5), .val (.int p6), .val (.ref b1), .val (.int av), .val (.int cv), .val (.int jv), .val (.long r48), .second, .val (.long gb), .second, .unset, .unset] [(.long (0 : Int64))])
    refine hst (fun t k => XS.lstore X48.here hx rfl (hb hby at_87) rfl (l' := #[.val (.long q1), .second, .val (.long q2), .second, .val (.long q3), .second, .val (.int p4), .val (.int p5), .val (.int p6), .val (.ref b1), .val (.int av), .val (.int cv), .val (.int jv), .val (.long r48), .second, .val (.long gb), .second, .val (.long (0 : Int64)), .second]) rfl k) ?_
    show F T48 (mkF m 89 #[.val (.long q1), .second, .val (.long q2), .second, .val (.long q3), .second, .val (.int p4), .val (.int p5), .val (.int p6), .val (.ref b1), .val (.int av), .val (.int cv), .val (.int jv), .val (.long r48), .second, .val (.long gb), .second, .val (.long (0 : Int64)), .second] [])
    have key : gb = (0 : Int64) := by rw [kgb]; simp [q66]
    refine hst (fun t k => XS.lload X48.here hx rfl (hb hby at_89) rfl k) ?_
    show F T48 (mkF m 91 #[.val (.long q1), .second, .val (.long q2), .second, .val (.long q3), .second, .val (.int p4), .val (.int p5), .val (.int p6), .val (.ref b1), .val (.int av), .val (.int cv), .val (.int jv), .val (.long r48), .second, .val (.long gb), .second, .val (.long (0 : Int64)), .second] [(.long gb)])
    refine hst (fun t k => XS.lload X48.here hx rfl (hb hby at_91) rfl k) ?_
    show F T48 (mkF m 93 #[.val (.long q1), .second, .val (.long q2), .second, .val (.long q3), .second, .val (.int p4), .val (.int p5), .val (.int p6), .val (.ref b1), .val (.int av), .val (.int cv), .val (.int jv), .val (.long r48), .second, .val (.long gb), .second, .val (.long (0 : Int64)), .second] [(.long (0 : Int64)), (.long gb)])
    refine hst (fun t k => XS.lcmp X48.here hx rfl (hb hby at_93) rfl k) ?_
    show F T48 (mkF m 94 #[.val (.long q1), .second, .val (.long q2), .second, .val (.long q3), .second, .val (.int p4), .val (.int p5), .val (.int p6), .val (.ref b1), .val (.int av), .val (.int cv), .val (.int jv), .val (.long r48), .second, .val (.long gb), .second, .val (.long (0 : Int64)), .second] [(.int (lcmpW gb (0 : Int64)))])
    refine hst (fun t k => XS.ifNo X48.here hx rfl (hb hby at_94) rfl ((if0 _ _).trans (teq ((lw_eq _ _).mpr key)).2) k) ?_
    show F T48 (mkF m 97 #[.val (.long q1), .second, .val (.long q2), .second, .val (.long q3), .second, .val (.int p4), .val (.int p5), .val (.int p6), .val (.ref b1), .val (.int av), .val (.int cv), .val (.int jv), .val (.long r48), .second, .val (.long gb), .second, .val (.long (0 : Int64)), .second] [])
    refine hst (fun t k => XS.aload X48.here hx rfl (hb hby at_97) rfl rfl k) ?_
    show F T48 (mkF m 99 #[.val (.long q1), .second, .val (.long q2), .second, .val (.long q3), .second, .val (.int p4), .val (.int p5), .val (.int p6), .val (.ref b1), .val (.int av), .val (.int cv), .val (.int jv), .val (.long r48), .second, .val (.long gb), .second, .val (.long (0 : Int64)), .second] [(.ref b1)])
    refine hst (fun t k => XS.iconst X48.here hx rfl (hb hby at_99) k) ?_
    show F T48 (mkF m 100 #[.val (.long q1), .second, .val (.long q2), .second, .val (.long q3), .second, .val (.int p4), .val (.int p5), .val (.int p6), .val (.ref b1), .val (.int av), .val (.int cv), .val (.int jv), .val (.long r48), .second, .val (.long gb), .second, .val (.long (0 : Int64)), .second] [(.int (0 : Int32)), (.ref b1)])
    refine hst (fun t k => own_laload X48 hx hZ he48 A_b1_p15c (by decide) (v := (.long q1)) rfl (g := (mkF m 100 #[.val (.long q1), .second, .val (.long q2), .second, .val (.long q3), .second, .val (.int p4), .val (.int p5), .val (.int p6), .val (.ref b1), .val (.int av), .val (.int cv), .val (.int jv), .val (.long r48), .second, .val (.long gb), .second, .val (.long (0 : Int64)), .second] [(.int (0 : Int32)), (.ref b1)])) rfl rfl (hb hby at_100) t k) ?_
    show F T48 (mkF m 101 #[.val (.long q1), .second, .val (.long q2), .second, .val (.long q3), .second, .val (.int p4), .val (.int p5), .val (.int p6), .val (.ref b1), .val (.int av), .val (.int cv), .val (.int jv), .val (.long r48), .second, .val (.long gb), .second, .val (.long (0 : Int64)), .second] [(.long q1)])
    refine hst (fun t k => XS.lloadN X48.here hx rfl (hb hby at_101) rfl k) ?_
    show F T48 (mkF m 102 #[.val (.long q1), .second, .val (.long q2), .second, .val (.long q3), .second, .val (.int p4), .val (.int p5), .val (.int p6), .val (.ref b1), .val (.int av), .val (.int cv), .val (.int jv), .val (.long r48), .second, .val (.long gb), .second, .val (.long (0 : Int64)), .second] [(.long q1), (.long q1)])
    refine hst (fun t k => XS.lcmp X48.here hx rfl (hb hby at_102) rfl k) ?_
    show F T48 (mkF m 103 #[.val (.long q1), .second, .val (.long q2), .second, .val (.long q3), .second, .val (.int p4), .val (.int p5), .val (.int p6), .val (.ref b1), .val (.int av), .val (.int cv), .val (.int jv), .val (.long r48), .second, .val (.long gb), .second, .val (.long (0 : Int64)), .second] [(.int (lcmpW q1 q1))])
    refine hst (fun t k => XS.ifNo X48.here hx rfl (hb hby at_103) rfl ((if0 _ _).trans (teq ((lw_eq _ _).mpr rfl)).2) k) ?_
    show F T48 (mkF m 106 #[.val (.long q1), .second, .val (.long q2), .second, .val (.long q3), .second, .val (.int p4), .val (.int p5), .val (.int p6), .val (.ref b1), .val (.int av), .val (.int cv), .val (.int jv), .val (.long r48), .second, .val (.long gb), .second, .val (.long (0 : Int64)), .second] [])
    refine hst (fun t k => XS.aload X48.here hx rfl (hb hby at_106) rfl rfl k) ?_
    show F T48 (mkF m 108 #[.val (.long q1), .second, .val (.long q2), .second, .val (.long q3), .second, .val (.int p4), .val (.int p5), .val (.int p6), .val (.ref b1), .val (.int av), .val (.int cv), .val (.int jv), .val (.long r48), .second, .val (.long gb), .second, .val (.long (0 : Int64)), .second] [(.ref b1)])
    refine hst (fun t k => XS.iconst X48.here hx rfl (hb hby at_108) k) ?_
    show F T48 (mkF m 109 #[.val (.long q1), .second, .val (.long q2), .second, .val (.long q3), .second, .val (.int p4), .val (.int p5), .val (.int p6), .val (.ref b1), .val (.int av), .val (.int cv), .val (.int jv), .val (.long r48), .second, .val (.long gb), .second, .val (.long (0 : Int64)), .second] [(.int (1 : Int32)), (.ref b1)])
    refine hst (fun t k => own_laload X48 hx hZ he48 A_b1_p15c (by decide) (v := (.long q2)) rfl (g := (mkF m 109 #[.val (.long q1), .second, .val (.long q2), .second, .val (.long q3), .second, .val (.int p4), .val (.int p5), .val (.int p6), .val (.ref b1), .val (.int av), .val (.int cv), .val (.int jv), .val (.long r48), .second, .val (.long gb), .second, .val (.long (0 : Int64)), .second] [(.int (1 : Int32)), (.ref b1)])) rfl rfl (hb hby at_109) t k) ?_
    show F T48 (mkF m 110 #[.val (.long q1), .second, .val (.long q2), .second, .val (.long q3), .second, .val (.int p4), .val (.int p5), .val (.int p6), .val (.ref b1), .val (.int av), .val (.int cv), .val (.int jv), .val (.long r48), .second, .val (.long gb), .second, .val (.long (0 : Int64)), .second] [(.long q2)])
    refine hst (fun t k => XS.lloadN X48.here hx rfl (hb hby at_110) rfl k) ?_
    show F T48 (mkF m 111 #[.val (.long q1), .second, .val (.long q2), .second, .val (.long q3), .second, .val (.int p4), .val (.int p5), .val (.int p6), .val (.ref b1), .val (.int av), .val (.int cv), .val (.int jv), .val (.long r48), .second, .val (.long gb), .second, .val (.long (0 : Int64)), .second] [(.long q2), (.long q2)])
    refine hst (fun t k => XS.lcmp X48.here hx rfl (hb hby at_111) rfl k) ?_
    show F T48 (mkF m 112 #[.val (.long q1), .second, .val (.long q2), .second, .val (.long q3), .second, .val (.int p4), .val (.int p5), .val (.int p6), .val (.ref b1), .val (.int av), .val (.int cv), .val (.int jv), .val (.long r48), .second, .val (.long gb), .second, .val (.long (0 : Int64)), .second] [(.int (lcmpW q2 q2))])
    refine hst (fun t k => XS.ifNo X48.here hx rfl (hb hby at_112) rfl ((if0 _ _).trans (teq ((lw_eq _ _).mpr rfl)).2) k) ?_
    show F T48 (mkF m 115 #[.val (.long q1), .second, .val (.long q2), .second, .val (.long q3), .second, .val (.int p4), .val (.int p5), .val (.int p6), .val (.ref b1), .val (.int av), .val (.int cv), .val (.int jv), .val (.long r48), .second, .val (.long gb), .second, .val (.long (0 : Int64)), .second] [])
    refine hst (fun t k => XS.aload X48.here hx rfl (hb hby at_115) rfl rfl k) ?_
    show F T48 (mkF m 117 #[.val (.long q1), .second, .val (.long q2), .second, .val (.long q3), .second, .val (.int p4), .val (.int p5), .val (.int p6), .val (.ref b1), .val (.int av), .val (.int cv), .val (.int jv), .val (.long r48), .second, .val (.long gb), .second, .val (.long (0 : Int64)), .second] [(.ref b1)])
    refine hst (fun t k => XS.iconst X48.here hx rfl (hb hby at_117) k) ?_
    show F T48 (mkF m 118 #[.val (.long q1), .second, .val (.long q2), .second, .val (.long q3), .second, .val (.int p4), .val (.int p5), .val (.int p6), .val (.ref b1), .val (.int av), .val (.int cv), .val (.int jv), .val (.long r48), .second, .val (.long gb), .second, .val (.long (0 : Int64)), .second] [(.int (2 : Int32)), (.ref b1)])
    refine hst (fun t k => own_laload X48 hx hZ he48 A_b1_p15c (by decide) (v := (.long q3)) rfl (g := (mkF m 118 #[.val (.long q1), .second, .val (.long q2), .second, .val (.long q3), .second, .val (.int p4), .val (.int p5), .val (.int p6), .val (.ref b1), .val (.int av), .val (.int cv), .val (.int jv), .val (.long r48), .second, .val (.long gb), .second, .val (.long (0 : Int64)), .second] [(.int (2 : Int32)), (.ref b1)])) rfl rfl (hb hby at_118) t k) ?_
    show F T48 (mkF m 119 #[.val (.long q1), .second, .val (.long q2), .second, .val (.long q3), .second, .val (.int p4), .val (.int p5), .val (.int p6), .val (.ref b1), .val (.int av), .val (.int cv), .val (.int jv), .val (.long r48), .second, .val (.long gb), .second, .val (.long (0 : Int64)), .second] [(.long q3)])
    refine hst (fun t k => XS.lload X48.here hx rfl (hb hby at_119) rfl k) ?_
    show F T48 (mkF m 121 #[.val (.long q1), .second, .val (.long q2), .second, .val (.long q3), .second, .val (.int p4), .val (.int p5), .val (.int p6), .val (.ref b1), .val (.int av), .val (.int cv), .val (.int jv), .val (.long r48), .second, .val (.long gb), .second, .val (.long (0 : Int64)), .second] [(.long q3), (.long q3)])
    refine hst (fun t k => XS.lcmp X48.here hx rfl (hb hby at_121) rfl k) ?_
    show F T48 (mkF m 122 #[.val (.long q1), .second, .val (.long q2), .second, .val (.long q3), .second, .val (.int p4), .val (.int p5), .val (.int p6), .val (.ref b1), .val (.int av), .val (.int cv), .val (.int jv), .val (.long r48), .second, .val (.long gb), .second, .val (.long (0 : Int64)), .second] [(.int (lcmpW q3 q3))])
    refine hst (fun t k => XS.ifNo X48.here hx rfl (hb hby at_122) rfl ((if0 _ _).trans (teq ((lw_eq _ _).mpr rfl)).2) k) ?_
    show F T48 (mkF m 125 #[.val (.long q1), .second, .val (.long q2), .second, .val (.long q3), .second, .val (.int p4), .val (.int p5), .val (.int p6), .val (.ref b1), .val (.int av), .val (.int cv), .val (.int jv), .val (.long r48), .second, .val (.long gb), .second, .val (.long (0 : Int64)), .second] [])
    refine hst (fun t k => XS.iconst X48.here hx rfl (hb hby at_125) k) ?_
    show F T48 (mkF m 126 #[.val (.long q1), .second, .val (.long q2), .second, .val (.long q3), .second, .val (.int p4), .val (.int p5), .val (.int p6), .val (.ref b1), .val (.int av), .val (.int cv), .val (.int jv), .val (.long r48), .second, .val (.long gb), .second, .val (.long (0 : Int64)), .second] [(.int (1 : Int32))])
    refine hst (fun t k => XS.goto X48.here hx rfl (pc0 := 126) (pc' := 130) rfl (hb hby at_126) (by decide) (by decide) k) ?_
    show F T48 (mkF m 130 #[.val (.long q1), .second, .val (.long q2), .second, .val (.long q3), .second, .val (.int p4), .val (.int p5), .val (.int p6), .val (.ref b1), .val (.int av), .val (.int cv), .val (.int jv), .val (.long r48), .second, .val (.long gb), .second, .val (.long (0 : Int64)), .second] [(.int (1 : Int32))])
    rw [hF]
    refine own_retN X48 hx hret (by simp) hlk (hb hby at_130) (by decide) (by decide) ?_
    rw [he48]
    exact ⟨rfl, N48⟩
set_option maxRecDepth 65536 in
set_option maxHeartbeats 40000000 in
theorem comes_1 {Post : Tables → Env → Array Value → State → Outcome → State → Prop} (hpost : ∀ tb e args s v u, (limb_1_1.after args s (.returned v) u = true ∧ limb_1_2.after args s (.returned v) u = true ∧ True) → FrameEnd s (.returned v) u (Jvm.fieldLocs frame_1_writes args s ++ Jvm.arrayLocs frame_1_arrays args s ++ Jvm.staticLocs frame_1_statics s) 16 128 → Post tb e args s (.returned v) u) :
    ArmFor flags0 classFile x code maxLocals ret World_1 tables_1 room_1 Calls_1 rest_1 Pre_1 Post := by
  intro l hfl _ _ p e ha hc hk s m args below hf hA hF happ hP
  obtain ⟨hcalls, hrest, hpre⟩ := hP
  obtain ⟨-, -, -, hnamed, -, -, -, hat⟩ := (Spec.applies_iff hf).mp happ
  obtain ⟨hg, hn⟩ := and_e (Cond.before_iff.mp (show (Jvm.Cond.and given_1 narrow_1).before args s = true from hpre))
  obtain ⟨g1, g2⟩ := and_e hg
  obtain ⟨g3, g4⟩ := and_e g2
  obtain ⟨g5, g6⟩ := and_e g4
  obtain ⟨g7, g8⟩ := and_e g6
  obtain ⟨g9, g10⟩ := and_e g8
  obtain ⟨g11, g12⟩ := and_e g10
  obtain ⟨w0, w1, w2, w3, w4, w5, rfl⟩ : ∃ w0 w1 w2 w3 w4 w5 : Value, args = #[w0, w1, w2, w3, w4, w5] := by
    have hs : args.size = 6 := by simpa [Cond.value, given_1] using g1
    obtain ⟨L⟩ := args
    match L, hs with
    | [w0, w1, w2, w3, w4, w5], _ => exact ⟨w0, w1, w2, w3, w4, w5, rfl⟩
  have hw := fun d (hd : d ∈ tables_1) => atoms_spec (ws := Jvm.Cond.code x code maxLocals ret :: tables_1) hat d (List.mem_cons_of_mem _ hd)
  obtain ⟨i0, ei0⟩ := isL_v g3
  obtain rfl : w0 = (.long i0) := Option.some.inj ei0
  obtain ⟨i1, ei1⟩ := isL_v g5
  obtain rfl : w1 = (.long i1) := Option.some.inj ei1
  obtain ⟨i2, ei2⟩ := isL_v g7
  obtain rfl : w2 = (.long i2) := Option.some.inj ei2
  obtain ⟨i3, ei3⟩ := is_v g9
  obtain rfl : w3 = (.int i3) := Option.some.inj ei3
  obtain ⟨i4, ei4⟩ := is_v g11
  obtain rfl : w4 = (.int i4) := Option.some.inj ei4
  obtain ⟨i5, ei5⟩ := is_v g12
  obtain rfl : w5 = (.int i5) := Option.some.inj ei5
  obtain ⟨n, o, h1, h2, h3, _, L, rfl, ⟨rfl, N⟩, hq⟩ := rm0 l s _ hw tables_1 i0 i1 i2 i3 i4 i5 s.heap s.heap.size (Nat.le_refl _) p e ha hc hk s m _ below hf ((Spec.applies_iff_loose hf).mp happ).1 ⟨rfl, State.Warmed39.refl s, rfl⟩ trivial
  refine ⟨n, _, h1, h2, h3, hpost _ _ _ _ _ _ ⟨Cond.after_iff.mpr rfl, Cond.after_iff.mpr (eq_i res_at (Term.int_eval (1)) rfl), trivial⟩ ⟨hq.1, hq.2.1, (hq.2.2.sift fun y hy => Or.inr (N y hy)).mono (by decide) (by decide)⟩⟩
theorem main_1_1 : Claimed_1_1 := comes_1 fun _ _ _ _ _ _ h hF => ⟨h.1, hF⟩
theorem main_1_2 : Claimed_1_2 := comes_1 fun _ _ _ _ _ _ h hF => ⟨h.2.1, hF⟩
end Jvm.Pilot.@@N@@
namespace Jvm.Pilot.@@N@@
open Jvm Jvm.ClassFile Sem Op Lib Jvm.Free Jvm.Stand Jvm.Pilot.@@N@@.Jvm.D
/-! MADE BY PROGRAM (witnessworld.py) out of the Statement's table words and the real class files: 11 classes; the members and pool entries that the words name. The judged class is class 1, her method 2. -/
namespace start1
open Jvm.ClassFile
def u (s : String) : CpInfo := .utf8 (stringToUtf16 s)
/-- a pool by its gaps: so many unusable entries, then the entry; so many at the end -/
def gap : Nat → List CpInfo → List CpInfo
  | 0, r => r
  | n + 1, r => .unusable :: gap n r
def poolList (es : List (Nat × CpInfo)) (last : Nat) : List CpInfo := es.foldr (fun e r => gap e.1 (e.2 :: r)) (gap last [])
def pool (es : List (Nat × CpInfo)) (last : Nat) : Array CpInfo := ⟨poolList es last⟩
def fileOf (pool : Array CpInfo) (this : Nat) (attrs : Array Attribute := #[]) (ms : Array MethodInfo := #[]) (fl : Nat := 33) (sup : Nat := 0) (ifs : Array Nat := #[]) (fds : Array FieldInfo := #[]) : ClassFile where
  minorVersion := 0
  majorVersion := 65
  constantPool := pool
  accessFlags := fl
  thisClass := this
  superClass := sup
  interfaces := ifs
  fields := fds
  methods := ms
  attributes := attrs
def plain (name : String) (sup : Option ClassId) : Class where
  name := name
  kind := .ordinary
  loader := none
  accessFlags := 33
  super := sup
  interfaces := #[]
  cf := none
  fields := #[]
  methods := #[]
  instanceTypes := #[]
  staticTypes := #[]
  resolved := #[]
  callSites := []
  init := .initialized
  statics := none
  mirror := none

def pool0 : Array CpInfo := pool [(5, u "<init>"), (0, u "()V"), (1, .class_ 10), (1, u "java/lang/Object")] 113

def k0m0 : Method := { name := "<init>", desc := "()V", sig := { parameters := [], returnType := none }, accessFlags := 1, code := none }
/-- java/lang/Object -/
def k0 : Class := { plain "java/lang/Object" none with
  accessFlags := 33
  interfaces := #[]
  cf := some (fileOf pool0 8 #[] #[{ accessFlags := 1, nameIndex := 5, descriptorIndex := 6, attributes := #[] }] 33 0 #[] #[])
  fields := #[]
  methods := #[k0m0]
  instanceTypes := #[]
  staticTypes := #[]
  resolved := Array.replicate 124 none
  statics := none }

def pool1 : Array CpInfo := pool [(2, .class_ 4), (1, u "java/lang/Object"), (0, u "<init>"), (0, u "()V"), (0, .integer 2147483647), (0, .methodref 9 10), (0, .class_ 11), (0, .nameAndType 12 13), (0, u "com/example/censo/censo/compact/BitFields"), (0, u "read"), (0, u "([JII)J"), (0, .methodref 15 16), (0, .class_ 17), (0, .nameAndType 18 19), (0, u "com/example/censo/censo/compact/BitFieldsReadPinLaw"), (0, u "bitOf"), (0, u "(JJJI)J"), (3, u "law"), (0, u "(JJJIII)Z")] 4

def k1m0 : Method := { name := "<init>", desc := "()V", sig := { parameters := [], returnType := none }, accessFlags := 2, code := none }
def k1c1 : Code := { maxStack := 4, maxLocals := 10, code := method_2_code, exceptionTable := #[], attributes := #[] }
def k1m1 : Method := { name := "bitOf", desc := "(JJJI)J", sig := { parameters := [.long, .long, .long, .int], returnType := some .long }, accessFlags := 10, code := some k1c1 }
def k1c2 : Code := { maxStack := 8, maxLocals := 19, code := code, exceptionTable := #[], attributes := #[] }
def k1m2 : Method := { name := "law", desc := "(JJJIII)Z", sig := { parameters := [.long, .long, .long, .int, .int, .int], returnType := some .boolean }, accessFlags := 9, code := some k1c2 }
/-- com/example/censo/censo/compact/BitFieldsReadPinLaw -/
def k1 : Class := { plain "com/example/censo/censo/compact/BitFieldsReadPinLaw" (some 0) with
  accessFlags := 49
  interfaces := #[]
  cf := some (fileOf pool1 15 #[] #[{ accessFlags := 2, nameIndex := 5, descriptorIndex := 6, attributes := #[] }, { accessFlags := 10, nameIndex := 18, descriptorIndex := 19, attributes := #[] }, { accessFlags := 9, nameIndex := 23, descriptorIndex := 24, attributes := #[] }] 49 2 #[] #[])
  fields := #[]
  methods := #[k1m0, k1m1, k1m2]
  instanceTypes := #[]
  staticTypes := #[]
  resolved := Array.replicate 29 none
  statics := none }

def pool2 : Array CpInfo := pool [(2, .class_ 4), (1, u "java/lang/Object"), (0, u "<init>"), (0, u "()V"), (9, .class_ 18), (1, u "com/example/censo/censo/compact/BitFields"), (0, u "read"), (0, u "([JII)J")] 15

def k2m0 : Method := { name := "<init>", desc := "()V", sig := { parameters := [], returnType := none }, accessFlags := 2, code := none }
def k2c1 : Code := { maxStack := 6, maxLocals := 7, code := prog_64_method_2_code, exceptionTable := #[], attributes := #[] }
def k2m1 : Method := { name := "read", desc := "([JII)J", sig := { parameters := [(.array .long), .int, .int], returnType := some .long }, accessFlags := 9, code := some k2c1 }
/-- com/example/censo/censo/compact/BitFields -/
def k2 : Class := { plain "com/example/censo/censo/compact/BitFields" (some 0) with
  accessFlags := 49
  interfaces := #[]
  cf := some (fileOf pool2 16 #[] #[{ accessFlags := 2, nameIndex := 5, descriptorIndex := 6, attributes := #[] }, { accessFlags := 9, nameIndex := 19, descriptorIndex := 20, attributes := #[] }] 49 2 #[] #[])
  fields := #[]
  methods := #[k2m0, k2m1]
  instanceTypes := #[]
  staticTypes := #[]
  resolved := Array.replicate 36 none
  statics := none }

def pool3 : Array CpInfo := pool [(1, u "java/lang/Cloneable"), (0, .class_ 1), (0, u "java/lang/Object"), (0, .class_ 3)] 3

/-- java/lang/Cloneable -/
def k3 : Class := { plain "java/lang/Cloneable" (some 0) with
  accessFlags := 1537
  interfaces := #[]
  cf := some (fileOf pool3 2 #[] #[] 1537 4 #[] #[])
  fields := #[]
  methods := #[]
  instanceTypes := #[]
  staticTypes := #[]
  resolved := Array.replicate 8 none
  statics := none }

def pool4 : Array CpInfo := pool [(1, u "java/io/Serializable"), (0, .class_ 1), (0, u "java/lang/Object"), (0, .class_ 3)] 3

/-- java/io/Serializable -/
def k4 : Class := { plain "java/io/Serializable" (some 0) with
  accessFlags := 1537
  interfaces := #[]
  cf := some (fileOf pool4 2 #[] #[] 1537 4 #[] #[])
  fields := #[]
  methods := #[]
  instanceTypes := #[]
  staticTypes := #[]
  resolved := Array.replicate 8 none
  statics := none }

/-- the primitive byte -/
def k5 : Class := { plain "byte" none with kind := .primitive 'B', accessFlags := 0x411 }
/-- [B -/
def k6 : Class := { plain "[B" (some 0) with kind := .array 5 .byte, interfaces := #[3, 4], accessFlags := 1041 }

/-- the primitive int -/
def k7 : Class := { plain "int" none with kind := .primitive 'I', accessFlags := 0x411 }
/-- [I -/
def k8 : Class := { plain "[I" (some 0) with kind := .array 7 .int, interfaces := #[3, 4], accessFlags := 1041 }

/-- the primitive long -/
def k9 : Class := { plain "long" none with kind := .primitive 'J', accessFlags := 0x411 }
/-- [J -/
def k10 : Class := { plain "[J" (some 0) with kind := .array 9 .long, interfaces := #[3, 4], accessFlags := 1041 }

def heap : Heap := #[]
def classes : Array Class := #[k0, k1, k2, k3, k4, k5, k6, k7, k8, k9, k10]
def interned : List (Array UInt16 × Addr) := []
def slotsUsed : Nat := 0
def theMethod : MethodId := ⟨1, 2⟩
def args0 : Array Value := #[.long 1, .long 2, .long 3, .int 4, .int 5, .int 6]
def aboutOver (below : List Frame) : State where
  vm := { classes := classes, interned := interned.toArray }
  heap := heap
  slotsUsed := slotsUsed
  threads := #[{ frames := .invoking theMethod args0 :: below }]
def below0 : List Frame := [.native { method := ⟨0, 0⟩, args := #[] }]
def about1 : State := aboutOver below0
def p0 : Program := .bare "" "" ""
def e0 : Env := launch0.env 0 0 0
theorem w_frames : about1.frames = Frame.invoking theMethod args0 :: below0 := rfl
set_option maxRecDepth 65536 in
theorem w_args : argsFit about1.vm theMethod args0 = true := by decide +kernel
set_option maxRecDepth 65536 in
theorem w_heap : heapFits about1 = true := by decide +kernel
set_option maxRecDepth 65536 in
theorem w_runnable : about1.curStatus? = some .runnable := by decide +kernel
set_option maxRecDepth 65536 in
theorem w_alone : about1.alone = true := by decide +kernel
set_option maxRecDepth 65536 in
theorem w_named : about1.methodNamed? x = some theMethod := by decide +kernel
set_option maxRecDepth 65536 in
theorem w_hears : about1.hears theMethod below0 = true := by decide +kernel
set_option maxRecDepth 65536 in
theorem w_ripe : about1.ripe theMethod args0 below0 = true := by decide +kernel
theorem w_running : about1.status = .running := rfl
set_option maxRecDepth 65536 in
theorem w_room : about1.hasRoom e0.platform room_1 = true :=
  launch0.hasRoom_least _ room_1 (by decide +kernel) (by decide +kernel) (by decide +kernel) (by decide +kernel) (by decide +kernel) (by decide +kernel)
theorem allAtoms_all (ts : List Jvm.Cond) (a : Array Jvm.Value) (st : Jvm.State) : (allAtoms ts).before a st = ts.all (fun c => c.before a st) := by
  induction ts with
  | nil => rfl
  | cons c t ih =>
    show (Jvm.Cond.and c (allAtoms t)).before a st = _
    rw [Jvm.Cond.before_and, ih, List.all_cons]
def words1 : List Jvm.Cond := Jvm.Cond.code x code maxLocals ret :: tables_1
/-- a 'code' word, met by the world's own term for the bytes: nothing is compared byte by byte -/
theorem code_word {y : MethodName} {bytes : ByteArray} {mx : Nat} {rt : Option FieldType} {a : Array Value} {s : State} {m : MethodId} {meth : Method} {c : Code} (h1 : s.methodNamed? y = some m) (h2 : s.vm.method? m = some meth) (h3 : meth.code = some c) (h4 : c.code = bytes)
    (h5 : (c.maxLocals == mx && c.exceptionTable.isEmpty && decide (c.maxStack ≤ mostOperands) && decide (meth.sig.returnType = rt) && !meth.locks && decide (parseMethodDescriptor y.desc = some meth.sig)) = true) : (Jvm.Cond.code y bytes mx rt).before a s = true := by
  simp only [Bool.and_eq_true, beq_iff_eq, Bool.not_eq_true', decide_eq_true_eq] at h5
  obtain ⟨⟨⟨⟨⟨g1, g2⟩, g3⟩, g4⟩, g5⟩, g6⟩ := h5
  simp [Cond.before, Cond.holds, Cond.value, h1, h2, h3, h4, g1, g2, g3, g4, g5, g6]
def isCode : Jvm.Cond → Bool
  | .code _ _ _ _ => true
  | _ => false
theorem all_split {L : List Jvm.Cond} {P : Jvm.Cond → Bool} (h1 : L.all (fun c => isCode c || P c) = true) (h2 : ∀ c ∈ L.filter isCode, P c = true) : L.all P = true := by
  refine List.all_eq_true.mpr fun c hc => ?_
  have h := List.all_eq_true.mp h1 c hc
  rcases Bool.eq_false_or_eq_true (isCode c) with hi | hi
  · exact h2 c (List.mem_filter.mpr ⟨hc, hi⟩)
  · simpa [hi] using h
set_option maxRecDepth 65536 in
theorem w_c0 : (Jvm.Cond.code x code maxLocals ret).before args0 about1 = true := code_word (m := ⟨1, 2⟩) (meth := k1m2) (c := k1c2) (by decide +kernel) rfl rfl rfl (by decide +kernel)
set_option maxRecDepth 65536 in
theorem w_c1 : (Jvm.Cond.code ({ cls := "com/example/censo/censo/compact/BitFields", name := "read", desc := "([JII)J" } : Jvm.MethodName) prog_64_method_2_code (7 : Nat) (Option.some Jvm.ClassFile.FieldType.long)).before args0 about1 = true := code_word (m := ⟨2, 1⟩) (meth := k2m1) (c := k2c1) (by decide +kernel) rfl rfl rfl (by decide +kernel)
set_option maxRecDepth 65536 in
theorem w_c2 : (Jvm.Cond.code ({ cls := "com/example/censo/censo/compact/BitFieldsReadPinLaw", name := "bitOf", desc := "(JJJI)J" } : Jvm.MethodName) method_2_code (10 : Nat) (Option.some Jvm.ClassFile.FieldType.long)).before args0 about1 = true := code_word (m := ⟨1, 1⟩) (meth := k1m1) (c := k1c1) (by decide +kernel) rfl rfl rfl (by decide +kernel)
def codes1 : List Jvm.Cond := [Jvm.Cond.code x code maxLocals ret, Jvm.Cond.code ({ cls := "com/example/censo/censo/compact/BitFields", name := "read", desc := "([JII)J" } : Jvm.MethodName) prog_64_method_2_code (7 : Nat) (Option.some Jvm.ClassFile.FieldType.long), Jvm.Cond.code ({ cls := "com/example/censo/censo/compact/BitFieldsReadPinLaw", name := "bitOf", desc := "(JJJI)J" } : Jvm.MethodName) method_2_code (10 : Nat) (Option.some Jvm.ClassFile.FieldType.long)]
set_option maxRecDepth 65536 in
theorem codes_eq : words1.filter isCode = codes1 := rfl
theorem w_codes : ∀ c ∈ words1.filter isCode, c.before args0 about1 = true := by
  rw [codes_eq]
  intro c hc
  simp only [codes1, List.mem_cons, List.not_mem_nil, or_false] at hc
  rcases hc with rfl | rfl | rfl
  · exact w_c0
  · exact w_c1
  · exact w_c2
set_option maxRecDepth 65536 in
theorem w_t1 : words1.all (fun c => isCode c || c.before args0 about1) = true := by decide +kernel
theorem w_tables : (allAtoms (Jvm.Cond.code x code maxLocals ret :: tables_1)).before args0 about1 = true := by
  rw [allAtoms_all]
  show words1.all (fun c => c.before args0 about1) = true
  refine all_split ?_ w_codes
  rw [w_t1]
set_option maxRecDepth 65536 in
theorem w_case : (Jvm.Cond.and given_1 narrow_1).before args0 about1 = true := by decide +kernel
theorem w_applies : (headSpec (Jvm.Cond.code x code maxLocals ret :: tables_1) room_1).applies x e0.platform about1 = true :=
  (Spec.applies_iff w_frames).mpr ⟨w_running, w_runnable, w_alone, w_named, w_hears, w_ripe, w_room, w_tables⟩
theorem atStart : AtStart classFile x code maxLocals ret World_1 tables_1 room_1 Calls_1 rest_1 Pre_1 launch0 p0 e0 about1 theMethod args0 below0 :=
  ⟨lists_1, trivial, launch0.admits_env _ _ _, launch0.least_env, fairChoices_fair.cas, fairChoices_fair.clock, w_frames, w_args, w_heap, w_applies, trivial, trivial, w_case⟩
end start1
theorem witness_1 : WitnessClaimed_1 := ⟨start1.p0, start1.e0, start1.about1, start1.theMethod, start1.args0, start1.below0, start1.atStart⟩
end Jvm.Pilot.@@N@@
