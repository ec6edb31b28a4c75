import JvmDerived
import JvmDerived.Pilot.@@N@@Statement
import JvmDerived.Pilot.@@N@@Code
set_option linter.unusedVariables false
set_option linter.unusedSimpArgs false
namespace Jvm.Pilot.@@N@@
open Jvm Jvm.ClassFile Sem Op Lib Jvm.Free Jvm.Stand Jvm.LawKit Jvm.RoadKit Bundle Jvm.Pilot.@@N@@.Jvm.D
/-! ## the walk's own goal: from this frame the method comes to its end, and what it leaves is Q -/
def own_Fin (tb : Tables) (e : Env) (below : List Frame) (s : State) (R : Room) (Q : Option Value → Heap → List Loc → Prop) (T : State) (g : JFrame) : Prop :=
  ∃ s₂ o, Steps tb e below (T.setTop g) s₂ ∧ s₂.status = .running ∧ Ended s₂ below o ∧ ∃ v L, o = .returned v ∧ Q v s₂.heap L ∧ FrameEnd s o s₂ L R.cells R.slots
theorem own_st {tb : Tables} {e : Env} {below : List Frame} {s : State} {R : Room} {Q : Option Value → Heap → List Loc → Prop} {T T' : State} {g g' : JFrame}
    (h : ∀ t, Steps tb e below (T'.setTop g') t → Steps tb e below (T.setTop g) t) (k : own_Fin tb e below s R Q T' g') : own_Fin tb e below s R Q T g := by
  obtain ⟨s₂, o, h1, r⟩ := k
  exact ⟨s₂, o, h _ h1, r⟩
/-- an array: its kind, its length, what lies at each place -/
def own_A (Z : State) (h : Heap) (a : Addr) (ty : FieldType) (n : Nat) (f : Nat → Value) : Prop := ∃ c : Cell, Arr Z h a c ty ∧ c.slots.size = n ∧ ∀ i, i < n → c.slots[i]? = some (f i)
section OwnArr
variable {Z : State} {h h' : Heap} {a b : Addr} {ty : FieldType} {n : Nat} {f : Nat → Value} {ws : List Addr} {sl : Nat} {v : Value}
theorem own_A.lt (F : own_A Z h a ty n f) : a < h.size := by obtain ⟨c, A, -⟩ := F; exact A.lt
theorem own_A.ext (F : own_A Z h a ty n f) (E : Ext h h') : own_A Z h' a ty n f := by obtain ⟨c, A, r⟩ := F; exact ⟨c, A.ext E, r⟩
theorem own_A.other (F : own_A Z h a ty n f) (W : Wr h h' b sl v) (q : a ≠ b) : own_A Z h' a ty n f := by obtain ⟨c, A, r⟩ := F; exact ⟨c, A.other W q, r⟩
theorem own_A.keep (F : own_A Z h a ty n f) (K : Keep h h' ws) (q : a ∉ ws) : own_A Z h' a ty n f := by obtain ⟨c, A, r⟩ := F; exact ⟨c, ⟨K.2.1 a c A.1 q, A.2⟩, r⟩
theorem own_A.congr (F : own_A Z h a ty n f) {f' : Nat → Value} (q : ∀ i, i < n → f i = f' i) : own_A Z h a ty n f' := by
  obtain ⟨c, A, r1, r2⟩ := F
  exact ⟨c, A, r1, fun i hi => by rw [r2 i hi, q i hi]⟩
theorem own_A.new {k : ClassId} {z : Int32} (A : Arr Z h a (newA k ty z) ty) : own_A Z h a ty z.toNatClampNeg (fun _ => defaultValue ty) :=
  ⟨_, A, sz_new _ _ _, fun i hi => by simp [newA, hi]⟩
theorem own_A.set (F : own_A Z h a ty n f) (W : Wr h h' a sl v) : own_A Z h' a ty n (fun i => if i = sl then v else f i) := by
  obtain ⟨c, A, r1, r2⟩ := F
  refine ⟨_, A.same W, by rw [sz_set]; exact r1, fun i hi => ?_⟩
  by_cases q : i = sl
  · subst q; simp [Cell.setSlot, r1, hi]
  · simp only [Cell.setSlot, q, if_false]; rw [Array.getElem?_setIfInBounds_ne (Ne.symm q)]; exact r2 i hi
theorem own_ne_A {c : Nat} {C : String} {a0 : Array Value} (F : Exa Z h b C) (wi : (Jvm.Cond.instantiable C c).before a0 Z = true) (G : own_A Z h a ty n f) : b ≠ a := by
  obtain ⟨cl, A, -⟩ := G; exact ne_arr F wi A
end OwnArr
section OwnStand
variable {p : Program} {l : Launch} {e : Env} {R : Room} {s : State} {m : MethodId} {args : Array Value} {below : List Frame} {meth : Method} {c : Code} {T : State} {locs : List Loc} {cells slots : Nat} {Q : Option Value → Heap → List Loc → Prop} {Z : State} {a0 : Array Value} {h : Heap}
theorem own_ret {v : Option Value} {g : JFrame} (X : Stand p l e R s m args below meth c T locs cells slots) (hv : meth.sig.returnType = none → v = none) (hlocks : meth.locks = false) (hc : cells ≤ R.cells) (hs : slots ≤ R.slots) (hQ : Q v T.heap locs)
    (hstep : ∀ fs, (∀ (f : JFrame) (acts : List Action), f.method = m → f.locked = none → f.entered = [] → (doReturn e (T.setTop f) acts v).1 = T.setFrames fs) → Steps p.tables e below (T.setTop g) (T.setFrames fs)) : own_Fin p.tables e below s R Q T g := by
  obtain ⟨fs, hr, hrun, hended, hW, hsame⟩ := X.leave hv hlocks
  exact ⟨_, _, hstep fs hr, hrun, hended, _, _, rfl, hQ, ⟨_, rfl⟩, hW, hsame.mono hc hs⟩
theorem own_retI {pc : Nat} {Ls : Array Slot} {z : Int32} {rest : List Value} (X : Stand p l e R s m args below meth c T locs cells slots) (hx : p.tables.exec = Jvm.exec) (hret : meth.sig.returnType = some .int) (hlocks : meth.locks = false) (hd : decode c.code pc = .ok (.ireturn, 1))
    (hc : cells ≤ R.cells) (hs : slots ≤ R.slots) (hQ : Q (some (.int z)) T.heap locs) : own_Fin p.tables e below s R Q T (mkF m pc Ls (.int z :: rest)) :=
  own_ret X (fun h => by rw [hret] at h; cases h) hlocks hc hs hQ fun fs hr => retOut X hx hret rfl (Or.inl ⟨rfl, Or.inl rfl, _, rfl⟩) hd hr
theorem own_retJ {pc : Nat} {Ls : Array Slot} {z : Int64} {rest : List Value} (X : Stand p l e R s m args below meth c T locs cells slots) (hx : p.tables.exec = Jvm.exec) (hret : meth.sig.returnType = some .long) (hlocks : meth.locks = false) (hd : decode c.code pc = .ok (.lreturn, 1))
    (hc : cells ≤ R.cells) (hs : slots ≤ R.slots) (hQ : Q (some (.long z)) T.heap locs) : own_Fin p.tables e below s R Q T (mkF m pc Ls (.long z :: rest)) :=
  own_ret X (fun h => by rw [hret] at h; cases h) hlocks hc hs hQ fun fs hr => retOut X hx hret rfl (Or.inr (Or.inl ⟨rfl, rfl, _, rfl⟩)) hd hr
theorem own_retA {pc : Nat} {Ls : Array Slot} {t : FieldType} {b : Addr} {rest : List Value} (X : Stand p l e R s m args below meth c T locs cells slots) (hx : p.tables.exec = Jvm.exec) (hret : meth.sig.returnType = some t) (ht : t.isReference = true) (hn : narrow t (.ref b) = .ref b) (hlocks : meth.locks = false) (hd : decode c.code pc = .ok (.areturn, 1))
    (hc : cells ≤ R.cells) (hs : slots ≤ R.slots) (hQ : Q (some (.ref b)) T.heap locs) : own_Fin p.tables e below s R Q T (mkF m pc Ls (.ref b :: rest)) :=
  own_ret X (fun h => by rw [hret] at h; cases h) hlocks hc hs hQ fun fs hr => retOut X hx hret hn (Or.inr (Or.inr (Or.inr (Or.inr ⟨rfl, ht, rfl⟩)))) hd hr
theorem own_retN {pc : Nat} {Ls : Array Slot} {t : FieldType} {z : Int32} {rest : List Value} (X : Stand p l e R s m args below meth c T locs cells slots) (hx : p.tables.exec = Jvm.exec) (hret : meth.sig.returnType = some t) (ht : t = .boolean ∨ t = .byte ∨ t = .char ∨ t = .short) (hlocks : meth.locks = false) (hd : decode c.code pc = .ok (.ireturn, 1))
    (hc : cells ≤ R.cells) (hs : slots ≤ R.slots) (hQ : Q (some (.int (nar t z))) T.heap locs) : own_Fin p.tables e below s R Q T (mkF m pc Ls (.int z :: rest)) :=
  own_ret X (fun h => by rw [hret] at h; cases h) hlocks hc hs hQ fun fs hr => retN X hx hret ht hd hr
theorem own_retV {pc : Nat} {Ls : Array Slot} (X : Stand p l e R s m args below meth c T locs cells slots) (hx : p.tables.exec = Jvm.exec) (hret : meth.sig.returnType = none) (hlocks : meth.locks = false) (hd : decode c.code pc = .ok (.return_, 1))
    (hc : cells ≤ R.cells) (hs : slots ≤ R.slots) (hQ : Q none T.heap locs) : own_Fin p.tables e below s R Q T (mkF m pc Ls []) :=
  own_ret X (fun _ => rfl) hlocks hc hs hQ fun fs hr => X.returnOut hx hret hd hr
theorem own_iaload {n : Nat} {f : Nat → Value} {a : Addr} {j : Int32} {v : Value} {g : JFrame} {rest : List Value} (X : Stand p l e R s m args below meth c T locs cells slots) (hx : p.tables.exec = Jvm.exec) (hZ : Z.Warmed39 s.vm) (eT : T.heap = h) (F : own_A Z h a .int n f) (hj : ¬ (j < 0 ∨ n ≤ j.toNatClampNeg)) (hv : f j.toNatClampNeg = v)
    (hg : g.method = m) (hs : g.stack = .int j :: .ref a :: rest) (hd : decode c.code g.pc = .ok (.iaload, 1)) (t : State) (k : Steps p.tables e below (T.setTop { g with pc := g.pc + 1, stack := v :: rest }) t) : Steps p.tables e below (T.setTop g) t := by
  obtain ⟨cl, A, r1, r2⟩ := F
  exact X.iaload hx (by rw [eT]; exact A.1) (State.isArrayOf_alike hZ.alike A.2.1) A.2.2 (by rw [r1]; exact hj) (by rw [r2 _ (Nat.lt_of_not_le fun q => hj (Or.inr q)), hv]) hg hs hd t k
theorem own_laload {n : Nat} {f : Nat → Value} {a : Addr} {j : Int32} {v : Value} {g : JFrame} {rest : List Value} (X : Stand p l e R s m args below meth c T locs cells slots) (hx : p.tables.exec = Jvm.exec) (hZ : Z.Warmed39 s.vm) (eT : T.heap = h) (F : own_A Z h a .long n f) (hj : ¬ (j < 0 ∨ n ≤ j.toNatClampNeg)) (hv : f j.toNatClampNeg = v)
    (hg : g.method = m) (hs : g.stack = .int j :: .ref a :: rest) (hd : decode c.code g.pc = .ok (.laload, 1)) (t : State) (k : Steps p.tables e below (T.setTop { g with pc := g.pc + 1, stack := v :: rest }) t) : Steps p.tables e below (T.setTop g) t := by
  obtain ⟨cl, A, r1, r2⟩ := F
  exact X.laload hx (by rw [eT]; exact A.1) (State.isArrayOf_alike hZ.alike A.2.1) A.2.2 (by rw [r1]; exact hj) (by rw [r2 _ (Nat.lt_of_not_le fun q => hj (Or.inr q)), hv]) hg hs hd t k
theorem own_baload {n : Nat} {f : Nat → Value} {a : Addr} {j : Int32} {v : Value} {g : JFrame} {rest : List Value} (X : Stand p l e R s m args below meth c T locs cells slots) (hx : p.tables.exec = Jvm.exec) (hZ : Z.Warmed39 s.vm) (eT : T.heap = h) (F : own_A Z h a .byte n f) (hj : ¬ (j < 0 ∨ n ≤ j.toNatClampNeg)) (hv : f j.toNatClampNeg = v)
    (hg : g.method = m) (hs : g.stack = .int j :: .ref a :: rest) (hd : decode c.code g.pc = .ok (.baload, 1)) (t : State) (k : Steps p.tables e below (T.setTop { g with pc := g.pc + 1, stack := v :: rest }) t) : Steps p.tables e below (T.setTop g) t := by
  obtain ⟨cl, A, r1, r2⟩ := F
  exact X.baloadBytes hx (by rw [eT]; exact A.1) (State.isArrayOf_alike hZ.alike A.2.1) A.2.2 (by rw [r1]; exact hj) (by rw [r2 _ (Nat.lt_of_not_le fun q => hj (Or.inr q)), hv]) hg hs hd t k
theorem own_alen {ty : FieldType} {n : Nat} {f : Nat → Value} {a : Addr} {z : Int32} {g : JFrame} {rest : List Value} (X : Stand p l e R s m args below meth c T locs cells slots) (hx : p.tables.exec = Jvm.exec) (hZ : Z.Warmed39 s.vm) (eT : T.heap = h) (F : own_A Z h a ty n f) (hz : n.toInt32 = z)
    (hg : g.method = m) (hs : g.stack = .ref a :: rest) (hd : decode c.code g.pc = .ok (.arraylength, 1)) (t : State) (k : Steps p.tables e below (T.setTop { g with pc := g.pc + 1, stack := .int z :: rest }) t) : Steps p.tables e below (T.setTop g) t := by
  obtain ⟨cl, A, r1, r2⟩ := F
  subst hz
  exact X.arraylength hx (by rw [eT]; exact A.1) (State.isArrayOf_alike hZ.alike A.2.1) hg hs hd t (by rw [r1]; exact k)
theorem own_iastore {n : Nat} {f : Nat → Value} {a : Addr} {j x : Int32} {g : JFrame} {rest : List Value} (X : Stand p l e R s m args below meth c T locs cells slots) (hx : p.tables.exec = Jvm.exec) (hZ : Z.Warmed39 s.vm) (eT : T.heap = h) (F : own_A Z h a .int n f) (hj : ¬ (j < 0 ∨ n ≤ j.toNatClampNeg))
    (hg : g.method = m) (hs : g.stack = .int x :: .int j :: .ref a :: rest) (hd : decode c.code g.pc = .ok (.iastore, 1)) :
    ∃ T' h', Stand p l e R s m args below meth c T' (locs ++ [⟨a, j.toNatClampNeg⟩]) cells slots ∧ T'.heap = h' ∧ Wr h h' a j.toNatClampNeg (.int x) ∧ ∀ target, Steps p.tables e below (T'.setTop { g with pc := g.pc + 1, stack := rest }) target → Steps p.tables e below (T.setTop g) target := by
  obtain ⟨cl, A, r1, r2⟩ := F
  exact stI X hx hZ eT A (by rw [r1]; exact hj) hg hs hd
theorem own_lastore {n : Nat} {f : Nat → Value} {a : Addr} {j : Int32} {x : Int64} {g : JFrame} {rest : List Value} (X : Stand p l e R s m args below meth c T locs cells slots) (hx : p.tables.exec = Jvm.exec) (hZ : Z.Warmed39 s.vm) (eT : T.heap = h) (F : own_A Z h a .long n f) (hj : ¬ (j < 0 ∨ n ≤ j.toNatClampNeg))
    (hg : g.method = m) (hs : g.stack = .long x :: .int j :: .ref a :: rest) (hd : decode c.code g.pc = .ok (.lastore, 1)) :
    ∃ T' h', Stand p l e R s m args below meth c T' (locs ++ [⟨a, j.toNatClampNeg⟩]) cells slots ∧ T'.heap = h' ∧ Wr h h' a j.toNatClampNeg (.long x) ∧ ∀ target, Steps p.tables e below (T'.setTop { g with pc := g.pc + 1, stack := rest }) target → Steps p.tables e below (T.setTop g) target := by
  obtain ⟨cl, A, r1, r2⟩ := F
  exact stJ X hx hZ eT A (by rw [r1]; exact hj) hg hs hd
theorem own_bastore {n : Nat} {f : Nat → Value} {a : Addr} {j x : Int32} {g : JFrame} {rest : List Value} (X : Stand p l e R s m args below meth c T locs cells slots) (hx : p.tables.exec = Jvm.exec) (hZ : Z.Warmed39 s.vm) (eT : T.heap = h) (F : own_A Z h a .byte n f) (hj : ¬ (j < 0 ∨ n ≤ j.toNatClampNeg))
    (hg : g.method = m) (hs : g.stack = .int x :: .int j :: .ref a :: rest) (hd : decode c.code g.pc = .ok (.bastore, 1)) :
    ∃ T' h', Stand p l e R s m args below meth c T' (locs ++ [⟨a, j.toNatClampNeg⟩]) cells slots ∧ T'.heap = h' ∧ Wr h h' a j.toNatClampNeg (.int (nar .byte x)) ∧ ∀ target, Steps p.tables e below (T'.setTop { g with pc := g.pc + 1, stack := rest }) target → Steps p.tables e below (T.setTop g) target := by
  obtain ⟨cl, A, r1, r2⟩ := F
  exact stB X hx hZ eT A (by rw [r1]; exact hj) hg hs hd
theorem own_newarr {aty : ArrayType} {n : Int32} {rest : List Value} {g : JFrame} (X : Stand p l e R s m args below meth c T locs cells slots) (hx : p.tables.exec = Jvm.exec) (hZ : Z.Warmed39 s.vm) (w : (Jvm.Cond.arrayClass (newarray.typeOf aty)).before a0 Z = true) (eT : T.heap = h) (hg : g.method = m) (hd : decode c.code g.pc = .ok (.newarray aty, 2)) (hs : g.stack = .int n :: rest)
    (hn : ¬ n < 0) {cap : Nat} (hcap : n.toNatClampNeg ≤ cap) (hb : cap * 8 ≤ 536870912) (hc : cells + 1 ≤ R.cells) (hl : slots + cap ≤ R.slots) :
    ∃ T' h' a, Stand p l e R s m args below meth c T' locs (cells + 1) (slots + cap) ∧ T'.heap = h' ∧ a = h.size ∧ Ext h h' ∧ own_A Z h' a (newarray.typeOf aty) n.toNatClampNeg (fun _ => defaultValue (newarray.typeOf aty)) ∧
      ∀ target, Steps p.tables e below (T'.setTop { g with pc := g.pc + 2, stack := .ref a :: rest }) target → Steps p.tables e below (T.setTop g) target := by
  obtain ⟨T', h', cA, X', e', E', A', st⟩ := newP X hx hZ w eT hg hd hs hn hcap hb hc hl
  exact ⟨T', h', _, X', e', rfl, E', own_A.new A', st⟩
theorem own_new {own C : String} {index n : Nat} {g : JFrame} (X : Stand p l e R s m args below meth c T locs cells slots) (hx : p.tables.exec = Jvm.exec) (hZ : Z.Warmed39 s.vm) (hown : s.vm.findClass own = some m.cls) (w : (Jvm.Cond.classLink own index C).before a0 Z = true) (wi : (Jvm.Cond.instantiable C n).before a0 Z = true) (wz : (Jvm.Cond.initialized C).before a0 Z = true) (eT : T.heap = h)
    (hg : g.method = m) (hd : decode c.code g.pc = .ok (.new index, 3)) (hc : cells + 1 ≤ R.cells) (hl : slots + n ≤ R.slots) :
    ∃ T' h' a, Stand p l e R s m args below meth c T' locs (cells + 1) (slots + n) ∧ T'.heap = h' ∧ a = h.size ∧ Ext h h' ∧ Exa Z h' a C ∧ (∀ {O nm d : String} {ty : FieldType}, Laid Z a0 C O nm d → parseFieldDescriptor d = some ty → Fld Z h' a O nm d (defaultValue ty)) ∧
      ∀ target, Steps p.tables e below (T'.setTop { g with pc := g.pc + 3, stack := .ref a :: g.stack }) target → Steps p.tables e below (T.setTop g) target := by
  obtain ⟨T', h', X', e', E', A', D', -, st⟩ := newO X hx hZ hown w wi wz eT hg hd hc hl
  exact ⟨T', h', _, X', e', rfl, E', A', D', st⟩
theorem own_body {y : MethodName} {bytes : ByteArray} {maxL : Nat} {ret : Option FieldType} {ws : List Jvm.Cond} {rm : Room} {as' : Array Value} {h0 : Heap} (hpl : plainFor y = true)
    (body : ∀ (p : Program) (e : Env) (s : State) (m : MethodId) (below : List Frame) (meth : Method) (c : Code) (s₁ : State), p.tables.exec = Jvm.exec → c.code = bytes → c.maxLocals = maxL → s.vm.findClass y.cls = some m.cls → meth.name = y.name → meth.sig.returnType = ret → meth.locks = false → Z.Warmed39 s.vm → Stand p l e rm s m as' below meth c s₁ [] 0 0 → s₁.heap = h0 → own_Fin p.tables e below s rm Q s₁ (entryFrame m as' maxL)) :
    MetFree l y (head1 (Jvm.Cond.code y bytes maxL ret :: ws) rm) (fun a U => a = as' ∧ Z.Warmed39 U.vm ∧ U.heap = h0) (fun _ _ _ _ _ => True) (fun _ U o U' => ∃ v L, o = .returned v ∧ Q v U'.heap L ∧ FrameEnd U o U' L rm.cells rm.slots) := by
  refine MetFree.of_bodySF hpl hisR ?_
  intro p e s m args below meth c s₁ Bd hml0 hP hK
  obtain ⟨rfl, hZ, hh⟩ := hP
  exact body p e s m below meth c s₁ Bd.exec Bd.bytes hml0 (findClass_of_methodNamed Bd.named) (name_of_methodNamed Bd.named Bd.method).1 Bd.returns Bd.notSynchronized hZ (Stand.of_body Bd) (by rw [← hh, Bd.state]; rfl)
theorem own_callS {own : String} {index : Nat} {y : MethodName} {bytes : ByteArray} {maxL W : Nat} {ret : Option FieldType} {rm : Room} {as' : Array Value} {g : JFrame} {argsL rest : List Value}
    (X : Stand p l e R s m args below meth c T locs cells slots) (hx : p.tables.exec = Jvm.exec) (hZ : Z.Warmed39 s.vm) (hown : s.vm.findClass own = some m.cls)
    (w1 : (Jvm.Cond.methodLink own index y).before a0 Z = true) (w2 : (Jvm.Cond.static y).before a0 Z = true) (w3 : (Jvm.Cond.initialized y.cls).before a0 Z = true) (w4 : (Jvm.Cond.code y bytes maxL ret).before a0 Z = true)
    (hy : y.cls ≠ "java/lang/invoke/MethodHandle" ∧ y.cls ≠ "java/lang/invoke/VarHandle") (eT : T.heap = h)
    (hM : MetFree l y (head1 [Jvm.Cond.code y bytes maxL ret] rm) (fun a U => a = as' ∧ Z.Warmed39 U.vm ∧ U.heap = h) (fun _ _ _ _ _ => True) (fun _ U o U' => ∃ v L, o = .returned v ∧ Q v U'.heap L ∧ FrameEnd U o U' L rm.cells rm.slots))
    (hf : rm.frames + 1 ≤ R.frames) (hl : W + (maxL + 11) + rm.locals ≤ R.locals) (hg : g.method = m) (hsize : g.locals.size = c.maxLocals) (hlen : ∀ sig, parseMethodDescriptor y.desc = some sig → argsL.length = sig.parameters.length)
    (hstack : g.stack = argsL.reverse ++ rest) (has : argsL.toArray = as') (hW : 2 * g.monitorRoom + (rest.map fun v => v.category).sum ≤ W) (hdg : decode c.code g.pc = .ok (.invokestatic index, 3)) (hc : cells + rm.cells ≤ R.cells) (hs : slots + rm.slots ≤ R.slots) :
    ∃ (v : Option Value) (T' : State) (L : List Loc), Stand p l e R s m args below meth c T' (locs ++ L) (cells + rm.cells) (slots + rm.slots) ∧ Q v T'.heap L ∧
      ∀ target, Steps p.tables e below (T'.setTop { g with pc := g.pc + 3, stack := v.toList ++ rest }) target → Steps p.tables e below (T.setTop g) target := by
  obtain ⟨v, _, ⟨T', L', k', n'⟩, -, X', ⟨Lc, hQ, l', y', z'⟩, st⟩ := Jvm.LawKit.callS X hx (y := y) hown (mvT hZ w1) (mvT hZ w2) (mvT hZ w3) (mvT hZ w4) hy (backOf (W := W) hM hZ w4 w3 hf hl) hg hsize hlen hstack hW hdg (fun _ _ => ⟨has, eT, hc, hs⟩)
  dsimp only [Pt.U, Pt.locs, Pt.cells, Pt.slots] at X' l' y' z' st hQ
  subst l' y' z'
  exact ⟨v, T', Lc, X', hQ, st⟩
theorem own_callN {own : String} {index : Nat} {y : MethodName} {bytes : ByteArray} {maxL W : Nat} {rm : Room} {as' : Array Value} {g : JFrame} {a : Addr} {argsL rest : List Value}
    (X : Stand p l e R s m args below meth c T locs cells slots) (hx : p.tables.exec = Jvm.exec) (hZ : Z.Warmed39 s.vm) (hy1 : y.name = "<init>") (hown : s.vm.findClass own = some m.cls)
    (w1 : (Jvm.Cond.methodLink own index y).before a0 Z = true) (w2 : (Jvm.Cond.instanceMethod y).before a0 Z = true) (w3 : (Jvm.Cond.initialized y.cls).before a0 Z = true) (w4 : (Jvm.Cond.code y bytes maxL none).before a0 Z = true)
    (hy : y.cls ≠ "java/lang/invoke/MethodHandle" ∧ y.cls ≠ "java/lang/invoke/VarHandle") (eT : T.heap = h)
    (hM : MetFree l y (head1 [Jvm.Cond.code y bytes maxL none] rm) (fun a U => a = as' ∧ Z.Warmed39 U.vm ∧ U.heap = h) (fun _ _ _ _ _ => True) (fun _ U o U' => ∃ v L, o = .returned v ∧ Q v U'.heap L ∧ FrameEnd U o U' L rm.cells rm.slots))
    (hf : rm.frames + 1 ≤ R.frames) (hl : W + (maxL + 11) + rm.locals ≤ R.locals) (hg : g.method = m) (hsize : g.locals.size = c.maxLocals) (hlen : ∀ sig, parseMethodDescriptor y.desc = some sig → argsL.length = sig.parameters.length)
    (hstack : g.stack = argsL.reverse ++ .ref a :: rest) (has : (.ref a :: argsL).toArray = as') (hW : 2 * g.monitorRoom + (rest.map fun v => v.category).sum ≤ W) (hdg : decode c.code g.pc = .ok (.invokespecial index, 3)) (hc : cells + rm.cells ≤ R.cells) (hs : slots + rm.slots ≤ R.slots) :
    ∃ (v : Option Value) (T' : State) (L : List Loc), Stand p l e R s m args below meth c T' (locs ++ L) (cells + rm.cells) (slots + rm.slots) ∧ Q v T'.heap L ∧
      ∀ target, Steps p.tables e below (T'.setTop { g with pc := g.pc + 3, stack := v.toList ++ rest }) target → Steps p.tables e below (T.setTop g) target := by
  obtain ⟨v, _, ⟨T', L', k', n'⟩, -, X', ⟨Lc, hQ, l', y', z'⟩, st⟩ := X.specialBack hx (y := y) hy1 hown (mvT hZ w1) (mvT hZ w2) (mvT hZ w4) hy (backOf (W := W) hM hZ w4 w3 hf hl) hg hsize (Steps.refl _) (a := a) hlen hstack hW hdg (fun _ _ => ⟨has, eT, hc, hs⟩)
  dsimp only [Pt.U, Pt.locs, Pt.cells, Pt.slots] at X' l' y' z' st hQ
  subst l' y' z'
  exact ⟨v, T', Lc, X', hQ, fun _ k => st.trans k⟩
theorem own_callV {own C : String} {index : Nat} {y : MethodName} {bytes : ByteArray} {maxL W : Nat} {ret : Option FieldType} {rm : Room} {as' : Array Value} {g : JFrame} {a : Addr} {argsL rest : List Value}
    (X : Stand p l e R s m args below meth c T locs cells slots) (hx : p.tables.exec = Jvm.exec) (hZ : Z.Warmed39 s.vm) (hown : s.vm.findClass own = some m.cls)
    (w1 : (Jvm.Cond.methodLink own index y).before a0 Z = true) (w2 : (Jvm.Cond.declares y).before a0 Z = true) (w3 : (Jvm.Cond.selects C y y).before a0 Z = true) (w4 : (Jvm.Cond.instanceMethod y).before a0 Z = true) (w5 : (Jvm.Cond.initialized y.cls).before a0 Z = true) (w6 : (Jvm.Cond.code y bytes maxL ret).before a0 Z = true)
    (hy : y.cls ≠ "java/lang/invoke/MethodHandle" ∧ y.cls ≠ "java/lang/invoke/VarHandle") (eT : T.heap = h) (E : Exa Z h a C)
    (hM : MetFree l y (head1 [Jvm.Cond.code y bytes maxL ret] rm) (fun a U => a = as' ∧ Z.Warmed39 U.vm ∧ U.heap = h) (fun _ _ _ _ _ => True) (fun _ U o U' => ∃ v L, o = .returned v ∧ Q v U'.heap L ∧ FrameEnd U o U' L rm.cells rm.slots))
    (hf : rm.frames + 1 ≤ R.frames) (hl : W + (maxL + 11) + rm.locals ≤ R.locals) (hg : g.method = m) (hsize : g.locals.size = c.maxLocals) (hlen : ∀ sig, parseMethodDescriptor y.desc = some sig → argsL.length = sig.parameters.length)
    (hstack : g.stack = argsL.reverse ++ .ref a :: rest) (has : (.ref a :: argsL).toArray = as') (hW : 2 * g.monitorRoom + (rest.map fun v => v.category).sum ≤ W) (hdg : decode c.code g.pc = .ok (.invokevirtual index, 3)) (hc : cells + rm.cells ≤ R.cells) (hs : slots + rm.slots ≤ R.slots) :
    ∃ (v : Option Value) (T' : State) (L : List Loc), Stand p l e R s m args below meth c T' (locs ++ L) (cells + rm.cells) (slots + rm.slots) ∧ Q v T'.heap L ∧
      ∀ target, Steps p.tables e below (T'.setTop { g with pc := g.pc + 3, stack := v.toList ++ rest }) target → Steps p.tables e below (T.setTop g) target := by
  obtain ⟨cq, kq, qa, qb, qc⟩ := isOf hZ eT E
  obtain ⟨v, _, ⟨T', L', k', n'⟩, -, X', ⟨Lc, hQ, l', y', z'⟩, st⟩ := X.virtualBack hx (y := y) (z := y) hown (mvT hZ w1) (mvT hZ w2) (notFace_of_selects (args := args) (mvT hZ w3)) (mvT hZ w3) (mvT hZ w4) hy (backOf (W := W) hM hZ w6 w5 hf hl) qa qc hg hsize (Steps.refl _) hlen hstack hW hdg (fun _ _ => ⟨has, eT, hc, hs⟩)
  dsimp only [Pt.U, Pt.locs, Pt.cells, Pt.slots] at X' l' y' z' st hQ
  subst l' y' z'
  exact ⟨v, T', Lc, X', hQ, fun _ k => st.trans k⟩
end OwnStand
/-! ## walks that may intern String constants: the wide frame -/
def own_FinW (tb : Tables) (e : Env) (below : List Frame) (s : State) (R : Room) (Q : Option Value → Heap → List Loc → Prop) (T : State) (g : JFrame) : Prop :=
  ∃ s₂ o, Steps tb e below (T.setTop g) s₂ ∧ s₂.status = .running ∧ Ended s₂ below o ∧ ∃ v L, o = .returned v ∧ Q v s₂.heap L ∧ ReturnedEndW s o s₂ L R.cells R.slots
theorem own_stW {tb : Tables} {e : Env} {below : List Frame} {s : State} {R : Room} {Q : Option Value → Heap → List Loc → Prop} {T T' : State} {g g' : JFrame}
    (h : ∀ t, Steps tb e below (T'.setTop g') t → Steps tb e below (T.setTop g) t) (k : own_FinW tb e below s R Q T' g') : own_FinW tb e below s R Q T g := by
  obtain ⟨s₂, o, h1, r⟩ := k
  exact ⟨s₂, o, h _ h1, r⟩
section OwnWide
variable {p : Program} {l : Launch} {e : Env} {R : Room} {s : State} {m : MethodId} {args : Array Value} {below : List Frame} {meth : Method} {c : Code} {T : State} {locs : List Loc} {cells slots : Nat} {Q : Option Value → Heap → List Loc → Prop} {Z : State} {a0 : Array Value} {h : Heap} {vm0 : Vm} {k0 : Nat}
theorem own_retWW {v : Option Value} {g : JFrame} (X : Stand p l e R (s.setVm vm0) m args below meth c T locs cells slots) (hS : s.Since vm0 k0) (hk : k0 ≤ T.heap.size) (hv : meth.sig.returnType = none → v = none) (hlocks : meth.locks = false) (hc : cells ≤ R.cells) (hs : slots ≤ R.slots) (hQ : Q v T.heap locs)
    (hstep : ∀ fs, (∀ (f : JFrame) (acts : List Action), f.method = m → f.locked = none → f.entered = [] → (doReturn e (T.setTop f) acts v).1 = T.setFrames fs) → Steps p.tables e below (T.setTop g) (T.setFrames fs)) : own_FinW p.tables e below s R Q T g := by
  obtain ⟨fs, hr, hrun, hended, h1, h2, h3, h4⟩ := X.leaveW hS hk hv hlocks
  exact ⟨_, _, hstep fs hr, hrun, hended, _, _, rfl, hQ, h1, h2, h3, h4.mono hc hs⟩
theorem own_retVW {pc : Nat} {Ls : Array Slot} (X : Stand p l e R (s.setVm vm0) m args below meth c T locs cells slots) (hS : s.Since vm0 k0) (hk : k0 ≤ T.heap.size) (hx : p.tables.exec = Jvm.exec) (hret : meth.sig.returnType = none) (hlocks : meth.locks = false) (hd : decode c.code pc = .ok (.return_, 1))
    (hc : cells ≤ R.cells) (hs : slots ≤ R.slots) (hQ : Q none T.heap locs) : own_FinW p.tables e below s R Q T (mkF m pc Ls []) :=
  own_retWW X hS hk (fun _ => rfl) hlocks hc hs hQ fun fs hr => X.returnOut hx hret hd hr
theorem own_retAW {pc : Nat} {Ls : Array Slot} {t : FieldType} {b : Addr} {rest : List Value} (X : Stand p l e R (s.setVm vm0) m args below meth c T locs cells slots) (hS : s.Since vm0 k0) (hk : k0 ≤ T.heap.size) (hx : p.tables.exec = Jvm.exec) (hret : meth.sig.returnType = some t) (ht : t.isReference = true) (hn : narrow t (.ref b) = .ref b) (hlocks : meth.locks = false) (hd : decode c.code pc = .ok (.areturn, 1))
    (hc : cells ≤ R.cells) (hs : slots ≤ R.slots) (hQ : Q (some (.ref b)) T.heap locs) : own_FinW p.tables e below s R Q T (mkF m pc Ls (.ref b :: rest)) :=
  own_retWW X hS hk (fun h => by rw [hret] at h; cases h) hlocks hc hs hQ fun fs hr => retOut X hx hret hn (Or.inr (Or.inr (Or.inr (Or.inr ⟨rfl, ht, rfl⟩)))) hd hr
theorem own_retNW {pc : Nat} {Ls : Array Slot} {t : FieldType} {z : Int32} {rest : List Value} (X : Stand p l e R (s.setVm vm0) m args below meth c T locs cells slots) (hS : s.Since vm0 k0) (hk : k0 ≤ T.heap.size) (hx : p.tables.exec = Jvm.exec) (hret : meth.sig.returnType = some t) (ht : t = .boolean ∨ t = .byte ∨ t = .char ∨ t = .short) (hlocks : meth.locks = false) (hd : decode c.code pc = .ok (.ireturn, 1))
    (hc : cells ≤ R.cells) (hs : slots ≤ R.slots) (hQ : Q (some (.int (nar t z))) T.heap locs) : own_FinW p.tables e below s R Q T (mkF m pc Ls (.int z :: rest)) :=
  own_retWW X hS hk (fun h => by rw [hret] at h; cases h) hlocks hc hs hQ fun fs hr => retN X hx hret ht hd hr
theorem own_bodyW {y : MethodName} {bytes : ByteArray} {maxL : Nat} {ret : Option FieldType} {ws : List Jvm.Cond} {rm : Room} {as' : Array Value} {h0 : Heap} (hpl : plainFor y = true)
    (body : ∀ (p : Program) (e : Env) (s : State) (m : MethodId) (below : List Frame) (meth : Method) (c : Code) (s₁ : State), p.tables.exec = Jvm.exec → c.code = bytes → c.maxLocals = maxL → (s.setVm s.vm).vm.findClass y.cls = some m.cls → meth.name = y.name → meth.sig.returnType = ret → meth.locks = false → Z.Warmed39 (s.setVm s.vm).vm → Stand p l e rm (s.setVm s.vm) m as' below meth c s₁ [] 0 0 → s₁.heap = h0 → s.Since s.vm 0 → own_FinW p.tables e below s rm Q s₁ (entryFrame m as' maxL)) :
    MetFree l y (head1 (Jvm.Cond.code y bytes maxL ret :: ws) rm) (fun a U => a = as' ∧ Z.Warmed39 U.vm ∧ U.heap = h0) (fun _ _ _ _ _ => True) (fun _ U o U' => ∃ v L, o = .returned v ∧ Q v U'.heap L ∧ ReturnedEndW U o U' L rm.cells rm.slots) := by
  refine MetFree.of_bodySF hpl hisR ?_
  intro p e s m args below meth c s₁ Bd hml0 hP hK
  obtain ⟨rfl, hZ, hh⟩ := hP
  exact body p e s m below meth c s₁ Bd.exec Bd.bytes hml0 (findClass_of_methodNamed Bd.named) (name_of_methodNamed Bd.named Bd.method).1 Bd.returns Bd.notSynchronized hZ (Stand.of_body Bd) (by rw [← hh, Bd.state]; rfl) ((State.WarmedH.refl s).since 0)
theorem own_callNW {own : String} {index : Nat} {y : MethodName} {bytes : ByteArray} {maxL W : Nat} {rm : Room} {as' : Array Value} {g : JFrame} {a : Addr} {argsL rest : List Value}
    (X : Stand p l e R (s.setVm vm0) m args below meth c T locs cells slots) (hS : s.Since vm0 k0) (hk : k0 ≤ h.size) (hx : p.tables.exec = Jvm.exec) (hZ : Z.Warmed39 (s.setVm vm0).vm) (hy1 : y.name = "<init>") (hown : (s.setVm vm0).vm.findClass own = some m.cls)
    (w1 : (Jvm.Cond.methodLink own index y).before a0 Z = true) (w2 : (Jvm.Cond.instanceMethod y).before a0 Z = true) (w3 : (Jvm.Cond.initialized y.cls).before a0 Z = true) (w4 : (Jvm.Cond.code y bytes maxL none).before a0 Z = true)
    (hy : y.cls ≠ "java/lang/invoke/MethodHandle" ∧ y.cls ≠ "java/lang/invoke/VarHandle") (eT : T.heap = h)
    (hM : MetFree l y (head1 [Jvm.Cond.code y bytes maxL none] rm) (fun a U => a = as' ∧ Z.Warmed39 U.vm ∧ U.heap = h) (fun _ _ _ _ _ => True) (fun _ U o U' => ∃ v L, o = .returned v ∧ Q v U'.heap L ∧ ReturnedEndW U o U' L rm.cells rm.slots))
    (hf : rm.frames + 1 ≤ R.frames) (hl : W + (maxL + 11) + rm.locals ≤ R.locals) (hg : g.method = m) (hsize : g.locals.size = c.maxLocals) (hlen : ∀ sig, parseMethodDescriptor y.desc = some sig → argsL.length = sig.parameters.length)
    (hstack : g.stack = argsL.reverse ++ .ref a :: rest) (has : (.ref a :: argsL).toArray = as') (hW : 2 * g.monitorRoom + (rest.map fun v => v.category).sum ≤ W) (hdg : decode c.code g.pc = .ok (.invokespecial index, 3)) (hc : cells + rm.cells ≤ R.cells) (hs : slots + rm.slots ≤ R.slots) :
    ∃ (v : Option Value) (T' : State) (L : List Loc), Stand p l e R (s.setVm T'.vm) m args below meth c T' (locs ++ L) (cells + rm.cells) (slots + rm.slots) ∧ Q v T'.heap L ∧ s.Since T'.vm T'.heap.size ∧ Z.Warmed39 (s.setVm T'.vm).vm ∧ (s.setVm T'.vm).vm.findClass own = some m.cls ∧
      ∀ target, Steps p.tables e below (T'.setTop { g with pc := g.pc + 3, stack := v.toList ++ rest }) target → Steps p.tables e below (T.setTop g) target := by
  obtain ⟨v, _, ⟨T', L', k', n'⟩, -, X', hS2, hgr, ⟨Lc, hQ, l', y', z'⟩, st⟩ := X.specialBackS hx (y := y) hy1 hown (mvT hZ w1) (mvT hZ w2) (mvT hZ w4) hy (backOfS (W := W) hM hZ w4 w3 hf hl) hg hsize (Steps.refl _) (a := a) hlen hstack hW hdg (fun _ _ => ⟨has, eT, hc, hs⟩)
  dsimp only [Pt.U, Pt.locs, Pt.cells, Pt.slots] at X' l' y' z' st hQ hS2 hgr
  subst l' y' z'
  obtain ⟨X2, hS3, hZ3, hown3⟩ := rebS hS hk X' hS2 (by rw [← eT]; exact hgr) hZ hown
  exact ⟨v, T', Lc, X2, hQ, hS3, hZ3, hown3, fun _ k => st.trans k⟩
theorem own_callVW {own C : String} {index : Nat} {y : MethodName} {bytes : ByteArray} {maxL W : Nat} {ret : Option FieldType} {rm : Room} {as' : Array Value} {g : JFrame} {a : Addr} {argsL rest : List Value}
    (X : Stand p l e R (s.setVm vm0) m args below meth c T locs cells slots) (hS : s.Since vm0 k0) (hk : k0 ≤ h.size) (hx : p.tables.exec = Jvm.exec) (hZ : Z.Warmed39 (s.setVm vm0).vm) (hown : (s.setVm vm0).vm.findClass own = some m.cls)
    (w1 : (Jvm.Cond.methodLink own index y).before a0 Z = true) (w2 : (Jvm.Cond.declares y).before a0 Z = true) (w3 : (Jvm.Cond.selects C y y).before a0 Z = true) (w4 : (Jvm.Cond.instanceMethod y).before a0 Z = true) (w5 : (Jvm.Cond.initialized y.cls).before a0 Z = true) (w6 : (Jvm.Cond.code y bytes maxL ret).before a0 Z = true)
    (hy : y.cls ≠ "java/lang/invoke/MethodHandle" ∧ y.cls ≠ "java/lang/invoke/VarHandle") (eT : T.heap = h) (E : Exa Z h a C)
    (hM : MetFree l y (head1 [Jvm.Cond.code y bytes maxL ret] rm) (fun a U => a = as' ∧ Z.Warmed39 U.vm ∧ U.heap = h) (fun _ _ _ _ _ => True) (fun _ U o U' => ∃ v L, o = .returned v ∧ Q v U'.heap L ∧ ReturnedEndW U o U' L rm.cells rm.slots))
    (hf : rm.frames + 1 ≤ R.frames) (hl : W + (maxL + 11) + rm.locals ≤ R.locals) (hg : g.method = m) (hsize : g.locals.size = c.maxLocals) (hlen : ∀ sig, parseMethodDescriptor y.desc = some sig → argsL.length = sig.parameters.length)
    (hstack : g.stack = argsL.reverse ++ .ref a :: rest) (has : (.ref a :: argsL).toArray = as') (hW : 2 * g.monitorRoom + (rest.map fun v => v.category).sum ≤ W) (hdg : decode c.code g.pc = .ok (.invokevirtual index, 3)) (hc : cells + rm.cells ≤ R.cells) (hs : slots + rm.slots ≤ R.slots) :
    ∃ (v : Option Value) (T' : State) (L : List Loc), Stand p l e R (s.setVm T'.vm) m args below meth c T' (locs ++ L) (cells + rm.cells) (slots + rm.slots) ∧ Q v T'.heap L ∧ s.Since T'.vm T'.heap.size ∧ Z.Warmed39 (s.setVm T'.vm).vm ∧ (s.setVm T'.vm).vm.findClass own = some m.cls ∧
      ∀ target, Steps p.tables e below (T'.setTop { g with pc := g.pc + 3, stack := v.toList ++ rest }) target → Steps p.tables e below (T.setTop g) target := by
  obtain ⟨cq, kq, qa, qb, qc⟩ := isOf hZ eT E
  obtain ⟨v, _, ⟨T', L', k', n'⟩, -, X', hS2, hgr, ⟨Lc, hQ, l', y', z'⟩, st⟩ := X.virtualBackS hx (y := y) (z := y) hown (mvT hZ w1) (mvT hZ w2) (notFace_of_selects (args := args) (mvT hZ w3)) (mvT hZ w3) (mvT hZ w4) hy (backOfS (W := W) hM hZ w6 w5 hf hl) qa qc hg hsize (Steps.refl _) hlen hstack hW hdg (fun _ _ => ⟨has, eT, hc, hs⟩)
  dsimp only [Pt.U, Pt.locs, Pt.cells, Pt.slots] at X' l' y' z' st hQ hS2 hgr
  subst l' y' z'
  obtain ⟨X2, hS3, hZ3, hown3⟩ := rebS hS hk X' hS2 (by rw [← eT]; exact hgr) hZ hown
  exact ⟨v, T', Lc, X2, hQ, hS3, hZ3, hown3, fun _ k => st.trans k⟩
theorem own_newarrE {n : Int32} {rest : List Value} {g : JFrame} (X : Stand p l e R s m args below meth c T locs cells slots) (hx : p.tables.exec = Jvm.exec) (hZ : Z.Warmed39 s.vm) (w : (Jvm.Cond.arrayClass .byte).before a0 Z = true) (eT : T.heap = h) (hg : g.method = m) (hd : decode c.code g.pc = .ok (.newarray .byte, 2)) (hs : g.stack = .int n :: rest)
    (hn : ¬ n < 0) {cap : Nat} (hcap : n.toNatClampNeg ≤ cap) (hb : cap * 8 ≤ 536870912) (hc : cells + 1 ≤ R.cells) (hl : slots + cap ≤ R.slots) :
    ∃ T' h' a, Stand p l e R s m args below meth c T' locs (cells + 1) (slots + cap) ∧ T'.heap = h' ∧ a = h.size ∧ Ext h h' ∧ own_A Z h' a .byte n.toNatClampNeg (fun _ => .int (0 : Int32)) ∧ Exa Z h' a "[B" ∧
      ∀ target, Steps p.tables e below (T'.setTop { g with pc := g.pc + 2, stack := .ref a :: rest }) target → Steps p.tables e below (T.setTop g) target := by
  obtain ⟨T', h', cA, X', e', E', A', Ex, st⟩ := newPE X hx hZ (aty := .byte) w eT hg hd hs hn hcap hb hc hl (ad := "[B") (by decide)
  exact ⟨T', h', _, X', e', rfl, E', own_A.new A', Ex, st⟩
theorem own_clone {own : String} {index n : Nat} {gf : Nat → Int32} {a : Addr} {g : JFrame} {rest : List Value} (X : Stand p l e R s m args below meth c T locs cells slots) (hx : p.tables.exec = Jvm.exec) (hZ : Z.Warmed39 s.vm) (hown : s.vm.findClass own = some m.cls)
    (w1 : (Jvm.Cond.methodLink own index ⟨"[B", "clone", "()Ljava/lang/Object;"⟩).before a0 Z = true) (w2 : (Jvm.Cond.sameMethod "[B" "java/lang/Object" "clone" "()Ljava/lang/Object;").before a0 Z = true) (w3 : (Jvm.Cond.native ⟨"java/lang/Object", "clone", "()Ljava/lang/Object;"⟩).before a0 Z = true)
    (w4 : (Jvm.Cond.instanceMethod ⟨"java/lang/Object", "clone", "()Ljava/lang/Object;"⟩).before a0 Z = true) (w5 : (Jvm.Cond.selects "[B" ⟨"[B", "clone", "()Ljava/lang/Object;"⟩ ⟨"java/lang/Object", "clone", "()Ljava/lang/Object;"⟩).before a0 Z = true) (w6 : (Jvm.Cond.castable "[B" "java/lang/Cloneable").before a0 Z = true)
    (eT : T.heap = h) (A : own_A Z h a .byte n (fun i => .int (gf i))) (E : Exa Z h a "[B") (hfit : ∀ i, i < n → fits .byte (.int (gf i)) = true) (hg : g.method = m) (hsize : g.locals.size = c.maxLocals) (hs : g.stack = .ref a :: rest) (hd : decode c.code g.pc = .ok (.invokevirtual index, 3))
    (hf : 1 ≤ R.frames) {W cap : Nat} (hW : 2 * g.monitorRoom + (rest.map fun v => v.category).sum ≤ W) (hl : W + 14 ≤ R.locals) (hcap : n ≤ cap) (hc : cells + 1 ≤ R.cells) (hsl : slots + cap ≤ R.slots) :
    ∃ T' h' b, Stand p l e R s m args below meth c T' locs (cells + 1) (slots + cap) ∧ T'.heap = h' ∧ b = h.size ∧ Ext h h' ∧ own_A Z h' b .byte n (fun i => .int (gf i)) ∧ Exa Z h' b "[B" ∧
      ∀ target, Steps p.tables e below (T'.setTop { g with pc := g.pc + 3, stack := .ref b :: rest }) target → Steps p.tables e below (T.setTop g) target := by
  obtain ⟨cl, A1, s1, s2⟩ := A
  have FC : FitC Z cl := fitC_of A1 fun i hi v hv => by rw [s2 i (by omega)] at hv; cases hv; exact hfit i (by omega)
  obtain ⟨T', h', X', e', ex, A', E', st⟩ := cloneA X hx hZ hown w1 w2 w3 w4 w5 w6 eT A1 E FC hg hsize hs hd hf hW hl (by rw [s1]; exact hcap) hc hsl
  exact ⟨T', h', _, X', e', rfl, ex, ⟨cloneOf cl, A', s1, s2⟩, E', st⟩
end OwnWide

theorem own_idx (j : Int32) (n : Nat) (h0 : 0 ≤ j.toInt) (h1 : j.toInt < n) : ¬ (j < 0 ∨ n ≤ j.toNatClampNeg) := by
  have e : j.toNatClampNeg = j.toInt.toNat := rfl
  intro q
  rcases q with q | q
  · rw [Int32.lt_iff_toInt_lt] at q
    have : (0 : Int32).toInt = 0 := by decide
    omega
  · omega
theorem own_clamp (j : Int32) (k : Nat) (h : j.toInt = k) : j.toNatClampNeg = k := by
  have e : j.toNatClampNeg = j.toInt.toNat := rfl
  omega
theorem own_lt32 (x y : Int32) : x < y ↔ x.toInt < y.toInt := Int32.lt_iff_toInt_lt
theorem own_eq32 (x y : Int32) : x = y ↔ x.toInt = y.toInt := Int32.toInt_inj.symm
def own_in (x : Int32) (b : Int32) : Prop := ¬ x < 0 ∧ ¬ b < x
theorem own_in_of (x b : Int32) (h0 : 0 ≤ x.toInt) (h1 : x.toInt ≤ b.toInt) : own_in x b := by
  have k0 : (0 : Int32).toInt = 0 := by decide
  exact ⟨by rw [own_lt32]; omega, by rw [own_lt32]; omega⟩
theorem own_in255 (x : Int32) : own_in (x &&& 255) 255 := by
  have h := c_mask x 255 8 (by decide) (by decide)
  exact own_in_of _ _ (by omega) (by have k : (255 : Int32).toInt = 255 := (by decide); omega)
theorem own_in256 (x : Int32) : own_in ((x &&& 2147483647) % 257) 256 := by
  have h1 := c_mask x 2147483647 31 (by decide) (by decide)
  have h2 := (c_irem (x &&& 2147483647) 257 257 (by decide)).1 (by omega)
  exact own_in_of _ _ (by omega) (by have k : (256 : Int32).toInt = 256 := (by decide); omega)
theorem own_strs {Z : State} {a0 : Array Value} (hw : ∀ d ∈ tables_1, d.before a0 Z = true) : ∀ d ∈ Bundle.stringAtoms, d.before a0 Z = true := by
  intro d hd
  simp only [Bundle.stringAtoms, List.mem_cons, List.not_mem_nil, or_false] at hd
  rcases hd with rfl | rfl | rfl | rfl | rfl | rfl | rfl
  · exact hw _ (List.mem_of_getElem? (i := 11) rfl)
  · exact hw _ (List.mem_of_getElem? (i := 12) rfl)
  · exact hw _ (List.mem_of_getElem? (i := 0) rfl)
  · exact hw _ (List.mem_of_getElem? (i := 13) rfl)
  · exact hw _ (List.mem_of_getElem? (i := 14) rfl)
  · exact hw _ (List.mem_of_getElem? (i := 15) rfl)
  · exact hw _ (List.mem_of_getElem? (i := 16) rfl)
theorem d3_0 : decode prog_45_method_25_code 0 = .ok (.iload_n 1, 1) := by decide +kernel
theorem d3_1 : decode prog_45_method_25_code 1 = .ok (.ifCond .lt 10, 3) := by decide +kernel
theorem d3_4 : decode prog_45_method_25_code 4 = .ok (.iload_n 1, 1) := by decide +kernel
theorem d3_5 : decode prog_45_method_25_code 5 = .ok (.sipush 255, 3) := by decide +kernel
theorem d3_8 : decode prog_45_method_25_code 8 = .ok (.if_icmp .le 18, 3) := by decide +kernel
theorem d3_26 : decode prog_45_method_25_code 26 = .ok (.iload_n 1, 1) := by decide +kernel
theorem d3_27 : decode prog_45_method_25_code 27 = .ok (.ireturn, 1) := by decide +kernel
theorem pn_3 : plainFor (⟨"com/example/seamark/seamark/transport/CommandApdu", "requireByte", "(Ljava/lang/String;I)I"⟩ : MethodName) = true := plainFor_of_name (by first | (simp [plainName, overriddenIn]; done) | decide +kernel)
theorem ef_3 (m : MethodId) (sa : Addr) (vx : Int32) : entryFrame m #[(.ref sa), (.int vx)] 2 = mkF m 0 #[.val (.ref sa), .val (.int vx)] [] := by first | (simp [entryFrame, mkF, argsToLocals, Value.category]; done) | rfl
def Q3 (Z : State) (sa : Addr) (vx : Int32) (hI : Heap) (n0 : Nat) (v : Option Value) (h : Heap) (L : List Loc) : Prop := v = some (.int vx) ∧ Fr n0 L ∧ h = hI
set_option maxRecDepth 65536 in
set_option maxHeartbeats 40000000 in
theorem rm3 (l : Launch) (Z : State) (a0 : Array Value) (hw : ∀ d ∈ tables_1, d.before a0 Z = true) (ws : List Jvm.Cond) (sa : Addr) (vx : Int32) (hI : Heap) (n0 : Nat) (Z0 : n0 ≤ hI.size) (hv : own_in vx 255) :
    MetFree l (⟨"com/example/seamark/seamark/transport/CommandApdu", "requireByte", "(Ljava/lang/String;I)I"⟩ : MethodName) (head1 (Jvm.Cond.code (⟨"com/example/seamark/seamark/transport/CommandApdu", "requireByte", "(Ljava/lang/String;I)I"⟩ : MethodName) prog_45_method_25_code 2 (some .int) :: ws) ({ frames := 0, cells := 0, slots := 0, locals := 0 } : Room)) (fun a₁ U₁ => a₁ = #[(.ref sa), (.int vx)] ∧ Z.Warmed39 U₁.vm ∧ U₁.heap = hI) (fun _ _ _ _ _ => True) (fun _ U₁ o₁ U₂ => ∃ v₁ L₁, o₁ = .returned v₁ ∧ Q3 Z sa vx hI n0 v₁ U₂.heap L₁ ∧ FrameEnd U₁ o₁ U₂ L₁ ({ frames := 0, cells := 0, slots := 0, locals := 0 } : Room).cells ({ frames := 0, cells := 0, slots := 0, locals := 0 } : Room).slots) := by
  refine own_body pn_3 ?_
  intro p e s m below meth c s₁ hx hby hml hown hnm hret hlk hZ XI eI
  obtain ⟨F, hF⟩ : ∃ F : State → JFrame → Prop, F = own_Fin p.tables e below s ({ frames := 0, cells := 0, slots := 0, locals := 0 } : Room) (Q3 Z sa vx hI n0) := ⟨_, rfl⟩
  have hst : ∀ {T T' : State} {g g' : JFrame}, (∀ t, Steps p.tables e below (T'.setTop g') t → Steps p.tables e below (T.setTop g) t) → F T' g' → F T g := by subst hF; exact own_st
  have NI := Fr.nil n0
  show own_Fin p.tables e below s ({ frames := 0, cells := 0, slots := 0, locals := 0 } : Room) (Q3 Z sa vx hI n0) s₁ (entryFrame m #[(.ref sa), (.int vx)] 2)
  rw [← hF]
  rw [ef_3]
  show F s₁ (mkF m 0 #[.val (.ref sa), .val (.int vx)] [])
  refine hst (fun t₀ k₀ => XS.iloadN XI.here hx rfl (hb hby d3_0) rfl k₀) ?_
  show F s₁ (mkF m 1 #[.val (.ref sa), .val (.int vx)] [(.int vx)])
  refine hst (fun t₀ k₀ => XS.ifNo XI.here hx rfl (hb hby d3_1) rfl ((if0 _ _).trans (flt hv.1).1) k₀) ?_
  show F s₁ (mkF m 4 #[.val (.ref sa), .val (.int vx)] [])
  refine hst (fun t₀ k₀ => XS.iloadN XI.here hx rfl (hb hby d3_4) rfl k₀) ?_
  show F s₁ (mkF m 5 #[.val (.ref sa), .val (.int vx)] [(.int vx)])
  refine hst (fun t₀ k₀ => XS.sipush XI.here hx rfl (hb hby d3_5) k₀) ?_
  show F s₁ (mkF m 8 #[.val (.ref sa), .val (.int vx)] [(.int (255 : Int32)), (.int vx)])
  refine hst (fun t₀ k₀ => XS.icmpYes XI.here hx rfl (pc0 := 8) (pc' := 26) rfl (hb hby d3_8) rfl (flt hv.2).2.2.2 (by decide) (by decide) k₀) ?_
  show F s₁ (mkF m 26 #[.val (.ref sa), .val (.int vx)] [])
  refine hst (fun t₀ k₀ => XS.iloadN XI.here hx rfl (hb hby d3_26) rfl k₀) ?_
  show F s₁ (mkF m 27 #[.val (.ref sa), .val (.int vx)] [(.int vx)])
  rw [hF]
  refine own_retI XI hx hret hlk (hb hby d3_27) (by decide) (by decide) ?_
  rw [eI]
  exact ⟨rfl, NI, rfl⟩
theorem d1_0 : decode prog_45_method_1_code 0 = .ok (.aload_n 0, 1) := by decide +kernel
theorem d1_1 : decode prog_45_method_1_code 1 = .ok (.invokespecial 1, 3) := by decide +kernel
theorem d1_4 : decode prog_45_method_1_code 4 = .ok (.aload_n 0, 1) := by decide +kernel
theorem d1_5 : decode prog_45_method_1_code 5 = .ok (.ldc 7, 2) := by decide +kernel
theorem d1_7 : decode prog_45_method_1_code 7 = .ok (.iload_n 1, 1) := by decide +kernel
theorem d1_8 : decode prog_45_method_1_code 8 = .ok (.invokestatic 9, 3) := by decide +kernel
theorem d1_11 : decode prog_45_method_1_code 11 = .ok (.putfield 15, 3) := by decide +kernel
theorem d1_14 : decode prog_45_method_1_code 14 = .ok (.aload_n 0, 1) := by decide +kernel
theorem d1_15 : decode prog_45_method_1_code 15 = .ok (.ldc 19, 2) := by decide +kernel
theorem d1_17 : decode prog_45_method_1_code 17 = .ok (.iload_n 2, 1) := by decide +kernel
theorem d1_18 : decode prog_45_method_1_code 18 = .ok (.invokestatic 9, 3) := by decide +kernel
theorem d1_21 : decode prog_45_method_1_code 21 = .ok (.putfield 21, 3) := by decide +kernel
theorem d1_24 : decode prog_45_method_1_code 24 = .ok (.aload_n 0, 1) := by decide +kernel
theorem d1_25 : decode prog_45_method_1_code 25 = .ok (.ldc 24, 2) := by decide +kernel
theorem d1_27 : decode prog_45_method_1_code 27 = .ok (.iload_n 3, 1) := by decide +kernel
theorem d1_28 : decode prog_45_method_1_code 28 = .ok (.invokestatic 9, 3) := by decide +kernel
theorem d1_31 : decode prog_45_method_1_code 31 = .ok (.putfield 26, 3) := by decide +kernel
theorem d1_34 : decode prog_45_method_1_code 34 = .ok (.aload_n 0, 1) := by decide +kernel
theorem d1_35 : decode prog_45_method_1_code 35 = .ok (.ldc 29, 2) := by decide +kernel
theorem d1_37 : decode prog_45_method_1_code 37 = .ok (.iload 4, 2) := by decide +kernel
theorem d1_39 : decode prog_45_method_1_code 39 = .ok (.invokestatic 9, 3) := by decide +kernel
theorem d1_42 : decode prog_45_method_1_code 42 = .ok (.putfield 31, 3) := by decide +kernel
theorem d1_45 : decode prog_45_method_1_code 45 = .ok (.aload 5, 2) := by decide +kernel
theorem d1_47 : decode prog_45_method_1_code 47 = .ok (.arraylength, 1) := by decide +kernel
theorem d1_48 : decode prog_45_method_1_code 48 = .ok (.sipush 255, 3) := by decide +kernel
theorem d1_51 : decode prog_45_method_1_code 51 = .ok (.if_icmp .le 19, 3) := by decide +kernel
theorem d1_70 : decode prog_45_method_1_code 70 = .ok (.iload 6, 2) := by decide +kernel
theorem d1_72 : decode prog_45_method_1_code 72 = .ok (.ifCond .lt 11, 3) := by decide +kernel
theorem d1_75 : decode prog_45_method_1_code 75 = .ok (.iload 6, 2) := by decide +kernel
theorem d1_77 : decode prog_45_method_1_code 77 = .ok (.sipush 256, 3) := by decide +kernel
theorem d1_80 : decode prog_45_method_1_code 80 = .ok (.if_icmp .le 18, 3) := by decide +kernel
theorem d1_98 : decode prog_45_method_1_code 98 = .ok (.aload_n 0, 1) := by decide +kernel
theorem d1_99 : decode prog_45_method_1_code 99 = .ok (.aload 5, 2) := by decide +kernel
theorem d1_101 : decode prog_45_method_1_code 101 = .ok (.invokevirtual 44, 3) := by decide +kernel
theorem d1_104 : decode prog_45_method_1_code 104 = .ok (.checkcast 45, 3) := by decide +kernel
theorem d1_107 : decode prog_45_method_1_code 107 = .ok (.putfield 50, 3) := by decide +kernel
theorem d1_110 : decode prog_45_method_1_code 110 = .ok (.aload_n 0, 1) := by decide +kernel
theorem d1_111 : decode prog_45_method_1_code 111 = .ok (.iload 6, 2) := by decide +kernel
theorem d1_113 : decode prog_45_method_1_code 113 = .ok (.putfield 53, 3) := by decide +kernel
theorem d1_116 : decode prog_45_method_1_code 116 = .ok (.return_, 1) := by decide +kernel
theorem pn_1 : plainFor (⟨"com/example/seamark/seamark/transport/CommandApdu", "<init>", "(IIII[BI)V"⟩ : MethodName) = true := plainFor_of_name (by first | (simp [plainName, overriddenIn]; done) | decide +kernel)
theorem pd_4 : parseMethodDescriptor "(Ljava/lang/String;I)I" = some ⟨[(.object "java/lang/String"), .int], some .int⟩ := by decide +kernel
theorem ef_1 (m : MethodId) (a : Addr) (v1 : Int32) (v2 : Int32) (v3 : Int32) (v4 : Int32) (d : Addr) (v6 : Int32) : entryFrame m #[(.ref a), (.int v1), (.int v2), (.int v3), (.int v4), (.ref d), (.int v6)] 7 = mkF m 0 #[.val (.ref a), .val (.int v1), .val (.int v2), .val (.int v3), .val (.int v4), .val (.ref d), .val (.int v6)] [] := by first | (simp [entryFrame, mkF, argsToLocals, Value.category]; done) | rfl
def Q1 (Z : State) (a : Addr) (v1 : Int32) (v2 : Int32) (v3 : Int32) (v4 : Int32) (d : Addr) (v6 : Int32) (nd : Nat) (gf : Nat → Int32) (hI : Heap) (n0 : Nat) (v : Option Value) (h : Heap) (L : List Loc) : Prop := ∃ (b : Addr), v = none ∧ Fr n0 L ∧ Keep hI h [a] ∧ Exa Z h a "com/example/seamark/seamark/transport/CommandApdu" ∧ Fld Z h a "com/example/seamark/seamark/transport/CommandApdu" "cla" "I" (.int v1) ∧ Fld Z h a "com/example/seamark/seamark/transport/CommandApdu" "ins" "I" (.int v2) ∧ Fld Z h a "com/example/seamark/seamark/transport/CommandApdu" "p1" "I" (.int v3) ∧ Fld Z h a "com/example/seamark/seamark/transport/CommandApdu" "p2" "I" (.int v4) ∧ Fld Z h a "com/example/seamark/seamark/transport/CommandApdu" "ne" "I" (.int v6) ∧ Fld Z h a "com/example/seamark/seamark/transport/CommandApdu" "data" "[B" (.ref b) ∧ own_A Z h b .byte nd (fun i => .int (gf i)) ∧ Exa Z h b "[B" ∧ b ≠ a
set_option maxRecDepth 65536 in
set_option maxHeartbeats 40000000 in
theorem rm1 (l : Launch) (Z : State) (a0 : Array Value) (hw : ∀ d ∈ tables_1, d.before a0 Z = true) (ws : List Jvm.Cond) (a : Addr) (v1 : Int32) (v2 : Int32) (v3 : Int32) (v4 : Int32) (d : Addr) (v6 : Int32) (nd : Nat) (gf : Nat → Int32) (hI : Heap) (n0 : Nat) (Z0 : n0 ≤ hI.size) (E_a : Exa Z hI a "com/example/seamark/seamark/transport/CommandApdu") (ge_a : n0 ≤ a) (Fcla_z : Fld Z hI a "com/example/seamark/seamark/transport/CommandApdu" "cla" "I" (.int (0 : Int32))) (Fins_z : Fld Z hI a "com/example/seamark/seamark/transport/CommandApdu" "ins" "I" (.int (0 : Int32))) (Fp1_z : Fld Z hI a "com/example/seamark/seamark/transport/CommandApdu" "p1" "I" (.int (0 : Int32))) (Fp2_z : Fld Z hI a "com/example/seamark/seamark/transport/CommandApdu" "p2" "I" (.int (0 : Int32))) (F_data : Fld Z hI a "com/example/seamark/seamark/transport/CommandApdu" "data" "[B" .null) (F_ne : Fld Z hI a "com/example/seamark/seamark/transport/CommandApdu" "ne" "I" (.int (0 : Int32))) (A_d : own_A Z hI d .byte nd (fun i => .int (gf i))) (E_d : Exa Z hI d "[B") (ne_d_a : d ≠ a) (hn : nd ≤ 255) (hfit : ∀ i, i < nd → fits .byte (.int (gf i)) = true) (hv1 : own_in v1 255) (hv2 : own_in v2 255) (hv3 : own_in v3 255) (hv4 : own_in v4 255) (hne : own_in v6 256) :
    MetFree l (⟨"com/example/seamark/seamark/transport/CommandApdu", "<init>", "(IIII[BI)V"⟩ : MethodName) (head1 (Jvm.Cond.code (⟨"com/example/seamark/seamark/transport/CommandApdu", "<init>", "(IIII[BI)V"⟩ : MethodName) prog_45_method_1_code 7 none :: ws) ({ frames := 1, cells := 9, slots := 311, locals := 15 } : Room)) (fun a₁ U₁ => a₁ = #[(.ref a), (.int v1), (.int v2), (.int v3), (.int v4), (.ref d), (.int v6)] ∧ Z.Warmed39 U₁.vm ∧ U₁.heap = hI) (fun _ _ _ _ _ => True) (fun _ U₁ o₁ U₂ => ∃ v₁ L₁, o₁ = .returned v₁ ∧ Q1 Z a v1 v2 v3 v4 d v6 nd gf hI n0 v₁ U₂.heap L₁ ∧ ReturnedEndW U₁ o₁ U₂ L₁ ({ frames := 1, cells := 9, slots := 311, locals := 15 } : Room).cells ({ frames := 1, cells := 9, slots := 311, locals := 15 } : Room).slots) := by
  refine own_bodyW pn_1 ?_
  intro p e s m below meth c s₁ hx hby hml hown hnm hret hlk hZ XI eI hS0
  have wS := own_strs hw
  obtain ⟨F, hF⟩ : ∃ F : State → JFrame → Prop, F = own_FinW p.tables e below s ({ frames := 1, cells := 9, slots := 311, locals := 15 } : Room) (Q1 Z a v1 v2 v3 v4 d v6 nd gf hI n0) := ⟨_, rfl⟩
  have hst : ∀ {T T' : State} {g g' : JFrame}, (∀ t, Steps p.tables e below (T'.setTop g') t → Steps p.tables e below (T.setTop g) t) → F T' g' → F T g := by subst hF; exact own_stW
  have NI := Fr.nil n0
  show own_FinW p.tables e below s ({ frames := 1, cells := 9, slots := 311, locals := 15 } : Room) (Q1 Z a v1 v2 v3 v4 d v6 nd gf hI n0) s₁ (entryFrame m #[(.ref a), (.int v1), (.int v2), (.int v3), (.int v4), (.ref d), (.int v6)] 7)
  rw [← hF]
  rw [ef_1]
  show F s₁ (mkF m 0 #[.val (.ref a), .val (.int v1), .val (.int v2), .val (.int v3), .val (.int v4), .val (.ref d), .val (.int v6)] [])
  refine hst (fun t₀ k₀ => XS.aloadN XI.here hx rfl (hb hby d1_0) rfl rfl k₀) ?_
  show F s₁ (mkF m 1 #[.val (.ref a), .val (.int v1), .val (.int v2), .val (.int v3), .val (.int v4), .val (.ref d), .val (.int v6)] [(.ref a)])
  obtain ⟨T1, X1, e1, st1⟩ := initO XI hx hZ hown (hw _ (List.mem_of_getElem? (i := 7) rfl)) (hw _ (List.mem_of_getElem? (i := 8) rfl)) (hw _ (List.mem_of_getElem? (i := 9) rfl)) eI (g := (mkF m 1 #[.val (.ref a), .val (.int v1), .val (.int v2), .val (.int v3), .val (.int v4), .val (.ref d), .val (.int v6)] [(.ref a)])) rfl (by rw [hml]; rfl) rfl (hb hby d1_1) (by decide) (W := 0) (by show 2 * 0 + _ ≤ _; exact Nat.le_of_eq rfl) (by decide)
  refine hst st1 ?_
  show F T1 (mkF m 4 #[.val (.ref a), .val (.int v1), .val (.int v2), .val (.int v3), .val (.int v4), .val (.ref d), .val (.int v6)] [])
  refine hst (fun t₀ k₀ => XS.aloadN X1.here hx rfl (hb hby d1_4) rfl rfl k₀) ?_
  show F T1 (mkF m 5 #[.val (.ref a), .val (.int v1), .val (.int v2), .val (.int v3), .val (.int v4), .val (.ref d), .val (.int v6)] [(.ref a)])
  obtain ⟨sa5, T5, h5, ks5, X5, e5, E5, hS5, hk5, hZ, hown, st5⟩ := ldcS X1 hx hZ hown (hw _ (List.mem_of_getElem? (i := 10) rfl)) wS e1 hS0 (Nat.zero_le _) (g := (mkF m 5 #[.val (.ref a), .val (.int v1), .val (.int v2), .val (.int v3), .val (.int v4), .val (.ref d), .val (.int v6)] [(.ref a)])) rfl (hb hby d1_5) (n := 12) (by decide) (by decide) (by decide) (by decide)
  have E_a_p5 : Exa Z h5 a "com/example/seamark/seamark/transport/CommandApdu" := E_a.ext E5
  have Fcla_z_p5 : Fld Z h5 a "com/example/seamark/seamark/transport/CommandApdu" "cla" "I" (.int (0 : Int32)) := Fcla_z.ext E5
  have Fins_z_p5 : Fld Z h5 a "com/example/seamark/seamark/transport/CommandApdu" "ins" "I" (.int (0 : Int32)) := Fins_z.ext E5
  have Fp1_z_p5 : Fld Z h5 a "com/example/seamark/seamark/transport/CommandApdu" "p1" "I" (.int (0 : Int32)) := Fp1_z.ext E5
  have Fp2_z_p5 : Fld Z h5 a "com/example/seamark/seamark/transport/CommandApdu" "p2" "I" (.int (0 : Int32)) := Fp2_z.ext E5
  have F_data_p5 : Fld Z h5 a "com/example/seamark/seamark/transport/CommandApdu" "data" "[B" .null := F_data.ext E5
  have F_ne_p5 : Fld Z h5 a "com/example/seamark/seamark/transport/CommandApdu" "ne" "I" (.int (0 : Int32)) := F_ne.ext E5
  have A_d_p5 : own_A Z h5 d .byte nd (fun i => .int (gf i)) := A_d.ext E5
  have E_d_p5 : Exa Z h5 d "[B" := E_d.ext E5
  have Z0_p5 : n0 ≤ h5.size := (Nat.le_trans Z0 E5.1)
  have K_p5 : Keep hI h5 [a] := (Keep.refl hI [a]).ext E5
  refine hst st5 ?_
  show F T5 (mkF m 7 #[.val (.ref a), .val (.int v1), .val (.int v2), .val (.int v3), .val (.int v4), .val (.ref d), .val (.int v6)] [(.ref sa5), (.ref a)])
  refine hst (fun t₀ k₀ => XS.iloadN X5.here hx rfl (hb hby d1_7) rfl k₀) ?_
  show F T5 (mkF m 8 #[.val (.ref a), .val (.int v1), .val (.int v2), .val (.int v3), .val (.int v4), .val (.ref d), .val (.int v6)] [(.int v1), (.ref sa5), (.ref a)])
  obtain ⟨v8, T8, Lc8, X8, hQ8, st8⟩ := own_callS X5 hx hZ hown (y := (⟨"com/example/seamark/seamark/transport/CommandApdu", "requireByte", "(Ljava/lang/String;I)I"⟩ : MethodName)) (hw _ (List.mem_of_getElem? (i := 17) rfl)) (hw _ (List.mem_of_getElem? (i := 18) rfl)) (hw _ (List.mem_of_getElem? (i := 3) rfl)) (hw _ (List.mem_of_getElem? (i := 19) rfl)) (by decide) e5 (rm3 l Z a0 hw [] sa5 v1 h5 n0 Z0_p5 hv1) (by decide) (by decide) (g := (mkF m 8 #[.val (.ref a), .val (.int v1), .val (.int v2), .val (.int v3), .val (.int v4), .val (.ref d), .val (.int v6)] [(.int v1), (.ref sa5), (.ref a)])) rfl (by rw [hml]; rfl) (argsL := [(.ref sa5), (.int v1)]) (rest := [(.ref a)]) (lenOf pd_4 rfl) rfl rfl (W := 1) (by show 2 * 0 + _ ≤ _; exact Nat.le_of_eq rfl) (hb hby d1_8) (by decide) (by decide)
  obtain ⟨rfl, Nq8, he8⟩ := hQ8
  have N8 := Fr.app NI Nq8
  refine hst st8 ?_
  show F T8 (mkF m 11 #[.val (.ref a), .val (.int v1), .val (.int v2), .val (.int v3), .val (.int v4), .val (.ref d), .val (.int v6)] [(.int v1), (.ref a)])
  obtain ⟨T11, h11, X11, e11, W11, st11⟩ := putF X8 hx hZ hown (host := "") (Or.inl (hw _ (List.mem_of_getElem? (i := 20) rfl))) Via.refl he8 Fcla_z_p5 E_a_p5 (Or.inr ⟨(hw _ (List.mem_of_getElem? (i := 21) rfl)), rfl, hnm⟩) (hw _ (List.mem_of_getElem? (i := 2) rfl)) (ty := .int) (by decide) rfl rfl (g := (mkF m 11 #[.val (.ref a), .val (.int v1), .val (.int v2), .val (.int v3), .val (.int v4), .val (.ref d), .val (.int v6)] [(.int v1), (.ref a)])) rfl rfl (hb hby d1_11)
  have N11 := Fr.snoc X11 N8 ge_a
  have E_a_p11 : Exa Z h11 a "com/example/seamark/seamark/transport/CommandApdu" := E_a_p5.wr W11
  have Fcla_z_p11 : Fld Z h11 a "com/example/seamark/seamark/transport/CommandApdu" "cla" "I" (.int v1) := Fcla_z_p5.same W11
  have Fins_z_p11 : Fld Z h11 a "com/example/seamark/seamark/transport/CommandApdu" "ins" "I" (.int (0 : Int32)) := Fins_z_p5.other W11 (Or.inr (slot_ne (Or.inr (hw _ (List.mem_of_getElem? (i := 24) rfl))) (Or.inr (hw _ (List.mem_of_getElem? (i := 21) rfl))) (by decide) (t := .int) (t' := .int) (by decide) (by decide)))
  have Fp1_z_p11 : Fld Z h11 a "com/example/seamark/seamark/transport/CommandApdu" "p1" "I" (.int (0 : Int32)) := Fp1_z_p5.other W11 (Or.inr (slot_ne (Or.inr (hw _ (List.mem_of_getElem? (i := 27) rfl))) (Or.inr (hw _ (List.mem_of_getElem? (i := 21) rfl))) (by decide) (t := .int) (t' := .int) (by decide) (by decide)))
  have Fp2_z_p11 : Fld Z h11 a "com/example/seamark/seamark/transport/CommandApdu" "p2" "I" (.int (0 : Int32)) := Fp2_z_p5.other W11 (Or.inr (slot_ne (Or.inr (hw _ (List.mem_of_getElem? (i := 30) rfl))) (Or.inr (hw _ (List.mem_of_getElem? (i := 21) rfl))) (by decide) (t := .int) (t' := .int) (by decide) (by decide)))
  have F_data_p11 : Fld Z h11 a "com/example/seamark/seamark/transport/CommandApdu" "data" "[B" .null := F_data_p5.other W11 (Or.inr (slot_ne (Or.inr (hw _ (List.mem_of_getElem? (i := 41) rfl))) (Or.inr (hw _ (List.mem_of_getElem? (i := 21) rfl))) (by decide) (t := (.array .byte)) (t' := .int) (by decide) (by decide)))
  have F_ne_p11 : Fld Z h11 a "com/example/seamark/seamark/transport/CommandApdu" "ne" "I" (.int (0 : Int32)) := F_ne_p5.other W11 (Or.inr (slot_ne (Or.inr (hw _ (List.mem_of_getElem? (i := 43) rfl))) (Or.inr (hw _ (List.mem_of_getElem? (i := 21) rfl))) (by decide) (t := .int) (t' := .int) (by decide) (by decide)))
  have A_d_p11 : own_A Z h11 d .byte nd (fun i => .int (gf i)) := A_d_p5.other W11 ne_d_a
  have E_d_p11 : Exa Z h11 d "[B" := E_d_p5.wr W11
  have Z0_p11 : n0 ≤ h11.size := Nat.le_trans Z0_p5 (Keep.of_wr W11).1
  have hk_p11 := Nat.le_trans hk5 (Keep.of_wr W11).1
  have K_p11 : Keep hI h11 [a] := K_p5.wr W11 (Or.inl (List.mem_of_getElem? (i := 0) rfl))
  refine hst st11 ?_
  show F T11 (mkF m 14 #[.val (.ref a), .val (.int v1), .val (.int v2), .val (.int v3), .val (.int v4), .val (.ref d), .val (.int v6)] [])
  refine hst (fun t₀ k₀ => XS.aloadN X11.here hx rfl (hb hby d1_14) rfl rfl k₀) ?_
  show F T11 (mkF m 15 #[.val (.ref a), .val (.int v1), .val (.int v2), .val (.int v3), .val (.int v4), .val (.ref d), .val (.int v6)] [(.ref a)])
  obtain ⟨sa15, T15, h15, ks15, X15, e15, E15, hS15, hk15, hZ, hown, st15⟩ := ldcS X11 hx hZ hown (hw _ (List.mem_of_getElem? (i := 22) rfl)) wS e11 hS5 hk_p11 (g := (mkF m 15 #[.val (.ref a), .val (.int v1), .val (.int v2), .val (.int v3), .val (.int v4), .val (.ref d), .val (.int v6)] [(.ref a)])) rfl (hb hby d1_15) (n := 12) (by decide) (by decide) (by decide) (by decide)
  have E_a_p15 : Exa Z h15 a "com/example/seamark/seamark/transport/CommandApdu" := E_a_p11.ext E15
  have Fcla_z_p15 : Fld Z h15 a "com/example/seamark/seamark/transport/CommandApdu" "cla" "I" (.int v1) := Fcla_z_p11.ext E15
  have Fins_z_p15 : Fld Z h15 a "com/example/seamark/seamark/transport/CommandApdu" "ins" "I" (.int (0 : Int32)) := Fins_z_p11.ext E15
  have Fp1_z_p15 : Fld Z h15 a "com/example/seamark/seamark/transport/CommandApdu" "p1" "I" (.int (0 : Int32)) := Fp1_z_p11.ext E15
  have Fp2_z_p15 : Fld Z h15 a "com/example/seamark/seamark/transport/CommandApdu" "p2" "I" (.int (0 : Int32)) := Fp2_z_p11.ext E15
  have F_data_p15 : Fld Z h15 a "com/example/seamark/seamark/transport/CommandApdu" "data" "[B" .null := F_data_p11.ext E15
  have F_ne_p15 : Fld Z h15 a "com/example/seamark/seamark/transport/CommandApdu" "ne" "I" (.int (0 : Int32)) := F_ne_p11.ext E15
  have A_d_p15 : own_A Z h15 d .byte nd (fun i => .int (gf i)) := A_d_p11.ext E15
  have E_d_p15 : Exa Z h15 d "[B" := E_d_p11.ext E15
  have Z0_p15 : n0 ≤ h15.size := (Nat.le_trans Z0_p11 E15.1)
  have K_p15 : Keep hI h15 [a] := K_p11.ext E15
  refine hst st15 ?_
  show F T15 (mkF m 17 #[.val (.ref a), .val (.int v1), .val (.int v2), .val (.int v3), .val (.int v4), .val (.ref d), .val (.int v6)] [(.ref sa15), (.ref a)])
  refine hst (fun t₀ k₀ => XS.iloadN X15.here hx rfl (hb hby d1_17) rfl k₀) ?_
  show F T15 (mkF m 18 #[.val (.ref a), .val (.int v1), .val (.int v2), .val (.int v3), .val (.int v4), .val (.ref d), .val (.int v6)] [(.int v2), (.ref sa15), (.ref a)])
  obtain ⟨v18, T18, Lc18, X18, hQ18, st18⟩ := own_callS X15 hx hZ hown (y := (⟨"com/example/seamark/seamark/transport/CommandApdu", "requireByte", "(Ljava/lang/String;I)I"⟩ : MethodName)) (hw _ (List.mem_of_getElem? (i := 17) rfl)) (hw _ (List.mem_of_getElem? (i := 18) rfl)) (hw _ (List.mem_of_getElem? (i := 3) rfl)) (hw _ (List.mem_of_getElem? (i := 19) rfl)) (by decide) e15 (rm3 l Z a0 hw [] sa15 v2 h15 n0 Z0_p15 hv2) (by decide) (by decide) (g := (mkF m 18 #[.val (.ref a), .val (.int v1), .val (.int v2), .val (.int v3), .val (.int v4), .val (.ref d), .val (.int v6)] [(.int v2), (.ref sa15), (.ref a)])) rfl (by rw [hml]; rfl) (argsL := [(.ref sa15), (.int v2)]) (rest := [(.ref a)]) (lenOf pd_4 rfl) rfl rfl (W := 1) (by show 2 * 0 + _ ≤ _; exact Nat.le_of_eq rfl) (hb hby d1_18) (by decide) (by decide)
  obtain ⟨rfl, Nq18, he18⟩ := hQ18
  have N18 := Fr.app N11 Nq18
  refine hst st18 ?_
  show F T18 (mkF m 21 #[.val (.ref a), .val (.int v1), .val (.int v2), .val (.int v3), .val (.int v4), .val (.ref d), .val (.int v6)] [(.int v2), (.ref a)])
  obtain ⟨T21, h21, X21, e21, W21, st21⟩ := putF X18 hx hZ hown (host := "") (Or.inl (hw _ (List.mem_of_getElem? (i := 23) rfl))) Via.refl he18 Fins_z_p15 E_a_p15 (Or.inr ⟨(hw _ (List.mem_of_getElem? (i := 24) rfl)), rfl, hnm⟩) (hw _ (List.mem_of_getElem? (i := 2) rfl)) (ty := .int) (by decide) rfl rfl (g := (mkF m 21 #[.val (.ref a), .val (.int v1), .val (.int v2), .val (.int v3), .val (.int v4), .val (.ref d), .val (.int v6)] [(.int v2), (.ref a)])) rfl rfl (hb hby d1_21)
  have N21 := Fr.snoc X21 N18 ge_a
  have E_a_p21 : Exa Z h21 a "com/example/seamark/seamark/transport/CommandApdu" := E_a_p15.wr W21
  have Fcla_z_p21 : Fld Z h21 a "com/example/seamark/seamark/transport/CommandApdu" "cla" "I" (.int v1) := Fcla_z_p15.other W21 (Or.inr (slot_ne (Or.inr (hw _ (List.mem_of_getElem? (i := 21) rfl))) (Or.inr (hw _ (List.mem_of_getElem? (i := 24) rfl))) (by decide) (t := .int) (t' := .int) (by decide) (by decide)))
  have Fins_z_p21 : Fld Z h21 a "com/example/seamark/seamark/transport/CommandApdu" "ins" "I" (.int v2) := Fins_z_p15.same W21
  have Fp1_z_p21 : Fld Z h21 a "com/example/seamark/seamark/transport/CommandApdu" "p1" "I" (.int (0 : Int32)) := Fp1_z_p15.other W21 (Or.inr (slot_ne (Or.inr (hw _ (List.mem_of_getElem? (i := 27) rfl))) (Or.inr (hw _ (List.mem_of_getElem? (i := 24) rfl))) (by decide) (t := .int) (t' := .int) (by decide) (by decide)))
  have Fp2_z_p21 : Fld Z h21 a "com/example/seamark/seamark/transport/CommandApdu" "p2" "I" (.int (0 : Int32)) := Fp2_z_p15.other W21 (Or.inr (slot_ne (Or.inr (hw _ (List.mem_of_getElem? (i := 30) rfl))) (Or.inr (hw _ (List.mem_of_getElem? (i := 24) rfl))) (by decide) (t := .int) (t' := .int) (by decide) (by decide)))
  have F_data_p21 : Fld Z h21 a "com/example/seamark/seamark/transport/CommandApdu" "data" "[B" .null := F_data_p15.other W21 (Or.inr (slot_ne (Or.inr (hw _ (List.mem_of_getElem? (i := 41) rfl))) (Or.inr (hw _ (List.mem_of_getElem? (i := 24) rfl))) (by decide) (t := (.array .byte)) (t' := .int) (by decide) (by decide)))
  have F_ne_p21 : Fld Z h21 a "com/example/seamark/seamark/transport/CommandApdu" "ne" "I" (.int (0 : Int32)) := F_ne_p15.other W21 (Or.inr (slot_ne (Or.inr (hw _ (List.mem_of_getElem? (i := 43) rfl))) (Or.inr (hw _ (List.mem_of_getElem? (i := 24) rfl))) (by decide) (t := .int) (t' := .int) (by decide) (by decide)))
  have A_d_p21 : own_A Z h21 d .byte nd (fun i => .int (gf i)) := A_d_p15.other W21 ne_d_a
  have E_d_p21 : Exa Z h21 d "[B" := E_d_p15.wr W21
  have Z0_p21 : n0 ≤ h21.size := Nat.le_trans Z0_p15 (Keep.of_wr W21).1
  have hk_p21 := Nat.le_trans hk15 (Keep.of_wr W21).1
  have K_p21 : Keep hI h21 [a] := K_p15.wr W21 (Or.inl (List.mem_of_getElem? (i := 0) rfl))
  refine hst st21 ?_
  show F T21 (mkF m 24 #[.val (.ref a), .val (.int v1), .val (.int v2), .val (.int v3), .val (.int v4), .val (.ref d), .val (.int v6)] [])
  refine hst (fun t₀ k₀ => XS.aloadN X21.here hx rfl (hb hby d1_24) rfl rfl k₀) ?_
  show F T21 (mkF m 25 #[.val (.ref a), .val (.int v1), .val (.int v2), .val (.int v3), .val (.int v4), .val (.ref d), .val (.int v6)] [(.ref a)])
  obtain ⟨sa25, T25, h25, ks25, X25, e25, E25, hS25, hk25, hZ, hown, st25⟩ := ldcS X21 hx hZ hown (hw _ (List.mem_of_getElem? (i := 25) rfl)) wS e21 hS15 hk_p21 (g := (mkF m 25 #[.val (.ref a), .val (.int v1), .val (.int v2), .val (.int v3), .val (.int v4), .val (.ref d), .val (.int v6)] [(.ref a)])) rfl (hb hby d1_25) (n := 8) (by decide) (by decide) (by decide) (by decide)
  have E_a_p25 : Exa Z h25 a "com/example/seamark/seamark/transport/CommandApdu" := E_a_p21.ext E25
  have Fcla_z_p25 : Fld Z h25 a "com/example/seamark/seamark/transport/CommandApdu" "cla" "I" (.int v1) := Fcla_z_p21.ext E25
  have Fins_z_p25 : Fld Z h25 a "com/example/seamark/seamark/transport/CommandApdu" "ins" "I" (.int v2) := Fins_z_p21.ext E25
  have Fp1_z_p25 : Fld Z h25 a "com/example/seamark/seamark/transport/CommandApdu" "p1" "I" (.int (0 : Int32)) := Fp1_z_p21.ext E25
  have Fp2_z_p25 : Fld Z h25 a "com/example/seamark/seamark/transport/CommandApdu" "p2" "I" (.int (0 : Int32)) := Fp2_z_p21.ext E25
  have F_data_p25 : Fld Z h25 a "com/example/seamark/seamark/transport/CommandApdu" "data" "[B" .null := F_data_p21.ext E25
  have F_ne_p25 : Fld Z h25 a "com/example/seamark/seamark/transport/CommandApdu" "ne" "I" (.int (0 : Int32)) := F_ne_p21.ext E25
  have A_d_p25 : own_A Z h25 d .byte nd (fun i => .int (gf i)) := A_d_p21.ext E25
  have E_d_p25 : Exa Z h25 d "[B" := E_d_p21.ext E25
  have Z0_p25 : n0 ≤ h25.size := (Nat.le_trans Z0_p21 E25.1)
  have K_p25 : Keep hI h25 [a] := K_p21.ext E25
  refine hst st25 ?_
  show F T25 (mkF m 27 #[.val (.ref a), .val (.int v1), .val (.int v2), .val (.int v3), .val (.int v4), .val (.ref d), .val (.int v6)] [(.ref sa25), (.ref a)])
  refine hst (fun t₀ k₀ => XS.iloadN X25.here hx rfl (hb hby d1_27) rfl k₀) ?_
  show F T25 (mkF m 28 #[.val (.ref a), .val (.int v1), .val (.int v2), .val (.int v3), .val (.int v4), .val (.ref d), .val (.int v6)] [(.int v3), (.ref sa25), (.ref a)])
  obtain ⟨v28, T28, Lc28, X28, hQ28, st28⟩ := own_callS X25 hx hZ hown (y := (⟨"com/example/seamark/seamark/transport/CommandApdu", "requireByte", "(Ljava/lang/String;I)I"⟩ : MethodName)) (hw _ (List.mem_of_getElem? (i := 17) rfl)) (hw _ (List.mem_of_getElem? (i := 18) rfl)) (hw _ (List.mem_of_getElem? (i := 3) rfl)) (hw _ (List.mem_of_getElem? (i := 19) rfl)) (by decide) e25 (rm3 l Z a0 hw [] sa25 v3 h25 n0 Z0_p25 hv3) (by decide) (by decide) (g := (mkF m 28 #[.val (.ref a), .val (.int v1), .val (.int v2), .val (.int v3), .val (.int v4), .val (.ref d), .val (.int v6)] [(.int v3), (.ref sa25), (.ref a)])) rfl (by rw [hml]; rfl) (argsL := [(.ref sa25), (.int v3)]) (rest := [(.ref a)]) (lenOf pd_4 rfl) rfl rfl (W := 1) (by show 2 * 0 + _ ≤ _; exact Nat.le_of_eq rfl) (hb hby d1_28) (by decide) (by decide)
  obtain ⟨rfl, Nq28, he28⟩ := hQ28
  have N28 := Fr.app N21 Nq28
  refine hst st28 ?_
  show F T28 (mkF m 31 #[.val (.ref a), .val (.int v1), .val (.int v2), .val (.int v3), .val (.int v4), .val (.ref d), .val (.int v6)] [(.int v3), (.ref a)])
  obtain ⟨T31, h31, X31, e31, W31, st31⟩ := putF X28 hx hZ hown (host := "") (Or.inl (hw _ (List.mem_of_getElem? (i := 26) rfl))) Via.refl he28 Fp1_z_p25 E_a_p25 (Or.inr ⟨(hw _ (List.mem_of_getElem? (i := 27) rfl)), rfl, hnm⟩) (hw _ (List.mem_of_getElem? (i := 2) rfl)) (ty := .int) (by decide) rfl rfl (g := (mkF m 31 #[.val (.ref a), .val (.int v1), .val (.int v2), .val (.int v3), .val (.int v4), .val (.ref d), .val (.int v6)] [(.int v3), (.ref a)])) rfl rfl (hb hby d1_31)
  have N31 := Fr.snoc X31 N28 ge_a
  have E_a_p31 : Exa Z h31 a "com/example/seamark/seamark/transport/CommandApdu" := E_a_p25.wr W31
  have Fcla_z_p31 : Fld Z h31 a "com/example/seamark/seamark/transport/CommandApdu" "cla" "I" (.int v1) := Fcla_z_p25.other W31 (Or.inr (slot_ne (Or.inr (hw _ (List.mem_of_getElem? (i := 21) rfl))) (Or.inr (hw _ (List.mem_of_getElem? (i := 27) rfl))) (by decide) (t := .int) (t' := .int) (by decide) (by decide)))
  have Fins_z_p31 : Fld Z h31 a "com/example/seamark/seamark/transport/CommandApdu" "ins" "I" (.int v2) := Fins_z_p25.other W31 (Or.inr (slot_ne (Or.inr (hw _ (List.mem_of_getElem? (i := 24) rfl))) (Or.inr (hw _ (List.mem_of_getElem? (i := 27) rfl))) (by decide) (t := .int) (t' := .int) (by decide) (by decide)))
  have Fp1_z_p31 : Fld Z h31 a "com/example/seamark/seamark/transport/CommandApdu" "p1" "I" (.int v3) := Fp1_z_p25.same W31
  have Fp2_z_p31 : Fld Z h31 a "com/example/seamark/seamark/transport/CommandApdu" "p2" "I" (.int (0 : Int32)) := Fp2_z_p25.other W31 (Or.inr (slot_ne (Or.inr (hw _ (List.mem_of_getElem? (i := 30) rfl))) (Or.inr (hw _ (List.mem_of_getElem? (i := 27) rfl))) (by decide) (t := .int) (t' := .int) (by decide) (by decide)))
  have F_data_p31 : Fld Z h31 a "com/example/seamark/seamark/transport/CommandApdu" "data" "[B" .null := F_data_p25.other W31 (Or.inr (slot_ne (Or.inr (hw _ (List.mem_of_getElem? (i := 41) rfl))) (Or.inr (hw _ (List.mem_of_getElem? (i := 27) rfl))) (by decide) (t := (.array .byte)) (t' := .int) (by decide) (by decide)))
  have F_ne_p31 : Fld Z h31 a "com/example/seamark/seamark/transport/CommandApdu" "ne" "I" (.int (0 : Int32)) := F_ne_p25.other W31 (Or.inr (slot_ne (Or.inr (hw _ (List.mem_of_getElem? (i := 43) rfl))) (Or.inr (hw _ (List.mem_of_getElem? (i := 27) rfl))) (by decide) (t := .int) (t' := .int) (by decide) (by decide)))
  have A_d_p31 : own_A Z h31 d .byte nd (fun i => .int (gf i)) := A_d_p25.other W31 ne_d_a
  have E_d_p31 : Exa Z h31 d "[B" := E_d_p25.wr W31
  have Z0_p31 : n0 ≤ h31.size := Nat.le_trans Z0_p25 (Keep.of_wr W31).1
  have hk_p31 := Nat.le_trans hk25 (Keep.of_wr W31).1
  have K_p31 : Keep hI h31 [a] := K_p25.wr W31 (Or.inl (List.mem_of_getElem? (i := 0) rfl))
  refine hst st31 ?_
  show F T31 (mkF m 34 #[.val (.ref a), .val (.int v1), .val (.int v2), .val (.int v3), .val (.int v4), .val (.ref d), .val (.int v6)] [])
  refine hst (fun t₀ k₀ => XS.aloadN X31.here hx rfl (hb hby d1_34) rfl rfl k₀) ?_
  show F T31 (mkF m 35 #[.val (.ref a), .val (.int v1), .val (.int v2), .val (.int v3), .val (.int v4), .val (.ref d), .val (.int v6)] [(.ref a)])
  obtain ⟨sa35, T35, h35, ks35, X35, e35, E35, hS35, hk35, hZ, hown, st35⟩ := ldcS X31 hx hZ hown (hw _ (List.mem_of_getElem? (i := 28) rfl)) wS e31 hS25 hk_p31 (g := (mkF m 35 #[.val (.ref a), .val (.int v1), .val (.int v2), .val (.int v3), .val (.int v4), .val (.ref d), .val (.int v6)] [(.ref a)])) rfl (hb hby d1_35) (n := 8) (by decide) (by decide) (by decide) (by decide)
  have E_a_p35 : Exa Z h35 a "com/example/seamark/seamark/transport/CommandApdu" := E_a_p31.ext E35
  have Fcla_z_p35 : Fld Z h35 a "com/example/seamark/seamark/transport/CommandApdu" "cla" "I" (.int v1) := Fcla_z_p31.ext E35
  have Fins_z_p35 : Fld Z h35 a "com/example/seamark/seamark/transport/CommandApdu" "ins" "I" (.int v2) := Fins_z_p31.ext E35
  have Fp1_z_p35 : Fld Z h35 a "com/example/seamark/seamark/transport/CommandApdu" "p1" "I" (.int v3) := Fp1_z_p31.ext E35
  have Fp2_z_p35 : Fld Z h35 a "com/example/seamark/seamark/transport/CommandApdu" "p2" "I" (.int (0 : Int32)) := Fp2_z_p31.ext E35
  have F_data_p35 : Fld Z h35 a "com/example/seamark/seamark/transport/CommandApdu" "data" "[B" .null := F_data_p31.ext E35
  have F_ne_p35 : Fld Z h35 a "com/example/seamark/seamark/transport/CommandApdu" "ne" "I" (.int (0 : Int32)) := F_ne_p31.ext E35
  have A_d_p35 : own_A Z h35 d .byte nd (fun i => .int (gf i)) := A_d_p31.ext E35
  have E_d_p35 : Exa Z h35 d "[B" := E_d_p31.ext E35
  have Z0_p35 : n0 ≤ h35.size := (Nat.le_trans Z0_p31 E35.1)
  have K_p35 : Keep hI h35 [a] := K_p31.ext E35
  refine hst st35 ?_
  show F T35 (mkF m 37 #[.val (.ref a), .val (.int v1), .val (.int v2), .val (.int v3), .val (.int v4), .val (.ref d), .val (.int v6)] [(.ref sa35), (.ref a)])
  refine hst (fun t₀ k₀ => XS.iload X35.here hx rfl (hb hby d1_37) rfl k₀) ?_
  show F T35 (mkF m 39 #[.val (.ref a), .val (.int v1), .val (.int v2), .val (.int v3), .val (.int v4), .val (.ref d), .val (.int v6)] [(.int v4), (.ref sa35), (.ref a)])
  obtain ⟨v39, T39, Lc39, X39, hQ39, st39⟩ := own_callS X35 hx hZ hown (y := (⟨"com/example/seamark/seamark/transport/CommandApdu", "requireByte", "(Ljava/lang/String;I)I"⟩ : MethodName)) (hw _ (List.mem_of_getElem? (i := 17) rfl)) (hw _ (List.mem_of_getElem? (i := 18) rfl)) (hw _ (List.mem_of_getElem? (i := 3) rfl)) (hw _ (List.mem_of_getElem? (i := 19) rfl)) (by decide) e35 (rm3 l Z a0 hw [] sa35 v4 h35 n0 Z0_p35 hv4) (by decide) (by decide) (g := (mkF m 39 #[.val (.ref a), .val (.int v1), .val (.int v2), .val (.int v3), .val (.int v4), .val (.ref d), .val (.int v6)] [(.int v4), (.ref sa35), (.ref a)])) rfl (by rw [hml]; rfl) (argsL := [(.ref sa35), (.int v4)]) (rest := [(.ref a)]) (lenOf pd_4 rfl) rfl rfl (W := 1) (by show 2 * 0 + _ ≤ _; exact Nat.le_of_eq rfl) (hb hby d1_39) (by decide) (by decide)
  obtain ⟨rfl, Nq39, he39⟩ := hQ39
  have N39 := Fr.app N31 Nq39
  refine hst st39 ?_
  show F T39 (mkF m 42 #[.val (.ref a), .val (.int v1), .val (.int v2), .val (.int v3), .val (.int v4), .val (.ref d), .val (.int v6)] [(.int v4), (.ref a)])
  obtain ⟨T42, h42, X42, e42, W42, st42⟩ := putF X39 hx hZ hown (host := "") (Or.inl (hw _ (List.mem_of_getElem? (i := 29) rfl))) Via.refl he39 Fp2_z_p35 E_a_p35 (Or.inr ⟨(hw _ (List.mem_of_getElem? (i := 30) rfl)), rfl, hnm⟩) (hw _ (List.mem_of_getElem? (i := 2) rfl)) (ty := .int) (by decide) rfl rfl (g := (mkF m 42 #[.val (.ref a), .val (.int v1), .val (.int v2), .val (.int v3), .val (.int v4), .val (.ref d), .val (.int v6)] [(.int v4), (.ref a)])) rfl rfl (hb hby d1_42)
  have N42 := Fr.snoc X42 N39 ge_a
  have E_a_p42 : Exa Z h42 a "com/example/seamark/seamark/transport/CommandApdu" := E_a_p35.wr W42
  have Fcla_z_p42 : Fld Z h42 a "com/example/seamark/seamark/transport/CommandApdu" "cla" "I" (.int v1) := Fcla_z_p35.other W42 (Or.inr (slot_ne (Or.inr (hw _ (List.mem_of_getElem? (i := 21) rfl))) (Or.inr (hw _ (List.mem_of_getElem? (i := 30) rfl))) (by decide) (t := .int) (t' := .int) (by decide) (by decide)))
  have Fins_z_p42 : Fld Z h42 a "com/example/seamark/seamark/transport/CommandApdu" "ins" "I" (.int v2) := Fins_z_p35.other W42 (Or.inr (slot_ne (Or.inr (hw _ (List.mem_of_getElem? (i := 24) rfl))) (Or.inr (hw _ (List.mem_of_getElem? (i := 30) rfl))) (by decide) (t := .int) (t' := .int) (by decide) (by decide)))
  have Fp1_z_p42 : Fld Z h42 a "com/example/seamark/seamark/transport/CommandApdu" "p1" "I" (.int v3) := Fp1_z_p35.other W42 (Or.inr (slot_ne (Or.inr (hw _ (List.mem_of_getElem? (i := 27) rfl))) (Or.inr (hw _ (List.mem_of_getElem? (i := 30) rfl))) (by decide) (t := .int) (t' := .int) (by decide) (by decide)))
  have Fp2_z_p42 : Fld Z h42 a "com/example/seamark/seamark/transport/CommandApdu" "p2" "I" (.int v4) := Fp2_z_p35.same W42
  have F_data_p42 : Fld Z h42 a "com/example/seamark/seamark/transport/CommandApdu" "data" "[B" .null := F_data_p35.other W42 (Or.inr (slot_ne (Or.inr (hw _ (List.mem_of_getElem? (i := 41) rfl))) (Or.inr (hw _ (List.mem_of_getElem? (i := 30) rfl))) (by decide) (t := (.array .byte)) (t' := .int) (by decide) (by decide)))
  have F_ne_p42 : Fld Z h42 a "com/example/seamark/seamark/transport/CommandApdu" "ne" "I" (.int (0 : Int32)) := F_ne_p35.other W42 (Or.inr (slot_ne (Or.inr (hw _ (List.mem_of_getElem? (i := 43) rfl))) (Or.inr (hw _ (List.mem_of_getElem? (i := 30) rfl))) (by decide) (t := .int) (t' := .int) (by decide) (by decide)))
  have A_d_p42 : own_A Z h42 d .byte nd (fun i => .int (gf i)) := A_d_p35.other W42 ne_d_a
  have E_d_p42 : Exa Z h42 d "[B" := E_d_p35.wr W42
  have Z0_p42 : n0 ≤ h42.size := Nat.le_trans Z0_p35 (Keep.of_wr W42).1
  have hk_p42 := Nat.le_trans hk35 (Keep.of_wr W42).1
  have K_p42 : Keep hI h42 [a] := K_p35.wr W42 (Or.inl (List.mem_of_getElem? (i := 0) rfl))
  refine hst st42 ?_
  show F T42 (mkF m 45 #[.val (.ref a), .val (.int v1), .val (.int v2), .val (.int v3), .val (.int v4), .val (.ref d), .val (.int v6)] [])
  refine hst (fun t₀ k₀ => XS.aload X42.here hx rfl (hb hby d1_45) rfl rfl k₀) ?_
  show F T42 (mkF m 47 #[.val (.ref a), .val (.int v1), .val (.int v2), .val (.int v3), .val (.int v4), .val (.ref d), .val (.int v6)] [(.ref d)])
  obtain ⟨nz, hnz⟩ : ∃ nz : Int32, nd.toInt32 = nz := ⟨_, rfl⟩
  have knz : nz.toInt = nd := by rw [← hnz]; exact Int32.toInt_ofNat_of_lt (by omega)
  refine hst (fun t₀ k₀ => own_alen X42 hx hZ e42 A_d_p42 (z := nz) hnz (g := (mkF m 47 #[.val (.ref a), .val (.int v1), .val (.int v2), .val (.int v3), .val (.int v4), .val (.ref d), .val (.int v6)] [(.ref d)])) rfl rfl (hb hby d1_47) t₀ k₀) ?_
  show F T42 (mkF m 48 #[.val (.ref a), .val (.int v1), .val (.int v2), .val (.int v3), .val (.int v4), .val (.ref d), .val (.int v6)] [(.int nz)])
  refine hst (fun t₀ k₀ => XS.sipush X42.here hx rfl (hb hby d1_48) k₀) ?_
  show F T42 (mkF m 51 #[.val (.ref a), .val (.int v1), .val (.int v2), .val (.int v3), .val (.int v4), .val (.ref d), .val (.int v6)] [(.int (255 : Int32)), (.int nz)])
  refine hst (fun t₀ k₀ => XS.icmpYes X42.here hx rfl (pc0 := 51) (pc' := 70) rfl (hb hby d1_51) rfl (flt (by rw [own_lt32]; have k : (255 : Int32).toInt = 255 := (by decide); omega)).2.2.2 (by decide) (by decide) k₀) ?_
  show F T42 (mkF m 70 #[.val (.ref a), .val (.int v1), .val (.int v2), .val (.int v3), .val (.int v4), .val (.ref d), .val (.int v6)] [])
  refine hst (fun t₀ k₀ => XS.iload X42.here hx rfl (hb hby d1_70) rfl k₀) ?_
  show F T42 (mkF m 72 #[.val (.ref a), .val (.int v1), .val (.int v2), .val (.int v3), .val (.int v4), .val (.ref d), .val (.int v6)] [(.int v6)])
  refine hst (fun t₀ k₀ => XS.ifNo X42.here hx rfl (hb hby d1_72) rfl ((if0 _ _).trans (flt hne.1).1) k₀) ?_
  show F T42 (mkF m 75 #[.val (.ref a), .val (.int v1), .val (.int v2), .val (.int v3), .val (.int v4), .val (.ref d), .val (.int v6)] [])
  refine hst (fun t₀ k₀ => XS.iload X42.here hx rfl (hb hby d1_75) rfl k₀) ?_
  show F T42 (mkF m 77 #[.val (.ref a), .val (.int v1), .val (.int v2), .val (.int v3), .val (.int v4), .val (.ref d), .val (.int v6)] [(.int v6)])
  refine hst (fun t₀ k₀ => XS.sipush X42.here hx rfl (hb hby d1_77) k₀) ?_
  show F T42 (mkF m 80 #[.val (.ref a), .val (.int v1), .val (.int v2), .val (.int v3), .val (.int v4), .val (.ref d), .val (.int v6)] [(.int (256 : Int32)), (.int v6)])
  refine hst (fun t₀ k₀ => XS.icmpYes X42.here hx rfl (pc0 := 80) (pc' := 98) rfl (hb hby d1_80) rfl (flt hne.2).2.2.2 (by decide) (by decide) k₀) ?_
  show F T42 (mkF m 98 #[.val (.ref a), .val (.int v1), .val (.int v2), .val (.int v3), .val (.int v4), .val (.ref d), .val (.int v6)] [])
  refine hst (fun t₀ k₀ => XS.aloadN X42.here hx rfl (hb hby d1_98) rfl rfl k₀) ?_
  show F T42 (mkF m 99 #[.val (.ref a), .val (.int v1), .val (.int v2), .val (.int v3), .val (.int v4), .val (.ref d), .val (.int v6)] [(.ref a)])
  refine hst (fun t₀ k₀ => XS.aload X42.here hx rfl (hb hby d1_99) rfl rfl k₀) ?_
  show F T42 (mkF m 101 #[.val (.ref a), .val (.int v1), .val (.int v2), .val (.int v3), .val (.int v4), .val (.ref d), .val (.int v6)] [(.ref d), (.ref a)])
  obtain ⟨T101, h101, b101, X101, e101, g101, E101, A101, Ex101, st101⟩ := own_clone X42 hx hZ hown (hw _ (List.mem_of_getElem? (i := 31) rfl)) (hw _ (List.mem_of_getElem? (i := 32) rfl)) (hw _ (List.mem_of_getElem? (i := 36) rfl)) (hw _ (List.mem_of_getElem? (i := 34) rfl)) (hw _ (List.mem_of_getElem? (i := 35) rfl)) (hw _ (List.mem_of_getElem? (i := 37) rfl)) e42 A_d_p42 E_d_p42 hfit (g := (mkF m 101 #[.val (.ref a), .val (.int v1), .val (.int v2), .val (.int v3), .val (.int v4), .val (.ref d), .val (.int v6)] [(.ref d), (.ref a)])) rfl (by rw [hml]; rfl) rfl (hb hby d1_101) (by decide) (W := 1) (by show 2 * 0 + _ ≤ _; exact Nat.le_of_eq rfl) (by decide) (cap := 255) hn (by decide) (by decide)
  have ne_a_b101 : a ≠ b101 := Nat.ne_of_lt (Nat.lt_of_lt_of_le E_a_p42.lt (Nat.le_of_eq g101.symm))
  have ne_d_b101 : d ≠ b101 := Nat.ne_of_lt (Nat.lt_of_lt_of_le A_d_p42.lt (Nat.le_of_eq g101.symm))
  have ge_b101 : n0 ≤ b101 := Nat.le_trans Z0_p42 (Nat.le_of_eq g101.symm)
  have sz_b101 : hI.size ≤ b101 := Nat.le_trans K_p42.1 (Nat.le_of_eq g101.symm)
  have E_a_p101 : Exa Z h101 a "com/example/seamark/seamark/transport/CommandApdu" := E_a_p42.ext E101
  have Fcla_z_p101 : Fld Z h101 a "com/example/seamark/seamark/transport/CommandApdu" "cla" "I" (.int v1) := Fcla_z_p42.ext E101
  have Fins_z_p101 : Fld Z h101 a "com/example/seamark/seamark/transport/CommandApdu" "ins" "I" (.int v2) := Fins_z_p42.ext E101
  have Fp1_z_p101 : Fld Z h101 a "com/example/seamark/seamark/transport/CommandApdu" "p1" "I" (.int v3) := Fp1_z_p42.ext E101
  have Fp2_z_p101 : Fld Z h101 a "com/example/seamark/seamark/transport/CommandApdu" "p2" "I" (.int v4) := Fp2_z_p42.ext E101
  have F_data_p101 : Fld Z h101 a "com/example/seamark/seamark/transport/CommandApdu" "data" "[B" .null := F_data_p42.ext E101
  have F_ne_p101 : Fld Z h101 a "com/example/seamark/seamark/transport/CommandApdu" "ne" "I" (.int (0 : Int32)) := F_ne_p42.ext E101
  have A_d_p101 : own_A Z h101 d .byte nd (fun i => .int (gf i)) := A_d_p42.ext E101
  have E_d_p101 : Exa Z h101 d "[B" := E_d_p42.ext E101
  have Z0_p101 : n0 ≤ h101.size := (Nat.le_trans Z0_p42 E101.1)
  have hk_p101 := Nat.le_trans hk_p42 E101.1
  have K_p101 : Keep hI h101 [a] := K_p42.ext E101
  refine hst st101 ?_
  show F T101 (mkF m 104 #[.val (.ref a), .val (.int v1), .val (.int v2), .val (.int v3), .val (.int v4), .val (.ref d), .val (.int v6)] [(.ref b101), (.ref a)])
  obtain ⟨T104, X104, e104, st104⟩ := castY X101 hx hZ hown (hw _ (List.mem_of_getElem? (i := 38) rfl)) e101 (Ins.self Ex101) (g := (mkF m 104 #[.val (.ref a), .val (.int v1), .val (.int v2), .val (.int v3), .val (.int v4), .val (.ref d), .val (.int v6)] [(.ref b101), (.ref a)])) rfl rfl (hb hby d1_104)
  refine hst st104 ?_
  show F T104 (mkF m 107 #[.val (.ref a), .val (.int v1), .val (.int v2), .val (.int v3), .val (.int v4), .val (.ref d), .val (.int v6)] [(.ref b101), (.ref a)])
  obtain ⟨T107, h107, X107, e107, W107, st107⟩ := putF X104 hx hZ hown (host := "") (Or.inl (hw _ (List.mem_of_getElem? (i := 40) rfl))) Via.refl e104 F_data_p101 E_a_p101 (Or.inr ⟨(hw _ (List.mem_of_getElem? (i := 41) rfl)), rfl, hnm⟩) (hw _ (List.mem_of_getElem? (i := 2) rfl)) (ty := (.array .byte)) (by decide) rfl rfl (g := (mkF m 107 #[.val (.ref a), .val (.int v1), .val (.int v2), .val (.int v3), .val (.int v4), .val (.ref d), .val (.int v6)] [(.ref b101), (.ref a)])) rfl rfl (hb hby d1_107)
  have N107 := Fr.snoc X107 N42 ge_a
  have E_a_p107 : Exa Z h107 a "com/example/seamark/seamark/transport/CommandApdu" := E_a_p101.wr W107
  have Fcla_z_p107 : Fld Z h107 a "com/example/seamark/seamark/transport/CommandApdu" "cla" "I" (.int v1) := Fcla_z_p101.other W107 (Or.inr (slot_ne (Or.inr (hw _ (List.mem_of_getElem? (i := 21) rfl))) (Or.inr (hw _ (List.mem_of_getElem? (i := 41) rfl))) (by decide) (t := .int) (t' := (.array .byte)) (by decide) (by decide)))
  have Fins_z_p107 : Fld Z h107 a "com/example/seamark/seamark/transport/CommandApdu" "ins" "I" (.int v2) := Fins_z_p101.other W107 (Or.inr (slot_ne (Or.inr (hw _ (List.mem_of_getElem? (i := 24) rfl))) (Or.inr (hw _ (List.mem_of_getElem? (i := 41) rfl))) (by decide) (t := .int) (t' := (.array .byte)) (by decide) (by decide)))
  have Fp1_z_p107 : Fld Z h107 a "com/example/seamark/seamark/transport/CommandApdu" "p1" "I" (.int v3) := Fp1_z_p101.other W107 (Or.inr (slot_ne (Or.inr (hw _ (List.mem_of_getElem? (i := 27) rfl))) (Or.inr (hw _ (List.mem_of_getElem? (i := 41) rfl))) (by decide) (t := .int) (t' := (.array .byte)) (by decide) (by decide)))
  have Fp2_z_p107 : Fld Z h107 a "com/example/seamark/seamark/transport/CommandApdu" "p2" "I" (.int v4) := Fp2_z_p101.other W107 (Or.inr (slot_ne (Or.inr (hw _ (List.mem_of_getElem? (i := 30) rfl))) (Or.inr (hw _ (List.mem_of_getElem? (i := 41) rfl))) (by decide) (t := .int) (t' := (.array .byte)) (by decide) (by decide)))
  have F_data_p107 : Fld Z h107 a "com/example/seamark/seamark/transport/CommandApdu" "data" "[B" (.ref b101) := F_data_p101.same W107
  have F_ne_p107 : Fld Z h107 a "com/example/seamark/seamark/transport/CommandApdu" "ne" "I" (.int (0 : Int32)) := F_ne_p101.other W107 (Or.inr (slot_ne (Or.inr (hw _ (List.mem_of_getElem? (i := 43) rfl))) (Or.inr (hw _ (List.mem_of_getElem? (i := 41) rfl))) (by decide) (t := .int) (t' := (.array .byte)) (by decide) (by decide)))
  have A_d_p107 : own_A Z h107 d .byte nd (fun i => .int (gf i)) := A_d_p101.other W107 ne_d_a
  have E_d_p107 : Exa Z h107 d "[B" := E_d_p101.wr W107
  have A101_p107 : own_A Z h107 b101 .byte nd (fun i => .int (gf i)) := A101.other W107 (Ne.symm ne_a_b101)
  have Ex101_p107 : Exa Z h107 b101 "[B" := Ex101.wr W107
  have Z0_p107 : n0 ≤ h107.size := Nat.le_trans Z0_p101 (Keep.of_wr W107).1
  have hk_p107 := Nat.le_trans hk_p101 (Keep.of_wr W107).1
  have K_p107 : Keep hI h107 [a] := K_p101.wr W107 (Or.inl (List.mem_of_getElem? (i := 0) rfl))
  refine hst st107 ?_
  show F T107 (mkF m 110 #[.val (.ref a), .val (.int v1), .val (.int v2), .val (.int v3), .val (.int v4), .val (.ref d), .val (.int v6)] [])
  refine hst (fun t₀ k₀ => XS.aloadN X107.here hx rfl (hb hby d1_110) rfl rfl k₀) ?_
  show F T107 (mkF m 111 #[.val (.ref a), .val (.int v1), .val (.int v2), .val (.int v3), .val (.int v4), .val (.ref d), .val (.int v6)] [(.ref a)])
  refine hst (fun t₀ k₀ => XS.iload X107.here hx rfl (hb hby d1_111) rfl k₀) ?_
  show F T107 (mkF m 113 #[.val (.ref a), .val (.int v1), .val (.int v2), .val (.int v3), .val (.int v4), .val (.ref d), .val (.int v6)] [(.int v6), (.ref a)])
  obtain ⟨T113, h113, X113, e113, W113, st113⟩ := putF X107 hx hZ hown (host := "") (Or.inl (hw _ (List.mem_of_getElem? (i := 42) rfl))) Via.refl e107 F_ne_p107 E_a_p107 (Or.inr ⟨(hw _ (List.mem_of_getElem? (i := 43) rfl)), rfl, hnm⟩) (hw _ (List.mem_of_getElem? (i := 2) rfl)) (ty := .int) (by decide) rfl rfl (g := (mkF m 113 #[.val (.ref a), .val (.int v1), .val (.int v2), .val (.int v3), .val (.int v4), .val (.ref d), .val (.int v6)] [(.int v6), (.ref a)])) rfl rfl (hb hby d1_113)
  have N113 := Fr.snoc X113 N107 ge_a
  have E_a_p113 : Exa Z h113 a "com/example/seamark/seamark/transport/CommandApdu" := E_a_p107.wr W113
  have Fcla_z_p113 : Fld Z h113 a "com/example/seamark/seamark/transport/CommandApdu" "cla" "I" (.int v1) := Fcla_z_p107.other W113 (Or.inr (slot_ne (Or.inr (hw _ (List.mem_of_getElem? (i := 21) rfl))) (Or.inr (hw _ (List.mem_of_getElem? (i := 43) rfl))) (by decide) (t := .int) (t' := .int) (by decide) (by decide)))
  have Fins_z_p113 : Fld Z h113 a "com/example/seamark/seamark/transport/CommandApdu" "ins" "I" (.int v2) := Fins_z_p107.other W113 (Or.inr (slot_ne (Or.inr (hw _ (List.mem_of_getElem? (i := 24) rfl))) (Or.inr (hw _ (List.mem_of_getElem? (i := 43) rfl))) (by decide) (t := .int) (t' := .int) (by decide) (by decide)))
  have Fp1_z_p113 : Fld Z h113 a "com/example/seamark/seamark/transport/CommandApdu" "p1" "I" (.int v3) := Fp1_z_p107.other W113 (Or.inr (slot_ne (Or.inr (hw _ (List.mem_of_getElem? (i := 27) rfl))) (Or.inr (hw _ (List.mem_of_getElem? (i := 43) rfl))) (by decide) (t := .int) (t' := .int) (by decide) (by decide)))
  have Fp2_z_p113 : Fld Z h113 a "com/example/seamark/seamark/transport/CommandApdu" "p2" "I" (.int v4) := Fp2_z_p107.other W113 (Or.inr (slot_ne (Or.inr (hw _ (List.mem_of_getElem? (i := 30) rfl))) (Or.inr (hw _ (List.mem_of_getElem? (i := 43) rfl))) (by decide) (t := .int) (t' := .int) (by decide) (by decide)))
  have F_data_p113 : Fld Z h113 a "com/example/seamark/seamark/transport/CommandApdu" "data" "[B" (.ref b101) := F_data_p107.other W113 (Or.inr (slot_ne (Or.inr (hw _ (List.mem_of_getElem? (i := 41) rfl))) (Or.inr (hw _ (List.mem_of_getElem? (i := 43) rfl))) (by decide) (t := (.array .byte)) (t' := .int) (by decide) (by decide)))
  have F_ne_p113 : Fld Z h113 a "com/example/seamark/seamark/transport/CommandApdu" "ne" "I" (.int v6) := F_ne_p107.same W113
  have A_d_p113 : own_A Z h113 d .byte nd (fun i => .int (gf i)) := A_d_p107.other W113 ne_d_a
  have E_d_p113 : Exa Z h113 d "[B" := E_d_p107.wr W113
  have A101_p113 : own_A Z h113 b101 .byte nd (fun i => .int (gf i)) := A101_p107.other W113 (Ne.symm ne_a_b101)
  have Ex101_p113 : Exa Z h113 b101 "[B" := Ex101_p107.wr W113
  have Z0_p113 : n0 ≤ h113.size := Nat.le_trans Z0_p107 (Keep.of_wr W113).1
  have hk_p113 := Nat.le_trans hk_p107 (Keep.of_wr W113).1
  have K_p113 : Keep hI h113 [a] := K_p107.wr W113 (Or.inl (List.mem_of_getElem? (i := 0) rfl))
  refine hst st113 ?_
  show F T113 (mkF m 116 #[.val (.ref a), .val (.int v1), .val (.int v2), .val (.int v3), .val (.int v4), .val (.ref d), .val (.int v6)] [])
  rw [hF]
  refine own_retVW X113 hS35 (by rw [e113]; exact hk_p113) hx hret hlk (hb hby d1_116) (by decide) (by decide) ?_
  rw [e113]
  exact ⟨b101, rfl, N113, K_p113, E_a_p113, Fcla_z_p113, Fins_z_p113, Fp1_z_p113, Fp2_z_p113, F_ne_p113, F_data_p113, A101_p113, Ex101_p113, (Ne.symm ne_a_b101)⟩
def own_iso (nd : Nat) (v : Int32) : Int32 := if nd = 0 then (if v = 0 then 1 else 2) else (if v = 0 then 3 else 4)
theorem d4_0 : decode prog_45_method_18_code 0 = .ok (.aload_n 0, 1) := by decide +kernel
theorem d4_1 : decode prog_45_method_18_code 1 = .ok (.getfield 50, 3) := by decide +kernel
theorem d4_4 : decode prog_45_method_18_code 4 = .ok (.arraylength, 1) := by decide +kernel
theorem d4_5 : decode prog_45_method_18_code 5 = .ok (.ifCond .ne 16, 3) := by decide +kernel
theorem d4_8 : decode prog_45_method_18_code 8 = .ok (.aload_n 0, 1) := by decide +kernel
theorem d4_9 : decode prog_45_method_18_code 9 = .ok (.getfield 53, 3) := by decide +kernel
theorem d4_12 : decode prog_45_method_18_code 12 = .ok (.ifCond .ne 7, 3) := by decide +kernel
theorem d4_15 : decode prog_45_method_18_code 15 = .ok (.iconst 1, 1) := by decide +kernel
theorem d4_16 : decode prog_45_method_18_code 16 = .ok (.goto 4, 3) := by decide +kernel
theorem d4_19 : decode prog_45_method_18_code 19 = .ok (.iconst 2, 1) := by decide +kernel
theorem d4_20 : decode prog_45_method_18_code 20 = .ok (.ireturn, 1) := by decide +kernel
theorem d4_21 : decode prog_45_method_18_code 21 = .ok (.aload_n 0, 1) := by decide +kernel
theorem d4_22 : decode prog_45_method_18_code 22 = .ok (.getfield 53, 3) := by decide +kernel
theorem d4_25 : decode prog_45_method_18_code 25 = .ok (.ifCond .ne 7, 3) := by decide +kernel
theorem d4_28 : decode prog_45_method_18_code 28 = .ok (.iconst 3, 1) := by decide +kernel
theorem d4_29 : decode prog_45_method_18_code 29 = .ok (.goto 4, 3) := by decide +kernel
theorem d4_32 : decode prog_45_method_18_code 32 = .ok (.iconst 4, 1) := by decide +kernel
theorem d4_33 : decode prog_45_method_18_code 33 = .ok (.ireturn, 1) := by decide +kernel
theorem pn_4 : plainFor (⟨"com/example/seamark/seamark/transport/CommandApdu", "isoCase", "()I"⟩ : MethodName) = true := plainFor_of_name (by first | (simp [plainName, overriddenIn]; done) | decide +kernel)
theorem ef_4 (m : MethodId) (a : Addr) : entryFrame m #[(.ref a)] 1 = mkF m 0 #[.val (.ref a)] [] := by first | (simp [entryFrame, mkF, argsToLocals, Value.category]; done) | rfl
def Q4 (Z : State) (a : Addr) (d : Addr) (nd : Nat) (gf : Nat → Int32) (v6 : Int32) (hI : Heap) (n0 : Nat) (v : Option Value) (h : Heap) (L : List Loc) : Prop := v = some (.int (own_iso nd v6)) ∧ Fr n0 L ∧ h = hI
set_option maxRecDepth 65536 in
set_option maxHeartbeats 40000000 in
theorem rm4 (l : Launch) (Z : State) (a0 : Array Value) (hw : ∀ d ∈ tables_1, d.before a0 Z = true) (ws : List Jvm.Cond) (a : Addr) (d : Addr) (nd : Nat) (gf : Nat → Int32) (v6 : Int32) (hI : Heap) (n0 : Nat) (Z0 : n0 ≤ hI.size) (Fda : Fld Z hI a "com/example/seamark/seamark/transport/CommandApdu" "data" "[B" (.ref d)) (A_d : own_A Z hI d .byte nd (fun i => .int (gf i))) (Fne : Fld Z hI a "com/example/seamark/seamark/transport/CommandApdu" "ne" "I" (.int v6)) (hn : nd ≤ 255) :
    MetFree l (⟨"com/example/seamark/seamark/transport/CommandApdu", "isoCase", "()I"⟩ : MethodName) (head1 (Jvm.Cond.code (⟨"com/example/seamark/seamark/transport/CommandApdu", "isoCase", "()I"⟩ : MethodName) prog_45_method_18_code 1 (some .int) :: ws) ({ frames := 0, cells := 0, slots := 0, locals := 0 } : Room)) (fun a₁ U₁ => a₁ = #[(.ref a)] ∧ Z.Warmed39 U₁.vm ∧ U₁.heap = hI) (fun _ _ _ _ _ => True) (fun _ U₁ o₁ U₂ => ∃ v₁ L₁, o₁ = .returned v₁ ∧ Q4 Z a d nd gf v6 hI n0 v₁ U₂.heap L₁ ∧ FrameEnd U₁ o₁ U₂ L₁ ({ frames := 0, cells := 0, slots := 0, locals := 0 } : Room).cells ({ frames := 0, cells := 0, slots := 0, locals := 0 } : Room).slots) := by
  refine own_body pn_4 ?_
  intro p e s m below meth c s₁ hx hby hml hown hnm hret hlk hZ XI eI
  obtain ⟨F, hF⟩ : ∃ F : State → JFrame → Prop, F = own_Fin p.tables e below s ({ frames := 0, cells := 0, slots := 0, locals := 0 } : Room) (Q4 Z a d nd gf v6 hI n0) := ⟨_, rfl⟩
  have hst : ∀ {T T' : State} {g g' : JFrame}, (∀ t, Steps p.tables e below (T'.setTop g') t → Steps p.tables e below (T.setTop g) t) → F T' g' → F T g := by subst hF; exact own_st
  have NI := Fr.nil n0
  show own_Fin p.tables e below s ({ frames := 0, cells := 0, slots := 0, locals := 0 } : Room) (Q4 Z a d nd gf v6 hI n0) s₁ (entryFrame m #[(.ref a)] 1)
  rw [← hF]
  rw [ef_4]
  show F s₁ (mkF m 0 #[.val (.ref a)] [])
  refine hst (fun t₀ k₀ => XS.aloadN XI.here hx rfl (hb hby d4_0) rfl rfl k₀) ?_
  show F s₁ (mkF m 1 #[.val (.ref a)] [(.ref a)])
  obtain ⟨T1, X1, e1, st1⟩ := getF XI hx hZ hown (host := "") (Or.inl (hw _ (List.mem_of_getElem? (i := 40) rfl))) Via.refl eI Fda (g := (mkF m 1 #[.val (.ref a)] [(.ref a)])) rfl rfl (hb hby d4_1)
  refine hst st1 ?_
  show F T1 (mkF m 4 #[.val (.ref a)] [(.ref d)])
  obtain ⟨nz, hnz⟩ : ∃ nz : Int32, nd.toInt32 = nz := ⟨_, rfl⟩
  have knz : nz.toInt = nd := by rw [← hnz]; exact Int32.toInt_ofNat_of_lt (by omega)
  have k0 : (0 : Int32).toInt = 0 := by decide
  refine hst (fun t₀ k₀ => own_alen X1 hx hZ e1 A_d (z := nz) hnz (g := (mkF m 4 #[.val (.ref a)] [(.ref d)])) rfl rfl (hb hby d4_4) t₀ k₀) ?_
  show F T1 (mkF m 5 #[.val (.ref a)] [(.int nz)])
  by_cases hc5 : nz = (0 : Int32)
  · -- pc 5: not taken
    refine hst (fun t₀ k₀ => XS.ifNo X1.here hx rfl (hb hby d4_5) rfl ((if0 _ _).trans (teq hc5).2) k₀) ?_
    show F T1 (mkF m 8 #[.val (.ref a)] [])
    have q5 : nd = 0 := by rw [own_eq32] at hc5; omega
    refine hst (fun t₀ k₀ => XS.aloadN X1.here hx rfl (hb hby d4_8) rfl rfl k₀) ?_
    show F T1 (mkF m 9 #[.val (.ref a)] [(.ref a)])
    obtain ⟨T9, X9, e9, st9⟩ := getF X1 hx hZ hown (host := "") (Or.inl (hw _ (List.mem_of_getElem? (i := 42) rfl))) Via.refl e1 Fne (g := (mkF m 9 #[.val (.ref a)] [(.ref a)])) rfl rfl (hb hby d4_9)
    refine hst st9 ?_
    show F T9 (mkF m 12 #[.val (.ref a)] [(.int v6)])
    by_cases hc12 : v6 = (0 : Int32)
    · -- pc 12: not taken
      refine hst (fun t₀ k₀ => XS.ifNo X9.here hx rfl (hb hby d4_12) rfl ((if0 _ _).trans (teq hc12).2) k₀) ?_
      show F T9 (mkF m 15 #[.val (.ref a)] [])
      refine hst (fun t₀ k₀ => XS.iconst X9.here hx rfl (hb hby d4_15) k₀) ?_
      show F T9 (mkF m 16 #[.val (.ref a)] [(.int (1 : Int32))])
      refine hst (fun t₀ k₀ => XS.goto X9.here hx rfl (pc0 := 16) (pc' := 20) rfl (hb hby d4_16) (by decide) (by decide) k₀) ?_
      show F T9 (mkF m 20 #[.val (.ref a)] [(.int (1 : Int32))])
      rw [hF]
      refine own_retI X9 hx hret hlk (hb hby d4_20) (by decide) (by decide) ?_
      rw [e9]
      exact ⟨(by unfold own_iso; rw [if_pos q5]; first | rw [if_pos hc12] | rw [if_neg hc12]), NI, rfl⟩
    · -- pc 12: taken
      refine hst (fun t₀ k₀ => XS.ifYes X9.here hx rfl (pc0 := 12) (pc' := 19) rfl (hb hby d4_12) rfl ((if0 _ _).trans (feq hc12).2) (by decide) (by decide) k₀) ?_
      show F T9 (mkF m 19 #[.val (.ref a)] [])
      refine hst (fun t₀ k₀ => XS.iconst X9.here hx rfl (hb hby d4_19) k₀) ?_
      show F T9 (mkF m 20 #[.val (.ref a)] [(.int (2 : Int32))])
      rw [hF]
      refine own_retI X9 hx hret hlk (hb hby d4_20) (by decide) (by decide) ?_
      rw [e9]
      exact ⟨(by unfold own_iso; rw [if_pos q5]; first | rw [if_pos hc12] | rw [if_neg hc12]), NI, rfl⟩
  · -- pc 5: taken
    refine hst (fun t₀ k₀ => XS.ifYes X1.here hx rfl (pc0 := 5) (pc' := 21) rfl (hb hby d4_5) rfl ((if0 _ _).trans (feq hc5).2) (by decide) (by decide) k₀) ?_
    show F T1 (mkF m 21 #[.val (.ref a)] [])
    have q5 : ¬ nd = 0 := fun q => hc5 ((own_eq32 _ _).mpr (by omega))
    refine hst (fun t₀ k₀ => XS.aloadN X1.here hx rfl (hb hby d4_21) rfl rfl k₀) ?_
    show F T1 (mkF m 22 #[.val (.ref a)] [(.ref a)])
    obtain ⟨T22, X22, e22, st22⟩ := getF X1 hx hZ hown (host := "") (Or.inl (hw _ (List.mem_of_getElem? (i := 42) rfl))) Via.refl e1 Fne (g := (mkF m 22 #[.val (.ref a)] [(.ref a)])) rfl rfl (hb hby d4_22)
    refine hst st22 ?_
    show F T22 (mkF m 25 #[.val (.ref a)] [(.int v6)])
    by_cases hc25 : v6 = (0 : Int32)
    · -- pc 25: not taken
      refine hst (fun t₀ k₀ => XS.ifNo X22.here hx rfl (hb hby d4_25) rfl ((if0 _ _).trans (teq hc25).2) k₀) ?_
      show F T22 (mkF m 28 #[.val (.ref a)] [])
      refine hst (fun t₀ k₀ => XS.iconst X22.here hx rfl (hb hby d4_28) k₀) ?_
      show F T22 (mkF m 29 #[.val (.ref a)] [(.int (3 : Int32))])
      refine hst (fun t₀ k₀ => XS.goto X22.here hx rfl (pc0 := 29) (pc' := 33) rfl (hb hby d4_29) (by decide) (by decide) k₀) ?_
      show F T22 (mkF m 33 #[.val (.ref a)] [(.int (3 : Int32))])
      rw [hF]
      refine own_retI X22 hx hret hlk (hb hby d4_33) (by decide) (by decide) ?_
      rw [e22]
      exact ⟨(by unfold own_iso; rw [if_neg q5]; first | rw [if_pos hc25] | rw [if_neg hc25]), NI, rfl⟩
    · -- pc 25: taken
      refine hst (fun t₀ k₀ => XS.ifYes X22.here hx rfl (pc0 := 25) (pc' := 32) rfl (hb hby d4_25) rfl ((if0 _ _).trans (feq hc25).2) (by decide) (by decide) k₀) ?_
      show F T22 (mkF m 32 #[.val (.ref a)] [])
      refine hst (fun t₀ k₀ => XS.iconst X22.here hx rfl (hb hby d4_32) k₀) ?_
      show F T22 (mkF m 33 #[.val (.ref a)] [(.int (4 : Int32))])
      rw [hF]
      refine own_retI X22 hx hret hlk (hb hby d4_33) (by decide) (by decide) ?_
      rw [e22]
      exact ⟨(by unfold own_iso; rw [if_neg q5]; first | rw [if_pos hc25] | rw [if_neg hc25]), NI, rfl⟩
theorem pn_0 : plainFor x = true := plainFor_of_name (by first | (simp [plainName, overriddenIn]; done) | decide +kernel)
theorem pd_3 : parseMethodDescriptor "(IIII[BI)V" = some ⟨[.int, .int, .int, .int, (.array .byte), .int], none⟩ := by decide +kernel
theorem pd_0 : parseMethodDescriptor "()I" = some ⟨[], some .int⟩ := by decide +kernel
theorem ef_0 (m : MethodId) (p1 : Int32) (p2 : Int32) (p3 : Int32) (p4 : Int32) (p5 : Int32) (p6 : Int32) : entryFrame m #[(.int p1), (.int p2), (.int p3), (.int p4), (.int p5), (.int p6)] maxLocals = mkF m 0 #[.val (.int p1), .val (.int p2), .val (.int p3), .val (.int p4), .val (.int p5), .val (.int p6), .unset, .unset, .unset, .unset, .unset, .unset, .unset, .unset, .unset, .unset, .unset] [] := by first | (simp [entryFrame, mkF, argsToLocals, Value.category, maxLocals]; done) | rfl
def Q0 (Z : State) (p1 : Int32) (p2 : Int32) (p3 : Int32) (p4 : Int32) (p5 : Int32) (p6 : Int32) (hI : Heap) (n0 : Nat) (v : Option Value) (h : Heap) (L : List Loc) : Prop := v = some (.int 1) ∧ Fr n0 L
set_option maxRecDepth 65536 in
set_option maxHeartbeats 40000000 in
theorem rm0 (l : Launch) (Z : State) (a0 : Array Value) (hw : ∀ d ∈ tables_1, d.before a0 Z = true) (ws : List Jvm.Cond) (p1 : Int32) (p2 : Int32) (p3 : Int32) (p4 : Int32) (p5 : Int32) (p6 : Int32) (hI : Heap) (n0 : Nat) (Z0 : n0 ≤ hI.size) :
    MetFree l x (head1 (Jvm.Cond.code x code maxLocals ret :: ws) room_1) (fun a₁ U₁ => a₁ = #[(.int p1), (.int p2), (.int p3), (.int p4), (.int p5), (.int p6)] ∧ Z.Warmed39 U₁.vm ∧ U₁.heap = hI) (fun _ _ _ _ _ => True) (fun _ U₁ o₁ U₂ => ∃ v₁ L₁, o₁ = .returned v₁ ∧ Q0 Z p1 p2 p3 p4 p5 p6 hI n0 v₁ U₂.heap L₁ ∧ ReturnedEndW U₁ o₁ U₂ L₁ room_1.cells room_1.slots) := by
  refine own_bodyW pn_0 ?_
  intro p e s m below meth c s₁ hx hby hml hown hnm hret hlk hZ XI eI hS0
  have wS := own_strs hw
  have hml : c.maxLocals = 17 := hml
  obtain ⟨F, hF⟩ : ∃ F : State → JFrame → Prop, F = own_FinW p.tables e below s room_1 (Q0 Z p1 p2 p3 p4 p5 p6 hI n0) := ⟨_, rfl⟩
  have hst : ∀ {T T' : State} {g g' : JFrame}, (∀ t, Steps p.tables e below (T'.setTop g') t → Steps p.tables e below (T.setTop g) t) → F T' g' → F T g := by subst hF; exact own_stW
  have NI := Fr.nil n0
  show own_FinW p.tables e below s room_1 (Q0 Z p1 p2 p3 p4 p5 p6 hI n0) s₁ (entryFrame m #[(.int p1), (.int p2), (.int p3), (.int p4), (.int p5), (.int p6)] maxLocals)
  rw [← hF]
  rw [ef_0]
  show F s₁ (mkF m 0 #[.val (.int p1), .val (.int p2), .val (.int p3), .val (.int p4), .val (.int p5), .val (.int p6), .unset, .unset, .unset, .unset, .unset, .unset, .unset, .unset, .unset, .unset, .unset] [])
  refine hst (fun t₀ k₀ => XS.iloadN XI.here hx rfl (hb hby at_0) rfl k₀) ?_
  show F s₁ (mkF m 1 #[.val (.int p1), .val (.int p2), .val (.int p3), .val (.int p4), .val (.int p5), .val (.int p6), .unset, .unset, .unset, .unset, .unset, .unset, .unset, .unset, .unset, .unset, .unset] [(.int p1)])
  refine hst (fun t₀ k₀ => XS.sipush XI.here hx rfl (hb hby at_1) k₀) ?_
  show F s₁ (mkF m 4 #[.val (.int p1), .val (.int p2), .val (.int p3), .val (.int p4), .val (.int p5), .val (.int p6), .unset, .unset, .unset, .unset, .unset, .unset, .unset, .unset, .unset, .unset, .unset] [(.int (255 : Int32)), (.int p1)])
  refine hst (fun t₀ k₀ => XS.iand XI.here hx rfl (hb hby at_4) rfl k₀) ?_
  show F s₁ (mkF m 5 #[.val (.int p1), .val (.int p2), .val (.int p3), .val (.int p4), .val (.int p5), .val (.int p6), .unset, .unset, .unset, .unset, .unset, .unset, .unset, .unset, .unset, .unset, .unset] [(.int (p1 &&& (255 : Int32)))])
  refine hst (fun t₀ k₀ => XS.istore XI.here hx rfl (hb hby at_5) rfl (l' := #[.val (.int p1), .val (.int p2), .val (.int p3), .val (.int p4), .val (.int p5), .val (.int p6), .val (.int (p1 &&& (255 : Int32))), .unset, .unset, .unset, .unset, .unset, .unset, .unset, .unset, .unset, .unset]) rfl k₀) ?_
  show F s₁ (mkF m 7 #[.val (.int p1), .val (.int p2), .val (.int p3), .val (.int p4), .val (.int p5), .val (.int p6), .val (.int (p1 &&& (255 : Int32))), .unset, .unset, .unset, .unset, .unset, .unset, .unset, .unset, .unset, .unset] [])
  refine hst (fun t₀ k₀ => XS.iloadN XI.here hx rfl (hb hby at_7) rfl k₀) ?_
  show F s₁ (mkF m 8 #[.val (.int p1), .val (.int p2), .val (.int p3), .val (.int p4), .val (.int p5), .val (.int p6), .val (.int (p1 &&& (255 : Int32))), .unset, .unset, .unset, .unset, .unset, .unset, .unset, .unset, .unset, .unset] [(.int p2)])
  refine hst (fun t₀ k₀ => XS.sipush XI.here hx rfl (hb hby at_8) k₀) ?_
  show F s₁ (mkF m 11 #[.val (.int p1), .val (.int p2), .val (.int p3), .val (.int p4), .val (.int p5), .val (.int p6), .val (.int (p1 &&& (255 : Int32))), .unset, .unset, .unset, .unset, .unset, .unset, .unset, .unset, .unset, .unset] [(.int (255 : Int32)), (.int p2)])
  refine hst (fun t₀ k₀ => XS.iand XI.here hx rfl (hb hby at_11) rfl k₀) ?_
  show F s₁ (mkF m 12 #[.val (.int p1), .val (.int p2), .val (.int p3), .val (.int p4), .val (.int p5), .val (.int p6), .val (.int (p1 &&& (255 : Int32))), .unset, .unset, .unset, .unset, .unset, .unset, .unset, .unset, .unset, .unset] [(.int (p2 &&& (255 : Int32)))])
  refine hst (fun t₀ k₀ => XS.istore XI.here hx rfl (hb hby at_12) rfl (l' := #[.val (.int p1), .val (.int p2), .val (.int p3), .val (.int p4), .val (.int p5), .val (.int p6), .val (.int (p1 &&& (255 : Int32))), .val (.int (p2 &&& (255 : Int32))), .unset, .unset, .unset, .unset, .unset, .unset, .unset, .unset, .unset]) rfl k₀) ?_
  show F s₁ (mkF m 14 #[.val (.int p1), .val (.int p2), .val (.int p3), .val (.int p4), .val (.int p5), .val (.int p6), .val (.int (p1 &&& (255 : Int32))), .val (.int (p2 &&& (255 : Int32))), .unset, .unset, .unset, .unset, .unset, .unset, .unset, .unset, .unset] [])
  refine hst (fun t₀ k₀ => XS.iloadN XI.here hx rfl (hb hby at_14) rfl k₀) ?_
  show F s₁ (mkF m 15 #[.val (.int p1), .val (.int p2), .val (.int p3), .val (.int p4), .val (.int p5), .val (.int p6), .val (.int (p1 &&& (255 : Int32))), .val (.int (p2 &&& (255 : Int32))), .unset, .unset, .unset, .unset, .unset, .unset, .unset, .unset, .unset] [(.int p3)])
  refine hst (fun t₀ k₀ => XS.sipush XI.here hx rfl (hb hby at_15) k₀) ?_
  show F s₁ (mkF m 18 #[.val (.int p1), .val (.int p2), .val (.int p3), .val (.int p4), .val (.int p5), .val (.int p6), .val (.int (p1 &&& (255 : Int32))), .val (.int (p2 &&& (255 : Int32))), .unset, .unset, .unset, .unset, .unset, .unset, .unset, .unset, .unset] [(.int (255 : Int32)), (.int p3)])
  refine hst (fun t₀ k₀ => XS.iand XI.here hx rfl (hb hby at_18) rfl k₀) ?_
  show F s₁ (mkF m 19 #[.val (.int p1), .val (.int p2), .val (.int p3), .val (.int p4), .val (.int p5), .val (.int p6), .val (.int (p1 &&& (255 : Int32))), .val (.int (p2 &&& (255 : Int32))), .unset, .unset, .unset, .unset, .unset, .unset, .unset, .unset, .unset] [(.int (p3 &&& (255 : Int32)))])
  refine hst (fun t₀ k₀ => XS.istore XI.here hx rfl (hb hby at_19) rfl (l' := #[.val (.int p1), .val (.int p2), .val (.int p3), .val (.int p4), .val (.int p5), .val (.int p6), .val (.int (p1 &&& (255 : Int32))), .val (.int (p2 &&& (255 : Int32))), .val (.int (p3 &&& (255 : Int32))), .unset, .unset, .unset, .unset, .unset, .unset, .unset, .unset]) rfl k₀) ?_
  show F s₁ (mkF m 21 #[.val (.int p1), .val (.int p2), .val (.int p3), .val (.int p4), .val (.int p5), .val (.int p6), .val (.int (p1 &&& (255 : Int32))), .val (.int (p2 &&& (255 : Int32))), .val (.int (p3 &&& (255 : Int32))), .unset, .unset, .unset, .unset, .unset, .unset, .unset, .unset] [])
  refine hst (fun t₀ k₀ => XS.iloadN XI.here hx rfl (hb hby at_21) rfl k₀) ?_
  show F s₁ (mkF m 22 #[.val (.int p1), .val (.int p2), .val (.int p3), .val (.int p4), .val (.int p5), .val (.int p6), .val (.int (p1 &&& (255 : Int32))), .val (.int (p2 &&& (255 : Int32))), .val (.int (p3 &&& (255 : Int32))), .unset, .unset, .unset, .unset, .unset, .unset, .unset, .unset] [(.int p3)])
  refine hst (fun t₀ k₀ => XS.bipush XI.here hx rfl (hb hby at_22) k₀) ?_
  show F s₁ (mkF m 24 #[.val (.int p1), .val (.int p2), .val (.int p3), .val (.int p4), .val (.int p5), .val (.int p6), .val (.int (p1 &&& (255 : Int32))), .val (.int (p2 &&& (255 : Int32))), .val (.int (p3 &&& (255 : Int32))), .unset, .unset, .unset, .unset, .unset, .unset, .unset, .unset] [(.int (8 : Int32)), (.int p3)])
  refine hst (fun t₀ k₀ => XS.iushr XI.here hx rfl (hb hby at_24) rfl k₀) ?_
  show F s₁ (mkF m 25 #[.val (.int p1), .val (.int p2), .val (.int p3), .val (.int p4), .val (.int p5), .val (.int p6), .val (.int (p1 &&& (255 : Int32))), .val (.int (p2 &&& (255 : Int32))), .val (.int (p3 &&& (255 : Int32))), .unset, .unset, .unset, .unset, .unset, .unset, .unset, .unset] [(.int ((p3.toUInt32 >>> ((8 : Int32) &&& 31).toUInt32).toInt32))])
  generalize hus : ((p3.toUInt32 >>> ((8 : Int32) &&& 31).toUInt32).toInt32) = us
  show F s₁ (mkF m 25 #[.val (.int p1), .val (.int p2), .val (.int p3), .val (.int p4), .val (.int p5), .val (.int p6), .val (.int (p1 &&& (255 : Int32))), .val (.int (p2 &&& (255 : Int32))), .val (.int (p3 &&& (255 : Int32))), .unset, .unset, .unset, .unset, .unset, .unset, .unset, .unset] [(.int us)])
  refine hst (fun t₀ k₀ => XS.sipush XI.here hx rfl (hb hby at_25) k₀) ?_
  show F s₁ (mkF m 28 #[.val (.int p1), .val (.int p2), .val (.int p3), .val (.int p4), .val (.int p5), .val (.int p6), .val (.int (p1 &&& (255 : Int32))), .val (.int (p2 &&& (255 : Int32))), .val (.int (p3 &&& (255 : Int32))), .unset, .unset, .unset, .unset, .unset, .unset, .unset, .unset] [(.int (255 : Int32)), (.int us)])
  refine hst (fun t₀ k₀ => XS.iand XI.here hx rfl (hb hby at_28) rfl k₀) ?_
  show F s₁ (mkF m 29 #[.val (.int p1), .val (.int p2), .val (.int p3), .val (.int p4), .val (.int p5), .val (.int p6), .val (.int (p1 &&& (255 : Int32))), .val (.int (p2 &&& (255 : Int32))), .val (.int (p3 &&& (255 : Int32))), .unset, .unset, .unset, .unset, .unset, .unset, .unset, .unset] [(.int (us &&& (255 : Int32)))])
  refine hst (fun t₀ k₀ => XS.istore XI.here hx rfl (hb hby at_29) rfl (l' := #[.val (.int p1), .val (.int p2), .val (.int p3), .val (.int p4), .val (.int p5), .val (.int p6), .val (.int (p1 &&& (255 : Int32))), .val (.int (p2 &&& (255 : Int32))), .val (.int (p3 &&& (255 : Int32))), .val (.int (us &&& (255 : Int32))), .unset, .unset, .unset, .unset, .unset, .unset, .unset]) rfl k₀) ?_
  show F s₁ (mkF m 31 #[.val (.int p1), .val (.int p2), .val (.int p3), .val (.int p4), .val (.int p5), .val (.int p6), .val (.int (p1 &&& (255 : Int32))), .val (.int (p2 &&& (255 : Int32))), .val (.int (p3 &&& (255 : Int32))), .val (.int (us &&& (255 : Int32))), .unset, .unset, .unset, .unset, .unset, .unset, .unset] [])
  refine hst (fun t₀ k₀ => XS.iload XI.here hx rfl (hb hby at_31) rfl k₀) ?_
  show F s₁ (mkF m 33 #[.val (.int p1), .val (.int p2), .val (.int p3), .val (.int p4), .val (.int p5), .val (.int p6), .val (.int (p1 &&& (255 : Int32))), .val (.int (p2 &&& (255 : Int32))), .val (.int (p3 &&& (255 : Int32))), .val (.int (us &&& (255 : Int32))), .unset, .unset, .unset, .unset, .unset, .unset, .unset] [(.int p6)])
  refine hst (fun t₀ k₀ => XS.iconst XI.here hx rfl (hb hby at_33) k₀) ?_
  show F s₁ (mkF m 34 #[.val (.int p1), .val (.int p2), .val (.int p3), .val (.int p4), .val (.int p5), .val (.int p6), .val (.int (p1 &&& (255 : Int32))), .val (.int (p2 &&& (255 : Int32))), .val (.int (p3 &&& (255 : Int32))), .val (.int (us &&& (255 : Int32))), .unset, .unset, .unset, .unset, .unset, .unset, .unset] [(.int (1 : Int32)), (.int p6)])
  refine hst (fun t₀ k₀ => XS.iand XI.here hx rfl (hb hby at_34) rfl k₀) ?_
  show F s₁ (mkF m 35 #[.val (.int p1), .val (.int p2), .val (.int p3), .val (.int p4), .val (.int p5), .val (.int p6), .val (.int (p1 &&& (255 : Int32))), .val (.int (p2 &&& (255 : Int32))), .val (.int (p3 &&& (255 : Int32))), .val (.int (us &&& (255 : Int32))), .unset, .unset, .unset, .unset, .unset, .unset, .unset] [(.int (p6 &&& (1 : Int32)))])
  have J55 : ∀ nv : Int32, (own_in nv 256) → F s₁ (mkF m 55 #[.val (.int p1), .val (.int p2), .val (.int p3), .val (.int p4), .val (.int p5), .val (.int p6), .val (.int (p1 &&& (255 : Int32))), .val (.int (p2 &&& (255 : Int32))), .val (.int (p3 &&& (255 : Int32))), .val (.int (us &&& (255 : Int32))), .val (.int nv), .unset, .unset, .unset, .unset, .unset, .unset] []) := by
    intro nv hnv
    show F s₁ (mkF m 55 #[.val (.int p1), .val (.int p2), .val (.int p3), .val (.int p4), .val (.int p5), .val (.int p6), .val (.int (p1 &&& (255 : Int32))), .val (.int (p2 &&& (255 : Int32))), .val (.int (p3 &&& (255 : Int32))), .val (.int (us &&& (255 : Int32))), .val (.int nv), .unset, .unset, .unset, .unset, .unset, .unset] [])
    refine hst (fun t₀ k₀ => XS.iload XI.here hx rfl (hb hby at_55) rfl k₀) ?_
    show F s₁ (mkF m 57 #[.val (.int p1), .val (.int p2), .val (.int p3), .val (.int p4), .val (.int p5), .val (.int p6), .val (.int (p1 &&& (255 : Int32))), .val (.int (p2 &&& (255 : Int32))), .val (.int (p3 &&& (255 : Int32))), .val (.int (us &&& (255 : Int32))), .val (.int nv), .unset, .unset, .unset, .unset, .unset, .unset] [(.int p6)])
    refine hst (fun t₀ k₀ => XS.iconst XI.here hx rfl (hb hby at_57) k₀) ?_
    show F s₁ (mkF m 58 #[.val (.int p1), .val (.int p2), .val (.int p3), .val (.int p4), .val (.int p5), .val (.int p6), .val (.int (p1 &&& (255 : Int32))), .val (.int (p2 &&& (255 : Int32))), .val (.int (p3 &&& (255 : Int32))), .val (.int (us &&& (255 : Int32))), .val (.int nv), .unset, .unset, .unset, .unset, .unset, .unset] [(.int (1 : Int32)), (.int p6)])
    refine hst (fun t₀ k₀ => XS.iushr XI.here hx rfl (hb hby at_58) rfl k₀) ?_
    show F s₁ (mkF m 59 #[.val (.int p1), .val (.int p2), .val (.int p3), .val (.int p4), .val (.int p5), .val (.int p6), .val (.int (p1 &&& (255 : Int32))), .val (.int (p2 &&& (255 : Int32))), .val (.int (p3 &&& (255 : Int32))), .val (.int (us &&& (255 : Int32))), .val (.int nv), .unset, .unset, .unset, .unset, .unset, .unset] [(.int ((p6.toUInt32 >>> ((1 : Int32) &&& 31).toUInt32).toInt32))])
    generalize hus2 : ((p6.toUInt32 >>> ((1 : Int32) &&& 31).toUInt32).toInt32) = us2
    show F s₁ (mkF m 59 #[.val (.int p1), .val (.int p2), .val (.int p3), .val (.int p4), .val (.int p5), .val (.int p6), .val (.int (p1 &&& (255 : Int32))), .val (.int (p2 &&& (255 : Int32))), .val (.int (p3 &&& (255 : Int32))), .val (.int (us &&& (255 : Int32))), .val (.int nv), .unset, .unset, .unset, .unset, .unset, .unset] [(.int us2)])
    refine hst (fun t₀ k₀ => XS.iconst XI.here hx rfl (hb hby at_59) k₀) ?_
    show F s₁ (mkF m 60 #[.val (.int p1), .val (.int p2), .val (.int p3), .val (.int p4), .val (.int p5), .val (.int p6), .val (.int (p1 &&& (255 : Int32))), .val (.int (p2 &&& (255 : Int32))), .val (.int (p3 &&& (255 : Int32))), .val (.int (us &&& (255 : Int32))), .val (.int nv), .unset, .unset, .unset, .unset, .unset, .unset] [(.int (3 : Int32)), (.int us2)])
    refine hst (fun t₀ k₀ => XS.iand XI.here hx rfl (hb hby at_60) rfl k₀) ?_
    show F s₁ (mkF m 61 #[.val (.int p1), .val (.int p2), .val (.int p3), .val (.int p4), .val (.int p5), .val (.int p6), .val (.int (p1 &&& (255 : Int32))), .val (.int (p2 &&& (255 : Int32))), .val (.int (p3 &&& (255 : Int32))), .val (.int (us &&& (255 : Int32))), .val (.int nv), .unset, .unset, .unset, .unset, .unset, .unset] [(.int (us2 &&& (3 : Int32)))])
    generalize hkv : (us2 &&& (3 : Int32)) = kv
    show F s₁ (mkF m 61 #[.val (.int p1), .val (.int p2), .val (.int p3), .val (.int p4), .val (.int p5), .val (.int p6), .val (.int (p1 &&& (255 : Int32))), .val (.int (p2 &&& (255 : Int32))), .val (.int (p3 &&& (255 : Int32))), .val (.int (us &&& (255 : Int32))), .val (.int nv), .unset, .unset, .unset, .unset, .unset, .unset] [(.int kv)])
    refine hst (fun t₀ k₀ => XS.istore XI.here hx rfl (hb hby at_61) rfl (l' := #[.val (.int p1), .val (.int p2), .val (.int p3), .val (.int p4), .val (.int p5), .val (.int p6), .val (.int (p1 &&& (255 : Int32))), .val (.int (p2 &&& (255 : Int32))), .val (.int (p3 &&& (255 : Int32))), .val (.int (us &&& (255 : Int32))), .val (.int nv), .val (.int kv), .unset, .unset, .unset, .unset, .unset]) rfl k₀) ?_
    show F s₁ (mkF m 63 #[.val (.int p1), .val (.int p2), .val (.int p3), .val (.int p4), .val (.int p5), .val (.int p6), .val (.int (p1 &&& (255 : Int32))), .val (.int (p2 &&& (255 : Int32))), .val (.int (p3 &&& (255 : Int32))), .val (.int (us &&& (255 : Int32))), .val (.int nv), .val (.int kv), .unset, .unset, .unset, .unset, .unset] [])
    refine hst (fun t₀ k₀ => XS.iload XI.here hx rfl (hb hby at_63) rfl k₀) ?_
    show F s₁ (mkF m 65 #[.val (.int p1), .val (.int p2), .val (.int p3), .val (.int p4), .val (.int p5), .val (.int p6), .val (.int (p1 &&& (255 : Int32))), .val (.int (p2 &&& (255 : Int32))), .val (.int (p3 &&& (255 : Int32))), .val (.int (us &&& (255 : Int32))), .val (.int nv), .val (.int kv), .unset, .unset, .unset, .unset, .unset] [(.int kv)])
    by_cases hc65 : kv = (0 : Int32)
    · -- pc 65: not taken
      refine hst (fun t₀ k₀ => XS.ifNo XI.here hx rfl (hb hby at_65) rfl ((if0 _ _).trans (teq hc65).2) k₀) ?_
      show F s₁ (mkF m 68 #[.val (.int p1), .val (.int p2), .val (.int p3), .val (.int p4), .val (.int p5), .val (.int p6), .val (.int (p1 &&& (255 : Int32))), .val (.int (p2 &&& (255 : Int32))), .val (.int (p3 &&& (255 : Int32))), .val (.int (us &&& (255 : Int32))), .val (.int nv), .val (.int kv), .unset, .unset, .unset, .unset, .unset] [])
      refine hst (fun t₀ k₀ => XS.iconst XI.here hx rfl (hb hby at_68) k₀) ?_
      show F s₁ (mkF m 69 #[.val (.int p1), .val (.int p2), .val (.int p3), .val (.int p4), .val (.int p5), .val (.int p6), .val (.int (p1 &&& (255 : Int32))), .val (.int (p2 &&& (255 : Int32))), .val (.int (p3 &&& (255 : Int32))), .val (.int (us &&& (255 : Int32))), .val (.int nv), .val (.int kv), .unset, .unset, .unset, .unset, .unset] [(.int (0 : Int32))])
      obtain ⟨T69, h69, b69, X69, e69, g69, E69, A69, Ex69, st69⟩ := own_newarrE XI hx hZ (hw _ (List.mem_of_getElem? (i := 0) rfl)) eI (g := (mkF m 69 #[.val (.int p1), .val (.int p2), .val (.int p3), .val (.int p4), .val (.int p5), .val (.int p6), .val (.int (p1 &&& (255 : Int32))), .val (.int (p2 &&& (255 : Int32))), .val (.int (p3 &&& (255 : Int32))), .val (.int (us &&& (255 : Int32))), .val (.int nv), .val (.int kv), .unset, .unset, .unset, .unset, .unset] [(.int (0 : Int32))])) rfl (hb hby at_69) rfl (by decide) (cap := 0) (by decide) (by decide) (by decide) (by decide)
      have ge_b69 : n0 ≤ b69 := Nat.le_trans Z0 (Nat.le_of_eq g69.symm)
      have Z0_p69 : n0 ≤ h69.size := (Nat.le_trans Z0 E69.1)
      have hk_p69 := Nat.le_trans (Nat.zero_le _) E69.1
      have A_b69 : own_A Z h69 b69 .byte 0 (fun _ => (.int (0 : Int32))) := A69
      refine hst st69 ?_
      show F T69 (mkF m 71 #[.val (.int p1), .val (.int p2), .val (.int p3), .val (.int p4), .val (.int p5), .val (.int p6), .val (.int (p1 &&& (255 : Int32))), .val (.int (p2 &&& (255 : Int32))), .val (.int (p3 &&& (255 : Int32))), .val (.int (us &&& (255 : Int32))), .val (.int nv), .val (.int kv), .unset, .unset, .unset, .unset, .unset] [(.ref b69)])
      refine hst (fun t₀ k₀ => XS.astore X69.here hx rfl (hb hby at_71) rfl rfl (l' := #[.val (.int p1), .val (.int p2), .val (.int p3), .val (.int p4), .val (.int p5), .val (.int p6), .val (.int (p1 &&& (255 : Int32))), .val (.int (p2 &&& (255 : Int32))), .val (.int (p3 &&& (255 : Int32))), .val (.int (us &&& (255 : Int32))), .val (.int nv), .val (.int kv), .val (.ref b69), .unset, .unset, .unset, .unset]) rfl k₀) ?_
      show F T69 (mkF m 73 #[.val (.int p1), .val (.int p2), .val (.int p3), .val (.int p4), .val (.int p5), .val (.int p6), .val (.int (p1 &&& (255 : Int32))), .val (.int (p2 &&& (255 : Int32))), .val (.int (p3 &&& (255 : Int32))), .val (.int (us &&& (255 : Int32))), .val (.int nv), .val (.int kv), .val (.ref b69), .unset, .unset, .unset, .unset] [])
      refine hst (fun t₀ k₀ => XS.goto X69.here hx rfl (pc0 := 73) (pc' := 129) rfl (hb hby at_73) (by decide) (by decide) k₀) ?_
      show F T69 (mkF m 129 #[.val (.int p1), .val (.int p2), .val (.int p3), .val (.int p4), .val (.int p5), .val (.int p6), .val (.int (p1 &&& (255 : Int32))), .val (.int (p2 &&& (255 : Int32))), .val (.int (p3 &&& (255 : Int32))), .val (.int (us &&& (255 : Int32))), .val (.int nv), .val (.int kv), .val (.ref b69), .unset, .unset, .unset, .unset] [])
      obtain ⟨T129, h129, b129, X129, e129, g129, E129, A129, D129, st129⟩ := own_new X69 hx hZ hown (hw _ (List.mem_of_getElem? (i := 1) rfl)) (hw _ (List.mem_of_getElem? (i := 2) rfl)) (hw _ (List.mem_of_getElem? (i := 3) rfl)) e69 (g := (mkF m 129 #[.val (.int p1), .val (.int p2), .val (.int p3), .val (.int p4), .val (.int p5), .val (.int p6), .val (.int (p1 &&& (255 : Int32))), .val (.int (p2 &&& (255 : Int32))), .val (.int (p3 &&& (255 : Int32))), .val (.int (us &&& (255 : Int32))), .val (.int nv), .val (.int kv), .val (.ref b69), .unset, .unset, .unset, .unset] [])) rfl (hb hby at_129) (by decide) (by decide)
      have ne_b69_b129 : b69 ≠ b129 := Nat.ne_of_lt (Nat.lt_of_lt_of_le A_b69.lt (Nat.le_of_eq g129.symm))
      have ge_b129 : n0 ≤ b129 := Nat.le_trans Z0_p69 (Nat.le_of_eq g129.symm)
      have A_b69_p129 : own_A Z h129 b69 .byte 0 (fun _ => (.int (0 : Int32))) := A_b69.ext E129
      have Ex69_p129 : Exa Z h129 b69 "[B" := Ex69.ext E129
      have Z0_p129 : n0 ≤ h129.size := (Nat.le_trans Z0_p69 E129.1)
      have hk_p129 := Nat.le_trans hk_p69 E129.1
      have F_cla_b129 : Fld Z h129 b129 "com/example/seamark/seamark/transport/CommandApdu" "cla" "I" (.int (0 : Int32)) := D129 (Or.inr (hw _ (List.mem_of_getElem? (i := 21) rfl))) (ty := .int) (by decide)
      have F_ins_b129 : Fld Z h129 b129 "com/example/seamark/seamark/transport/CommandApdu" "ins" "I" (.int (0 : Int32)) := D129 (Or.inr (hw _ (List.mem_of_getElem? (i := 24) rfl))) (ty := .int) (by decide)
      have F_p1_b129 : Fld Z h129 b129 "com/example/seamark/seamark/transport/CommandApdu" "p1" "I" (.int (0 : Int32)) := D129 (Or.inr (hw _ (List.mem_of_getElem? (i := 27) rfl))) (ty := .int) (by decide)
      have F_p2_b129 : Fld Z h129 b129 "com/example/seamark/seamark/transport/CommandApdu" "p2" "I" (.int (0 : Int32)) := D129 (Or.inr (hw _ (List.mem_of_getElem? (i := 30) rfl))) (ty := .int) (by decide)
      have F_data_b129 : Fld Z h129 b129 "com/example/seamark/seamark/transport/CommandApdu" "data" "[B" .null := D129 (Or.inr (hw _ (List.mem_of_getElem? (i := 41) rfl))) (ty := (.array .byte)) (by decide)
      have F_ne_b129 : Fld Z h129 b129 "com/example/seamark/seamark/transport/CommandApdu" "ne" "I" (.int (0 : Int32)) := D129 (Or.inr (hw _ (List.mem_of_getElem? (i := 43) rfl))) (ty := .int) (by decide)
      refine hst st129 ?_
      show F T129 (mkF m 132 #[.val (.int p1), .val (.int p2), .val (.int p3), .val (.int p4), .val (.int p5), .val (.int p6), .val (.int (p1 &&& (255 : Int32))), .val (.int (p2 &&& (255 : Int32))), .val (.int (p3 &&& (255 : Int32))), .val (.int (us &&& (255 : Int32))), .val (.int nv), .val (.int kv), .val (.ref b69), .unset, .unset, .unset, .unset] [(.ref b129)])
      refine hst (fun t₀ k₀ => XS.dup X129.here hx rfl (hb hby at_132) rfl rfl k₀) ?_
      show F T129 (mkF m 133 #[.val (.int p1), .val (.int p2), .val (.int p3), .val (.int p4), .val (.int p5), .val (.int p6), .val (.int (p1 &&& (255 : Int32))), .val (.int (p2 &&& (255 : Int32))), .val (.int (p3 &&& (255 : Int32))), .val (.int (us &&& (255 : Int32))), .val (.int nv), .val (.int kv), .val (.ref b69), .unset, .unset, .unset, .unset] [(.ref b129), (.ref b129)])
      refine hst (fun t₀ k₀ => XS.iload X129.here hx rfl (hb hby at_133) rfl k₀) ?_
      show F T129 (mkF m 135 #[.val (.int p1), .val (.int p2), .val (.int p3), .val (.int p4), .val (.int p5), .val (.int p6), .val (.int (p1 &&& (255 : Int32))), .val (.int (p2 &&& (255 : Int32))), .val (.int (p3 &&& (255 : Int32))), .val (.int (us &&& (255 : Int32))), .val (.int nv), .val (.int kv), .val (.ref b69), .unset, .unset, .unset, .unset] [(.int (p1 &&& (255 : Int32))), (.ref b129), (.ref b129)])
      refine hst (fun t₀ k₀ => XS.iload X129.here hx rfl (hb hby at_135) rfl k₀) ?_
      show F T129 (mkF m 137 #[.val (.int p1), .val (.int p2), .val (.int p3), .val (.int p4), .val (.int p5), .val (.int p6), .val (.int (p1 &&& (255 : Int32))), .val (.int (p2 &&& (255 : Int32))), .val (.int (p3 &&& (255 : Int32))), .val (.int (us &&& (255 : Int32))), .val (.int nv), .val (.int kv), .val (.ref b69), .unset, .unset, .unset, .unset] [(.int (p2 &&& (255 : Int32))), (.int (p1 &&& (255 : Int32))), (.ref b129), (.ref b129)])
      refine hst (fun t₀ k₀ => XS.iload X129.here hx rfl (hb hby at_137) rfl k₀) ?_
      show F T129 (mkF m 139 #[.val (.int p1), .val (.int p2), .val (.int p3), .val (.int p4), .val (.int p5), .val (.int p6), .val (.int (p1 &&& (255 : Int32))), .val (.int (p2 &&& (255 : Int32))), .val (.int (p3 &&& (255 : Int32))), .val (.int (us &&& (255 : Int32))), .val (.int nv), .val (.int kv), .val (.ref b69), .unset, .unset, .unset, .unset] [(.int (p3 &&& (255 : Int32))), (.int (p2 &&& (255 : Int32))), (.int (p1 &&& (255 : Int32))), (.ref b129), (.ref b129)])
      refine hst (fun t₀ k₀ => XS.iload X129.here hx rfl (hb hby at_139) rfl k₀) ?_
      show F T129 (mkF m 141 #[.val (.int p1), .val (.int p2), .val (.int p3), .val (.int p4), .val (.int p5), .val (.int p6), .val (.int (p1 &&& (255 : Int32))), .val (.int (p2 &&& (255 : Int32))), .val (.int (p3 &&& (255 : Int32))), .val (.int (us &&& (255 : Int32))), .val (.int nv), .val (.int kv), .val (.ref b69), .unset, .unset, .unset, .unset] [(.int (us &&& (255 : Int32))), (.int (p3 &&& (255 : Int32))), (.int (p2 &&& (255 : Int32))), (.int (p1 &&& (255 : Int32))), (.ref b129), (.ref b129)])
      refine hst (fun t₀ k₀ => XS.aload X129.here hx rfl (hb hby at_141) rfl rfl k₀) ?_
      show F T129 (mkF m 143 #[.val (.int p1), .val (.int p2), .val (.int p3), .val (.int p4), .val (.int p5), .val (.int p6), .val (.int (p1 &&& (255 : Int32))), .val (.int (p2 &&& (255 : Int32))), .val (.int (p3 &&& (255 : Int32))), .val (.int (us &&& (255 : Int32))), .val (.int nv), .val (.int kv), .val (.ref b69), .unset, .unset, .unset, .unset] [(.ref b69), (.int (us &&& (255 : Int32))), (.int (p3 &&& (255 : Int32))), (.int (p2 &&& (255 : Int32))), (.int (p1 &&& (255 : Int32))), (.ref b129), (.ref b129)])
      refine hst (fun t₀ k₀ => XS.iload X129.here hx rfl (hb hby at_143) rfl k₀) ?_
      show F T129 (mkF m 145 #[.val (.int p1), .val (.int p2), .val (.int p3), .val (.int p4), .val (.int p5), .val (.int p6), .val (.int (p1 &&& (255 : Int32))), .val (.int (p2 &&& (255 : Int32))), .val (.int (p3 &&& (255 : Int32))), .val (.int (us &&& (255 : Int32))), .val (.int nv), .val (.int kv), .val (.ref b69), .unset, .unset, .unset, .unset] [(.int nv), (.ref b69), (.int (us &&& (255 : Int32))), (.int (p3 &&& (255 : Int32))), (.int (p2 &&& (255 : Int32))), (.int (p1 &&& (255 : Int32))), (.ref b129), (.ref b129)])
      obtain ⟨v145, T145, Lc145, X145, hQ145, hS145, hZ, hown, st145⟩ := own_callNW X129 hS0 hk_p129 hx hZ (y := (⟨"com/example/seamark/seamark/transport/CommandApdu", "<init>", "(IIII[BI)V"⟩ : MethodName)) rfl hown (hw _ (List.mem_of_getElem? (i := 4) rfl)) (hw _ (List.mem_of_getElem? (i := 5) rfl)) (hw _ (List.mem_of_getElem? (i := 3) rfl)) (hw _ (List.mem_of_getElem? (i := 6) rfl)) (by decide) e129 (rm1 l Z a0 hw [] b129 (p1 &&& (255 : Int32)) (p2 &&& (255 : Int32)) (p3 &&& (255 : Int32)) (us &&& (255 : Int32)) b69 nv 0 (fun _ => (0 : Int32)) h129 n0 Z0_p129 A129 ge_b129 F_cla_b129 F_ins_b129 F_p1_b129 F_p2_b129 F_data_b129 F_ne_b129 A_b69_p129 Ex69_p129 ne_b69_b129 (by decide) (fun i _ => rfl) (own_in255 _) (own_in255 _) (own_in255 _) (own_in255 _) hnv) (by decide) (by decide) (g := (mkF m 145 #[.val (.int p1), .val (.int p2), .val (.int p3), .val (.int p4), .val (.int p5), .val (.int p6), .val (.int (p1 &&& (255 : Int32))), .val (.int (p2 &&& (255 : Int32))), .val (.int (p3 &&& (255 : Int32))), .val (.int (us &&& (255 : Int32))), .val (.int nv), .val (.int kv), .val (.ref b69), .unset, .unset, .unset, .unset] [(.int nv), (.ref b69), (.int (us &&& (255 : Int32))), (.int (p3 &&& (255 : Int32))), (.int (p2 &&& (255 : Int32))), (.int (p1 &&& (255 : Int32))), (.ref b129), (.ref b129)])) rfl (by rw [hml]; rfl) (a := b129) (argsL := [(.int (p1 &&& (255 : Int32))), (.int (p2 &&& (255 : Int32))), (.int (p3 &&& (255 : Int32))), (.int (us &&& (255 : Int32))), (.ref b69), (.int nv)]) (rest := [(.ref b129)]) (lenOf pd_3 rfl) rfl rfl (W := 1) (by show 2 * 0 + _ ≤ _; exact Nat.le_of_eq rfl) (hb hby at_145) (by decide) (by decide)
      obtain ⟨bd145, rfl, Nq145, K145, q1_145, q2_145, q3_145, q4_145, q5_145, q6_145, q7_145, q8_145, q9_145, ne_bd145_b129⟩ := hQ145
      have N145 := Fr.app NI Nq145
      have A_b69_p145 : own_A Z T145.heap b69 .byte 0 (fun _ => (.int (0 : Int32))) := A_b69_p129.keep K145 (by simp only [List.mem_cons, List.not_mem_nil, or_false, not_or]; exact ne_b69_b129)
      have Ex69_p145 : Exa Z T145.heap b69 "[B" := Ex69_p129.keep K145
      have Z0_p145 : n0 ≤ T145.heap.size := Nat.le_trans Z0_p129 K145.1
      refine hst st145 ?_
      show F T145 (mkF m 148 #[.val (.int p1), .val (.int p2), .val (.int p3), .val (.int p4), .val (.int p5), .val (.int p6), .val (.int (p1 &&& (255 : Int32))), .val (.int (p2 &&& (255 : Int32))), .val (.int (p3 &&& (255 : Int32))), .val (.int (us &&& (255 : Int32))), .val (.int nv), .val (.int kv), .val (.ref b69), .unset, .unset, .unset, .unset] [(.ref b129)])
      refine hst (fun t₀ k₀ => XS.astore X145.here hx rfl (hb hby at_148) rfl rfl (l' := #[.val (.int p1), .val (.int p2), .val (.int p3), .val (.int p4), .val (.int p5), .val (.int p6), .val (.int (p1 &&& (255 : Int32))), .val (.int (p2 &&& (255 : Int32))), .val (.int (p3 &&& (255 : Int32))), .val (.int (us &&& (255 : Int32))), .val (.int nv), .val (.int kv), .val (.ref b69), .val (.ref b129), .unset, .unset, .unset]) rfl k₀) ?_
      show F T145 (mkF m 150 #[.val (.int p1), .val (.int p2), .val (.int p3), .val (.int p4), .val (.int p5), .val (.int p6), .val (.int (p1 &&& (255 : Int32))), .val (.int (p2 &&& (255 : Int32))), .val (.int (p3 &&& (255 : Int32))), .val (.int (us &&& (255 : Int32))), .val (.int nv), .val (.int kv), .val (.ref b69), .val (.ref b129), .unset, .unset, .unset] [])
      refine hst (fun t₀ k₀ => XS.iload X145.here hx rfl (hb hby at_150) rfl k₀) ?_
      show F T145 (mkF m 152 #[.val (.int p1), .val (.int p2), .val (.int p3), .val (.int p4), .val (.int p5), .val (.int p6), .val (.int (p1 &&& (255 : Int32))), .val (.int (p2 &&& (255 : Int32))), .val (.int (p3 &&& (255 : Int32))), .val (.int (us &&& (255 : Int32))), .val (.int nv), .val (.int kv), .val (.ref b69), .val (.ref b129), .unset, .unset, .unset] [(.int kv)])
      refine hst (fun t₀ k₀ => XS.ifYes X145.here hx rfl (pc0 := 152) (pc' := 159) rfl (hb hby at_152) rfl ((if0 _ _).trans (teq hc65).1) (by decide) (by decide) k₀) ?_
      show F T145 (mkF m 159 #[.val (.int p1), .val (.int p2), .val (.int p3), .val (.int p4), .val (.int p5), .val (.int p6), .val (.int (p1 &&& (255 : Int32))), .val (.int (p2 &&& (255 : Int32))), .val (.int (p3 &&& (255 : Int32))), .val (.int (us &&& (255 : Int32))), .val (.int nv), .val (.int kv), .val (.ref b69), .val (.ref b129), .unset, .unset, .unset] [])
      refine hst (fun t₀ k₀ => XS.iconst X145.here hx rfl (hb hby at_159) k₀) ?_
      show F T145 (mkF m 160 #[.val (.int p1), .val (.int p2), .val (.int p3), .val (.int p4), .val (.int p5), .val (.int p6), .val (.int (p1 &&& (255 : Int32))), .val (.int (p2 &&& (255 : Int32))), .val (.int (p3 &&& (255 : Int32))), .val (.int (us &&& (255 : Int32))), .val (.int nv), .val (.int kv), .val (.ref b69), .val (.ref b129), .unset, .unset, .unset] [(.int (0 : Int32))])
      refine hst (fun t₀ k₀ => XS.istore X145.here hx rfl (hb hby at_160) rfl (l' := #[.val (.int p1), .val (.int p2), .val (.int p3), .val (.int p4), .val (.int p5), .val (.int p6), .val (.int (p1 &&& (255 : Int32))), .val (.int (p2 &&& (255 : Int32))), .val (.int (p3 &&& (255 : Int32))), .val (.int (us &&& (255 : Int32))), .val (.int nv), .val (.int kv), .val (.ref b69), .val (.ref b129), .val (.int (0 : Int32)), .unset, .unset]) rfl k₀) ?_
      show F T145 (mkF m 162 #[.val (.int p1), .val (.int p2), .val (.int p3), .val (.int p4), .val (.int p5), .val (.int p6), .val (.int (p1 &&& (255 : Int32))), .val (.int (p2 &&& (255 : Int32))), .val (.int (p3 &&& (255 : Int32))), .val (.int (us &&& (255 : Int32))), .val (.int nv), .val (.int kv), .val (.ref b69), .val (.ref b129), .val (.int (0 : Int32)), .unset, .unset] [])
      refine hst (fun t₀ k₀ => XS.iload X145.here hx rfl (hb hby at_162) rfl k₀) ?_
      show F T145 (mkF m 164 #[.val (.int p1), .val (.int p2), .val (.int p3), .val (.int p4), .val (.int p5), .val (.int p6), .val (.int (p1 &&& (255 : Int32))), .val (.int (p2 &&& (255 : Int32))), .val (.int (p3 &&& (255 : Int32))), .val (.int (us &&& (255 : Int32))), .val (.int nv), .val (.int kv), .val (.ref b69), .val (.ref b129), .val (.int (0 : Int32)), .unset, .unset] [(.int nv)])
      by_cases hc164 : nv = (0 : Int32)
      · -- pc 164: taken
        refine hst (fun t₀ k₀ => XS.ifYes X145.here hx rfl (pc0 := 164) (pc' := 171) rfl (hb hby at_164) rfl ((if0 _ _).trans (teq hc164).1) (by decide) (by decide) k₀) ?_
        show F T145 (mkF m 171 #[.val (.int p1), .val (.int p2), .val (.int p3), .val (.int p4), .val (.int p5), .val (.int p6), .val (.int (p1 &&& (255 : Int32))), .val (.int (p2 &&& (255 : Int32))), .val (.int (p3 &&& (255 : Int32))), .val (.int (us &&& (255 : Int32))), .val (.int nv), .val (.int kv), .val (.ref b69), .val (.ref b129), .val (.int (0 : Int32)), .unset, .unset] [])
        refine hst (fun t₀ k₀ => XS.iconst X145.here hx rfl (hb hby at_171) k₀) ?_
        show F T145 (mkF m 172 #[.val (.int p1), .val (.int p2), .val (.int p3), .val (.int p4), .val (.int p5), .val (.int p6), .val (.int (p1 &&& (255 : Int32))), .val (.int (p2 &&& (255 : Int32))), .val (.int (p3 &&& (255 : Int32))), .val (.int (us &&& (255 : Int32))), .val (.int nv), .val (.int kv), .val (.ref b69), .val (.ref b129), .val (.int (0 : Int32)), .unset, .unset] [(.int (0 : Int32))])
        refine hst (fun t₀ k₀ => XS.istore X145.here hx rfl (hb hby at_172) rfl (l' := #[.val (.int p1), .val (.int p2), .val (.int p3), .val (.int p4), .val (.int p5), .val (.int p6), .val (.int (p1 &&& (255 : Int32))), .val (.int (p2 &&& (255 : Int32))), .val (.int (p3 &&& (255 : Int32))), .val (.int (us &&& (255 : Int32))), .val (.int nv), .val (.int kv), .val (.ref b69), .val (.ref b129), .val (.int (0 : Int32)), .val (.int (0 : Int32)), .unset]) rfl k₀) ?_
        show F T145 (mkF m 174 #[.val (.int p1), .val (.int p2), .val (.int p3), .val (.int p4), .val (.int p5), .val (.int p6), .val (.int (p1 &&& (255 : Int32))), .val (.int (p2 &&& (255 : Int32))), .val (.int (p3 &&& (255 : Int32))), .val (.int (us &&& (255 : Int32))), .val (.int nv), .val (.int kv), .val (.ref b69), .val (.ref b129), .val (.int (0 : Int32)), .val (.int (0 : Int32)), .unset] [])
        refine hst (fun t₀ k₀ => XS.iconst X145.here hx rfl (hb hby at_174) k₀) ?_
        show F T145 (mkF m 175 #[.val (.int p1), .val (.int p2), .val (.int p3), .val (.int p4), .val (.int p5), .val (.int p6), .val (.int (p1 &&& (255 : Int32))), .val (.int (p2 &&& (255 : Int32))), .val (.int (p3 &&& (255 : Int32))), .val (.int (us &&& (255 : Int32))), .val (.int nv), .val (.int kv), .val (.ref b69), .val (.ref b129), .val (.int (0 : Int32)), .val (.int (0 : Int32)), .unset] [(.int (1 : Int32))])
        refine hst (fun t₀ k₀ => XS.iload X145.here hx rfl (hb hby at_175) rfl k₀) ?_
        show F T145 (mkF m 177 #[.val (.int p1), .val (.int p2), .val (.int p3), .val (.int p4), .val (.int p5), .val (.int p6), .val (.int (p1 &&& (255 : Int32))), .val (.int (p2 &&& (255 : Int32))), .val (.int (p3 &&& (255 : Int32))), .val (.int (us &&& (255 : Int32))), .val (.int nv), .val (.int kv), .val (.ref b69), .val (.ref b129), .val (.int (0 : Int32)), .val (.int (0 : Int32)), .unset] [(.int (0 : Int32)), (.int (1 : Int32))])
        refine hst (fun t₀ k₀ => XS.ifYes X145.here hx rfl (pc0 := 177) (pc' := 184) rfl (hb hby at_177) rfl ((if0 _ _).trans (teq (by decide)).1) (by decide) (by decide) k₀) ?_
        show F T145 (mkF m 184 #[.val (.int p1), .val (.int p2), .val (.int p3), .val (.int p4), .val (.int p5), .val (.int p6), .val (.int (p1 &&& (255 : Int32))), .val (.int (p2 &&& (255 : Int32))), .val (.int (p3 &&& (255 : Int32))), .val (.int (us &&& (255 : Int32))), .val (.int nv), .val (.int kv), .val (.ref b69), .val (.ref b129), .val (.int (0 : Int32)), .val (.int (0 : Int32)), .unset] [(.int (1 : Int32))])
        refine hst (fun t₀ k₀ => XS.iconst X145.here hx rfl (hb hby at_184) k₀) ?_
        show F T145 (mkF m 185 #[.val (.int p1), .val (.int p2), .val (.int p3), .val (.int p4), .val (.int p5), .val (.int p6), .val (.int (p1 &&& (255 : Int32))), .val (.int (p2 &&& (255 : Int32))), .val (.int (p3 &&& (255 : Int32))), .val (.int (us &&& (255 : Int32))), .val (.int nv), .val (.int kv), .val (.ref b69), .val (.ref b129), .val (.int (0 : Int32)), .val (.int (0 : Int32)), .unset] [(.int (0 : Int32)), (.int (1 : Int32))])
        refine hst (fun t₀ k₀ => XS.iadd X145.here hx rfl (hb hby at_185) rfl k₀) ?_
        show F T145 (mkF m 186 #[.val (.int p1), .val (.int p2), .val (.int p3), .val (.int p4), .val (.int p5), .val (.int p6), .val (.int (p1 &&& (255 : Int32))), .val (.int (p2 &&& (255 : Int32))), .val (.int (p3 &&& (255 : Int32))), .val (.int (us &&& (255 : Int32))), .val (.int nv), .val (.int kv), .val (.ref b69), .val (.ref b129), .val (.int (0 : Int32)), .val (.int (0 : Int32)), .unset] [(.int ((1 : Int32) + (0 : Int32)))])
        refine hst (fun t₀ k₀ => XS.iload X145.here hx rfl (hb hby at_186) rfl k₀) ?_
        show F T145 (mkF m 188 #[.val (.int p1), .val (.int p2), .val (.int p3), .val (.int p4), .val (.int p5), .val (.int p6), .val (.int (p1 &&& (255 : Int32))), .val (.int (p2 &&& (255 : Int32))), .val (.int (p3 &&& (255 : Int32))), .val (.int (us &&& (255 : Int32))), .val (.int nv), .val (.int kv), .val (.ref b69), .val (.ref b129), .val (.int (0 : Int32)), .val (.int (0 : Int32)), .unset] [(.int (0 : Int32)), (.int ((1 : Int32) + (0 : Int32)))])
        refine hst (fun t₀ k₀ => XS.ifYes X145.here hx rfl (pc0 := 188) (pc' := 195) rfl (hb hby at_188) rfl ((if0 _ _).trans (teq (by decide)).1) (by decide) (by decide) k₀) ?_
        show F T145 (mkF m 195 #[.val (.int p1), .val (.int p2), .val (.int p3), .val (.int p4), .val (.int p5), .val (.int p6), .val (.int (p1 &&& (255 : Int32))), .val (.int (p2 &&& (255 : Int32))), .val (.int (p3 &&& (255 : Int32))), .val (.int (us &&& (255 : Int32))), .val (.int nv), .val (.int kv), .val (.ref b69), .val (.ref b129), .val (.int (0 : Int32)), .val (.int (0 : Int32)), .unset] [(.int ((1 : Int32) + (0 : Int32)))])
        refine hst (fun t₀ k₀ => XS.iconst X145.here hx rfl (hb hby at_195) k₀) ?_
        show F T145 (mkF m 196 #[.val (.int p1), .val (.int p2), .val (.int p3), .val (.int p4), .val (.int p5), .val (.int p6), .val (.int (p1 &&& (255 : Int32))), .val (.int (p2 &&& (255 : Int32))), .val (.int (p3 &&& (255 : Int32))), .val (.int (us &&& (255 : Int32))), .val (.int nv), .val (.int kv), .val (.ref b69), .val (.ref b129), .val (.int (0 : Int32)), .val (.int (0 : Int32)), .unset] [(.int (0 : Int32)), (.int ((1 : Int32) + (0 : Int32)))])
        refine hst (fun t₀ k₀ => XS.iadd X145.here hx rfl (hb hby at_196) rfl k₀) ?_
        show F T145 (mkF m 197 #[.val (.int p1), .val (.int p2), .val (.int p3), .val (.int p4), .val (.int p5), .val (.int p6), .val (.int (p1 &&& (255 : Int32))), .val (.int (p2 &&& (255 : Int32))), .val (.int (p3 &&& (255 : Int32))), .val (.int (us &&& (255 : Int32))), .val (.int nv), .val (.int kv), .val (.ref b69), .val (.ref b129), .val (.int (0 : Int32)), .val (.int (0 : Int32)), .unset] [(.int (((1 : Int32) + (0 : Int32)) + (0 : Int32)))])
        refine hst (fun t₀ k₀ => XS.istore X145.here hx rfl (hb hby at_197) rfl (l' := #[.val (.int p1), .val (.int p2), .val (.int p3), .val (.int p4), .val (.int p5), .val (.int p6), .val (.int (p1 &&& (255 : Int32))), .val (.int (p2 &&& (255 : Int32))), .val (.int (p3 &&& (255 : Int32))), .val (.int (us &&& (255 : Int32))), .val (.int nv), .val (.int kv), .val (.ref b69), .val (.ref b129), .val (.int (0 : Int32)), .val (.int (0 : Int32)), .val (.int (((1 : Int32) + (0 : Int32)) + (0 : Int32)))]) rfl k₀) ?_
        show F T145 (mkF m 199 #[.val (.int p1), .val (.int p2), .val (.int p3), .val (.int p4), .val (.int p5), .val (.int p6), .val (.int (p1 &&& (255 : Int32))), .val (.int (p2 &&& (255 : Int32))), .val (.int (p3 &&& (255 : Int32))), .val (.int (us &&& (255 : Int32))), .val (.int nv), .val (.int kv), .val (.ref b69), .val (.ref b129), .val (.int (0 : Int32)), .val (.int (0 : Int32)), .val (.int (((1 : Int32) + (0 : Int32)) + (0 : Int32)))] [])
        refine hst (fun t₀ k₀ => XS.aload X145.here hx rfl (hb hby at_199) rfl rfl k₀) ?_
        show F T145 (mkF m 201 #[.val (.int p1), .val (.int p2), .val (.int p3), .val (.int p4), .val (.int p5), .val (.int p6), .val (.int (p1 &&& (255 : Int32))), .val (.int (p2 &&& (255 : Int32))), .val (.int (p3 &&& (255 : Int32))), .val (.int (us &&& (255 : Int32))), .val (.int nv), .val (.int kv), .val (.ref b69), .val (.ref b129), .val (.int (0 : Int32)), .val (.int (0 : Int32)), .val (.int (((1 : Int32) + (0 : Int32)) + (0 : Int32)))] [(.ref b129)])
        obtain ⟨v201, T201, Lc201, X201, hQ201, st201⟩ := own_callV X145 hx hZ hown (y := (⟨"com/example/seamark/seamark/transport/CommandApdu", "isoCase", "()I"⟩ : MethodName)) (hw _ (List.mem_of_getElem? (i := 44) rfl)) (hw _ (List.mem_of_getElem? (i := 45) rfl)) (hw _ (List.mem_of_getElem? (i := 47) rfl)) (hw _ (List.mem_of_getElem? (i := 46) rfl)) (hw _ (List.mem_of_getElem? (i := 3) rfl)) (hw _ (List.mem_of_getElem? (i := 48) rfl)) (by decide) rfl q1_145 (rm4 l Z a0 hw [] b129 bd145 0 (fun _ => (0 : Int32)) nv T145.heap n0 Z0_p145 q7_145 q8_145 q6_145 (by decide)) (by decide) (by decide) (g := (mkF m 201 #[.val (.int p1), .val (.int p2), .val (.int p3), .val (.int p4), .val (.int p5), .val (.int p6), .val (.int (p1 &&& (255 : Int32))), .val (.int (p2 &&& (255 : Int32))), .val (.int (p3 &&& (255 : Int32))), .val (.int (us &&& (255 : Int32))), .val (.int nv), .val (.int kv), .val (.ref b69), .val (.ref b129), .val (.int (0 : Int32)), .val (.int (0 : Int32)), .val (.int (((1 : Int32) + (0 : Int32)) + (0 : Int32)))] [(.ref b129)])) rfl (by rw [hml]; rfl) (argsL := []) (rest := []) (lenOf pd_0 rfl) rfl rfl (W := 0) (by show 2 * 0 + _ ≤ _; exact Nat.le_of_eq rfl) (hb hby at_201) (by decide) (by decide)
        obtain ⟨rfl, Nq201, he201⟩ := hQ201
        have N201 := Fr.app N145 Nq201
        refine hst st201 ?_
        show F T201 (mkF m 204 #[.val (.int p1), .val (.int p2), .val (.int p3), .val (.int p4), .val (.int p5), .val (.int p6), .val (.int (p1 &&& (255 : Int32))), .val (.int (p2 &&& (255 : Int32))), .val (.int (p3 &&& (255 : Int32))), .val (.int (us &&& (255 : Int32))), .val (.int nv), .val (.int kv), .val (.ref b69), .val (.ref b129), .val (.int (0 : Int32)), .val (.int (0 : Int32)), .val (.int (((1 : Int32) + (0 : Int32)) + (0 : Int32)))] [(.int (own_iso 0 nv))])
        refine hst (fun t₀ k₀ => XS.iload X201.here hx rfl (hb hby at_204) rfl k₀) ?_
        show F T201 (mkF m 206 #[.val (.int p1), .val (.int p2), .val (.int p3), .val (.int p4), .val (.int p5), .val (.int p6), .val (.int (p1 &&& (255 : Int32))), .val (.int (p2 &&& (255 : Int32))), .val (.int (p3 &&& (255 : Int32))), .val (.int (us &&& (255 : Int32))), .val (.int nv), .val (.int kv), .val (.ref b69), .val (.ref b129), .val (.int (0 : Int32)), .val (.int (0 : Int32)), .val (.int (((1 : Int32) + (0 : Int32)) + (0 : Int32)))] [(.int (((1 : Int32) + (0 : Int32)) + (0 : Int32))), (.int (own_iso 0 nv))])
        refine hst (fun t₀ k₀ => XS.icmpNo X201.here hx rfl (hb hby at_206) rfl (teq (by unfold own_iso; rw [if_pos rfl, if_pos hc164]; decide)).2 k₀) ?_
        show F T201 (mkF m 209 #[.val (.int p1), .val (.int p2), .val (.int p3), .val (.int p4), .val (.int p5), .val (.int p6), .val (.int (p1 &&& (255 : Int32))), .val (.int (p2 &&& (255 : Int32))), .val (.int (p3 &&& (255 : Int32))), .val (.int (us &&& (255 : Int32))), .val (.int nv), .val (.int kv), .val (.ref b69), .val (.ref b129), .val (.int (0 : Int32)), .val (.int (0 : Int32)), .val (.int (((1 : Int32) + (0 : Int32)) + (0 : Int32)))] [])
        refine hst (fun t₀ k₀ => XS.iconst X201.here hx rfl (hb hby at_209) k₀) ?_
        show F T201 (mkF m 210 #[.val (.int p1), .val (.int p2), .val (.int p3), .val (.int p4), .val (.int p5), .val (.int p6), .val (.int (p1 &&& (255 : Int32))), .val (.int (p2 &&& (255 : Int32))), .val (.int (p3 &&& (255 : Int32))), .val (.int (us &&& (255 : Int32))), .val (.int nv), .val (.int kv), .val (.ref b69), .val (.ref b129), .val (.int (0 : Int32)), .val (.int (0 : Int32)), .val (.int (((1 : Int32) + (0 : Int32)) + (0 : Int32)))] [(.int (1 : Int32))])
        refine hst (fun t₀ k₀ => XS.goto X201.here hx rfl (pc0 := 210) (pc' := 214) rfl (hb hby at_210) (by decide) (by decide) k₀) ?_
        show F T201 (mkF m 214 #[.val (.int p1), .val (.int p2), .val (.int p3), .val (.int p4), .val (.int p5), .val (.int p6), .val (.int (p1 &&& (255 : Int32))), .val (.int (p2 &&& (255 : Int32))), .val (.int (p3 &&& (255 : Int32))), .val (.int (us &&& (255 : Int32))), .val (.int nv), .val (.int kv), .val (.ref b69), .val (.ref b129), .val (.int (0 : Int32)), .val (.int (0 : Int32)), .val (.int (((1 : Int32) + (0 : Int32)) + (0 : Int32)))] [(.int (1 : Int32))])
        rw [hF]
        refine own_retNW X201 hS145 (by rw [he201]; exact (Nat.le_refl _)) hx hret (by simp) hlk (hb hby at_214) (by decide) (by decide) ?_
        rw [he201]
        exact ⟨rfl, N201⟩
      · -- pc 164: not taken
        refine hst (fun t₀ k₀ => XS.ifNo X145.here hx rfl (hb hby at_164) rfl ((if0 _ _).trans (feq hc164).1) k₀) ?_
        show F T145 (mkF m 167 #[.val (.int p1), .val (.int p2), .val (.int p3), .val (.int p4), .val (.int p5), .val (.int p6), .val (.int (p1 &&& (255 : Int32))), .val (.int (p2 &&& (255 : Int32))), .val (.int (p3 &&& (255 : Int32))), .val (.int (us &&& (255 : Int32))), .val (.int nv), .val (.int kv), .val (.ref b69), .val (.ref b129), .val (.int (0 : Int32)), .unset, .unset] [])
        refine hst (fun t₀ k₀ => XS.iconst X145.here hx rfl (hb hby at_167) k₀) ?_
        show F T145 (mkF m 168 #[.val (.int p1), .val (.int p2), .val (.int p3), .val (.int p4), .val (.int p5), .val (.int p6), .val (.int (p1 &&& (255 : Int32))), .val (.int (p2 &&& (255 : Int32))), .val (.int (p3 &&& (255 : Int32))), .val (.int (us &&& (255 : Int32))), .val (.int nv), .val (.int kv), .val (.ref b69), .val (.ref b129), .val (.int (0 : Int32)), .unset, .unset] [(.int (1 : Int32))])
        refine hst (fun t₀ k₀ => XS.goto X145.here hx rfl (pc0 := 168) (pc' := 172) rfl (hb hby at_168) (by decide) (by decide) k₀) ?_
        show F T145 (mkF m 172 #[.val (.int p1), .val (.int p2), .val (.int p3), .val (.int p4), .val (.int p5), .val (.int p6), .val (.int (p1 &&& (255 : Int32))), .val (.int (p2 &&& (255 : Int32))), .val (.int (p3 &&& (255 : Int32))), .val (.int (us &&& (255 : Int32))), .val (.int nv), .val (.int kv), .val (.ref b69), .val (.ref b129), .val (.int (0 : Int32)), .unset, .unset] [(.int (1 : Int32))])
        refine hst (fun t₀ k₀ => XS.istore X145.here hx rfl (hb hby at_172) rfl (l' := #[.val (.int p1), .val (.int p2), .val (.int p3), .val (.int p4), .val (.int p5), .val (.int p6), .val (.int (p1 &&& (255 : Int32))), .val (.int (p2 &&& (255 : Int32))), .val (.int (p3 &&& (255 : Int32))), .val (.int (us &&& (255 : Int32))), .val (.int nv), .val (.int kv), .val (.ref b69), .val (.ref b129), .val (.int (0 : Int32)), .val (.int (1 : Int32)), .unset]) rfl k₀) ?_
        show F T145 (mkF m 174 #[.val (.int p1), .val (.int p2), .val (.int p3), .val (.int p4), .val (.int p5), .val (.int p6), .val (.int (p1 &&& (255 : Int32))), .val (.int (p2 &&& (255 : Int32))), .val (.int (p3 &&& (255 : Int32))), .val (.int (us &&& (255 : Int32))), .val (.int nv), .val (.int kv), .val (.ref b69), .val (.ref b129), .val (.int (0 : Int32)), .val (.int (1 : Int32)), .unset] [])
        refine hst (fun t₀ k₀ => XS.iconst X145.here hx rfl (hb hby at_174) k₀) ?_
        show F T145 (mkF m 175 #[.val (.int p1), .val (.int p2), .val (.int p3), .val (.int p4), .val (.int p5), .val (.int p6), .val (.int (p1 &&& (255 : Int32))), .val (.int (p2 &&& (255 : Int32))), .val (.int (p3 &&& (255 : Int32))), .val (.int (us &&& (255 : Int32))), .val (.int nv), .val (.int kv), .val (.ref b69), .val (.ref b129), .val (.int (0 : Int32)), .val (.int (1 : Int32)), .unset] [(.int (1 : Int32))])
        refine hst (fun t₀ k₀ => XS.iload X145.here hx rfl (hb hby at_175) rfl k₀) ?_
        show F T145 (mkF m 177 #[.val (.int p1), .val (.int p2), .val (.int p3), .val (.int p4), .val (.int p5), .val (.int p6), .val (.int (p1 &&& (255 : Int32))), .val (.int (p2 &&& (255 : Int32))), .val (.int (p3 &&& (255 : Int32))), .val (.int (us &&& (255 : Int32))), .val (.int nv), .val (.int kv), .val (.ref b69), .val (.ref b129), .val (.int (0 : Int32)), .val (.int (1 : Int32)), .unset] [(.int (1 : Int32)), (.int (1 : Int32))])
        refine hst (fun t₀ k₀ => XS.ifNo X145.here hx rfl (hb hby at_177) rfl ((if0 _ _).trans (feq (by decide)).1) k₀) ?_
        show F T145 (mkF m 180 #[.val (.int p1), .val (.int p2), .val (.int p3), .val (.int p4), .val (.int p5), .val (.int p6), .val (.int (p1 &&& (255 : Int32))), .val (.int (p2 &&& (255 : Int32))), .val (.int (p3 &&& (255 : Int32))), .val (.int (us &&& (255 : Int32))), .val (.int nv), .val (.int kv), .val (.ref b69), .val (.ref b129), .val (.int (0 : Int32)), .val (.int (1 : Int32)), .unset] [(.int (1 : Int32))])
        refine hst (fun t₀ k₀ => XS.iconst X145.here hx rfl (hb hby at_180) k₀) ?_
        show F T145 (mkF m 181 #[.val (.int p1), .val (.int p2), .val (.int p3), .val (.int p4), .val (.int p5), .val (.int p6), .val (.int (p1 &&& (255 : Int32))), .val (.int (p2 &&& (255 : Int32))), .val (.int (p3 &&& (255 : Int32))), .val (.int (us &&& (255 : Int32))), .val (.int nv), .val (.int kv), .val (.ref b69), .val (.ref b129), .val (.int (0 : Int32)), .val (.int (1 : Int32)), .unset] [(.int (1 : Int32)), (.int (1 : Int32))])
        refine hst (fun t₀ k₀ => XS.goto X145.here hx rfl (pc0 := 181) (pc' := 185) rfl (hb hby at_181) (by decide) (by decide) k₀) ?_
        show F T145 (mkF m 185 #[.val (.int p1), .val (.int p2), .val (.int p3), .val (.int p4), .val (.int p5), .val (.int p6), .val (.int (p1 &&& (255 : Int32))), .val (.int (p2 &&& (255 : Int32))), .val (.int (p3 &&& (255 : Int32))), .val (.int (us &&& (255 : Int32))), .val (.int nv), .val (.int kv), .val (.ref b69), .val (.ref b129), .val (.int (0 : Int32)), .val (.int (1 : Int32)), .unset] [(.int (1 : Int32)), (.int (1 : Int32))])
        refine hst (fun t₀ k₀ => XS.iadd X145.here hx rfl (hb hby at_185) rfl k₀) ?_
        show F T145 (mkF m 186 #[.val (.int p1), .val (.int p2), .val (.int p3), .val (.int p4), .val (.int p5), .val (.int p6), .val (.int (p1 &&& (255 : Int32))), .val (.int (p2 &&& (255 : Int32))), .val (.int (p3 &&& (255 : Int32))), .val (.int (us &&& (255 : Int32))), .val (.int nv), .val (.int kv), .val (.ref b69), .val (.ref b129), .val (.int (0 : Int32)), .val (.int (1 : Int32)), .unset] [(.int ((1 : Int32) + (1 : Int32)))])
        refine hst (fun t₀ k₀ => XS.iload X145.here hx rfl (hb hby at_186) rfl k₀) ?_
        show F T145 (mkF m 188 #[.val (.int p1), .val (.int p2), .val (.int p3), .val (.int p4), .val (.int p5), .val (.int p6), .val (.int (p1 &&& (255 : Int32))), .val (.int (p2 &&& (255 : Int32))), .val (.int (p3 &&& (255 : Int32))), .val (.int (us &&& (255 : Int32))), .val (.int nv), .val (.int kv), .val (.ref b69), .val (.ref b129), .val (.int (0 : Int32)), .val (.int (1 : Int32)), .unset] [(.int (0 : Int32)), (.int ((1 : Int32) + (1 : Int32)))])
        refine hst (fun t₀ k₀ => XS.ifYes X145.here hx rfl (pc0 := 188) (pc' := 195) rfl (hb hby at_188) rfl ((if0 _ _).trans (teq (by decide)).1) (by decide) (by decide) k₀) ?_
        show F T145 (mkF m 195 #[.val (.int p1), .val (.int p2), .val (.int p3), .val (.int p4), .val (.int p5), .val (.int p6), .val (.int (p1 &&& (255 : Int32))), .val (.int (p2 &&& (255 : Int32))), .val (.int (p3 &&& (255 : Int32))), .val (.int (us &&& (255 : Int32))), .val (.int nv), .val (.int kv), .val (.ref b69), .val (.ref b129), .val (.int (0 : Int32)), .val (.int (1 : Int32)), .unset] [(.int ((1 : Int32) + (1 : Int32)))])
        refine hst (fun t₀ k₀ => XS.iconst X145.here hx rfl (hb hby at_195) k₀) ?_
        show F T145 (mkF m 196 #[.val (.int p1), .val (.int p2), .val (.int p3), .val (.int p4), .val (.int p5), .val (.int p6), .val (.int (p1 &&& (255 : Int32))), .val (.int (p2 &&& (255 : Int32))), .val (.int (p3 &&& (255 : Int32))), .val (.int (us &&& (255 : Int32))), .val (.int nv), .val (.int kv), .val (.ref b69), .val (.ref b129), .val (.int (0 : Int32)), .val (.int (1 : Int32)), .unset] [(.int (0 : Int32)), (.int ((1 : Int32) + (1 : Int32)))])
        refine hst (fun t₀ k₀ => XS.iadd X145.here hx rfl (hb hby at_196) rfl k₀) ?_
        show F T145 (mkF m 197 #[.val (.int p1), .val (.int p2), .val (.int p3), .val (.int p4), .val (.int p5), .val (.int p6), .val (.int (p1 &&& (255 : Int32))), .val (.int (p2 &&& (255 : Int32))), .val (.int (p3 &&& (255 : Int32))), .val (.int (us &&& (255 : Int32))), .val (.int nv), .val (.int kv), .val (.ref b69), .val (.ref b129), .val (.int (0 : Int32)), .val (.int (1 : Int32)), .unset] [(.int (((1 : Int32) + (1 : Int32)) + (0 : Int32)))])
        refine hst (fun t₀ k₀ => XS.istore X145.here hx rfl (hb hby at_197) rfl (l' := #[.val (.int p1), .val (.int p2), .val (.int p3), .val (.int p4), .val (.int p5), .val (.int p6), .val (.int (p1 &&& (255 : Int32))), .val (.int (p2 &&& (255 : Int32))), .val (.int (p3 &&& (255 : Int32))), .val (.int (us &&& (255 : Int32))), .val (.int nv), .val (.int kv), .val (.ref b69), .val (.ref b129), .val (.int (0 : Int32)), .val (.int (1 : Int32)), .val (.int (((1 : Int32) + (1 : Int32)) + (0 : Int32)))]) rfl k₀) ?_
        show F T145 (mkF m 199 #[.val (.int p1), .val (.int p2), .val (.int p3), .val (.int p4), .val (.int p5), .val (.int p6), .val (.int (p1 &&& (255 : Int32))), .val (.int (p2 &&& (255 : Int32))), .val (.int (p3 &&& (255 : Int32))), .val (.int (us &&& (255 : Int32))), .val (.int nv), .val (.int kv), .val (.ref b69), .val (.ref b129), .val (.int (0 : Int32)), .val (.int (1 : Int32)), .val (.int (((1 : Int32) + (1 : Int32)) + (0 : Int32)))] [])
        refine hst (fun t₀ k₀ => XS.aload X145.here hx rfl (hb hby at_199) rfl rfl k₀) ?_
        show F T145 (mkF m 201 #[.val (.int p1), .val (.int p2), .val (.int p3), .val (.int p4), .val (.int p5), .val (.int p6), .val (.int (p1 &&& (255 : Int32))), .val (.int (p2 &&& (255 : Int32))), .val (.int (p3 &&& (255 : Int32))), .val (.int (us &&& (255 : Int32))), .val (.int nv), .val (.int kv), .val (.ref b69), .val (.ref b129), .val (.int (0 : Int32)), .val (.int (1 : Int32)), .val (.int (((1 : Int32) + (1 : Int32)) + (0 : Int32)))] [(.ref b129)])
        obtain ⟨v201, T201, Lc201, X201, hQ201, st201⟩ := own_callV X145 hx hZ hown (y := (⟨"com/example/seamark/seamark/transport/CommandApdu", "isoCase", "()I"⟩ : MethodName)) (hw _ (List.mem_of_getElem? (i := 44) rfl)) (hw _ (List.mem_of_getElem? (i := 45) rfl)) (hw _ (List.mem_of_getElem? (i := 47) rfl)) (hw _ (List.mem_of_getElem? (i := 46) rfl)) (hw _ (List.mem_of_getElem? (i := 3) rfl)) (hw _ (List.mem_of_getElem? (i := 48) rfl)) (by decide) rfl q1_145 (rm4 l Z a0 hw [] b129 bd145 0 (fun _ => (0 : Int32)) nv T145.heap n0 Z0_p145 q7_145 q8_145 q6_145 (by decide)) (by decide) (by decide) (g := (mkF m 201 #[.val (.int p1), .val (.int p2), .val (.int p3), .val (.int p4), .val (.int p5), .val (.int p6), .val (.int (p1 &&& (255 : Int32))), .val (.int (p2 &&& (255 : Int32))), .val (.int (p3 &&& (255 : Int32))), .val (.int (us &&& (255 : Int32))), .val (.int nv), .val (.int kv), .val (.ref b69), .val (.ref b129), .val (.int (0 : Int32)), .val (.int (1 : Int32)), .val (.int (((1 : Int32) + (1 : Int32)) + (0 : Int32)))] [(.ref b129)])) rfl (by rw [hml]; rfl) (argsL := []) (rest := []) (lenOf pd_0 rfl) rfl rfl (W := 0) (by show 2 * 0 + _ ≤ _; exact Nat.le_of_eq rfl) (hb hby at_201) (by decide) (by decide)
        obtain ⟨rfl, Nq201, he201⟩ := hQ201
        have N201 := Fr.app N145 Nq201
        refine hst st201 ?_
        show F T201 (mkF m 204 #[.val (.int p1), .val (.int p2), .val (.int p3), .val (.int p4), .val (.int p5), .val (.int p6), .val (.int (p1 &&& (255 : Int32))), .val (.int (p2 &&& (255 : Int32))), .val (.int (p3 &&& (255 : Int32))), .val (.int (us &&& (255 : Int32))), .val (.int nv), .val (.int kv), .val (.ref b69), .val (.ref b129), .val (.int (0 : Int32)), .val (.int (1 : Int32)), .val (.int (((1 : Int32) + (1 : Int32)) + (0 : Int32)))] [(.int (own_iso 0 nv))])
        refine hst (fun t₀ k₀ => XS.iload X201.here hx rfl (hb hby at_204) rfl k₀) ?_
        show F T201 (mkF m 206 #[.val (.int p1), .val (.int p2), .val (.int p3), .val (.int p4), .val (.int p5), .val (.int p6), .val (.int (p1 &&& (255 : Int32))), .val (.int (p2 &&& (255 : Int32))), .val (.int (p3 &&& (255 : Int32))), .val (.int (us &&& (255 : Int32))), .val (.int nv), .val (.int kv), .val (.ref b69), .val (.ref b129), .val (.int (0 : Int32)), .val (.int (1 : Int32)), .val (.int (((1 : Int32) + (1 : Int32)) + (0 : Int32)))] [(.int (((1 : Int32) + (1 : Int32)) + (0 : Int32))), (.int (own_iso 0 nv))])
        refine hst (fun t₀ k₀ => XS.icmpNo X201.here hx rfl (hb hby at_206) rfl (teq (by unfold own_iso; rw [if_pos rfl, if_neg hc164]; decide)).2 k₀) ?_
        show F T201 (mkF m 209 #[.val (.int p1), .val (.int p2), .val (.int p3), .val (.int p4), .val (.int p5), .val (.int p6), .val (.int (p1 &&& (255 : Int32))), .val (.int (p2 &&& (255 : Int32))), .val (.int (p3 &&& (255 : Int32))), .val (.int (us &&& (255 : Int32))), .val (.int nv), .val (.int kv), .val (.ref b69), .val (.ref b129), .val (.int (0 : Int32)), .val (.int (1 : Int32)), .val (.int (((1 : Int32) + (1 : Int32)) + (0 : Int32)))] [])
        refine hst (fun t₀ k₀ => XS.iconst X201.here hx rfl (hb hby at_209) k₀) ?_
        show F T201 (mkF m 210 #[.val (.int p1), .val (.int p2), .val (.int p3), .val (.int p4), .val (.int p5), .val (.int p6), .val (.int (p1 &&& (255 : Int32))), .val (.int (p2 &&& (255 : Int32))), .val (.int (p3 &&& (255 : Int32))), .val (.int (us &&& (255 : Int32))), .val (.int nv), .val (.int kv), .val (.ref b69), .val (.ref b129), .val (.int (0 : Int32)), .val (.int (1 : Int32)), .val (.int (((1 : Int32) + (1 : Int32)) + (0 : Int32)))] [(.int (1 : Int32))])
        refine hst (fun t₀ k₀ => XS.goto X201.here hx rfl (pc0 := 210) (pc' := 214) rfl (hb hby at_210) (by decide) (by decide) k₀) ?_
        show F T201 (mkF m 214 #[.val (.int p1), .val (.int p2), .val (.int p3), .val (.int p4), .val (.int p5), .val (.int p6), .val (.int (p1 &&& (255 : Int32))), .val (.int (p2 &&& (255 : Int32))), .val (.int (p3 &&& (255 : Int32))), .val (.int (us &&& (255 : Int32))), .val (.int nv), .val (.int kv), .val (.ref b69), .val (.ref b129), .val (.int (0 : Int32)), .val (.int (1 : Int32)), .val (.int (((1 : Int32) + (1 : Int32)) + (0 : Int32)))] [(.int (1 : Int32))])
        rw [hF]
        refine own_retNW X201 hS145 (by rw [he201]; exact (Nat.le_refl _)) hx hret (by simp) hlk (hb hby at_214) (by decide) (by decide) ?_
        rw [he201]
        exact ⟨rfl, N201⟩
    · -- pc 65: taken
      refine hst (fun t₀ k₀ => XS.ifYes XI.here hx rfl (pc0 := 65) (pc' := 76) rfl (hb hby at_65) rfl ((if0 _ _).trans (feq hc65).2) (by decide) (by decide) k₀) ?_
      show F s₁ (mkF m 76 #[.val (.int p1), .val (.int p2), .val (.int p3), .val (.int p4), .val (.int p5), .val (.int p6), .val (.int (p1 &&& (255 : Int32))), .val (.int (p2 &&& (255 : Int32))), .val (.int (p3 &&& (255 : Int32))), .val (.int (us &&& (255 : Int32))), .val (.int nv), .val (.int kv), .unset, .unset, .unset, .unset, .unset] [])
      refine hst (fun t₀ k₀ => XS.iload XI.here hx rfl (hb hby at_76) rfl k₀) ?_
      show F s₁ (mkF m 78 #[.val (.int p1), .val (.int p2), .val (.int p3), .val (.int p4), .val (.int p5), .val (.int p6), .val (.int (p1 &&& (255 : Int32))), .val (.int (p2 &&& (255 : Int32))), .val (.int (p3 &&& (255 : Int32))), .val (.int (us &&& (255 : Int32))), .val (.int nv), .val (.int kv), .unset, .unset, .unset, .unset, .unset] [(.int kv)])
      refine hst (fun t₀ k₀ => XS.iconst XI.here hx rfl (hb hby at_78) k₀) ?_
      show F s₁ (mkF m 79 #[.val (.int p1), .val (.int p2), .val (.int p3), .val (.int p4), .val (.int p5), .val (.int p6), .val (.int (p1 &&& (255 : Int32))), .val (.int (p2 &&& (255 : Int32))), .val (.int (p3 &&& (255 : Int32))), .val (.int (us &&& (255 : Int32))), .val (.int nv), .val (.int kv), .unset, .unset, .unset, .unset, .unset] [(.int (1 : Int32)), (.int kv)])
      by_cases hc79 : kv = (1 : Int32)
      · -- pc 79: not taken
        refine hst (fun t₀ k₀ => XS.icmpNo XI.here hx rfl (hb hby at_79) rfl (teq hc79).2 k₀) ?_
        show F s₁ (mkF m 82 #[.val (.int p1), .val (.int p2), .val (.int p3), .val (.int p4), .val (.int p5), .val (.int p6), .val (.int (p1 &&& (255 : Int32))), .val (.int (p2 &&& (255 : Int32))), .val (.int (p3 &&& (255 : Int32))), .val (.int (us &&& (255 : Int32))), .val (.int nv), .val (.int kv), .unset, .unset, .unset, .unset, .unset] [])
        refine hst (fun t₀ k₀ => XS.iconst XI.here hx rfl (hb hby at_82) k₀) ?_
        show F s₁ (mkF m 83 #[.val (.int p1), .val (.int p2), .val (.int p3), .val (.int p4), .val (.int p5), .val (.int p6), .val (.int (p1 &&& (255 : Int32))), .val (.int (p2 &&& (255 : Int32))), .val (.int (p3 &&& (255 : Int32))), .val (.int (us &&& (255 : Int32))), .val (.int nv), .val (.int kv), .unset, .unset, .unset, .unset, .unset] [(.int (1 : Int32))])
        obtain ⟨T83, h83, b83, X83, e83, g83, E83, A83, Ex83, st83⟩ := own_newarrE XI hx hZ (hw _ (List.mem_of_getElem? (i := 0) rfl)) eI (g := (mkF m 83 #[.val (.int p1), .val (.int p2), .val (.int p3), .val (.int p4), .val (.int p5), .val (.int p6), .val (.int (p1 &&& (255 : Int32))), .val (.int (p2 &&& (255 : Int32))), .val (.int (p3 &&& (255 : Int32))), .val (.int (us &&& (255 : Int32))), .val (.int nv), .val (.int kv), .unset, .unset, .unset, .unset, .unset] [(.int (1 : Int32))])) rfl (hb hby at_83) rfl (by decide) (cap := 1) (by decide) (by decide) (by decide) (by decide)
        have ge_b83 : n0 ≤ b83 := Nat.le_trans Z0 (Nat.le_of_eq g83.symm)
        have Z0_p83 : n0 ≤ h83.size := (Nat.le_trans Z0 E83.1)
        have hk_p83 := Nat.le_trans (Nat.zero_le _) E83.1
        have A_b83 : own_A Z h83 b83 .byte 1 (fun _ => (.int (0 : Int32))) := A83
        refine hst st83 ?_
        show F T83 (mkF m 85 #[.val (.int p1), .val (.int p2), .val (.int p3), .val (.int p4), .val (.int p5), .val (.int p6), .val (.int (p1 &&& (255 : Int32))), .val (.int (p2 &&& (255 : Int32))), .val (.int (p3 &&& (255 : Int32))), .val (.int (us &&& (255 : Int32))), .val (.int nv), .val (.int kv), .unset, .unset, .unset, .unset, .unset] [(.ref b83)])
        refine hst (fun t₀ k₀ => XS.dup X83.here hx rfl (hb hby at_85) rfl rfl k₀) ?_
        show F T83 (mkF m 86 #[.val (.int p1), .val (.int p2), .val (.int p3), .val (.int p4), .val (.int p5), .val (.int p6), .val (.int (p1 &&& (255 : Int32))), .val (.int (p2 &&& (255 : Int32))), .val (.int (p3 &&& (255 : Int32))), .val (.int (us &&& (255 : Int32))), .val (.int nv), .val (.int kv), .unset, .unset, .unset, .unset, .unset] [(.ref b83), (.ref b83)])
        refine hst (fun t₀ k₀ => XS.iconst X83.here hx rfl (hb hby at_86) k₀) ?_
        show F T83 (mkF m 87 #[.val (.int p1), .val (.int p2), .val (.int p3), .val (.int p4), .val (.int p5), .val (.int p6), .val (.int (p1 &&& (255 : Int32))), .val (.int (p2 &&& (255 : Int32))), .val (.int (p3 &&& (255 : Int32))), .val (.int (us &&& (255 : Int32))), .val (.int nv), .val (.int kv), .unset, .unset, .unset, .unset, .unset] [(.int (0 : Int32)), (.ref b83), (.ref b83)])
        refine hst (fun t₀ k₀ => XS.iloadN X83.here hx rfl (hb hby at_87) rfl k₀) ?_
        show F T83 (mkF m 88 #[.val (.int p1), .val (.int p2), .val (.int p3), .val (.int p4), .val (.int p5), .val (.int p6), .val (.int (p1 &&& (255 : Int32))), .val (.int (p2 &&& (255 : Int32))), .val (.int (p3 &&& (255 : Int32))), .val (.int (us &&& (255 : Int32))), .val (.int nv), .val (.int kv), .unset, .unset, .unset, .unset, .unset] [(.int p4), (.int (0 : Int32)), (.ref b83), (.ref b83)])
        refine hst (fun t₀ k₀ => XS.i2b X83.here hx rfl (hb hby at_88) rfl k₀) ?_
        show F T83 (mkF m 89 #[.val (.int p1), .val (.int p2), .val (.int p3), .val (.int p4), .val (.int p5), .val (.int p6), .val (.int (p1 &&& (255 : Int32))), .val (.int (p2 &&& (255 : Int32))), .val (.int (p3 &&& (255 : Int32))), .val (.int (us &&& (255 : Int32))), .val (.int nv), .val (.int kv), .unset, .unset, .unset, .unset, .unset] [(.int (p4.toInt8.toInt32)), (.int (0 : Int32)), (.ref b83), (.ref b83)])
        generalize hy0 : (p4.toInt8.toInt32) = y0
        show F T83 (mkF m 89 #[.val (.int p1), .val (.int p2), .val (.int p3), .val (.int p4), .val (.int p5), .val (.int p6), .val (.int (p1 &&& (255 : Int32))), .val (.int (p2 &&& (255 : Int32))), .val (.int (p3 &&& (255 : Int32))), .val (.int (us &&& (255 : Int32))), .val (.int nv), .val (.int kv), .unset, .unset, .unset, .unset, .unset] [(.int y0), (.int (0 : Int32)), (.ref b83), (.ref b83)])
        obtain ⟨T89, h89, X89, e89, W89, st89⟩ := own_bastore X83 hx hZ e83 A_b83 (by decide) (g := (mkF m 89 #[.val (.int p1), .val (.int p2), .val (.int p3), .val (.int p4), .val (.int p5), .val (.int p6), .val (.int (p1 &&& (255 : Int32))), .val (.int (p2 &&& (255 : Int32))), .val (.int (p3 &&& (255 : Int32))), .val (.int (us &&& (255 : Int32))), .val (.int nv), .val (.int kv), .unset, .unset, .unset, .unset, .unset] [(.int y0), (.int (0 : Int32)), (.ref b83), (.ref b83)])) rfl rfl (hb hby at_89)
        have N89 := Fr.snoc X89 NI ge_b83
        have A_b83_p89 : own_A Z h89 b83 .byte 1 (fun i => if i = Int32.toNatClampNeg (0 : Int32) then (.int (nar .byte y0)) else (fun _ => (.int (0 : Int32))) i) := A_b83.set W89
        have Ex83_p89 : Exa Z h89 b83 "[B" := Ex83.wr W89
        have Z0_p89 : n0 ≤ h89.size := Nat.le_trans Z0_p83 (Keep.of_wr W89).1
        have hk_p89 := Nat.le_trans hk_p83 (Keep.of_wr W89).1
        refine hst st89 ?_
        have A_b83_p89c : own_A Z h89 b83 .byte 1 (fun i => .int (if i = 0 then nar .byte y0 else (0 : Int32))) := own_A.congr A_b83_p89 (fun i hi => by rw [show Int32.toNatClampNeg (0 : Int32) = 0 from rfl]; dsimp only; split <;> rfl)
        show F T89 (mkF m 90 #[.val (.int p1), .val (.int p2), .val (.int p3), .val (.int p4), .val (.int p5), .val (.int p6), .val (.int (p1 &&& (255 : Int32))), .val (.int (p2 &&& (255 : Int32))), .val (.int (p3 &&& (255 : Int32))), .val (.int (us &&& (255 : Int32))), .val (.int nv), .val (.int kv), .unset, .unset, .unset, .unset, .unset] [(.ref b83)])
        refine hst (fun t₀ k₀ => XS.astore X89.here hx rfl (hb hby at_90) rfl rfl (l' := #[.val (.int p1), .val (.int p2), .val (.int p3), .val (.int p4), .val (.int p5), .val (.int p6), .val (.int (p1 &&& (255 : Int32))), .val (.int (p2 &&& (255 : Int32))), .val (.int (p3 &&& (255 : Int32))), .val (.int (us &&& (255 : Int32))), .val (.int nv), .val (.int kv), .val (.ref b83), .unset, .unset, .unset, .unset]) rfl k₀) ?_
        show F T89 (mkF m 92 #[.val (.int p1), .val (.int p2), .val (.int p3), .val (.int p4), .val (.int p5), .val (.int p6), .val (.int (p1 &&& (255 : Int32))), .val (.int (p2 &&& (255 : Int32))), .val (.int (p3 &&& (255 : Int32))), .val (.int (us &&& (255 : Int32))), .val (.int nv), .val (.int kv), .val (.ref b83), .unset, .unset, .unset, .unset] [])
        refine hst (fun t₀ k₀ => XS.goto X89.here hx rfl (pc0 := 92) (pc' := 129) rfl (hb hby at_92) (by decide) (by decide) k₀) ?_
        show F T89 (mkF m 129 #[.val (.int p1), .val (.int p2), .val (.int p3), .val (.int p4), .val (.int p5), .val (.int p6), .val (.int (p1 &&& (255 : Int32))), .val (.int (p2 &&& (255 : Int32))), .val (.int (p3 &&& (255 : Int32))), .val (.int (us &&& (255 : Int32))), .val (.int nv), .val (.int kv), .val (.ref b83), .unset, .unset, .unset, .unset] [])
        obtain ⟨T129, h129, b129, X129, e129, g129, E129, A129, D129, st129⟩ := own_new X89 hx hZ hown (hw _ (List.mem_of_getElem? (i := 1) rfl)) (hw _ (List.mem_of_getElem? (i := 2) rfl)) (hw _ (List.mem_of_getElem? (i := 3) rfl)) e89 (g := (mkF m 129 #[.val (.int p1), .val (.int p2), .val (.int p3), .val (.int p4), .val (.int p5), .val (.int p6), .val (.int (p1 &&& (255 : Int32))), .val (.int (p2 &&& (255 : Int32))), .val (.int (p3 &&& (255 : Int32))), .val (.int (us &&& (255 : Int32))), .val (.int nv), .val (.int kv), .val (.ref b83), .unset, .unset, .unset, .unset] [])) rfl (hb hby at_129) (by decide) (by decide)
        have ne_b83_b129 : b83 ≠ b129 := Nat.ne_of_lt (Nat.lt_of_lt_of_le A_b83_p89c.lt (Nat.le_of_eq g129.symm))
        have ge_b129 : n0 ≤ b129 := Nat.le_trans Z0_p89 (Nat.le_of_eq g129.symm)
        have A_b83_p129 : own_A Z h129 b83 .byte 1 (fun i => .int (if i = 0 then nar .byte y0 else (0 : Int32))) := A_b83_p89c.ext E129
        have Ex83_p129 : Exa Z h129 b83 "[B" := Ex83_p89.ext E129
        have Z0_p129 : n0 ≤ h129.size := (Nat.le_trans Z0_p89 E129.1)
        have hk_p129 := Nat.le_trans hk_p89 E129.1
        have F_cla_b129 : Fld Z h129 b129 "com/example/seamark/seamark/transport/CommandApdu" "cla" "I" (.int (0 : Int32)) := D129 (Or.inr (hw _ (List.mem_of_getElem? (i := 21) rfl))) (ty := .int) (by decide)
        have F_ins_b129 : Fld Z h129 b129 "com/example/seamark/seamark/transport/CommandApdu" "ins" "I" (.int (0 : Int32)) := D129 (Or.inr (hw _ (List.mem_of_getElem? (i := 24) rfl))) (ty := .int) (by decide)
        have F_p1_b129 : Fld Z h129 b129 "com/example/seamark/seamark/transport/CommandApdu" "p1" "I" (.int (0 : Int32)) := D129 (Or.inr (hw _ (List.mem_of_getElem? (i := 27) rfl))) (ty := .int) (by decide)
        have F_p2_b129 : Fld Z h129 b129 "com/example/seamark/seamark/transport/CommandApdu" "p2" "I" (.int (0 : Int32)) := D129 (Or.inr (hw _ (List.mem_of_getElem? (i := 30) rfl))) (ty := .int) (by decide)
        have F_data_b129 : Fld Z h129 b129 "com/example/seamark/seamark/transport/CommandApdu" "data" "[B" .null := D129 (Or.inr (hw _ (List.mem_of_getElem? (i := 41) rfl))) (ty := (.array .byte)) (by decide)
        have F_ne_b129 : Fld Z h129 b129 "com/example/seamark/seamark/transport/CommandApdu" "ne" "I" (.int (0 : Int32)) := D129 (Or.inr (hw _ (List.mem_of_getElem? (i := 43) rfl))) (ty := .int) (by decide)
        refine hst st129 ?_
        show F T129 (mkF m 132 #[.val (.int p1), .val (.int p2), .val (.int p3), .val (.int p4), .val (.int p5), .val (.int p6), .val (.int (p1 &&& (255 : Int32))), .val (.int (p2 &&& (255 : Int32))), .val (.int (p3 &&& (255 : Int32))), .val (.int (us &&& (255 : Int32))), .val (.int nv), .val (.int kv), .val (.ref b83), .unset, .unset, .unset, .unset] [(.ref b129)])
        refine hst (fun t₀ k₀ => XS.dup X129.here hx rfl (hb hby at_132) rfl rfl k₀) ?_
        show F T129 (mkF m 133 #[.val (.int p1), .val (.int p2), .val (.int p3), .val (.int p4), .val (.int p5), .val (.int p6), .val (.int (p1 &&& (255 : Int32))), .val (.int (p2 &&& (255 : Int32))), .val (.int (p3 &&& (255 : Int32))), .val (.int (us &&& (255 : Int32))), .val (.int nv), .val (.int kv), .val (.ref b83), .unset, .unset, .unset, .unset] [(.ref b129), (.ref b129)])
        refine hst (fun t₀ k₀ => XS.iload X129.here hx rfl (hb hby at_133) rfl k₀) ?_
        show F T129 (mkF m 135 #[.val (.int p1), .val (.int p2), .val (.int p3), .val (.int p4), .val (.int p5), .val (.int p6), .val (.int (p1 &&& (255 : Int32))), .val (.int (p2 &&& (255 : Int32))), .val (.int (p3 &&& (255 : Int32))), .val (.int (us &&& (255 : Int32))), .val (.int nv), .val (.int kv), .val (.ref b83), .unset, .unset, .unset, .unset] [(.int (p1 &&& (255 : Int32))), (.ref b129), (.ref b129)])
        refine hst (fun t₀ k₀ => XS.iload X129.here hx rfl (hb hby at_135) rfl k₀) ?_
        show F T129 (mkF m 137 #[.val (.int p1), .val (.int p2), .val (.int p3), .val (.int p4), .val (.int p5), .val (.int p6), .val (.int (p1 &&& (255 : Int32))), .val (.int (p2 &&& (255 : Int32))), .val (.int (p3 &&& (255 : Int32))), .val (.int (us &&& (255 : Int32))), .val (.int nv), .val (.int kv), .val (.ref b83), .unset, .unset, .unset, .unset] [(.int (p2 &&& (255 : Int32))), (.int (p1 &&& (255 : Int32))), (.ref b129), (.ref b129)])
        refine hst (fun t₀ k₀ => XS.iload X129.here hx rfl (hb hby at_137) rfl k₀) ?_
        show F T129 (mkF m 139 #[.val (.int p1), .val (.int p2), .val (.int p3), .val (.int p4), .val (.int p5), .val (.int p6), .val (.int (p1 &&& (255 : Int32))), .val (.int (p2 &&& (255 : Int32))), .val (.int (p3 &&& (255 : Int32))), .val (.int (us &&& (255 : Int32))), .val (.int nv), .val (.int kv), .val (.ref b83), .unset, .unset, .unset, .unset] [(.int (p3 &&& (255 : Int32))), (.int (p2 &&& (255 : Int32))), (.int (p1 &&& (255 : Int32))), (.ref b129), (.ref b129)])
        refine hst (fun t₀ k₀ => XS.iload X129.here hx rfl (hb hby at_139) rfl k₀) ?_
        show F T129 (mkF m 141 #[.val (.int p1), .val (.int p2), .val (.int p3), .val (.int p4), .val (.int p5), .val (.int p6), .val (.int (p1 &&& (255 : Int32))), .val (.int (p2 &&& (255 : Int32))), .val (.int (p3 &&& (255 : Int32))), .val (.int (us &&& (255 : Int32))), .val (.int nv), .val (.int kv), .val (.ref b83), .unset, .unset, .unset, .unset] [(.int (us &&& (255 : Int32))), (.int (p3 &&& (255 : Int32))), (.int (p2 &&& (255 : Int32))), (.int (p1 &&& (255 : Int32))), (.ref b129), (.ref b129)])
        refine hst (fun t₀ k₀ => XS.aload X129.here hx rfl (hb hby at_141) rfl rfl k₀) ?_
        show F T129 (mkF m 143 #[.val (.int p1), .val (.int p2), .val (.int p3), .val (.int p4), .val (.int p5), .val (.int p6), .val (.int (p1 &&& (255 : Int32))), .val (.int (p2 &&& (255 : Int32))), .val (.int (p3 &&& (255 : Int32))), .val (.int (us &&& (255 : Int32))), .val (.int nv), .val (.int kv), .val (.ref b83), .unset, .unset, .unset, .unset] [(.ref b83), (.int (us &&& (255 : Int32))), (.int (p3 &&& (255 : Int32))), (.int (p2 &&& (255 : Int32))), (.int (p1 &&& (255 : Int32))), (.ref b129), (.ref b129)])
        refine hst (fun t₀ k₀ => XS.iload X129.here hx rfl (hb hby at_143) rfl k₀) ?_
        show F T129 (mkF m 145 #[.val (.int p1), .val (.int p2), .val (.int p3), .val (.int p4), .val (.int p5), .val (.int p6), .val (.int (p1 &&& (255 : Int32))), .val (.int (p2 &&& (255 : Int32))), .val (.int (p3 &&& (255 : Int32))), .val (.int (us &&& (255 : Int32))), .val (.int nv), .val (.int kv), .val (.ref b83), .unset, .unset, .unset, .unset] [(.int nv), (.ref b83), (.int (us &&& (255 : Int32))), (.int (p3 &&& (255 : Int32))), (.int (p2 &&& (255 : Int32))), (.int (p1 &&& (255 : Int32))), (.ref b129), (.ref b129)])
        obtain ⟨v145, T145, Lc145, X145, hQ145, hS145, hZ, hown, st145⟩ := own_callNW X129 hS0 hk_p129 hx hZ (y := (⟨"com/example/seamark/seamark/transport/CommandApdu", "<init>", "(IIII[BI)V"⟩ : MethodName)) rfl hown (hw _ (List.mem_of_getElem? (i := 4) rfl)) (hw _ (List.mem_of_getElem? (i := 5) rfl)) (hw _ (List.mem_of_getElem? (i := 3) rfl)) (hw _ (List.mem_of_getElem? (i := 6) rfl)) (by decide) e129 (rm1 l Z a0 hw [] b129 (p1 &&& (255 : Int32)) (p2 &&& (255 : Int32)) (p3 &&& (255 : Int32)) (us &&& (255 : Int32)) b83 nv 1 (fun i => if i = 0 then nar .byte y0 else (0 : Int32)) h129 n0 Z0_p129 A129 ge_b129 F_cla_b129 F_ins_b129 F_p1_b129 F_p2_b129 F_data_b129 F_ne_b129 A_b83_p129 Ex83_p129 ne_b83_b129 (by decide) (fun i _ => by (try dsimp only); split; exact fits_nar_byte _; rfl) (own_in255 _) (own_in255 _) (own_in255 _) (own_in255 _) hnv) (by decide) (by decide) (g := (mkF m 145 #[.val (.int p1), .val (.int p2), .val (.int p3), .val (.int p4), .val (.int p5), .val (.int p6), .val (.int (p1 &&& (255 : Int32))), .val (.int (p2 &&& (255 : Int32))), .val (.int (p3 &&& (255 : Int32))), .val (.int (us &&& (255 : Int32))), .val (.int nv), .val (.int kv), .val (.ref b83), .unset, .unset, .unset, .unset] [(.int nv), (.ref b83), (.int (us &&& (255 : Int32))), (.int (p3 &&& (255 : Int32))), (.int (p2 &&& (255 : Int32))), (.int (p1 &&& (255 : Int32))), (.ref b129), (.ref b129)])) rfl (by rw [hml]; rfl) (a := b129) (argsL := [(.int (p1 &&& (255 : Int32))), (.int (p2 &&& (255 : Int32))), (.int (p3 &&& (255 : Int32))), (.int (us &&& (255 : Int32))), (.ref b83), (.int nv)]) (rest := [(.ref b129)]) (lenOf pd_3 rfl) rfl rfl (W := 1) (by show 2 * 0 + _ ≤ _; exact Nat.le_of_eq rfl) (hb hby at_145) (by decide) (by decide)
        obtain ⟨bd145, rfl, Nq145, K145, q1_145, q2_145, q3_145, q4_145, q5_145, q6_145, q7_145, q8_145, q9_145, ne_bd145_b129⟩ := hQ145
        have N145 := Fr.app N89 Nq145
        have A_b83_p145 : own_A Z T145.heap b83 .byte 1 (fun i => .int (if i = 0 then nar .byte y0 else (0 : Int32))) := A_b83_p129.keep K145 (by simp only [List.mem_cons, List.not_mem_nil, or_false, not_or]; exact ne_b83_b129)
        have Ex83_p145 : Exa Z T145.heap b83 "[B" := Ex83_p129.keep K145
        have Z0_p145 : n0 ≤ T145.heap.size := Nat.le_trans Z0_p129 K145.1
        refine hst st145 ?_
        show F T145 (mkF m 148 #[.val (.int p1), .val (.int p2), .val (.int p3), .val (.int p4), .val (.int p5), .val (.int p6), .val (.int (p1 &&& (255 : Int32))), .val (.int (p2 &&& (255 : Int32))), .val (.int (p3 &&& (255 : Int32))), .val (.int (us &&& (255 : Int32))), .val (.int nv), .val (.int kv), .val (.ref b83), .unset, .unset, .unset, .unset] [(.ref b129)])
        refine hst (fun t₀ k₀ => XS.astore X145.here hx rfl (hb hby at_148) rfl rfl (l' := #[.val (.int p1), .val (.int p2), .val (.int p3), .val (.int p4), .val (.int p5), .val (.int p6), .val (.int (p1 &&& (255 : Int32))), .val (.int (p2 &&& (255 : Int32))), .val (.int (p3 &&& (255 : Int32))), .val (.int (us &&& (255 : Int32))), .val (.int nv), .val (.int kv), .val (.ref b83), .val (.ref b129), .unset, .unset, .unset]) rfl k₀) ?_
        show F T145 (mkF m 150 #[.val (.int p1), .val (.int p2), .val (.int p3), .val (.int p4), .val (.int p5), .val (.int p6), .val (.int (p1 &&& (255 : Int32))), .val (.int (p2 &&& (255 : Int32))), .val (.int (p3 &&& (255 : Int32))), .val (.int (us &&& (255 : Int32))), .val (.int nv), .val (.int kv), .val (.ref b83), .val (.ref b129), .unset, .unset, .unset] [])
        refine hst (fun t₀ k₀ => XS.iload X145.here hx rfl (hb hby at_150) rfl k₀) ?_
        show F T145 (mkF m 152 #[.val (.int p1), .val (.int p2), .val (.int p3), .val (.int p4), .val (.int p5), .val (.int p6), .val (.int (p1 &&& (255 : Int32))), .val (.int (p2 &&& (255 : Int32))), .val (.int (p3 &&& (255 : Int32))), .val (.int (us &&& (255 : Int32))), .val (.int nv), .val (.int kv), .val (.ref b83), .val (.ref b129), .unset, .unset, .unset] [(.int kv)])
        refine hst (fun t₀ k₀ => XS.ifNo X145.here hx rfl (hb hby at_152) rfl ((if0 _ _).trans (feq hc65).1) k₀) ?_
        show F T145 (mkF m 155 #[.val (.int p1), .val (.int p2), .val (.int p3), .val (.int p4), .val (.int p5), .val (.int p6), .val (.int (p1 &&& (255 : Int32))), .val (.int (p2 &&& (255 : Int32))), .val (.int (p3 &&& (255 : Int32))), .val (.int (us &&& (255 : Int32))), .val (.int nv), .val (.int kv), .val (.ref b83), .val (.ref b129), .unset, .unset, .unset] [])
        refine hst (fun t₀ k₀ => XS.iconst X145.here hx rfl (hb hby at_155) k₀) ?_
        show F T145 (mkF m 156 #[.val (.int p1), .val (.int p2), .val (.int p3), .val (.int p4), .val (.int p5), .val (.int p6), .val (.int (p1 &&& (255 : Int32))), .val (.int (p2 &&& (255 : Int32))), .val (.int (p3 &&& (255 : Int32))), .val (.int (us &&& (255 : Int32))), .val (.int nv), .val (.int kv), .val (.ref b83), .val (.ref b129), .unset, .unset, .unset] [(.int (1 : Int32))])
        refine hst (fun t₀ k₀ => XS.goto X145.here hx rfl (pc0 := 156) (pc' := 160) rfl (hb hby at_156) (by decide) (by decide) k₀) ?_
        show F T145 (mkF m 160 #[.val (.int p1), .val (.int p2), .val (.int p3), .val (.int p4), .val (.int p5), .val (.int p6), .val (.int (p1 &&& (255 : Int32))), .val (.int (p2 &&& (255 : Int32))), .val (.int (p3 &&& (255 : Int32))), .val (.int (us &&& (255 : Int32))), .val (.int nv), .val (.int kv), .val (.ref b83), .val (.ref b129), .unset, .unset, .unset] [(.int (1 : Int32))])
        refine hst (fun t₀ k₀ => XS.istore X145.here hx rfl (hb hby at_160) rfl (l' := #[.val (.int p1), .val (.int p2), .val (.int p3), .val (.int p4), .val (.int p5), .val (.int p6), .val (.int (p1 &&& (255 : Int32))), .val (.int (p2 &&& (255 : Int32))), .val (.int (p3 &&& (255 : Int32))), .val (.int (us &&& (255 : Int32))), .val (.int nv), .val (.int kv), .val (.ref b83), .val (.ref b129), .val (.int (1 : Int32)), .unset, .unset]) rfl k₀) ?_
        show F T145 (mkF m 162 #[.val (.int p1), .val (.int p2), .val (.int p3), .val (.int p4), .val (.int p5), .val (.int p6), .val (.int (p1 &&& (255 : Int32))), .val (.int (p2 &&& (255 : Int32))), .val (.int (p3 &&& (255 : Int32))), .val (.int (us &&& (255 : Int32))), .val (.int nv), .val (.int kv), .val (.ref b83), .val (.ref b129), .val (.int (1 : Int32)), .unset, .unset] [])
        refine hst (fun t₀ k₀ => XS.iload X145.here hx rfl (hb hby at_162) rfl k₀) ?_
        show F T145 (mkF m 164 #[.val (.int p1), .val (.int p2), .val (.int p3), .val (.int p4), .val (.int p5), .val (.int p6), .val (.int (p1 &&& (255 : Int32))), .val (.int (p2 &&& (255 : Int32))), .val (.int (p3 &&& (255 : Int32))), .val (.int (us &&& (255 : Int32))), .val (.int nv), .val (.int kv), .val (.ref b83), .val (.ref b129), .val (.int (1 : Int32)), .unset, .unset] [(.int nv)])
        by_cases hc164 : nv = (0 : Int32)
        · -- pc 164: taken
          refine hst (fun t₀ k₀ => XS.ifYes X145.here hx rfl (pc0 := 164) (pc' := 171) rfl (hb hby at_164) rfl ((if0 _ _).trans (teq hc164).1) (by decide) (by decide) k₀) ?_
          show F T145 (mkF m 171 #[.val (.int p1), .val (.int p2), .val (.int p3), .val (.int p4), .val (.int p5), .val (.int p6), .val (.int (p1 &&& (255 : Int32))), .val (.int (p2 &&& (255 : Int32))), .val (.int (p3 &&& (255 : Int32))), .val (.int (us &&& (255 : Int32))), .val (.int nv), .val (.int kv), .val (.ref b83), .val (.ref b129), .val (.int (1 : Int32)), .unset, .unset] [])
          refine hst (fun t₀ k₀ => XS.iconst X145.here hx rfl (hb hby at_171) k₀) ?_
          show F T145 (mkF m 172 #[.val (.int p1), .val (.int p2), .val (.int p3), .val (.int p4), .val (.int p5), .val (.int p6), .val (.int (p1 &&& (255 : Int32))), .val (.int (p2 &&& (255 : Int32))), .val (.int (p3 &&& (255 : Int32))), .val (.int (us &&& (255 : Int32))), .val (.int nv), .val (.int kv), .val (.ref b83), .val (.ref b129), .val (.int (1 : Int32)), .unset, .unset] [(.int (0 : Int32))])
          refine hst (fun t₀ k₀ => XS.istore X145.here hx rfl (hb hby at_172) rfl (l' := #[.val (.int p1), .val (.int p2), .val (.int p3), .val (.int p4), .val (.int p5), .val (.int p6), .val (.int (p1 &&& (255 : Int32))), .val (.int (p2 &&& (255 : Int32))), .val (.int (p3 &&& (255 : Int32))), .val (.int (us &&& (255 : Int32))), .val (.int nv), .val (.int kv), .val (.ref b83), .val (.ref b129), .val (.int (1 : Int32)), .val (.int (0 : Int32)), .unset]) rfl k₀) ?_
          show F T145 (mkF m 174 #[.val (.int p1), .val (.int p2), .val (.int p3), .val (.int p4), .val (.int p5), .val (.int p6), .val (.int (p1 &&& (255 : Int32))), .val (.int (p2 &&& (255 : Int32))), .val (.int (p3 &&& (255 : Int32))), .val (.int (us &&& (255 : Int32))), .val (.int nv), .val (.int kv), .val (.ref b83), .val (.ref b129), .val (.int (1 : Int32)), .val (.int (0 : Int32)), .unset] [])
          refine hst (fun t₀ k₀ => XS.iconst X145.here hx rfl (hb hby at_174) k₀) ?_
          show F T145 (mkF m 175 #[.val (.int p1), .val (.int p2), .val (.int p3), .val (.int p4), .val (.int p5), .val (.int p6), .val (.int (p1 &&& (255 : Int32))), .val (.int (p2 &&& (255 : Int32))), .val (.int (p3 &&& (255 : Int32))), .val (.int (us &&& (255 : Int32))), .val (.int nv), .val (.int kv), .val (.ref b83), .val (.ref b129), .val (.int (1 : Int32)), .val (.int (0 : Int32)), .unset] [(.int (1 : Int32))])
          refine hst (fun t₀ k₀ => XS.iload X145.here hx rfl (hb hby at_175) rfl k₀) ?_
          show F T145 (mkF m 177 #[.val (.int p1), .val (.int p2), .val (.int p3), .val (.int p4), .val (.int p5), .val (.int p6), .val (.int (p1 &&& (255 : Int32))), .val (.int (p2 &&& (255 : Int32))), .val (.int (p3 &&& (255 : Int32))), .val (.int (us &&& (255 : Int32))), .val (.int nv), .val (.int kv), .val (.ref b83), .val (.ref b129), .val (.int (1 : Int32)), .val (.int (0 : Int32)), .unset] [(.int (0 : Int32)), (.int (1 : Int32))])
          refine hst (fun t₀ k₀ => XS.ifYes X145.here hx rfl (pc0 := 177) (pc' := 184) rfl (hb hby at_177) rfl ((if0 _ _).trans (teq (by decide)).1) (by decide) (by decide) k₀) ?_
          show F T145 (mkF m 184 #[.val (.int p1), .val (.int p2), .val (.int p3), .val (.int p4), .val (.int p5), .val (.int p6), .val (.int (p1 &&& (255 : Int32))), .val (.int (p2 &&& (255 : Int32))), .val (.int (p3 &&& (255 : Int32))), .val (.int (us &&& (255 : Int32))), .val (.int nv), .val (.int kv), .val (.ref b83), .val (.ref b129), .val (.int (1 : Int32)), .val (.int (0 : Int32)), .unset] [(.int (1 : Int32))])
          refine hst (fun t₀ k₀ => XS.iconst X145.here hx rfl (hb hby at_184) k₀) ?_
          show F T145 (mkF m 185 #[.val (.int p1), .val (.int p2), .val (.int p3), .val (.int p4), .val (.int p5), .val (.int p6), .val (.int (p1 &&& (255 : Int32))), .val (.int (p2 &&& (255 : Int32))), .val (.int (p3 &&& (255 : Int32))), .val (.int (us &&& (255 : Int32))), .val (.int nv), .val (.int kv), .val (.ref b83), .val (.ref b129), .val (.int (1 : Int32)), .val (.int (0 : Int32)), .unset] [(.int (0 : Int32)), (.int (1 : Int32))])
          refine hst (fun t₀ k₀ => XS.iadd X145.here hx rfl (hb hby at_185) rfl k₀) ?_
          show F T145 (mkF m 186 #[.val (.int p1), .val (.int p2), .val (.int p3), .val (.int p4), .val (.int p5), .val (.int p6), .val (.int (p1 &&& (255 : Int32))), .val (.int (p2 &&& (255 : Int32))), .val (.int (p3 &&& (255 : Int32))), .val (.int (us &&& (255 : Int32))), .val (.int nv), .val (.int kv), .val (.ref b83), .val (.ref b129), .val (.int (1 : Int32)), .val (.int (0 : Int32)), .unset] [(.int ((1 : Int32) + (0 : Int32)))])
          refine hst (fun t₀ k₀ => XS.iload X145.here hx rfl (hb hby at_186) rfl k₀) ?_
          show F T145 (mkF m 188 #[.val (.int p1), .val (.int p2), .val (.int p3), .val (.int p4), .val (.int p5), .val (.int p6), .val (.int (p1 &&& (255 : Int32))), .val (.int (p2 &&& (255 : Int32))), .val (.int (p3 &&& (255 : Int32))), .val (.int (us &&& (255 : Int32))), .val (.int nv), .val (.int kv), .val (.ref b83), .val (.ref b129), .val (.int (1 : Int32)), .val (.int (0 : Int32)), .unset] [(.int (1 : Int32)), (.int ((1 : Int32) + (0 : Int32)))])
          refine hst (fun t₀ k₀ => XS.ifNo X145.here hx rfl (hb hby at_188) rfl ((if0 _ _).trans (feq (by decide)).1) k₀) ?_
          show F T145 (mkF m 191 #[.val (.int p1), .val (.int p2), .val (.int p3), .val (.int p4), .val (.int p5), .val (.int p6), .val (.int (p1 &&& (255 : Int32))), .val (.int (p2 &&& (255 : Int32))), .val (.int (p3 &&& (255 : Int32))), .val (.int (us &&& (255 : Int32))), .val (.int nv), .val (.int kv), .val (.ref b83), .val (.ref b129), .val (.int (1 : Int32)), .val (.int (0 : Int32)), .unset] [(.int ((1 : Int32) + (0 : Int32)))])
          refine hst (fun t₀ k₀ => XS.iconst X145.here hx rfl (hb hby at_191) k₀) ?_
          show F T145 (mkF m 192 #[.val (.int p1), .val (.int p2), .val (.int p3), .val (.int p4), .val (.int p5), .val (.int p6), .val (.int (p1 &&& (255 : Int32))), .val (.int (p2 &&& (255 : Int32))), .val (.int (p3 &&& (255 : Int32))), .val (.int (us &&& (255 : Int32))), .val (.int nv), .val (.int kv), .val (.ref b83), .val (.ref b129), .val (.int (1 : Int32)), .val (.int (0 : Int32)), .unset] [(.int (2 : Int32)), (.int ((1 : Int32) + (0 : Int32)))])
          refine hst (fun t₀ k₀ => XS.goto X145.here hx rfl (pc0 := 192) (pc' := 196) rfl (hb hby at_192) (by decide) (by decide) k₀) ?_
          show F T145 (mkF m 196 #[.val (.int p1), .val (.int p2), .val (.int p3), .val (.int p4), .val (.int p5), .val (.int p6), .val (.int (p1 &&& (255 : Int32))), .val (.int (p2 &&& (255 : Int32))), .val (.int (p3 &&& (255 : Int32))), .val (.int (us &&& (255 : Int32))), .val (.int nv), .val (.int kv), .val (.ref b83), .val (.ref b129), .val (.int (1 : Int32)), .val (.int (0 : Int32)), .unset] [(.int (2 : Int32)), (.int ((1 : Int32) + (0 : Int32)))])
          refine hst (fun t₀ k₀ => XS.iadd X145.here hx rfl (hb hby at_196) rfl k₀) ?_
          show F T145 (mkF m 197 #[.val (.int p1), .val (.int p2), .val (.int p3), .val (.int p4), .val (.int p5), .val (.int p6), .val (.int (p1 &&& (255 : Int32))), .val (.int (p2 &&& (255 : Int32))), .val (.int (p3 &&& (255 : Int32))), .val (.int (us &&& (255 : Int32))), .val (.int nv), .val (.int kv), .val (.ref b83), .val (.ref b129), .val (.int (1 : Int32)), .val (.int (0 : Int32)), .unset] [(.int (((1 : Int32) + (0 : Int32)) + (2 : Int32)))])
          refine hst (fun t₀ k₀ => XS.istore X145.here hx rfl (hb hby at_197) rfl (l' := #[.val (.int p1), .val (.int p2), .val (.int p3), .val (.int p4), .val (.int p5), .val (.int p6), .val (.int (p1 &&& (255 : Int32))), .val (.int (p2 &&& (255 : Int32))), .val (.int (p3 &&& (255 : Int32))), .val (.int (us &&& (255 : Int32))), .val (.int nv), .val (.int kv), .val (.ref b83), .val (.ref b129), .val (.int (1 : Int32)), .val (.int (0 : Int32)), .val (.int (((1 : Int32) + (0 : Int32)) + (2 : Int32)))]) rfl k₀) ?_
          show F T145 (mkF m 199 #[.val (.int p1), .val (.int p2), .val (.int p3), .val (.int p4), .val (.int p5), .val (.int p6), .val (.int (p1 &&& (255 : Int32))), .val (.int (p2 &&& (255 : Int32))), .val (.int (p3 &&& (255 : Int32))), .val (.int (us &&& (255 : Int32))), .val (.int nv), .val (.int kv), .val (.ref b83), .val (.ref b129), .val (.int (1 : Int32)), .val (.int (0 : Int32)), .val (.int (((1 : Int32) + (0 : Int32)) + (2 : Int32)))] [])
          refine hst (fun t₀ k₀ => XS.aload X145.here hx rfl (hb hby at_199) rfl rfl k₀) ?_
          show F T145 (mkF m 201 #[.val (.int p1), .val (.int p2), .val (.int p3), .val (.int p4), .val (.int p5), .val (.int p6), .val (.int (p1 &&& (255 : Int32))), .val (.int (p2 &&& (255 : Int32))), .val (.int (p3 &&& (255 : Int32))), .val (.int (us &&& (255 : Int32))), .val (.int nv), .val (.int kv), .val (.ref b83), .val (.ref b129), .val (.int (1 : Int32)), .val (.int (0 : Int32)), .val (.int (((1 : Int32) + (0 : Int32)) + (2 : Int32)))] [(.ref b129)])
          obtain ⟨v201, T201, Lc201, X201, hQ201, st201⟩ := own_callV X145 hx hZ hown (y := (⟨"com/example/seamark/seamark/transport/CommandApdu", "isoCase", "()I"⟩ : MethodName)) (hw _ (List.mem_of_getElem? (i := 44) rfl)) (hw _ (List.mem_of_getElem? (i := 45) rfl)) (hw _ (List.mem_of_getElem? (i := 47) rfl)) (hw _ (List.mem_of_getElem? (i := 46) rfl)) (hw _ (List.mem_of_getElem? (i := 3) rfl)) (hw _ (List.mem_of_getElem? (i := 48) rfl)) (by decide) rfl q1_145 (rm4 l Z a0 hw [] b129 bd145 1 (fun i => if i = 0 then nar .byte y0 else (0 : Int32)) nv T145.heap n0 Z0_p145 q7_145 q8_145 q6_145 (by decide)) (by decide) (by decide) (g := (mkF m 201 #[.val (.int p1), .val (.int p2), .val (.int p3), .val (.int p4), .val (.int p5), .val (.int p6), .val (.int (p1 &&& (255 : Int32))), .val (.int (p2 &&& (255 : Int32))), .val (.int (p3 &&& (255 : Int32))), .val (.int (us &&& (255 : Int32))), .val (.int nv), .val (.int kv), .val (.ref b83), .val (.ref b129), .val (.int (1 : Int32)), .val (.int (0 : Int32)), .val (.int (((1 : Int32) + (0 : Int32)) + (2 : Int32)))] [(.ref b129)])) rfl (by rw [hml]; rfl) (argsL := []) (rest := []) (lenOf pd_0 rfl) rfl rfl (W := 0) (by show 2 * 0 + _ ≤ _; exact Nat.le_of_eq rfl) (hb hby at_201) (by decide) (by decide)
          obtain ⟨rfl, Nq201, he201⟩ := hQ201
          have N201 := Fr.app N145 Nq201
          refine hst st201 ?_
          show F T201 (mkF m 204 #[.val (.int p1), .val (.int p2), .val (.int p3), .val (.int p4), .val (.int p5), .val (.int p6), .val (.int (p1 &&& (255 : Int32))), .val (.int (p2 &&& (255 : Int32))), .val (.int (p3 &&& (255 : Int32))), .val (.int (us &&& (255 : Int32))), .val (.int nv), .val (.int kv), .val (.ref b83), .val (.ref b129), .val (.int (1 : Int32)), .val (.int (0 : Int32)), .val (.int (((1 : Int32) + (0 : Int32)) + (2 : Int32)))] [(.int (own_iso 1 nv))])
          refine hst (fun t₀ k₀ => XS.iload X201.here hx rfl (hb hby at_204) rfl k₀) ?_
          show F T201 (mkF m 206 #[.val (.int p1), .val (.int p2), .val (.int p3), .val (.int p4), .val (.int p5), .val (.int p6), .val (.int (p1 &&& (255 : Int32))), .val (.int (p2 &&& (255 : Int32))), .val (.int (p3 &&& (255 : Int32))), .val (.int (us &&& (255 : Int32))), .val (.int nv), .val (.int kv), .val (.ref b83), .val (.ref b129), .val (.int (1 : Int32)), .val (.int (0 : Int32)), .val (.int (((1 : Int32) + (0 : Int32)) + (2 : Int32)))] [(.int (((1 : Int32) + (0 : Int32)) + (2 : Int32))), (.int (own_iso 1 nv))])
          refine hst (fun t₀ k₀ => XS.icmpNo X201.here hx rfl (hb hby at_206) rfl (teq (by unfold own_iso; rw [if_neg (by decide), if_pos hc164]; decide)).2 k₀) ?_
          show F T201 (mkF m 209 #[.val (.int p1), .val (.int p2), .val (.int p3), .val (.int p4), .val (.int p5), .val (.int p6), .val (.int (p1 &&& (255 : Int32))), .val (.int (p2 &&& (255 : Int32))), .val (.int (p3 &&& (255 : Int32))), .val (.int (us &&& (255 : Int32))), .val (.int nv), .val (.int kv), .val (.ref b83), .val (.ref b129), .val (.int (1 : Int32)), .val (.int (0 : Int32)), .val (.int (((1 : Int32) + (0 : Int32)) + (2 : Int32)))] [])
          refine hst (fun t₀ k₀ => XS.iconst X201.here hx rfl (hb hby at_209) k₀) ?_
          show F T201 (mkF m 210 #[.val (.int p1), .val (.int p2), .val (.int p3), .val (.int p4), .val (.int p5), .val (.int p6), .val (.int (p1 &&& (255 : Int32))), .val (.int (p2 &&& (255 : Int32))), .val (.int (p3 &&& (255 : Int32))), .val (.int (us &&& (255 : Int32))), .val (.int nv), .val (.int kv), .val (.ref b83), .val (.ref b129), .val (.int (1 : Int32)), .val (.int (0 : Int32)), .val (.int (((1 : Int32) + (0 : Int32)) + (2 : Int32)))] [(.int (1 : Int32))])
          refine hst (fun t₀ k₀ => XS.goto X201.here hx rfl (pc0 := 210) (pc' := 214) rfl (hb hby at_210) (by decide) (by decide) k₀) ?_
          show F T201 (mkF m 214 #[.val (.int p1), .val (.int p2), .val (.int p3), .val (.int p4), .val (.int p5), .val (.int p6), .val (.int (p1 &&& (255 : Int32))), .val (.int (p2 &&& (255 : Int32))), .val (.int (p3 &&& (255 : Int32))), .val (.int (us &&& (255 : Int32))), .val (.int nv), .val (.int kv), .val (.ref b83), .val (.ref b129), .val (.int (1 : Int32)), .val (.int (0 : Int32)), .val (.int (((1 : Int32) + (0 : Int32)) + (2 : Int32)))] [(.int (1 : Int32))])
          rw [hF]
          refine own_retNW X201 hS145 (by rw [he201]; exact (Nat.le_refl _)) hx hret (by simp) hlk (hb hby at_214) (by decide) (by decide) ?_
          rw [he201]
          exact ⟨rfl, N201⟩
        · -- pc 164: not taken
          refine hst (fun t₀ k₀ => XS.ifNo X145.here hx rfl (hb hby at_164) rfl ((if0 _ _).trans (feq hc164).1) k₀) ?_
          show F T145 (mkF m 167 #[.val (.int p1), .val (.int p2), .val (.int p3), .val (.int p4), .val (.int p5), .val (.int p6), .val (.int (p1 &&& (255 : Int32))), .val (.int (p2 &&& (255 : Int32))), .val (.int (p3 &&& (255 : Int32))), .val (.int (us &&& (255 : Int32))), .val (.int nv), .val (.int kv), .val (.ref b83), .val (.ref b129), .val (.int (1 : Int32)), .unset, .unset] [])
          refine hst (fun t₀ k₀ => XS.iconst X145.here hx rfl (hb hby at_167) k₀) ?_
          show F T145 (mkF m 168 #[.val (.int p1), .val (.int p2), .val (.int p3), .val (.int p4), .val (.int p5), .val (.int p6), .val (.int (p1 &&& (255 : Int32))), .val (.int (p2 &&& (255 : Int32))), .val (.int (p3 &&& (255 : Int32))), .val (.int (us &&& (255 : Int32))), .val (.int nv), .val (.int kv), .val (.ref b83), .val (.ref b129), .val (.int (1 : Int32)), .unset, .unset] [(.int (1 : Int32))])
          refine hst (fun t₀ k₀ => XS.goto X145.here hx rfl (pc0 := 168) (pc' := 172) rfl (hb hby at_168) (by decide) (by decide) k₀) ?_
          show F T145 (mkF m 172 #[.val (.int p1), .val (.int p2), .val (.int p3), .val (.int p4), .val (.int p5), .val (.int p6), .val (.int (p1 &&& (255 : Int32))), .val (.int (p2 &&& (255 : Int32))), .val (.int (p3 &&& (255 : Int32))), .val (.int (us &&& (255 : Int32))), .val (.int nv), .val (.int kv), .val (.ref b83), .val (.ref b129), .val (.int (1 : Int32)), .unset, .unset] [(.int (1 : Int32))])
          refine hst (fun t₀ k₀ => XS.istore X145.here hx rfl (hb hby at_172) rfl (l' := #[.val (.int p1), .val (.int p2), .val (.int p3), .val (.int p4), .val (.int p5), .val (.int p6), .val (.int (p1 &&& (255 : Int32))), .val (.int (p2 &&& (255 : Int32))), .val (.int (p3 &&& (255 : Int32))), .val (.int (us &&& (255 : Int32))), .val (.int nv), .val (.int kv), .val (.ref b83), .val (.ref b129), .val (.int (1 : Int32)), .val (.int (1 : Int32)), .unset]) rfl k₀) ?_
          show F T145 (mkF m 174 #[.val (.int p1), .val (.int p2), .val (.int p3), .val (.int p4), .val (.int p5), .val (.int p6), .val (.int (p1 &&& (255 : Int32))), .val (.int (p2 &&& (255 : Int32))), .val (.int (p3 &&& (255 : Int32))), .val (.int (us &&& (255 : Int32))), .val (.int nv), .val (.int kv), .val (.ref b83), .val (.ref b129), .val (.int (1 : Int32)), .val (.int (1 : Int32)), .unset] [])
          refine hst (fun t₀ k₀ => XS.iconst X145.here hx rfl (hb hby at_174) k₀) ?_
          show F T145 (mkF m 175 #[.val (.int p1), .val (.int p2), .val (.int p3), .val (.int p4), .val (.int p5), .val (.int p6), .val (.int (p1 &&& (255 : Int32))), .val (.int (p2 &&& (255 : Int32))), .val (.int (p3 &&& (255 : Int32))), .val (.int (us &&& (255 : Int32))), .val (.int nv), .val (.int kv), .val (.ref b83), .val (.ref b129), .val (.int (1 : Int32)), .val (.int (1 : Int32)), .unset] [(.int (1 : Int32))])
          refine hst (fun t₀ k₀ => XS.iload X145.here hx rfl (hb hby at_175) rfl k₀) ?_
          show F T145 (mkF m 177 #[.val (.int p1), .val (.int p2), .val (.int p3), .val (.int p4), .val (.int p5), .val (.int p6), .val (.int (p1 &&& (255 : Int32))), .val (.int (p2 &&& (255 : Int32))), .val (.int (p3 &&& (255 : Int32))), .val (.int (us &&& (255 : Int32))), .val (.int nv), .val (.int kv), .val (.ref b83), .val (.ref b129), .val (.int (1 : Int32)), .val (.int (1 : Int32)), .unset] [(.int (1 : Int32)), (.int (1 : Int32))])
          refine hst (fun t₀ k₀ => XS.ifNo X145.here hx rfl (hb hby at_177) rfl ((if0 _ _).trans (feq (by decide)).1) k₀) ?_
          show F T145 (mkF m 180 #[.val (.int p1), .val (.int p2), .val (.int p3), .val (.int p4), .val (.int p5), .val (.int p6), .val (.int (p1 &&& (255 : Int32))), .val (.int (p2 &&& (255 : Int32))), .val (.int (p3 &&& (255 : Int32))), .val (.int (us &&& (255 : Int32))), .val (.int nv), .val (.int kv), .val (.ref b83), .val (.ref b129), .val (.int (1 : Int32)), .val (.int (1 : Int32)), .unset] [(.int (1 : Int32))])
          refine hst (fun t₀ k₀ => XS.iconst X145.here hx rfl (hb hby at_180) k₀) ?_
          show F T145 (mkF m 181 #[.val (.int p1), .val (.int p2), .val (.int p3), .val (.int p4), .val (.int p5), .val (.int p6), .val (.int (p1 &&& (255 : Int32))), .val (.int (p2 &&& (255 : Int32))), .val (.int (p3 &&& (255 : Int32))), .val (.int (us &&& (255 : Int32))), .val (.int nv), .val (.int kv), .val (.ref b83), .val (.ref b129), .val (.int (1 : Int32)), .val (.int (1 : Int32)), .unset] [(.int (1 : Int32)), (.int (1 : Int32))])
          refine hst (fun t₀ k₀ => XS.goto X145.here hx rfl (pc0 := 181) (pc' := 185) rfl (hb hby at_181) (by decide) (by decide) k₀) ?_
          show F T145 (mkF m 185 #[.val (.int p1), .val (.int p2), .val (.int p3), .val (.int p4), .val (.int p5), .val (.int p6), .val (.int (p1 &&& (255 : Int32))), .val (.int (p2 &&& (255 : Int32))), .val (.int (p3 &&& (255 : Int32))), .val (.int (us &&& (255 : Int32))), .val (.int nv), .val (.int kv), .val (.ref b83), .val (.ref b129), .val (.int (1 : Int32)), .val (.int (1 : Int32)), .unset] [(.int (1 : Int32)), (.int (1 : Int32))])
          refine hst (fun t₀ k₀ => XS.iadd X145.here hx rfl (hb hby at_185) rfl k₀) ?_
          show F T145 (mkF m 186 #[.val (.int p1), .val (.int p2), .val (.int p3), .val (.int p4), .val (.int p5), .val (.int p6), .val (.int (p1 &&& (255 : Int32))), .val (.int (p2 &&& (255 : Int32))), .val (.int (p3 &&& (255 : Int32))), .val (.int (us &&& (255 : Int32))), .val (.int nv), .val (.int kv), .val (.ref b83), .val (.ref b129), .val (.int (1 : Int32)), .val (.int (1 : Int32)), .unset] [(.int ((1 : Int32) + (1 : Int32)))])
          refine hst (fun t₀ k₀ => XS.iload X145.here hx rfl (hb hby at_186) rfl k₀) ?_
          show F T145 (mkF m 188 #[.val (.int p1), .val (.int p2), .val (.int p3), .val (.int p4), .val (.int p5), .val (.int p6), .val (.int (p1 &&& (255 : Int32))), .val (.int (p2 &&& (255 : Int32))), .val (.int (p3 &&& (255 : Int32))), .val (.int (us &&& (255 : Int32))), .val (.int nv), .val (.int kv), .val (.ref b83), .val (.ref b129), .val (.int (1 : Int32)), .val (.int (1 : Int32)), .unset] [(.int (1 : Int32)), (.int ((1 : Int32) + (1 : Int32)))])
          refine hst (fun t₀ k₀ => XS.ifNo X145.here hx rfl (hb hby at_188) rfl ((if0 _ _).trans (feq (by decide)).1) k₀) ?_
          show F T145 (mkF m 191 #[.val (.int p1), .val (.int p2), .val (.int p3), .val (.int p4), .val (.int p5), .val (.int p6), .val (.int (p1 &&& (255 : Int32))), .val (.int (p2 &&& (255 : Int32))), .val (.int (p3 &&& (255 : Int32))), .val (.int (us &&& (255 : Int32))), .val (.int nv), .val (.int kv), .val (.ref b83), .val (.ref b129), .val (.int (1 : Int32)), .val (.int (1 : Int32)), .unset] [(.int ((1 : Int32) + (1 : Int32)))])
          refine hst (fun t₀ k₀ => XS.iconst X145.here hx rfl (hb hby at_191) k₀) ?_
          show F T145 (mkF m 192 #[.val (.int p1), .val (.int p2), .val (.int p3), .val (.int p4), .val (.int p5), .val (.int p6), .val (.int (p1 &&& (255 : Int32))), .val (.int (p2 &&& (255 : Int32))), .val (.int (p3 &&& (255 : Int32))), .val (.int (us &&& (255 : Int32))), .val (.int nv), .val (.int kv), .val (.ref b83), .val (.ref b129), .val (.int (1 : Int32)), .val (.int (1 : Int32)), .unset] [(.int (2 : Int32)), (.int ((1 : Int32) + (1 : Int32)))])
          refine hst (fun t₀ k₀ => XS.goto X145.here hx rfl (pc0 := 192) (pc' := 196) rfl (hb hby at_192) (by decide) (by decide) k₀) ?_
          show F T145 (mkF m 196 #[.val (.int p1), .val (.int p2), .val (.int p3), .val (.int p4), .val (.int p5), .val (.int p6), .val (.int (p1 &&& (255 : Int32))), .val (.int (p2 &&& (255 : Int32))), .val (.int (p3 &&& (255 : Int32))), .val (.int (us &&& (255 : Int32))), .val (.int nv), .val (.int kv), .val (.ref b83), .val (.ref b129), .val (.int (1 : Int32)), .val (.int (1 : Int32)), .unset] [(.int (2 : Int32)), (.int ((1 : Int32) + (1 : Int32)))])
          refine hst (fun t₀ k₀ => XS.iadd X145.here hx rfl (hb hby at_196) rfl k₀) ?_
          show F T145 (mkF m 197 #[.val (.int p1), .val (.int p2), .val (.int p3), .val (.int p4), .val (.int p5), .val (.int p6), .val (.int (p1 &&& (255 : Int32))), .val (.int (p2 &&& (255 : Int32))), .val (.int (p3 &&& (255 : Int32))), .val (.int (us &&& (255 : Int32))), .val (.int nv), .val (.int kv), .val (.ref b83), .val (.ref b129), .val (.int (1 : Int32)), .val (.int (1 : Int32)), .unset] [(.int (((1 : Int32) + (1 : Int32)) + (2 : Int32)))])
          refine hst (fun t₀ k₀ => XS.istore X145.here hx rfl (hb hby at_197) rfl (l' := #[.val (.int p1), .val (.int p2), .val (.int p3), .val (.int p4), .val (.int p5), .val (.int p6), .val (.int (p1 &&& (255 : Int32))), .val (.int (p2 &&& (255 : Int32))), .val (.int (p3 &&& (255 : Int32))), .val (.int (us &&& (255 : Int32))), .val (.int nv), .val (.int kv), .val (.ref b83), .val (.ref b129), .val (.int (1 : Int32)), .val (.int (1 : Int32)), .val (.int (((1 : Int32) + (1 : Int32)) + (2 : Int32)))]) rfl k₀) ?_
          show F T145 (mkF m 199 #[.val (.int p1), .val (.int p2), .val (.int p3), .val (.int p4), .val (.int p5), .val (.int p6), .val (.int (p1 &&& (255 : Int32))), .val (.int (p2 &&& (255 : Int32))), .val (.int (p3 &&& (255 : Int32))), .val (.int (us &&& (255 : Int32))), .val (.int nv), .val (.int kv), .val (.ref b83), .val (.ref b129), .val (.int (1 : Int32)), .val (.int (1 : Int32)), .val (.int (((1 : Int32) + (1 : Int32)) + (2 : Int32)))] [])
          refine hst (fun t₀ k₀ => XS.aload X145.here hx rfl (hb hby at_199) rfl rfl k₀) ?_
          show F T145 (mkF m 201 #[.val (.int p1), .val (.int p2), .val (.int p3), .val (.int p4), .val (.int p5), .val (.int p6), .val (.int (p1 &&& (255 : Int32))), .val (.int (p2 &&& (255 : Int32))), .val (.int (p3 &&& (255 : Int32))), .val (.int (us &&& (255 : Int32))), .val (.int nv), .val (.int kv), .val (.ref b83), .val (.ref b129), .val (.int (1 : Int32)), .val (.int (1 : Int32)), .val (.int (((1 : Int32) + (1 : Int32)) + (2 : Int32)))] [(.ref b129)])
          obtain ⟨v201, T201, Lc201, X201, hQ201, st201⟩ := own_callV X145 hx hZ hown (y := (⟨"com/example/seamark/seamark/transport/CommandApdu", "isoCase", "()I"⟩ : MethodName)) (hw _ (List.mem_of_getElem? (i := 44) rfl)) (hw _ (List.mem_of_getElem? (i := 45) rfl)) (hw _ (List.mem_of_getElem? (i := 47) rfl)) (hw _ (List.mem_of_getElem? (i := 46) rfl)) (hw _ (List.mem_of_getElem? (i := 3) rfl)) (hw _ (List.mem_of_getElem? (i := 48) rfl)) (by decide) rfl q1_145 (rm4 l Z a0 hw [] b129 bd145 1 (fun i => if i = 0 then nar .byte y0 else (0 : Int32)) nv T145.heap n0 Z0_p145 q7_145 q8_145 q6_145 (by decide)) (by decide) (by decide) (g := (mkF m 201 #[.val (.int p1), .val (.int p2), .val (.int p3), .val (.int p4), .val (.int p5), .val (.int p6), .val (.int (p1 &&& (255 : Int32))), .val (.int (p2 &&& (255 : Int32))), .val (.int (p3 &&& (255 : Int32))), .val (.int (us &&& (255 : Int32))), .val (.int nv), .val (.int kv), .val (.ref b83), .val (.ref b129), .val (.int (1 : Int32)), .val (.int (1 : Int32)), .val (.int (((1 : Int32) + (1 : Int32)) + (2 : Int32)))] [(.ref b129)])) rfl (by rw [hml]; rfl) (argsL := []) (rest := []) (lenOf pd_0 rfl) rfl rfl (W := 0) (by show 2 * 0 + _ ≤ _; exact Nat.le_of_eq rfl) (hb hby at_201) (by decide) (by decide)
          obtain ⟨rfl, Nq201, he201⟩ := hQ201
          have N201 := Fr.app N145 Nq201
          refine hst st201 ?_
          show F T201 (mkF m 204 #[.val (.int p1), .val (.int p2), .val (.int p3), .val (.int p4), .val (.int p5), .val (.int p6), .val (.int (p1 &&& (255 : Int32))), .val (.int (p2 &&& (255 : Int32))), .val (.int (p3 &&& (255 : Int32))), .val (.int (us &&& (255 : Int32))), .val (.int nv), .val (.int kv), .val (.ref b83), .val (.ref b129), .val (.int (1 : Int32)), .val (.int (1 : Int32)), .val (.int (((1 : Int32) + (1 : Int32)) + (2 : Int32)))] [(.int (own_iso 1 nv))])
          refine hst (fun t₀ k₀ => XS.iload X201.here hx rfl (hb hby at_204) rfl k₀) ?_
          show F T201 (mkF m 206 #[.val (.int p1), .val (.int p2), .val (.int p3), .val (.int p4), .val (.int p5), .val (.int p6), .val (.int (p1 &&& (255 : Int32))), .val (.int (p2 &&& (255 : Int32))), .val (.int (p3 &&& (255 : Int32))), .val (.int (us &&& (255 : Int32))), .val (.int nv), .val (.int kv), .val (.ref b83), .val (.ref b129), .val (.int (1 : Int32)), .val (.int (1 : Int32)), .val (.int (((1 : Int32) + (1 : Int32)) + (2 : Int32)))] [(.int (((1 : Int32) + (1 : Int32)) + (2 : Int32))), (.int (own_iso 1 nv))])
          refine hst (fun t₀ k₀ => XS.icmpNo X201.here hx rfl (hb hby at_206) rfl (teq (by unfold own_iso; rw [if_neg (by decide), if_neg hc164]; decide)).2 k₀) ?_
          show F T201 (mkF m 209 #[.val (.int p1), .val (.int p2), .val (.int p3), .val (.int p4), .val (.int p5), .val (.int p6), .val (.int (p1 &&& (255 : Int32))), .val (.int (p2 &&& (255 : Int32))), .val (.int (p3 &&& (255 : Int32))), .val (.int (us &&& (255 : Int32))), .val (.int nv), .val (.int kv), .val (.ref b83), .val (.ref b129), .val (.int (1 : Int32)), .val (.int (1 : Int32)), .val (.int (((1 : Int32) + (1 : Int32)) + (2 : Int32)))] [])
          refine hst (fun t₀ k₀ => XS.iconst X201.here hx rfl (hb hby at_209) k₀) ?_
          show F T201 (mkF m 210 #[.val (.int p1), .val (.int p2), .val (.int p3), .val (.int p4), .val (.int p5), .val (.int p6), .val (.int (p1 &&& (255 : Int32))), .val (.int (p2 &&& (255 : Int32))), .val (.int (p3 &&& (255 : Int32))), .val (.int (us &&& (255 : Int32))), .val (.int nv), .val (.int kv), .val (.ref b83), .val (.ref b129), .val (.int (1 : Int32)), .val (.int (1 : Int32)), .val (.int (((1 : Int32) + (1 : Int32)) + (2 : Int32)))] [(.int (1 : Int32))])
          refine hst (fun t₀ k₀ => XS.goto X201.here hx rfl (pc0 := 210) (pc' := 214) rfl (hb hby at_210) (by decide) (by decide) k₀) ?_
          show F T201 (mkF m 214 #[.val (.int p1), .val (.int p2), .val (.int p3), .val (.int p4), .val (.int p5), .val (.int p6), .val (.int (p1 &&& (255 : Int32))), .val (.int (p2 &&& (255 : Int32))), .val (.int (p3 &&& (255 : Int32))), .val (.int (us &&& (255 : Int32))), .val (.int nv), .val (.int kv), .val (.ref b83), .val (.ref b129), .val (.int (1 : Int32)), .val (.int (1 : Int32)), .val (.int (((1 : Int32) + (1 : Int32)) + (2 : Int32)))] [(.int (1 : Int32))])
          rw [hF]
          refine own_retNW X201 hS145 (by rw [he201]; exact (Nat.le_refl _)) hx hret (by simp) hlk (hb hby at_214) (by decide) (by decide) ?_
          rw [he201]
          exact ⟨rfl, N201⟩
      · -- pc 79: taken
        refine hst (fun t₀ k₀ => XS.icmpYes XI.here hx rfl (pc0 := 79) (pc' := 95) rfl (hb hby at_79) rfl (feq hc79).2 (by decide) (by decide) k₀) ?_
        show F s₁ (mkF m 95 #[.val (.int p1), .val (.int p2), .val (.int p3), .val (.int p4), .val (.int p5), .val (.int p6), .val (.int (p1 &&& (255 : Int32))), .val (.int (p2 &&& (255 : Int32))), .val (.int (p3 &&& (255 : Int32))), .val (.int (us &&& (255 : Int32))), .val (.int nv), .val (.int kv), .unset, .unset, .unset, .unset, .unset] [])
        refine hst (fun t₀ k₀ => XS.iload XI.here hx rfl (hb hby at_95) rfl k₀) ?_
        show F s₁ (mkF m 97 #[.val (.int p1), .val (.int p2), .val (.int p3), .val (.int p4), .val (.int p5), .val (.int p6), .val (.int (p1 &&& (255 : Int32))), .val (.int (p2 &&& (255 : Int32))), .val (.int (p3 &&& (255 : Int32))), .val (.int (us &&& (255 : Int32))), .val (.int nv), .val (.int kv), .unset, .unset, .unset, .unset, .unset] [(.int kv)])
        refine hst (fun t₀ k₀ => XS.iconst XI.here hx rfl (hb hby at_97) k₀) ?_
        show F s₁ (mkF m 98 #[.val (.int p1), .val (.int p2), .val (.int p3), .val (.int p4), .val (.int p5), .val (.int p6), .val (.int (p1 &&& (255 : Int32))), .val (.int (p2 &&& (255 : Int32))), .val (.int (p3 &&& (255 : Int32))), .val (.int (us &&& (255 : Int32))), .val (.int nv), .val (.int kv), .unset, .unset, .unset, .unset, .unset] [(.int (2 : Int32)), (.int kv)])
        by_cases hc98 : kv = (2 : Int32)
        · -- pc 98: not taken
          refine hst (fun t₀ k₀ => XS.icmpNo XI.here hx rfl (hb hby at_98) rfl (teq hc98).2 k₀) ?_
          show F s₁ (mkF m 101 #[.val (.int p1), .val (.int p2), .val (.int p3), .val (.int p4), .val (.int p5), .val (.int p6), .val (.int (p1 &&& (255 : Int32))), .val (.int (p2 &&& (255 : Int32))), .val (.int (p3 &&& (255 : Int32))), .val (.int (us &&& (255 : Int32))), .val (.int nv), .val (.int kv), .unset, .unset, .unset, .unset, .unset] [])
          refine hst (fun t₀ k₀ => XS.iconst XI.here hx rfl (hb hby at_101) k₀) ?_
          show F s₁ (mkF m 102 #[.val (.int p1), .val (.int p2), .val (.int p3), .val (.int p4), .val (.int p5), .val (.int p6), .val (.int (p1 &&& (255 : Int32))), .val (.int (p2 &&& (255 : Int32))), .val (.int (p3 &&& (255 : Int32))), .val (.int (us &&& (255 : Int32))), .val (.int nv), .val (.int kv), .unset, .unset, .unset, .unset, .unset] [(.int (2 : Int32))])
          obtain ⟨T102, h102, b102, X102, e102, g102, E102, A102, Ex102, st102⟩ := own_newarrE XI hx hZ (hw _ (List.mem_of_getElem? (i := 0) rfl)) eI (g := (mkF m 102 #[.val (.int p1), .val (.int p2), .val (.int p3), .val (.int p4), .val (.int p5), .val (.int p6), .val (.int (p1 &&& (255 : Int32))), .val (.int (p2 &&& (255 : Int32))), .val (.int (p3 &&& (255 : Int32))), .val (.int (us &&& (255 : Int32))), .val (.int nv), .val (.int kv), .unset, .unset, .unset, .unset, .unset] [(.int (2 : Int32))])) rfl (hb hby at_102) rfl (by decide) (cap := 2) (by decide) (by decide) (by decide) (by decide)
          have ge_b102 : n0 ≤ b102 := Nat.le_trans Z0 (Nat.le_of_eq g102.symm)
          have Z0_p102 : n0 ≤ h102.size := (Nat.le_trans Z0 E102.1)
          have hk_p102 := Nat.le_trans (Nat.zero_le _) E102.1
          have A_b102 : own_A Z h102 b102 .byte 2 (fun _ => (.int (0 : Int32))) := A102
          refine hst st102 ?_
          show F T102 (mkF m 104 #[.val (.int p1), .val (.int p2), .val (.int p3), .val (.int p4), .val (.int p5), .val (.int p6), .val (.int (p1 &&& (255 : Int32))), .val (.int (p2 &&& (255 : Int32))), .val (.int (p3 &&& (255 : Int32))), .val (.int (us &&& (255 : Int32))), .val (.int nv), .val (.int kv), .unset, .unset, .unset, .unset, .unset] [(.ref b102)])
          refine hst (fun t₀ k₀ => XS.dup X102.here hx rfl (hb hby at_104) rfl rfl k₀) ?_
          show F T102 (mkF m 105 #[.val (.int p1), .val (.int p2), .val (.int p3), .val (.int p4), .val (.int p5), .val (.int p6), .val (.int (p1 &&& (255 : Int32))), .val (.int (p2 &&& (255 : Int32))), .val (.int (p3 &&& (255 : Int32))), .val (.int (us &&& (255 : Int32))), .val (.int nv), .val (.int kv), .unset, .unset, .unset, .unset, .unset] [(.ref b102), (.ref b102)])
          refine hst (fun t₀ k₀ => XS.iconst X102.here hx rfl (hb hby at_105) k₀) ?_
          show F T102 (mkF m 106 #[.val (.int p1), .val (.int p2), .val (.int p3), .val (.int p4), .val (.int p5), .val (.int p6), .val (.int (p1 &&& (255 : Int32))), .val (.int (p2 &&& (255 : Int32))), .val (.int (p3 &&& (255 : Int32))), .val (.int (us &&& (255 : Int32))), .val (.int nv), .val (.int kv), .unset, .unset, .unset, .unset, .unset] [(.int (0 : Int32)), (.ref b102), (.ref b102)])
          refine hst (fun t₀ k₀ => XS.iloadN X102.here hx rfl (hb hby at_106) rfl k₀) ?_
          show F T102 (mkF m 107 #[.val (.int p1), .val (.int p2), .val (.int p3), .val (.int p4), .val (.int p5), .val (.int p6), .val (.int (p1 &&& (255 : Int32))), .val (.int (p2 &&& (255 : Int32))), .val (.int (p3 &&& (255 : Int32))), .val (.int (us &&& (255 : Int32))), .val (.int nv), .val (.int kv), .unset, .unset, .unset, .unset, .unset] [(.int p4), (.int (0 : Int32)), (.ref b102), (.ref b102)])
          refine hst (fun t₀ k₀ => XS.i2b X102.here hx rfl (hb hby at_107) rfl k₀) ?_
          show F T102 (mkF m 108 #[.val (.int p1), .val (.int p2), .val (.int p3), .val (.int p4), .val (.int p5), .val (.int p6), .val (.int (p1 &&& (255 : Int32))), .val (.int (p2 &&& (255 : Int32))), .val (.int (p3 &&& (255 : Int32))), .val (.int (us &&& (255 : Int32))), .val (.int nv), .val (.int kv), .unset, .unset, .unset, .unset, .unset] [(.int (p4.toInt8.toInt32)), (.int (0 : Int32)), (.ref b102), (.ref b102)])
          generalize hy0 : (p4.toInt8.toInt32) = y0
          show F T102 (mkF m 108 #[.val (.int p1), .val (.int p2), .val (.int p3), .val (.int p4), .val (.int p5), .val (.int p6), .val (.int (p1 &&& (255 : Int32))), .val (.int (p2 &&& (255 : Int32))), .val (.int (p3 &&& (255 : Int32))), .val (.int (us &&& (255 : Int32))), .val (.int nv), .val (.int kv), .unset, .unset, .unset, .unset, .unset] [(.int y0), (.int (0 : Int32)), (.ref b102), (.ref b102)])
          obtain ⟨T108, h108, X108, e108, W108, st108⟩ := own_bastore X102 hx hZ e102 A_b102 (by decide) (g := (mkF m 108 #[.val (.int p1), .val (.int p2), .val (.int p3), .val (.int p4), .val (.int p5), .val (.int p6), .val (.int (p1 &&& (255 : Int32))), .val (.int (p2 &&& (255 : Int32))), .val (.int (p3 &&& (255 : Int32))), .val (.int (us &&& (255 : Int32))), .val (.int nv), .val (.int kv), .unset, .unset, .unset, .unset, .unset] [(.int y0), (.int (0 : Int32)), (.ref b102), (.ref b102)])) rfl rfl (hb hby at_108)
          have N108 := Fr.snoc X108 NI ge_b102
          have A_b102_p108 : own_A Z h108 b102 .byte 2 (fun i => if i = Int32.toNatClampNeg (0 : Int32) then (.int (nar .byte y0)) else (fun _ => (.int (0 : Int32))) i) := A_b102.set W108
          have Ex102_p108 : Exa Z h108 b102 "[B" := Ex102.wr W108
          have Z0_p108 : n0 ≤ h108.size := Nat.le_trans Z0_p102 (Keep.of_wr W108).1
          have hk_p108 := Nat.le_trans hk_p102 (Keep.of_wr W108).1
          refine hst st108 ?_
          have A_b102_p108c : own_A Z h108 b102 .byte 2 (fun i => .int (if i = 0 then nar .byte y0 else (0 : Int32))) := own_A.congr A_b102_p108 (fun i hi => by rw [show Int32.toNatClampNeg (0 : Int32) = 0 from rfl]; dsimp only; split <;> rfl)
          show F T108 (mkF m 109 #[.val (.int p1), .val (.int p2), .val (.int p3), .val (.int p4), .val (.int p5), .val (.int p6), .val (.int (p1 &&& (255 : Int32))), .val (.int (p2 &&& (255 : Int32))), .val (.int (p3 &&& (255 : Int32))), .val (.int (us &&& (255 : Int32))), .val (.int nv), .val (.int kv), .unset, .unset, .unset, .unset, .unset] [(.ref b102)])
          refine hst (fun t₀ k₀ => XS.dup X108.here hx rfl (hb hby at_109) rfl rfl k₀) ?_
          show F T108 (mkF m 110 #[.val (.int p1), .val (.int p2), .val (.int p3), .val (.int p4), .val (.int p5), .val (.int p6), .val (.int (p1 &&& (255 : Int32))), .val (.int (p2 &&& (255 : Int32))), .val (.int (p3 &&& (255 : Int32))), .val (.int (us &&& (255 : Int32))), .val (.int nv), .val (.int kv), .unset, .unset, .unset, .unset, .unset] [(.ref b102), (.ref b102)])
          refine hst (fun t₀ k₀ => XS.iconst X108.here hx rfl (hb hby at_110) k₀) ?_
          show F T108 (mkF m 111 #[.val (.int p1), .val (.int p2), .val (.int p3), .val (.int p4), .val (.int p5), .val (.int p6), .val (.int (p1 &&& (255 : Int32))), .val (.int (p2 &&& (255 : Int32))), .val (.int (p3 &&& (255 : Int32))), .val (.int (us &&& (255 : Int32))), .val (.int nv), .val (.int kv), .unset, .unset, .unset, .unset, .unset] [(.int (1 : Int32)), (.ref b102), (.ref b102)])
          refine hst (fun t₀ k₀ => XS.iloadN X108.here hx rfl (hb hby at_111) rfl k₀) ?_
          show F T108 (mkF m 112 #[.val (.int p1), .val (.int p2), .val (.int p3), .val (.int p4), .val (.int p5), .val (.int p6), .val (.int (p1 &&& (255 : Int32))), .val (.int (p2 &&& (255 : Int32))), .val (.int (p3 &&& (255 : Int32))), .val (.int (us &&& (255 : Int32))), .val (.int nv), .val (.int kv), .unset, .unset, .unset, .unset, .unset] [(.int p4), (.int (1 : Int32)), (.ref b102), (.ref b102)])
          refine hst (fun t₀ k₀ => XS.bipush X108.here hx rfl (hb hby at_112) k₀) ?_
          show F T108 (mkF m 114 #[.val (.int p1), .val (.int p2), .val (.int p3), .val (.int p4), .val (.int p5), .val (.int p6), .val (.int (p1 &&& (255 : Int32))), .val (.int (p2 &&& (255 : Int32))), .val (.int (p3 &&& (255 : Int32))), .val (.int (us &&& (255 : Int32))), .val (.int nv), .val (.int kv), .unset, .unset, .unset, .unset, .unset] [(.int (8 : Int32)), (.int p4), (.int (1 : Int32)), (.ref b102), (.ref b102)])
          refine hst (fun t₀ k₀ => XS.iushr X108.here hx rfl (hb hby at_114) rfl k₀) ?_
          show F T108 (mkF m 115 #[.val (.int p1), .val (.int p2), .val (.int p3), .val (.int p4), .val (.int p5), .val (.int p6), .val (.int (p1 &&& (255 : Int32))), .val (.int (p2 &&& (255 : Int32))), .val (.int (p3 &&& (255 : Int32))), .val (.int (us &&& (255 : Int32))), .val (.int nv), .val (.int kv), .unset, .unset, .unset, .unset, .unset] [(.int ((p4.toUInt32 >>> ((8 : Int32) &&& 31).toUInt32).toInt32)), (.int (1 : Int32)), (.ref b102), (.ref b102)])
          refine hst (fun t₀ k₀ => XS.i2b X108.here hx rfl (hb hby at_115) rfl k₀) ?_
          show F T108 (mkF m 116 #[.val (.int p1), .val (.int p2), .val (.int p3), .val (.int p4), .val (.int p5), .val (.int p6), .val (.int (p1 &&& (255 : Int32))), .val (.int (p2 &&& (255 : Int32))), .val (.int (p3 &&& (255 : Int32))), .val (.int (us &&& (255 : Int32))), .val (.int nv), .val (.int kv), .unset, .unset, .unset, .unset, .unset] [(.int (((p4.toUInt32 >>> ((8 : Int32) &&& 31).toUInt32).toInt32).toInt8.toInt32)), (.int (1 : Int32)), (.ref b102), (.ref b102)])
          generalize hy1 : (((p4.toUInt32 >>> ((8 : Int32) &&& 31).toUInt32).toInt32).toInt8.toInt32) = y1
          show F T108 (mkF m 116 #[.val (.int p1), .val (.int p2), .val (.int p3), .val (.int p4), .val (.int p5), .val (.int p6), .val (.int (p1 &&& (255 : Int32))), .val (.int (p2 &&& (255 : Int32))), .val (.int (p3 &&& (255 : Int32))), .val (.int (us &&& (255 : Int32))), .val (.int nv), .val (.int kv), .unset, .unset, .unset, .unset, .unset] [(.int y1), (.int (1 : Int32)), (.ref b102), (.ref b102)])
          obtain ⟨T116, h116, X116, e116, W116, st116⟩ := own_bastore X108 hx hZ e108 A_b102_p108c (by decide) (g := (mkF m 116 #[.val (.int p1), .val (.int p2), .val (.int p3), .val (.int p4), .val (.int p5), .val (.int p6), .val (.int (p1 &&& (255 : Int32))), .val (.int (p2 &&& (255 : Int32))), .val (.int (p3 &&& (255 : Int32))), .val (.int (us &&& (255 : Int32))), .val (.int nv), .val (.int kv), .unset, .unset, .unset, .unset, .unset] [(.int y1), (.int (1 : Int32)), (.ref b102), (.ref b102)])) rfl rfl (hb hby at_116)
          have N116 := Fr.snoc X116 N108 ge_b102
          have A_b102_p116 : own_A Z h116 b102 .byte 2 (fun i => if i = Int32.toNatClampNeg (1 : Int32) then (.int (nar .byte y1)) else (fun i => .int (if i = 0 then nar .byte y0 else (0 : Int32))) i) := A_b102_p108c.set W116
          have Ex102_p116 : Exa Z h116 b102 "[B" := Ex102_p108.wr W116
          have Z0_p116 : n0 ≤ h116.size := Nat.le_trans Z0_p108 (Keep.of_wr W116).1
          have hk_p116 := Nat.le_trans hk_p108 (Keep.of_wr W116).1
          refine hst st116 ?_
          have A_b102_p116c : own_A Z h116 b102 .byte 2 (fun i => .int (if i = 1 then nar .byte y1 else (if i = 0 then nar .byte y0 else (0 : Int32)))) := own_A.congr A_b102_p116 (fun i hi => by rw [show Int32.toNatClampNeg (1 : Int32) = 1 from rfl]; dsimp only; split <;> rfl)
          show F T116 (mkF m 117 #[.val (.int p1), .val (.int p2), .val (.int p3), .val (.int p4), .val (.int p5), .val (.int p6), .val (.int (p1 &&& (255 : Int32))), .val (.int (p2 &&& (255 : Int32))), .val (.int (p3 &&& (255 : Int32))), .val (.int (us &&& (255 : Int32))), .val (.int nv), .val (.int kv), .unset, .unset, .unset, .unset, .unset] [(.ref b102)])
          refine hst (fun t₀ k₀ => XS.astore X116.here hx rfl (hb hby at_117) rfl rfl (l' := #[.val (.int p1), .val (.int p2), .val (.int p3), .val (.int p4), .val (.int p5), .val (.int p6), .val (.int (p1 &&& (255 : Int32))), .val (.int (p2 &&& (255 : Int32))), .val (.int (p3 &&& (255 : Int32))), .val (.int (us &&& (255 : Int32))), .val (.int nv), .val (.int kv), .val (.ref b102), .unset, .unset, .unset, .unset]) rfl k₀) ?_
          show F T116 (mkF m 119 #[.val (.int p1), .val (.int p2), .val (.int p3), .val (.int p4), .val (.int p5), .val (.int p6), .val (.int (p1 &&& (255 : Int32))), .val (.int (p2 &&& (255 : Int32))), .val (.int (p3 &&& (255 : Int32))), .val (.int (us &&& (255 : Int32))), .val (.int nv), .val (.int kv), .val (.ref b102), .unset, .unset, .unset, .unset] [])
          refine hst (fun t₀ k₀ => XS.goto X116.here hx rfl (pc0 := 119) (pc' := 129) rfl (hb hby at_119) (by decide) (by decide) k₀) ?_
          show F T116 (mkF m 129 #[.val (.int p1), .val (.int p2), .val (.int p3), .val (.int p4), .val (.int p5), .val (.int p6), .val (.int (p1 &&& (255 : Int32))), .val (.int (p2 &&& (255 : Int32))), .val (.int (p3 &&& (255 : Int32))), .val (.int (us &&& (255 : Int32))), .val (.int nv), .val (.int kv), .val (.ref b102), .unset, .unset, .unset, .unset] [])
          obtain ⟨T129, h129, b129, X129, e129, g129, E129, A129, D129, st129⟩ := own_new X116 hx hZ hown (hw _ (List.mem_of_getElem? (i := 1) rfl)) (hw _ (List.mem_of_getElem? (i := 2) rfl)) (hw _ (List.mem_of_getElem? (i := 3) rfl)) e116 (g := (mkF m 129 #[.val (.int p1), .val (.int p2), .val (.int p3), .val (.int p4), .val (.int p5), .val (.int p6), .val (.int (p1 &&& (255 : Int32))), .val (.int (p2 &&& (255 : Int32))), .val (.int (p3 &&& (255 : Int32))), .val (.int (us &&& (255 : Int32))), .val (.int nv), .val (.int kv), .val (.ref b102), .unset, .unset, .unset, .unset] [])) rfl (hb hby at_129) (by decide) (by decide)
          have ne_b102_b129 : b102 ≠ b129 := Nat.ne_of_lt (Nat.lt_of_lt_of_le A_b102_p116c.lt (Nat.le_of_eq g129.symm))
          have ge_b129 : n0 ≤ b129 := Nat.le_trans Z0_p116 (Nat.le_of_eq g129.symm)
          have A_b102_p129 : own_A Z h129 b102 .byte 2 (fun i => .int (if i = 1 then nar .byte y1 else (if i = 0 then nar .byte y0 else (0 : Int32)))) := A_b102_p116c.ext E129
          have Ex102_p129 : Exa Z h129 b102 "[B" := Ex102_p116.ext E129
          have Z0_p129 : n0 ≤ h129.size := (Nat.le_trans Z0_p116 E129.1)
          have hk_p129 := Nat.le_trans hk_p116 E129.1
          have F_cla_b129 : Fld Z h129 b129 "com/example/seamark/seamark/transport/CommandApdu" "cla" "I" (.int (0 : Int32)) := D129 (Or.inr (hw _ (List.mem_of_getElem? (i := 21) rfl))) (ty := .int) (by decide)
          have F_ins_b129 : Fld Z h129 b129 "com/example/seamark/seamark/transport/CommandApdu" "ins" "I" (.int (0 : Int32)) := D129 (Or.inr (hw _ (List.mem_of_getElem? (i := 24) rfl))) (ty := .int) (by decide)
          have F_p1_b129 : Fld Z h129 b129 "com/example/seamark/seamark/transport/CommandApdu" "p1" "I" (.int (0 : Int32)) := D129 (Or.inr (hw _ (List.mem_of_getElem? (i := 27) rfl))) (ty := .int) (by decide)
          have F_p2_b129 : Fld Z h129 b129 "com/example/seamark/seamark/transport/CommandApdu" "p2" "I" (.int (0 : Int32)) := D129 (Or.inr (hw _ (List.mem_of_getElem? (i := 30) rfl))) (ty := .int) (by decide)
          have F_data_b129 : Fld Z h129 b129 "com/example/seamark/seamark/transport/CommandApdu" "data" "[B" .null := D129 (Or.inr (hw _ (List.mem_of_getElem? (i := 41) rfl))) (ty := (.array .byte)) (by decide)
          have F_ne_b129 : Fld Z h129 b129 "com/example/seamark/seamark/transport/CommandApdu" "ne" "I" (.int (0 : Int32)) := D129 (Or.inr (hw _ (List.mem_of_getElem? (i := 43) rfl))) (ty := .int) (by decide)
          refine hst st129 ?_
          show F T129 (mkF m 132 #[.val (.int p1), .val (.int p2), .val (.int p3), .val (.int p4), .val (.int p5), .val (.int p6), .val (.int (p1 &&& (255 : Int32))), .val (.int (p2 &&& (255 : Int32))), .val (.int (p3 &&& (255 : Int32))), .val (.int (us &&& (255 : Int32))), .val (.int nv), .val (.int kv), .val (.ref b102), .unset, .unset, .unset, .unset] [(.ref b129)])
          refine hst (fun t₀ k₀ => XS.dup X129.here hx rfl (hb hby at_132) rfl rfl k₀) ?_
          show F T129 (mkF m 133 #[.val (.int p1), .val (.int p2), .val (.int p3), .val (.int p4), .val (.int p5), .val (.int p6), .val (.int (p1 &&& (255 : Int32))), .val (.int (p2 &&& (255 : Int32))), .val (.int (p3 &&& (255 : Int32))), .val (.int (us &&& (255 : Int32))), .val (.int nv), .val (.int kv), .val (.ref b102), .unset, .unset, .unset, .unset] [(.ref b129), (.ref b129)])
          refine hst (fun t₀ k₀ => XS.iload X129.here hx rfl (hb hby at_133) rfl k₀) ?_
          show F T129 (mkF m 135 #[.val (.int p1), .val (.int p2), .val (.int p3), .val (.int p4), .val (.int p5), .val (.int p6), .val (.int (p1 &&& (255 : Int32))), .val (.int (p2 &&& (255 : Int32))), .val (.int (p3 &&& (255 : Int32))), .val (.int (us &&& (255 : Int32))), .val (.int nv), .val (.int kv), .val (.ref b102), .unset, .unset, .unset, .unset] [(.int (p1 &&& (255 : Int32))), (.ref b129), (.ref b129)])
          refine hst (fun t₀ k₀ => XS.iload X129.here hx rfl (hb hby at_135) rfl k₀) ?_
          show F T129 (mkF m 137 #[.val (.int p1), .val (.int p2), .val (.int p3), .val (.int p4), .val (.int p5), .val (.int p6), .val (.int (p1 &&& (255 : Int32))), .val (.int (p2 &&& (255 : Int32))), .val (.int (p3 &&& (255 : Int32))), .val (.int (us &&& (255 : Int32))), .val (.int nv), .val (.int kv), .val (.ref b102), .unset, .unset, .unset, .unset] [(.int (p2 &&& (255 : Int32))), (.int (p1 &&& (255 : Int32))), (.ref b129), (.ref b129)])
          refine hst (fun t₀ k₀ => XS.iload X129.here hx rfl (hb hby at_137) rfl k₀) ?_
          show F T129 (mkF m 139 #[.val (.int p1), .val (.int p2), .val (.int p3), .val (.int p4), .val (.int p5), .val (.int p6), .val (.int (p1 &&& (255 : Int32))), .val (.int (p2 &&& (255 : Int32))), .val (.int (p3 &&& (255 : Int32))), .val (.int (us &&& (255 : Int32))), .val (.int nv), .val (.int kv), .val (.ref b102), .unset, .unset, .unset, .unset] [(.int (p3 &&& (255 : Int32))), (.int (p2 &&& (255 : Int32))), (.int (p1 &&& (255 : Int32))), (.ref b129), (.ref b129)])
          refine hst (fun t₀ k₀ => XS.iload X129.here hx rfl (hb hby at_139) rfl k₀) ?_
          show F T129 (mkF m 141 #[.val (.int p1), .val (.int p2), .val (.int p3), .val (.int p4), .val (.int p5), .val (.int p6), .val (.int (p1 &&& (255 : Int32))), .val (.int (p2 &&& (255 : Int32))), .val (.int (p3 &&& (255 : Int32))), .val (.int (us &&& (255 : Int32))), .val (.int nv), .val (.int kv), .val (.ref b102), .unset, .unset, .unset, .unset] [(.int (us &&& (255 : Int32))), (.int (p3 &&& (255 : Int32))), (.int (p2 &&& (255 : Int32))), (.int (p1 &&& (255 : Int32))), (.ref b129), (.ref b129)])
          refine hst (fun t₀ k₀ => XS.aload X129.here hx rfl (hb hby at_141) rfl rfl k₀) ?_
          show F T129 (mkF m 143 #[.val (.int p1), .val (.int p2), .val (.int p3), .val (.int p4), .val (.int p5), .val (.int p6), .val (.int (p1 &&& (255 : Int32))), .val (.int (p2 &&& (255 : Int32))), .val (.int (p3 &&& (255 : Int32))), .val (.int (us &&& (255 : Int32))), .val (.int nv), .val (.int kv), .val (.ref b102), .unset, .unset, .unset, .unset] [(.ref b102), (.int (us &&& (255 : Int32))), (.int (p3 &&& (255 : Int32))), (.int (p2 &&& (255 : Int32))), (.int (p1 &&& (255 : Int32))), (.ref b129), (.ref b129)])
          refine hst (fun t₀ k₀ => XS.iload X129.here hx rfl (hb hby at_143) rfl k₀) ?_
          show F T129 (mkF m 145 #[.val (.int p1), .val (.int p2), .val (.int p3), .val (.int p4), .val (.int p5), .val (.int p6), .val (.int (p1 &&& (255 : Int32))), .val (.int (p2 &&& (255 : Int32))), .val (.int (p3 &&& (255 : Int32))), .val (.int (us &&& (255 : Int32))), .val (.int nv), .val (.int kv), .val (.ref b102), .unset, .unset, .unset, .unset] [(.int nv), (.ref b102), (.int (us &&& (255 : Int32))), (.int (p3 &&& (255 : Int32))), (.int (p2 &&& (255 : Int32))), (.int (p1 &&& (255 : Int32))), (.ref b129), (.ref b129)])
          obtain ⟨v145, T145, Lc145, X145, hQ145, hS145, hZ, hown, st145⟩ := own_callNW X129 hS0 hk_p129 hx hZ (y := (⟨"com/example/seamark/seamark/transport/CommandApdu", "<init>", "(IIII[BI)V"⟩ : MethodName)) rfl hown (hw _ (List.mem_of_getElem? (i := 4) rfl)) (hw _ (List.mem_of_getElem? (i := 5) rfl)) (hw _ (List.mem_of_getElem? (i := 3) rfl)) (hw _ (List.mem_of_getElem? (i := 6) rfl)) (by decide) e129 (rm1 l Z a0 hw [] b129 (p1 &&& (255 : Int32)) (p2 &&& (255 : Int32)) (p3 &&& (255 : Int32)) (us &&& (255 : Int32)) b102 nv 2 (fun i => if i = 1 then nar .byte y1 else (if i = 0 then nar .byte y0 else (0 : Int32))) h129 n0 Z0_p129 A129 ge_b129 F_cla_b129 F_ins_b129 F_p1_b129 F_p2_b129 F_data_b129 F_ne_b129 A_b102_p129 Ex102_p129 ne_b102_b129 (by decide) (fun i _ => by (try dsimp only); split; exact fits_nar_byte _; split; exact fits_nar_byte _; rfl) (own_in255 _) (own_in255 _) (own_in255 _) (own_in255 _) hnv) (by decide) (by decide) (g := (mkF m 145 #[.val (.int p1), .val (.int p2), .val (.int p3), .val (.int p4), .val (.int p5), .val (.int p6), .val (.int (p1 &&& (255 : Int32))), .val (.int (p2 &&& (255 : Int32))), .val (.int (p3 &&& (255 : Int32))), .val (.int (us &&& (255 : Int32))), .val (.int nv), .val (.int kv), .val (.ref b102), .unset, .unset, .unset, .unset] [(.int nv), (.ref b102), (.int (us &&& (255 : Int32))), (.int (p3 &&& (255 : Int32))), (.int (p2 &&& (255 : Int32))), (.int (p1 &&& (255 : Int32))), (.ref b129), (.ref b129)])) rfl (by rw [hml]; rfl) (a := b129) (argsL := [(.int (p1 &&& (255 : Int32))), (.int (p2 &&& (255 : Int32))), (.int (p3 &&& (255 : Int32))), (.int (us &&& (255 : Int32))), (.ref b102), (.int nv)]) (rest := [(.ref b129)]) (lenOf pd_3 rfl) rfl rfl (W := 1) (by show 2 * 0 + _ ≤ _; exact Nat.le_of_eq rfl) (hb hby at_145) (by decide) (by decide)
          obtain ⟨bd145, rfl, Nq145, K145, q1_145, q2_145, q3_145, q4_145, q5_145, q6_145, q7_145, q8_145, q9_145, ne_bd145_b129⟩ := hQ145
          have N145 := Fr.app N116 Nq145
          have A_b102_p145 : own_A Z T145.heap b102 .byte 2 (fun i => .int (if i = 1 then nar .byte y1 else (if i = 0 then nar .byte y0 else (0 : Int32)))) := A_b102_p129.keep K145 (by simp only [List.mem_cons, List.not_mem_nil, or_false, not_or]; exact ne_b102_b129)
          have Ex102_p145 : Exa Z T145.heap b102 "[B" := Ex102_p129.keep K145
          have Z0_p145 : n0 ≤ T145.heap.size := Nat.le_trans Z0_p129 K145.1
          refine hst st145 ?_
          show F T145 (mkF m 148 #[.val (.int p1), .val (.int p2), .val (.int p3), .val (.int p4), .val (.int p5), .val (.int p6), .val (.int (p1 &&& (255 : Int32))), .val (.int (p2 &&& (255 : Int32))), .val (.int (p3 &&& (255 : Int32))), .val (.int (us &&& (255 : Int32))), .val (.int nv), .val (.int kv), .val (.ref b102), .unset, .unset, .unset, .unset] [(.ref b129)])
          refine hst (fun t₀ k₀ => XS.astore X145.here hx rfl (hb hby at_148) rfl rfl (l' := #[.val (.int p1), .val (.int p2), .val (.int p3), .val (.int p4), .val (.int p5), .val (.int p6), .val (.int (p1 &&& (255 : Int32))), .val (.int (p2 &&& (255 : Int32))), .val (.int (p3 &&& (255 : Int32))), .val (.int (us &&& (255 : Int32))), .val (.int nv), .val (.int kv), .val (.ref b102), .val (.ref b129), .unset, .unset, .unset]) rfl k₀) ?_
          show F T145 (mkF m 150 #[.val (.int p1), .val (.int p2), .val (.int p3), .val (.int p4), .val (.int p5), .val (.int p6), .val (.int (p1 &&& (255 : Int32))), .val (.int (p2 &&& (255 : Int32))), .val (.int (p3 &&& (255 : Int32))), .val (.int (us &&& (255 : Int32))), .val (.int nv), .val (.int kv), .val (.ref b102), .val (.ref b129), .unset, .unset, .unset] [])
          refine hst (fun t₀ k₀ => XS.iload X145.here hx rfl (hb hby at_150) rfl k₀) ?_
          show F T145 (mkF m 152 #[.val (.int p1), .val (.int p2), .val (.int p3), .val (.int p4), .val (.int p5), .val (.int p6), .val (.int (p1 &&& (255 : Int32))), .val (.int (p2 &&& (255 : Int32))), .val (.int (p3 &&& (255 : Int32))), .val (.int (us &&& (255 : Int32))), .val (.int nv), .val (.int kv), .val (.ref b102), .val (.ref b129), .unset, .unset, .unset] [(.int kv)])
          refine hst (fun t₀ k₀ => XS.ifNo X145.here hx rfl (hb hby at_152) rfl ((if0 _ _).trans (feq hc65).1) k₀) ?_
          show F T145 (mkF m 155 #[.val (.int p1), .val (.int p2), .val (.int p3), .val (.int p4), .val (.int p5), .val (.int p6), .val (.int (p1 &&& (255 : Int32))), .val (.int (p2 &&& (255 : Int32))), .val (.int (p3 &&& (255 : Int32))), .val (.int (us &&& (255 : Int32))), .val (.int nv), .val (.int kv), .val (.ref b102), .val (.ref b129), .unset, .unset, .unset] [])
          refine hst (fun t₀ k₀ => XS.iconst X145.here hx rfl (hb hby at_155) k₀) ?_
          show F T145 (mkF m 156 #[.val (.int p1), .val (.int p2), .val (.int p3), .val (.int p4), .val (.int p5), .val (.int p6), .val (.int (p1 &&& (255 : Int32))), .val (.int (p2 &&& (255 : Int32))), .val (.int (p3 &&& (255 : Int32))), .val (.int (us &&& (255 : Int32))), .val (.int nv), .val (.int kv), .val (.ref b102), .val (.ref b129), .unset, .unset, .unset] [(.int (1 : Int32))])
          refine hst (fun t₀ k₀ => XS.goto X145.here hx rfl (pc0 := 156) (pc' := 160) rfl (hb hby at_156) (by decide) (by decide) k₀) ?_
          show F T145 (mkF m 160 #[.val (.int p1), .val (.int p2), .val (.int p3), .val (.int p4), .val (.int p5), .val (.int p6), .val (.int (p1 &&& (255 : Int32))), .val (.int (p2 &&& (255 : Int32))), .val (.int (p3 &&& (255 : Int32))), .val (.int (us &&& (255 : Int32))), .val (.int nv), .val (.int kv), .val (.ref b102), .val (.ref b129), .unset, .unset, .unset] [(.int (1 : Int32))])
          refine hst (fun t₀ k₀ => XS.istore X145.here hx rfl (hb hby at_160) rfl (l' := #[.val (.int p1), .val (.int p2), .val (.int p3), .val (.int p4), .val (.int p5), .val (.int p6), .val (.int (p1 &&& (255 : Int32))), .val (.int (p2 &&& (255 : Int32))), .val (.int (p3 &&& (255 : Int32))), .val (.int (us &&& (255 : Int32))), .val (.int nv), .val (.int kv), .val (.ref b102), .val (.ref b129), .val (.int (1 : Int32)), .unset, .unset]) rfl k₀) ?_
          show F T145 (mkF m 162 #[.val (.int p1), .val (.int p2), .val (.int p3), .val (.int p4), .val (.int p5), .val (.int p6), .val (.int (p1 &&& (255 : Int32))), .val (.int (p2 &&& (255 : Int32))), .val (.int (p3 &&& (255 : Int32))), .val (.int (us &&& (255 : Int32))), .val (.int nv), .val (.int kv), .val (.ref b102), .val (.ref b129), .val (.int (1 : Int32)), .unset, .unset] [])
          refine hst (fun t₀ k₀ => XS.iload X145.here hx rfl (hb hby at_162) rfl k₀) ?_
          show F T145 (mkF m 164 #[.val (.int p1), .val (.int p2), .val (.int p3), .val (.int p4), .val (.int p5), .val (.int p6), .val (.int (p1 &&& (255 : Int32))), .val (.int (p2 &&& (255 : Int32))), .val (.int (p3 &&& (255 : Int32))), .val (.int (us &&& (255 : Int32))), .val (.int nv), .val (.int kv), .val (.ref b102), .val (.ref b129), .val (.int (1 : Int32)), .unset, .unset] [(.int nv)])
          by_cases hc164 : nv = (0 : Int32)
          · -- pc 164: taken
            refine hst (fun t₀ k₀ => XS.ifYes X145.here hx rfl (pc0 := 164) (pc' := 171) rfl (hb hby at_164) rfl ((if0 _ _).trans (teq hc164).1) (by decide) (by decide) k₀) ?_
            show F T145 (mkF m 171 #[.val (.int p1), .val (.int p2), .val (.int p3), .val (.int p4), .val (.int p5), .val (.int p6), .val (.int (p1 &&& (255 : Int32))), .val (.int (p2 &&& (255 : Int32))), .val (.int (p3 &&& (255 : Int32))), .val (.int (us &&& (255 : Int32))), .val (.int nv), .val (.int kv), .val (.ref b102), .val (.ref b129), .val (.int (1 : Int32)), .unset, .unset] [])
            refine hst (fun t₀ k₀ => XS.iconst X145.here hx rfl (hb hby at_171) k₀) ?_
            show F T145 (mkF m 172 #[.val (.int p1), .val (.int p2), .val (.int p3), .val (.int p4), .val (.int p5), .val (.int p6), .val (.int (p1 &&& (255 : Int32))), .val (.int (p2 &&& (255 : Int32))), .val (.int (p3 &&& (255 : Int32))), .val (.int (us &&& (255 : Int32))), .val (.int nv), .val (.int kv), .val (.ref b102), .val (.ref b129), .val (.int (1 : Int32)), .unset, .unset] [(.int (0 : Int32))])
            refine hst (fun t₀ k₀ => XS.istore X145.here hx rfl (hb hby at_172) rfl (l' := #[.val (.int p1), .val (.int p2), .val (.int p3), .val (.int p4), .val (.int p5), .val (.int p6), .val (.int (p1 &&& (255 : Int32))), .val (.int (p2 &&& (255 : Int32))), .val (.int (p3 &&& (255 : Int32))), .val (.int (us &&& (255 : Int32))), .val (.int nv), .val (.int kv), .val (.ref b102), .val (.ref b129), .val (.int (1 : Int32)), .val (.int (0 : Int32)), .unset]) rfl k₀) ?_
            show F T145 (mkF m 174 #[.val (.int p1), .val (.int p2), .val (.int p3), .val (.int p4), .val (.int p5), .val (.int p6), .val (.int (p1 &&& (255 : Int32))), .val (.int (p2 &&& (255 : Int32))), .val (.int (p3 &&& (255 : Int32))), .val (.int (us &&& (255 : Int32))), .val (.int nv), .val (.int kv), .val (.ref b102), .val (.ref b129), .val (.int (1 : Int32)), .val (.int (0 : Int32)), .unset] [])
            refine hst (fun t₀ k₀ => XS.iconst X145.here hx rfl (hb hby at_174) k₀) ?_
            show F T145 (mkF m 175 #[.val (.int p1), .val (.int p2), .val (.int p3), .val (.int p4), .val (.int p5), .val (.int p6), .val (.int (p1 &&& (255 : Int32))), .val (.int (p2 &&& (255 : Int32))), .val (.int (p3 &&& (255 : Int32))), .val (.int (us &&& (255 : Int32))), .val (.int nv), .val (.int kv), .val (.ref b102), .val (.ref b129), .val (.int (1 : Int32)), .val (.int (0 : Int32)), .unset] [(.int (1 : Int32))])
            refine hst (fun t₀ k₀ => XS.iload X145.here hx rfl (hb hby at_175) rfl k₀) ?_
            show F T145 (mkF m 177 #[.val (.int p1), .val (.int p2), .val (.int p3), .val (.int p4), .val (.int p5), .val (.int p6), .val (.int (p1 &&& (255 : Int32))), .val (.int (p2 &&& (255 : Int32))), .val (.int (p3 &&& (255 : Int32))), .val (.int (us &&& (255 : Int32))), .val (.int nv), .val (.int kv), .val (.ref b102), .val (.ref b129), .val (.int (1 : Int32)), .val (.int (0 : Int32)), .unset] [(.int (0 : Int32)), (.int (1 : Int32))])
            refine hst (fun t₀ k₀ => XS.ifYes X145.here hx rfl (pc0 := 177) (pc' := 184) rfl (hb hby at_177) rfl ((if0 _ _).trans (teq (by decide)).1) (by decide) (by decide) k₀) ?_
            show F T145 (mkF m 184 #[.val (.int p1), .val (.int p2), .val (.int p3), .val (.int p4), .val (.int p5), .val (.int p6), .val (.int (p1 &&& (255 : Int32))), .val (.int (p2 &&& (255 : Int32))), .val (.int (p3 &&& (255 : Int32))), .val (.int (us &&& (255 : Int32))), .val (.int nv), .val (.int kv), .val (.ref b102), .val (.ref b129), .val (.int (1 : Int32)), .val (.int (0 : Int32)), .unset] [(.int (1 : Int32))])
            refine hst (fun t₀ k₀ => XS.iconst X145.here hx rfl (hb hby at_184) k₀) ?_
            show F T145 (mkF m 185 #[.val (.int p1), .val (.int p2), .val (.int p3), .val (.int p4), .val (.int p5), .val (.int p6), .val (.int (p1 &&& (255 : Int32))), .val (.int (p2 &&& (255 : Int32))), .val (.int (p3 &&& (255 : Int32))), .val (.int (us &&& (255 : Int32))), .val (.int nv), .val (.int kv), .val (.ref b102), .val (.ref b129), .val (.int (1 : Int32)), .val (.int (0 : Int32)), .unset] [(.int (0 : Int32)), (.int (1 : Int32))])
            refine hst (fun t₀ k₀ => XS.iadd X145.here hx rfl (hb hby at_185) rfl k₀) ?_
            show F T145 (mkF m 186 #[.val (.int p1), .val (.int p2), .val (.int p3), .val (.int p4), .val (.int p5), .val (.int p6), .val (.int (p1 &&& (255 : Int32))), .val (.int (p2 &&& (255 : Int32))), .val (.int (p3 &&& (255 : Int32))), .val (.int (us &&& (255 : Int32))), .val (.int nv), .val (.int kv), .val (.ref b102), .val (.ref b129), .val (.int (1 : Int32)), .val (.int (0 : Int32)), .unset] [(.int ((1 : Int32) + (0 : Int32)))])
            refine hst (fun t₀ k₀ => XS.iload X145.here hx rfl (hb hby at_186) rfl k₀) ?_
            show F T145 (mkF m 188 #[.val (.int p1), .val (.int p2), .val (.int p3), .val (.int p4), .val (.int p5), .val (.int p6), .val (.int (p1 &&& (255 : Int32))), .val (.int (p2 &&& (255 : Int32))), .val (.int (p3 &&& (255 : Int32))), .val (.int (us &&& (255 : Int32))), .val (.int nv), .val (.int kv), .val (.ref b102), .val (.ref b129), .val (.int (1 : Int32)), .val (.int (0 : Int32)), .unset] [(.int (1 : Int32)), (.int ((1 : Int32) + (0 : Int32)))])
            refine hst (fun t₀ k₀ => XS.ifNo X145.here hx rfl (hb hby at_188) rfl ((if0 _ _).trans (feq (by decide)).1) k₀) ?_
            show F T145 (mkF m 191 #[.val (.int p1), .val (.int p2), .val (.int p3), .val (.int p4), .val (.int p5), .val (.int p6), .val (.int (p1 &&& (255 : Int32))), .val (.int (p2 &&& (255 : Int32))), .val (.int (p3 &&& (255 : Int32))), .val (.int (us &&& (255 : Int32))), .val (.int nv), .val (.int kv), .val (.ref b102), .val (.ref b129), .val (.int (1 : Int32)), .val (.int (0 : Int32)), .unset] [(.int ((1 : Int32) + (0 : Int32)))])
            refine hst (fun t₀ k₀ => XS.iconst X145.here hx rfl (hb hby at_191) k₀) ?_
            show F T145 (mkF m 192 #[.val (.int p1), .val (.int p2), .val (.int p3), .val (.int p4), .val (.int p5), .val (.int p6), .val (.int (p1 &&& (255 : Int32))), .val (.int (p2 &&& (255 : Int32))), .val (.int (p3 &&& (255 : Int32))), .val (.int (us &&& (255 : Int32))), .val (.int nv), .val (.int kv), .val (.ref b102), .val (.ref b129), .val (.int (1 : Int32)), .val (.int (0 : Int32)), .unset] [(.int (2 : Int32)), (.int ((1 : Int32) + (0 : Int32)))])
            refine hst (fun t₀ k₀ => XS.goto X145.here hx rfl (pc0 := 192) (pc' := 196) rfl (hb hby at_192) (by decide) (by decide) k₀) ?_
            show F T145 (mkF m 196 #[.val (.int p1), .val (.int p2), .val (.int p3), .val (.int p4), .val (.int p5), .val (.int p6), .val (.int (p1 &&& (255 : Int32))), .val (.int (p2 &&& (255 : Int32))), .val (.int (p3 &&& (255 : Int32))), .val (.int (us &&& (255 : Int32))), .val (.int nv), .val (.int kv), .val (.ref b102), .val (.ref b129), .val (.int (1 : Int32)), .val (.int (0 : Int32)), .unset] [(.int (2 : Int32)), (.int ((1 : Int32) + (0 : Int32)))])
            refine hst (fun t₀ k₀ => XS.iadd X145.here hx rfl (hb hby at_196) rfl k₀) ?_
            show F T145 (mkF m 197 #[.val (.int p1), .val (.int p2), .val (.int p3), .val (.int p4), .val (.int p5), .val (.int p6), .val (.int (p1 &&& (255 : Int32))), .val (.int (p2 &&& (255 : Int32))), .val (.int (p3 &&& (255 : Int32))), .val (.int (us &&& (255 : Int32))), .val (.int nv), .val (.int kv), .val (.ref b102), .val (.ref b129), .val (.int (1 : Int32)), .val (.int (0 : Int32)), .unset] [(.int (((1 : Int32) + (0 : Int32)) + (2 : Int32)))])
            refine hst (fun t₀ k₀ => XS.istore X145.here hx rfl (hb hby at_197) rfl (l' := #[.val (.int p1), .val (.int p2), .val (.int p3), .val (.int p4), .val (.int p5), .val (.int p6), .val (.int (p1 &&& (255 : Int32))), .val (.int (p2 &&& (255 : Int32))), .val (.int (p3 &&& (255 : Int32))), .val (.int (us &&& (255 : Int32))), .val (.int nv), .val (.int kv), .val (.ref b102), .val (.ref b129), .val (.int (1 : Int32)), .val (.int (0 : Int32)), .val (.int (((1 : Int32) + (0 : Int32)) + (2 : Int32)))]) rfl k₀) ?_
            show F T145 (mkF m 199 #[.val (.int p1), .val (.int p2), .val (.int p3), .val (.int p4), .val (.int p5), .val (.int p6), .val (.int (p1 &&& (255 : Int32))), .val (.int (p2 &&& (255 : Int32))), .val (.int (p3 &&& (255 : Int32))), .val (.int (us &&& (255 : Int32))), .val (.int nv), .val (.int kv), .val (.ref b102), .val (.ref b129), .val (.int (1 : Int32)), .val (.int (0 : Int32)), .val (.int (((1 : Int32) + (0 : Int32)) + (2 : Int32)))] [])
            refine hst (fun t₀ k₀ => XS.aload X145.here hx rfl (hb hby at_199) rfl rfl k₀) ?_
            show F T145 (mkF m 201 #[.val (.int p1), .val (.int p2), .val (.int p3), .val (.int p4), .val (.int p5), .val (.int p6), .val (.int (p1 &&& (255 : Int32))), .val (.int (p2 &&& (255 : Int32))), .val (.int (p3 &&& (255 : Int32))), .val (.int (us &&& (255 : Int32))), .val (.int nv), .val (.int kv), .val (.ref b102), .val (.ref b129), .val (.int (1 : Int32)), .val (.int (0 : Int32)), .val (.int (((1 : Int32) + (0 : Int32)) + (2 : Int32)))] [(.ref b129)])
            obtain ⟨v201, T201, Lc201, X201, hQ201, st201⟩ := own_callV X145 hx hZ hown (y := (⟨"com/example/seamark/seamark/transport/CommandApdu", "isoCase", "()I"⟩ : MethodName)) (hw _ (List.mem_of_getElem? (i := 44) rfl)) (hw _ (List.mem_of_getElem? (i := 45) rfl)) (hw _ (List.mem_of_getElem? (i := 47) rfl)) (hw _ (List.mem_of_getElem? (i := 46) rfl)) (hw _ (List.mem_of_getElem? (i := 3) rfl)) (hw _ (List.mem_of_getElem? (i := 48) rfl)) (by decide) rfl q1_145 (rm4 l Z a0 hw [] b129 bd145 2 (fun i => if i = 1 then nar .byte y1 else (if i = 0 then nar .byte y0 else (0 : Int32))) nv T145.heap n0 Z0_p145 q7_145 q8_145 q6_145 (by decide)) (by decide) (by decide) (g := (mkF m 201 #[.val (.int p1), .val (.int p2), .val (.int p3), .val (.int p4), .val (.int p5), .val (.int p6), .val (.int (p1 &&& (255 : Int32))), .val (.int (p2 &&& (255 : Int32))), .val (.int (p3 &&& (255 : Int32))), .val (.int (us &&& (255 : Int32))), .val (.int nv), .val (.int kv), .val (.ref b102), .val (.ref b129), .val (.int (1 : Int32)), .val (.int (0 : Int32)), .val (.int (((1 : Int32) + (0 : Int32)) + (2 : Int32)))] [(.ref b129)])) rfl (by rw [hml]; rfl) (argsL := []) (rest := []) (lenOf pd_0 rfl) rfl rfl (W := 0) (by show 2 * 0 + _ ≤ _; exact Nat.le_of_eq rfl) (hb hby at_201) (by decide) (by decide)
            obtain ⟨rfl, Nq201, he201⟩ := hQ201
            have N201 := Fr.app N145 Nq201
            refine hst st201 ?_
            show F T201 (mkF m 204 #[.val (.int p1), .val (.int p2), .val (.int p3), .val (.int p4), .val (.int p5), .val (.int p6), .val (.int (p1 &&& (255 : Int32))), .val (.int (p2 &&& (255 : Int32))), .val (.int (p3 &&& (255 : Int32))), .val (.int (us &&& (255 : Int32))), .val (.int nv), .val (.int kv), .val (.ref b102), .val (.ref b129), .val (.int (1 : Int32)), .val (.int (0 : Int32)), .val (.int (((1 : Int32) + (0 : Int32)) + (2 : Int32)))] [(.int (own_iso 2 nv))])
            refine hst (fun t₀ k₀ => XS.iload X201.here hx rfl (hb hby at_204) rfl k₀) ?_
            show F T201 (mkF m 206 #[.val (.int p1), .val (.int p2), .val (.int p3), .val (.int p4), .val (.int p5), .val (.int p6), .val (.int (p1 &&& (255 : Int32))), .val (.int (p2 &&& (255 : Int32))), .val (.int (p3 &&& (255 : Int32))), .val (.int (us &&& (255 : Int32))), .val (.int nv), .val (.int kv), .val (.ref b102), .val (.ref b129), .val (.int (1 : Int32)), .val (.int (0 : Int32)), .val (.int (((1 : Int32) + (0 : Int32)) + (2 : Int32)))] [(.int (((1 : Int32) + (0 : Int32)) + (2 : Int32))), (.int (own_iso 2 nv))])
            refine hst (fun t₀ k₀ => XS.icmpNo X201.here hx rfl (hb hby at_206) rfl (teq (by unfold own_iso; rw [if_neg (by decide), if_pos hc164]; decide)).2 k₀) ?_
            show F T201 (mkF m 209 #[.val (.int p1), .val (.int p2), .val (.int p3), .val (.int p4), .val (.int p5), .val (.int p6), .val (.int (p1 &&& (255 : Int32))), .val (.int (p2 &&& (255 : Int32))), .val (.int (p3 &&& (255 : Int32))), .val (.int (us &&& (255 : Int32))), .val (.int nv), .val (.int kv), .val (.ref b102), .val (.ref b129), .val (.int (1 : Int32)), .val (.int (0 : Int32)), .val (.int (((1 : Int32) + (0 : Int32)) + (2 : Int32)))] [])
            refine hst (fun t₀ k₀ => XS.iconst X201.here hx rfl (hb hby at_209) k₀) ?_
            show F T201 (mkF m 210 #[.val (.int p1), .val (.int p2), .val (.int p3), .val (.int p4), .val (.int p5), .val (.int p6), .val (.int (p1 &&& (255 : Int32))), .val (.int (p2 &&& (255 : Int32))), .val (.int (p3 &&& (255 : Int32))), .val (.int (us &&& (255 : Int32))), .val (.int nv), .val (.int kv), .val (.ref b102), .val (.ref b129), .val (.int (1 : Int32)), .val (.int (0 : Int32)), .val (.int (((1 : Int32) + (0 : Int32)) + (2 : Int32)))] [(.int (1 : Int32))])
            refine hst (fun t₀ k₀ => XS.goto X201.here hx rfl (pc0 := 210) (pc' := 214) rfl (hb hby at_210) (by decide) (by decide) k₀) ?_
            show F T201 (mkF m 214 #[.val (.int p1), .val (.int p2), .val (.int p3), .val (.int p4), .val (.int p5), .val (.int p6), .val (.int (p1 &&& (255 : Int32))), .val (.int (p2 &&& (255 : Int32))), .val (.int (p3 &&& (255 : Int32))), .val (.int (us &&& (255 : Int32))), .val (.int nv), .val (.int kv), .val (.ref b102), .val (.ref b129), .val (.int (1 : Int32)), .val (.int (0 : Int32)), .val (.int (((1 : Int32) + (0 : Int32)) + (2 : Int32)))] [(.int (1 : Int32))])
            rw [hF]
            refine own_retNW X201 hS145 (by rw [he201]; exact (Nat.le_refl _)) hx hret (by simp) hlk (hb hby at_214) (by decide) (by decide) ?_
            rw [he201]
            exact ⟨rfl, N201⟩
          · -- pc 164: not taken
            refine hst (fun t₀ k₀ => XS.ifNo X145.here hx rfl (hb hby at_164) rfl ((if0 _ _).trans (feq hc164).1) k₀) ?_
            show F T145 (mkF m 167 #[.val (.int p1), .val (.int p2), .val (.int p3), .val (.int p4), .val (.int p5), .val (.int p6), .val (.int (p1 &&& (255 : Int32))), .val (.int (p2 &&& (255 : Int32))), .val (.int (p3 &&& (255 : Int32))), .val (.int (us &&& (255 : Int32))), .val (.int nv), .val (.int kv), .val (.ref b102), .val (.ref b129), .val (.int (1 : Int32)), .unset, .unset] [])
            refine hst (fun t₀ k₀ => XS.iconst X145.here hx rfl (hb hby at_167) k₀) ?_
            show F T145 (mkF m 168 #[.val (.int p1), .val (.int p2), .val (.int p3), .val (.int p4), .val (.int p5), .val (.int p6), .val (.int (p1 &&& (255 : Int32))), .val (.int (p2 &&& (255 : Int32))), .val (.int (p3 &&& (255 : Int32))), .val (.int (us &&& (255 : Int32))), .val (.int nv), .val (.int kv), .val (.ref b102), .val (.ref b129), .val (.int (1 : Int32)), .unset, .unset] [(.int (1 : Int32))])
            refine hst (fun t₀ k₀ => XS.goto X145.here hx rfl (pc0 := 168) (pc' := 172) rfl (hb hby at_168) (by decide) (by decide) k₀) ?_
            show F T145 (mkF m 172 #[.val (.int p1), .val (.int p2), .val (.int p3), .val (.int p4), .val (.int p5), .val (.int p6), .val (.int (p1 &&& (255 : Int32))), .val (.int (p2 &&& (255 : Int32))), .val (.int (p3 &&& (255 : Int32))), .val (.int (us &&& (255 : Int32))), .val (.int nv), .val (.int kv), .val (.ref b102), .val (.ref b129), .val (.int (1 : Int32)), .unset, .unset] [(.int (1 : Int32))])
            refine hst (fun t₀ k₀ => XS.istore X145.here hx rfl (hb hby at_172) rfl (l' := #[.val (.int p1), .val (.int p2), .val (.int p3), .val (.int p4), .val (.int p5), .val (.int p6), .val (.int (p1 &&& (255 : Int32))), .val (.int (p2 &&& (255 : Int32))), .val (.int (p3 &&& (255 : Int32))), .val (.int (us &&& (255 : Int32))), .val (.int nv), .val (.int kv), .val (.ref b102), .val (.ref b129), .val (.int (1 : Int32)), .val (.int (1 : Int32)), .unset]) rfl k₀) ?_
            show F T145 (mkF m 174 #[.val (.int p1), .val (.int p2), .val (.int p3), .val (.int p4), .val (.int p5), .val (.int p6), .val (.int (p1 &&& (255 : Int32))), .val (.int (p2 &&& (255 : Int32))), .val (.int (p3 &&& (255 : Int32))), .val (.int (us &&& (255 : Int32))), .val (.int nv), .val (.int kv), .val (.ref b102), .val (.ref b129), .val (.int (1 : Int32)), .val (.int (1 : Int32)), .unset] [])
            refine hst (fun t₀ k₀ => XS.iconst X145.here hx rfl (hb hby at_174) k₀) ?_
            show F T145 (mkF m 175 #[.val (.int p1), .val (.int p2), .val (.int p3), .val (.int p4), .val (.int p5), .val (.int p6), .val (.int (p1 &&& (255 : Int32))), .val (.int (p2 &&& (255 : Int32))), .val (.int (p3 &&& (255 : Int32))), .val (.int (us &&& (255 : Int32))), .val (.int nv), .val (.int kv), .val (.ref b102), .val (.ref b129), .val (.int (1 : Int32)), .val (.int (1 : Int32)), .unset] [(.int (1 : Int32))])
            refine hst (fun t₀ k₀ => XS.iload X145.here hx rfl (hb hby at_175) rfl k₀) ?_
            show F T145 (mkF m 177 #[.val (.int p1), .val (.int p2), .val (.int p3), .val (.int p4), .val (.int p5), .val (.int p6), .val (.int (p1 &&& (255 : Int32))), .val (.int (p2 &&& (255 : Int32))), .val (.int (p3 &&& (255 : Int32))), .val (.int (us &&& (255 : Int32))), .val (.int nv), .val (.int kv), .val (.ref b102), .val (.ref b129), .val (.int (1 : Int32)), .val (.int (1 : Int32)), .unset] [(.int (1 : Int32)), (.int (1 : Int32))])
            refine hst (fun t₀ k₀ => XS.ifNo X145.here hx rfl (hb hby at_177) rfl ((if0 _ _).trans (feq (by decide)).1) k₀) ?_
            show F T145 (mkF m 180 #[.val (.int p1), .val (.int p2), .val (.int p3), .val (.int p4), .val (.int p5), .val (.int p6), .val (.int (p1 &&& (255 : Int32))), .val (.int (p2 &&& (255 : Int32))), .val (.int (p3 &&& (255 : Int32))), .val (.int (us &&& (255 : Int32))), .val (.int nv), .val (.int kv), .val (.ref b102), .val (.ref b129), .val (.int (1 : Int32)), .val (.int (1 : Int32)), .unset] [(.int (1 : Int32))])
            refine hst (fun t₀ k₀ => XS.iconst X145.here hx rfl (hb hby at_180) k₀) ?_
            show F T145 (mkF m 181 #[.val (.int p1), .val (.int p2), .val (.int p3), .val (.int p4), .val (.int p5), .val (.int p6), .val (.int (p1 &&& (255 : Int32))), .val (.int (p2 &&& (255 : Int32))), .val (.int (p3 &&& (255 : Int32))), .val (.int (us &&& (255 : Int32))), .val (.int nv), .val (.int kv), .val (.ref b102), .val (.ref b129), .val (.int (1 : Int32)), .val (.int (1 : Int32)), .unset] [(.int (1 : Int32)), (.int (1 : Int32))])
            refine hst (fun t₀ k₀ => XS.goto X145.here hx rfl (pc0 := 181) (pc' := 185) rfl (hb hby at_181) (by decide) (by decide) k₀) ?_
            show F T145 (mkF m 185 #[.val (.int p1), .val (.int p2), .val (.int p3), .val (.int p4), .val (.int p5), .val (.int p6), .val (.int (p1 &&& (255 : Int32))), .val (.int (p2 &&& (255 : Int32))), .val (.int (p3 &&& (255 : Int32))), .val (.int (us &&& (255 : Int32))), .val (.int nv), .val (.int kv), .val (.ref b102), .val (.ref b129), .val (.int (1 : Int32)), .val (.int (1 : Int32)), .unset] [(.int (1 : Int32)), (.int (1 : Int32))])
            refine hst (fun t₀ k₀ => XS.iadd X145.here hx rfl (hb hby at_185) rfl k₀) ?_
            show F T145 (mkF m 186 #[.val (.int p1), .val (.int p2), .val (.int p3), .val (.int p4), .val (.int p5), .val (.int p6), .val (.int (p1 &&& (255 : Int32))), .val (.int (p2 &&& (255 : Int32))), .val (.int (p3 &&& (255 : Int32))), .val (.int (us &&& (255 : Int32))), .val (.int nv), .val (.int kv), .val (.ref b102), .val (.ref b129), .val (.int (1 : Int32)), .val (.int (1 : Int32)), .unset] [(.int ((1 : Int32) + (1 : Int32)))])
            refine hst (fun t₀ k₀ => XS.iload X145.here hx rfl (hb hby at_186) rfl k₀) ?_
            show F T145 (mkF m 188 #[.val (.int p1), .val (.int p2), .val (.int p3), .val (.int p4), .val (.int p5), .val (.int p6), .val (.int (p1 &&& (255 : Int32))), .val (.int (p2 &&& (255 : Int32))), .val (.int (p3 &&& (255 : Int32))), .val (.int (us &&& (255 : Int32))), .val (.int nv), .val (.int kv), .val (.ref b102), .val (.ref b129), .val (.int (1 : Int32)), .val (.int (1 : Int32)), .unset] [(.int (1 : Int32)), (.int ((1 : Int32) + (1 : Int32)))])
            refine hst (fun t₀ k₀ => XS.ifNo X145.here hx rfl (hb hby at_188) rfl ((if0 _ _).trans (feq (by decide)).1) k₀) ?_
            show F T145 (mkF m 191 #[.val (.int p1), .val (.int p2), .val (.int p3), .val (.int p4), .val (.int p5), .val (.int p6), .val (.int (p1 &&& (255 : Int32))), .val (.int (p2 &&& (255 : Int32))), .val (.int (p3 &&& (255 : Int32))), .val (.int (us &&& (255 : Int32))), .val (.int nv), .val (.int kv), .val (.ref b102), .val (.ref b129), .val (.int (1 : Int32)), .val (.int (1 : Int32)), .unset] [(.int ((1 : Int32) + (1 : Int32)))])
            refine hst (fun t₀ k₀ => XS.iconst X145.here hx rfl (hb hby at_191) k₀) ?_
            show F T145 (mkF m 192 #[.val (.int p1), .val (.int p2), .val (.int p3), .val (.int p4), .val (.int p5), .val (.int p6), .val (.int (p1 &&& (255 : Int32))), .val (.int (p2 &&& (255 : Int32))), .val (.int (p3 &&& (255 : Int32))), .val (.int (us &&& (255 : Int32))), .val (.int nv), .val (.int kv), .val (.ref b102), .val (.ref b129), .val (.int (1 : Int32)), .val (.int (1 : Int32)), .unset] [(.int (2 : Int32)), (.int ((1 : Int32) + (1 : Int32)))])
            refine hst (fun t₀ k₀ => XS.goto X145.here hx rfl (pc0 := 192) (pc' := 196) rfl (hb hby at_192) (by decide) (by decide) k₀) ?_
            show F T145 (mkF m 196 #[.val (.int p1), .val (.int p2), .val (.int p3), .val (.int p4), .val (.int p5), .val (.int p6), .val (.int (p1 &&& (255 : Int32))), .val (.int (p2 &&& (255 : Int32))), .val (.int (p3 &&& (255 : Int32))), .val (.int (us &&& (255 : Int32))), .val (.int nv), .val (.int kv), .val (.ref b102), .val (.ref b129), .val (.int (1 : Int32)), .val (.int (1 : Int32)), .unset] [(.int (2 : Int32)), (.int ((1 : Int32) + (1 : Int32)))])
            refine hst (fun t₀ k₀ => XS.iadd X145.here hx rfl (hb hby at_196) rfl k₀) ?_
            show F T145 (mkF m 197 #[.val (.int p1), .val (.int p2), .val (.int p3), .val (.int p4), .val (.int p5), .val (.int p6), .val (.int (p1 &&& (255 : Int32))), .val (.int (p2 &&& (255 : Int32))), .val (.int (p3 &&& (255 : Int32))), .val (.int (us &&& (255 : Int32))), .val (.int nv), .val (.int kv), .val (.ref b102), .val (.ref b129), .val (.int (1 : Int32)), .val (.int (1 : Int32)), .unset] [(.int (((1 : Int32) + (1 : Int32)) + (2 : Int32)))])
            refine hst (fun t₀ k₀ => XS.istore X145.here hx rfl (hb hby at_197) rfl (l' := #[.val (.int p1), .val (.int p2), .val (.int p3), .val (.int p4), .val (.int p5), .val (.int p6), .val (.int (p1 &&& (255 : Int32))), .val (.int (p2 &&& (255 : Int32))), .val (.int (p3 &&& (255 : Int32))), .val (.int (us &&& (255 : Int32))), .val (.int nv), .val (.int kv), .val (.ref b102), .val (.ref b129), .val (.int (1 : Int32)), .val (.int (1 : Int32)), .val (.int (((1 : Int32) + (1 : Int32)) + (2 : Int32)))]) rfl k₀) ?_
            show F T145 (mkF m 199 #[.val (.int p1), .val (.int p2), .val (.int p3), .val (.int p4), .val (.int p5), .val (.int p6), .val (.int (p1 &&& (255 : Int32))), .val (.int (p2 &&& (255 : Int32))), .val (.int (p3 &&& (255 : Int32))), .val (.int (us &&& (255 : Int32))), .val (.int nv), .val (.int kv), .val (.ref b102), .val (.ref b129), .val (.int (1 : Int32)), .val (.int (1 : Int32)), .val (.int (((1 : Int32) + (1 : Int32)) + (2 : Int32)))] [])
            refine hst (fun t₀ k₀ => XS.aload X145.here hx rfl (hb hby at_199) rfl rfl k₀) ?_
            show F T145 (mkF m 201 #[.val (.int p1), .val (.int p2), .val (.int p3), .val (.int p4), .val (.int p5), .val (.int p6), .val (.int (p1 &&& (255 : Int32))), .val (.int (p2 &&& (255 : Int32))), .val (.int (p3 &&& (255 : Int32))), .val (.int (us &&& (255 : Int32))), .val (.int nv), .val (.int kv), .val (.ref b102), .val (.ref b129), .val (.int (1 : Int32)), .val (.int (1 : Int32)), .val (.int (((1 : Int32) + (1 : Int32)) + (2 : Int32)))] [(.ref b129)])
            obtain ⟨v201, T201, Lc201, X201, hQ201, st201⟩ := own_callV X145 hx hZ hown (y := (⟨"com/example/seamark/seamark/transport/CommandApdu", "isoCase", "()I"⟩ : MethodName)) (hw _ (List.mem_of_getElem? (i := 44) rfl)) (hw _ (List.mem_of_getElem? (i := 45) rfl)) (hw _ (List.mem_of_getElem? (i := 47) rfl)) (hw _ (List.mem_of_getElem? (i := 46) rfl)) (hw _ (List.mem_of_getElem? (i := 3) rfl)) (hw _ (List.mem_of_getElem? (i := 48) rfl)) (by decide) rfl q1_145 (rm4 l Z a0 hw [] b129 bd145 2 (fun i => if i = 1 then nar .byte y1 else (if i = 0 then nar .byte y0 else (0 : Int32))) nv T145.heap n0 Z0_p145 q7_145 q8_145 q6_145 (by decide)) (by decide) (by decide) (g := (mkF m 201 #[.val (.int p1), .val (.int p2), .val (.int p3), .val (.int p4), .val (.int p5), .val (.int p6), .val (.int (p1 &&& (255 : Int32))), .val (.int (p2 &&& (255 : Int32))), .val (.int (p3 &&& (255 : Int32))), .val (.int (us &&& (255 : Int32))), .val (.int nv), .val (.int kv), .val (.ref b102), .val (.ref b129), .val (.int (1 : Int32)), .val (.int (1 : Int32)), .val (.int (((1 : Int32) + (1 : Int32)) + (2 : Int32)))] [(.ref b129)])) rfl (by rw [hml]; rfl) (argsL := []) (rest := []) (lenOf pd_0 rfl) rfl rfl (W := 0) (by show 2 * 0 + _ ≤ _; exact Nat.le_of_eq rfl) (hb hby at_201) (by decide) (by decide)
            obtain ⟨rfl, Nq201, he201⟩ := hQ201
            have N201 := Fr.app N145 Nq201
            refine hst st201 ?_
            show F T201 (mkF m 204 #[.val (.int p1), .val (.int p2), .val (.int p3), .val (.int p4), .val (.int p5), .val (.int p6), .val (.int (p1 &&& (255 : Int32))), .val (.int (p2 &&& (255 : Int32))), .val (.int (p3 &&& (255 : Int32))), .val (.int (us &&& (255 : Int32))), .val (.int nv), .val (.int kv), .val (.ref b102), .val (.ref b129), .val (.int (1 : Int32)), .val (.int (1 : Int32)), .val (.int (((1 : Int32) + (1 : Int32)) + (2 : Int32)))] [(.int (own_iso 2 nv))])
            refine hst (fun t₀ k₀ => XS.iload X201.here hx rfl (hb hby at_204) rfl k₀) ?_
            show F T201 (mkF m 206 #[.val (.int p1), .val (.int p2), .val (.int p3), .val (.int p4), .val (.int p5), .val (.int p6), .val (.int (p1 &&& (255 : Int32))), .val (.int (p2 &&& (255 : Int32))), .val (.int (p3 &&& (255 : Int32))), .val (.int (us &&& (255 : Int32))), .val (.int nv), .val (.int kv), .val (.ref b102), .val (.ref b129), .val (.int (1 : Int32)), .val (.int (1 : Int32)), .val (.int (((1 : Int32) + (1 : Int32)) + (2 : Int32)))] [(.int (((1 : Int32) + (1 : Int32)) + (2 : Int32))), (.int (own_iso 2 nv))])
            refine hst (fun t₀ k₀ => XS.icmpNo X201.here hx rfl (hb hby at_206) rfl (teq (by unfold own_iso; rw [if_neg (by decide), if_neg hc164]; decide)).2 k₀) ?_
            show F T201 (mkF m 209 #[.val (.int p1), .val (.int p2), .val (.int p3), .val (.int p4), .val (.int p5), .val (.int p6), .val (.int (p1 &&& (255 : Int32))), .val (.int (p2 &&& (255 : Int32))), .val (.int (p3 &&& (255 : Int32))), .val (.int (us &&& (255 : Int32))), .val (.int nv), .val (.int kv), .val (.ref b102), .val (.ref b129), .val (.int (1 : Int32)), .val (.int (1 : Int32)), .val (.int (((1 : Int32) + (1 : Int32)) + (2 : Int32)))] [])
            refine hst (fun t₀ k₀ => XS.iconst X201.here hx rfl (hb hby at_209) k₀) ?_
            show F T201 (mkF m 210 #[.val (.int p1), .val (.int p2), .val (.int p3), .val (.int p4), .val (.int p5), .val (.int p6), .val (.int (p1 &&& (255 : Int32))), .val (.int (p2 &&& (255 : Int32))), .val (.int (p3 &&& (255 : Int32))), .val (.int (us &&& (255 : Int32))), .val (.int nv), .val (.int kv), .val (.ref b102), .val (.ref b129), .val (.int (1 : Int32)), .val (.int (1 : Int32)), .val (.int (((1 : Int32) + (1 : Int32)) + (2 : Int32)))] [(.int (1 : Int32))])
            refine hst (fun t₀ k₀ => XS.goto X201.here hx rfl (pc0 := 210) (pc' := 214) rfl (hb hby at_210) (by decide) (by decide) k₀) ?_
            show F T201 (mkF m 214 #[.val (.int p1), .val (.int p2), .val (.int p3), .val (.int p4), .val (.int p5), .val (.int p6), .val (.int (p1 &&& (255 : Int32))), .val (.int (p2 &&& (255 : Int32))), .val (.int (p3 &&& (255 : Int32))), .val (.int (us &&& (255 : Int32))), .val (.int nv), .val (.int kv), .val (.ref b102), .val (.ref b129), .val (.int (1 : Int32)), .val (.int (1 : Int32)), .val (.int (((1 : Int32) + (1 : Int32)) + (2 : Int32)))] [(.int (1 : Int32))])
            rw [hF]
            refine own_retNW X201 hS145 (by rw [he201]; exact (Nat.le_refl _)) hx hret (by simp) hlk (hb hby at_214) (by decide) (by decide) ?_
            rw [he201]
            exact ⟨rfl, N201⟩
        · -- pc 98: taken
          refine hst (fun t₀ k₀ => XS.icmpYes XI.here hx rfl (pc0 := 98) (pc' := 122) rfl (hb hby at_98) rfl (feq hc98).2 (by decide) (by decide) k₀) ?_
          show F s₁ (mkF m 122 #[.val (.int p1), .val (.int p2), .val (.int p3), .val (.int p4), .val (.int p5), .val (.int p6), .val (.int (p1 &&& (255 : Int32))), .val (.int (p2 &&& (255 : Int32))), .val (.int (p3 &&& (255 : Int32))), .val (.int (us &&& (255 : Int32))), .val (.int nv), .val (.int kv), .unset, .unset, .unset, .unset, .unset] [])
          refine hst (fun t₀ k₀ => XS.sipush XI.here hx rfl (hb hby at_122) k₀) ?_
          show F s₁ (mkF m 125 #[.val (.int p1), .val (.int p2), .val (.int p3), .val (.int p4), .val (.int p5), .val (.int p6), .val (.int (p1 &&& (255 : Int32))), .val (.int (p2 &&& (255 : Int32))), .val (.int (p3 &&& (255 : Int32))), .val (.int (us &&& (255 : Int32))), .val (.int nv), .val (.int kv), .unset, .unset, .unset, .unset, .unset] [(.int (255 : Int32))])
          obtain ⟨T125, h125, b125, X125, e125, g125, E125, A125, Ex125, st125⟩ := own_newarrE XI hx hZ (hw _ (List.mem_of_getElem? (i := 0) rfl)) eI (g := (mkF m 125 #[.val (.int p1), .val (.int p2), .val (.int p3), .val (.int p4), .val (.int p5), .val (.int p6), .val (.int (p1 &&& (255 : Int32))), .val (.int (p2 &&& (255 : Int32))), .val (.int (p3 &&& (255 : Int32))), .val (.int (us &&& (255 : Int32))), .val (.int nv), .val (.int kv), .unset, .unset, .unset, .unset, .unset] [(.int (255 : Int32))])) rfl (hb hby at_125) rfl (by decide) (cap := 255) (by decide) (by decide) (by decide) (by decide)
          have ge_b125 : n0 ≤ b125 := Nat.le_trans Z0 (Nat.le_of_eq g125.symm)
          have Z0_p125 : n0 ≤ h125.size := (Nat.le_trans Z0 E125.1)
          have hk_p125 := Nat.le_trans (Nat.zero_le _) E125.1
          have A_b125 : own_A Z h125 b125 .byte 255 (fun _ => (.int (0 : Int32))) := A125
          refine hst st125 ?_
          show F T125 (mkF m 127 #[.val (.int p1), .val (.int p2), .val (.int p3), .val (.int p4), .val (.int p5), .val (.int p6), .val (.int (p1 &&& (255 : Int32))), .val (.int (p2 &&& (255 : Int32))), .val (.int (p3 &&& (255 : Int32))), .val (.int (us &&& (255 : Int32))), .val (.int nv), .val (.int kv), .unset, .unset, .unset, .unset, .unset] [(.ref b125)])
          refine hst (fun t₀ k₀ => XS.astore X125.here hx rfl (hb hby at_127) rfl rfl (l' := #[.val (.int p1), .val (.int p2), .val (.int p3), .val (.int p4), .val (.int p5), .val (.int p6), .val (.int (p1 &&& (255 : Int32))), .val (.int (p2 &&& (255 : Int32))), .val (.int (p3 &&& (255 : Int32))), .val (.int (us &&& (255 : Int32))), .val (.int nv), .val (.int kv), .val (.ref b125), .unset, .unset, .unset, .unset]) rfl k₀) ?_
          show F T125 (mkF m 129 #[.val (.int p1), .val (.int p2), .val (.int p3), .val (.int p4), .val (.int p5), .val (.int p6), .val (.int (p1 &&& (255 : Int32))), .val (.int (p2 &&& (255 : Int32))), .val (.int (p3 &&& (255 : Int32))), .val (.int (us &&& (255 : Int32))), .val (.int nv), .val (.int kv), .val (.ref b125), .unset, .unset, .unset, .unset] [])
          obtain ⟨T129, h129, b129, X129, e129, g129, E129, A129, D129, st129⟩ := own_new X125 hx hZ hown (hw _ (List.mem_of_getElem? (i := 1) rfl)) (hw _ (List.mem_of_getElem? (i := 2) rfl)) (hw _ (List.mem_of_getElem? (i := 3) rfl)) e125 (g := (mkF m 129 #[.val (.int p1), .val (.int p2), .val (.int p3), .val (.int p4), .val (.int p5), .val (.int p6), .val (.int (p1 &&& (255 : Int32))), .val (.int (p2 &&& (255 : Int32))), .val (.int (p3 &&& (255 : Int32))), .val (.int (us &&& (255 : Int32))), .val (.int nv), .val (.int kv), .val (.ref b125), .unset, .unset, .unset, .unset] [])) rfl (hb hby at_129) (by decide) (by decide)
          have ne_b125_b129 : b125 ≠ b129 := Nat.ne_of_lt (Nat.lt_of_lt_of_le A_b125.lt (Nat.le_of_eq g129.symm))
          have ge_b129 : n0 ≤ b129 := Nat.le_trans Z0_p125 (Nat.le_of_eq g129.symm)
          have A_b125_p129 : own_A Z h129 b125 .byte 255 (fun _ => (.int (0 : Int32))) := A_b125.ext E129
          have Ex125_p129 : Exa Z h129 b125 "[B" := Ex125.ext E129
          have Z0_p129 : n0 ≤ h129.size := (Nat.le_trans Z0_p125 E129.1)
          have hk_p129 := Nat.le_trans hk_p125 E129.1
          have F_cla_b129 : Fld Z h129 b129 "com/example/seamark/seamark/transport/CommandApdu" "cla" "I" (.int (0 : Int32)) := D129 (Or.inr (hw _ (List.mem_of_getElem? (i := 21) rfl))) (ty := .int) (by decide)
          have F_ins_b129 : Fld Z h129 b129 "com/example/seamark/seamark/transport/CommandApdu" "ins" "I" (.int (0 : Int32)) := D129 (Or.inr (hw _ (List.mem_of_getElem? (i := 24) rfl))) (ty := .int) (by decide)
          have F_p1_b129 : Fld Z h129 b129 "com/example/seamark/seamark/transport/CommandApdu" "p1" "I" (.int (0 : Int32)) := D129 (Or.inr (hw _ (List.mem_of_getElem? (i := 27) rfl))) (ty := .int) (by decide)
          have F_p2_b129 : Fld Z h129 b129 "com/example/seamark/seamark/transport/CommandApdu" "p2" "I" (.int (0 : Int32)) := D129 (Or.inr (hw _ (List.mem_of_getElem? (i := 30) rfl))) (ty := .int) (by decide)
          have F_data_b129 : Fld Z h129 b129 "com/example/seamark/seamark/transport/CommandApdu" "data" "[B" .null := D129 (Or.inr (hw _ (List.mem_of_getElem? (i := 41) rfl))) (ty := (.array .byte)) (by decide)
          have F_ne_b129 : Fld Z h129 b129 "com/example/seamark/seamark/transport/CommandApdu" "ne" "I" (.int (0 : Int32)) := D129 (Or.inr (hw _ (List.mem_of_getElem? (i := 43) rfl))) (ty := .int) (by decide)
          refine hst st129 ?_
          show F T129 (mkF m 132 #[.val (.int p1), .val (.int p2), .val (.int p3), .val (.int p4), .val (.int p5), .val (.int p6), .val (.int (p1 &&& (255 : Int32))), .val (.int (p2 &&& (255 : Int32))), .val (.int (p3 &&& (255 : Int32))), .val (.int (us &&& (255 : Int32))), .val (.int nv), .val (.int kv), .val (.ref b125), .unset, .unset, .unset, .unset] [(.ref b129)])
          refine hst (fun t₀ k₀ => XS.dup X129.here hx rfl (hb hby at_132) rfl rfl k₀) ?_
          show F T129 (mkF m 133 #[.val (.int p1), .val (.int p2), .val (.int p3), .val (.int p4), .val (.int p5), .val (.int p6), .val (.int (p1 &&& (255 : Int32))), .val (.int (p2 &&& (255 : Int32))), .val (.int (p3 &&& (255 : Int32))), .val (.int (us &&& (255 : Int32))), .val (.int nv), .val (.int kv), .val (.ref b125), .unset, .unset, .unset, .unset] [(.ref b129), (.ref b129)])
          refine hst (fun t₀ k₀ => XS.iload X129.here hx rfl (hb hby at_133) rfl k₀) ?_
          show F T129 (mkF m 135 #[.val (.int p1), .val (.int p2), .val (.int p3), .val (.int p4), .val (.int p5), .val (.int p6), .val (.int (p1 &&& (255 : Int32))), .val (.int (p2 &&& (255 : Int32))), .val (.int (p3 &&& (255 : Int32))), .val (.int (us &&& (255 : Int32))), .val (.int nv), .val (.int kv), .val (.ref b125), .unset, .unset, .unset, .unset] [(.int (p1 &&& (255 : Int32))), (.ref b129), (.ref b129)])
          refine hst (fun t₀ k₀ => XS.iload X129.here hx rfl (hb hby at_135) rfl k₀) ?_
          show F T129 (mkF m 137 #[.val (.int p1), .val (.int p2), .val (.int p3), .val (.int p4), .val (.int p5), .val (.int p6), .val (.int (p1 &&& (255 : Int32))), .val (.int (p2 &&& (255 : Int32))), .val (.int (p3 &&& (255 : Int32))), .val (.int (us &&& (255 : Int32))), .val (.int nv), .val (.int kv), .val (.ref b125), .unset, .unset, .unset, .unset] [(.int (p2 &&& (255 : Int32))), (.int (p1 &&& (255 : Int32))), (.ref b129), (.ref b129)])
          refine hst (fun t₀ k₀ => XS.iload X129.here hx rfl (hb hby at_137) rfl k₀) ?_
          show F T129 (mkF m 139 #[.val (.int p1), .val (.int p2), .val (.int p3), .val (.int p4), .val (.int p5), .val (.int p6), .val (.int (p1 &&& (255 : Int32))), .val (.int (p2 &&& (255 : Int32))), .val (.int (p3 &&& (255 : Int32))), .val (.int (us &&& (255 : Int32))), .val (.int nv), .val (.int kv), .val (.ref b125), .unset, .unset, .unset, .unset] [(.int (p3 &&& (255 : Int32))), (.int (p2 &&& (255 : Int32))), (.int (p1 &&& (255 : Int32))), (.ref b129), (.ref b129)])
          refine hst (fun t₀ k₀ => XS.iload X129.here hx rfl (hb hby at_139) rfl k₀) ?_
          show F T129 (mkF m 141 #[.val (.int p1), .val (.int p2), .val (.int p3), .val (.int p4), .val (.int p5), .val (.int p6), .val (.int (p1 &&& (255 : Int32))), .val (.int (p2 &&& (255 : Int32))), .val (.int (p3 &&& (255 : Int32))), .val (.int (us &&& (255 : Int32))), .val (.int nv), .val (.int kv), .val (.ref b125), .unset, .unset, .unset, .unset] [(.int (us &&& (255 : Int32))), (.int (p3 &&& (255 : Int32))), (.int (p2 &&& (255 : Int32))), (.int (p1 &&& (255 : Int32))), (.ref b129), (.ref b129)])
          refine hst (fun t₀ k₀ => XS.aload X129.here hx rfl (hb hby at_141) rfl rfl k₀) ?_
          show F T129 (mkF m 143 #[.val (.int p1), .val (.int p2), .val (.int p3), .val (.int p4), .val (.int p5), .val (.int p6), .val (.int (p1 &&& (255 : Int32))), .val (.int (p2 &&& (255 : Int32))), .val (.int (p3 &&& (255 : Int32))), .val (.int (us &&& (255 : Int32))), .val (.int nv), .val (.int kv), .val (.ref b125), .unset, .unset, .unset, .unset] [(.ref b125), (.int (us &&& (255 : Int32))), (.int (p3 &&& (255 : Int32))), (.int (p2 &&& (255 : Int32))), (.int (p1 &&& (255 : Int32))), (.ref b129), (.ref b129)])
          refine hst (fun t₀ k₀ => XS.iload X129.here hx rfl (hb hby at_143) rfl k₀) ?_
          show F T129 (mkF m 145 #[.val (.int p1), .val (.int p2), .val (.int p3), .val (.int p4), .val (.int p5), .val (.int p6), .val (.int (p1 &&& (255 : Int32))), .val (.int (p2 &&& (255 : Int32))), .val (.int (p3 &&& (255 : Int32))), .val (.int (us &&& (255 : Int32))), .val (.int nv), .val (.int kv), .val (.ref b125), .unset, .unset, .unset, .unset] [(.int nv), (.ref b125), (.int (us &&& (255 : Int32))), (.int (p3 &&& (255 : Int32))), (.int (p2 &&& (255 : Int32))), (.int (p1 &&& (255 : Int32))), (.ref b129), (.ref b129)])
          obtain ⟨v145, T145, Lc145, X145, hQ145, hS145, hZ, hown, st145⟩ := own_callNW X129 hS0 hk_p129 hx hZ (y := (⟨"com/example/seamark/seamark/transport/CommandApdu", "<init>", "(IIII[BI)V"⟩ : MethodName)) rfl hown (hw _ (List.mem_of_getElem? (i := 4) rfl)) (hw _ (List.mem_of_getElem? (i := 5) rfl)) (hw _ (List.mem_of_getElem? (i := 3) rfl)) (hw _ (List.mem_of_getElem? (i := 6) rfl)) (by decide) e129 (rm1 l Z a0 hw [] b129 (p1 &&& (255 : Int32)) (p2 &&& (255 : Int32)) (p3 &&& (255 : Int32)) (us &&& (255 : Int32)) b125 nv 255 (fun _ => (0 : Int32)) h129 n0 Z0_p129 A129 ge_b129 F_cla_b129 F_ins_b129 F_p1_b129 F_p2_b129 F_data_b129 F_ne_b129 A_b125_p129 Ex125_p129 ne_b125_b129 (by decide) (fun i _ => rfl) (own_in255 _) (own_in255 _) (own_in255 _) (own_in255 _) hnv) (by decide) (by decide) (g := (mkF m 145 #[.val (.int p1), .val (.int p2), .val (.int p3), .val (.int p4), .val (.int p5), .val (.int p6), .val (.int (p1 &&& (255 : Int32))), .val (.int (p2 &&& (255 : Int32))), .val (.int (p3 &&& (255 : Int32))), .val (.int (us &&& (255 : Int32))), .val (.int nv), .val (.int kv), .val (.ref b125), .unset, .unset, .unset, .unset] [(.int nv), (.ref b125), (.int (us &&& (255 : Int32))), (.int (p3 &&& (255 : Int32))), (.int (p2 &&& (255 : Int32))), (.int (p1 &&& (255 : Int32))), (.ref b129), (.ref b129)])) rfl (by rw [hml]; rfl) (a := b129) (argsL := [(.int (p1 &&& (255 : Int32))), (.int (p2 &&& (255 : Int32))), (.int (p3 &&& (255 : Int32))), (.int (us &&& (255 : Int32))), (.ref b125), (.int nv)]) (rest := [(.ref b129)]) (lenOf pd_3 rfl) rfl rfl (W := 1) (by show 2 * 0 + _ ≤ _; exact Nat.le_of_eq rfl) (hb hby at_145) (by decide) (by decide)
          obtain ⟨bd145, rfl, Nq145, K145, q1_145, q2_145, q3_145, q4_145, q5_145, q6_145, q7_145, q8_145, q9_145, ne_bd145_b129⟩ := hQ145
          have N145 := Fr.app NI Nq145
          have A_b125_p145 : own_A Z T145.heap b125 .byte 255 (fun _ => (.int (0 : Int32))) := A_b125_p129.keep K145 (by simp only [List.mem_cons, List.not_mem_nil, or_false, not_or]; exact ne_b125_b129)
          have Ex125_p145 : Exa Z T145.heap b125 "[B" := Ex125_p129.keep K145
          have Z0_p145 : n0 ≤ T145.heap.size := Nat.le_trans Z0_p129 K145.1
          refine hst st145 ?_
          show F T145 (mkF m 148 #[.val (.int p1), .val (.int p2), .val (.int p3), .val (.int p4), .val (.int p5), .val (.int p6), .val (.int (p1 &&& (255 : Int32))), .val (.int (p2 &&& (255 : Int32))), .val (.int (p3 &&& (255 : Int32))), .val (.int (us &&& (255 : Int32))), .val (.int nv), .val (.int kv), .val (.ref b125), .unset, .unset, .unset, .unset] [(.ref b129)])
          refine hst (fun t₀ k₀ => XS.astore X145.here hx rfl (hb hby at_148) rfl rfl (l' := #[.val (.int p1), .val (.int p2), .val (.int p3), .val (.int p4), .val (.int p5), .val (.int p6), .val (.int (p1 &&& (255 : Int32))), .val (.int (p2 &&& (255 : Int32))), .val (.int (p3 &&& (255 : Int32))), .val (.int (us &&& (255 : Int32))), .val (.int nv), .val (.int kv), .val (.ref b125), .val (.ref b129), .unset, .unset, .unset]) rfl k₀) ?_
          show F T145 (mkF m 150 #[.val (.int p1), .val (.int p2), .val (.int p3), .val (.int p4), .val (.int p5), .val (.int p6), .val (.int (p1 &&& (255 : Int32))), .val (.int (p2 &&& (255 : Int32))), .val (.int (p3 &&& (255 : Int32))), .val (.int (us &&& (255 : Int32))), .val (.int nv), .val (.int kv), .val (.ref b125), .val (.ref b129), .unset, .unset, .unset] [])
          refine hst (fun t₀ k₀ => XS.iload X145.here hx rfl (hb hby at_150) rfl k₀) ?_
          show F T145 (mkF m 152 #[.val (.int p1), .val (.int p2), .val (.int p3), .val (.int p4), .val (.int p5), .val (.int p6), .val (.int (p1 &&& (255 : Int32))), .val (.int (p2 &&& (255 : Int32))), .val (.int (p3 &&& (255 : Int32))), .val (.int (us &&& (255 : Int32))), .val (.int nv), .val (.int kv), .val (.ref b125), .val (.ref b129), .unset, .unset, .unset] [(.int kv)])
          refine hst (fun t₀ k₀ => XS.ifNo X145.here hx rfl (hb hby at_152) rfl ((if0 _ _).trans (feq hc65).1) k₀) ?_
          show F T145 (mkF m 155 #[.val (.int p1), .val (.int p2), .val (.int p3), .val (.int p4), .val (.int p5), .val (.int p6), .val (.int (p1 &&& (255 : Int32))), .val (.int (p2 &&& (255 : Int32))), .val (.int (p3 &&& (255 : Int32))), .val (.int (us &&& (255 : Int32))), .val (.int nv), .val (.int kv), .val (.ref b125), .val (.ref b129), .unset, .unset, .unset] [])
          refine hst (fun t₀ k₀ => XS.iconst X145.here hx rfl (hb hby at_155) k₀) ?_
          show F T145 (mkF m 156 #[.val (.int p1), .val (.int p2), .val (.int p3), .val (.int p4), .val (.int p5), .val (.int p6), .val (.int (p1 &&& (255 : Int32))), .val (.int (p2 &&& (255 : Int32))), .val (.int (p3 &&& (255 : Int32))), .val (.int (us &&& (255 : Int32))), .val (.int nv), .val (.int kv), .val (.ref b125), .val (.ref b129), .unset, .unset, .unset] [(.int (1 : Int32))])
          refine hst (fun t₀ k₀ => XS.goto X145.here hx rfl (pc0 := 156) (pc' := 160) rfl (hb hby at_156) (by decide) (by decide) k₀) ?_
          show F T145 (mkF m 160 #[.val (.int p1), .val (.int p2), .val (.int p3), .val (.int p4), .val (.int p5), .val (.int p6), .val (.int (p1 &&& (255 : Int32))), .val (.int (p2 &&& (255 : Int32))), .val (.int (p3 &&& (255 : Int32))), .val (.int (us &&& (255 : Int32))), .val (.int nv), .val (.int kv), .val (.ref b125), .val (.ref b129), .unset, .unset, .unset] [(.int (1 : Int32))])
          refine hst (fun t₀ k₀ => XS.istore X145.here hx rfl (hb hby at_160) rfl (l' := #[.val (.int p1), .val (.int p2), .val (.int p3), .val (.int p4), .val (.int p5), .val (.int p6), .val (.int (p1 &&& (255 : Int32))), .val (.int (p2 &&& (255 : Int32))), .val (.int (p3 &&& (255 : Int32))), .val (.int (us &&& (255 : Int32))), .val (.int nv), .val (.int kv), .val (.ref b125), .val (.ref b129), .val (.int (1 : Int32)), .unset, .unset]) rfl k₀) ?_
          show F T145 (mkF m 162 #[.val (.int p1), .val (.int p2), .val (.int p3), .val (.int p4), .val (.int p5), .val (.int p6), .val (.int (p1 &&& (255 : Int32))), .val (.int (p2 &&& (255 : Int32))), .val (.int (p3 &&& (255 : Int32))), .val (.int (us &&& (255 : Int32))), .val (.int nv), .val (.int kv), .val (.ref b125), .val (.ref b129), .val (.int (1 : Int32)), .unset, .unset] [])
          refine hst (fun t₀ k₀ => XS.iload X145.here hx rfl (hb hby at_162) rfl k₀) ?_
          show F T145 (mkF m 164 #[.val (.int p1), .val (.int p2), .val (.int p3), .val (.int p4), .val (.int p5), .val (.int p6), .val (.int (p1 &&& (255 : Int32))), .val (.int (p2 &&& (255 : Int32))), .val (.int (p3 &&& (255 : Int32))), .val (.int (us &&& (255 : Int32))), .val (.int nv), .val (.int kv), .val (.ref b125), .val (.ref b129), .val (.int (1 : Int32)), .unset, .unset] [(.int nv)])
          by_cases hc164 : nv = (0 : Int32)
          · -- pc 164: taken
            refine hst (fun t₀ k₀ => XS.ifYes X145.here hx rfl (pc0 := 164) (pc' := 171) rfl (hb hby at_164) rfl ((if0 _ _).trans (teq hc164).1) (by decide) (by decide) k₀) ?_
            show F T145 (mkF m 171 #[.val (.int p1), .val (.int p2), .val (.int p3), .val (.int p4), .val (.int p5), .val (.int p6), .val (.int (p1 &&& (255 : Int32))), .val (.int (p2 &&& (255 : Int32))), .val (.int (p3 &&& (255 : Int32))), .val (.int (us &&& (255 : Int32))), .val (.int nv), .val (.int kv), .val (.ref b125), .val (.ref b129), .val (.int (1 : Int32)), .unset, .unset] [])
            refine hst (fun t₀ k₀ => XS.iconst X145.here hx rfl (hb hby at_171) k₀) ?_
            show F T145 (mkF m 172 #[.val (.int p1), .val (.int p2), .val (.int p3), .val (.int p4), .val (.int p5), .val (.int p6), .val (.int (p1 &&& (255 : Int32))), .val (.int (p2 &&& (255 : Int32))), .val (.int (p3 &&& (255 : Int32))), .val (.int (us &&& (255 : Int32))), .val (.int nv), .val (.int kv), .val (.ref b125), .val (.ref b129), .val (.int (1 : Int32)), .unset, .unset] [(.int (0 : Int32))])
            refine hst (fun t₀ k₀ => XS.istore X145.here hx rfl (hb hby at_172) rfl (l' := #[.val (.int p1), .val (.int p2), .val (.int p3), .val (.int p4), .val (.int p5), .val (.int p6), .val (.int (p1 &&& (255 : Int32))), .val (.int (p2 &&& (255 : Int32))), .val (.int (p3 &&& (255 : Int32))), .val (.int (us &&& (255 : Int32))), .val (.int nv), .val (.int kv), .val (.ref b125), .val (.ref b129), .val (.int (1 : Int32)), .val (.int (0 : Int32)), .unset]) rfl k₀) ?_
            show F T145 (mkF m 174 #[.val (.int p1), .val (.int p2), .val (.int p3), .val (.int p4), .val (.int p5), .val (.int p6), .val (.int (p1 &&& (255 : Int32))), .val (.int (p2 &&& (255 : Int32))), .val (.int (p3 &&& (255 : Int32))), .val (.int (us &&& (255 : Int32))), .val (.int nv), .val (.int kv), .val (.ref b125), .val (.ref b129), .val (.int (1 : Int32)), .val (.int (0 : Int32)), .unset] [])
            refine hst (fun t₀ k₀ => XS.iconst X145.here hx rfl (hb hby at_174) k₀) ?_
            show F T145 (mkF m 175 #[.val (.int p1), .val (.int p2), .val (.int p3), .val (.int p4), .val (.int p5), .val (.int p6), .val (.int (p1 &&& (255 : Int32))), .val (.int (p2 &&& (255 : Int32))), .val (.int (p3 &&& (255 : Int32))), .val (.int (us &&& (255 : Int32))), .val (.int nv), .val (.int kv), .val (.ref b125), .val (.ref b129), .val (.int (1 : Int32)), .val (.int (0 : Int32)), .unset] [(.int (1 : Int32))])
            refine hst (fun t₀ k₀ => XS.iload X145.here hx rfl (hb hby at_175) rfl k₀) ?_
            show F T145 (mkF m 177 #[.val (.int p1), .val (.int p2), .val (.int p3), .val (.int p4), .val (.int p5), .val (.int p6), .val (.int (p1 &&& (255 : Int32))), .val (.int (p2 &&& (255 : Int32))), .val (.int (p3 &&& (255 : Int32))), .val (.int (us &&& (255 : Int32))), .val (.int nv), .val (.int kv), .val (.ref b125), .val (.ref b129), .val (.int (1 : Int32)), .val (.int (0 : Int32)), .unset] [(.int (0 : Int32)), (.int (1 : Int32))])
            refine hst (fun t₀ k₀ => XS.ifYes X145.here hx rfl (pc0 := 177) (pc' := 184) rfl (hb hby at_177) rfl ((if0 _ _).trans (teq (by decide)).1) (by decide) (by decide) k₀) ?_
            show F T145 (mkF m 184 #[.val (.int p1), .val (.int p2), .val (.int p3), .val (.int p4), .val (.int p5), .val (.int p6), .val (.int (p1 &&& (255 : Int32))), .val (.int (p2 &&& (255 : Int32))), .val (.int (p3 &&& (255 : Int32))), .val (.int (us &&& (255 : Int32))), .val (.int nv), .val (.int kv), .val (.ref b125), .val (.ref b129), .val (.int (1 : Int32)), .val (.int (0 : Int32)), .unset] [(.int (1 : Int32))])
            refine hst (fun t₀ k₀ => XS.iconst X145.here hx rfl (hb hby at_184) k₀) ?_
            show F T145 (mkF m 185 #[.val (.int p1), .val (.int p2), .val (.int p3), .val (.int p4), .val (.int p5), .val (.int p6), .val (.int (p1 &&& (255 : Int32))), .val (.int (p2 &&& (255 : Int32))), .val (.int (p3 &&& (255 : Int32))), .val (.int (us &&& (255 : Int32))), .val (.int nv), .val (.int kv), .val (.ref b125), .val (.ref b129), .val (.int (1 : Int32)), .val (.int (0 : Int32)), .unset] [(.int (0 : Int32)), (.int (1 : Int32))])
            refine hst (fun t₀ k₀ => XS.iadd X145.here hx rfl (hb hby at_185) rfl k₀) ?_
            show F T145 (mkF m 186 #[.val (.int p1), .val (.int p2), .val (.int p3), .val (.int p4), .val (.int p5), .val (.int p6), .val (.int (p1 &&& (255 : Int32))), .val (.int (p2 &&& (255 : Int32))), .val (.int (p3 &&& (255 : Int32))), .val (.int (us &&& (255 : Int32))), .val (.int nv), .val (.int kv), .val (.ref b125), .val (.ref b129), .val (.int (1 : Int32)), .val (.int (0 : Int32)), .unset] [(.int ((1 : Int32) + (0 : Int32)))])
            refine hst (fun t₀ k₀ => XS.iload X145.here hx rfl (hb hby at_186) rfl k₀) ?_
            show F T145 (mkF m 188 #[.val (.int p1), .val (.int p2), .val (.int p3), .val (.int p4), .val (.int p5), .val (.int p6), .val (.int (p1 &&& (255 : Int32))), .val (.int (p2 &&& (255 : Int32))), .val (.int (p3 &&& (255 : Int32))), .val (.int (us &&& (255 : Int32))), .val (.int nv), .val (.int kv), .val (.ref b125), .val (.ref b129), .val (.int (1 : Int32)), .val (.int (0 : Int32)), .unset] [(.int (1 : Int32)), (.int ((1 : Int32) + (0 : Int32)))])
            refine hst (fun t₀ k₀ => XS.ifNo X145.here hx rfl (hb hby at_188) rfl ((if0 _ _).trans (feq (by decide)).1) k₀) ?_
            show F T145 (mkF m 191 #[.val (.int p1), .val (.int p2), .val (.int p3), .val (.int p4), .val (.int p5), .val (.int p6), .val (.int (p1 &&& (255 : Int32))), .val (.int (p2 &&& (255 : Int32))), .val (.int (p3 &&& (255 : Int32))), .val (.int (us &&& (255 : Int32))), .val (.int nv), .val (.int kv), .val (.ref b125), .val (.ref b129), .val (.int (1 : Int32)), .val (.int (0 : Int32)), .unset] [(.int ((1 : Int32) + (0 : Int32)))])
            refine hst (fun t₀ k₀ => XS.iconst X145.here hx rfl (hb hby at_191) k₀) ?_
            show F T145 (mkF m 192 #[.val (.int p1), .val (.int p2), .val (.int p3), .val (.int p4), .val (.int p5), .val (.int p6), .val (.int (p1 &&& (255 : Int32))), .val (.int (p2 &&& (255 : Int32))), .val (.int (p3 &&& (255 : Int32))), .val (.int (us &&& (255 : Int32))), .val (.int nv), .val (.int kv), .val (.ref b125), .val (.ref b129), .val (.int (1 : Int32)), .val (.int (0 : Int32)), .unset] [(.int (2 : Int32)), (.int ((1 : Int32) + (0 : Int32)))])
            refine hst (fun t₀ k₀ => XS.goto X145.here hx rfl (pc0 := 192) (pc' := 196) rfl (hb hby at_192) (by decide) (by decide) k₀) ?_
            show F T145 (mkF m 196 #[.val (.int p1), .val (.int p2), .val (.int p3), .val (.int p4), .val (.int p5), .val (.int p6), .val (.int (p1 &&& (255 : Int32))), .val (.int (p2 &&& (255 : Int32))), .val (.int (p3 &&& (255 : Int32))), .val (.int (us &&& (255 : Int32))), .val (.int nv), .val (.int kv), .val (.ref b125), .val (.ref b129), .val (.int (1 : Int32)), .val (.int (0 : Int32)), .unset] [(.int (2 : Int32)), (.int ((1 : Int32) + (0 : Int32)))])
            refine hst (fun t₀ k₀ => XS.iadd X145.here hx rfl (hb hby at_196) rfl k₀) ?_
            show F T145 (mkF m 197 #[.val (.int p1), .val (.int p2), .val (.int p3), .val (.int p4), .val (.int p5), .val (.int p6), .val (.int (p1 &&& (255 : Int32))), .val (.int (p2 &&& (255 : Int32))), .val (.int (p3 &&& (255 : Int32))), .val (.int (us &&& (255 : Int32))), .val (.int nv), .val (.int kv), .val (.ref b125), .val (.ref b129), .val (.int (1 : Int32)), .val (.int (0 : Int32)), .unset] [(.int (((1 : Int32) + (0 : Int32)) + (2 : Int32)))])
            refine hst (fun t₀ k₀ => XS.istore X145.here hx rfl (hb hby at_197) rfl (l' := #[.val (.int p1), .val (.int p2), .val (.int p3), .val (.int p4), .val (.int p5), .val (.int p6), .val (.int (p1 &&& (255 : Int32))), .val (.int (p2 &&& (255 : Int32))), .val (.int (p3 &&& (255 : Int32))), .val (.int (us &&& (255 : Int32))), .val (.int nv), .val (.int kv), .val (.ref b125), .val (.ref b129), .val (.int (1 : Int32)), .val (.int (0 : Int32)), .val (.int (((1 : Int32) + (0 : Int32)) + (2 : Int32)))]) rfl k₀) ?_
            show F T145 (mkF m 199 #[.val (.int p1), .val (.int p2), .val (.int p3), .val (.int p4), .val (.int p5), .val (.int p6), .val (.int (p1 &&& (255 : Int32))), .val (.int (p2 &&& (255 : Int32))), .val (.int (p3 &&& (255 : Int32))), .val (.int (us &&& (255 : Int32))), .val (.int nv), .val (.int kv), .val (.ref b125), .val (.ref b129), .val (.int (1 : Int32)), .val (.int (0 : Int32)), .val (.int (((1 : Int32) + (0 : Int32)) + (2 : Int32)))] [])
            refine hst (fun t₀ k₀ => XS.aload X145.here hx rfl (hb hby at_199) rfl rfl k₀) ?_
            show F T145 (mkF m 201 #[.val (.int p1), .val (.int p2), .val (.int p3), .val (.int p4), .val (.int p5), .val (.int p6), .val (.int (p1 &&& (255 : Int32))), .val (.int (p2 &&& (255 : Int32))), .val (.int (p3 &&& (255 : Int32))), .val (.int (us &&& (255 : Int32))), .val (.int nv), .val (.int kv), .val (.ref b125), .val (.ref b129), .val (.int (1 : Int32)), .val (.int (0 : Int32)), .val (.int (((1 : Int32) + (0 : Int32)) + (2 : Int32)))] [(.ref b129)])
            obtain ⟨v201, T201, Lc201, X201, hQ201, st201⟩ := own_callV X145 hx hZ hown (y := (⟨"com/example/seamark/seamark/transport/CommandApdu", "isoCase", "()I"⟩ : MethodName)) (hw _ (List.mem_of_getElem? (i := 44) rfl)) (hw _ (List.mem_of_getElem? (i := 45) rfl)) (hw _ (List.mem_of_getElem? (i := 47) rfl)) (hw _ (List.mem_of_getElem? (i := 46) rfl)) (hw _ (List.mem_of_getElem? (i := 3) rfl)) (hw _ (List.mem_of_getElem? (i := 48) rfl)) (by decide) rfl q1_145 (rm4 l Z a0 hw [] b129 bd145 255 (fun _ => (0 : Int32)) nv T145.heap n0 Z0_p145 q7_145 q8_145 q6_145 (by decide)) (by decide) (by decide) (g := (mkF m 201 #[.val (.int p1), .val (.int p2), .val (.int p3), .val (.int p4), .val (.int p5), .val (.int p6), .val (.int (p1 &&& (255 : Int32))), .val (.int (p2 &&& (255 : Int32))), .val (.int (p3 &&& (255 : Int32))), .val (.int (us &&& (255 : Int32))), .val (.int nv), .val (.int kv), .val (.ref b125), .val (.ref b129), .val (.int (1 : Int32)), .val (.int (0 : Int32)), .val (.int (((1 : Int32) + (0 : Int32)) + (2 : Int32)))] [(.ref b129)])) rfl (by rw [hml]; rfl) (argsL := []) (rest := []) (lenOf pd_0 rfl) rfl rfl (W := 0) (by show 2 * 0 + _ ≤ _; exact Nat.le_of_eq rfl) (hb hby at_201) (by decide) (by decide)
            obtain ⟨rfl, Nq201, he201⟩ := hQ201
            have N201 := Fr.app N145 Nq201
            refine hst st201 ?_
            show F T201 (mkF m 204 #[.val (.int p1), .val (.int p2), .val (.int p3), .val (.int p4), .val (.int p5), .val (.int p6), .val (.int (p1 &&& (255 : Int32))), .val (.int (p2 &&& (255 : Int32))), .val (.int (p3 &&& (255 : Int32))), .val (.int (us &&& (255 : Int32))), .val (.int nv), .val (.int kv), .val (.ref b125), .val (.ref b129), .val (.int (1 : Int32)), .val (.int (0 : Int32)), .val (.int (((1 : Int32) + (0 : Int32)) + (2 : Int32)))] [(.int (own_iso 255 nv))])
            refine hst (fun t₀ k₀ => XS.iload X201.here hx rfl (hb hby at_204) rfl k₀) ?_
            show F T201 (mkF m 206 #[.val (.int p1), .val (.int p2), .val (.int p3), .val (.int p4), .val (.int p5), .val (.int p6), .val (.int (p1 &&& (255 : Int32))), .val (.int (p2 &&& (255 : Int32))), .val (.int (p3 &&& (255 : Int32))), .val (.int (us &&& (255 : Int32))), .val (.int nv), .val (.int kv), .val (.ref b125), .val (.ref b129), .val (.int (1 : Int32)), .val (.int (0 : Int32)), .val (.int (((1 : Int32) + (0 : Int32)) + (2 : Int32)))] [(.int (((1 : Int32) + (0 : Int32)) + (2 : Int32))), (.int (own_iso 255 nv))])
            refine hst (fun t₀ k₀ => XS.icmpNo X201.here hx rfl (hb hby at_206) rfl (teq (by unfold own_iso; rw [if_neg (by decide), if_pos hc164]; decide)).2 k₀) ?_
            show F T201 (mkF m 209 #[.val (.int p1), .val (.int p2), .val (.int p3), .val (.int p4), .val (.int p5), .val (.int p6), .val (.int (p1 &&& (255 : Int32))), .val (.int (p2 &&& (255 : Int32))), .val (.int (p3 &&& (255 : Int32))), .val (.int (us &&& (255 : Int32))), .val (.int nv), .val (.int kv), .val (.ref b125), .val (.ref b129), .val (.int (1 : Int32)), .val (.int (0 : Int32)), .val (.int (((1 : Int32) + (0 : Int32)) + (2 : Int32)))] [])
            refine hst (fun t₀ k₀ => XS.iconst X201.here hx rfl (hb hby at_209) k₀) ?_
            show F T201 (mkF m 210 #[.val (.int p1), .val (.int p2), .val (.int p3), .val (.int p4), .val (.int p5), .val (.int p6), .val (.int (p1 &&& (255 : Int32))), .val (.int (p2 &&& (255 : Int32))), .val (.int (p3 &&& (255 : Int32))), .val (.int (us &&& (255 : Int32))), .val (.int nv), .val (.int kv), .val (.ref b125), .val (.ref b129), .val (.int (1 : Int32)), .val (.int (0 : Int32)), .val (.int (((1 : Int32) + (0 : Int32)) + (2 : Int32)))] [(.int (1 : Int32))])
            refine hst (fun t₀ k₀ => XS.goto X201.here hx rfl (pc0 := 210) (pc' := 214) rfl (hb hby at_210) (by decide) (by decide) k₀) ?_
            show F T201 (mkF m 214 #[.val (.int p1), .val (.int p2), .val (.int p3), .val (.int p4), .val (.int p5), .val (.int p6), .val (.int (p1 &&& (255 : Int32))), .val (.int (p2 &&& (255 : Int32))), .val (.int (p3 &&& (255 : Int32))), .val (.int (us &&& (255 : Int32))), .val (.int nv), .val (.int kv), .val (.ref b125), .val (.ref b129), .val (.int (1 : Int32)), .val (.int (0 : Int32)), .val (.int (((1 : Int32) + (0 : Int32)) + (2 : Int32)))] [(.int (1 : Int32))])
            rw [hF]
            refine own_retNW X201 hS145 (by rw [he201]; exact (Nat.le_refl _)) hx hret (by simp) hlk (hb hby at_214) (by decide) (by decide) ?_
            rw [he201]
            exact ⟨rfl, N201⟩
          · -- pc 164: not taken
            refine hst (fun t₀ k₀ => XS.ifNo X145.here hx rfl (hb hby at_164) rfl ((if0 _ _).trans (feq hc164).1) k₀) ?_
            show F T145 (mkF m 167 #[.val (.int p1), .val (.int p2), .val (.int p3), .val (.int p4), .val (.int p5), .val (.int p6), .val (.int (p1 &&& (255 : Int32))), .val (.int (p2 &&& (255 : Int32))), .val (.int (p3 &&& (255 : Int32))), .val (.int (us &&& (255 : Int32))), .val (.int nv), .val (.int kv), .val (.ref b125), .val (.ref b129), .val (.int (1 : Int32)), .unset, .unset] [])
            refine hst (fun t₀ k₀ => XS.iconst X145.here hx rfl (hb hby at_167) k₀) ?_
            show F T145 (mkF m 168 #[.val (.int p1), .val (.int p2), .val (.int p3), .val (.int p4), .val (.int p5), .val (.int p6), .val (.int (p1 &&& (255 : Int32))), .val (.int (p2 &&& (255 : Int32))), .val (.int (p3 &&& (255 : Int32))), .val (.int (us &&& (255 : Int32))), .val (.int nv), .val (.int kv), .val (.ref b125), .val (.ref b129), .val (.int (1 : Int32)), .unset, .unset] [(.int (1 : Int32))])
            refine hst (fun t₀ k₀ => XS.goto X145.here hx rfl (pc0 := 168) (pc' := 172) rfl (hb hby at_168) (by decide) (by decide) k₀) ?_
            show F T145 (mkF m 172 #[.val (.int p1), .val (.int p2), .val (.int p3), .val (.int p4), .val (.int p5), .val (.int p6), .val (.int (p1 &&& (255 : Int32))), .val (.int (p2 &&& (255 : Int32))), .val (.int (p3 &&& (255 : Int32))), .val (.int (us &&& (255 : Int32))), .val (.int nv), .val (.int kv), .val (.ref b125), .val (.ref b129), .val (.int (1 : Int32)), .unset, .unset] [(.int (1 : Int32))])
            refine hst (fun t₀ k₀ => XS.istore X145.here hx rfl (hb hby at_172) rfl (l' := #[.val (.int p1), .val (.int p2), .val (.int p3), .val (.int p4), .val (.int p5), .val (.int p6), .val (.int (p1 &&& (255 : Int32))), .val (.int (p2 &&& (255 : Int32))), .val (.int (p3 &&& (255 : Int32))), .val (.int (us &&& (255 : Int32))), .val (.int nv), .val (.int kv), .val (.ref b125), .val (.ref b129), .val (.int (1 : Int32)), .val (.int (1 : Int32)), .unset]) rfl k₀) ?_
            show F T145 (mkF m 174 #[.val (.int p1), .val (.int p2), .val (.int p3), .val (.int p4), .val (.int p5), .val (.int p6), .val (.int (p1 &&& (255 : Int32))), .val (.int (p2 &&& (255 : Int32))), .val (.int (p3 &&& (255 : Int32))), .val (.int (us &&& (255 : Int32))), .val (.int nv), .val (.int kv), .val (.ref b125), .val (.ref b129), .val (.int (1 : Int32)), .val (.int (1 : Int32)), .unset] [])
            refine hst (fun t₀ k₀ => XS.iconst X145.here hx rfl (hb hby at_174) k₀) ?_
            show F T145 (mkF m 175 #[.val (.int p1), .val (.int p2), .val (.int p3), .val (.int p4), .val (.int p5), .val (.int p6), .val (.int (p1 &&& (255 : Int32))), .val (.int (p2 &&& (255 : Int32))), .val (.int (p3 &&& (255 : Int32))), .val (.int (us &&& (255 : Int32))), .val (.int nv), .val (.int kv), .val (.ref b125), .val (.ref b129), .val (.int (1 : Int32)), .val (.int (1 : Int32)), .unset] [(.int (1 : Int32))])
            refine hst (fun t₀ k₀ => XS.iload X145.here hx rfl (hb hby at_175) rfl k₀) ?_
            show F T145 (mkF m 177 #[.val (.int p1), .val (.int p2), .val (.int p3), .val (.int p4), .val (.int p5), .val (.int p6), .val (.int (p1 &&& (255 : Int32))), .val (.int (p2 &&& (255 : Int32))), .val (.int (p3 &&& (255 : Int32))), .val (.int (us &&& (255 : Int32))), .val (.int nv), .val (.int kv), .val (.ref b125), .val (.ref b129), .val (.int (1 : Int32)), .val (.int (1 : Int32)), .unset] [(.int (1 : Int32)), (.int (1 : Int32))])
            refine hst (fun t₀ k₀ => XS.ifNo X145.here hx rfl (hb hby at_177) rfl ((if0 _ _).trans (feq (by decide)).1) k₀) ?_
            show F T145 (mkF m 180 #[.val (.int p1), .val (.int p2), .val (.int p3), .val (.int p4), .val (.int p5), .val (.int p6), .val (.int (p1 &&& (255 : Int32))), .val (.int (p2 &&& (255 : Int32))), .val (.int (p3 &&& (255 : Int32))), .val (.int (us &&& (255 : Int32))), .val (.int nv), .val (.int kv), .val (.ref b125), .val (.ref b129), .val (.int (1 : Int32)), .val (.int (1 : Int32)), .unset] [(.int (1 : Int32))])
            refine hst (fun t₀ k₀ => XS.iconst X145.here hx rfl (hb hby at_180) k₀) ?_
            show F T145 (mkF m 181 #[.val (.int p1), .val (.int p2), .val (.int p3), .val (.int p4), .val (.int p5), .val (.int p6), .val (.int (p1 &&& (255 : Int32))), .val (.int (p2 &&& (255 : Int32))), .val (.int (p3 &&& (255 : Int32))), .val (.int (us &&& (255 : Int32))), .val (.int nv), .val (.int kv), .val (.ref b125), .val (.ref b129), .val (.int (1 : Int32)), .val (.int (1 : Int32)), .unset] [(.int (1 : Int32)), (.int (1 : Int32))])
            refine hst (fun t₀ k₀ => XS.goto X145.here hx rfl (pc0 := 181) (pc' := 185) rfl (hb hby at_181) (by decide) (by decide) k₀) ?_
            show F T145 (mkF m 185 #[.val (.int p1), .val (.int p2), .val (.int p3), .val (.int p4), .val (.int p5), .val (.int p6), .val (.int (p1 &&& (255 : Int32))), .val (.int (p2 &&& (255 : Int32))), .val (.int (p3 &&& (255 : Int32))), .val (.int (us &&& (255 : Int32))), .val (.int nv), .val (.int kv), .val (.ref b125), .val (.ref b129), .val (.int (1 : Int32)), .val (.int (1 : Int32)), .unset] [(.int (1 : Int32)), (.int (1 : Int32))])
            refine hst (fun t₀ k₀ => XS.iadd X145.here hx rfl (hb hby at_185) rfl k₀) ?_
            show F T145 (mkF m 186 #[.val (.int p1), .val (.int p2), .val (.int p3), .val (.int p4), .val (.int p5), .val (.int p6), .val (.int (p1 &&& (255 : Int32))), .val (.int (p2 &&& (255 : Int32))), .val (.int (p3 &&& (255 : Int32))), .val (.int (us &&& (255 : Int32))), .val (.int nv), .val (.int kv), .val (.ref b125), .val (.ref b129), .val (.int (1 : Int32)), .val (.int (1 : Int32)), .unset] [(.int ((1 : Int32) + (1 : Int32)))])
            refine hst (fun t₀ k₀ => XS.iload X145.here hx rfl (hb hby at_186) rfl k₀) ?_
            show F T145 (mkF m 188 #[.val (.int p1), .val (.int p2), .val (.int p3), .val (.int p4), .val (.int p5), .val (.int p6), .val (.int (p1 &&& (255 : Int32))), .val (.int (p2 &&& (255 : Int32))), .val (.int (p3 &&& (255 : Int32))), .val (.int (us &&& (255 : Int32))), .val (.int nv), .val (.int kv), .val (.ref b125), .val (.ref b129), .val (.int (1 : Int32)), .val (.int (1 : Int32)), .unset] [(.int (1 : Int32)), (.int ((1 : Int32) + (1 : Int32)))])
            refine hst (fun t₀ k₀ => XS.ifNo X145.here hx rfl (hb hby at_188) rfl ((if0 _ _).trans (feq (by decide)).1) k₀) ?_
            show F T145 (mkF m 191 #[.val (.int p1), .val (.int p2), .val (.int p3), .val (.int p4), .val (.int p5), .val (.int p6), .val (.int (p1 &&& (255 : Int32))), .val (.int (p2 &&& (255 : Int32))), .val (.int (p3 &&& (255 : Int32))), .val (.int (us &&& (255 : Int32))), .val (.int nv), .val (.int kv), .val (.ref b125), .val (.ref b129), .val (.int (1 : Int32)), .val (.int (1 : Int32)), .unset] [(.int ((1 : Int32) + (1 : Int32)))])
            refine hst (fun t₀ k₀ => XS.iconst X145.here hx rfl (hb hby at_191) k₀) ?_
            show F T145 (mkF m 192 #[.val (.int p1), .val (.int p2), .val (.int p3), .val (.int p4), .val (.int p5), .val (.int p6), .val (.int (p1 &&& (255 : Int32))), .val (.int (p2 &&& (255 : Int32))), .val (.int (p3 &&& (255 : Int32))), .val (.int (us &&& (255 : Int32))), .val (.int nv), .val (.int kv), .val (.ref b125), .val (.ref b129), .val (.int (1 : Int32)), .val (.int (1 : Int32)), .unset] [(.int (2 : Int32)), (.int ((1 : Int32) + (1 : Int32)))])
            refine hst (fun t₀ k₀ => XS.goto X145.here hx rfl (pc0 := 192) (pc' := 196) rfl (hb hby at_192) (by decide) (by decide) k₀) ?_
            show F T145 (mkF m 196 #[.val (.int p1), .val (.int p2), .val (.int p3), .val (.int p4), .val (.int p5), .val (.int p6), .val (.int (p1 &&& (255 : Int32))), .val (.int (p2 &&& (255 : Int32))), .val (.int (p3 &&& (255 : Int32))), .val (.int (us &&& (255 : Int32))), .val (.int nv), .val (.int kv), .val (.ref b125), .val (.ref b129), .val (.int (1 : Int32)), .val (.int (1 : Int32)), .unset] [(.int (2 : Int32)), (.int ((1 : Int32) + (1 : Int32)))])
            refine hst (fun t₀ k₀ => XS.iadd X145.here hx rfl (hb hby at_196) rfl k₀) ?_
            show F T145 (mkF m 197 #[.val (.int p1), .val (.int p2), .val (.int p3), .val (.int p4), .val (.int p5), .val (.int p6), .val (.int (p1 &&& (255 : Int32))), .val (.int (p2 &&& (255 : Int32))), .val (.int (p3 &&& (255 : Int32))), .val (.int (us &&& (255 : Int32))), .val (.int nv), .val (.int kv), .val (.ref b125), .val (.ref b129), .val (.int (1 : Int32)), .val (.int (1 : Int32)), .unset] [(.int (((1 : Int32) + (1 : Int32)) + (2 : Int32)))])
            refine hst (fun t₀ k₀ => XS.istore X145.here hx rfl (hb hby at_197) rfl (l' := #[.val (.int p1), .val (.int p2), .val (.int p3), .val (.int p4), .val (.int p5), .val (.int p6), .val (.int (p1 &&& (255 : Int32))), .val (.int (p2 &&& (255 : Int32))), .val (.int (p3 &&& (255 : Int32))), .val (.int (us &&& (255 : Int32))), .val (.int nv), .val (.int kv), .val (.ref b125), .val (.ref b129), .val (.int (1 : Int32)), .val (.int (1 : Int32)), .val (.int (((1 : Int32) + (1 : Int32)) + (2 : Int32)))]) rfl k₀) ?_
            show F T145 (mkF m 199 #[.val (.int p1), .val (.int p2), .val (.int p3), .val (.int p4), .val (.int p5), .val (.int p6), .val (.int (p1 &&& (255 : Int32))), .val (.int (p2 &&& (255 : Int32))), .val (.int (p3 &&& (255 : Int32))), .val (.int (us &&& (255 : Int32))), .val (.int nv), .val (.int kv), .val (.ref b125), .val (.ref b129), .val (.int (1 : Int32)), .val (.int (1 : Int32)), .val (.int (((1 : Int32) + (1 : Int32)) + (2 : Int32)))] [])
            refine hst (fun t₀ k₀ => XS.aload X145.here hx rfl (hb hby at_199) rfl rfl k₀) ?_
            show F T145 (mkF m 201 #[.val (.int p1), .val (.int p2), .val (.int p3), .val (.int p4), .val (.int p5), .val (.int p6), .val (.int (p1 &&& (255 : Int32))), .val (.int (p2 &&& (255 : Int32))), .val (.int (p3 &&& (255 : Int32))), .val (.int (us &&& (255 : Int32))), .val (.int nv), .val (.int kv), .val (.ref b125), .val (.ref b129), .val (.int (1 : Int32)), .val (.int (1 : Int32)), .val (.int (((1 : Int32) + (1 : Int32)) + (2 : Int32)))] [(.ref b129)])
            obtain ⟨v201, T201, Lc201, X201, hQ201, st201⟩ := own_callV X145 hx hZ hown (y := (⟨"com/example/seamark/seamark/transport/CommandApdu", "isoCase", "()I"⟩ : MethodName)) (hw _ (List.mem_of_getElem? (i := 44) rfl)) (hw _ (List.mem_of_getElem? (i := 45) rfl)) (hw _ (List.mem_of_getElem? (i := 47) rfl)) (hw _ (List.mem_of_getElem? (i := 46) rfl)) (hw _ (List.mem_of_getElem? (i := 3) rfl)) (hw _ (List.mem_of_getElem? (i := 48) rfl)) (by decide) rfl q1_145 (rm4 l Z a0 hw [] b129 bd145 255 (fun _ => (0 : Int32)) nv T145.heap n0 Z0_p145 q7_145 q8_145 q6_145 (by decide)) (by decide) (by decide) (g := (mkF m 201 #[.val (.int p1), .val (.int p2), .val (.int p3), .val (.int p4), .val (.int p5), .val (.int p6), .val (.int (p1 &&& (255 : Int32))), .val (.int (p2 &&& (255 : Int32))), .val (.int (p3 &&& (255 : Int32))), .val (.int (us &&& (255 : Int32))), .val (.int nv), .val (.int kv), .val (.ref b125), .val (.ref b129), .val (.int (1 : Int32)), .val (.int (1 : Int32)), .val (.int (((1 : Int32) + (1 : Int32)) + (2 : Int32)))] [(.ref b129)])) rfl (by rw [hml]; rfl) (argsL := []) (rest := []) (lenOf pd_0 rfl) rfl rfl (W := 0) (by show 2 * 0 + _ ≤ _; exact Nat.le_of_eq rfl) (hb hby at_201) (by decide) (by decide)
            obtain ⟨rfl, Nq201, he201⟩ := hQ201
            have N201 := Fr.app N145 Nq201
            refine hst st201 ?_
            show F T201 (mkF m 204 #[.val (.int p1), .val (.int p2), .val (.int p3), .val (.int p4), .val (.int p5), .val (.int p6), .val (.int (p1 &&& (255 : Int32))), .val (.int (p2 &&& (255 : Int32))), .val (.int (p3 &&& (255 : Int32))), .val (.int (us &&& (255 : Int32))), .val (.int nv), .val (.int kv), .val (.ref b125), .val (.ref b129), .val (.int (1 : Int32)), .val (.int (1 : Int32)), .val (.int (((1 : Int32) + (1 : Int32)) + (2 : Int32)))] [(.int (own_iso 255 nv))])
            refine hst (fun t₀ k₀ => XS.iload X201.here hx rfl (hb hby at_204) rfl k₀) ?_
            show F T201 (mkF m 206 #[.val (.int p1), .val (.int p2), .val (.int p3), .val (.int p4), .val (.int p5), .val (.int p6), .val (.int (p1 &&& (255 : Int32))), .val (.int (p2 &&& (255 : Int32))), .val (.int (p3 &&& (255 : Int32))), .val (.int (us &&& (255 : Int32))), .val (.int nv), .val (.int kv), .val (.ref b125), .val (.ref b129), .val (.int (1 : Int32)), .val (.int (1 : Int32)), .val (.int (((1 : Int32) + (1 : Int32)) + (2 : Int32)))] [(.int (((1 : Int32) + (1 : Int32)) + (2 : Int32))), (.int (own_iso 255 nv))])
            refine hst (fun t₀ k₀ => XS.icmpNo X201.here hx rfl (hb hby at_206) rfl (teq (by unfold own_iso; rw [if_neg (by decide), if_neg hc164]; decide)).2 k₀) ?_
            show F T201 (mkF m 209 #[.val (.int p1), .val (.int p2), .val (.int p3), .val (.int p4), .val (.int p5), .val (.int p6), .val (.int (p1 &&& (255 : Int32))), .val (.int (p2 &&& (255 : Int32))), .val (.int (p3 &&& (255 : Int32))), .val (.int (us &&& (255 : Int32))), .val (.int nv), .val (.int kv), .val (.ref b125), .val (.ref b129), .val (.int (1 : Int32)), .val (.int (1 : Int32)), .val (.int (((1 : Int32) + (1 : Int32)) + (2 : Int32)))] [])
            refine hst (fun t₀ k₀ => XS.iconst X201.here hx rfl (hb hby at_209) k₀) ?_
            show F T201 (mkF m 210 #[.val (.int p1), .val (.int p2), .val (.int p3), .val (.int p4), .val (.int p5), .val (.int p6), .val (.int (p1 &&& (255 : Int32))), .val (.int (p2 &&& (255 : Int32))), .val (.int (p3 &&& (255 : Int32))), .val (.int (us &&& (255 : Int32))), .val (.int nv), .val (.int kv), .val (.ref b125), .val (.ref b129), .val (.int (1 : Int32)), .val (.int (1 : Int32)), .val (.int (((1 : Int32) + (1 : Int32)) + (2 : Int32)))] [(.int (1 : Int32))])
            refine hst (fun t₀ k₀ => XS.goto X201.here hx rfl (pc0 := 210) (pc' := 214) rfl (hb hby at_210) (by decide) (by decide) k₀) ?_
            show F T201 (mkF m 214 #[.val (.int p1), .val (.int p2), .val (.int p3), .val (.int p4), .val (.int p5), .val (.int p6), .val (.int (p1 &&& (255 : Int32))), .val (.int (p2 &&& (255 : Int32))), .val (.int (p3 &&& (255 : Int32))), .val (.int (us &&& (255 : Int32))), .val (.int nv), .val (.int kv), .val (.ref b125), .val (.ref b129), .val (.int (1 : Int32)), .val (.int (1 : Int32)), .val (.int (((1 : Int32) + (1 : Int32)) + (2 : Int32)))] [(.int (1 : Int32))])
            rw [hF]
            refine own_retNW X201 hS145 (by rw [he201]; exact (Nat.le_refl _)) hx hret (by simp) hlk (hb hby at_214) (by decide) (by decide) ?_
            rw [he201]
            exact ⟨rfl, N201⟩
  by_cases hc35 : (p6 &&& (1 : Int32)) = (0 : Int32)
  · -- pc 35: taken
    refine hst (fun t₀ k₀ => XS.ifYes XI.here hx rfl (pc0 := 35) (pc' := 44) rfl (hb hby at_35) rfl ((if0 _ _).trans (teq hc35).1) (by decide) (by decide) k₀) ?_
    show F s₁ (mkF m 44 #[.val (.int p1), .val (.int p2), .val (.int p3), .val (.int p4), .val (.int p5), .val (.int p6), .val (.int (p1 &&& (255 : Int32))), .val (.int (p2 &&& (255 : Int32))), .val (.int (p3 &&& (255 : Int32))), .val (.int (us &&& (255 : Int32))), .unset, .unset, .unset, .unset, .unset, .unset, .unset] [])
    refine hst (fun t₀ k₀ => XS.iload XI.here hx rfl (hb hby at_44) rfl k₀) ?_
    show F s₁ (mkF m 46 #[.val (.int p1), .val (.int p2), .val (.int p3), .val (.int p4), .val (.int p5), .val (.int p6), .val (.int (p1 &&& (255 : Int32))), .val (.int (p2 &&& (255 : Int32))), .val (.int (p3 &&& (255 : Int32))), .val (.int (us &&& (255 : Int32))), .unset, .unset, .unset, .unset, .unset, .unset, .unset] [(.int p5)])
    refine hst (fun t₀ k₀ => XI.ldcI hx hown (mvT hZ (hw _ (List.mem_of_getElem? (i := 49) rfl))) (g := (mkF m 46 #[.val (.int p1), .val (.int p2), .val (.int p3), .val (.int p4), .val (.int p5), .val (.int p6), .val (.int (p1 &&& (255 : Int32))), .val (.int (p2 &&& (255 : Int32))), .val (.int (p3 &&& (255 : Int32))), .val (.int (us &&& (255 : Int32))), .unset, .unset, .unset, .unset, .unset, .unset, .unset] [(.int p5)])) rfl (hb hby at_46) k₀) ?_
    show F s₁ (mkF m 48 #[.val (.int p1), .val (.int p2), .val (.int p3), .val (.int p4), .val (.int p5), .val (.int p6), .val (.int (p1 &&& (255 : Int32))), .val (.int (p2 &&& (255 : Int32))), .val (.int (p3 &&& (255 : Int32))), .val (.int (us &&& (255 : Int32))), .unset, .unset, .unset, .unset, .unset, .unset, .unset] [(.int (2147483647 : Int32)), (.int p5)])
    refine hst (fun t₀ k₀ => XS.iand XI.here hx rfl (hb hby at_48) rfl k₀) ?_
    show F s₁ (mkF m 49 #[.val (.int p1), .val (.int p2), .val (.int p3), .val (.int p4), .val (.int p5), .val (.int p6), .val (.int (p1 &&& (255 : Int32))), .val (.int (p2 &&& (255 : Int32))), .val (.int (p3 &&& (255 : Int32))), .val (.int (us &&& (255 : Int32))), .unset, .unset, .unset, .unset, .unset, .unset, .unset] [(.int (p5 &&& (2147483647 : Int32)))])
    refine hst (fun t₀ k₀ => XS.sipush XI.here hx rfl (hb hby at_49) k₀) ?_
    show F s₁ (mkF m 52 #[.val (.int p1), .val (.int p2), .val (.int p3), .val (.int p4), .val (.int p5), .val (.int p6), .val (.int (p1 &&& (255 : Int32))), .val (.int (p2 &&& (255 : Int32))), .val (.int (p3 &&& (255 : Int32))), .val (.int (us &&& (255 : Int32))), .unset, .unset, .unset, .unset, .unset, .unset, .unset] [(.int (257 : Int32)), (.int (p5 &&& (2147483647 : Int32)))])
    refine hst (fun t₀ k₀ => iremM XI hx rfl (hb hby at_52) rfl (by decide) k₀) ?_
    show F s₁ (mkF m 53 #[.val (.int p1), .val (.int p2), .val (.int p3), .val (.int p4), .val (.int p5), .val (.int p6), .val (.int (p1 &&& (255 : Int32))), .val (.int (p2 &&& (255 : Int32))), .val (.int (p3 &&& (255 : Int32))), .val (.int (us &&& (255 : Int32))), .unset, .unset, .unset, .unset, .unset, .unset, .unset] [(.int ((p5 &&& (2147483647 : Int32)) % (257 : Int32)))])
    refine hst (fun t₀ k₀ => XS.istore XI.here hx rfl (hb hby at_53) rfl (l' := #[.val (.int p1), .val (.int p2), .val (.int p3), .val (.int p4), .val (.int p5), .val (.int p6), .val (.int (p1 &&& (255 : Int32))), .val (.int (p2 &&& (255 : Int32))), .val (.int (p3 &&& (255 : Int32))), .val (.int (us &&& (255 : Int32))), .val (.int ((p5 &&& (2147483647 : Int32)) % (257 : Int32))), .unset, .unset, .unset, .unset, .unset, .unset]) rfl k₀) ?_
    show F s₁ (mkF m 55 #[.val (.int p1), .val (.int p2), .val (.int p3), .val (.int p4), .val (.int p5), .val (.int p6), .val (.int (p1 &&& (255 : Int32))), .val (.int (p2 &&& (255 : Int32))), .val (.int (p3 &&& (255 : Int32))), .val (.int (us &&& (255 : Int32))), .val (.int ((p5 &&& (2147483647 : Int32)) % (257 : Int32))), .unset, .unset, .unset, .unset, .unset, .unset] [])
    exact J55 ((p5 &&& (2147483647 : Int32)) % (257 : Int32)) (own_in256 _)
  · -- pc 35: not taken
    refine hst (fun t₀ k₀ => XS.ifNo XI.here hx rfl (hb hby at_35) rfl ((if0 _ _).trans (feq hc35).1) k₀) ?_
    show F s₁ (mkF m 38 #[.val (.int p1), .val (.int p2), .val (.int p3), .val (.int p4), .val (.int p5), .val (.int p6), .val (.int (p1 &&& (255 : Int32))), .val (.int (p2 &&& (255 : Int32))), .val (.int (p3 &&& (255 : Int32))), .val (.int (us &&& (255 : Int32))), .unset, .unset, .unset, .unset, .unset, .unset, .unset] [])
    refine hst (fun t₀ k₀ => XS.iconst XI.here hx rfl (hb hby at_38) k₀) ?_
    show F s₁ (mkF m 39 #[.val (.int p1), .val (.int p2), .val (.int p3), .val (.int p4), .val (.int p5), .val (.int p6), .val (.int (p1 &&& (255 : Int32))), .val (.int (p2 &&& (255 : Int32))), .val (.int (p3 &&& (255 : Int32))), .val (.int (us &&& (255 : Int32))), .unset, .unset, .unset, .unset, .unset, .unset, .unset] [(.int (0 : Int32))])
    refine hst (fun t₀ k₀ => XS.istore XI.here hx rfl (hb hby at_39) rfl (l' := #[.val (.int p1), .val (.int p2), .val (.int p3), .val (.int p4), .val (.int p5), .val (.int p6), .val (.int (p1 &&& (255 : Int32))), .val (.int (p2 &&& (255 : Int32))), .val (.int (p3 &&& (255 : Int32))), .val (.int (us &&& (255 : Int32))), .val (.int (0 : Int32)), .unset, .unset, .unset, .unset, .unset, .unset]) rfl k₀) ?_
    show F s₁ (mkF m 41 #[.val (.int p1), .val (.int p2), .val (.int p3), .val (.int p4), .val (.int p5), .val (.int p6), .val (.int (p1 &&& (255 : Int32))), .val (.int (p2 &&& (255 : Int32))), .val (.int (p3 &&& (255 : Int32))), .val (.int (us &&& (255 : Int32))), .val (.int (0 : Int32)), .unset, .unset, .unset, .unset, .unset, .unset] [])
    refine hst (fun t₀ k₀ => XS.goto XI.here hx rfl (pc0 := 41) (pc' := 55) rfl (hb hby at_41) (by decide) (by decide) k₀) ?_
    show F s₁ (mkF m 55 #[.val (.int p1), .val (.int p2), .val (.int p3), .val (.int p4), .val (.int p5), .val (.int p6), .val (.int (p1 &&& (255 : Int32))), .val (.int (p2 &&& (255 : Int32))), .val (.int (p3 &&& (255 : Int32))), .val (.int (us &&& (255 : Int32))), .val (.int (0 : Int32)), .unset, .unset, .unset, .unset, .unset, .unset] [])
    exact J55 (0 : Int32) (by unfold own_in; decide)
set_option maxRecDepth 65536 in
set_option maxHeartbeats 40000000 in
theorem comes_1 {Post : Tables → Env → Array Value → State → Outcome → State → Prop} (hpost : ∀ tb e args s v u, (limb_1_1.after args s (.returned v) u = true ∧ limb_1_2.after args s (.returned v) u = true ∧ True) → ReturnedEndW s (.returned v) u (Jvm.fieldLocs frame_1_writes args s ++ Jvm.arrayLocs frame_1_arrays args s ++ Jvm.staticLocs frame_1_statics s) 24 5248 → Post tb e args s (.returned v) u) :
    ArmFor flags0 classFile x code maxLocals ret World_1 tables_1 room_1 Calls_1 rest_1 Pre_1 Post := by
  intro l hfl _ _ p e ha hc hk s m args below hf hA hF happ hP
  obtain ⟨hcalls, hrest, hpre⟩ := hP
  obtain ⟨-, -, -, hnamed, -, -, -, hat⟩ := (Spec.applies_iff hf).mp happ
  obtain ⟨hg, hn⟩ := and_e (Cond.before_iff.mp (show (Jvm.Cond.and given_1 narrow_1).before args s = true from hpre))
  obtain ⟨g1, g2⟩ := and_e hg
  obtain ⟨g3, g4⟩ := and_e g2
  obtain ⟨g5, g6⟩ := and_e g4
  obtain ⟨g7, g8⟩ := and_e g6
  obtain ⟨g9, g10⟩ := and_e g8
  obtain ⟨g11, g12⟩ := and_e g10
  obtain ⟨w0, w1, w2, w3, w4, w5, rfl⟩ : ∃ w0 w1 w2 w3 w4 w5 : Value, args = #[w0, w1, w2, w3, w4, w5] := by
    have hs : args.size = 6 := by simpa [Cond.value, given_1] using g1
    obtain ⟨L⟩ := args
    match L, hs with
    | [w0, w1, w2, w3, w4, w5], _ => exact ⟨w0, w1, w2, w3, w4, w5, rfl⟩
  have hw := fun d (hd : d ∈ tables_1) => atoms_spec (ws := Jvm.Cond.code x code maxLocals ret :: tables_1) hat d (List.mem_cons_of_mem _ hd)
  obtain ⟨i0, ei0⟩ := is_v g3
  obtain rfl : w0 = (.int i0) := Option.some.inj ei0
  obtain ⟨i1, ei1⟩ := is_v g5
  obtain rfl : w1 = (.int i1) := Option.some.inj ei1
  obtain ⟨i2, ei2⟩ := is_v g7
  obtain rfl : w2 = (.int i2) := Option.some.inj ei2
  obtain ⟨i3, ei3⟩ := is_v g9
  obtain rfl : w3 = (.int i3) := Option.some.inj ei3
  obtain ⟨i4, ei4⟩ := is_v g11
  obtain rfl : w4 = (.int i4) := Option.some.inj ei4
  obtain ⟨i5, ei5⟩ := is_v g12
  obtain rfl : w5 = (.int i5) := Option.some.inj ei5
  obtain ⟨n, o, h1, h2, h3, _, L, rfl, ⟨rfl, N⟩, hq⟩ := rm0 l s _ hw tables_1 i0 i1 i2 i3 i4 i5 s.heap s.heap.size (Nat.le_refl _) p e ha hc hk s m _ below hf ((Spec.applies_iff_loose hf).mp happ).1 ⟨rfl, State.Warmed39.refl s, rfl⟩ trivial
  refine ⟨n, _, h1, h2, h3, hpost _ _ _ _ _ _ ⟨Cond.after_iff.mpr rfl, Cond.after_iff.mpr (eq_i res_at (Term.int_eval (1)) rfl), trivial⟩ ⟨hq.1, hq.2.1, hq.2.2.1, (hq.2.2.2.sift fun y hy => Or.inr (N y hy)).mono (by decide) (by decide)⟩⟩
theorem main_1_1 : Claimed_1_1 := comes_1 fun _ _ _ _ _ _ h hF => ⟨h.1, hF⟩
theorem main_1_2 : Claimed_1_2 := comes_1 fun _ _ _ _ _ _ h hF => ⟨h.2.1, hF⟩
end Jvm.Pilot.@@N@@
namespace Jvm.Pilot.@@N@@
open Jvm Jvm.ClassFile Sem Op Lib Jvm.Free Jvm.Stand Jvm.Pilot.@@N@@.Jvm.D
/-! MADE BY PROGRAM (witnessworld.py) out of the Statement's table words and the real class files: 14 classes; the members and pool entries that the words name. The judged class is class 1, her method 1. -/
namespace start1
open Jvm.ClassFile
def u (s : String) : CpInfo := .utf8 (stringToUtf16 s)
/-- a pool by its gaps: so many unusable entries, then the entry; so many at the end -/
def gap : Nat → List CpInfo → List CpInfo
  | 0, r => r
  | n + 1, r => .unusable :: gap n r
def poolList (es : List (Nat × CpInfo)) (last : Nat) : List CpInfo := es.foldr (fun e r => gap e.1 (e.2 :: r)) (gap last [])
def pool (es : List (Nat × CpInfo)) (last : Nat) : Array CpInfo := ⟨poolList es last⟩
def fileOf (pool : Array CpInfo) (this : Nat) (attrs : Array Attribute := #[]) (ms : Array MethodInfo := #[]) (fl : Nat := 33) (sup : Nat := 0) (ifs : Array Nat := #[]) (fds : Array FieldInfo := #[]) : ClassFile where
  minorVersion := 0
  majorVersion := 65
  constantPool := pool
  accessFlags := fl
  thisClass := this
  superClass := sup
  interfaces := ifs
  fields := fds
  methods := ms
  attributes := attrs
def plain (name : String) (sup : Option ClassId) : Class where
  name := name
  kind := .ordinary
  loader := none
  accessFlags := 33
  super := sup
  interfaces := #[]
  cf := none
  fields := #[]
  methods := #[]
  instanceTypes := #[]
  staticTypes := #[]
  resolved := #[]
  callSites := []
  init := .initialized
  statics := none
  mirror := none

def pool0 : Array CpInfo := pool [(5, u "<init>"), (0, u "()V"), (1, .class_ 10), (1, u "java/lang/Object"), (85, u "clone"), (0, u "()Ljava/lang/Object;")] 26

def k0c0 : Code := { maxStack := 0, maxLocals := 1, code := object_method_1_code, exceptionTable := #[], attributes := #[] }
def k0m0 : Method := { name := "<init>", desc := "()V", sig := { parameters := [], returnType := none }, accessFlags := 1, code := some k0c0 }
def k0m1 : Method := { name := "clone", desc := "()Ljava/lang/Object;", sig := { parameters := [], returnType := some (.object "java/lang/Object") }, accessFlags := 260, code := none }
/-- java/lang/Object -/
def k0 : Class := { plain "java/lang/Object" none with
  accessFlags := 33
  interfaces := #[]
  cf := some (fileOf pool0 8 #[] #[{ accessFlags := 1, nameIndex := 5, descriptorIndex := 6, attributes := #[] }, { accessFlags := 260, nameIndex := 96, descriptorIndex := 97, attributes := #[] }] 33 0 #[] #[])
  fields := #[]
  methods := #[k0m0, k0m1]
  instanceTypes := #[]
  staticTypes := #[]
  resolved := Array.replicate 124 none
  statics := none }

def pool1 : Array CpInfo := pool [(2, .class_ 4), (1, u "java/lang/Object"), (0, u "<init>"), (0, u "()V"), (0, .integer 2147483647), (0, .class_ 9), (0, u "com/example/seamark/seamark/transport/CommandApdu"), (0, .methodref 8 11), (0, .nameAndType 5 12), (0, u "(IIII[BI)V"), (0, .methodref 8 14), (0, .nameAndType 15 16), (0, u "isoCase"), (0, u "()I"), (0, .class_ 18), (0, u "com/example/seamark/seamark/transport/CommandApduIsoCasePinLaw"), (2, u "law"), (0, u "(IIIIII)Z")] 5

def k1m0 : Method := { name := "<init>", desc := "()V", sig := { parameters := [], returnType := none }, accessFlags := 1, code := none }
def k1c1 : Code := { maxStack := 8, maxLocals := 17, code := code, exceptionTable := #[], attributes := #[] }
def k1m1 : Method := { name := "law", desc := "(IIIIII)Z", sig := { parameters := [.int, .int, .int, .int, .int, .int], returnType := some .boolean }, accessFlags := 9, code := some k1c1 }
/-- com/example/seamark/seamark/transport/CommandApduIsoCasePinLaw -/
def k1 : Class := { plain "com/example/seamark/seamark/transport/CommandApduIsoCasePinLaw" (some 0) with
  accessFlags := 49
  interfaces := #[]
  cf := some (fileOf pool1 17 #[] #[{ accessFlags := 1, nameIndex := 5, descriptorIndex := 6, attributes := #[] }, { accessFlags := 9, nameIndex := 21, descriptorIndex := 22, attributes := #[] }] 49 2 #[] #[])
  fields := #[]
  methods := #[k1m0, k1m1]
  instanceTypes := #[]
  staticTypes := #[]
  resolved := Array.replicate 28 none
  statics := none }

def pool2 : Array CpInfo := pool [(1, .methodref 2 3), (0, .class_ 4), (0, .nameAndType 5 6), (0, u "java/lang/Object"), (0, u "<init>"), (0, u "()V"), (0, .string 8), (0, u "CLA"), (0, .methodref 10 11), (0, .class_ 12), (0, .nameAndType 13 14), (0, u "com/example/seamark/seamark/transport/CommandApdu"), (0, u "requireByte"), (0, u "(Ljava/lang/String;I)I"), (0, .fieldref 10 16), (0, .nameAndType 17 18), (0, u "cla"), (0, u "I"), (0, .string 20), (0, u "INS"), (0, .fieldref 10 22), (0, .nameAndType 23 18), (0, u "ins"), (0, .string 25), (0, u "P1"), (0, .fieldref 10 27), (0, .nameAndType 28 18), (0, u "p1"), (0, .string 30), (0, u "P2"), (0, .fieldref 10 32), (0, .nameAndType 33 18), (0, u "p2"), (10, .methodref 45 46), (0, .class_ 47), (0, .nameAndType 48 49), (0, u "[B"), (0, u "clone"), (0, u "()Ljava/lang/Object;"), (0, .fieldref 10 51), (0, .nameAndType 52 47), (0, u "data"), (0, .fieldref 10 54), (0, .nameAndType 55 18), (0, u "ne"), (3, u "NO_DATA"), (2, u "(IIII[BI)V"), (62, u "BASIC_CHANNEL"), (2, u "MAX_CHANNEL"), (1, u "MAX_DATA"), (1, u "MAX_NE"), (1, u "INS_MANAGE_CHANNEL"), (1, u "P1_OPEN_CHANNEL"), (0, u "P1_CLOSE_CHANNEL"), (1, u "INS_SELECT"), (1, u "P1_SELECT_BY_NAME"), (1, u "MIN_AID"), (1, u "MAX_AID"), (1, u "P2_NO_RESPONSE_DATA"), (1, u "P2_OCCURRENCE"), (1, u "FIRST_OCCURRENCE"), (0, u "NEXT_OCCURRENCE"), (1, u "INS_GET_RESPONSE"), (1, u "FURTHER_FORM"), (1, u "KEPT_BITS"), (1, u "FIRST_FORM_SECURE_MESSAGING"), (0, u "FURTHER_FORM_SECURE_MESSAGING"), (1, u "FIRST_FORM_SECURE_MESSAGING_PLAIN_HEADER"), (12, u "()I"), (6, u "isoCase")] 37

def k2c0 : Code := { maxStack := 3, maxLocals := 7, code := prog_45_method_1_code, exceptionTable := #[], attributes := #[] }
def k2m0 : Method := { name := "<init>", desc := "(IIII[BI)V", sig := { parameters := [.int, .int, .int, .int, (.array .byte), .int], returnType := none }, accessFlags := 1, code := some k2c0 }
def k2c1 : Code := { maxStack := 1, maxLocals := 1, code := prog_45_method_18_code, exceptionTable := #[], attributes := #[] }
def k2m1 : Method := { name := "isoCase", desc := "()I", sig := { parameters := [], returnType := some .int }, accessFlags := 1, code := some k2c1 }
def k2c2 : Code := { maxStack := 4, maxLocals := 2, code := prog_45_method_25_code, exceptionTable := #[], attributes := #[] }
def k2m2 : Method := { name := "requireByte", desc := "(Ljava/lang/String;I)I", sig := { parameters := [(.object "java/lang/String"), .int], returnType := some .int }, accessFlags := 10, code := some k2c2 }
/-- com/example/seamark/seamark/transport/CommandApdu -/
def k2 : Class := { plain "com/example/seamark/seamark/transport/CommandApdu" (some 0) with
  accessFlags := 49
  interfaces := #[]
  cf := some (fileOf pool2 10 #[] #[{ accessFlags := 1, nameIndex := 5, descriptorIndex := 62, attributes := #[] }, { accessFlags := 1, nameIndex := 183, descriptorIndex := 176, attributes := #[] }, { accessFlags := 10, nameIndex := 13, descriptorIndex := 14, attributes := #[] }] 49 2 #[] #[{ accessFlags := 25, nameIndex := 125, descriptorIndex := 18, attributes := #[] }, { accessFlags := 25, nameIndex := 128, descriptorIndex := 18, attributes := #[] }, { accessFlags := 25, nameIndex := 130, descriptorIndex := 18, attributes := #[] }, { accessFlags := 25, nameIndex := 132, descriptorIndex := 18, attributes := #[] }, { accessFlags := 25, nameIndex := 134, descriptorIndex := 18, attributes := #[] }, { accessFlags := 25, nameIndex := 136, descriptorIndex := 18, attributes := #[] }, { accessFlags := 25, nameIndex := 137, descriptorIndex := 18, attributes := #[] }, { accessFlags := 25, nameIndex := 139, descriptorIndex := 18, attributes := #[] }, { accessFlags := 25, nameIndex := 141, descriptorIndex := 18, attributes := #[] }, { accessFlags := 25, nameIndex := 143, descriptorIndex := 18, attributes := #[] }, { accessFlags := 25, nameIndex := 145, descriptorIndex := 18, attributes := #[] }, { accessFlags := 26, nameIndex := 147, descriptorIndex := 18, attributes := #[] }, { accessFlags := 26, nameIndex := 149, descriptorIndex := 18, attributes := #[] }, { accessFlags := 25, nameIndex := 151, descriptorIndex := 18, attributes := #[] }, { accessFlags := 25, nameIndex := 152, descriptorIndex := 18, attributes := #[] }, { accessFlags := 25, nameIndex := 154, descriptorIndex := 18, attributes := #[] }, { accessFlags := 26, nameIndex := 156, descriptorIndex := 18, attributes := #[] }, { accessFlags := 26, nameIndex := 158, descriptorIndex := 18, attributes := #[] }, { accessFlags := 26, nameIndex := 160, descriptorIndex := 18, attributes := #[] }, { accessFlags := 26, nameIndex := 161, descriptorIndex := 18, attributes := #[] }, { accessFlags := 26, nameIndex := 163, descriptorIndex := 18, attributes := #[] }, { accessFlags := 26, nameIndex := 59, descriptorIndex := 47, attributes := #[] }, { accessFlags := 18, nameIndex := 17, descriptorIndex := 18, attributes := #[] }, { accessFlags := 18, nameIndex := 23, descriptorIndex := 18, attributes := #[] }, { accessFlags := 18, nameIndex := 28, descriptorIndex := 18, attributes := #[] }, { accessFlags := 18, nameIndex := 33, descriptorIndex := 18, attributes := #[] }, { accessFlags := 18, nameIndex := 52, descriptorIndex := 47, attributes := #[] }, { accessFlags := 18, nameIndex := 55, descriptorIndex := 18, attributes := #[] }])
  fields := #[{ name := "BASIC_CHANNEL", type := .int, accessFlags := 25, slot := 0, constantValue := 0 }, { name := "MAX_CHANNEL", type := .int, accessFlags := 25, slot := 1, constantValue := 0 }, { name := "MAX_DATA", type := .int, accessFlags := 25, slot := 2, constantValue := 0 }, { name := "MAX_NE", type := .int, accessFlags := 25, slot := 3, constantValue := 0 }, { name := "INS_MANAGE_CHANNEL", type := .int, accessFlags := 25, slot := 4, constantValue := 0 }, { name := "P1_OPEN_CHANNEL", type := .int, accessFlags := 25, slot := 5, constantValue := 0 }, { name := "P1_CLOSE_CHANNEL", type := .int, accessFlags := 25, slot := 6, constantValue := 0 }, { name := "INS_SELECT", type := .int, accessFlags := 25, slot := 7, constantValue := 0 }, { name := "P1_SELECT_BY_NAME", type := .int, accessFlags := 25, slot := 8, constantValue := 0 }, { name := "MIN_AID", type := .int, accessFlags := 25, slot := 9, constantValue := 0 }, { name := "MAX_AID", type := .int, accessFlags := 25, slot := 10, constantValue := 0 }, { name := "P2_NO_RESPONSE_DATA", type := .int, accessFlags := 26, slot := 11, constantValue := 0 }, { name := "P2_OCCURRENCE", type := .int, accessFlags := 26, slot := 12, constantValue := 0 }, { name := "FIRST_OCCURRENCE", type := .int, accessFlags := 25, slot := 13, constantValue := 0 }, { name := "NEXT_OCCURRENCE", type := .int, accessFlags := 25, slot := 14, constantValue := 0 }, { name := "INS_GET_RESPONSE", type := .int, accessFlags := 25, slot := 15, constantValue := 0 }, { name := "FURTHER_FORM", type := .int, accessFlags := 26, slot := 16, constantValue := 0 }, { name := "KEPT_BITS", type := .int, accessFlags := 26, slot := 17, constantValue := 0 }, { name := "FIRST_FORM_SECURE_MESSAGING", type := .int, accessFlags := 26, slot := 18, constantValue := 0 }, { name := "FURTHER_FORM_SECURE_MESSAGING", type := .int, accessFlags := 26, slot := 19, constantValue := 0 }, { name := "FIRST_FORM_SECURE_MESSAGING_PLAIN_HEADER", type := .int, accessFlags := 26, slot := 20, constantValue := 0 }, { name := "NO_DATA", type := (.array .byte), accessFlags := 26, slot := 21, constantValue := 0 }, { name := "cla", type := .int, accessFlags := 18, slot := 0, constantValue := 0 }, { name := "ins", type := .int, accessFlags := 18, slot := 1, constantValue := 0 }, { name := "p1", type := .int, accessFlags := 18, slot := 2, constantValue := 0 }, { name := "p2", type := .int, accessFlags := 18, slot := 3, constantValue := 0 }, { name := "data", type := (.array .byte), accessFlags := 18, slot := 4, constantValue := 0 }, { name := "ne", type := .int, accessFlags := 18, slot := 5, constantValue := 0 }]
  methods := #[k2m0, k2m1, k2m2]
  instanceTypes := #[.int, .int, .int, .int, (.array .byte), .int]
  staticTypes := #[.int, .int, .int, .int, .int, .int, .int, .int, .int, .int, .int, .int, .int, .int, .int, .int, .int, .int, .int, .int, .int, (.array .byte)]
  resolved := Array.replicate 221 none
  statics := none }

def pool3 : Array CpInfo := pool [(1, .class_ 2), (0, u "java/io/Serializable"), (0, .class_ 4), (0, u "java/lang/Object")] 2

/-- java/io/Serializable -/
def k3 : Class := { plain "java/io/Serializable" (some 0) with
  accessFlags := 1537
  interfaces := #[]
  cf := some (fileOf pool3 1 #[] #[] 1537 3 #[] #[])
  fields := #[]
  methods := #[]
  instanceTypes := #[]
  staticTypes := #[]
  resolved := Array.replicate 7 none
  statics := none }

def pool4 : Array CpInfo := pool [(1, .class_ 2), (0, u "java/lang/Comparable"), (0, .class_ 4), (0, u "java/lang/Object")] 7

/-- java/lang/Comparable -/
def k4 : Class := { plain "java/lang/Comparable" (some 0) with
  accessFlags := 1537
  interfaces := #[]
  cf := some (fileOf pool4 1 #[] #[] 1537 3 #[] #[])
  fields := #[]
  methods := #[]
  instanceTypes := #[]
  staticTypes := #[]
  resolved := Array.replicate 12 none
  statics := none }

def pool5 : Array CpInfo := pool [(2, .class_ 4), (1, u "java/lang/CharSequence"), (42, .class_ 48), (0, u "java/lang/CharSequence$1CodePointIterator"), (10, .class_ 60), (0, u "java/lang/CharSequence$1CharIterator"), (5, .class_ 67), (0, u "java/lang/Object")] 63

/-- java/lang/CharSequence -/
def k5 : Class := { plain "java/lang/CharSequence" (some 0) with
  accessFlags := 1537
  interfaces := #[]
  cf := some (fileOf pool5 2 #[.nestMembers #[47, 59]] #[] 1537 66 #[] #[])
  fields := #[]
  methods := #[]
  instanceTypes := #[]
  staticTypes := #[]
  resolved := Array.replicate 131 none
  statics := none }

def pool6 : Array CpInfo := pool [(1, .class_ 2), (0, u "java/lang/constant/Constable"), (0, .class_ 4), (0, u "java/lang/Object")] 6

/-- java/lang/constant/Constable -/
def k6 : Class := { plain "java/lang/constant/Constable" (some 0) with
  accessFlags := 1537
  interfaces := #[]
  cf := some (fileOf pool6 1 #[] #[] 1537 3 #[] #[])
  fields := #[]
  methods := #[]
  instanceTypes := #[]
  staticTypes := #[]
  resolved := Array.replicate 11 none
  statics := none }

def pool7 : Array CpInfo := pool [(1, .class_ 2), (0, u "java/lang/constant/ConstantDesc"), (0, .class_ 4), (0, u "java/lang/Object")] 32

/-- java/lang/constant/ConstantDesc -/
def k7 : Class := { plain "java/lang/constant/ConstantDesc" (some 0) with
  accessFlags := 1537
  interfaces := #[]
  cf := some (fileOf pool7 1 #[] #[] 1537 3 #[] #[])
  fields := #[]
  methods := #[]
  instanceTypes := #[]
  staticTypes := #[]
  resolved := Array.replicate 37 none
  statics := none }

def pool8 : Array CpInfo := pool [(2, .class_ 4), (1, u "java/lang/Object"), (0, u "<init>"), (0, u "()V"), (3, .class_ 12), (1, u "java/lang/String"), (0, u "value"), (0, u "[B"), (2, u "coder"), (0, u "B"), (2, u "hash"), (0, u "I"), (2, u "hashIsZero"), (0, u "Z"), (13, u "COMPACT_STRINGS"), (534, .class_ 576), (0, u "java/lang/CharSequence"), (22, u "CASE_INSENSITIVE_ORDER"), (0, u "Ljava/util/Comparator;"), (500, u "serialPersistentFields"), (0, u "[Ljava/io/ObjectStreamField;"), (0, .class_ 1104), (0, u "java/lang/String$CaseInsensitiveComparator"), (1, .class_ 1107), (0, u "java/io/Serializable"), (0, .class_ 1109), (0, u "java/lang/Comparable"), (0, .class_ 1111), (0, u "java/lang/constant/Constable"), (0, .class_ 1113), (0, u "java/lang/constant/ConstantDesc"), (2, u "serialVersionUID"), (0, u "J"), (3, u "REPL"), (0, u "C"), (2, u "LATIN1"), (1, u "UTF16")] 323

def k8m0 : Method := { name := "<init>", desc := "()V", sig := { parameters := [], returnType := none }, accessFlags := 1, code := none }
/-- java/lang/String -/
def k8 : Class := { plain "java/lang/String" (some 0) with
  accessFlags := 49
  interfaces := #[3, 4, 5, 6, 7]
  cf := some (fileOf pool8 10 #[.nestMembers #[1103]] #[{ accessFlags := 1, nameIndex := 5, descriptorIndex := 6, attributes := #[] }] 49 2 #[1106, 1108, 575, 1110, 1112] #[{ accessFlags := 18, nameIndex := 13, descriptorIndex := 14, attributes := #[] }, { accessFlags := 18, nameIndex := 17, descriptorIndex := 18, attributes := #[] }, { accessFlags := 2, nameIndex := 21, descriptorIndex := 22, attributes := #[] }, { accessFlags := 2, nameIndex := 25, descriptorIndex := 26, attributes := #[] }, { accessFlags := 26, nameIndex := 1116, descriptorIndex := 1117, attributes := #[] }, { accessFlags := 24, nameIndex := 40, descriptorIndex := 26, attributes := #[] }, { accessFlags := 26, nameIndex := 1101, descriptorIndex := 1102, attributes := #[] }, { accessFlags := 26, nameIndex := 1121, descriptorIndex := 1122, attributes := #[] }, { accessFlags := 25, nameIndex := 599, descriptorIndex := 600, attributes := #[] }, { accessFlags := 24, nameIndex := 1125, descriptorIndex := 18, attributes := #[] }, { accessFlags := 24, nameIndex := 1127, descriptorIndex := 18, attributes := #[] }])
  fields := #[{ name := "value", type := (.array .byte), accessFlags := 18, slot := 0, constantValue := 0 }, { name := "coder", type := .byte, accessFlags := 18, slot := 1, constantValue := 0 }, { name := "hash", type := .int, accessFlags := 2, slot := 2, constantValue := 0 }, { name := "hashIsZero", type := .boolean, accessFlags := 2, slot := 3, constantValue := 0 }, { name := "serialVersionUID", type := .long, accessFlags := 26, slot := 0, constantValue := 0 }, { name := "COMPACT_STRINGS", type := .boolean, accessFlags := 24, slot := 1, constantValue := 0 }, { name := "serialPersistentFields", type := (.array (.object "java/io/ObjectStreamField")), accessFlags := 26, slot := 2, constantValue := 0 }, { name := "REPL", type := .char, accessFlags := 26, slot := 3, constantValue := 0 }, { name := "CASE_INSENSITIVE_ORDER", type := (.object "java/util/Comparator"), accessFlags := 25, slot := 4, constantValue := 0 }, { name := "LATIN1", type := .byte, accessFlags := 24, slot := 5, constantValue := 0 }, { name := "UTF16", type := .byte, accessFlags := 24, slot := 6, constantValue := 0 }]
  methods := #[k8m0]
  instanceTypes := #[(.array .byte), .byte, .int, .boolean]
  staticTypes := #[.long, .boolean, (.array (.object "java/io/ObjectStreamField")), .char, (.object "java/util/Comparator"), .byte, .byte]
  resolved := Array.replicate 1451 none
  statics := none }

def pool9 : Array CpInfo := pool [(1, .class_ 2), (0, u "java/lang/Cloneable"), (0, .class_ 4), (0, u "java/lang/Object")] 2

/-- java/lang/Cloneable -/
def k9 : Class := { plain "java/lang/Cloneable" (some 0) with
  accessFlags := 1537
  interfaces := #[]
  cf := some (fileOf pool9 1 #[] #[] 1537 3 #[] #[])
  fields := #[]
  methods := #[]
  instanceTypes := #[]
  staticTypes := #[]
  resolved := Array.replicate 7 none
  statics := none }

/-- the primitive byte -/
def k10 : Class := { plain "byte" none with kind := .primitive 'B', accessFlags := 0x411 }
/-- [B -/
def k11 : Class := { plain "[B" (some 0) with kind := .array 10 .byte, interfaces := #[9, 3], accessFlags := 1041 }

/-- the primitive int -/
def k12 : Class := { plain "int" none with kind := .primitive 'I', accessFlags := 0x411 }
/-- [I -/
def k13 : Class := { plain "[I" (some 0) with kind := .array 12 .int, interfaces := #[9, 3], accessFlags := 1041 }

def heap : Heap := #[]
def classes : Array Class := #[k0, k1, k2, k3, k4, k5, k6, k7, k8, k9, k10, k11, k12, k13]
def interned : List (Array UInt16 × Addr) := []
def slotsUsed : Nat := 0
def theMethod : MethodId := ⟨1, 1⟩
def args0 : Array Value := #[.int 1, .int 2, .int 3, .int 4, .int 5, .int 6]
def aboutOver (below : List Frame) : State where
  vm := { classes := classes, interned := interned.toArray }
  heap := heap
  slotsUsed := slotsUsed
  threads := #[{ frames := .invoking theMethod args0 :: below }]
def below0 : List Frame := [.native { method := ⟨0, 0⟩, args := #[] }]
def about1 : State := aboutOver below0
def p0 : Program := .bare "" "" ""
def e0 : Env := launch0.env 0 0 0
theorem w_frames : about1.frames = Frame.invoking theMethod args0 :: below0 := rfl
set_option maxRecDepth 65536 in
theorem w_args : argsFit about1.vm theMethod args0 = true := by decide +kernel
set_option maxRecDepth 65536 in
theorem w_heap : heapFits about1 = true := by decide +kernel
set_option maxRecDepth 65536 in
theorem w_runnable : about1.curStatus? = some .runnable := by decide +kernel
set_option maxRecDepth 65536 in
theorem w_alone : about1.alone = true := by decide +kernel
set_option maxRecDepth 65536 in
theorem w_named : about1.methodNamed? x = some theMethod := by decide +kernel
set_option maxRecDepth 65536 in
theorem w_hears : about1.hears theMethod below0 = true := by decide +kernel
set_option maxRecDepth 65536 in
theorem w_ripe : about1.ripe theMethod args0 below0 = true := by decide +kernel
theorem w_running : about1.status = .running := rfl
set_option maxRecDepth 65536 in
theorem w_room : about1.hasRoom e0.platform room_1 = true :=
  launch0.hasRoom_least _ room_1 (by decide +kernel) (by decide +kernel) (by decide +kernel) (by decide +kernel) (by decide +kernel) (by decide +kernel)
theorem allAtoms_all (ts : List Jvm.Cond) (a : Array Jvm.Value) (st : Jvm.State) : (allAtoms ts).before a st = ts.all (fun c => c.before a st) := by
  induction ts with
  | nil => rfl
  | cons c t ih =>
    show (Jvm.Cond.and c (allAtoms t)).before a st = _
    rw [Jvm.Cond.before_and, ih, List.all_cons]
def words1 : List Jvm.Cond := Jvm.Cond.code x code maxLocals ret :: tables_1
/-- a 'code' word, met by the world's own term for the bytes: nothing is compared byte by byte -/
theorem code_word {y : MethodName} {bytes : ByteArray} {mx : Nat} {rt : Option FieldType} {a : Array Value} {s : State} {m : MethodId} {meth : Method} {c : Code} (h1 : s.methodNamed? y = some m) (h2 : s.vm.method? m = some meth) (h3 : meth.code = some c) (h4 : c.code = bytes)
    (h5 : (c.maxLocals == mx && c.exceptionTable.isEmpty && decide (c.maxStack ≤ mostOperands) && decide (meth.sig.returnType = rt) && !meth.locks && decide (parseMethodDescriptor y.desc = some meth.sig)) = true) : (Jvm.Cond.code y bytes mx rt).before a s = true := by
  simp only [Bool.and_eq_true, beq_iff_eq, Bool.not_eq_true', decide_eq_true_eq] at h5
  obtain ⟨⟨⟨⟨⟨g1, g2⟩, g3⟩, g4⟩, g5⟩, g6⟩ := h5
  simp [Cond.before, Cond.holds, Cond.value, h1, h2, h3, h4, g1, g2, g3, g4, g5, g6]
def isCode : Jvm.Cond → Bool
  | .code _ _ _ _ => true
  | _ => false
theorem all_split {L : List Jvm.Cond} {P : Jvm.Cond → Bool} (h1 : L.all (fun c => isCode c || P c) = true) (h2 : ∀ c ∈ L.filter isCode, P c = true) : L.all P = true := by
  refine List.all_eq_true.mpr fun c hc => ?_
  have h := List.all_eq_true.mp h1 c hc
  rcases Bool.eq_false_or_eq_true (isCode c) with hi | hi
  · exact h2 c (List.mem_filter.mpr ⟨hc, hi⟩)
  · simpa [hi] using h
set_option maxRecDepth 65536 in
theorem w_c0 : (Jvm.Cond.code x code maxLocals ret).before args0 about1 = true := code_word (m := ⟨1, 1⟩) (meth := k1m1) (c := k1c1) (by decide +kernel) rfl rfl rfl (by decide +kernel)
set_option maxRecDepth 65536 in
theorem w_c1 : (Jvm.Cond.code ({ cls := "com/example/seamark/seamark/transport/CommandApdu", name := "<init>", desc := "(IIII[BI)V" } : Jvm.MethodName) prog_45_method_1_code (7 : Nat) (Option.none : Option Jvm.ClassFile.FieldType)).before args0 about1 = true := code_word (m := ⟨2, 0⟩) (meth := k2m0) (c := k2c0) (by decide +kernel) rfl rfl rfl (by decide +kernel)
set_option maxRecDepth 65536 in
theorem w_c2 : (Jvm.Cond.code ({ cls := "java/lang/Object", name := "<init>", desc := "()V" } : Jvm.MethodName) object_method_1_code (1 : Nat) (Option.none : Option Jvm.ClassFile.FieldType)).before args0 about1 = true := code_word (m := ⟨0, 0⟩) (meth := k0m0) (c := k0c0) (by decide +kernel) rfl rfl rfl (by decide +kernel)
set_option maxRecDepth 65536 in
theorem w_c3 : (Jvm.Cond.code ({ cls := "com/example/seamark/seamark/transport/CommandApdu", name := "requireByte", desc := "(Ljava/lang/String;I)I" } : Jvm.MethodName) prog_45_method_25_code (2 : Nat) (Option.some Jvm.ClassFile.FieldType.int)).before args0 about1 = true := code_word (m := ⟨2, 2⟩) (meth := k2m2) (c := k2c2) (by decide +kernel) rfl rfl rfl (by decide +kernel)
set_option maxRecDepth 65536 in
theorem w_c4 : (Jvm.Cond.code ({ cls := "com/example/seamark/seamark/transport/CommandApdu", name := "isoCase", desc := "()I" } : Jvm.MethodName) prog_45_method_18_code (1 : Nat) (Option.some Jvm.ClassFile.FieldType.int)).before args0 about1 = true := code_word (m := ⟨2, 1⟩) (meth := k2m1) (c := k2c1) (by decide +kernel) rfl rfl rfl (by decide +kernel)
def codes1 : List Jvm.Cond := [Jvm.Cond.code x code maxLocals ret, Jvm.Cond.code ({ cls := "com/example/seamark/seamark/transport/CommandApdu", name := "<init>", desc := "(IIII[BI)V" } : Jvm.MethodName) prog_45_method_1_code (7 : Nat) (Option.none : Option Jvm.ClassFile.FieldType), Jvm.Cond.code ({ cls := "java/lang/Object", name := "<init>", desc := "()V" } : Jvm.MethodName) object_method_1_code (1 : Nat) (Option.none : Option Jvm.ClassFile.FieldType), Jvm.Cond.code ({ cls := "com/example/seamark/seamark/transport/CommandApdu", name := "requireByte", desc := "(Ljava/lang/String;I)I" } : Jvm.MethodName) prog_45_method_25_code (2 : Nat) (Option.some Jvm.ClassFile.FieldType.int), Jvm.Cond.code ({ cls := "com/example/seamark/seamark/transport/CommandApdu", name := "isoCase", desc := "()I" } : Jvm.MethodName) prog_45_method_18_code (1 : Nat) (Option.some Jvm.ClassFile.FieldType.int)]
set_option maxRecDepth 65536 in
theorem codes_eq : words1.filter isCode = codes1 := rfl
theorem w_codes : ∀ c ∈ words1.filter isCode, c.before args0 about1 = true := by
  rw [codes_eq]
  intro c hc
  simp only [codes1, List.mem_cons, List.not_mem_nil, or_false] at hc
  rcases hc with rfl | rfl | rfl | rfl | rfl
  · exact w_c0
  · exact w_c1
  · exact w_c2
  · exact w_c3
  · exact w_c4
set_option maxRecDepth 65536 in
theorem w_t1 : (words1.take 24).all (fun c => isCode c || c.before args0 about1) = true := by decide +kernel
set_option maxRecDepth 65536 in
theorem w_t2 : ((words1.drop 24).take 24).all (fun c => isCode c || c.before args0 about1) = true := by decide +kernel
set_option maxRecDepth 65536 in
theorem w_t3 : ((words1.drop 24).drop 24).all (fun c => isCode c || c.before args0 about1) = true := by decide +kernel
theorem w_tables : (allAtoms (Jvm.Cond.code x code maxLocals ret :: tables_1)).before args0 about1 = true := by
  rw [allAtoms_all]
  show words1.all (fun c => c.before args0 about1) = true
  refine all_split ?_ w_codes
  rw [← List.take_append_drop 24 words1, List.all_append, w_t1, ← List.take_append_drop 24 (words1.drop 24), List.all_append, w_t2, w_t3]
  rfl
set_option maxRecDepth 65536 in
theorem w_case : (Jvm.Cond.and given_1 narrow_1).before args0 about1 = true := by decide +kernel
theorem w_applies : (headSpec (Jvm.Cond.code x code maxLocals ret :: tables_1) room_1).applies x e0.platform about1 = true :=
  (Spec.applies_iff w_frames).mpr ⟨w_running, w_runnable, w_alone, w_named, w_hears, w_ripe, w_room, w_tables⟩
theorem atStart : AtStart classFile x code maxLocals ret World_1 tables_1 room_1 Calls_1 rest_1 Pre_1 launch0 p0 e0 about1 theMethod args0 below0 :=
  ⟨lists_1, trivial, launch0.admits_env _ _ _, launch0.least_env, fairChoices_fair.cas, fairChoices_fair.clock, w_frames, w_args, w_heap, w_applies, trivial, trivial, w_case⟩
end start1
theorem witness_1 : WitnessClaimed_1 := ⟨start1.p0, start1.e0, start1.about1, start1.theMethod, start1.args0, start1.below0, start1.atStart⟩
end Jvm.Pilot.@@N@@
