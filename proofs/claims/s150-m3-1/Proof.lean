import JvmDerived
import JvmDerived.Pilot.@@N@@Statement
import JvmDerived.Pilot.@@N@@Code
set_option linter.unusedVariables false
set_option linter.unusedSimpArgs false
namespace Jvm.Pilot.@@N@@
open Jvm Jvm.ClassFile Sem Op Lib Jvm.Free Jvm.Stand Jvm.LawKit Jvm.RoadKit Bundle Jvm.Pilot.@@N@@.Jvm.D
/-! ## the walk's own goal: from this frame the method comes to its end, and what it leaves is Q -/
def own_Fin (tb : Tables) (e : Env) (below : List Frame) (s : State) (R : Room) (Q : Option Value → Heap → List Loc → Prop) (T : State) (g : JFrame) : Prop :=
  ∃ s₂ o, Steps tb e below (T.setTop g) s₂ ∧ s₂.status = .running ∧ Ended s₂ below o ∧ ∃ v L, o = .returned v ∧ Q v s₂.heap L ∧ FrameEnd s o s₂ L R.cells R.slots
theorem own_st {tb : Tables} {e : Env} {below : List Frame} {s : State} {R : Room} {Q : Option Value → Heap → List Loc → Prop} {T T' : State} {g g' : JFrame}
    (h : ∀ t, Steps tb e below (T'.setTop g') t → Steps tb e below (T.setTop g) t) (k : own_Fin tb e below s R Q T' g') : own_Fin tb e below s R Q T g := by
  obtain ⟨s₂, o, h1, r⟩ := k
  exact ⟨s₂, o, h _ h1, r⟩
/-- an array: its kind, its length, what lies at each place -/
def own_A (Z : State) (h : Heap) (a : Addr) (ty : FieldType) (n : Nat) (f : Nat → Value) : Prop := ∃ c : Cell, Arr Z h a c ty ∧ c.slots.size = n ∧ ∀ i, i < n → c.slots[i]? = some (f i)
section OwnArr
variable {Z : State} {h h' : Heap} {a b : Addr} {ty : FieldType} {n : Nat} {f : Nat → Value} {ws : List Addr} {sl : Nat} {v : Value}
theorem own_A.lt (F : own_A Z h a ty n f) : a < h.size := by obtain ⟨c, A, -⟩ := F; exact A.lt
theorem own_A.ext (F : own_A Z h a ty n f) (E : Ext h h') : own_A Z h' a ty n f := by obtain ⟨c, A, r⟩ := F; exact ⟨c, A.ext E, r⟩
theorem own_A.other (F : own_A Z h a ty n f) (W : Wr h h' b sl v) (q : a ≠ b) : own_A Z h' a ty n f := by obtain ⟨c, A, r⟩ := F; exact ⟨c, A.other W q, r⟩
theorem own_A.keep (F : own_A Z h a ty n f) (K : Keep h h' ws) (q : a ∉ ws) : own_A Z h' a ty n f := by obtain ⟨c, A, r⟩ := F; exact ⟨c, ⟨K.2.1 a c A.1 q, A.2⟩, r⟩
theorem own_A.congr (F : own_A Z h a ty n f) {f' : Nat → Value} (q : ∀ i, i < n → f i = f' i) : own_A Z h a ty n f' := by
  obtain ⟨c, A, r1, r2⟩ := F
  exact ⟨c, A, r1, fun i hi => by rw [r2 i hi, q i hi]⟩
theorem own_A.new {k : ClassId} {z : Int32} (A : Arr Z h a (newA k ty z) ty) : own_A Z h a ty z.toNatClampNeg (fun _ => defaultValue ty) :=
  ⟨_, A, sz_new _ _ _, fun i hi => by simp [newA, hi]⟩
theorem own_A.set (F : own_A Z h a ty n f) (W : Wr h h' a sl v) : own_A Z h' a ty n (fun i => if i = sl then v else f i) := by
  obtain ⟨c, A, r1, r2⟩ := F
  refine ⟨_, A.same W, by rw [sz_set]; exact r1, fun i hi => ?_⟩
  by_cases q : i = sl
  · subst q; simp [Cell.setSlot, r1, hi]
  · simp only [Cell.setSlot, q, if_false]; rw [Array.getElem?_setIfInBounds_ne (Ne.symm q)]; exact r2 i hi
theorem own_ne_A {c : Nat} {C : String} {a0 : Array Value} (F : Exa Z h b C) (wi : (Jvm.Cond.instantiable C c).before a0 Z = true) (G : own_A Z h a ty n f) : b ≠ a := by
  obtain ⟨cl, A, -⟩ := G; exact ne_arr F wi A
end OwnArr
section OwnStand
variable {p : Program} {l : Launch} {e : Env} {R : Room} {s : State} {m : MethodId} {args : Array Value} {below : List Frame} {meth : Method} {c : Code} {T : State} {locs : List Loc} {cells slots : Nat} {Q : Option Value → Heap → List Loc → Prop} {Z : State} {a0 : Array Value} {h : Heap}
theorem own_ret {v : Option Value} {g : JFrame} (X : Stand p l e R s m args below meth c T locs cells slots) (hv : meth.sig.returnType = none → v = none) (hlocks : meth.locks = false) (hc : cells ≤ R.cells) (hs : slots ≤ R.slots) (hQ : Q v T.heap locs)
    (hstep : ∀ fs, (∀ (f : JFrame) (acts : List Action), f.method = m → f.locked = none → f.entered = [] → (doReturn e (T.setTop f) acts v).1 = T.setFrames fs) → Steps p.tables e below (T.setTop g) (T.setFrames fs)) : own_Fin p.tables e below s R Q T g := by
  obtain ⟨fs, hr, hrun, hended, hW, hsame⟩ := X.leave hv hlocks
  exact ⟨_, _, hstep fs hr, hrun, hended, _, _, rfl, hQ, ⟨_, rfl⟩, hW, hsame.mono hc hs⟩
theorem own_retI {pc : Nat} {Ls : Array Slot} {z : Int32} {rest : List Value} (X : Stand p l e R s m args below meth c T locs cells slots) (hx : p.tables.exec = Jvm.exec) (hret : meth.sig.returnType = some .int) (hlocks : meth.locks = false) (hd : decode c.code pc = .ok (.ireturn, 1))
    (hc : cells ≤ R.cells) (hs : slots ≤ R.slots) (hQ : Q (some (.int z)) T.heap locs) : own_Fin p.tables e below s R Q T (mkF m pc Ls (.int z :: rest)) :=
  own_ret X (fun h => by rw [hret] at h; cases h) hlocks hc hs hQ fun fs hr => retOut X hx hret rfl (Or.inl ⟨rfl, Or.inl rfl, _, rfl⟩) hd hr
theorem own_retJ {pc : Nat} {Ls : Array Slot} {z : Int64} {rest : List Value} (X : Stand p l e R s m args below meth c T locs cells slots) (hx : p.tables.exec = Jvm.exec) (hret : meth.sig.returnType = some .long) (hlocks : meth.locks = false) (hd : decode c.code pc = .ok (.lreturn, 1))
    (hc : cells ≤ R.cells) (hs : slots ≤ R.slots) (hQ : Q (some (.long z)) T.heap locs) : own_Fin p.tables e below s R Q T (mkF m pc Ls (.long z :: rest)) :=
  own_ret X (fun h => by rw [hret] at h; cases h) hlocks hc hs hQ fun fs hr => retOut X hx hret rfl (Or.inr (Or.inl ⟨rfl, rfl, _, rfl⟩)) hd hr
theorem own_retA {pc : Nat} {Ls : Array Slot} {t : FieldType} {b : Addr} {rest : List Value} (X : Stand p l e R s m args below meth c T locs cells slots) (hx : p.tables.exec = Jvm.exec) (hret : meth.sig.returnType = some t) (ht : t.isReference = true) (hn : narrow t (.ref b) = .ref b) (hlocks : meth.locks = false) (hd : decode c.code pc = .ok (.areturn, 1))
    (hc : cells ≤ R.cells) (hs : slots ≤ R.slots) (hQ : Q (some (.ref b)) T.heap locs) : own_Fin p.tables e below s R Q T (mkF m pc Ls (.ref b :: rest)) :=
  own_ret X (fun h => by rw [hret] at h; cases h) hlocks hc hs hQ fun fs hr => retOut X hx hret hn (Or.inr (Or.inr (Or.inr (Or.inr ⟨rfl, ht, rfl⟩)))) hd hr
theorem own_retN {pc : Nat} {Ls : Array Slot} {t : FieldType} {z : Int32} {rest : List Value} (X : Stand p l e R s m args below meth c T locs cells slots) (hx : p.tables.exec = Jvm.exec) (hret : meth.sig.returnType = some t) (ht : t = .boolean ∨ t = .byte ∨ t = .char ∨ t = .short) (hlocks : meth.locks = false) (hd : decode c.code pc = .ok (.ireturn, 1))
    (hc : cells ≤ R.cells) (hs : slots ≤ R.slots) (hQ : Q (some (.int (nar t z))) T.heap locs) : own_Fin p.tables e below s R Q T (mkF m pc Ls (.int z :: rest)) :=
  own_ret X (fun h => by rw [hret] at h; cases h) hlocks hc hs hQ fun fs hr => retN X hx hret ht hd hr
theorem own_retV {pc : Nat} {Ls : Array Slot} (X : Stand p l e R s m args below meth c T locs cells slots) (hx : p.tables.exec = Jvm.exec) (hret : meth.sig.returnType = none) (hlocks : meth.locks = false) (hd : decode c.code pc = .ok (.return_, 1))
    (hc : cells ≤ R.cells) (hs : slots ≤ R.slots) (hQ : Q none T.heap locs) : own_Fin p.tables e below s R Q T (mkF m pc Ls []) :=
  own_ret X (fun _ => rfl) hlocks hc hs hQ fun fs hr => X.returnOut hx hret hd hr
theorem own_iaload {n : Nat} {f : Nat → Value} {a : Addr} {j : Int32} {v : Value} {g : JFrame} {rest : List Value} (X : Stand p l e R s m args below meth c T locs cells slots) (hx : p.tables.exec = Jvm.exec) (hZ : Z.Warmed39 s.vm) (eT : T.heap = h) (F : own_A Z h a .int n f) (hj : ¬ (j < 0 ∨ n ≤ j.toNatClampNeg)) (hv : f j.toNatClampNeg = v)
    (hg : g.method = m) (hs : g.stack = .int j :: .ref a :: rest) (hd : decode c.code g.pc = .ok (.iaload, 1)) (t : State) (k : Steps p.tables e below (T.setTop { g with pc := g.pc + 1, stack := v :: rest }) t) : Steps p.tables e below (T.setTop g) t := by
  obtain ⟨cl, A, r1, r2⟩ := F
  exact X.iaload hx (by rw [eT]; exact A.1) (State.isArrayOf_alike hZ.alike A.2.1) A.2.2 (by rw [r1]; exact hj) (by rw [r2 _ (Nat.lt_of_not_le fun q => hj (Or.inr q)), hv]) hg hs hd t k
theorem own_laload {n : Nat} {f : Nat → Value} {a : Addr} {j : Int32} {v : Value} {g : JFrame} {rest : List Value} (X : Stand p l e R s m args below meth c T locs cells slots) (hx : p.tables.exec = Jvm.exec) (hZ : Z.Warmed39 s.vm) (eT : T.heap = h) (F : own_A Z h a .long n f) (hj : ¬ (j < 0 ∨ n ≤ j.toNatClampNeg)) (hv : f j.toNatClampNeg = v)
    (hg : g.method = m) (hs : g.stack = .int j :: .ref a :: rest) (hd : decode c.code g.pc = .ok (.laload, 1)) (t : State) (k : Steps p.tables e below (T.setTop { g with pc := g.pc + 1, stack := v :: rest }) t) : Steps p.tables e below (T.setTop g) t := by
  obtain ⟨cl, A, r1, r2⟩ := F
  exact X.laload hx (by rw [eT]; exact A.1) (State.isArrayOf_alike hZ.alike A.2.1) A.2.2 (by rw [r1]; exact hj) (by rw [r2 _ (Nat.lt_of_not_le fun q => hj (Or.inr q)), hv]) hg hs hd t k
theorem own_baload {n : Nat} {f : Nat → Value} {a : Addr} {j : Int32} {v : Value} {g : JFrame} {rest : List Value} (X : Stand p l e R s m args below meth c T locs cells slots) (hx : p.tables.exec = Jvm.exec) (hZ : Z.Warmed39 s.vm) (eT : T.heap = h) (F : own_A Z h a .byte n f) (hj : ¬ (j < 0 ∨ n ≤ j.toNatClampNeg)) (hv : f j.toNatClampNeg = v)
    (hg : g.method = m) (hs : g.stack = .int j :: .ref a :: rest) (hd : decode c.code g.pc = .ok (.baload, 1)) (t : State) (k : Steps p.tables e below (T.setTop { g with pc := g.pc + 1, stack := v :: rest }) t) : Steps p.tables e below (T.setTop g) t := by
  obtain ⟨cl, A, r1, r2⟩ := F
  exact X.baloadBytes hx (by rw [eT]; exact A.1) (State.isArrayOf_alike hZ.alike A.2.1) A.2.2 (by rw [r1]; exact hj) (by rw [r2 _ (Nat.lt_of_not_le fun q => hj (Or.inr q)), hv]) hg hs hd t k
theorem own_alen {ty : FieldType} {n : Nat} {f : Nat → Value} {a : Addr} {z : Int32} {g : JFrame} {rest : List Value} (X : Stand p l e R s m args below meth c T locs cells slots) (hx : p.tables.exec = Jvm.exec) (hZ : Z.Warmed39 s.vm) (eT : T.heap = h) (F : own_A Z h a ty n f) (hz : n.toInt32 = z)
    (hg : g.method = m) (hs : g.stack = .ref a :: rest) (hd : decode c.code g.pc = .ok (.arraylength, 1)) (t : State) (k : Steps p.tables e below (T.setTop { g with pc := g.pc + 1, stack := .int z :: rest }) t) : Steps p.tables e below (T.setTop g) t := by
  obtain ⟨cl, A, r1, r2⟩ := F
  subst hz
  exact X.arraylength hx (by rw [eT]; exact A.1) (State.isArrayOf_alike hZ.alike A.2.1) hg hs hd t (by rw [r1]; exact k)
theorem own_iastore {n : Nat} {f : Nat → Value} {a : Addr} {j x : Int32} {g : JFrame} {rest : List Value} (X : Stand p l e R s m args below meth c T locs cells slots) (hx : p.tables.exec = Jvm.exec) (hZ : Z.Warmed39 s.vm) (eT : T.heap = h) (F : own_A Z h a .int n f) (hj : ¬ (j < 0 ∨ n ≤ j.toNatClampNeg))
    (hg : g.method = m) (hs : g.stack = .int x :: .int j :: .ref a :: rest) (hd : decode c.code g.pc = .ok (.iastore, 1)) :
    ∃ T' h', Stand p l e R s m args below meth c T' (locs ++ [⟨a, j.toNatClampNeg⟩]) cells slots ∧ T'.heap = h' ∧ Wr h h' a j.toNatClampNeg (.int x) ∧ ∀ target, Steps p.tables e below (T'.setTop { g with pc := g.pc + 1, stack := rest }) target → Steps p.tables e below (T.setTop g) target := by
  obtain ⟨cl, A, r1, r2⟩ := F
  exact stI X hx hZ eT A (by rw [r1]; exact hj) hg hs hd
theorem own_lastore {n : Nat} {f : Nat → Value} {a : Addr} {j : Int32} {x : Int64} {g : JFrame} {rest : List Value} (X : Stand p l e R s m args below meth c T locs cells slots) (hx : p.tables.exec = Jvm.exec) (hZ : Z.Warmed39 s.vm) (eT : T.heap = h) (F : own_A Z h a .long n f) (hj : ¬ (j < 0 ∨ n ≤ j.toNatClampNeg))
    (hg : g.method = m) (hs : g.stack = .long x :: .int j :: .ref a :: rest) (hd : decode c.code g.pc = .ok (.lastore, 1)) :
    ∃ T' h', Stand p l e R s m args below meth c T' (locs ++ [⟨a, j.toNatClampNeg⟩]) cells slots ∧ T'.heap = h' ∧ Wr h h' a j.toNatClampNeg (.long x) ∧ ∀ target, Steps p.tables e below (T'.setTop { g with pc := g.pc + 1, stack := rest }) target → Steps p.tables e below (T.setTop g) target := by
  obtain ⟨cl, A, r1, r2⟩ := F
  exact stJ X hx hZ eT A (by rw [r1]; exact hj) hg hs hd
theorem own_bastore {n : Nat} {f : Nat → Value} {a : Addr} {j x : Int32} {g : JFrame} {rest : List Value} (X : Stand p l e R s m args below meth c T locs cells slots) (hx : p.tables.exec = Jvm.exec) (hZ : Z.Warmed39 s.vm) (eT : T.heap = h) (F : own_A Z h a .byte n f) (hj : ¬ (j < 0 ∨ n ≤ j.toNatClampNeg))
    (hg : g.method = m) (hs : g.stack = .int x :: .int j :: .ref a :: rest) (hd : decode c.code g.pc = .ok (.bastore, 1)) :
    ∃ T' h', Stand p l e R s m args below meth c T' (locs ++ [⟨a, j.toNatClampNeg⟩]) cells slots ∧ T'.heap = h' ∧ Wr h h' a j.toNatClampNeg (.int (nar .byte x)) ∧ ∀ target, Steps p.tables e below (T'.setTop { g with pc := g.pc + 1, stack := rest }) target → Steps p.tables e below (T.setTop g) target := by
  obtain ⟨cl, A, r1, r2⟩ := F
  exact stB X hx hZ eT A (by rw [r1]; exact hj) hg hs hd
theorem own_newarr {aty : ArrayType} {n : Int32} {rest : List Value} {g : JFrame} (X : Stand p l e R s m args below meth c T locs cells slots) (hx : p.tables.exec = Jvm.exec) (hZ : Z.Warmed39 s.vm) (w : (Jvm.Cond.arrayClass (newarray.typeOf aty)).before a0 Z = true) (eT : T.heap = h) (hg : g.method = m) (hd : decode c.code g.pc = .ok (.newarray aty, 2)) (hs : g.stack = .int n :: rest)
    (hn : ¬ n < 0) {cap : Nat} (hcap : n.toNatClampNeg ≤ cap) (hb : cap * 8 ≤ 536870912) (hc : cells + 1 ≤ R.cells) (hl : slots + cap ≤ R.slots) :
    ∃ T' h' a, Stand p l e R s m args below meth c T' locs (cells + 1) (slots + cap) ∧ T'.heap = h' ∧ a = h.size ∧ Ext h h' ∧ own_A Z h' a (newarray.typeOf aty) n.toNatClampNeg (fun _ => defaultValue (newarray.typeOf aty)) ∧
      ∀ target, Steps p.tables e below (T'.setTop { g with pc := g.pc + 2, stack := .ref a :: rest }) target → Steps p.tables e below (T.setTop g) target := by
  obtain ⟨T', h', cA, X', e', E', A', st⟩ := newP X hx hZ w eT hg hd hs hn hcap hb hc hl
  exact ⟨T', h', _, X', e', rfl, E', own_A.new A', st⟩
theorem own_new {own C : String} {index n : Nat} {g : JFrame} (X : Stand p l e R s m args below meth c T locs cells slots) (hx : p.tables.exec = Jvm.exec) (hZ : Z.Warmed39 s.vm) (hown : s.vm.findClass own = some m.cls) (w : (Jvm.Cond.classLink own index C).before a0 Z = true) (wi : (Jvm.Cond.instantiable C n).before a0 Z = true) (wz : (Jvm.Cond.initialized C).before a0 Z = true) (eT : T.heap = h)
    (hg : g.method = m) (hd : decode c.code g.pc = .ok (.new index, 3)) (hc : cells + 1 ≤ R.cells) (hl : slots + n ≤ R.slots) :
    ∃ T' h' a, Stand p l e R s m args below meth c T' locs (cells + 1) (slots + n) ∧ T'.heap = h' ∧ a = h.size ∧ Ext h h' ∧ Exa Z h' a C ∧ (∀ {O nm d : String} {ty : FieldType}, Laid Z a0 C O nm d → parseFieldDescriptor d = some ty → Fld Z h' a O nm d (defaultValue ty)) ∧
      ∀ target, Steps p.tables e below (T'.setTop { g with pc := g.pc + 3, stack := .ref a :: g.stack }) target → Steps p.tables e below (T.setTop g) target := by
  obtain ⟨T', h', X', e', E', A', D', -, st⟩ := newO X hx hZ hown w wi wz eT hg hd hc hl
  exact ⟨T', h', _, X', e', rfl, E', A', D', st⟩
theorem own_body {y : MethodName} {bytes : ByteArray} {maxL : Nat} {ret : Option FieldType} {ws : List Jvm.Cond} {rm : Room} {as' : Array Value} {h0 : Heap} (hpl : plainFor y = true)
    (body : ∀ (p : Program) (e : Env) (s : State) (m : MethodId) (below : List Frame) (meth : Method) (c : Code) (s₁ : State), p.tables.exec = Jvm.exec → c.code = bytes → c.maxLocals = maxL → s.vm.findClass y.cls = some m.cls → meth.name = y.name → meth.sig.returnType = ret → meth.locks = false → Z.Warmed39 s.vm → Stand p l e rm s m as' below meth c s₁ [] 0 0 → s₁.heap = h0 → own_Fin p.tables e below s rm Q s₁ (entryFrame m as' maxL)) :
    MetFree l y (head1 (Jvm.Cond.code y bytes maxL ret :: ws) rm) (fun a U => a = as' ∧ Z.Warmed39 U.vm ∧ U.heap = h0) (fun _ _ _ _ _ => True) (fun _ U o U' => ∃ v L, o = .returned v ∧ Q v U'.heap L ∧ FrameEnd U o U' L rm.cells rm.slots) := by
  refine MetFree.of_bodySF hpl hisR ?_
  intro p e s m args below meth c s₁ Bd hml0 hP hK
  obtain ⟨rfl, hZ, hh⟩ := hP
  exact body p e s m below meth c s₁ Bd.exec Bd.bytes hml0 (findClass_of_methodNamed Bd.named) (name_of_methodNamed Bd.named Bd.method).1 Bd.returns Bd.notSynchronized hZ (Stand.of_body Bd) (by rw [← hh, Bd.state]; rfl)
theorem own_callS {own : String} {index : Nat} {y : MethodName} {bytes : ByteArray} {maxL W : Nat} {ret : Option FieldType} {rm : Room} {as' : Array Value} {g : JFrame} {argsL rest : List Value}
    (X : Stand p l e R s m args below meth c T locs cells slots) (hx : p.tables.exec = Jvm.exec) (hZ : Z.Warmed39 s.vm) (hown : s.vm.findClass own = some m.cls)
    (w1 : (Jvm.Cond.methodLink own index y).before a0 Z = true) (w2 : (Jvm.Cond.static y).before a0 Z = true) (w3 : (Jvm.Cond.initialized y.cls).before a0 Z = true) (w4 : (Jvm.Cond.code y bytes maxL ret).before a0 Z = true)
    (hy : y.cls ≠ "java/lang/invoke/MethodHandle" ∧ y.cls ≠ "java/lang/invoke/VarHandle") (eT : T.heap = h)
    (hM : MetFree l y (head1 [Jvm.Cond.code y bytes maxL ret] rm) (fun a U => a = as' ∧ Z.Warmed39 U.vm ∧ U.heap = h) (fun _ _ _ _ _ => True) (fun _ U o U' => ∃ v L, o = .returned v ∧ Q v U'.heap L ∧ FrameEnd U o U' L rm.cells rm.slots))
    (hf : rm.frames + 1 ≤ R.frames) (hl : W + (maxL + 11) + rm.locals ≤ R.locals) (hg : g.method = m) (hsize : g.locals.size = c.maxLocals) (hlen : ∀ sig, parseMethodDescriptor y.desc = some sig → argsL.length = sig.parameters.length)
    (hstack : g.stack = argsL.reverse ++ rest) (has : argsL.toArray = as') (hW : 2 * g.monitorRoom + (rest.map fun v => v.category).sum ≤ W) (hdg : decode c.code g.pc = .ok (.invokestatic index, 3)) (hc : cells + rm.cells ≤ R.cells) (hs : slots + rm.slots ≤ R.slots) :
    ∃ (v : Option Value) (T' : State) (L : List Loc), Stand p l e R s m args below meth c T' (locs ++ L) (cells + rm.cells) (slots + rm.slots) ∧ Q v T'.heap L ∧
      ∀ target, Steps p.tables e below (T'.setTop { g with pc := g.pc + 3, stack := v.toList ++ rest }) target → Steps p.tables e below (T.setTop g) target := by
  obtain ⟨v, _, ⟨T', L', k', n'⟩, -, X', ⟨Lc, hQ, l', y', z'⟩, st⟩ := Jvm.LawKit.callS X hx (y := y) hown (mvT hZ w1) (mvT hZ w2) (mvT hZ w3) (mvT hZ w4) hy (backOf (W := W) hM hZ w4 w3 hf hl) hg hsize hlen hstack hW hdg (fun _ _ => ⟨has, eT, hc, hs⟩)
  dsimp only [Pt.U, Pt.locs, Pt.cells, Pt.slots] at X' l' y' z' st hQ
  subst l' y' z'
  exact ⟨v, T', Lc, X', hQ, st⟩
theorem own_callN {own : String} {index : Nat} {y : MethodName} {bytes : ByteArray} {maxL W : Nat} {rm : Room} {as' : Array Value} {g : JFrame} {a : Addr} {argsL rest : List Value}
    (X : Stand p l e R s m args below meth c T locs cells slots) (hx : p.tables.exec = Jvm.exec) (hZ : Z.Warmed39 s.vm) (hy1 : y.name = "<init>") (hown : s.vm.findClass own = some m.cls)
    (w1 : (Jvm.Cond.methodLink own index y).before a0 Z = true) (w2 : (Jvm.Cond.instanceMethod y).before a0 Z = true) (w3 : (Jvm.Cond.initialized y.cls).before a0 Z = true) (w4 : (Jvm.Cond.code y bytes maxL none).before a0 Z = true)
    (hy : y.cls ≠ "java/lang/invoke/MethodHandle" ∧ y.cls ≠ "java/lang/invoke/VarHandle") (eT : T.heap = h)
    (hM : MetFree l y (head1 [Jvm.Cond.code y bytes maxL none] rm) (fun a U => a = as' ∧ Z.Warmed39 U.vm ∧ U.heap = h) (fun _ _ _ _ _ => True) (fun _ U o U' => ∃ v L, o = .returned v ∧ Q v U'.heap L ∧ FrameEnd U o U' L rm.cells rm.slots))
    (hf : rm.frames + 1 ≤ R.frames) (hl : W + (maxL + 11) + rm.locals ≤ R.locals) (hg : g.method = m) (hsize : g.locals.size = c.maxLocals) (hlen : ∀ sig, parseMethodDescriptor y.desc = some sig → argsL.length = sig.parameters.length)
    (hstack : g.stack = argsL.reverse ++ .ref a :: rest) (has : (.ref a :: argsL).toArray = as') (hW : 2 * g.monitorRoom + (rest.map fun v => v.category).sum ≤ W) (hdg : decode c.code g.pc = .ok (.invokespecial index, 3)) (hc : cells + rm.cells ≤ R.cells) (hs : slots + rm.slots ≤ R.slots) :
    ∃ (v : Option Value) (T' : State) (L : List Loc), Stand p l e R s m args below meth c T' (locs ++ L) (cells + rm.cells) (slots + rm.slots) ∧ Q v T'.heap L ∧
      ∀ target, Steps p.tables e below (T'.setTop { g with pc := g.pc + 3, stack := v.toList ++ rest }) target → Steps p.tables e below (T.setTop g) target := by
  obtain ⟨v, _, ⟨T', L', k', n'⟩, -, X', ⟨Lc, hQ, l', y', z'⟩, st⟩ := X.specialBack hx (y := y) hy1 hown (mvT hZ w1) (mvT hZ w2) (mvT hZ w4) hy (backOf (W := W) hM hZ w4 w3 hf hl) hg hsize (Steps.refl _) (a := a) hlen hstack hW hdg (fun _ _ => ⟨has, eT, hc, hs⟩)
  dsimp only [Pt.U, Pt.locs, Pt.cells, Pt.slots] at X' l' y' z' st hQ
  subst l' y' z'
  exact ⟨v, T', Lc, X', hQ, fun _ k => st.trans k⟩
theorem own_callV {own C : String} {index : Nat} {y : MethodName} {bytes : ByteArray} {maxL W : Nat} {ret : Option FieldType} {rm : Room} {as' : Array Value} {g : JFrame} {a : Addr} {argsL rest : List Value}
    (X : Stand p l e R s m args below meth c T locs cells slots) (hx : p.tables.exec = Jvm.exec) (hZ : Z.Warmed39 s.vm) (hown : s.vm.findClass own = some m.cls)
    (w1 : (Jvm.Cond.methodLink own index y).before a0 Z = true) (w2 : (Jvm.Cond.declares y).before a0 Z = true) (w3 : (Jvm.Cond.selects C y y).before a0 Z = true) (w4 : (Jvm.Cond.instanceMethod y).before a0 Z = true) (w5 : (Jvm.Cond.initialized y.cls).before a0 Z = true) (w6 : (Jvm.Cond.code y bytes maxL ret).before a0 Z = true)
    (hy : y.cls ≠ "java/lang/invoke/MethodHandle" ∧ y.cls ≠ "java/lang/invoke/VarHandle") (eT : T.heap = h) (E : Exa Z h a C)
    (hM : MetFree l y (head1 [Jvm.Cond.code y bytes maxL ret] rm) (fun a U => a = as' ∧ Z.Warmed39 U.vm ∧ U.heap = h) (fun _ _ _ _ _ => True) (fun _ U o U' => ∃ v L, o = .returned v ∧ Q v U'.heap L ∧ FrameEnd U o U' L rm.cells rm.slots))
    (hf : rm.frames + 1 ≤ R.frames) (hl : W + (maxL + 11) + rm.locals ≤ R.locals) (hg : g.method = m) (hsize : g.locals.size = c.maxLocals) (hlen : ∀ sig, parseMethodDescriptor y.desc = some sig → argsL.length = sig.parameters.length)
    (hstack : g.stack = argsL.reverse ++ .ref a :: rest) (has : (.ref a :: argsL).toArray = as') (hW : 2 * g.monitorRoom + (rest.map fun v => v.category).sum ≤ W) (hdg : decode c.code g.pc = .ok (.invokevirtual index, 3)) (hc : cells + rm.cells ≤ R.cells) (hs : slots + rm.slots ≤ R.slots) :
    ∃ (v : Option Value) (T' : State) (L : List Loc), Stand p l e R s m args below meth c T' (locs ++ L) (cells + rm.cells) (slots + rm.slots) ∧ Q v T'.heap L ∧
      ∀ target, Steps p.tables e below (T'.setTop { g with pc := g.pc + 3, stack := v.toList ++ rest }) target → Steps p.tables e below (T.setTop g) target := by
  obtain ⟨cq, kq, qa, qb, qc⟩ := isOf hZ eT E
  obtain ⟨v, _, ⟨T', L', k', n'⟩, -, X', ⟨Lc, hQ, l', y', z'⟩, st⟩ := X.virtualBack hx (y := y) (z := y) hown (mvT hZ w1) (mvT hZ w2) (notFace_of_selects (args := args) (mvT hZ w3)) (mvT hZ w3) (mvT hZ w4) hy (backOf (W := W) hM hZ w6 w5 hf hl) qa qc hg hsize (Steps.refl _) hlen hstack hW hdg (fun _ _ => ⟨has, eT, hc, hs⟩)
  dsimp only [Pt.U, Pt.locs, Pt.cells, Pt.slots] at X' l' y' z' st hQ
  subst l' y' z'
  exact ⟨v, T', Lc, X', hQ, fun _ k => st.trans k⟩
end OwnStand
/-! ## walks that may intern String constants: the wide frame -/
def own_FinW (tb : Tables) (e : Env) (below : List Frame) (s : State) (R : Room) (Q : Option Value → Heap → List Loc → Prop) (T : State) (g : JFrame) : Prop :=
  ∃ s₂ o, Steps tb e below (T.setTop g) s₂ ∧ s₂.status = .running ∧ Ended s₂ below o ∧ ∃ v L, o = .returned v ∧ Q v s₂.heap L ∧ ReturnedEndW s o s₂ L R.cells R.slots
theorem own_stW {tb : Tables} {e : Env} {below : List Frame} {s : State} {R : Room} {Q : Option Value → Heap → List Loc → Prop} {T T' : State} {g g' : JFrame}
    (h : ∀ t, Steps tb e below (T'.setTop g') t → Steps tb e below (T.setTop g) t) (k : own_FinW tb e below s R Q T' g') : own_FinW tb e below s R Q T g := by
  obtain ⟨s₂, o, h1, r⟩ := k
  exact ⟨s₂, o, h _ h1, r⟩
section OwnWide
variable {p : Program} {l : Launch} {e : Env} {R : Room} {s : State} {m : MethodId} {args : Array Value} {below : List Frame} {meth : Method} {c : Code} {T : State} {locs : List Loc} {cells slots : Nat} {Q : Option Value → Heap → List Loc → Prop} {Z : State} {a0 : Array Value} {h : Heap} {vm0 : Vm} {k0 : Nat}
theorem own_retWW {v : Option Value} {g : JFrame} (X : Stand p l e R (s.setVm vm0) m args below meth c T locs cells slots) (hS : s.Since vm0 k0) (hk : k0 ≤ T.heap.size) (hv : meth.sig.returnType = none → v = none) (hlocks : meth.locks = false) (hc : cells ≤ R.cells) (hs : slots ≤ R.slots) (hQ : Q v T.heap locs)
    (hstep : ∀ fs, (∀ (f : JFrame) (acts : List Action), f.method = m → f.locked = none → f.entered = [] → (doReturn e (T.setTop f) acts v).1 = T.setFrames fs) → Steps p.tables e below (T.setTop g) (T.setFrames fs)) : own_FinW p.tables e below s R Q T g := by
  obtain ⟨fs, hr, hrun, hended, h1, h2, h3, h4⟩ := X.leaveW hS hk hv hlocks
  exact ⟨_, _, hstep fs hr, hrun, hended, _, _, rfl, hQ, h1, h2, h3, h4.mono hc hs⟩
theorem own_retVW {pc : Nat} {Ls : Array Slot} (X : Stand p l e R (s.setVm vm0) m args below meth c T locs cells slots) (hS : s.Since vm0 k0) (hk : k0 ≤ T.heap.size) (hx : p.tables.exec = Jvm.exec) (hret : meth.sig.returnType = none) (hlocks : meth.locks = false) (hd : decode c.code pc = .ok (.return_, 1))
    (hc : cells ≤ R.cells) (hs : slots ≤ R.slots) (hQ : Q none T.heap locs) : own_FinW p.tables e below s R Q T (mkF m pc Ls []) :=
  own_retWW X hS hk (fun _ => rfl) hlocks hc hs hQ fun fs hr => X.returnOut hx hret hd hr
theorem own_retAW {pc : Nat} {Ls : Array Slot} {t : FieldType} {b : Addr} {rest : List Value} (X : Stand p l e R (s.setVm vm0) m args below meth c T locs cells slots) (hS : s.Since vm0 k0) (hk : k0 ≤ T.heap.size) (hx : p.tables.exec = Jvm.exec) (hret : meth.sig.returnType = some t) (ht : t.isReference = true) (hn : narrow t (.ref b) = .ref b) (hlocks : meth.locks = false) (hd : decode c.code pc = .ok (.areturn, 1))
    (hc : cells ≤ R.cells) (hs : slots ≤ R.slots) (hQ : Q (some (.ref b)) T.heap locs) : own_FinW p.tables e below s R Q T (mkF m pc Ls (.ref b :: rest)) :=
  own_retWW X hS hk (fun h => by rw [hret] at h; cases h) hlocks hc hs hQ fun fs hr => retOut X hx hret hn (Or.inr (Or.inr (Or.inr (Or.inr ⟨rfl, ht, rfl⟩)))) hd hr
theorem own_retNW {pc : Nat} {Ls : Array Slot} {t : FieldType} {z : Int32} {rest : List Value} (X : Stand p l e R (s.setVm vm0) m args below meth c T locs cells slots) (hS : s.Since vm0 k0) (hk : k0 ≤ T.heap.size) (hx : p.tables.exec = Jvm.exec) (hret : meth.sig.returnType = some t) (ht : t = .boolean ∨ t = .byte ∨ t = .char ∨ t = .short) (hlocks : meth.locks = false) (hd : decode c.code pc = .ok (.ireturn, 1))
    (hc : cells ≤ R.cells) (hs : slots ≤ R.slots) (hQ : Q (some (.int (nar t z))) T.heap locs) : own_FinW p.tables e below s R Q T (mkF m pc Ls (.int z :: rest)) :=
  own_retWW X hS hk (fun h => by rw [hret] at h; cases h) hlocks hc hs hQ fun fs hr => retN X hx hret ht hd hr
theorem own_bodyW {y : MethodName} {bytes : ByteArray} {maxL : Nat} {ret : Option FieldType} {ws : List Jvm.Cond} {rm : Room} {as' : Array Value} {h0 : Heap} (hpl : plainFor y = true)
    (body : ∀ (p : Program) (e : Env) (s : State) (m : MethodId) (below : List Frame) (meth : Method) (c : Code) (s₁ : State), p.tables.exec = Jvm.exec → c.code = bytes → c.maxLocals = maxL → (s.setVm s.vm).vm.findClass y.cls = some m.cls → meth.name = y.name → meth.sig.returnType = ret → meth.locks = false → Z.Warmed39 (s.setVm s.vm).vm → Stand p l e rm (s.setVm s.vm) m as' below meth c s₁ [] 0 0 → s₁.heap = h0 → s.Since s.vm 0 → own_FinW p.tables e below s rm Q s₁ (entryFrame m as' maxL)) :
    MetFree l y (head1 (Jvm.Cond.code y bytes maxL ret :: ws) rm) (fun a U => a = as' ∧ Z.Warmed39 U.vm ∧ U.heap = h0) (fun _ _ _ _ _ => True) (fun _ U o U' => ∃ v L, o = .returned v ∧ Q v U'.heap L ∧ ReturnedEndW U o U' L rm.cells rm.slots) := by
  refine MetFree.of_bodySF hpl hisR ?_
  intro p e s m args below meth c s₁ Bd hml0 hP hK
  obtain ⟨rfl, hZ, hh⟩ := hP
  exact body p e s m below meth c s₁ Bd.exec Bd.bytes hml0 (findClass_of_methodNamed Bd.named) (name_of_methodNamed Bd.named Bd.method).1 Bd.returns Bd.notSynchronized hZ (Stand.of_body Bd) (by rw [← hh, Bd.state]; rfl) ((State.WarmedH.refl s).since 0)
theorem own_callNW {own : String} {index : Nat} {y : MethodName} {bytes : ByteArray} {maxL W : Nat} {rm : Room} {as' : Array Value} {g : JFrame} {a : Addr} {argsL rest : List Value}
    (X : Stand p l e R (s.setVm vm0) m args below meth c T locs cells slots) (hS : s.Since vm0 k0) (hk : k0 ≤ h.size) (hx : p.tables.exec = Jvm.exec) (hZ : Z.Warmed39 (s.setVm vm0).vm) (hy1 : y.name = "<init>") (hown : (s.setVm vm0).vm.findClass own = some m.cls)
    (w1 : (Jvm.Cond.methodLink own index y).before a0 Z = true) (w2 : (Jvm.Cond.instanceMethod y).before a0 Z = true) (w3 : (Jvm.Cond.initialized y.cls).before a0 Z = true) (w4 : (Jvm.Cond.code y bytes maxL none).before a0 Z = true)
    (hy : y.cls ≠ "java/lang/invoke/MethodHandle" ∧ y.cls ≠ "java/lang/invoke/VarHandle") (eT : T.heap = h)
    (hM : MetFree l y (head1 [Jvm.Cond.code y bytes maxL none] rm) (fun a U => a = as' ∧ Z.Warmed39 U.vm ∧ U.heap = h) (fun _ _ _ _ _ => True) (fun _ U o U' => ∃ v L, o = .returned v ∧ Q v U'.heap L ∧ ReturnedEndW U o U' L rm.cells rm.slots))
    (hf : rm.frames + 1 ≤ R.frames) (hl : W + (maxL + 11) + rm.locals ≤ R.locals) (hg : g.method = m) (hsize : g.locals.size = c.maxLocals) (hlen : ∀ sig, parseMethodDescriptor y.desc = some sig → argsL.length = sig.parameters.length)
    (hstack : g.stack = argsL.reverse ++ .ref a :: rest) (has : (.ref a :: argsL).toArray = as') (hW : 2 * g.monitorRoom + (rest.map fun v => v.category).sum ≤ W) (hdg : decode c.code g.pc = .ok (.invokespecial index, 3)) (hc : cells + rm.cells ≤ R.cells) (hs : slots + rm.slots ≤ R.slots) :
    ∃ (v : Option Value) (T' : State) (L : List Loc), Stand p l e R (s.setVm T'.vm) m args below meth c T' (locs ++ L) (cells + rm.cells) (slots + rm.slots) ∧ Q v T'.heap L ∧ s.Since T'.vm T'.heap.size ∧ Z.Warmed39 (s.setVm T'.vm).vm ∧ (s.setVm T'.vm).vm.findClass own = some m.cls ∧
      ∀ target, Steps p.tables e below (T'.setTop { g with pc := g.pc + 3, stack := v.toList ++ rest }) target → Steps p.tables e below (T.setTop g) target := by
  obtain ⟨v, _, ⟨T', L', k', n'⟩, -, X', hS2, hgr, ⟨Lc, hQ, l', y', z'⟩, st⟩ := X.specialBackS hx (y := y) hy1 hown (mvT hZ w1) (mvT hZ w2) (mvT hZ w4) hy (backOfS (W := W) hM hZ w4 w3 hf hl) hg hsize (Steps.refl _) (a := a) hlen hstack hW hdg (fun _ _ => ⟨has, eT, hc, hs⟩)
  dsimp only [Pt.U, Pt.locs, Pt.cells, Pt.slots] at X' l' y' z' st hQ hS2 hgr
  subst l' y' z'
  obtain ⟨X2, hS3, hZ3, hown3⟩ := rebS hS hk X' hS2 (by rw [← eT]; exact hgr) hZ hown
  exact ⟨v, T', Lc, X2, hQ, hS3, hZ3, hown3, fun _ k => st.trans k⟩
theorem own_callVW {own C : String} {index : Nat} {y : MethodName} {bytes : ByteArray} {maxL W : Nat} {ret : Option FieldType} {rm : Room} {as' : Array Value} {g : JFrame} {a : Addr} {argsL rest : List Value}
    (X : Stand p l e R (s.setVm vm0) m args below meth c T locs cells slots) (hS : s.Since vm0 k0) (hk : k0 ≤ h.size) (hx : p.tables.exec = Jvm.exec) (hZ : Z.Warmed39 (s.setVm vm0).vm) (hown : (s.setVm vm0).vm.findClass own = some m.cls)
    (w1 : (Jvm.Cond.methodLink own index y).before a0 Z = true) (w2 : (Jvm.Cond.declares y).before a0 Z = true) (w3 : (Jvm.Cond.selects C y y).before a0 Z = true) (w4 : (Jvm.Cond.instanceMethod y).before a0 Z = true) (w5 : (Jvm.Cond.initialized y.cls).before a0 Z = true) (w6 : (Jvm.Cond.code y bytes maxL ret).before a0 Z = true)
    (hy : y.cls ≠ "java/lang/invoke/MethodHandle" ∧ y.cls ≠ "java/lang/invoke/VarHandle") (eT : T.heap = h) (E : Exa Z h a C)
    (hM : MetFree l y (head1 [Jvm.Cond.code y bytes maxL ret] rm) (fun a U => a = as' ∧ Z.Warmed39 U.vm ∧ U.heap = h) (fun _ _ _ _ _ => True) (fun _ U o U' => ∃ v L, o = .returned v ∧ Q v U'.heap L ∧ ReturnedEndW U o U' L rm.cells rm.slots))
    (hf : rm.frames + 1 ≤ R.frames) (hl : W + (maxL + 11) + rm.locals ≤ R.locals) (hg : g.method = m) (hsize : g.locals.size = c.maxLocals) (hlen : ∀ sig, parseMethodDescriptor y.desc = some sig → argsL.length = sig.parameters.length)
    (hstack : g.stack = argsL.reverse ++ .ref a :: rest) (has : (.ref a :: argsL).toArray = as') (hW : 2 * g.monitorRoom + (rest.map fun v => v.category).sum ≤ W) (hdg : decode c.code g.pc = .ok (.invokevirtual index, 3)) (hc : cells + rm.cells ≤ R.cells) (hs : slots + rm.slots ≤ R.slots) :
    ∃ (v : Option Value) (T' : State) (L : List Loc), Stand p l e R (s.setVm T'.vm) m args below meth c T' (locs ++ L) (cells + rm.cells) (slots + rm.slots) ∧ Q v T'.heap L ∧ s.Since T'.vm T'.heap.size ∧ Z.Warmed39 (s.setVm T'.vm).vm ∧ (s.setVm T'.vm).vm.findClass own = some m.cls ∧
      ∀ target, Steps p.tables e below (T'.setTop { g with pc := g.pc + 3, stack := v.toList ++ rest }) target → Steps p.tables e below (T.setTop g) target := by
  obtain ⟨cq, kq, qa, qb, qc⟩ := isOf hZ eT E
  obtain ⟨v, _, ⟨T', L', k', n'⟩, -, X', hS2, hgr, ⟨Lc, hQ, l', y', z'⟩, st⟩ := X.virtualBackS hx (y := y) (z := y) hown (mvT hZ w1) (mvT hZ w2) (notFace_of_selects (args := args) (mvT hZ w3)) (mvT hZ w3) (mvT hZ w4) hy (backOfS (W := W) hM hZ w6 w5 hf hl) qa qc hg hsize (Steps.refl _) hlen hstack hW hdg (fun _ _ => ⟨has, eT, hc, hs⟩)
  dsimp only [Pt.U, Pt.locs, Pt.cells, Pt.slots] at X' l' y' z' st hQ hS2 hgr
  subst l' y' z'
  obtain ⟨X2, hS3, hZ3, hown3⟩ := rebS hS hk X' hS2 (by rw [← eT]; exact hgr) hZ hown
  exact ⟨v, T', Lc, X2, hQ, hS3, hZ3, hown3, fun _ k => st.trans k⟩
theorem own_newarrE {n : Int32} {rest : List Value} {g : JFrame} (X : Stand p l e R s m args below meth c T locs cells slots) (hx : p.tables.exec = Jvm.exec) (hZ : Z.Warmed39 s.vm) (w : (Jvm.Cond.arrayClass .byte).before a0 Z = true) (eT : T.heap = h) (hg : g.method = m) (hd : decode c.code g.pc = .ok (.newarray .byte, 2)) (hs : g.stack = .int n :: rest)
    (hn : ¬ n < 0) {cap : Nat} (hcap : n.toNatClampNeg ≤ cap) (hb : cap * 8 ≤ 536870912) (hc : cells + 1 ≤ R.cells) (hl : slots + cap ≤ R.slots) :
    ∃ T' h' a, Stand p l e R s m args below meth c T' locs (cells + 1) (slots + cap) ∧ T'.heap = h' ∧ a = h.size ∧ Ext h h' ∧ own_A Z h' a .byte n.toNatClampNeg (fun _ => .int (0 : Int32)) ∧ Exa Z h' a "[B" ∧
      ∀ target, Steps p.tables e below (T'.setTop { g with pc := g.pc + 2, stack := .ref a :: rest }) target → Steps p.tables e below (T.setTop g) target := by
  obtain ⟨T', h', cA, X', e', E', A', Ex, st⟩ := newPE X hx hZ (aty := .byte) w eT hg hd hs hn hcap hb hc hl (ad := "[B") (by decide)
  exact ⟨T', h', _, X', e', rfl, E', own_A.new A', Ex, st⟩
theorem own_clone {own : String} {index n : Nat} {gf : Nat → Int32} {a : Addr} {g : JFrame} {rest : List Value} (X : Stand p l e R s m args below meth c T locs cells slots) (hx : p.tables.exec = Jvm.exec) (hZ : Z.Warmed39 s.vm) (hown : s.vm.findClass own = some m.cls)
    (w1 : (Jvm.Cond.methodLink own index ⟨"[B", "clone", "()Ljava/lang/Object;"⟩).before a0 Z = true) (w2 : (Jvm.Cond.sameMethod "[B" "java/lang/Object" "clone" "()Ljava/lang/Object;").before a0 Z = true) (w3 : (Jvm.Cond.native ⟨"java/lang/Object", "clone", "()Ljava/lang/Object;"⟩).before a0 Z = true)
    (w4 : (Jvm.Cond.instanceMethod ⟨"java/lang/Object", "clone", "()Ljava/lang/Object;"⟩).before a0 Z = true) (w5 : (Jvm.Cond.selects "[B" ⟨"[B", "clone", "()Ljava/lang/Object;"⟩ ⟨"java/lang/Object", "clone", "()Ljava/lang/Object;"⟩).before a0 Z = true) (w6 : (Jvm.Cond.castable "[B" "java/lang/Cloneable").before a0 Z = true)
    (eT : T.heap = h) (A : own_A Z h a .byte n (fun i => .int (gf i))) (E : Exa Z h a "[B") (hfit : ∀ i, i < n → fits .byte (.int (gf i)) = true) (hg : g.method = m) (hsize : g.locals.size = c.maxLocals) (hs : g.stack = .ref a :: rest) (hd : decode c.code g.pc = .ok (.invokevirtual index, 3))
    (hf : 1 ≤ R.frames) {W cap : Nat} (hW : 2 * g.monitorRoom + (rest.map fun v => v.category).sum ≤ W) (hl : W + 14 ≤ R.locals) (hcap : n ≤ cap) (hc : cells + 1 ≤ R.cells) (hsl : slots + cap ≤ R.slots) :
    ∃ T' h' b, Stand p l e R s m args below meth c T' locs (cells + 1) (slots + cap) ∧ T'.heap = h' ∧ b = h.size ∧ Ext h h' ∧ own_A Z h' b .byte n (fun i => .int (gf i)) ∧ Exa Z h' b "[B" ∧
      ∀ target, Steps p.tables e below (T'.setTop { g with pc := g.pc + 3, stack := .ref b :: rest }) target → Steps p.tables e below (T.setTop g) target := by
  obtain ⟨cl, A1, s1, s2⟩ := A
  have FC : FitC Z cl := fitC_of A1 fun i hi v hv => by rw [s2 i (by omega)] at hv; cases hv; exact hfit i (by omega)
  obtain ⟨T', h', X', e', ex, A', E', st⟩ := cloneA X hx hZ hown w1 w2 w3 w4 w5 w6 eT A1 E FC hg hsize hs hd hf hW hl (by rw [s1]; exact hcap) hc hsl
  exact ⟨T', h', _, X', e', rfl, ex, ⟨cloneOf cl, A', s1, s2⟩, E', st⟩
end OwnWide

theorem own_idx (j : Int32) (n : Nat) (h0 : 0 ≤ j.toInt) (h1 : j.toInt < n) : ¬ (j < 0 ∨ n ≤ j.toNatClampNeg) := by
  have e : j.toNatClampNeg = j.toInt.toNat := rfl
  intro q
  rcases q with q | q
  · rw [Int32.lt_iff_toInt_lt] at q
    have : (0 : Int32).toInt = 0 := by decide
    omega
  · omega
theorem own_clamp (j : Int32) (k : Nat) (h : j.toInt = k) : j.toNatClampNeg = k := by
  have e : j.toNatClampNeg = j.toInt.toNat := rfl
  omega
theorem own_lt32 (x y : Int32) : x < y ↔ x.toInt < y.toInt := Int32.lt_iff_toInt_lt
theorem own_eq32 (x y : Int32) : x = y ↔ x.toInt = y.toInt := Int32.toInt_inj.symm
def own_in (x : Int32) (b : Int32) : Prop := ¬ x < 0 ∧ ¬ b < x
theorem own_in_of (x b : Int32) (h0 : 0 ≤ x.toInt) (h1 : x.toInt ≤ b.toInt) : own_in x b := by
  have k0 : (0 : Int32).toInt = 0 := by decide
  exact ⟨by rw [own_lt32]; omega, by rw [own_lt32]; omega⟩
theorem own_in255 (x : Int32) : own_in (x &&& 255) 255 := by
  have h := c_mask x 255 8 (by decide) (by decide)
  exact own_in_of _ _ (by omega) (by have k : (255 : Int32).toInt = 255 := (by decide); omega)
theorem own_in256 (x : Int32) : own_in ((x &&& 2147483647) % 257) 256 := by
  have h1 := c_mask x 2147483647 31 (by decide) (by decide)
  have h2 := (c_irem (x &&& 2147483647) 257 257 (by decide)).1 (by omega)
  exact own_in_of _ _ (by omega) (by have k : (256 : Int32).toInt = 256 := (by decide); omega)
theorem own_strs {Z : State} {a0 : Array Value} (hw : ∀ d ∈ tables_1, d.before a0 Z = true) : ∀ d ∈ Bundle.stringAtoms, d.before a0 Z = true := by
  intro d hd
  simp only [Bundle.stringAtoms, List.mem_cons, List.not_mem_nil, or_false] at hd
  rcases hd with rfl | rfl | rfl | rfl | rfl | rfl | rfl
  · exact hw _ (List.mem_of_getElem? (i := 12) rfl)
  · exact hw _ (List.mem_of_getElem? (i := 13) rfl)
  · exact hw _ (List.mem_of_getElem? (i := 1) rfl)
  · exact hw _ (List.mem_of_getElem? (i := 14) rfl)
  · exact hw _ (List.mem_of_getElem? (i := 15) rfl)
  · exact hw _ (List.mem_of_getElem? (i := 16) rfl)
  · exact hw _ (List.mem_of_getElem? (i := 17) rfl)
theorem d3_0 : decode prog_45_method_25_code 0 = .ok (.iload_n 1, 1) := by decide +kernel
theorem d3_1 : decode prog_45_method_25_code 1 = .ok (.ifCond .lt 10, 3) := by decide +kernel
theorem d3_4 : decode prog_45_method_25_code 4 = .ok (.iload_n 1, 1) := by decide +kernel
theorem d3_5 : decode prog_45_method_25_code 5 = .ok (.sipush 255, 3) := by decide +kernel
theorem d3_8 : decode prog_45_method_25_code 8 = .ok (.if_icmp .le 18, 3) := by decide +kernel
theorem d3_26 : decode prog_45_method_25_code 26 = .ok (.iload_n 1, 1) := by decide +kernel
theorem d3_27 : decode prog_45_method_25_code 27 = .ok (.ireturn, 1) := by decide +kernel
theorem pn_3 : plainFor (⟨"com/example/seamark/seamark/transport/CommandApdu", "requireByte", "(Ljava/lang/String;I)I"⟩ : MethodName) = true := plainFor_of_name (by first | (simp [plainName, overriddenIn]; done) | decide +kernel)
theorem ef_3 (m : MethodId) (sa : Addr) (vx : Int32) : entryFrame m #[(.ref sa), (.int vx)] 2 = mkF m 0 #[.val (.ref sa), .val (.int vx)] [] := by first | (simp [entryFrame, mkF, argsToLocals, Value.category]; done) | rfl
def Q3 (Z : State) (sa : Addr) (vx : Int32) (hI : Heap) (n0 : Nat) (v : Option Value) (h : Heap) (L : List Loc) : Prop := v = some (.int vx) ∧ Fr n0 L ∧ h = hI
set_option maxRecDepth 65536 in
set_option maxHeartbeats 40000000 in
theorem rm3 (l : Launch) (Z : State) (a0 : Array Value) (hw : ∀ d ∈ tables_1, d.before a0 Z = true) (ws : List Jvm.Cond) (sa : Addr) (vx : Int32) (hI : Heap) (n0 : Nat) (Z0 : n0 ≤ hI.size) (hv : own_in vx 255) :
    MetFree l (⟨"com/example/seamark/seamark/transport/CommandApdu", "requireByte", "(Ljava/lang/String;I)I"⟩ : MethodName) (head1 (Jvm.Cond.code (⟨"com/example/seamark/seamark/transport/CommandApdu", "requireByte", "(Ljava/lang/String;I)I"⟩ : MethodName) prog_45_method_25_code 2 (some .int) :: ws) ({ frames := 0, cells := 0, slots := 0, locals := 0 } : Room)) (fun a₁ U₁ => a₁ = #[(.ref sa), (.int vx)] ∧ Z.Warmed39 U₁.vm ∧ U₁.heap = hI) (fun _ _ _ _ _ => True) (fun _ U₁ o₁ U₂ => ∃ v₁ L₁, o₁ = .returned v₁ ∧ Q3 Z sa vx hI n0 v₁ U₂.heap L₁ ∧ FrameEnd U₁ o₁ U₂ L₁ ({ frames := 0, cells := 0, slots := 0, locals := 0 } : Room).cells ({ frames := 0, cells := 0, slots := 0, locals := 0 } : Room).slots) := by
  refine own_body pn_3 ?_
  intro p e s m below meth c s₁ hx hby hml hown hnm hret hlk hZ XI eI
  obtain ⟨F, hF⟩ : ∃ F : State → JFrame → Prop, F = own_Fin p.tables e below s ({ frames := 0, cells := 0, slots := 0, locals := 0 } : Room) (Q3 Z sa vx hI n0) := ⟨_, rfl⟩
  have hst : ∀ {T T' : State} {g g' : JFrame}, (∀ t, Steps p.tables e below (T'.setTop g') t → Steps p.tables e below (T.setTop g) t) → F T' g' → F T g := by subst hF; exact own_st
  have NI := Fr.nil n0
  show own_Fin p.tables e below s ({ frames := 0, cells := 0, slots := 0, locals := 0 } : Room) (Q3 Z sa vx hI n0) s₁ (entryFrame m #[(.ref sa), (.int vx)] 2)
  rw [← hF]
  rw [ef_3]
  show F s₁ (mkF m 0 #[.val (.ref sa), .val (.int vx)] [])
  refine hst (fun t₀ k₀ => XS.iloadN XI.here hx rfl (hb hby d3_0) rfl k₀) ?_
  show F s₁ (mkF m 1 #[.val (.ref sa), .val (.int vx)] [(.int vx)])
  refine hst (fun t₀ k₀ => XS.ifNo XI.here hx rfl (hb hby d3_1) rfl ((if0 _ _).trans (flt hv.1).1) k₀) ?_
  show F s₁ (mkF m 4 #[.val (.ref sa), .val (.int vx)] [])
  refine hst (fun t₀ k₀ => XS.iloadN XI.here hx rfl (hb hby d3_4) rfl k₀) ?_
  show F s₁ (mkF m 5 #[.val (.ref sa), .val (.int vx)] [(.int vx)])
  refine hst (fun t₀ k₀ => XS.sipush XI.here hx rfl (hb hby d3_5) k₀) ?_
  show F s₁ (mkF m 8 #[.val (.ref sa), .val (.int vx)] [(.int (255 : Int32)), (.int vx)])
  refine hst (fun t₀ k₀ => XS.icmpYes XI.here hx rfl (pc0 := 8) (pc' := 26) rfl (hb hby d3_8) rfl (flt hv.2).2.2.2 (by decide) (by decide) k₀) ?_
  show F s₁ (mkF m 26 #[.val (.ref sa), .val (.int vx)] [])
  refine hst (fun t₀ k₀ => XS.iloadN XI.here hx rfl (hb hby d3_26) rfl k₀) ?_
  show F s₁ (mkF m 27 #[.val (.ref sa), .val (.int vx)] [(.int vx)])
  rw [hF]
  refine own_retI XI hx hret hlk (hb hby d3_27) (by decide) (by decide) ?_
  rw [eI]
  exact ⟨rfl, NI, rfl⟩
theorem d1_0 : decode prog_45_method_1_code 0 = .ok (.aload_n 0, 1) := by decide +kernel
theorem d1_1 : decode prog_45_method_1_code 1 = .ok (.invokespecial 1, 3) := by decide +kernel
theorem d1_4 : decode prog_45_method_1_code 4 = .ok (.aload_n 0, 1) := by decide +kernel
theorem d1_5 : decode prog_45_method_1_code 5 = .ok (.ldc 7, 2) := by decide +kernel
theorem d1_7 : decode prog_45_method_1_code 7 = .ok (.iload_n 1, 1) := by decide +kernel
theorem d1_8 : decode prog_45_method_1_code 8 = .ok (.invokestatic 9, 3) := by decide +kernel
theorem d1_11 : decode prog_45_method_1_code 11 = .ok (.putfield 15, 3) := by decide +kernel
theorem d1_14 : decode prog_45_method_1_code 14 = .ok (.aload_n 0, 1) := by decide +kernel
theorem d1_15 : decode prog_45_method_1_code 15 = .ok (.ldc 19, 2) := by decide +kernel
theorem d1_17 : decode prog_45_method_1_code 17 = .ok (.iload_n 2, 1) := by decide +kernel
theorem d1_18 : decode prog_45_method_1_code 18 = .ok (.invokestatic 9, 3) := by decide +kernel
theorem d1_21 : decode prog_45_method_1_code 21 = .ok (.putfield 21, 3) := by decide +kernel
theorem d1_24 : decode prog_45_method_1_code 24 = .ok (.aload_n 0, 1) := by decide +kernel
theorem d1_25 : decode prog_45_method_1_code 25 = .ok (.ldc 24, 2) := by decide +kernel
theorem d1_27 : decode prog_45_method_1_code 27 = .ok (.iload_n 3, 1) := by decide +kernel
theorem d1_28 : decode prog_45_method_1_code 28 = .ok (.invokestatic 9, 3) := by decide +kernel
theorem d1_31 : decode prog_45_method_1_code 31 = .ok (.putfield 26, 3) := by decide +kernel
theorem d1_34 : decode prog_45_method_1_code 34 = .ok (.aload_n 0, 1) := by decide +kernel
theorem d1_35 : decode prog_45_method_1_code 35 = .ok (.ldc 29, 2) := by decide +kernel
theorem d1_37 : decode prog_45_method_1_code 37 = .ok (.iload 4, 2) := by decide +kernel
theorem d1_39 : decode prog_45_method_1_code 39 = .ok (.invokestatic 9, 3) := by decide +kernel
theorem d1_42 : decode prog_45_method_1_code 42 = .ok (.putfield 31, 3) := by decide +kernel
theorem d1_45 : decode prog_45_method_1_code 45 = .ok (.aload 5, 2) := by decide +kernel
theorem d1_47 : decode prog_45_method_1_code 47 = .ok (.arraylength, 1) := by decide +kernel
theorem d1_48 : decode prog_45_method_1_code 48 = .ok (.sipush 255, 3) := by decide +kernel
theorem d1_51 : decode prog_45_method_1_code 51 = .ok (.if_icmp .le 19, 3) := by decide +kernel
theorem d1_70 : decode prog_45_method_1_code 70 = .ok (.iload 6, 2) := by decide +kernel
theorem d1_72 : decode prog_45_method_1_code 72 = .ok (.ifCond .lt 11, 3) := by decide +kernel
theorem d1_75 : decode prog_45_method_1_code 75 = .ok (.iload 6, 2) := by decide +kernel
theorem d1_77 : decode prog_45_method_1_code 77 = .ok (.sipush 256, 3) := by decide +kernel
theorem d1_80 : decode prog_45_method_1_code 80 = .ok (.if_icmp .le 18, 3) := by decide +kernel
theorem d1_98 : decode prog_45_method_1_code 98 = .ok (.aload_n 0, 1) := by decide +kernel
theorem d1_99 : decode prog_45_method_1_code 99 = .ok (.aload 5, 2) := by decide +kernel
theorem d1_101 : decode prog_45_method_1_code 101 = .ok (.invokevirtual 44, 3) := by decide +kernel
theorem d1_104 : decode prog_45_method_1_code 104 = .ok (.checkcast 45, 3) := by decide +kernel
theorem d1_107 : decode prog_45_method_1_code 107 = .ok (.putfield 50, 3) := by decide +kernel
theorem d1_110 : decode prog_45_method_1_code 110 = .ok (.aload_n 0, 1) := by decide +kernel
theorem d1_111 : decode prog_45_method_1_code 111 = .ok (.iload 6, 2) := by decide +kernel
theorem d1_113 : decode prog_45_method_1_code 113 = .ok (.putfield 53, 3) := by decide +kernel
theorem d1_116 : decode prog_45_method_1_code 116 = .ok (.return_, 1) := by decide +kernel
theorem pn_1 : plainFor (⟨"com/example/seamark/seamark/transport/CommandApdu", "<init>", "(IIII[BI)V"⟩ : MethodName) = true := plainFor_of_name (by first | (simp [plainName, overriddenIn]; done) | decide +kernel)
theorem pd_4 : parseMethodDescriptor "(Ljava/lang/String;I)I" = some ⟨[(.object "java/lang/String"), .int], some .int⟩ := by decide +kernel
theorem ef_1 (m : MethodId) (a : Addr) (v1 : Int32) (v2 : Int32) (v3 : Int32) (v4 : Int32) (d : Addr) (v6 : Int32) : entryFrame m #[(.ref a), (.int v1), (.int v2), (.int v3), (.int v4), (.ref d), (.int v6)] 7 = mkF m 0 #[.val (.ref a), .val (.int v1), .val (.int v2), .val (.int v3), .val (.int v4), .val (.ref d), .val (.int v6)] [] := by first | (simp [entryFrame, mkF, argsToLocals, Value.category]; done) | rfl
def Q1 (Z : State) (a : Addr) (v1 : Int32) (v2 : Int32) (v3 : Int32) (v4 : Int32) (d : Addr) (v6 : Int32) (nd : Nat) (gf : Nat → Int32) (hI : Heap) (n0 : Nat) (v : Option Value) (h : Heap) (L : List Loc) : Prop := ∃ (b : Addr), v = none ∧ Fr n0 L ∧ Keep hI h [a] ∧ Exa Z h a "com/example/seamark/seamark/transport/CommandApdu" ∧ Fld Z h a "com/example/seamark/seamark/transport/CommandApdu" "cla" "I" (.int v1) ∧ Fld Z h a "com/example/seamark/seamark/transport/CommandApdu" "ins" "I" (.int v2) ∧ Fld Z h a "com/example/seamark/seamark/transport/CommandApdu" "p1" "I" (.int v3) ∧ Fld Z h a "com/example/seamark/seamark/transport/CommandApdu" "p2" "I" (.int v4) ∧ Fld Z h a "com/example/seamark/seamark/transport/CommandApdu" "ne" "I" (.int v6) ∧ Fld Z h a "com/example/seamark/seamark/transport/CommandApdu" "data" "[B" (.ref b) ∧ own_A Z h b .byte nd (fun i => .int (gf i)) ∧ Exa Z h b "[B" ∧ b ≠ a
set_option maxRecDepth 65536 in
set_option maxHeartbeats 40000000 in
theorem rm1 (l : Launch) (Z : State) (a0 : Array Value) (hw : ∀ d ∈ tables_1, d.before a0 Z = true) (ws : List Jvm.Cond) (a : Addr) (v1 : Int32) (v2 : Int32) (v3 : Int32) (v4 : Int32) (d : Addr) (v6 : Int32) (nd : Nat) (gf : Nat → Int32) (hI : Heap) (n0 : Nat) (Z0 : n0 ≤ hI.size) (E_a : Exa Z hI a "com/example/seamark/seamark/transport/CommandApdu") (ge_a : n0 ≤ a) (Fcla_z : Fld Z hI a "com/example/seamark/seamark/transport/CommandApdu" "cla" "I" (.int (0 : Int32))) (Fins_z : Fld Z hI a "com/example/seamark/seamark/transport/CommandApdu" "ins" "I" (.int (0 : Int32))) (Fp1_z : Fld Z hI a "com/example/seamark/seamark/transport/CommandApdu" "p1" "I" (.int (0 : Int32))) (Fp2_z : Fld Z hI a "com/example/seamark/seamark/transport/CommandApdu" "p2" "I" (.int (0 : Int32))) (F_data : Fld Z hI a "com/example/seamark/seamark/transport/CommandApdu" "data" "[B" .null) (F_ne : Fld Z hI a "com/example/seamark/seamark/transport/CommandApdu" "ne" "I" (.int (0 : Int32))) (A_d : own_A Z hI d .byte nd (fun i => .int (gf i))) (E_d : Exa Z hI d "[B") (ne_d_a : d ≠ a) (hn : nd ≤ 255) (hfit : ∀ i, i < nd → fits .byte (.int (gf i)) = true) (hv1 : own_in v1 255) (hv2 : own_in v2 255) (hv3 : own_in v3 255) (hv4 : own_in v4 255) (hne : own_in v6 256) :
    MetFree l (⟨"com/example/seamark/seamark/transport/CommandApdu", "<init>", "(IIII[BI)V"⟩ : MethodName) (head1 (Jvm.Cond.code (⟨"com/example/seamark/seamark/transport/CommandApdu", "<init>", "(IIII[BI)V"⟩ : MethodName) prog_45_method_1_code 7 none :: ws) ({ frames := 1, cells := 9, slots := 311, locals := 15 } : Room)) (fun a₁ U₁ => a₁ = #[(.ref a), (.int v1), (.int v2), (.int v3), (.int v4), (.ref d), (.int v6)] ∧ Z.Warmed39 U₁.vm ∧ U₁.heap = hI) (fun _ _ _ _ _ => True) (fun _ U₁ o₁ U₂ => ∃ v₁ L₁, o₁ = .returned v₁ ∧ Q1 Z a v1 v2 v3 v4 d v6 nd gf hI n0 v₁ U₂.heap L₁ ∧ ReturnedEndW U₁ o₁ U₂ L₁ ({ frames := 1, cells := 9, slots := 311, locals := 15 } : Room).cells ({ frames := 1, cells := 9, slots := 311, locals := 15 } : Room).slots) := by
  refine own_bodyW pn_1 ?_
  intro p e s m below meth c s₁ hx hby hml hown hnm hret hlk hZ XI eI hS0
  have wS := own_strs hw
  obtain ⟨F, hF⟩ : ∃ F : State → JFrame → Prop, F = own_FinW p.tables e below s ({ frames := 1, cells := 9, slots := 311, locals := 15 } : Room) (Q1 Z a v1 v2 v3 v4 d v6 nd gf hI n0) := ⟨_, rfl⟩
  have hst : ∀ {T T' : State} {g g' : JFrame}, (∀ t, Steps p.tables e below (T'.setTop g') t → Steps p.tables e below (T.setTop g) t) → F T' g' → F T g := by subst hF; exact own_stW
  have NI := Fr.nil n0
  show own_FinW p.tables e below s ({ frames := 1, cells := 9, slots := 311, locals := 15 } : Room) (Q1 Z a v1 v2 v3 v4 d v6 nd gf hI n0) s₁ (entryFrame m #[(.ref a), (.int v1), (.int v2), (.int v3), (.int v4), (.ref d), (.int v6)] 7)
  rw [← hF]
  rw [ef_1]
  show F s₁ (mkF m 0 #[.val (.ref a), .val (.int v1), .val (.int v2), .val (.int v3), .val (.int v4), .val (.ref d), .val (.int v6)] [])
  refine hst (fun t₀ k₀ => XS.aloadN XI.here hx rfl (hb hby d1_0) rfl rfl k₀) ?_
  show F s₁ (mkF m 1 #[.val (.ref a), .val (.int v1), .val (.int v2), .val (.int v3), .val (.int v4), .val (.ref d), .val (.int v6)] [(.ref a)])
  obtain ⟨T1, X1, e1, st1⟩ := initO XI hx hZ hown (hw _ (List.mem_of_getElem? (i := 8) rfl)) (hw _ (List.mem_of_getElem? (i := 9) rfl)) (hw _ (List.mem_of_getElem? (i := 10) rfl)) eI (g := (mkF m 1 #[.val (.ref a), .val (.int v1), .val (.int v2), .val (.int v3), .val (.int v4), .val (.ref d), .val (.int v6)] [(.ref a)])) rfl (by rw [hml]; rfl) rfl (hb hby d1_1) (by decide) (W := 0) (by show 2 * 0 + _ ≤ _; exact Nat.le_of_eq rfl) (by decide)
  refine hst st1 ?_
  show F T1 (mkF m 4 #[.val (.ref a), .val (.int v1), .val (.int v2), .val (.int v3), .val (.int v4), .val (.ref d), .val (.int v6)] [])
  refine hst (fun t₀ k₀ => XS.aloadN X1.here hx rfl (hb hby d1_4) rfl rfl k₀) ?_
  show F T1 (mkF m 5 #[.val (.ref a), .val (.int v1), .val (.int v2), .val (.int v3), .val (.int v4), .val (.ref d), .val (.int v6)] [(.ref a)])
  obtain ⟨sa5, T5, h5, ks5, X5, e5, E5, hS5, hk5, hZ, hown, st5⟩ := ldcS X1 hx hZ hown (hw _ (List.mem_of_getElem? (i := 11) rfl)) wS e1 hS0 (Nat.zero_le _) (g := (mkF m 5 #[.val (.ref a), .val (.int v1), .val (.int v2), .val (.int v3), .val (.int v4), .val (.ref d), .val (.int v6)] [(.ref a)])) rfl (hb hby d1_5) (n := 12) (by decide) (by decide) (by decide) (by decide)
  have E_a_p5 : Exa Z h5 a "com/example/seamark/seamark/transport/CommandApdu" := E_a.ext E5
  have Fcla_z_p5 : Fld Z h5 a "com/example/seamark/seamark/transport/CommandApdu" "cla" "I" (.int (0 : Int32)) := Fcla_z.ext E5
  have Fins_z_p5 : Fld Z h5 a "com/example/seamark/seamark/transport/CommandApdu" "ins" "I" (.int (0 : Int32)) := Fins_z.ext E5
  have Fp1_z_p5 : Fld Z h5 a "com/example/seamark/seamark/transport/CommandApdu" "p1" "I" (.int (0 : Int32)) := Fp1_z.ext E5
  have Fp2_z_p5 : Fld Z h5 a "com/example/seamark/seamark/transport/CommandApdu" "p2" "I" (.int (0 : Int32)) := Fp2_z.ext E5
  have F_data_p5 : Fld Z h5 a "com/example/seamark/seamark/transport/CommandApdu" "data" "[B" .null := F_data.ext E5
  have F_ne_p5 : Fld Z h5 a "com/example/seamark/seamark/transport/CommandApdu" "ne" "I" (.int (0 : Int32)) := F_ne.ext E5
  have A_d_p5 : own_A Z h5 d .byte nd (fun i => .int (gf i)) := A_d.ext E5
  have E_d_p5 : Exa Z h5 d "[B" := E_d.ext E5
  have Z0_p5 : n0 ≤ h5.size := (Nat.le_trans Z0 E5.1)
  have K_p5 : Keep hI h5 [a] := (Keep.refl hI [a]).ext E5
  refine hst st5 ?_
  show F T5 (mkF m 7 #[.val (.ref a), .val (.int v1), .val (.int v2), .val (.int v3), .val (.int v4), .val (.ref d), .val (.int v6)] [(.ref sa5), (.ref a)])
  refine hst (fun t₀ k₀ => XS.iloadN X5.here hx rfl (hb hby d1_7) rfl k₀) ?_
  show F T5 (mkF m 8 #[.val (.ref a), .val (.int v1), .val (.int v2), .val (.int v3), .val (.int v4), .val (.ref d), .val (.int v6)] [(.int v1), (.ref sa5), (.ref a)])
  obtain ⟨v8, T8, Lc8, X8, hQ8, st8⟩ := own_callS X5 hx hZ hown (y := (⟨"com/example/seamark/seamark/transport/CommandApdu", "requireByte", "(Ljava/lang/String;I)I"⟩ : MethodName)) (hw _ (List.mem_of_getElem? (i := 18) rfl)) (hw _ (List.mem_of_getElem? (i := 19) rfl)) (hw _ (List.mem_of_getElem? (i := 4) rfl)) (hw _ (List.mem_of_getElem? (i := 20) rfl)) (by decide) e5 (rm3 l Z a0 hw [] sa5 v1 h5 n0 Z0_p5 hv1) (by decide) (by decide) (g := (mkF m 8 #[.val (.ref a), .val (.int v1), .val (.int v2), .val (.int v3), .val (.int v4), .val (.ref d), .val (.int v6)] [(.int v1), (.ref sa5), (.ref a)])) rfl (by rw [hml]; rfl) (argsL := [(.ref sa5), (.int v1)]) (rest := [(.ref a)]) (lenOf pd_4 rfl) rfl rfl (W := 1) (by show 2 * 0 + _ ≤ _; exact Nat.le_of_eq rfl) (hb hby d1_8) (by decide) (by decide)
  obtain ⟨rfl, Nq8, he8⟩ := hQ8
  have N8 := Fr.app NI Nq8
  refine hst st8 ?_
  show F T8 (mkF m 11 #[.val (.ref a), .val (.int v1), .val (.int v2), .val (.int v3), .val (.int v4), .val (.ref d), .val (.int v6)] [(.int v1), (.ref a)])
  obtain ⟨T11, h11, X11, e11, W11, st11⟩ := putF X8 hx hZ hown (host := "") (Or.inl (hw _ (List.mem_of_getElem? (i := 21) rfl))) Via.refl he8 Fcla_z_p5 E_a_p5 (Or.inr ⟨(hw _ (List.mem_of_getElem? (i := 22) rfl)), rfl, hnm⟩) (hw _ (List.mem_of_getElem? (i := 3) rfl)) (ty := .int) (by decide) rfl rfl (g := (mkF m 11 #[.val (.ref a), .val (.int v1), .val (.int v2), .val (.int v3), .val (.int v4), .val (.ref d), .val (.int v6)] [(.int v1), (.ref a)])) rfl rfl (hb hby d1_11)
  have N11 := Fr.snoc X11 N8 ge_a
  have E_a_p11 : Exa Z h11 a "com/example/seamark/seamark/transport/CommandApdu" := E_a_p5.wr W11
  have Fcla_z_p11 : Fld Z h11 a "com/example/seamark/seamark/transport/CommandApdu" "cla" "I" (.int v1) := Fcla_z_p5.same W11
  have Fins_z_p11 : Fld Z h11 a "com/example/seamark/seamark/transport/CommandApdu" "ins" "I" (.int (0 : Int32)) := Fins_z_p5.other W11 (Or.inr (slot_ne (Or.inr (hw _ (List.mem_of_getElem? (i := 25) rfl))) (Or.inr (hw _ (List.mem_of_getElem? (i := 22) rfl))) (by decide) (t := .int) (t' := .int) (by decide) (by decide)))
  have Fp1_z_p11 : Fld Z h11 a "com/example/seamark/seamark/transport/CommandApdu" "p1" "I" (.int (0 : Int32)) := Fp1_z_p5.other W11 (Or.inr (slot_ne (Or.inr (hw _ (List.mem_of_getElem? (i := 28) rfl))) (Or.inr (hw _ (List.mem_of_getElem? (i := 22) rfl))) (by decide) (t := .int) (t' := .int) (by decide) (by decide)))
  have Fp2_z_p11 : Fld Z h11 a "com/example/seamark/seamark/transport/CommandApdu" "p2" "I" (.int (0 : Int32)) := Fp2_z_p5.other W11 (Or.inr (slot_ne (Or.inr (hw _ (List.mem_of_getElem? (i := 31) rfl))) (Or.inr (hw _ (List.mem_of_getElem? (i := 22) rfl))) (by decide) (t := .int) (t' := .int) (by decide) (by decide)))
  have F_data_p11 : Fld Z h11 a "com/example/seamark/seamark/transport/CommandApdu" "data" "[B" .null := F_data_p5.other W11 (Or.inr (slot_ne (Or.inr (hw _ (List.mem_of_getElem? (i := 42) rfl))) (Or.inr (hw _ (List.mem_of_getElem? (i := 22) rfl))) (by decide) (t := (.array .byte)) (t' := .int) (by decide) (by decide)))
  have F_ne_p11 : Fld Z h11 a "com/example/seamark/seamark/transport/CommandApdu" "ne" "I" (.int (0 : Int32)) := F_ne_p5.other W11 (Or.inr (slot_ne (Or.inr (hw _ (List.mem_of_getElem? (i := 44) rfl))) (Or.inr (hw _ (List.mem_of_getElem? (i := 22) rfl))) (by decide) (t := .int) (t' := .int) (by decide) (by decide)))
  have A_d_p11 : own_A Z h11 d .byte nd (fun i => .int (gf i)) := A_d_p5.other W11 ne_d_a
  have E_d_p11 : Exa Z h11 d "[B" := E_d_p5.wr W11
  have Z0_p11 : n0 ≤ h11.size := Nat.le_trans Z0_p5 (Keep.of_wr W11).1
  have hk_p11 := Nat.le_trans hk5 (Keep.of_wr W11).1
  have K_p11 : Keep hI h11 [a] := K_p5.wr W11 (Or.inl (List.mem_of_getElem? (i := 0) rfl))
  refine hst st11 ?_
  show F T11 (mkF m 14 #[.val (.ref a), .val (.int v1), .val (.int v2), .val (.int v3), .val (.int v4), .val (.ref d), .val (.int v6)] [])
  refine hst (fun t₀ k₀ => XS.aloadN X11.here hx rfl (hb hby d1_14) rfl rfl k₀) ?_
  show F T11 (mkF m 15 #[.val (.ref a), .val (.int v1), .val (.int v2), .val (.int v3), .val (.int v4), .val (.ref d), .val (.int v6)] [(.ref a)])
  obtain ⟨sa15, T15, h15, ks15, X15, e15, E15, hS15, hk15, hZ, hown, st15⟩ := ldcS X11 hx hZ hown (hw _ (List.mem_of_getElem? (i := 23) rfl)) wS e11 hS5 hk_p11 (g := (mkF m 15 #[.val (.ref a), .val (.int v1), .val (.int v2), .val (.int v3), .val (.int v4), .val (.ref d), .val (.int v6)] [(.ref a)])) rfl (hb hby d1_15) (n := 12) (by decide) (by decide) (by decide) (by decide)
  have E_a_p15 : Exa Z h15 a "com/example/seamark/seamark/transport/CommandApdu" := E_a_p11.ext E15
  have Fcla_z_p15 : Fld Z h15 a "com/example/seamark/seamark/transport/CommandApdu" "cla" "I" (.int v1) := Fcla_z_p11.ext E15
  have Fins_z_p15 : Fld Z h15 a "com/example/seamark/seamark/transport/CommandApdu" "ins" "I" (.int (0 : Int32)) := Fins_z_p11.ext E15
  have Fp1_z_p15 : Fld Z h15 a "com/example/seamark/seamark/transport/CommandApdu" "p1" "I" (.int (0 : Int32)) := Fp1_z_p11.ext E15
  have Fp2_z_p15 : Fld Z h15 a "com/example/seamark/seamark/transport/CommandApdu" "p2" "I" (.int (0 : Int32)) := Fp2_z_p11.ext E15
  have F_data_p15 : Fld Z h15 a "com/example/seamark/seamark/transport/CommandApdu" "data" "[B" .null := F_data_p11.ext E15
  have F_ne_p15 : Fld Z h15 a "com/example/seamark/seamark/transport/CommandApdu" "ne" "I" (.int (0 : Int32)) := F_ne_p11.ext E15
  have A_d_p15 : own_A Z h15 d .byte nd (fun i => .int (gf i)) := A_d_p11.ext E15
  have E_d_p15 : Exa Z h15 d "[B" := E_d_p11.ext E15
  have Z0_p15 : n0 ≤ h15.size := (Nat.le_trans Z0_p11 E15.1)
  have K_p15 : Keep hI h15 [a] := K_p11.ext E15
  refine hst st15 ?_
  show F T15 (mkF m 17 #[.val (.ref a), .val (.int v1), .val (.int v2), .val (.int v3), .val (.int v4), .val (.ref d), .val (.int v6)] [(.ref sa15), (.ref a)])
  refine hst (fun t₀ k₀ => XS.iloadN X15.here hx rfl (hb hby d1_17) rfl k₀) ?_
  show F T15 (mkF m 18 #[.val (.ref a), .val (.int v1), .val (.int v2), .val (.int v3), .val (.int v4), .val (.ref d), .val (.int v6)] [(.int v2), (.ref sa15), (.ref a)])
  obtain ⟨v18, T18, Lc18, X18, hQ18, st18⟩ := own_callS X15 hx hZ hown (y := (⟨"com/example/seamark/seamark/transport/CommandApdu", "requireByte", "(Ljava/lang/String;I)I"⟩ : MethodName)) (hw _ (List.mem_of_getElem? (i := 18) rfl)) (hw _ (List.mem_of_getElem? (i := 19) rfl)) (hw _ (List.mem_of_getElem? (i := 4) rfl)) (hw _ (List.mem_of_getElem? (i := 20) rfl)) (by decide) e15 (rm3 l Z a0 hw [] sa15 v2 h15 n0 Z0_p15 hv2) (by decide) (by decide) (g := (mkF m 18 #[.val (.ref a), .val (.int v1), .val (.int v2), .val (.int v3), .val (.int v4), .val (.ref d), .val (.int v6)] [(.int v2), (.ref sa15), (.ref a)])) rfl (by rw [hml]; rfl) (argsL := [(.ref sa15), (.int v2)]) (rest := [(.ref a)]) (lenOf pd_4 rfl) rfl rfl (W := 1) (by show 2 * 0 + _ ≤ _; exact Nat.le_of_eq rfl) (hb hby d1_18) (by decide) (by decide)
  obtain ⟨rfl, Nq18, he18⟩ := hQ18
  have N18 := Fr.app N11 Nq18
  refine hst st18 ?_
  show F T18 (mkF m 21 #[.val (.ref a), .val (.int v1), .val (.int v2), .val (.int v3), .val (.int v4), .val (.ref d), .val (.int v6)] [(.int v2), (.ref a)])
  obtain ⟨T21, h21, X21, e21, W21, st21⟩ := putF X18 hx hZ hown (host := "") (Or.inl (hw _ (List.mem_of_getElem? (i := 24) rfl))) Via.refl he18 Fins_z_p15 E_a_p15 (Or.inr ⟨(hw _ (List.mem_of_getElem? (i := 25) rfl)), rfl, hnm⟩) (hw _ (List.mem_of_getElem? (i := 3) rfl)) (ty := .int) (by decide) rfl rfl (g := (mkF m 21 #[.val (.ref a), .val (.int v1), .val (.int v2), .val (.int v3), .val (.int v4), .val (.ref d), .val (.int v6)] [(.int v2), (.ref a)])) rfl rfl (hb hby d1_21)
  have N21 := Fr.snoc X21 N18 ge_a
  have E_a_p21 : Exa Z h21 a "com/example/seamark/seamark/transport/CommandApdu" := E_a_p15.wr W21
  have Fcla_z_p21 : Fld Z h21 a "com/example/seamark/seamark/transport/CommandApdu" "cla" "I" (.int v1) := Fcla_z_p15.other W21 (Or.inr (slot_ne (Or.inr (hw _ (List.mem_of_getElem? (i := 22) rfl))) (Or.inr (hw _ (List.mem_of_getElem? (i := 25) rfl))) (by decide) (t := .int) (t' := .int) (by decide) (by decide)))
  have Fins_z_p21 : Fld Z h21 a "com/example/seamark/seamark/transport/CommandApdu" "ins" "I" (.int v2) := Fins_z_p15.same W21
  have Fp1_z_p21 : Fld Z h21 a "com/example/seamark/seamark/transport/CommandApdu" "p1" "I" (.int (0 : Int32)) := Fp1_z_p15.other W21 (Or.inr (slot_ne (Or.inr (hw _ (List.mem_of_getElem? (i := 28) rfl))) (Or.inr (hw _ (List.mem_of_getElem? (i := 25) rfl))) (by decide) (t := .int) (t' := .int) (by decide) (by decide)))
  have Fp2_z_p21 : Fld Z h21 a "com/example/seamark/seamark/transport/CommandApdu" "p2" "I" (.int (0 : Int32)) := Fp2_z_p15.other W21 (Or.inr (slot_ne (Or.inr (hw _ (List.mem_of_getElem? (i := 31) rfl))) (Or.inr (hw _ (List.mem_of_getElem? (i := 25) rfl))) (by decide) (t := .int) (t' := .int) (by decide) (by decide)))
  have F_data_p21 : Fld Z h21 a "com/example/seamark/seamark/transport/CommandApdu" "data" "[B" .null := F_data_p15.other W21 (Or.inr (slot_ne (Or.inr (hw _ (List.mem_of_getElem? (i := 42) rfl))) (Or.inr (hw _ (List.mem_of_getElem? (i := 25) rfl))) (by decide) (t := (.array .byte)) (t' := .int) (by decide) (by decide)))
  have F_ne_p21 : Fld Z h21 a "com/example/seamark/seamark/transport/CommandApdu" "ne" "I" (.int (0 : Int32)) := F_ne_p15.other W21 (Or.inr (slot_ne (Or.inr (hw _ (List.mem_of_getElem? (i := 44) rfl))) (Or.inr (hw _ (List.mem_of_getElem? (i := 25) rfl))) (by decide) (t := .int) (t' := .int) (by decide) (by decide)))
  have A_d_p21 : own_A Z h21 d .byte nd (fun i => .int (gf i)) := A_d_p15.other W21 ne_d_a
  have E_d_p21 : Exa Z h21 d "[B" := E_d_p15.wr W21
  have Z0_p21 : n0 ≤ h21.size := Nat.le_trans Z0_p15 (Keep.of_wr W21).1
  have hk_p21 := Nat.le_trans hk15 (Keep.of_wr W21).1
  have K_p21 : Keep hI h21 [a] := K_p15.wr W21 (Or.inl (List.mem_of_getElem? (i := 0) rfl))
  refine hst st21 ?_
  show F T21 (mkF m 24 #[.val (.ref a), .val (.int v1), .val (.int v2), .val (.int v3), .val (.int v4), .val (.ref d), .val (.int v6)] [])
  refine hst (fun t₀ k₀ => XS.aloadN X21.here hx rfl (hb hby d1_24) rfl rfl k₀) ?_
  show F T21 (mkF m 25 #[.val (.ref a), .val (.int v1), .val (.int v2), .val (.int v3), .val (.int v4), .val (.ref d), .val (.int v6)] [(.ref a)])
  obtain ⟨sa25, T25, h25, ks25, X25, e25, E25, hS25, hk25, hZ, hown, st25⟩ := ldcS X21 hx hZ hown (hw _ (List.mem_of_getElem? (i := 26) rfl)) wS e21 hS15 hk_p21 (g := (mkF m 25 #[.val (.ref a), .val (.int v1), .val (.int v2), .val (.int v3), .val (.int v4), .val (.ref d), .val (.int v6)] [(.ref a)])) rfl (hb hby d1_25) (n := 8) (by decide) (by decide) (by decide) (by decide)
  have E_a_p25 : Exa Z h25 a "com/example/seamark/seamark/transport/CommandApdu" := E_a_p21.ext E25
  have Fcla_z_p25 : Fld Z h25 a "com/example/seamark/seamark/transport/CommandApdu" "cla" "I" (.int v1) := Fcla_z_p21.ext E25
  have Fins_z_p25 : Fld Z h25 a "com/example/seamark/seamark/transport/CommandApdu" "ins" "I" (.int v2) := Fins_z_p21.ext E25
  have Fp1_z_p25 : Fld Z h25 a "com/example/seamark/seamark/transport/CommandApdu" "p1" "I" (.int (0 : Int32)) := Fp1_z_p21.ext E25
  have Fp2_z_p25 : Fld Z h25 a "com/example/seamark/seamark/transport/CommandApdu" "p2" "I" (.int (0 : Int32)) := Fp2_z_p21.ext E25
  have F_data_p25 : Fld Z h25 a "com/example/seamark/seamark/transport/CommandApdu" "data" "[B" .null := F_data_p21.ext E25
  have F_ne_p25 : Fld Z h25 a "com/example/seamark/seamark/transport/CommandApdu" "ne" "I" (.int (0 : Int32)) := F_ne_p21.ext E25
  have A_d_p25 : own_A Z h25 d .byte nd (fun i => .int (gf i)) := A_d_p21.ext E25
  have E_d_p25 : Exa Z h25 d "[B" := E_d_p21.ext E25
  have Z0_p25 : n0 ≤ h25.size := (Nat.le_trans Z0_p21 E25.1)
  have K_p25 : Keep hI h25 [a] := K_p21.ext E25
  refine hst st25 ?_
  show F T25 (mkF m 27 #[.val (.ref a), .val (.int v1), .val (.int v2), .val (.int v3), .val (.int v4), .val (.ref d), .val (.int v6)] [(.ref sa25), (.ref a)])
  refine hst (fun t₀ k₀ => XS.iloadN X25.here hx rfl (hb hby d1_27) rfl k₀) ?_
  show F T25 (mkF m 28 #[.val (.ref a), .val (.int v1), .val (.int v2), .val (.int v3), .val (.int v4), .val (.ref d), .val (.int v6)] [(.int v3), (.ref sa25), (.ref a)])
  obtain ⟨v28, T28, Lc28, X28, hQ28, st28⟩ := own_callS X25 hx hZ hown (y := (⟨"com/example/seamark/seamark/transport/CommandApdu", "requireByte", "(Ljava/lang/String;I)I"⟩ : MethodName)) (hw _ (List.mem_of_getElem? (i := 18) rfl)) (hw _ (List.mem_of_getElem? (i := 19) rfl)) (hw _ (List.mem_of_getElem? (i := 4) rfl)) (hw _ (List.mem_of_getElem? (i := 20) rfl)) (by decide) e25 (rm3 l Z a0 hw [] sa25 v3 h25 n0 Z0_p25 hv3) (by decide) (by decide) (g := (mkF m 28 #[.val (.ref a), .val (.int v1), .val (.int v2), .val (.int v3), .val (.int v4), .val (.ref d), .val (.int v6)] [(.int v3), (.ref sa25), (.ref a)])) rfl (by rw [hml]; rfl) (argsL := [(.ref sa25), (.int v3)]) (rest := [(.ref a)]) (lenOf pd_4 rfl) rfl rfl (W := 1) (by show 2 * 0 + _ ≤ _; exact Nat.le_of_eq rfl) (hb hby d1_28) (by decide) (by decide)
  obtain ⟨rfl, Nq28, he28⟩ := hQ28
  have N28 := Fr.app N21 Nq28
  refine hst st28 ?_
  show F T28 (mkF m 31 #[.val (.ref a), .val (.int v1), .val (.int v2), .val (.int v3), .val (.int v4), .val (.ref d), .val (.int v6)] [(.int v3), (.ref a)])
  obtain ⟨T31, h31, X31, e31, W31, st31⟩ := putF X28 hx hZ hown (host := "") (Or.inl (hw _ (List.mem_of_getElem? (i := 27) rfl))) Via.refl he28 Fp1_z_p25 E_a_p25 (Or.inr ⟨(hw _ (List.mem_of_getElem? (i := 28) rfl)), rfl, hnm⟩) (hw _ (List.mem_of_getElem? (i := 3) rfl)) (ty := .int) (by decide) rfl rfl (g := (mkF m 31 #[.val (.ref a), .val (.int v1), .val (.int v2), .val (.int v3), .val (.int v4), .val (.ref d), .val (.int v6)] [(.int v3), (.ref a)])) rfl rfl (hb hby d1_31)
  have N31 := Fr.snoc X31 N28 ge_a
  have E_a_p31 : Exa Z h31 a "com/example/seamark/seamark/transport/CommandApdu" := E_a_p25.wr W31
  have Fcla_z_p31 : Fld Z h31 a "com/example/seamark/seamark/transport/CommandApdu" "cla" "I" (.int v1) := Fcla_z_p25.other W31 (Or.inr (slot_ne (Or.inr (hw _ (List.mem_of_getElem? (i := 22) rfl))) (Or.inr (hw _ (List.mem_of_getElem? (i := 28) rfl))) (by decide) (t := .int) (t' := .int) (by decide) (by decide)))
  have Fins_z_p31 : Fld Z h31 a "com/example/seamark/seamark/transport/CommandApdu" "ins" "I" (.int v2) := Fins_z_p25.other W31 (Or.inr (slot_ne (Or.inr (hw _ (List.mem_of_getElem? (i := 25) rfl))) (Or.inr (hw _ (List.mem_of_getElem? (i := 28) rfl))) (by decide) (t := .int) (t' := .int) (by decide) (by decide)))
  have Fp1_z_p31 : Fld Z h31 a "com/example/seamark/seamark/transport/CommandApdu" "p1" "I" (.int v3) := Fp1_z_p25.same W31
  have Fp2_z_p31 : Fld Z h31 a "com/example/seamark/seamark/transport/CommandApdu" "p2" "I" (.int (0 : Int32)) := Fp2_z_p25.other W31 (Or.inr (slot_ne (Or.inr (hw _ (List.mem_of_getElem? (i := 31) rfl))) (Or.inr (hw _ (List.mem_of_getElem? (i := 28) rfl))) (by decide) (t := .int) (t' := .int) (by decide) (by decide)))
  have F_data_p31 : Fld Z h31 a "com/example/seamark/seamark/transport/CommandApdu" "data" "[B" .null := F_data_p25.other W31 (Or.inr (slot_ne (Or.inr (hw _ (List.mem_of_getElem? (i := 42) rfl))) (Or.inr (hw _ (List.mem_of_getElem? (i := 28) rfl))) (by decide) (t := (.array .byte)) (t' := .int) (by decide) (by decide)))
  have F_ne_p31 : Fld Z h31 a "com/example/seamark/seamark/transport/CommandApdu" "ne" "I" (.int (0 : Int32)) := F_ne_p25.other W31 (Or.inr (slot_ne (Or.inr (hw _ (List.mem_of_getElem? (i := 44) rfl))) (Or.inr (hw _ (List.mem_of_getElem? (i := 28) rfl))) (by decide) (t := .int) (t' := .int) (by decide) (by decide)))
  have A_d_p31 : own_A Z h31 d .byte nd (fun i => .int (gf i)) := A_d_p25.other W31 ne_d_a
  have E_d_p31 : Exa Z h31 d "[B" := E_d_p25.wr W31
  have Z0_p31 : n0 ≤ h31.size := Nat.le_trans Z0_p25 (Keep.of_wr W31).1
  have hk_p31 := Nat.le_trans hk25 (Keep.of_wr W31).1
  have K_p31 : Keep hI h31 [a] := K_p25.wr W31 (Or.inl (List.mem_of_getElem? (i := 0) rfl))
  refine hst st31 ?_
  show F T31 (mkF m 34 #[.val (.ref a), .val (.int v1), .val (.int v2), .val (.int v3), .val (.int v4), .val (.ref d), .val (.int v6)] [])
  refine hst (fun t₀ k₀ => XS.aloadN X31.here hx rfl (hb hby d1_34) rfl rfl k₀) ?_
  show F T31 (mkF m 35 #[.val (.ref a), .val (.int v1), .val (.int v2), .val (.int v3), .val (.int v4), .val (.ref d), .val (.int v6)] [(.ref a)])
  obtain ⟨sa35, T35, h35, ks35, X35, e35, E35, hS35, hk35, hZ, hown, st35⟩ := ldcS X31 hx hZ hown (hw _ (List.mem_of_getElem? (i := 29) rfl)) wS e31 hS25 hk_p31 (g := (mkF m 35 #[.val (.ref a), .val (.int v1), .val (.int v2), .val (.int v3), .val (.int v4), .val (.ref d), .val (.int v6)] [(.ref a)])) rfl (hb hby d1_35) (n := 8) (by decide) (by decide) (by decide) (by decide)
  have E_a_p35 : Exa Z h35 a "com/example/seamark/seamark/transport/CommandApdu" := E_a_p31.ext E35
  have Fcla_z_p35 : Fld Z h35 a "com/example/seamark/seamark/transport/CommandApdu" "cla" "I" (.int v1) := Fcla_z_p31.ext E35
  have Fins_z_p35 : Fld Z h35 a "com/example/seamark/seamark/transport/CommandApdu" "ins" "I" (.int v2) := Fins_z_p31.ext E35
  have Fp1_z_p35 : Fld Z h35 a "com/example/seamark/seamark/transport/CommandApdu" "p1" "I" (.int v3) := Fp1_z_p31.ext E35
  have Fp2_z_p35 : Fld Z h35 a "com/example/seamark/seamark/transport/CommandApdu" "p2" "I" (.int (0 : Int32)) := Fp2_z_p31.ext E35
  have F_data_p35 : Fld Z h35 a "com/example/seamark/seamark/transport/CommandApdu" "data" "[B" .null := F_data_p31.ext E35
  have F_ne_p35 : Fld Z h35 a "com/example/seamark/seamark/transport/CommandApdu" "ne" "I" (.int (0 : Int32)) := F_ne_p31.ext E35
  have A_d_p35 : own_A Z h35 d .byte nd (fun i => .int (gf i)) := A_d_p31.ext E35
  have E_d_p35 : Exa Z h35 d "[B" := E_d_p31.ext E35
  have Z0_p35 : n0 ≤ h35.size := (Nat.le_trans Z0_p31 E35.1)
  have K_p35 : Keep hI h35 [a] := K_p31.ext E35
  refine hst st35 ?_
  show F T35 (mkF m 37 #[.val (.ref a), .val (.int v1), .val (.int v2), .val (.int v3), .val (.int v4), .val (.ref d), .val (.int v6)] [(.ref sa35), (.ref a)])
  refine hst (fun t₀ k₀ => XS.iload X35.here hx rfl (hb hby d1_37) rfl k₀) ?_
  show F T35 (mkF m 39 #[.val (.ref a), .val (.int v1), .val (.int v2), .val (.int v3), .val (.int v4), .val (.ref d), .val (.int v6)] [(.int v4), (.ref sa35), (.ref a)])
  obtain ⟨v39, T39, Lc39, X39, hQ39, st39⟩ := own_callS X35 hx hZ hown (y := (⟨"com/example/seamark/seamark/transport/CommandApdu", "requireByte", "(Ljava/lang/String;I)I"⟩ : MethodName)) (hw _ (List.mem_of_getElem? (i := 18) rfl)) (hw _ (List.mem_of_getElem? (i := 19) rfl)) (hw _ (List.mem_of_getElem? (i := 4) rfl)) (hw _ (List.mem_of_getElem? (i := 20) rfl)) (by decide) e35 (rm3 l Z a0 hw [] sa35 v4 h35 n0 Z0_p35 hv4) (by decide) (by decide) (g := (mkF m 39 #[.val (.ref a), .val (.int v1), .val (.int v2), .val (.int v3), .val (.int v4), .val (.ref d), .val (.int v6)] [(.int v4), (.ref sa35), (.ref a)])) rfl (by rw [hml]; rfl) (argsL := [(.ref sa35), (.int v4)]) (rest := [(.ref a)]) (lenOf pd_4 rfl) rfl rfl (W := 1) (by show 2 * 0 + _ ≤ _; exact Nat.le_of_eq rfl) (hb hby d1_39) (by decide) (by decide)
  obtain ⟨rfl, Nq39, he39⟩ := hQ39
  have N39 := Fr.app N31 Nq39
  refine hst st39 ?_
  show F T39 (mkF m 42 #[.val (.ref a), .val (.int v1), .val (.int v2), .val (.int v3), .val (.int v4), .val (.ref d), .val (.int v6)] [(.int v4), (.ref a)])
  obtain ⟨T42, h42, X42, e42, W42, st42⟩ := putF X39 hx hZ hown (host := "") (Or.inl (hw _ (List.mem_of_getElem? (i := 30) rfl))) Via.refl he39 Fp2_z_p35 E_a_p35 (Or.inr ⟨(hw _ (List.mem_of_getElem? (i := 31) rfl)), rfl, hnm⟩) (hw _ (List.mem_of_getElem? (i := 3) rfl)) (ty := .int) (by decide) rfl rfl (g := (mkF m 42 #[.val (.ref a), .val (.int v1), .val (.int v2), .val (.int v3), .val (.int v4), .val (.ref d), .val (.int v6)] [(.int v4), (.ref a)])) rfl rfl (hb hby d1_42)
  have N42 := Fr.snoc X42 N39 ge_a
  have E_a_p42 : Exa Z h42 a "com/example/seamark/seamark/transport/CommandApdu" := E_a_p35.wr W42
  have Fcla_z_p42 : Fld Z h42 a "com/example/seamark/seamark/transport/CommandApdu" "cla" "I" (.int v1) := Fcla_z_p35.other W42 (Or.inr (slot_ne (Or.inr (hw _ (List.mem_of_getElem? (i := 22) rfl))) (Or.inr (hw _ (List.mem_of_getElem? (i := 31) rfl))) (by decide) (t := .int) (t' := .int) (by decide) (by decide)))
  have Fins_z_p42 : Fld Z h42 a "com/example/seamark/seamark/transport/CommandApdu" "ins" "I" (.int v2) := Fins_z_p35.other W42 (Or.inr (slot_ne (Or.inr (hw _ (List.mem_of_getElem? (i := 25) rfl))) (Or.inr (hw _ (List.mem_of_getElem? (i := 31) rfl))) (by decide) (t := .int) (t' := .int) (by decide) (by decide)))
  have Fp1_z_p42 : Fld Z h42 a "com/example/seamark/seamark/transport/CommandApdu" "p1" "I" (.int v3) := Fp1_z_p35.other W42 (Or.inr (slot_ne (Or.inr (hw _ (List.mem_of_getElem? (i := 28) rfl))) (Or.inr (hw _ (List.mem_of_getElem? (i := 31) rfl))) (by decide) (t := .int) (t' := .int) (by decide) (by decide)))
  have Fp2_z_p42 : Fld Z h42 a "com/example/seamark/seamark/transport/CommandApdu" "p2" "I" (.int v4) := Fp2_z_p35.same W42
  have F_data_p42 : Fld Z h42 a "com/example/seamark/seamark/transport/CommandApdu" "data" "[B" .null := F_data_p35.other W42 (Or.inr (slot_ne (Or.inr (hw _ (List.mem_of_getElem? (i := 42) rfl))) (Or.inr (hw _ (List.mem_of_getElem? (i := 31) rfl))) (by decide) (t := (.array .byte)) (t' := .int) (by decide) (by decide)))
  have F_ne_p42 : Fld Z h42 a "com/example/seamark/seamark/transport/CommandApdu" "ne" "I" (.int (0 : Int32)) := F_ne_p35.other W42 (Or.inr (slot_ne (Or.inr (hw _ (List.mem_of_getElem? (i := 44) rfl))) (Or.inr (hw _ (List.mem_of_getElem? (i := 31) rfl))) (by decide) (t := .int) (t' := .int) (by decide) (by decide)))
  have A_d_p42 : own_A Z h42 d .byte nd (fun i => .int (gf i)) := A_d_p35.other W42 ne_d_a
  have E_d_p42 : Exa Z h42 d "[B" := E_d_p35.wr W42
  have Z0_p42 : n0 ≤ h42.size := Nat.le_trans Z0_p35 (Keep.of_wr W42).1
  have hk_p42 := Nat.le_trans hk35 (Keep.of_wr W42).1
  have K_p42 : Keep hI h42 [a] := K_p35.wr W42 (Or.inl (List.mem_of_getElem? (i := 0) rfl))
  refine hst st42 ?_
  show F T42 (mkF m 45 #[.val (.ref a), .val (.int v1), .val (.int v2), .val (.int v3), .val (.int v4), .val (.ref d), .val (.int v6)] [])
  refine hst (fun t₀ k₀ => XS.aload X42.here hx rfl (hb hby d1_45) rfl rfl k₀) ?_
  show F T42 (mkF m 47 #[.val (.ref a), .val (.int v1), .val (.int v2), .val (.int v3), .val (.int v4), .val (.ref d), .val (.int v6)] [(.ref d)])
  obtain ⟨nz, hnz⟩ : ∃ nz : Int32, nd.toInt32 = nz := ⟨_, rfl⟩
  have knz : nz.toInt = nd := by rw [← hnz]; exact Int32.toInt_ofNat_of_lt (by omega)
  refine hst (fun t₀ k₀ => own_alen X42 hx hZ e42 A_d_p42 (z := nz) hnz (g := (mkF m 47 #[.val (.ref a), .val (.int v1), .val (.int v2), .val (.int v3), .val (.int v4), .val (.ref d), .val (.int v6)] [(.ref d)])) rfl rfl (hb hby d1_47) t₀ k₀) ?_
  show F T42 (mkF m 48 #[.val (.ref a), .val (.int v1), .val (.int v2), .val (.int v3), .val (.int v4), .val (.ref d), .val (.int v6)] [(.int nz)])
  refine hst (fun t₀ k₀ => XS.sipush X42.here hx rfl (hb hby d1_48) k₀) ?_
  show F T42 (mkF m 51 #[.val (.ref a), .val (.int v1), .val (.int v2), .val (.int v3), .val (.int v4), .val (.ref d), .val (.int v6)] [(.int (255 : Int32)), (.int nz)])
  refine hst (fun t₀ k₀ => XS.icmpYes X42.here hx rfl (pc0 := 51) (pc' := 70) rfl (hb hby d1_51) rfl (flt (by rw [own_lt32]; have k : (255 : Int32).toInt = 255 := (by decide); omega)).2.2.2 (by decide) (by decide) k₀) ?_
  show F T42 (mkF m 70 #[.val (.ref a), .val (.int v1), .val (.int v2), .val (.int v3), .val (.int v4), .val (.ref d), .val (.int v6)] [])
  refine hst (fun t₀ k₀ => XS.iload X42.here hx rfl (hb hby d1_70) rfl k₀) ?_
  show F T42 (mkF m 72 #[.val (.ref a), .val (.int v1), .val (.int v2), .val (.int v3), .val (.int v4), .val (.ref d), .val (.int v6)] [(.int v6)])
  refine hst (fun t₀ k₀ => XS.ifNo X42.here hx rfl (hb hby d1_72) rfl ((if0 _ _).trans (flt hne.1).1) k₀) ?_
  show F T42 (mkF m 75 #[.val (.ref a), .val (.int v1), .val (.int v2), .val (.int v3), .val (.int v4), .val (.ref d), .val (.int v6)] [])
  refine hst (fun t₀ k₀ => XS.iload X42.here hx rfl (hb hby d1_75) rfl k₀) ?_
  show F T42 (mkF m 77 #[.val (.ref a), .val (.int v1), .val (.int v2), .val (.int v3), .val (.int v4), .val (.ref d), .val (.int v6)] [(.int v6)])
  refine hst (fun t₀ k₀ => XS.sipush X42.here hx rfl (hb hby d1_77) k₀) ?_
  show F T42 (mkF m 80 #[.val (.ref a), .val (.int v1), .val (.int v2), .val (.int v3), .val (.int v4), .val (.ref d), .val (.int v6)] [(.int (256 : Int32)), (.int v6)])
  refine hst (fun t₀ k₀ => XS.icmpYes X42.here hx rfl (pc0 := 80) (pc' := 98) rfl (hb hby d1_80) rfl (flt hne.2).2.2.2 (by decide) (by decide) k₀) ?_
  show F T42 (mkF m 98 #[.val (.ref a), .val (.int v1), .val (.int v2), .val (.int v3), .val (.int v4), .val (.ref d), .val (.int v6)] [])
  refine hst (fun t₀ k₀ => XS.aloadN X42.here hx rfl (hb hby d1_98) rfl rfl k₀) ?_
  show F T42 (mkF m 99 #[.val (.ref a), .val (.int v1), .val (.int v2), .val (.int v3), .val (.int v4), .val (.ref d), .val (.int v6)] [(.ref a)])
  refine hst (fun t₀ k₀ => XS.aload X42.here hx rfl (hb hby d1_99) rfl rfl k₀) ?_
  show F T42 (mkF m 101 #[.val (.ref a), .val (.int v1), .val (.int v2), .val (.int v3), .val (.int v4), .val (.ref d), .val (.int v6)] [(.ref d), (.ref a)])
  obtain ⟨T101, h101, b101, X101, e101, g101, E101, A101, Ex101, st101⟩ := own_clone X42 hx hZ hown (hw _ (List.mem_of_getElem? (i := 32) rfl)) (hw _ (List.mem_of_getElem? (i := 33) rfl)) (hw _ (List.mem_of_getElem? (i := 37) rfl)) (hw _ (List.mem_of_getElem? (i := 35) rfl)) (hw _ (List.mem_of_getElem? (i := 36) rfl)) (hw _ (List.mem_of_getElem? (i := 38) rfl)) e42 A_d_p42 E_d_p42 hfit (g := (mkF m 101 #[.val (.ref a), .val (.int v1), .val (.int v2), .val (.int v3), .val (.int v4), .val (.ref d), .val (.int v6)] [(.ref d), (.ref a)])) rfl (by rw [hml]; rfl) rfl (hb hby d1_101) (by decide) (W := 1) (by show 2 * 0 + _ ≤ _; exact Nat.le_of_eq rfl) (by decide) (cap := 255) hn (by decide) (by decide)
  have ne_a_b101 : a ≠ b101 := Nat.ne_of_lt (Nat.lt_of_lt_of_le E_a_p42.lt (Nat.le_of_eq g101.symm))
  have ne_d_b101 : d ≠ b101 := Nat.ne_of_lt (Nat.lt_of_lt_of_le A_d_p42.lt (Nat.le_of_eq g101.symm))
  have ge_b101 : n0 ≤ b101 := Nat.le_trans Z0_p42 (Nat.le_of_eq g101.symm)
  have sz_b101 : hI.size ≤ b101 := Nat.le_trans K_p42.1 (Nat.le_of_eq g101.symm)
  have E_a_p101 : Exa Z h101 a "com/example/seamark/seamark/transport/CommandApdu" := E_a_p42.ext E101
  have Fcla_z_p101 : Fld Z h101 a "com/example/seamark/seamark/transport/CommandApdu" "cla" "I" (.int v1) := Fcla_z_p42.ext E101
  have Fins_z_p101 : Fld Z h101 a "com/example/seamark/seamark/transport/CommandApdu" "ins" "I" (.int v2) := Fins_z_p42.ext E101
  have Fp1_z_p101 : Fld Z h101 a "com/example/seamark/seamark/transport/CommandApdu" "p1" "I" (.int v3) := Fp1_z_p42.ext E101
  have Fp2_z_p101 : Fld Z h101 a "com/example/seamark/seamark/transport/CommandApdu" "p2" "I" (.int v4) := Fp2_z_p42.ext E101
  have F_data_p101 : Fld Z h101 a "com/example/seamark/seamark/transport/CommandApdu" "data" "[B" .null := F_data_p42.ext E101
  have F_ne_p101 : Fld Z h101 a "com/example/seamark/seamark/transport/CommandApdu" "ne" "I" (.int (0 : Int32)) := F_ne_p42.ext E101
  have A_d_p101 : own_A Z h101 d .byte nd (fun i => .int (gf i)) := A_d_p42.ext E101
  have E_d_p101 : Exa Z h101 d "[B" := E_d_p42.ext E101
  have Z0_p101 : n0 ≤ h101.size := (Nat.le_trans Z0_p42 E101.1)
  have hk_p101 := Nat.le_trans hk_p42 E101.1
  have K_p101 : Keep hI h101 [a] := K_p42.ext E101
  refine hst st101 ?_
  show F T101 (mkF m 104 #[.val (.ref a), .val (.int v1), .val (.int v2), .val (.int v3), .val (.int v4), .val (.ref d), .val (.int v6)] [(.ref b101), (.ref a)])
  obtain ⟨T104, X104, e104, st104⟩ := castY X101 hx hZ hown (hw _ (List.mem_of_getElem? (i := 39) rfl)) e101 (Ins.self Ex101) (g := (mkF m 104 #[.val (.ref a), .val (.int v1), .val (.int v2), .val (.int v3), .val (.int v4), .val (.ref d), .val (.int v6)] [(.ref b101), (.ref a)])) rfl rfl (hb hby d1_104)
  refine hst st104 ?_
  show F T104 (mkF m 107 #[.val (.ref a), .val (.int v1), .val (.int v2), .val (.int v3), .val (.int v4), .val (.ref d), .val (.int v6)] [(.ref b101), (.ref a)])
  obtain ⟨T107, h107, X107, e107, W107, st107⟩ := putF X104 hx hZ hown (host := "") (Or.inl (hw _ (List.mem_of_getElem? (i := 41) rfl))) Via.refl e104 F_data_p101 E_a_p101 (Or.inr ⟨(hw _ (List.mem_of_getElem? (i := 42) rfl)), rfl, hnm⟩) (hw _ (List.mem_of_getElem? (i := 3) rfl)) (ty := (.array .byte)) (by decide) rfl rfl (g := (mkF m 107 #[.val (.ref a), .val (.int v1), .val (.int v2), .val (.int v3), .val (.int v4), .val (.ref d), .val (.int v6)] [(.ref b101), (.ref a)])) rfl rfl (hb hby d1_107)
  have N107 := Fr.snoc X107 N42 ge_a
  have E_a_p107 : Exa Z h107 a "com/example/seamark/seamark/transport/CommandApdu" := E_a_p101.wr W107
  have Fcla_z_p107 : Fld Z h107 a "com/example/seamark/seamark/transport/CommandApdu" "cla" "I" (.int v1) := Fcla_z_p101.other W107 (Or.inr (slot_ne (Or.inr (hw _ (List.mem_of_getElem? (i := 22) rfl))) (Or.inr (hw _ (List.mem_of_getElem? (i := 42) rfl))) (by decide) (t := .int) (t' := (.array .byte)) (by decide) (by decide)))
  have Fins_z_p107 : Fld Z h107 a "com/example/seamark/seamark/transport/CommandApdu" "ins" "I" (.int v2) := Fins_z_p101.other W107 (Or.inr (slot_ne (Or.inr (hw _ (List.mem_of_getElem? (i := 25) rfl))) (Or.inr (hw _ (List.mem_of_getElem? (i := 42) rfl))) (by decide) (t := .int) (t' := (.array .byte)) (by decide) (by decide)))
  have Fp1_z_p107 : Fld Z h107 a "com/example/seamark/seamark/transport/CommandApdu" "p1" "I" (.int v3) := Fp1_z_p101.other W107 (Or.inr (slot_ne (Or.inr (hw _ (List.mem_of_getElem? (i := 28) rfl))) (Or.inr (hw _ (List.mem_of_getElem? (i := 42) rfl))) (by decide) (t := .int) (t' := (.array .byte)) (by decide) (by decide)))
  have Fp2_z_p107 : Fld Z h107 a "com/example/seamark/seamark/transport/CommandApdu" "p2" "I" (.int v4) := Fp2_z_p101.other W107 (Or.inr (slot_ne (Or.inr (hw _ (List.mem_of_getElem? (i := 31) rfl))) (Or.inr (hw _ (List.mem_of_getElem? (i := 42) rfl))) (by decide) (t := .int) (t' := (.array .byte)) (by decide) (by decide)))
  have F_data_p107 : Fld Z h107 a "com/example/seamark/seamark/transport/CommandApdu" "data" "[B" (.ref b101) := F_data_p101.same W107
  have F_ne_p107 : Fld Z h107 a "com/example/seamark/seamark/transport/CommandApdu" "ne" "I" (.int (0 : Int32)) := F_ne_p101.other W107 (Or.inr (slot_ne (Or.inr (hw _ (List.mem_of_getElem? (i := 44) rfl))) (Or.inr (hw _ (List.mem_of_getElem? (i := 42) rfl))) (by decide) (t := .int) (t' := (.array .byte)) (by decide) (by decide)))
  have A_d_p107 : own_A Z h107 d .byte nd (fun i => .int (gf i)) := A_d_p101.other W107 ne_d_a
  have E_d_p107 : Exa Z h107 d "[B" := E_d_p101.wr W107
  have A101_p107 : own_A Z h107 b101 .byte nd (fun i => .int (gf i)) := A101.other W107 (Ne.symm ne_a_b101)
  have Ex101_p107 : Exa Z h107 b101 "[B" := Ex101.wr W107
  have Z0_p107 : n0 ≤ h107.size := Nat.le_trans Z0_p101 (Keep.of_wr W107).1
  have hk_p107 := Nat.le_trans hk_p101 (Keep.of_wr W107).1
  have K_p107 : Keep hI h107 [a] := K_p101.wr W107 (Or.inl (List.mem_of_getElem? (i := 0) rfl))
  refine hst st107 ?_
  show F T107 (mkF m 110 #[.val (.ref a), .val (.int v1), .val (.int v2), .val (.int v3), .val (.int v4), .val (.ref d), .val (.int v6)] [])
  refine hst (fun t₀ k₀ => XS.aloadN X107.here hx rfl (hb hby d1_110) rfl rfl k₀) ?_
  show F T107 (mkF m 111 #[.val (.ref a), .val (.int v1), .val (.int v2), .val (.int v3), .val (.int v4), .val (.ref d), .val (.int v6)] [(.ref a)])
  refine hst (fun t₀ k₀ => XS.iload X107.here hx rfl (hb hby d1_111) rfl k₀) ?_
  show F T107 (mkF m 113 #[.val (.ref a), .val (.int v1), .val (.int v2), .val (.int v3), .val (.int v4), .val (.ref d), .val (.int v6)] [(.int v6), (.ref a)])
  obtain ⟨T113, h113, X113, e113, W113, st113⟩ := putF X107 hx hZ hown (host := "") (Or.inl (hw _ (List.mem_of_getElem? (i := 43) rfl))) Via.refl e107 F_ne_p107 E_a_p107 (Or.inr ⟨(hw _ (List.mem_of_getElem? (i := 44) rfl)), rfl, hnm⟩) (hw _ (List.mem_of_getElem? (i := 3) rfl)) (ty := .int) (by decide) rfl rfl (g := (mkF m 113 #[.val (.ref a), .val (.int v1), .val (.int v2), .val (.int v3), .val (.int v4), .val (.ref d), .val (.int v6)] [(.int v6), (.ref a)])) rfl rfl (hb hby d1_113)
  have N113 := Fr.snoc X113 N107 ge_a
  have E_a_p113 : Exa Z h113 a "com/example/seamark/seamark/transport/CommandApdu" := E_a_p107.wr W113
  have Fcla_z_p113 : Fld Z h113 a "com/example/seamark/seamark/transport/CommandApdu" "cla" "I" (.int v1) := Fcla_z_p107.other W113 (Or.inr (slot_ne (Or.inr (hw _ (List.mem_of_getElem? (i := 22) rfl))) (Or.inr (hw _ (List.mem_of_getElem? (i := 44) rfl))) (by decide) (t := .int) (t' := .int) (by decide) (by decide)))
  have Fins_z_p113 : Fld Z h113 a "com/example/seamark/seamark/transport/CommandApdu" "ins" "I" (.int v2) := Fins_z_p107.other W113 (Or.inr (slot_ne (Or.inr (hw _ (List.mem_of_getElem? (i := 25) rfl))) (Or.inr (hw _ (List.mem_of_getElem? (i := 44) rfl))) (by decide) (t := .int) (t' := .int) (by decide) (by decide)))
  have Fp1_z_p113 : Fld Z h113 a "com/example/seamark/seamark/transport/CommandApdu" "p1" "I" (.int v3) := Fp1_z_p107.other W113 (Or.inr (slot_ne (Or.inr (hw _ (List.mem_of_getElem? (i := 28) rfl))) (Or.inr (hw _ (List.mem_of_getElem? (i := 44) rfl))) (by decide) (t := .int) (t' := .int) (by decide) (by decide)))
  have Fp2_z_p113 : Fld Z h113 a "com/example/seamark/seamark/transport/CommandApdu" "p2" "I" (.int v4) := Fp2_z_p107.other W113 (Or.inr (slot_ne (Or.inr (hw _ (List.mem_of_getElem? (i := 31) rfl))) (Or.inr (hw _ (List.mem_of_getElem? (i := 44) rfl))) (by decide) (t := .int) (t' := .int) (by decide) (by decide)))
  have F_data_p113 : Fld Z h113 a "com/example/seamark/seamark/transport/CommandApdu" "data" "[B" (.ref b101) := F_data_p107.other W113 (Or.inr (slot_ne (Or.inr (hw _ (List.mem_of_getElem? (i := 42) rfl))) (Or.inr (hw _ (List.mem_of_getElem? (i := 44) rfl))) (by decide) (t := (.array .byte)) (t' := .int) (by decide) (by decide)))
  have F_ne_p113 : Fld Z h113 a "com/example/seamark/seamark/transport/CommandApdu" "ne" "I" (.int v6) := F_ne_p107.same W113
  have A_d_p113 : own_A Z h113 d .byte nd (fun i => .int (gf i)) := A_d_p107.other W113 ne_d_a
  have E_d_p113 : Exa Z h113 d "[B" := E_d_p107.wr W113
  have A101_p113 : own_A Z h113 b101 .byte nd (fun i => .int (gf i)) := A101_p107.other W113 (Ne.symm ne_a_b101)
  have Ex101_p113 : Exa Z h113 b101 "[B" := Ex101_p107.wr W113
  have Z0_p113 : n0 ≤ h113.size := Nat.le_trans Z0_p107 (Keep.of_wr W113).1
  have hk_p113 := Nat.le_trans hk_p107 (Keep.of_wr W113).1
  have K_p113 : Keep hI h113 [a] := K_p107.wr W113 (Or.inl (List.mem_of_getElem? (i := 0) rfl))
  refine hst st113 ?_
  show F T113 (mkF m 116 #[.val (.ref a), .val (.int v1), .val (.int v2), .val (.int v3), .val (.int v4), .val (.ref d), .val (.int v6)] [])
  rw [hF]
  refine own_retVW X113 hS35 (by rw [e113]; exact hk_p113) hx hret hlk (hb hby d1_116) (by decide) (by decide) ?_
  rw [e113]
  exact ⟨b101, rfl, N113, K_p113, E_a_p113, Fcla_z_p113, Fins_z_p113, Fp1_z_p113, Fp2_z_p113, F_ne_p113, F_data_p113, A101_p113, Ex101_p113, (Ne.symm ne_a_b101)⟩
def own_sel (v w : Int32) : Int32 := if v = 164 then (if w = 4 then 1 else 0) else 0
theorem own_fin (x : Int32) (n : Nat) (hn : n < 1000) (h0 : 0 ≤ x.toInt) (h1 : x.toInt < n) : ∃ k : Fin n, x = Int32.ofNat k.1 := by
  refine ⟨⟨x.toInt.toNat, by omega⟩, ?_⟩
  apply Int32.toInt_inj.mp
  rw [Int32.toInt_ofNat_of_lt (by show x.toInt.toNat < _; omega)]
  show x.toInt = ((x.toInt.toNat : Nat) : Int)
  omega
theorem own_xor_all : ∀ c : Fin 256, ¬ (Int32.ofNat c.1 ^^^ 255) < 0 ∧ ¬ 255 < (Int32.ofNat c.1 ^^^ 255) := by decide +kernel
theorem own_xor (c : Int32) (hc : own_in c 255) : own_in (c ^^^ 255) 255 := by
  have k0 : (0 : Int32).toInt = 0 := by decide
  have k255 : (255 : Int32).toInt = 255 := by decide
  obtain ⟨c1, c2⟩ := hc
  rw [own_lt32] at c1 c2
  obtain ⟨i, rfl⟩ := own_fin c 256 (by decide) (by omega) (by omega)
  exact own_xor_all i
theorem d4_0 : decode prog_45_method_15_code 0 = .ok (.aload_n 0, 1) := by decide +kernel
theorem d4_1 : decode prog_45_method_15_code 1 = .ok (.getfield 21, 3) := by decide +kernel
theorem d4_4 : decode prog_45_method_15_code 4 = .ok (.sipush 164, 3) := by decide +kernel
theorem d4_7 : decode prog_45_method_15_code 7 = .ok (.if_icmp .ne 15, 3) := by decide +kernel
theorem d4_10 : decode prog_45_method_15_code 10 = .ok (.aload_n 0, 1) := by decide +kernel
theorem d4_11 : decode prog_45_method_15_code 11 = .ok (.getfield 26, 3) := by decide +kernel
theorem d4_14 : decode prog_45_method_15_code 14 = .ok (.iconst 4, 1) := by decide +kernel
theorem d4_15 : decode prog_45_method_15_code 15 = .ok (.if_icmp .ne 7, 3) := by decide +kernel
theorem d4_18 : decode prog_45_method_15_code 18 = .ok (.iconst 1, 1) := by decide +kernel
theorem d4_19 : decode prog_45_method_15_code 19 = .ok (.goto 4, 3) := by decide +kernel
theorem d4_22 : decode prog_45_method_15_code 22 = .ok (.iconst 0, 1) := by decide +kernel
theorem d4_23 : decode prog_45_method_15_code 23 = .ok (.ireturn, 1) := by decide +kernel
theorem pn_4 : plainFor (⟨"com/example/seamark/seamark/transport/CommandApdu", "isSelectByName", "()Z"⟩ : MethodName) = true := plainFor_of_name (by first | (simp [plainName, overriddenIn]; done) | decide +kernel)
theorem ef_4 (m : MethodId) (a : Addr) : entryFrame m #[(.ref a)] 1 = mkF m 0 #[.val (.ref a)] [] := by first | (simp [entryFrame, mkF, argsToLocals, Value.category]; done) | rfl
def Q4 (Z : State) (a : Addr) (v2 : Int32) (v3 : Int32) (hI : Heap) (n0 : Nat) (v : Option Value) (h : Heap) (L : List Loc) : Prop := v = some (.int (own_sel v2 v3)) ∧ Fr n0 L ∧ h = hI
set_option maxRecDepth 65536 in
set_option maxHeartbeats 40000000 in
theorem rm4 (l : Launch) (Z : State) (a0 : Array Value) (hw : ∀ d ∈ tables_1, d.before a0 Z = true) (ws : List Jvm.Cond) (a : Addr) (v2 : Int32) (v3 : Int32) (hI : Heap) (n0 : Nat) (Z0 : n0 ≤ hI.size) (F2 : Fld Z hI a "com/example/seamark/seamark/transport/CommandApdu" "ins" "I" (.int v2)) (F3 : Fld Z hI a "com/example/seamark/seamark/transport/CommandApdu" "p1" "I" (.int v3)) :
    MetFree l (⟨"com/example/seamark/seamark/transport/CommandApdu", "isSelectByName", "()Z"⟩ : MethodName) (head1 (Jvm.Cond.code (⟨"com/example/seamark/seamark/transport/CommandApdu", "isSelectByName", "()Z"⟩ : MethodName) prog_45_method_15_code 1 (some .boolean) :: ws) ({ frames := 0, cells := 0, slots := 0, locals := 0 } : Room)) (fun a₁ U₁ => a₁ = #[(.ref a)] ∧ Z.Warmed39 U₁.vm ∧ U₁.heap = hI) (fun _ _ _ _ _ => True) (fun _ U₁ o₁ U₂ => ∃ v₁ L₁, o₁ = .returned v₁ ∧ Q4 Z a v2 v3 hI n0 v₁ U₂.heap L₁ ∧ FrameEnd U₁ o₁ U₂ L₁ ({ frames := 0, cells := 0, slots := 0, locals := 0 } : Room).cells ({ frames := 0, cells := 0, slots := 0, locals := 0 } : Room).slots) := by
  refine own_body pn_4 ?_
  intro p e s m below meth c s₁ hx hby hml hown hnm hret hlk hZ XI eI
  obtain ⟨F, hF⟩ : ∃ F : State → JFrame → Prop, F = own_Fin p.tables e below s ({ frames := 0, cells := 0, slots := 0, locals := 0 } : Room) (Q4 Z a v2 v3 hI n0) := ⟨_, rfl⟩
  have hst : ∀ {T T' : State} {g g' : JFrame}, (∀ t, Steps p.tables e below (T'.setTop g') t → Steps p.tables e below (T.setTop g) t) → F T' g' → F T g := by subst hF; exact own_st
  have NI := Fr.nil n0
  show own_Fin p.tables e below s ({ frames := 0, cells := 0, slots := 0, locals := 0 } : Room) (Q4 Z a v2 v3 hI n0) s₁ (entryFrame m #[(.ref a)] 1)
  rw [← hF]
  rw [ef_4]
  show F s₁ (mkF m 0 #[.val (.ref a)] [])
  refine hst (fun t₀ k₀ => XS.aloadN XI.here hx rfl (hb hby d4_0) rfl rfl k₀) ?_
  show F s₁ (mkF m 1 #[.val (.ref a)] [(.ref a)])
  obtain ⟨T1, X1, e1, st1⟩ := getF XI hx hZ hown (host := "") (Or.inl (hw _ (List.mem_of_getElem? (i := 24) rfl))) Via.refl eI F2 (g := (mkF m 1 #[.val (.ref a)] [(.ref a)])) rfl rfl (hb hby d4_1)
  refine hst st1 ?_
  show F T1 (mkF m 4 #[.val (.ref a)] [(.int v2)])
  refine hst (fun t₀ k₀ => XS.sipush X1.here hx rfl (hb hby d4_4) k₀) ?_
  show F T1 (mkF m 7 #[.val (.ref a)] [(.int (164 : Int32)), (.int v2)])
  by_cases hc7 : v2 = (164 : Int32)
  · -- pc 7: not taken
    refine hst (fun t₀ k₀ => XS.icmpNo X1.here hx rfl (hb hby d4_7) rfl (teq hc7).2 k₀) ?_
    show F T1 (mkF m 10 #[.val (.ref a)] [])
    refine hst (fun t₀ k₀ => XS.aloadN X1.here hx rfl (hb hby d4_10) rfl rfl k₀) ?_
    show F T1 (mkF m 11 #[.val (.ref a)] [(.ref a)])
    obtain ⟨T11, X11, e11, st11⟩ := getF X1 hx hZ hown (host := "") (Or.inl (hw _ (List.mem_of_getElem? (i := 27) rfl))) Via.refl e1 F3 (g := (mkF m 11 #[.val (.ref a)] [(.ref a)])) rfl rfl (hb hby d4_11)
    refine hst st11 ?_
    show F T11 (mkF m 14 #[.val (.ref a)] [(.int v3)])
    refine hst (fun t₀ k₀ => XS.iconst X11.here hx rfl (hb hby d4_14) k₀) ?_
    show F T11 (mkF m 15 #[.val (.ref a)] [(.int (4 : Int32)), (.int v3)])
    by_cases hc15 : v3 = (4 : Int32)
    · -- pc 15: not taken
      refine hst (fun t₀ k₀ => XS.icmpNo X11.here hx rfl (hb hby d4_15) rfl (teq hc15).2 k₀) ?_
      show F T11 (mkF m 18 #[.val (.ref a)] [])
      refine hst (fun t₀ k₀ => XS.iconst X11.here hx rfl (hb hby d4_18) k₀) ?_
      show F T11 (mkF m 19 #[.val (.ref a)] [(.int (1 : Int32))])
      refine hst (fun t₀ k₀ => XS.goto X11.here hx rfl (pc0 := 19) (pc' := 23) rfl (hb hby d4_19) (by decide) (by decide) k₀) ?_
      show F T11 (mkF m 23 #[.val (.ref a)] [(.int (1 : Int32))])
      rw [hF]
      refine own_retN X11 hx hret (by simp) hlk (hb hby d4_23) (by decide) (by decide) ?_
      rw [e11]
      exact ⟨(by unfold own_sel; rw [if_pos hc7, if_pos hc15]; rfl), NI, rfl⟩
    · -- pc 15: taken
      refine hst (fun t₀ k₀ => XS.icmpYes X11.here hx rfl (pc0 := 15) (pc' := 22) rfl (hb hby d4_15) rfl (feq hc15).2 (by decide) (by decide) k₀) ?_
      show F T11 (mkF m 22 #[.val (.ref a)] [])
      refine hst (fun t₀ k₀ => XS.iconst X11.here hx rfl (hb hby d4_22) k₀) ?_
      show F T11 (mkF m 23 #[.val (.ref a)] [(.int (0 : Int32))])
      rw [hF]
      refine own_retN X11 hx hret (by simp) hlk (hb hby d4_23) (by decide) (by decide) ?_
      rw [e11]
      exact ⟨(by unfold own_sel; rw [if_pos hc7, if_neg hc15]; rfl), NI, rfl⟩
  · -- pc 7: taken
    refine hst (fun t₀ k₀ => XS.icmpYes X1.here hx rfl (pc0 := 7) (pc' := 22) rfl (hb hby d4_7) rfl (feq hc7).2 (by decide) (by decide) k₀) ?_
    show F T1 (mkF m 22 #[.val (.ref a)] [])
    refine hst (fun t₀ k₀ => XS.iconst X1.here hx rfl (hb hby d4_22) k₀) ?_
    show F T1 (mkF m 23 #[.val (.ref a)] [(.int (0 : Int32))])
    rw [hF]
    refine own_retN X1 hx hret (by simp) hlk (hb hby d4_23) (by decide) (by decide) ?_
    rw [e1]
    exact ⟨(by unfold own_sel; rw [if_neg hc7]; rfl), NI, rfl⟩
theorem pn_0 : plainFor x = true := plainFor_of_name (by first | (simp [plainName, overriddenIn]; done) | decide +kernel)
theorem pd_3 : parseMethodDescriptor "(IIII[BI)V" = some ⟨[.int, .int, .int, .int, (.array .byte), .int], none⟩ := by decide +kernel
theorem pd_2 : parseMethodDescriptor "()Z" = some ⟨[], some .boolean⟩ := by decide +kernel
theorem ef_0 (m : MethodId) (p1 : Int32) (p2 : Int32) (p3 : Int32) (p4 : Int32) (p5 : Int32) (p6 : Int32) : entryFrame m #[(.int p1), (.int p2), (.int p3), (.int p4), (.int p5), (.int p6)] maxLocals = mkF m 0 #[.val (.int p1), .val (.int p2), .val (.int p3), .val (.int p4), .val (.int p5), .val (.int p6), .unset, .unset, .unset, .unset, .unset, .unset, .unset, .unset, .unset, .unset, .unset] [] := by first | (simp [entryFrame, mkF, argsToLocals, Value.category, maxLocals]; done) | rfl
def Q0 (Z : State) (p1 : Int32) (p2 : Int32) (p3 : Int32) (p4 : Int32) (p5 : Int32) (p6 : Int32) (hI : Heap) (n0 : Nat) (v : Option Value) (h : Heap) (L : List Loc) : Prop := v = some (.int 1) ∧ Fr n0 L
set_option maxRecDepth 65536 in
set_option maxHeartbeats 40000000 in
theorem rm0 (l : Launch) (Z : State) (a0 : Array Value) (hw : ∀ d ∈ tables_1, d.before a0 Z = true) (ws : List Jvm.Cond) (p1 : Int32) (p2 : Int32) (p3 : Int32) (p4 : Int32) (p5 : Int32) (p6 : Int32) (hI : Heap) (n0 : Nat) (Z0 : n0 ≤ hI.size) :
    MetFree l x (head1 (Jvm.Cond.code x code maxLocals ret :: ws) room_1) (fun a₁ U₁ => a₁ = #[(.int p1), (.int p2), (.int p3), (.int p4), (.int p5), (.int p6)] ∧ Z.Warmed39 U₁.vm ∧ U₁.heap = hI) (fun _ _ _ _ _ => True) (fun _ U₁ o₁ U₂ => ∃ v₁ L₁, o₁ = .returned v₁ ∧ Q0 Z p1 p2 p3 p4 p5 p6 hI n0 v₁ U₂.heap L₁ ∧ ReturnedEndW U₁ o₁ U₂ L₁ room_1.cells room_1.slots) := by
  refine own_bodyW pn_0 ?_
  intro p e s m below meth c s₁ hx hby hml hown hnm hret hlk hZ XI eI hS0
  have wS := own_strs hw
  have hml : c.maxLocals = 17 := hml
  obtain ⟨F, hF⟩ : ∃ F : State → JFrame → Prop, F = own_FinW p.tables e below s room_1 (Q0 Z p1 p2 p3 p4 p5 p6 hI n0) := ⟨_, rfl⟩
  have hst : ∀ {T T' : State} {g g' : JFrame}, (∀ t, Steps p.tables e below (T'.setTop g') t → Steps p.tables e below (T.setTop g) t) → F T' g' → F T g := by subst hF; exact own_stW
  have NI := Fr.nil n0
  show own_FinW p.tables e below s room_1 (Q0 Z p1 p2 p3 p4 p5 p6 hI n0) s₁ (entryFrame m #[(.int p1), (.int p2), (.int p3), (.int p4), (.int p5), (.int p6)] maxLocals)
  rw [← hF]
  rw [ef_0]
  show F s₁ (mkF m 0 #[.val (.int p1), .val (.int p2), .val (.int p3), .val (.int p4), .val (.int p5), .val (.int p6), .unset, .unset, .unset, .unset, .unset, .unset, .unset, .unset, .unset, .unset, .unset] [])
  refine hst (fun t₀ k₀ => XS.iload XI.here hx rfl (hb hby at_0) rfl k₀) ?_
  show F s₁ (mkF m 2 #[.val (.int p1), .val (.int p2), .val (.int p3), .val (.int p4), .val (.int p5), .val (.int p6), .unset, .unset, .unset, .unset, .unset, .unset, .unset, .unset, .unset, .unset, .unset] [(.int p6)])
  refine hst (fun t₀ k₀ => XS.iconst XI.here hx rfl (hb hby at_2) k₀) ?_
  show F s₁ (mkF m 3 #[.val (.int p1), .val (.int p2), .val (.int p3), .val (.int p4), .val (.int p5), .val (.int p6), .unset, .unset, .unset, .unset, .unset, .unset, .unset, .unset, .unset, .unset, .unset] [(.int (1 : Int32)), (.int p6)])
  refine hst (fun t₀ k₀ => XS.iand XI.here hx rfl (hb hby at_3) rfl k₀) ?_
  show F s₁ (mkF m 4 #[.val (.int p1), .val (.int p2), .val (.int p3), .val (.int p4), .val (.int p5), .val (.int p6), .unset, .unset, .unset, .unset, .unset, .unset, .unset, .unset, .unset, .unset, .unset] [(.int (p6 &&& (1 : Int32)))])
  have J20 : ∀ iv : Int32, (own_in iv 255) → F s₁ (mkF m 20 #[.val (.int p1), .val (.int p2), .val (.int p3), .val (.int p4), .val (.int p5), .val (.int p6), .val (.int iv), .unset, .unset, .unset, .unset, .unset, .unset, .unset, .unset, .unset, .unset] []) := by
    intro iv hiv
    show F s₁ (mkF m 20 #[.val (.int p1), .val (.int p2), .val (.int p3), .val (.int p4), .val (.int p5), .val (.int p6), .val (.int iv), .unset, .unset, .unset, .unset, .unset, .unset, .unset, .unset, .unset, .unset] [])
    refine hst (fun t₀ k₀ => XS.iload XI.here hx rfl (hb hby at_20) rfl k₀) ?_
    show F s₁ (mkF m 22 #[.val (.int p1), .val (.int p2), .val (.int p3), .val (.int p4), .val (.int p5), .val (.int p6), .val (.int iv), .unset, .unset, .unset, .unset, .unset, .unset, .unset, .unset, .unset, .unset] [(.int p6)])
    refine hst (fun t₀ k₀ => XS.iconst XI.here hx rfl (hb hby at_22) k₀) ?_
    show F s₁ (mkF m 23 #[.val (.int p1), .val (.int p2), .val (.int p3), .val (.int p4), .val (.int p5), .val (.int p6), .val (.int iv), .unset, .unset, .unset, .unset, .unset, .unset, .unset, .unset, .unset, .unset] [(.int (2 : Int32)), (.int p6)])
    refine hst (fun t₀ k₀ => XS.iand XI.here hx rfl (hb hby at_23) rfl k₀) ?_
    show F s₁ (mkF m 24 #[.val (.int p1), .val (.int p2), .val (.int p3), .val (.int p4), .val (.int p5), .val (.int p6), .val (.int iv), .unset, .unset, .unset, .unset, .unset, .unset, .unset, .unset, .unset, .unset] [(.int (p6 &&& (2 : Int32)))])
    have J38 : ∀ jv : Int32, (own_in jv 255) → F s₁ (mkF m 38 #[.val (.int p1), .val (.int p2), .val (.int p3), .val (.int p4), .val (.int p5), .val (.int p6), .val (.int iv), .val (.int jv), .unset, .unset, .unset, .unset, .unset, .unset, .unset, .unset, .unset] []) := by
      intro jv hjv
      show F s₁ (mkF m 38 #[.val (.int p1), .val (.int p2), .val (.int p3), .val (.int p4), .val (.int p5), .val (.int p6), .val (.int iv), .val (.int jv), .unset, .unset, .unset, .unset, .unset, .unset, .unset, .unset, .unset] [])
      refine hst (fun t₀ k₀ => XS.iloadN XI.here hx rfl (hb hby at_38) rfl k₀) ?_
      show F s₁ (mkF m 39 #[.val (.int p1), .val (.int p2), .val (.int p3), .val (.int p4), .val (.int p5), .val (.int p6), .val (.int iv), .val (.int jv), .unset, .unset, .unset, .unset, .unset, .unset, .unset, .unset, .unset] [(.int p3)])
      refine hst (fun t₀ k₀ => XS.sipush XI.here hx rfl (hb hby at_39) k₀) ?_
      show F s₁ (mkF m 42 #[.val (.int p1), .val (.int p2), .val (.int p3), .val (.int p4), .val (.int p5), .val (.int p6), .val (.int iv), .val (.int jv), .unset, .unset, .unset, .unset, .unset, .unset, .unset, .unset, .unset] [(.int (255 : Int32)), (.int p3)])
      refine hst (fun t₀ k₀ => XS.iand XI.here hx rfl (hb hby at_42) rfl k₀) ?_
      show F s₁ (mkF m 43 #[.val (.int p1), .val (.int p2), .val (.int p3), .val (.int p4), .val (.int p5), .val (.int p6), .val (.int iv), .val (.int jv), .unset, .unset, .unset, .unset, .unset, .unset, .unset, .unset, .unset] [(.int (p3 &&& (255 : Int32)))])
      refine hst (fun t₀ k₀ => XS.istore XI.here hx rfl (hb hby at_43) rfl (l' := #[.val (.int p1), .val (.int p2), .val (.int p3), .val (.int p4), .val (.int p5), .val (.int p6), .val (.int iv), .val (.int jv), .val (.int (p3 &&& (255 : Int32))), .unset, .unset, .unset, .unset, .unset, .unset, .unset, .unset]) rfl k₀) ?_
      show F s₁ (mkF m 45 #[.val (.int p1), .val (.int p2), .val (.int p3), .val (.int p4), .val (.int p5), .val (.int p6), .val (.int iv), .val (.int jv), .val (.int (p3 &&& (255 : Int32))), .unset, .unset, .unset, .unset, .unset, .unset, .unset, .unset] [])
      refine hst (fun t₀ k₀ => XS.iloadN XI.here hx rfl (hb hby at_45) rfl k₀) ?_
      show F s₁ (mkF m 46 #[.val (.int p1), .val (.int p2), .val (.int p3), .val (.int p4), .val (.int p5), .val (.int p6), .val (.int iv), .val (.int jv), .val (.int (p3 &&& (255 : Int32))), .unset, .unset, .unset, .unset, .unset, .unset, .unset, .unset] [(.int p4)])
      refine hst (fun t₀ k₀ => XS.sipush XI.here hx rfl (hb hby at_46) k₀) ?_
      show F s₁ (mkF m 49 #[.val (.int p1), .val (.int p2), .val (.int p3), .val (.int p4), .val (.int p5), .val (.int p6), .val (.int iv), .val (.int jv), .val (.int (p3 &&& (255 : Int32))), .unset, .unset, .unset, .unset, .unset, .unset, .unset, .unset] [(.int (255 : Int32)), (.int p4)])
      refine hst (fun t₀ k₀ => XS.iand XI.here hx rfl (hb hby at_49) rfl k₀) ?_
      show F s₁ (mkF m 50 #[.val (.int p1), .val (.int p2), .val (.int p3), .val (.int p4), .val (.int p5), .val (.int p6), .val (.int iv), .val (.int jv), .val (.int (p3 &&& (255 : Int32))), .unset, .unset, .unset, .unset, .unset, .unset, .unset, .unset] [(.int (p4 &&& (255 : Int32)))])
      refine hst (fun t₀ k₀ => XS.istore XI.here hx rfl (hb hby at_50) rfl (l' := #[.val (.int p1), .val (.int p2), .val (.int p3), .val (.int p4), .val (.int p5), .val (.int p6), .val (.int iv), .val (.int jv), .val (.int (p3 &&& (255 : Int32))), .val (.int (p4 &&& (255 : Int32))), .unset, .unset, .unset, .unset, .unset, .unset, .unset]) rfl k₀) ?_
      show F s₁ (mkF m 52 #[.val (.int p1), .val (.int p2), .val (.int p3), .val (.int p4), .val (.int p5), .val (.int p6), .val (.int iv), .val (.int jv), .val (.int (p3 &&& (255 : Int32))), .val (.int (p4 &&& (255 : Int32))), .unset, .unset, .unset, .unset, .unset, .unset, .unset] [])
      refine hst (fun t₀ k₀ => XS.iload XI.here hx rfl (hb hby at_52) rfl k₀) ?_
      show F s₁ (mkF m 54 #[.val (.int p1), .val (.int p2), .val (.int p3), .val (.int p4), .val (.int p5), .val (.int p6), .val (.int iv), .val (.int jv), .val (.int (p3 &&& (255 : Int32))), .val (.int (p4 &&& (255 : Int32))), .unset, .unset, .unset, .unset, .unset, .unset, .unset] [(.int p5)])
      refine hst (fun t₀ k₀ => XI.ldcI hx hown (mvT hZ (hw _ (List.mem_of_getElem? (i := 0) rfl))) (g := (mkF m 54 #[.val (.int p1), .val (.int p2), .val (.int p3), .val (.int p4), .val (.int p5), .val (.int p6), .val (.int iv), .val (.int jv), .val (.int (p3 &&& (255 : Int32))), .val (.int (p4 &&& (255 : Int32))), .unset, .unset, .unset, .unset, .unset, .unset, .unset] [(.int p5)])) rfl (hb hby at_54) k₀) ?_
      show F s₁ (mkF m 56 #[.val (.int p1), .val (.int p2), .val (.int p3), .val (.int p4), .val (.int p5), .val (.int p6), .val (.int iv), .val (.int jv), .val (.int (p3 &&& (255 : Int32))), .val (.int (p4 &&& (255 : Int32))), .unset, .unset, .unset, .unset, .unset, .unset, .unset] [(.int (2147483647 : Int32)), (.int p5)])
      refine hst (fun t₀ k₀ => XS.iand XI.here hx rfl (hb hby at_56) rfl k₀) ?_
      show F s₁ (mkF m 57 #[.val (.int p1), .val (.int p2), .val (.int p3), .val (.int p4), .val (.int p5), .val (.int p6), .val (.int iv), .val (.int jv), .val (.int (p3 &&& (255 : Int32))), .val (.int (p4 &&& (255 : Int32))), .unset, .unset, .unset, .unset, .unset, .unset, .unset] [(.int (p5 &&& (2147483647 : Int32)))])
      refine hst (fun t₀ k₀ => XS.sipush XI.here hx rfl (hb hby at_57) k₀) ?_
      show F s₁ (mkF m 60 #[.val (.int p1), .val (.int p2), .val (.int p3), .val (.int p4), .val (.int p5), .val (.int p6), .val (.int iv), .val (.int jv), .val (.int (p3 &&& (255 : Int32))), .val (.int (p4 &&& (255 : Int32))), .unset, .unset, .unset, .unset, .unset, .unset, .unset] [(.int (257 : Int32)), (.int (p5 &&& (2147483647 : Int32)))])
      refine hst (fun t₀ k₀ => iremM XI hx rfl (hb hby at_60) rfl (by decide) k₀) ?_
      show F s₁ (mkF m 61 #[.val (.int p1), .val (.int p2), .val (.int p3), .val (.int p4), .val (.int p5), .val (.int p6), .val (.int iv), .val (.int jv), .val (.int (p3 &&& (255 : Int32))), .val (.int (p4 &&& (255 : Int32))), .unset, .unset, .unset, .unset, .unset, .unset, .unset] [(.int ((p5 &&& (2147483647 : Int32)) % (257 : Int32)))])
      refine hst (fun t₀ k₀ => XS.istore XI.here hx rfl (hb hby at_61) rfl (l' := #[.val (.int p1), .val (.int p2), .val (.int p3), .val (.int p4), .val (.int p5), .val (.int p6), .val (.int iv), .val (.int jv), .val (.int (p3 &&& (255 : Int32))), .val (.int (p4 &&& (255 : Int32))), .val (.int ((p5 &&& (2147483647 : Int32)) % (257 : Int32))), .unset, .unset, .unset, .unset, .unset, .unset]) rfl k₀) ?_
      show F s₁ (mkF m 63 #[.val (.int p1), .val (.int p2), .val (.int p3), .val (.int p4), .val (.int p5), .val (.int p6), .val (.int iv), .val (.int jv), .val (.int (p3 &&& (255 : Int32))), .val (.int (p4 &&& (255 : Int32))), .val (.int ((p5 &&& (2147483647 : Int32)) % (257 : Int32))), .unset, .unset, .unset, .unset, .unset, .unset] [])
      refine hst (fun t₀ k₀ => XS.iconst XI.here hx rfl (hb hby at_63) k₀) ?_
      show F s₁ (mkF m 64 #[.val (.int p1), .val (.int p2), .val (.int p3), .val (.int p4), .val (.int p5), .val (.int p6), .val (.int iv), .val (.int jv), .val (.int (p3 &&& (255 : Int32))), .val (.int (p4 &&& (255 : Int32))), .val (.int ((p5 &&& (2147483647 : Int32)) % (257 : Int32))), .unset, .unset, .unset, .unset, .unset, .unset] [(.int (2 : Int32))])
      obtain ⟨T64, h64, b64, X64, e64, g64, E64, A64, Ex64, st64⟩ := own_newarrE XI hx hZ (hw _ (List.mem_of_getElem? (i := 1) rfl)) eI (g := (mkF m 64 #[.val (.int p1), .val (.int p2), .val (.int p3), .val (.int p4), .val (.int p5), .val (.int p6), .val (.int iv), .val (.int jv), .val (.int (p3 &&& (255 : Int32))), .val (.int (p4 &&& (255 : Int32))), .val (.int ((p5 &&& (2147483647 : Int32)) % (257 : Int32))), .unset, .unset, .unset, .unset, .unset, .unset] [(.int (2 : Int32))])) rfl (hb hby at_64) rfl (by decide) (cap := 2) (by decide) (by decide) (by decide) (by decide)
      have ge_b64 : n0 ≤ b64 := Nat.le_trans Z0 (Nat.le_of_eq g64.symm)
      have Z0_p64 : n0 ≤ h64.size := (Nat.le_trans Z0 E64.1)
      have hk_p64 := Nat.le_trans (Nat.zero_le _) E64.1
      have A_b64 : own_A Z h64 b64 .byte 2 (fun _ => (.int (0 : Int32))) := A64
      refine hst st64 ?_
      show F T64 (mkF m 66 #[.val (.int p1), .val (.int p2), .val (.int p3), .val (.int p4), .val (.int p5), .val (.int p6), .val (.int iv), .val (.int jv), .val (.int (p3 &&& (255 : Int32))), .val (.int (p4 &&& (255 : Int32))), .val (.int ((p5 &&& (2147483647 : Int32)) % (257 : Int32))), .unset, .unset, .unset, .unset, .unset, .unset] [(.ref b64)])
      refine hst (fun t₀ k₀ => XS.dup X64.here hx rfl (hb hby at_66) rfl rfl k₀) ?_
      show F T64 (mkF m 67 #[.val (.int p1), .val (.int p2), .val (.int p3), .val (.int p4), .val (.int p5), .val (.int p6), .val (.int iv), .val (.int jv), .val (.int (p3 &&& (255 : Int32))), .val (.int (p4 &&& (255 : Int32))), .val (.int ((p5 &&& (2147483647 : Int32)) % (257 : Int32))), .unset, .unset, .unset, .unset, .unset, .unset] [(.ref b64), (.ref b64)])
      refine hst (fun t₀ k₀ => XS.iconst X64.here hx rfl (hb hby at_67) k₀) ?_
      show F T64 (mkF m 68 #[.val (.int p1), .val (.int p2), .val (.int p3), .val (.int p4), .val (.int p5), .val (.int p6), .val (.int iv), .val (.int jv), .val (.int (p3 &&& (255 : Int32))), .val (.int (p4 &&& (255 : Int32))), .val (.int ((p5 &&& (2147483647 : Int32)) % (257 : Int32))), .unset, .unset, .unset, .unset, .unset, .unset] [(.int (0 : Int32)), (.ref b64), (.ref b64)])
      refine hst (fun t₀ k₀ => XS.iload X64.here hx rfl (hb hby at_68) rfl k₀) ?_
      show F T64 (mkF m 70 #[.val (.int p1), .val (.int p2), .val (.int p3), .val (.int p4), .val (.int p5), .val (.int p6), .val (.int iv), .val (.int jv), .val (.int (p3 &&& (255 : Int32))), .val (.int (p4 &&& (255 : Int32))), .val (.int ((p5 &&& (2147483647 : Int32)) % (257 : Int32))), .unset, .unset, .unset, .unset, .unset, .unset] [(.int p5), (.int (0 : Int32)), (.ref b64), (.ref b64)])
      refine hst (fun t₀ k₀ => XS.i2b X64.here hx rfl (hb hby at_70) rfl k₀) ?_
      show F T64 (mkF m 71 #[.val (.int p1), .val (.int p2), .val (.int p3), .val (.int p4), .val (.int p5), .val (.int p6), .val (.int iv), .val (.int jv), .val (.int (p3 &&& (255 : Int32))), .val (.int (p4 &&& (255 : Int32))), .val (.int ((p5 &&& (2147483647 : Int32)) % (257 : Int32))), .unset, .unset, .unset, .unset, .unset, .unset] [(.int (p5.toInt8.toInt32)), (.int (0 : Int32)), (.ref b64), (.ref b64)])
      generalize hy0 : (p5.toInt8.toInt32) = y0
      show F T64 (mkF m 71 #[.val (.int p1), .val (.int p2), .val (.int p3), .val (.int p4), .val (.int p5), .val (.int p6), .val (.int iv), .val (.int jv), .val (.int (p3 &&& (255 : Int32))), .val (.int (p4 &&& (255 : Int32))), .val (.int ((p5 &&& (2147483647 : Int32)) % (257 : Int32))), .unset, .unset, .unset, .unset, .unset, .unset] [(.int y0), (.int (0 : Int32)), (.ref b64), (.ref b64)])
      obtain ⟨T71, h71, X71, e71, W71, st71⟩ := own_bastore X64 hx hZ e64 A_b64 (by decide) (g := (mkF m 71 #[.val (.int p1), .val (.int p2), .val (.int p3), .val (.int p4), .val (.int p5), .val (.int p6), .val (.int iv), .val (.int jv), .val (.int (p3 &&& (255 : Int32))), .val (.int (p4 &&& (255 : Int32))), .val (.int ((p5 &&& (2147483647 : Int32)) % (257 : Int32))), .unset, .unset, .unset, .unset, .unset, .unset] [(.int y0), (.int (0 : Int32)), (.ref b64), (.ref b64)])) rfl rfl (hb hby at_71)
      have N71 := Fr.snoc X71 NI ge_b64
      have A_b64_p71 : own_A Z h71 b64 .byte 2 (fun i => if i = Int32.toNatClampNeg (0 : Int32) then (.int (nar .byte y0)) else (fun _ => (.int (0 : Int32))) i) := A_b64.set W71
      have Ex64_p71 : Exa Z h71 b64 "[B" := Ex64.wr W71
      have Z0_p71 : n0 ≤ h71.size := Nat.le_trans Z0_p64 (Keep.of_wr W71).1
      have hk_p71 := Nat.le_trans hk_p64 (Keep.of_wr W71).1
      refine hst st71 ?_
      have A_b64_p71c : own_A Z h71 b64 .byte 2 (fun i => .int (if i = 0 then nar .byte y0 else (0 : Int32))) := own_A.congr A_b64_p71 (fun i hi => by rw [show Int32.toNatClampNeg (0 : Int32) = 0 from rfl]; dsimp only; split <;> rfl)
      show F T71 (mkF m 72 #[.val (.int p1), .val (.int p2), .val (.int p3), .val (.int p4), .val (.int p5), .val (.int p6), .val (.int iv), .val (.int jv), .val (.int (p3 &&& (255 : Int32))), .val (.int (p4 &&& (255 : Int32))), .val (.int ((p5 &&& (2147483647 : Int32)) % (257 : Int32))), .unset, .unset, .unset, .unset, .unset, .unset] [(.ref b64)])
      refine hst (fun t₀ k₀ => XS.dup X71.here hx rfl (hb hby at_72) rfl rfl k₀) ?_
      show F T71 (mkF m 73 #[.val (.int p1), .val (.int p2), .val (.int p3), .val (.int p4), .val (.int p5), .val (.int p6), .val (.int iv), .val (.int jv), .val (.int (p3 &&& (255 : Int32))), .val (.int (p4 &&& (255 : Int32))), .val (.int ((p5 &&& (2147483647 : Int32)) % (257 : Int32))), .unset, .unset, .unset, .unset, .unset, .unset] [(.ref b64), (.ref b64)])
      refine hst (fun t₀ k₀ => XS.iconst X71.here hx rfl (hb hby at_73) k₀) ?_
      show F T71 (mkF m 74 #[.val (.int p1), .val (.int p2), .val (.int p3), .val (.int p4), .val (.int p5), .val (.int p6), .val (.int iv), .val (.int jv), .val (.int (p3 &&& (255 : Int32))), .val (.int (p4 &&& (255 : Int32))), .val (.int ((p5 &&& (2147483647 : Int32)) % (257 : Int32))), .unset, .unset, .unset, .unset, .unset, .unset] [(.int (1 : Int32)), (.ref b64), (.ref b64)])
      refine hst (fun t₀ k₀ => XS.iload X71.here hx rfl (hb hby at_74) rfl k₀) ?_
      show F T71 (mkF m 76 #[.val (.int p1), .val (.int p2), .val (.int p3), .val (.int p4), .val (.int p5), .val (.int p6), .val (.int iv), .val (.int jv), .val (.int (p3 &&& (255 : Int32))), .val (.int (p4 &&& (255 : Int32))), .val (.int ((p5 &&& (2147483647 : Int32)) % (257 : Int32))), .unset, .unset, .unset, .unset, .unset, .unset] [(.int p5), (.int (1 : Int32)), (.ref b64), (.ref b64)])
      refine hst (fun t₀ k₀ => XS.bipush X71.here hx rfl (hb hby at_76) k₀) ?_
      show F T71 (mkF m 78 #[.val (.int p1), .val (.int p2), .val (.int p3), .val (.int p4), .val (.int p5), .val (.int p6), .val (.int iv), .val (.int jv), .val (.int (p3 &&& (255 : Int32))), .val (.int (p4 &&& (255 : Int32))), .val (.int ((p5 &&& (2147483647 : Int32)) % (257 : Int32))), .unset, .unset, .unset, .unset, .unset, .unset] [(.int (8 : Int32)), (.int p5), (.int (1 : Int32)), (.ref b64), (.ref b64)])
      refine hst (fun t₀ k₀ => XS.ishr X71.here hx rfl (hb hby at_78) rfl k₀) ?_
      show F T71 (mkF m 79 #[.val (.int p1), .val (.int p2), .val (.int p3), .val (.int p4), .val (.int p5), .val (.int p6), .val (.int iv), .val (.int jv), .val (.int (p3 &&& (255 : Int32))), .val (.int (p4 &&& (255 : Int32))), .val (.int ((p5 &&& (2147483647 : Int32)) % (257 : Int32))), .unset, .unset, .unset, .unset, .unset, .unset] [(.int (p5 >>> ((8 : Int32) &&& 31))), (.int (1 : Int32)), (.ref b64), (.ref b64)])
      refine hst (fun t₀ k₀ => XS.i2b X71.here hx rfl (hb hby at_79) rfl k₀) ?_
      show F T71 (mkF m 80 #[.val (.int p1), .val (.int p2), .val (.int p3), .val (.int p4), .val (.int p5), .val (.int p6), .val (.int iv), .val (.int jv), .val (.int (p3 &&& (255 : Int32))), .val (.int (p4 &&& (255 : Int32))), .val (.int ((p5 &&& (2147483647 : Int32)) % (257 : Int32))), .unset, .unset, .unset, .unset, .unset, .unset] [(.int ((p5 >>> ((8 : Int32) &&& 31)).toInt8.toInt32)), (.int (1 : Int32)), (.ref b64), (.ref b64)])
      generalize hy1 : ((p5 >>> ((8 : Int32) &&& 31)).toInt8.toInt32) = y1
      show F T71 (mkF m 80 #[.val (.int p1), .val (.int p2), .val (.int p3), .val (.int p4), .val (.int p5), .val (.int p6), .val (.int iv), .val (.int jv), .val (.int (p3 &&& (255 : Int32))), .val (.int (p4 &&& (255 : Int32))), .val (.int ((p5 &&& (2147483647 : Int32)) % (257 : Int32))), .unset, .unset, .unset, .unset, .unset, .unset] [(.int y1), (.int (1 : Int32)), (.ref b64), (.ref b64)])
      obtain ⟨T80, h80, X80, e80, W80, st80⟩ := own_bastore X71 hx hZ e71 A_b64_p71c (by decide) (g := (mkF m 80 #[.val (.int p1), .val (.int p2), .val (.int p3), .val (.int p4), .val (.int p5), .val (.int p6), .val (.int iv), .val (.int jv), .val (.int (p3 &&& (255 : Int32))), .val (.int (p4 &&& (255 : Int32))), .val (.int ((p5 &&& (2147483647 : Int32)) % (257 : Int32))), .unset, .unset, .unset, .unset, .unset, .unset] [(.int y1), (.int (1 : Int32)), (.ref b64), (.ref b64)])) rfl rfl (hb hby at_80)
      have N80 := Fr.snoc X80 N71 ge_b64
      have A_b64_p80 : own_A Z h80 b64 .byte 2 (fun i => if i = Int32.toNatClampNeg (1 : Int32) then (.int (nar .byte y1)) else (fun i => .int (if i = 0 then nar .byte y0 else (0 : Int32))) i) := A_b64_p71c.set W80
      have Ex64_p80 : Exa Z h80 b64 "[B" := Ex64_p71.wr W80
      have Z0_p80 : n0 ≤ h80.size := Nat.le_trans Z0_p71 (Keep.of_wr W80).1
      have hk_p80 := Nat.le_trans hk_p71 (Keep.of_wr W80).1
      refine hst st80 ?_
      have A_b64_p80c : own_A Z h80 b64 .byte 2 (fun i => .int (if i = 1 then nar .byte y1 else (if i = 0 then nar .byte y0 else (0 : Int32)))) := own_A.congr A_b64_p80 (fun i hi => by rw [show Int32.toNatClampNeg (1 : Int32) = 1 from rfl]; dsimp only; split <;> rfl)
      show F T80 (mkF m 81 #[.val (.int p1), .val (.int p2), .val (.int p3), .val (.int p4), .val (.int p5), .val (.int p6), .val (.int iv), .val (.int jv), .val (.int (p3 &&& (255 : Int32))), .val (.int (p4 &&& (255 : Int32))), .val (.int ((p5 &&& (2147483647 : Int32)) % (257 : Int32))), .unset, .unset, .unset, .unset, .unset, .unset] [(.ref b64)])
      refine hst (fun t₀ k₀ => XS.astore X80.here hx rfl (hb hby at_81) rfl rfl (l' := #[.val (.int p1), .val (.int p2), .val (.int p3), .val (.int p4), .val (.int p5), .val (.int p6), .val (.int iv), .val (.int jv), .val (.int (p3 &&& (255 : Int32))), .val (.int (p4 &&& (255 : Int32))), .val (.int ((p5 &&& (2147483647 : Int32)) % (257 : Int32))), .val (.ref b64), .unset, .unset, .unset, .unset, .unset]) rfl k₀) ?_
      show F T80 (mkF m 83 #[.val (.int p1), .val (.int p2), .val (.int p3), .val (.int p4), .val (.int p5), .val (.int p6), .val (.int iv), .val (.int jv), .val (.int (p3 &&& (255 : Int32))), .val (.int (p4 &&& (255 : Int32))), .val (.int ((p5 &&& (2147483647 : Int32)) % (257 : Int32))), .val (.ref b64), .unset, .unset, .unset, .unset, .unset] [])
      refine hst (fun t₀ k₀ => XS.iconst X80.here hx rfl (hb hby at_83) k₀) ?_
      show F T80 (mkF m 84 #[.val (.int p1), .val (.int p2), .val (.int p3), .val (.int p4), .val (.int p5), .val (.int p6), .val (.int iv), .val (.int jv), .val (.int (p3 &&& (255 : Int32))), .val (.int (p4 &&& (255 : Int32))), .val (.int ((p5 &&& (2147483647 : Int32)) % (257 : Int32))), .val (.ref b64), .unset, .unset, .unset, .unset, .unset] [(.int (0 : Int32))])
      obtain ⟨T84, h84, b84, X84, e84, g84, E84, A84, Ex84, st84⟩ := own_newarrE X80 hx hZ (hw _ (List.mem_of_getElem? (i := 1) rfl)) e80 (g := (mkF m 84 #[.val (.int p1), .val (.int p2), .val (.int p3), .val (.int p4), .val (.int p5), .val (.int p6), .val (.int iv), .val (.int jv), .val (.int (p3 &&& (255 : Int32))), .val (.int (p4 &&& (255 : Int32))), .val (.int ((p5 &&& (2147483647 : Int32)) % (257 : Int32))), .val (.ref b64), .unset, .unset, .unset, .unset, .unset] [(.int (0 : Int32))])) rfl (hb hby at_84) rfl (by decide) (cap := 0) (by decide) (by decide) (by decide) (by decide)
      have ne_b64_b84 : b64 ≠ b84 := Nat.ne_of_lt (Nat.lt_of_lt_of_le A_b64_p80c.lt (Nat.le_of_eq g84.symm))
      have ge_b84 : n0 ≤ b84 := Nat.le_trans Z0_p80 (Nat.le_of_eq g84.symm)
      have A_b64_p84 : own_A Z h84 b64 .byte 2 (fun i => .int (if i = 1 then nar .byte y1 else (if i = 0 then nar .byte y0 else (0 : Int32)))) := A_b64_p80c.ext E84
      have Ex64_p84 : Exa Z h84 b64 "[B" := Ex64_p80.ext E84
      have Z0_p84 : n0 ≤ h84.size := (Nat.le_trans Z0_p80 E84.1)
      have hk_p84 := Nat.le_trans hk_p80 E84.1
      have A_b84 : own_A Z h84 b84 .byte 0 (fun _ => (.int (0 : Int32))) := A84
      refine hst st84 ?_
      show F T84 (mkF m 86 #[.val (.int p1), .val (.int p2), .val (.int p3), .val (.int p4), .val (.int p5), .val (.int p6), .val (.int iv), .val (.int jv), .val (.int (p3 &&& (255 : Int32))), .val (.int (p4 &&& (255 : Int32))), .val (.int ((p5 &&& (2147483647 : Int32)) % (257 : Int32))), .val (.ref b64), .unset, .unset, .unset, .unset, .unset] [(.ref b84)])
      refine hst (fun t₀ k₀ => XS.astore X84.here hx rfl (hb hby at_86) rfl rfl (l' := #[.val (.int p1), .val (.int p2), .val (.int p3), .val (.int p4), .val (.int p5), .val (.int p6), .val (.int iv), .val (.int jv), .val (.int (p3 &&& (255 : Int32))), .val (.int (p4 &&& (255 : Int32))), .val (.int ((p5 &&& (2147483647 : Int32)) % (257 : Int32))), .val (.ref b64), .val (.ref b84), .unset, .unset, .unset, .unset]) rfl k₀) ?_
      show F T84 (mkF m 88 #[.val (.int p1), .val (.int p2), .val (.int p3), .val (.int p4), .val (.int p5), .val (.int p6), .val (.int iv), .val (.int jv), .val (.int (p3 &&& (255 : Int32))), .val (.int (p4 &&& (255 : Int32))), .val (.int ((p5 &&& (2147483647 : Int32)) % (257 : Int32))), .val (.ref b64), .val (.ref b84), .unset, .unset, .unset, .unset] [])
      refine hst (fun t₀ k₀ => XS.iload X84.here hx rfl (hb hby at_88) rfl k₀) ?_
      show F T84 (mkF m 90 #[.val (.int p1), .val (.int p2), .val (.int p3), .val (.int p4), .val (.int p5), .val (.int p6), .val (.int iv), .val (.int jv), .val (.int (p3 &&& (255 : Int32))), .val (.int (p4 &&& (255 : Int32))), .val (.int ((p5 &&& (2147483647 : Int32)) % (257 : Int32))), .val (.ref b64), .val (.ref b84), .unset, .unset, .unset, .unset] [(.int p6)])
      refine hst (fun t₀ k₀ => XS.iconst X84.here hx rfl (hb hby at_90) k₀) ?_
      show F T84 (mkF m 91 #[.val (.int p1), .val (.int p2), .val (.int p3), .val (.int p4), .val (.int p5), .val (.int p6), .val (.int iv), .val (.int jv), .val (.int (p3 &&& (255 : Int32))), .val (.int (p4 &&& (255 : Int32))), .val (.int ((p5 &&& (2147483647 : Int32)) % (257 : Int32))), .val (.ref b64), .val (.ref b84), .unset, .unset, .unset, .unset] [(.int (4 : Int32)), (.int p6)])
      refine hst (fun t₀ k₀ => XS.iand X84.here hx rfl (hb hby at_91) rfl k₀) ?_
      show F T84 (mkF m 92 #[.val (.int p1), .val (.int p2), .val (.int p3), .val (.int p4), .val (.int p5), .val (.int p6), .val (.int iv), .val (.int jv), .val (.int (p3 &&& (255 : Int32))), .val (.int (p4 &&& (255 : Int32))), .val (.int ((p5 &&& (2147483647 : Int32)) % (257 : Int32))), .val (.ref b64), .val (.ref b84), .unset, .unset, .unset, .unset] [(.int (p6 &&& (4 : Int32)))])
      by_cases hc92 : (p6 &&& (4 : Int32)) = (0 : Int32)
      · -- pc 92: taken
        refine hst (fun t₀ k₀ => XS.ifYes X84.here hx rfl (pc0 := 92) (pc' := 100) rfl (hb hby at_92) rfl ((if0 _ _).trans (teq hc92).1) (by decide) (by decide) k₀) ?_
        show F T84 (mkF m 100 #[.val (.int p1), .val (.int p2), .val (.int p3), .val (.int p4), .val (.int p5), .val (.int p6), .val (.int iv), .val (.int jv), .val (.int (p3 &&& (255 : Int32))), .val (.int (p4 &&& (255 : Int32))), .val (.int ((p5 &&& (2147483647 : Int32)) % (257 : Int32))), .val (.ref b64), .val (.ref b84), .unset, .unset, .unset, .unset] [])
        refine hst (fun t₀ k₀ => XS.aload X84.here hx rfl (hb hby at_100) rfl rfl k₀) ?_
        show F T84 (mkF m 102 #[.val (.int p1), .val (.int p2), .val (.int p3), .val (.int p4), .val (.int p5), .val (.int p6), .val (.int iv), .val (.int jv), .val (.int (p3 &&& (255 : Int32))), .val (.int (p4 &&& (255 : Int32))), .val (.int ((p5 &&& (2147483647 : Int32)) % (257 : Int32))), .val (.ref b64), .val (.ref b84), .unset, .unset, .unset, .unset] [(.ref b84)])
        refine hst (fun t₀ k₀ => XS.astore X84.here hx rfl (hb hby at_102) rfl rfl (l' := #[.val (.int p1), .val (.int p2), .val (.int p3), .val (.int p4), .val (.int p5), .val (.int p6), .val (.int iv), .val (.int jv), .val (.int (p3 &&& (255 : Int32))), .val (.int (p4 &&& (255 : Int32))), .val (.int ((p5 &&& (2147483647 : Int32)) % (257 : Int32))), .val (.ref b64), .val (.ref b84), .val (.ref b84), .unset, .unset, .unset]) rfl k₀) ?_
        show F T84 (mkF m 104 #[.val (.int p1), .val (.int p2), .val (.int p3), .val (.int p4), .val (.int p5), .val (.int p6), .val (.int iv), .val (.int jv), .val (.int (p3 &&& (255 : Int32))), .val (.int (p4 &&& (255 : Int32))), .val (.int ((p5 &&& (2147483647 : Int32)) % (257 : Int32))), .val (.ref b64), .val (.ref b84), .val (.ref b84), .unset, .unset, .unset] [])
        obtain ⟨T104, h104, b104, X104, e104, g104, E104, A104, D104, st104⟩ := own_new X84 hx hZ hown (hw _ (List.mem_of_getElem? (i := 2) rfl)) (hw _ (List.mem_of_getElem? (i := 3) rfl)) (hw _ (List.mem_of_getElem? (i := 4) rfl)) e84 (g := (mkF m 104 #[.val (.int p1), .val (.int p2), .val (.int p3), .val (.int p4), .val (.int p5), .val (.int p6), .val (.int iv), .val (.int jv), .val (.int (p3 &&& (255 : Int32))), .val (.int (p4 &&& (255 : Int32))), .val (.int ((p5 &&& (2147483647 : Int32)) % (257 : Int32))), .val (.ref b64), .val (.ref b84), .val (.ref b84), .unset, .unset, .unset] [])) rfl (hb hby at_104) (by decide) (by decide)
        have ne_b64_b104 : b64 ≠ b104 := Nat.ne_of_lt (Nat.lt_of_lt_of_le A_b64_p84.lt (Nat.le_of_eq g104.symm))
        have ne_b84_b104 : b84 ≠ b104 := Nat.ne_of_lt (Nat.lt_of_lt_of_le A_b84.lt (Nat.le_of_eq g104.symm))
        have ge_b104 : n0 ≤ b104 := Nat.le_trans Z0_p84 (Nat.le_of_eq g104.symm)
        have A_b64_p104 : own_A Z h104 b64 .byte 2 (fun i => .int (if i = 1 then nar .byte y1 else (if i = 0 then nar .byte y0 else (0 : Int32)))) := A_b64_p84.ext E104
        have Ex64_p104 : Exa Z h104 b64 "[B" := Ex64_p84.ext E104
        have A_b84_p104 : own_A Z h104 b84 .byte 0 (fun _ => (.int (0 : Int32))) := A_b84.ext E104
        have Ex84_p104 : Exa Z h104 b84 "[B" := Ex84.ext E104
        have Z0_p104 : n0 ≤ h104.size := (Nat.le_trans Z0_p84 E104.1)
        have hk_p104 := Nat.le_trans hk_p84 E104.1
        have F_cla_b104 : Fld Z h104 b104 "com/example/seamark/seamark/transport/CommandApdu" "cla" "I" (.int (0 : Int32)) := D104 (Or.inr (hw _ (List.mem_of_getElem? (i := 22) rfl))) (ty := .int) (by decide)
        have F_ins_b104 : Fld Z h104 b104 "com/example/seamark/seamark/transport/CommandApdu" "ins" "I" (.int (0 : Int32)) := D104 (Or.inr (hw _ (List.mem_of_getElem? (i := 25) rfl))) (ty := .int) (by decide)
        have F_p1_b104 : Fld Z h104 b104 "com/example/seamark/seamark/transport/CommandApdu" "p1" "I" (.int (0 : Int32)) := D104 (Or.inr (hw _ (List.mem_of_getElem? (i := 28) rfl))) (ty := .int) (by decide)
        have F_p2_b104 : Fld Z h104 b104 "com/example/seamark/seamark/transport/CommandApdu" "p2" "I" (.int (0 : Int32)) := D104 (Or.inr (hw _ (List.mem_of_getElem? (i := 31) rfl))) (ty := .int) (by decide)
        have F_data_b104 : Fld Z h104 b104 "com/example/seamark/seamark/transport/CommandApdu" "data" "[B" .null := D104 (Or.inr (hw _ (List.mem_of_getElem? (i := 42) rfl))) (ty := (.array .byte)) (by decide)
        have F_ne_b104 : Fld Z h104 b104 "com/example/seamark/seamark/transport/CommandApdu" "ne" "I" (.int (0 : Int32)) := D104 (Or.inr (hw _ (List.mem_of_getElem? (i := 44) rfl))) (ty := .int) (by decide)
        refine hst st104 ?_
        show F T104 (mkF m 107 #[.val (.int p1), .val (.int p2), .val (.int p3), .val (.int p4), .val (.int p5), .val (.int p6), .val (.int iv), .val (.int jv), .val (.int (p3 &&& (255 : Int32))), .val (.int (p4 &&& (255 : Int32))), .val (.int ((p5 &&& (2147483647 : Int32)) % (257 : Int32))), .val (.ref b64), .val (.ref b84), .val (.ref b84), .unset, .unset, .unset] [(.ref b104)])
        refine hst (fun t₀ k₀ => XS.dup X104.here hx rfl (hb hby at_107) rfl rfl k₀) ?_
        show F T104 (mkF m 108 #[.val (.int p1), .val (.int p2), .val (.int p3), .val (.int p4), .val (.int p5), .val (.int p6), .val (.int iv), .val (.int jv), .val (.int (p3 &&& (255 : Int32))), .val (.int (p4 &&& (255 : Int32))), .val (.int ((p5 &&& (2147483647 : Int32)) % (257 : Int32))), .val (.ref b64), .val (.ref b84), .val (.ref b84), .unset, .unset, .unset] [(.ref b104), (.ref b104)])
        refine hst (fun t₀ k₀ => XS.iload X104.here hx rfl (hb hby at_108) rfl k₀) ?_
        show F T104 (mkF m 110 #[.val (.int p1), .val (.int p2), .val (.int p3), .val (.int p4), .val (.int p5), .val (.int p6), .val (.int iv), .val (.int jv), .val (.int (p3 &&& (255 : Int32))), .val (.int (p4 &&& (255 : Int32))), .val (.int ((p5 &&& (2147483647 : Int32)) % (257 : Int32))), .val (.ref b64), .val (.ref b84), .val (.ref b84), .unset, .unset, .unset] [(.int (p3 &&& (255 : Int32))), (.ref b104), (.ref b104)])
        refine hst (fun t₀ k₀ => XS.iload X104.here hx rfl (hb hby at_110) rfl k₀) ?_
        show F T104 (mkF m 112 #[.val (.int p1), .val (.int p2), .val (.int p3), .val (.int p4), .val (.int p5), .val (.int p6), .val (.int iv), .val (.int jv), .val (.int (p3 &&& (255 : Int32))), .val (.int (p4 &&& (255 : Int32))), .val (.int ((p5 &&& (2147483647 : Int32)) % (257 : Int32))), .val (.ref b64), .val (.ref b84), .val (.ref b84), .unset, .unset, .unset] [(.int iv), (.int (p3 &&& (255 : Int32))), (.ref b104), (.ref b104)])
        refine hst (fun t₀ k₀ => XS.iload X104.here hx rfl (hb hby at_112) rfl k₀) ?_
        show F T104 (mkF m 114 #[.val (.int p1), .val (.int p2), .val (.int p3), .val (.int p4), .val (.int p5), .val (.int p6), .val (.int iv), .val (.int jv), .val (.int (p3 &&& (255 : Int32))), .val (.int (p4 &&& (255 : Int32))), .val (.int ((p5 &&& (2147483647 : Int32)) % (257 : Int32))), .val (.ref b64), .val (.ref b84), .val (.ref b84), .unset, .unset, .unset] [(.int jv), (.int iv), (.int (p3 &&& (255 : Int32))), (.ref b104), (.ref b104)])
        refine hst (fun t₀ k₀ => XS.iload X104.here hx rfl (hb hby at_114) rfl k₀) ?_
        show F T104 (mkF m 116 #[.val (.int p1), .val (.int p2), .val (.int p3), .val (.int p4), .val (.int p5), .val (.int p6), .val (.int iv), .val (.int jv), .val (.int (p3 &&& (255 : Int32))), .val (.int (p4 &&& (255 : Int32))), .val (.int ((p5 &&& (2147483647 : Int32)) % (257 : Int32))), .val (.ref b64), .val (.ref b84), .val (.ref b84), .unset, .unset, .unset] [(.int (p4 &&& (255 : Int32))), (.int jv), (.int iv), (.int (p3 &&& (255 : Int32))), (.ref b104), (.ref b104)])
        refine hst (fun t₀ k₀ => XS.aload X104.here hx rfl (hb hby at_116) rfl rfl k₀) ?_
        show F T104 (mkF m 118 #[.val (.int p1), .val (.int p2), .val (.int p3), .val (.int p4), .val (.int p5), .val (.int p6), .val (.int iv), .val (.int jv), .val (.int (p3 &&& (255 : Int32))), .val (.int (p4 &&& (255 : Int32))), .val (.int ((p5 &&& (2147483647 : Int32)) % (257 : Int32))), .val (.ref b64), .val (.ref b84), .val (.ref b84), .unset, .unset, .unset] [(.ref b84), (.int (p4 &&& (255 : Int32))), (.int jv), (.int iv), (.int (p3 &&& (255 : Int32))), (.ref b104), (.ref b104)])
        refine hst (fun t₀ k₀ => XS.iload X104.here hx rfl (hb hby at_118) rfl k₀) ?_
        show F T104 (mkF m 120 #[.val (.int p1), .val (.int p2), .val (.int p3), .val (.int p4), .val (.int p5), .val (.int p6), .val (.int iv), .val (.int jv), .val (.int (p3 &&& (255 : Int32))), .val (.int (p4 &&& (255 : Int32))), .val (.int ((p5 &&& (2147483647 : Int32)) % (257 : Int32))), .val (.ref b64), .val (.ref b84), .val (.ref b84), .unset, .unset, .unset] [(.int ((p5 &&& (2147483647 : Int32)) % (257 : Int32))), (.ref b84), (.int (p4 &&& (255 : Int32))), (.int jv), (.int iv), (.int (p3 &&& (255 : Int32))), (.ref b104), (.ref b104)])
        obtain ⟨v120, T120, Lc120, X120, hQ120, hS120, hZ, hown, st120⟩ := own_callNW X104 hS0 hk_p104 hx hZ (y := (⟨"com/example/seamark/seamark/transport/CommandApdu", "<init>", "(IIII[BI)V"⟩ : MethodName)) rfl hown (hw _ (List.mem_of_getElem? (i := 5) rfl)) (hw _ (List.mem_of_getElem? (i := 6) rfl)) (hw _ (List.mem_of_getElem? (i := 4) rfl)) (hw _ (List.mem_of_getElem? (i := 7) rfl)) (by decide) e104 (rm1 l Z a0 hw [] b104 (p3 &&& (255 : Int32)) iv jv (p4 &&& (255 : Int32)) b84 ((p5 &&& (2147483647 : Int32)) % (257 : Int32)) 0 (fun _ => (0 : Int32)) h104 n0 Z0_p104 A104 ge_b104 F_cla_b104 F_ins_b104 F_p1_b104 F_p2_b104 F_data_b104 F_ne_b104 A_b84_p104 Ex84_p104 ne_b84_b104 (by decide) (fun i _ => rfl) (own_in255 _) hiv hjv (own_in255 _) (own_in256 _)) (by decide) (by decide) (g := (mkF m 120 #[.val (.int p1), .val (.int p2), .val (.int p3), .val (.int p4), .val (.int p5), .val (.int p6), .val (.int iv), .val (.int jv), .val (.int (p3 &&& (255 : Int32))), .val (.int (p4 &&& (255 : Int32))), .val (.int ((p5 &&& (2147483647 : Int32)) % (257 : Int32))), .val (.ref b64), .val (.ref b84), .val (.ref b84), .unset, .unset, .unset] [(.int ((p5 &&& (2147483647 : Int32)) % (257 : Int32))), (.ref b84), (.int (p4 &&& (255 : Int32))), (.int jv), (.int iv), (.int (p3 &&& (255 : Int32))), (.ref b104), (.ref b104)])) rfl (by rw [hml]; rfl) (a := b104) (argsL := [(.int (p3 &&& (255 : Int32))), (.int iv), (.int jv), (.int (p4 &&& (255 : Int32))), (.ref b84), (.int ((p5 &&& (2147483647 : Int32)) % (257 : Int32)))]) (rest := [(.ref b104)]) (lenOf pd_3 rfl) rfl rfl (W := 1) (by show 2 * 0 + _ ≤ _; exact Nat.le_of_eq rfl) (hb hby at_120) (by decide) (by decide)
        obtain ⟨bd120, rfl, Nq120, K120, q1_120, q2_120, q3_120, q4_120, q5_120, q6_120, q7_120, q8_120, q9_120, ne_bd120_b104⟩ := hQ120
        have N120 := Fr.app N80 Nq120
        have A_b64_p120 : own_A Z T120.heap b64 .byte 2 (fun i => .int (if i = 1 then nar .byte y1 else (if i = 0 then nar .byte y0 else (0 : Int32)))) := A_b64_p104.keep K120 (by simp only [List.mem_cons, List.not_mem_nil, or_false, not_or]; exact ne_b64_b104)
        have Ex64_p120 : Exa Z T120.heap b64 "[B" := Ex64_p104.keep K120
        have A_b84_p120 : own_A Z T120.heap b84 .byte 0 (fun _ => (.int (0 : Int32))) := A_b84_p104.keep K120 (by simp only [List.mem_cons, List.not_mem_nil, or_false, not_or]; exact ne_b84_b104)
        have Ex84_p120 : Exa Z T120.heap b84 "[B" := Ex84_p104.keep K120
        have Z0_p120 : n0 ≤ T120.heap.size := Nat.le_trans Z0_p104 K120.1
        refine hst st120 ?_
        show F T120 (mkF m 123 #[.val (.int p1), .val (.int p2), .val (.int p3), .val (.int p4), .val (.int p5), .val (.int p6), .val (.int iv), .val (.int jv), .val (.int (p3 &&& (255 : Int32))), .val (.int (p4 &&& (255 : Int32))), .val (.int ((p5 &&& (2147483647 : Int32)) % (257 : Int32))), .val (.ref b64), .val (.ref b84), .val (.ref b84), .unset, .unset, .unset] [(.ref b104)])
        refine hst (fun t₀ k₀ => XS.astore X120.here hx rfl (hb hby at_123) rfl rfl (l' := #[.val (.int p1), .val (.int p2), .val (.int p3), .val (.int p4), .val (.int p5), .val (.int p6), .val (.int iv), .val (.int jv), .val (.int (p3 &&& (255 : Int32))), .val (.int (p4 &&& (255 : Int32))), .val (.int ((p5 &&& (2147483647 : Int32)) % (257 : Int32))), .val (.ref b64), .val (.ref b84), .val (.ref b84), .val (.ref b104), .unset, .unset]) rfl k₀) ?_
        show F T120 (mkF m 125 #[.val (.int p1), .val (.int p2), .val (.int p3), .val (.int p4), .val (.int p5), .val (.int p6), .val (.int iv), .val (.int jv), .val (.int (p3 &&& (255 : Int32))), .val (.int (p4 &&& (255 : Int32))), .val (.int ((p5 &&& (2147483647 : Int32)) % (257 : Int32))), .val (.ref b64), .val (.ref b84), .val (.ref b84), .val (.ref b104), .unset, .unset] [])
        obtain ⟨T125, h125, b125, X125, e125, g125, E125, A125, D125, st125⟩ := own_new X120 hx hZ hown (hw _ (List.mem_of_getElem? (i := 2) rfl)) (hw _ (List.mem_of_getElem? (i := 3) rfl)) (hw _ (List.mem_of_getElem? (i := 4) rfl)) rfl (g := (mkF m 125 #[.val (.int p1), .val (.int p2), .val (.int p3), .val (.int p4), .val (.int p5), .val (.int p6), .val (.int iv), .val (.int jv), .val (.int (p3 &&& (255 : Int32))), .val (.int (p4 &&& (255 : Int32))), .val (.int ((p5 &&& (2147483647 : Int32)) % (257 : Int32))), .val (.ref b64), .val (.ref b84), .val (.ref b84), .val (.ref b104), .unset, .unset] [])) rfl (hb hby at_125) (by decide) (by decide)
        have ne_b64_b125 : b64 ≠ b125 := Nat.ne_of_lt (Nat.lt_of_lt_of_le A_b64_p120.lt (Nat.le_of_eq g125.symm))
        have ne_b84_b125 : b84 ≠ b125 := Nat.ne_of_lt (Nat.lt_of_lt_of_le A_b84_p120.lt (Nat.le_of_eq g125.symm))
        have ne_b104_b125 : b104 ≠ b125 := Nat.ne_of_lt (Nat.lt_of_lt_of_le q1_120.lt (Nat.le_of_eq g125.symm))
        have ne_bd120_b125 : bd120 ≠ b125 := Nat.ne_of_lt (Nat.lt_of_lt_of_le q8_120.lt (Nat.le_of_eq g125.symm))
        have ge_b125 : n0 ≤ b125 := Nat.le_trans Z0_p120 (Nat.le_of_eq g125.symm)
        have A_b64_p125 : own_A Z h125 b64 .byte 2 (fun i => .int (if i = 1 then nar .byte y1 else (if i = 0 then nar .byte y0 else (0 : Int32)))) := A_b64_p120.ext E125
        have Ex64_p125 : Exa Z h125 b64 "[B" := Ex64_p120.ext E125
        have A_b84_p125 : own_A Z h125 b84 .byte 0 (fun _ => (.int (0 : Int32))) := A_b84_p120.ext E125
        have Ex84_p125 : Exa Z h125 b84 "[B" := Ex84_p120.ext E125
        have q1_120_p125 : Exa Z h125 b104 "com/example/seamark/seamark/transport/CommandApdu" := q1_120.ext E125
        have q2_120_p125 : Fld Z h125 b104 "com/example/seamark/seamark/transport/CommandApdu" "cla" "I" (.int (p3 &&& (255 : Int32))) := q2_120.ext E125
        have q3_120_p125 : Fld Z h125 b104 "com/example/seamark/seamark/transport/CommandApdu" "ins" "I" (.int iv) := q3_120.ext E125
        have q4_120_p125 : Fld Z h125 b104 "com/example/seamark/seamark/transport/CommandApdu" "p1" "I" (.int jv) := q4_120.ext E125
        have q5_120_p125 : Fld Z h125 b104 "com/example/seamark/seamark/transport/CommandApdu" "p2" "I" (.int (p4 &&& (255 : Int32))) := q5_120.ext E125
        have q6_120_p125 : Fld Z h125 b104 "com/example/seamark/seamark/transport/CommandApdu" "ne" "I" (.int ((p5 &&& (2147483647 : Int32)) % (257 : Int32))) := q6_120.ext E125
        have q7_120_p125 : Fld Z h125 b104 "com/example/seamark/seamark/transport/CommandApdu" "data" "[B" (.ref bd120) := q7_120.ext E125
        have q8_120_p125 : own_A Z h125 bd120 .byte 0 (fun i => .int ((fun _ => (0 : Int32)) i)) := q8_120.ext E125
        have q9_120_p125 : Exa Z h125 bd120 "[B" := q9_120.ext E125
        have Z0_p125 : n0 ≤ h125.size := (Nat.le_trans Z0_p120 E125.1)
        have hk_p125 := Nat.le_trans (Nat.le_refl _) E125.1
        have F_cla_b125 : Fld Z h125 b125 "com/example/seamark/seamark/transport/CommandApdu" "cla" "I" (.int (0 : Int32)) := D125 (Or.inr (hw _ (List.mem_of_getElem? (i := 22) rfl))) (ty := .int) (by decide)
        have F_ins_b125 : Fld Z h125 b125 "com/example/seamark/seamark/transport/CommandApdu" "ins" "I" (.int (0 : Int32)) := D125 (Or.inr (hw _ (List.mem_of_getElem? (i := 25) rfl))) (ty := .int) (by decide)
        have F_p1_b125 : Fld Z h125 b125 "com/example/seamark/seamark/transport/CommandApdu" "p1" "I" (.int (0 : Int32)) := D125 (Or.inr (hw _ (List.mem_of_getElem? (i := 28) rfl))) (ty := .int) (by decide)
        have F_p2_b125 : Fld Z h125 b125 "com/example/seamark/seamark/transport/CommandApdu" "p2" "I" (.int (0 : Int32)) := D125 (Or.inr (hw _ (List.mem_of_getElem? (i := 31) rfl))) (ty := .int) (by decide)
        have F_data_b125 : Fld Z h125 b125 "com/example/seamark/seamark/transport/CommandApdu" "data" "[B" .null := D125 (Or.inr (hw _ (List.mem_of_getElem? (i := 42) rfl))) (ty := (.array .byte)) (by decide)
        have F_ne_b125 : Fld Z h125 b125 "com/example/seamark/seamark/transport/CommandApdu" "ne" "I" (.int (0 : Int32)) := D125 (Or.inr (hw _ (List.mem_of_getElem? (i := 44) rfl))) (ty := .int) (by decide)
        refine hst st125 ?_
        show F T125 (mkF m 128 #[.val (.int p1), .val (.int p2), .val (.int p3), .val (.int p4), .val (.int p5), .val (.int p6), .val (.int iv), .val (.int jv), .val (.int (p3 &&& (255 : Int32))), .val (.int (p4 &&& (255 : Int32))), .val (.int ((p5 &&& (2147483647 : Int32)) % (257 : Int32))), .val (.ref b64), .val (.ref b84), .val (.ref b84), .val (.ref b104), .unset, .unset] [(.ref b125)])
        refine hst (fun t₀ k₀ => XS.dup X125.here hx rfl (hb hby at_128) rfl rfl k₀) ?_
        show F T125 (mkF m 129 #[.val (.int p1), .val (.int p2), .val (.int p3), .val (.int p4), .val (.int p5), .val (.int p6), .val (.int iv), .val (.int jv), .val (.int (p3 &&& (255 : Int32))), .val (.int (p4 &&& (255 : Int32))), .val (.int ((p5 &&& (2147483647 : Int32)) % (257 : Int32))), .val (.ref b64), .val (.ref b84), .val (.ref b84), .val (.ref b104), .unset, .unset] [(.ref b125), (.ref b125)])
        refine hst (fun t₀ k₀ => XS.iload X125.here hx rfl (hb hby at_129) rfl k₀) ?_
        show F T125 (mkF m 131 #[.val (.int p1), .val (.int p2), .val (.int p3), .val (.int p4), .val (.int p5), .val (.int p6), .val (.int iv), .val (.int jv), .val (.int (p3 &&& (255 : Int32))), .val (.int (p4 &&& (255 : Int32))), .val (.int ((p5 &&& (2147483647 : Int32)) % (257 : Int32))), .val (.ref b64), .val (.ref b84), .val (.ref b84), .val (.ref b104), .unset, .unset] [(.int (p3 &&& (255 : Int32))), (.ref b125), (.ref b125)])
        refine hst (fun t₀ k₀ => XS.sipush X125.here hx rfl (hb hby at_131) k₀) ?_
        show F T125 (mkF m 134 #[.val (.int p1), .val (.int p2), .val (.int p3), .val (.int p4), .val (.int p5), .val (.int p6), .val (.int iv), .val (.int jv), .val (.int (p3 &&& (255 : Int32))), .val (.int (p4 &&& (255 : Int32))), .val (.int ((p5 &&& (2147483647 : Int32)) % (257 : Int32))), .val (.ref b64), .val (.ref b84), .val (.ref b84), .val (.ref b104), .unset, .unset] [(.int (255 : Int32)), (.int (p3 &&& (255 : Int32))), (.ref b125), (.ref b125)])
        refine hst (fun t₀ k₀ => XS.ixor X125.here hx rfl (hb hby at_134) rfl k₀) ?_
        show F T125 (mkF m 135 #[.val (.int p1), .val (.int p2), .val (.int p3), .val (.int p4), .val (.int p5), .val (.int p6), .val (.int iv), .val (.int jv), .val (.int (p3 &&& (255 : Int32))), .val (.int (p4 &&& (255 : Int32))), .val (.int ((p5 &&& (2147483647 : Int32)) % (257 : Int32))), .val (.ref b64), .val (.ref b84), .val (.ref b84), .val (.ref b104), .unset, .unset] [(.int ((p3 &&& (255 : Int32)) ^^^ (255 : Int32))), (.ref b125), (.ref b125)])
        refine hst (fun t₀ k₀ => XS.iload X125.here hx rfl (hb hby at_135) rfl k₀) ?_
        show F T125 (mkF m 137 #[.val (.int p1), .val (.int p2), .val (.int p3), .val (.int p4), .val (.int p5), .val (.int p6), .val (.int iv), .val (.int jv), .val (.int (p3 &&& (255 : Int32))), .val (.int (p4 &&& (255 : Int32))), .val (.int ((p5 &&& (2147483647 : Int32)) % (257 : Int32))), .val (.ref b64), .val (.ref b84), .val (.ref b84), .val (.ref b104), .unset, .unset] [(.int iv), (.int ((p3 &&& (255 : Int32)) ^^^ (255 : Int32))), (.ref b125), (.ref b125)])
        refine hst (fun t₀ k₀ => XS.iload X125.here hx rfl (hb hby at_137) rfl k₀) ?_
        show F T125 (mkF m 139 #[.val (.int p1), .val (.int p2), .val (.int p3), .val (.int p4), .val (.int p5), .val (.int p6), .val (.int iv), .val (.int jv), .val (.int (p3 &&& (255 : Int32))), .val (.int (p4 &&& (255 : Int32))), .val (.int ((p5 &&& (2147483647 : Int32)) % (257 : Int32))), .val (.ref b64), .val (.ref b84), .val (.ref b84), .val (.ref b104), .unset, .unset] [(.int jv), (.int iv), (.int ((p3 &&& (255 : Int32)) ^^^ (255 : Int32))), (.ref b125), (.ref b125)])
        refine hst (fun t₀ k₀ => XS.iload X125.here hx rfl (hb hby at_139) rfl k₀) ?_
        show F T125 (mkF m 141 #[.val (.int p1), .val (.int p2), .val (.int p3), .val (.int p4), .val (.int p5), .val (.int p6), .val (.int iv), .val (.int jv), .val (.int (p3 &&& (255 : Int32))), .val (.int (p4 &&& (255 : Int32))), .val (.int ((p5 &&& (2147483647 : Int32)) % (257 : Int32))), .val (.ref b64), .val (.ref b84), .val (.ref b84), .val (.ref b104), .unset, .unset] [(.int (p4 &&& (255 : Int32))), (.int jv), (.int iv), (.int ((p3 &&& (255 : Int32)) ^^^ (255 : Int32))), (.ref b125), (.ref b125)])
        refine hst (fun t₀ k₀ => XS.sipush X125.here hx rfl (hb hby at_141) k₀) ?_
        show F T125 (mkF m 144 #[.val (.int p1), .val (.int p2), .val (.int p3), .val (.int p4), .val (.int p5), .val (.int p6), .val (.int iv), .val (.int jv), .val (.int (p3 &&& (255 : Int32))), .val (.int (p4 &&& (255 : Int32))), .val (.int ((p5 &&& (2147483647 : Int32)) % (257 : Int32))), .val (.ref b64), .val (.ref b84), .val (.ref b84), .val (.ref b104), .unset, .unset] [(.int (255 : Int32)), (.int (p4 &&& (255 : Int32))), (.int jv), (.int iv), (.int ((p3 &&& (255 : Int32)) ^^^ (255 : Int32))), (.ref b125), (.ref b125)])
        refine hst (fun t₀ k₀ => XS.ixor X125.here hx rfl (hb hby at_144) rfl k₀) ?_
        show F T125 (mkF m 145 #[.val (.int p1), .val (.int p2), .val (.int p3), .val (.int p4), .val (.int p5), .val (.int p6), .val (.int iv), .val (.int jv), .val (.int (p3 &&& (255 : Int32))), .val (.int (p4 &&& (255 : Int32))), .val (.int ((p5 &&& (2147483647 : Int32)) % (257 : Int32))), .val (.ref b64), .val (.ref b84), .val (.ref b84), .val (.ref b104), .unset, .unset] [(.int ((p4 &&& (255 : Int32)) ^^^ (255 : Int32))), (.int jv), (.int iv), (.int ((p3 &&& (255 : Int32)) ^^^ (255 : Int32))), (.ref b125), (.ref b125)])
        refine hst (fun t₀ k₀ => XS.aload X125.here hx rfl (hb hby at_145) rfl rfl k₀) ?_
        show F T125 (mkF m 147 #[.val (.int p1), .val (.int p2), .val (.int p3), .val (.int p4), .val (.int p5), .val (.int p6), .val (.int iv), .val (.int jv), .val (.int (p3 &&& (255 : Int32))), .val (.int (p4 &&& (255 : Int32))), .val (.int ((p5 &&& (2147483647 : Int32)) % (257 : Int32))), .val (.ref b64), .val (.ref b84), .val (.ref b84), .val (.ref b104), .unset, .unset] [(.ref b84), (.int ((p4 &&& (255 : Int32)) ^^^ (255 : Int32))), (.int jv), (.int iv), (.int ((p3 &&& (255 : Int32)) ^^^ (255 : Int32))), (.ref b125), (.ref b125)])
        refine hst (fun t₀ k₀ => XS.iconst X125.here hx rfl (hb hby at_147) k₀) ?_
        show F T125 (mkF m 148 #[.val (.int p1), .val (.int p2), .val (.int p3), .val (.int p4), .val (.int p5), .val (.int p6), .val (.int iv), .val (.int jv), .val (.int (p3 &&& (255 : Int32))), .val (.int (p4 &&& (255 : Int32))), .val (.int ((p5 &&& (2147483647 : Int32)) % (257 : Int32))), .val (.ref b64), .val (.ref b84), .val (.ref b84), .val (.ref b104), .unset, .unset] [(.int (0 : Int32)), (.ref b84), (.int ((p4 &&& (255 : Int32)) ^^^ (255 : Int32))), (.int jv), (.int iv), (.int ((p3 &&& (255 : Int32)) ^^^ (255 : Int32))), (.ref b125), (.ref b125)])
        obtain ⟨v148, T148, Lc148, X148, hQ148, hS148, hZ, hown, st148⟩ := own_callNW X125 hS120 hk_p125 hx hZ (y := (⟨"com/example/seamark/seamark/transport/CommandApdu", "<init>", "(IIII[BI)V"⟩ : MethodName)) rfl hown (hw _ (List.mem_of_getElem? (i := 5) rfl)) (hw _ (List.mem_of_getElem? (i := 6) rfl)) (hw _ (List.mem_of_getElem? (i := 4) rfl)) (hw _ (List.mem_of_getElem? (i := 7) rfl)) (by decide) e125 (rm1 l Z a0 hw [] b125 ((p3 &&& (255 : Int32)) ^^^ (255 : Int32)) iv jv ((p4 &&& (255 : Int32)) ^^^ (255 : Int32)) b84 (0 : Int32) 0 (fun _ => (0 : Int32)) h125 n0 Z0_p125 A125 ge_b125 F_cla_b125 F_ins_b125 F_p1_b125 F_p2_b125 F_data_b125 F_ne_b125 A_b84_p125 Ex84_p125 ne_b84_b125 (by decide) (fun i _ => rfl) (own_xor _ (own_in255 _)) hiv hjv (own_xor _ (own_in255 _)) (by unfold own_in; decide)) (by decide) (by decide) (g := (mkF m 148 #[.val (.int p1), .val (.int p2), .val (.int p3), .val (.int p4), .val (.int p5), .val (.int p6), .val (.int iv), .val (.int jv), .val (.int (p3 &&& (255 : Int32))), .val (.int (p4 &&& (255 : Int32))), .val (.int ((p5 &&& (2147483647 : Int32)) % (257 : Int32))), .val (.ref b64), .val (.ref b84), .val (.ref b84), .val (.ref b104), .unset, .unset] [(.int (0 : Int32)), (.ref b84), (.int ((p4 &&& (255 : Int32)) ^^^ (255 : Int32))), (.int jv), (.int iv), (.int ((p3 &&& (255 : Int32)) ^^^ (255 : Int32))), (.ref b125), (.ref b125)])) rfl (by rw [hml]; rfl) (a := b125) (argsL := [(.int ((p3 &&& (255 : Int32)) ^^^ (255 : Int32))), (.int iv), (.int jv), (.int ((p4 &&& (255 : Int32)) ^^^ (255 : Int32))), (.ref b84), (.int (0 : Int32))]) (rest := [(.ref b125)]) (lenOf pd_3 rfl) rfl rfl (W := 1) (by show 2 * 0 + _ ≤ _; exact Nat.le_of_eq rfl) (hb hby at_148) (by decide) (by decide)
        obtain ⟨bd148, rfl, Nq148, K148, q1_148, q2_148, q3_148, q4_148, q5_148, q6_148, q7_148, q8_148, q9_148, ne_bd148_b125⟩ := hQ148
        have N148 := Fr.app N120 Nq148
        have A_b64_p148 : own_A Z T148.heap b64 .byte 2 (fun i => .int (if i = 1 then nar .byte y1 else (if i = 0 then nar .byte y0 else (0 : Int32)))) := A_b64_p125.keep K148 (by simp only [List.mem_cons, List.not_mem_nil, or_false, not_or]; exact ne_b64_b125)
        have Ex64_p148 : Exa Z T148.heap b64 "[B" := Ex64_p125.keep K148
        have A_b84_p148 : own_A Z T148.heap b84 .byte 0 (fun _ => (.int (0 : Int32))) := A_b84_p125.keep K148 (by simp only [List.mem_cons, List.not_mem_nil, or_false, not_or]; exact ne_b84_b125)
        have Ex84_p148 : Exa Z T148.heap b84 "[B" := Ex84_p125.keep K148
        have q1_120_p148 : Exa Z T148.heap b104 "com/example/seamark/seamark/transport/CommandApdu" := q1_120_p125.keep K148
        have q2_120_p148 : Fld Z T148.heap b104 "com/example/seamark/seamark/transport/CommandApdu" "cla" "I" (.int (p3 &&& (255 : Int32))) := q2_120_p125.keep K148 (by simp only [List.mem_cons, List.not_mem_nil, or_false, not_or]; exact ne_b104_b125)
        have q3_120_p148 : Fld Z T148.heap b104 "com/example/seamark/seamark/transport/CommandApdu" "ins" "I" (.int iv) := q3_120_p125.keep K148 (by simp only [List.mem_cons, List.not_mem_nil, or_false, not_or]; exact ne_b104_b125)
        have q4_120_p148 : Fld Z T148.heap b104 "com/example/seamark/seamark/transport/CommandApdu" "p1" "I" (.int jv) := q4_120_p125.keep K148 (by simp only [List.mem_cons, List.not_mem_nil, or_false, not_or]; exact ne_b104_b125)
        have q5_120_p148 : Fld Z T148.heap b104 "com/example/seamark/seamark/transport/CommandApdu" "p2" "I" (.int (p4 &&& (255 : Int32))) := q5_120_p125.keep K148 (by simp only [List.mem_cons, List.not_mem_nil, or_false, not_or]; exact ne_b104_b125)
        have q6_120_p148 : Fld Z T148.heap b104 "com/example/seamark/seamark/transport/CommandApdu" "ne" "I" (.int ((p5 &&& (2147483647 : Int32)) % (257 : Int32))) := q6_120_p125.keep K148 (by simp only [List.mem_cons, List.not_mem_nil, or_false, not_or]; exact ne_b104_b125)
        have q7_120_p148 : Fld Z T148.heap b104 "com/example/seamark/seamark/transport/CommandApdu" "data" "[B" (.ref bd120) := q7_120_p125.keep K148 (by simp only [List.mem_cons, List.not_mem_nil, or_false, not_or]; exact ne_b104_b125)
        have q8_120_p148 : own_A Z T148.heap bd120 .byte 0 (fun i => .int ((fun _ => (0 : Int32)) i)) := q8_120_p125.keep K148 (by simp only [List.mem_cons, List.not_mem_nil, or_false, not_or]; exact ne_bd120_b125)
        have q9_120_p148 : Exa Z T148.heap bd120 "[B" := q9_120_p125.keep K148
        have Z0_p148 : n0 ≤ T148.heap.size := Nat.le_trans Z0_p125 K148.1
        refine hst st148 ?_
        show F T148 (mkF m 151 #[.val (.int p1), .val (.int p2), .val (.int p3), .val (.int p4), .val (.int p5), .val (.int p6), .val (.int iv), .val (.int jv), .val (.int (p3 &&& (255 : Int32))), .val (.int (p4 &&& (255 : Int32))), .val (.int ((p5 &&& (2147483647 : Int32)) % (257 : Int32))), .val (.ref b64), .val (.ref b84), .val (.ref b84), .val (.ref b104), .unset, .unset] [(.ref b125)])
        refine hst (fun t₀ k₀ => XS.astore X148.here hx rfl (hb hby at_151) rfl rfl (l' := #[.val (.int p1), .val (.int p2), .val (.int p3), .val (.int p4), .val (.int p5), .val (.int p6), .val (.int iv), .val (.int jv), .val (.int (p3 &&& (255 : Int32))), .val (.int (p4 &&& (255 : Int32))), .val (.int ((p5 &&& (2147483647 : Int32)) % (257 : Int32))), .val (.ref b64), .val (.ref b84), .val (.ref b84), .val (.ref b104), .val (.ref b125), .unset]) rfl k₀) ?_
        show F T148 (mkF m 153 #[.val (.int p1), .val (.int p2), .val (.int p3), .val (.int p4), .val (.int p5), .val (.int p6), .val (.int iv), .val (.int jv), .val (.int (p3 &&& (255 : Int32))), .val (.int (p4 &&& (255 : Int32))), .val (.int ((p5 &&& (2147483647 : Int32)) % (257 : Int32))), .val (.ref b64), .val (.ref b84), .val (.ref b84), .val (.ref b104), .val (.ref b125), .unset] [])
        refine hst (fun t₀ k₀ => XS.iload X148.here hx rfl (hb hby at_153) rfl k₀) ?_
        show F T148 (mkF m 155 #[.val (.int p1), .val (.int p2), .val (.int p3), .val (.int p4), .val (.int p5), .val (.int p6), .val (.int iv), .val (.int jv), .val (.int (p3 &&& (255 : Int32))), .val (.int (p4 &&& (255 : Int32))), .val (.int ((p5 &&& (2147483647 : Int32)) % (257 : Int32))), .val (.ref b64), .val (.ref b84), .val (.ref b84), .val (.ref b104), .val (.ref b125), .unset] [(.int iv)])
        refine hst (fun t₀ k₀ => XS.sipush X148.here hx rfl (hb hby at_155) k₀) ?_
        show F T148 (mkF m 158 #[.val (.int p1), .val (.int p2), .val (.int p3), .val (.int p4), .val (.int p5), .val (.int p6), .val (.int iv), .val (.int jv), .val (.int (p3 &&& (255 : Int32))), .val (.int (p4 &&& (255 : Int32))), .val (.int ((p5 &&& (2147483647 : Int32)) % (257 : Int32))), .val (.ref b64), .val (.ref b84), .val (.ref b84), .val (.ref b104), .val (.ref b125), .unset] [(.int (164 : Int32)), (.int iv)])
        by_cases hc158 : iv = (164 : Int32)
        · -- pc 158: not taken
          refine hst (fun t₀ k₀ => XS.icmpNo X148.here hx rfl (hb hby at_158) rfl (teq hc158).2 k₀) ?_
          show F T148 (mkF m 161 #[.val (.int p1), .val (.int p2), .val (.int p3), .val (.int p4), .val (.int p5), .val (.int p6), .val (.int iv), .val (.int jv), .val (.int (p3 &&& (255 : Int32))), .val (.int (p4 &&& (255 : Int32))), .val (.int ((p5 &&& (2147483647 : Int32)) % (257 : Int32))), .val (.ref b64), .val (.ref b84), .val (.ref b84), .val (.ref b104), .val (.ref b125), .unset] [])
          refine hst (fun t₀ k₀ => XS.iload X148.here hx rfl (hb hby at_161) rfl k₀) ?_
          show F T148 (mkF m 163 #[.val (.int p1), .val (.int p2), .val (.int p3), .val (.int p4), .val (.int p5), .val (.int p6), .val (.int iv), .val (.int jv), .val (.int (p3 &&& (255 : Int32))), .val (.int (p4 &&& (255 : Int32))), .val (.int ((p5 &&& (2147483647 : Int32)) % (257 : Int32))), .val (.ref b64), .val (.ref b84), .val (.ref b84), .val (.ref b104), .val (.ref b125), .unset] [(.int jv)])
          refine hst (fun t₀ k₀ => XS.iconst X148.here hx rfl (hb hby at_163) k₀) ?_
          show F T148 (mkF m 164 #[.val (.int p1), .val (.int p2), .val (.int p3), .val (.int p4), .val (.int p5), .val (.int p6), .val (.int iv), .val (.int jv), .val (.int (p3 &&& (255 : Int32))), .val (.int (p4 &&& (255 : Int32))), .val (.int ((p5 &&& (2147483647 : Int32)) % (257 : Int32))), .val (.ref b64), .val (.ref b84), .val (.ref b84), .val (.ref b104), .val (.ref b125), .unset] [(.int (4 : Int32)), (.int jv)])
          by_cases hc164 : jv = (4 : Int32)
          · -- pc 164: not taken
            refine hst (fun t₀ k₀ => XS.icmpNo X148.here hx rfl (hb hby at_164) rfl (teq hc164).2 k₀) ?_
            show F T148 (mkF m 167 #[.val (.int p1), .val (.int p2), .val (.int p3), .val (.int p4), .val (.int p5), .val (.int p6), .val (.int iv), .val (.int jv), .val (.int (p3 &&& (255 : Int32))), .val (.int (p4 &&& (255 : Int32))), .val (.int ((p5 &&& (2147483647 : Int32)) % (257 : Int32))), .val (.ref b64), .val (.ref b84), .val (.ref b84), .val (.ref b104), .val (.ref b125), .unset] [])
            refine hst (fun t₀ k₀ => XS.iconst X148.here hx rfl (hb hby at_167) k₀) ?_
            show F T148 (mkF m 168 #[.val (.int p1), .val (.int p2), .val (.int p3), .val (.int p4), .val (.int p5), .val (.int p6), .val (.int iv), .val (.int jv), .val (.int (p3 &&& (255 : Int32))), .val (.int (p4 &&& (255 : Int32))), .val (.int ((p5 &&& (2147483647 : Int32)) % (257 : Int32))), .val (.ref b64), .val (.ref b84), .val (.ref b84), .val (.ref b104), .val (.ref b125), .unset] [(.int (1 : Int32))])
            refine hst (fun t₀ k₀ => XS.goto X148.here hx rfl (pc0 := 168) (pc' := 172) rfl (hb hby at_168) (by decide) (by decide) k₀) ?_
            show F T148 (mkF m 172 #[.val (.int p1), .val (.int p2), .val (.int p3), .val (.int p4), .val (.int p5), .val (.int p6), .val (.int iv), .val (.int jv), .val (.int (p3 &&& (255 : Int32))), .val (.int (p4 &&& (255 : Int32))), .val (.int ((p5 &&& (2147483647 : Int32)) % (257 : Int32))), .val (.ref b64), .val (.ref b84), .val (.ref b84), .val (.ref b104), .val (.ref b125), .unset] [(.int (1 : Int32))])
            refine hst (fun t₀ k₀ => XS.istore X148.here hx rfl (hb hby at_172) rfl (l' := #[.val (.int p1), .val (.int p2), .val (.int p3), .val (.int p4), .val (.int p5), .val (.int p6), .val (.int iv), .val (.int jv), .val (.int (p3 &&& (255 : Int32))), .val (.int (p4 &&& (255 : Int32))), .val (.int ((p5 &&& (2147483647 : Int32)) % (257 : Int32))), .val (.ref b64), .val (.ref b84), .val (.ref b84), .val (.ref b104), .val (.ref b125), .val (.int (1 : Int32))]) rfl k₀) ?_
            show F T148 (mkF m 174 #[.val (.int p1), .val (.int p2), .val (.int p3), .val (.int p4), .val (.int p5), .val (.int p6), .val (.int iv), .val (.int jv), .val (.int (p3 &&& (255 : Int32))), .val (.int (p4 &&& (255 : Int32))), .val (.int ((p5 &&& (2147483647 : Int32)) % (257 : Int32))), .val (.ref b64), .val (.ref b84), .val (.ref b84), .val (.ref b104), .val (.ref b125), .val (.int (1 : Int32))] [])
            refine hst (fun t₀ k₀ => XS.aload X148.here hx rfl (hb hby at_174) rfl rfl k₀) ?_
            show F T148 (mkF m 176 #[.val (.int p1), .val (.int p2), .val (.int p3), .val (.int p4), .val (.int p5), .val (.int p6), .val (.int iv), .val (.int jv), .val (.int (p3 &&& (255 : Int32))), .val (.int (p4 &&& (255 : Int32))), .val (.int ((p5 &&& (2147483647 : Int32)) % (257 : Int32))), .val (.ref b64), .val (.ref b84), .val (.ref b84), .val (.ref b104), .val (.ref b125), .val (.int (1 : Int32))] [(.ref b104)])
            obtain ⟨v176, T176, Lc176, X176, hQ176, st176⟩ := own_callV X148 hx hZ hown (y := (⟨"com/example/seamark/seamark/transport/CommandApdu", "isSelectByName", "()Z"⟩ : MethodName)) (hw _ (List.mem_of_getElem? (i := 45) rfl)) (hw _ (List.mem_of_getElem? (i := 46) rfl)) (hw _ (List.mem_of_getElem? (i := 48) rfl)) (hw _ (List.mem_of_getElem? (i := 47) rfl)) (hw _ (List.mem_of_getElem? (i := 4) rfl)) (hw _ (List.mem_of_getElem? (i := 49) rfl)) (by decide) rfl q1_120_p148 (rm4 l Z a0 hw [] b104 iv jv T148.heap n0 Z0_p148 q3_120_p148 q4_120_p148) (by decide) (by decide) (g := (mkF m 176 #[.val (.int p1), .val (.int p2), .val (.int p3), .val (.int p4), .val (.int p5), .val (.int p6), .val (.int iv), .val (.int jv), .val (.int (p3 &&& (255 : Int32))), .val (.int (p4 &&& (255 : Int32))), .val (.int ((p5 &&& (2147483647 : Int32)) % (257 : Int32))), .val (.ref b64), .val (.ref b84), .val (.ref b84), .val (.ref b104), .val (.ref b125), .val (.int (1 : Int32))] [(.ref b104)])) rfl (by rw [hml]; rfl) (argsL := []) (rest := []) (lenOf pd_2 rfl) rfl rfl (W := 0) (by show 2 * 0 + _ ≤ _; exact Nat.le_of_eq rfl) (hb hby at_176) (by decide) (by decide)
            obtain ⟨rfl, Nq176, he176⟩ := hQ176
            have N176 := Fr.app N148 Nq176
            refine hst st176 ?_
            show F T176 (mkF m 179 #[.val (.int p1), .val (.int p2), .val (.int p3), .val (.int p4), .val (.int p5), .val (.int p6), .val (.int iv), .val (.int jv), .val (.int (p3 &&& (255 : Int32))), .val (.int (p4 &&& (255 : Int32))), .val (.int ((p5 &&& (2147483647 : Int32)) % (257 : Int32))), .val (.ref b64), .val (.ref b84), .val (.ref b84), .val (.ref b104), .val (.ref b125), .val (.int (1 : Int32))] [(.int (own_sel iv jv))])
            refine hst (fun t₀ k₀ => XS.iload X176.here hx rfl (hb hby at_179) rfl k₀) ?_
            show F T176 (mkF m 181 #[.val (.int p1), .val (.int p2), .val (.int p3), .val (.int p4), .val (.int p5), .val (.int p6), .val (.int iv), .val (.int jv), .val (.int (p3 &&& (255 : Int32))), .val (.int (p4 &&& (255 : Int32))), .val (.int ((p5 &&& (2147483647 : Int32)) % (257 : Int32))), .val (.ref b64), .val (.ref b84), .val (.ref b84), .val (.ref b104), .val (.ref b125), .val (.int (1 : Int32))] [(.int (1 : Int32)), (.int (own_sel iv jv))])
            refine hst (fun t₀ k₀ => XS.icmpNo X176.here hx rfl (hb hby at_181) rfl (teq (by unfold own_sel; rw [if_pos hc158, if_pos hc164])).2 k₀) ?_
            show F T176 (mkF m 184 #[.val (.int p1), .val (.int p2), .val (.int p3), .val (.int p4), .val (.int p5), .val (.int p6), .val (.int iv), .val (.int jv), .val (.int (p3 &&& (255 : Int32))), .val (.int (p4 &&& (255 : Int32))), .val (.int ((p5 &&& (2147483647 : Int32)) % (257 : Int32))), .val (.ref b64), .val (.ref b84), .val (.ref b84), .val (.ref b104), .val (.ref b125), .val (.int (1 : Int32))] [])
            refine hst (fun t₀ k₀ => XS.aload X176.here hx rfl (hb hby at_184) rfl rfl k₀) ?_
            show F T176 (mkF m 186 #[.val (.int p1), .val (.int p2), .val (.int p3), .val (.int p4), .val (.int p5), .val (.int p6), .val (.int iv), .val (.int jv), .val (.int (p3 &&& (255 : Int32))), .val (.int (p4 &&& (255 : Int32))), .val (.int ((p5 &&& (2147483647 : Int32)) % (257 : Int32))), .val (.ref b64), .val (.ref b84), .val (.ref b84), .val (.ref b104), .val (.ref b125), .val (.int (1 : Int32))] [(.ref b125)])
            obtain ⟨v186, T186, Lc186, X186, hQ186, st186⟩ := own_callV X176 hx hZ hown (y := (⟨"com/example/seamark/seamark/transport/CommandApdu", "isSelectByName", "()Z"⟩ : MethodName)) (hw _ (List.mem_of_getElem? (i := 45) rfl)) (hw _ (List.mem_of_getElem? (i := 46) rfl)) (hw _ (List.mem_of_getElem? (i := 48) rfl)) (hw _ (List.mem_of_getElem? (i := 47) rfl)) (hw _ (List.mem_of_getElem? (i := 4) rfl)) (hw _ (List.mem_of_getElem? (i := 49) rfl)) (by decide) he176 q1_148 (rm4 l Z a0 hw [] b125 iv jv T148.heap n0 Z0_p148 q3_148 q4_148) (by decide) (by decide) (g := (mkF m 186 #[.val (.int p1), .val (.int p2), .val (.int p3), .val (.int p4), .val (.int p5), .val (.int p6), .val (.int iv), .val (.int jv), .val (.int (p3 &&& (255 : Int32))), .val (.int (p4 &&& (255 : Int32))), .val (.int ((p5 &&& (2147483647 : Int32)) % (257 : Int32))), .val (.ref b64), .val (.ref b84), .val (.ref b84), .val (.ref b104), .val (.ref b125), .val (.int (1 : Int32))] [(.ref b125)])) rfl (by rw [hml]; rfl) (argsL := []) (rest := []) (lenOf pd_2 rfl) rfl rfl (W := 0) (by show 2 * 0 + _ ≤ _; exact Nat.le_of_eq rfl) (hb hby at_186) (by decide) (by decide)
            obtain ⟨rfl, Nq186, he186⟩ := hQ186
            have N186 := Fr.app N176 Nq186
            refine hst st186 ?_
            show F T186 (mkF m 189 #[.val (.int p1), .val (.int p2), .val (.int p3), .val (.int p4), .val (.int p5), .val (.int p6), .val (.int iv), .val (.int jv), .val (.int (p3 &&& (255 : Int32))), .val (.int (p4 &&& (255 : Int32))), .val (.int ((p5 &&& (2147483647 : Int32)) % (257 : Int32))), .val (.ref b64), .val (.ref b84), .val (.ref b84), .val (.ref b104), .val (.ref b125), .val (.int (1 : Int32))] [(.int (own_sel iv jv))])
            refine hst (fun t₀ k₀ => XS.iload X186.here hx rfl (hb hby at_189) rfl k₀) ?_
            show F T186 (mkF m 191 #[.val (.int p1), .val (.int p2), .val (.int p3), .val (.int p4), .val (.int p5), .val (.int p6), .val (.int iv), .val (.int jv), .val (.int (p3 &&& (255 : Int32))), .val (.int (p4 &&& (255 : Int32))), .val (.int ((p5 &&& (2147483647 : Int32)) % (257 : Int32))), .val (.ref b64), .val (.ref b84), .val (.ref b84), .val (.ref b104), .val (.ref b125), .val (.int (1 : Int32))] [(.int (1 : Int32)), (.int (own_sel iv jv))])
            refine hst (fun t₀ k₀ => XS.icmpNo X186.here hx rfl (hb hby at_191) rfl (teq (by unfold own_sel; rw [if_pos hc158, if_pos hc164])).2 k₀) ?_
            show F T186 (mkF m 194 #[.val (.int p1), .val (.int p2), .val (.int p3), .val (.int p4), .val (.int p5), .val (.int p6), .val (.int iv), .val (.int jv), .val (.int (p3 &&& (255 : Int32))), .val (.int (p4 &&& (255 : Int32))), .val (.int ((p5 &&& (2147483647 : Int32)) % (257 : Int32))), .val (.ref b64), .val (.ref b84), .val (.ref b84), .val (.ref b104), .val (.ref b125), .val (.int (1 : Int32))] [])
            refine hst (fun t₀ k₀ => XS.iconst X186.here hx rfl (hb hby at_194) k₀) ?_
            show F T186 (mkF m 195 #[.val (.int p1), .val (.int p2), .val (.int p3), .val (.int p4), .val (.int p5), .val (.int p6), .val (.int iv), .val (.int jv), .val (.int (p3 &&& (255 : Int32))), .val (.int (p4 &&& (255 : Int32))), .val (.int ((p5 &&& (2147483647 : Int32)) % (257 : Int32))), .val (.ref b64), .val (.ref b84), .val (.ref b84), .val (.ref b104), .val (.ref b125), .val (.int (1 : Int32))] [(.int (1 : Int32))])
            refine hst (fun t₀ k₀ => XS.goto X186.here hx rfl (pc0 := 195) (pc' := 199) rfl (hb hby at_195) (by decide) (by decide) k₀) ?_
            show F T186 (mkF m 199 #[.val (.int p1), .val (.int p2), .val (.int p3), .val (.int p4), .val (.int p5), .val (.int p6), .val (.int iv), .val (.int jv), .val (.int (p3 &&& (255 : Int32))), .val (.int (p4 &&& (255 : Int32))), .val (.int ((p5 &&& (2147483647 : Int32)) % (257 : Int32))), .val (.ref b64), .val (.ref b84), .val (.ref b84), .val (.ref b104), .val (.ref b125), .val (.int (1 : Int32))] [(.int (1 : Int32))])
            rw [hF]
            refine own_retNW X186 hS148 (by rw [he186]; exact (Nat.le_refl _)) hx hret (by simp) hlk (hb hby at_199) (by decide) (by decide) ?_
            rw [he186]
            exact ⟨rfl, N186⟩
          · -- pc 164: taken
            refine hst (fun t₀ k₀ => XS.icmpYes X148.here hx rfl (pc0 := 164) (pc' := 171) rfl (hb hby at_164) rfl (feq hc164).2 (by decide) (by decide) k₀) ?_
            show F T148 (mkF m 171 #[.val (.int p1), .val (.int p2), .val (.int p3), .val (.int p4), .val (.int p5), .val (.int p6), .val (.int iv), .val (.int jv), .val (.int (p3 &&& (255 : Int32))), .val (.int (p4 &&& (255 : Int32))), .val (.int ((p5 &&& (2147483647 : Int32)) % (257 : Int32))), .val (.ref b64), .val (.ref b84), .val (.ref b84), .val (.ref b104), .val (.ref b125), .unset] [])
            refine hst (fun t₀ k₀ => XS.iconst X148.here hx rfl (hb hby at_171) k₀) ?_
            show F T148 (mkF m 172 #[.val (.int p1), .val (.int p2), .val (.int p3), .val (.int p4), .val (.int p5), .val (.int p6), .val (.int iv), .val (.int jv), .val (.int (p3 &&& (255 : Int32))), .val (.int (p4 &&& (255 : Int32))), .val (.int ((p5 &&& (2147483647 : Int32)) % (257 : Int32))), .val (.ref b64), .val (.ref b84), .val (.ref b84), .val (.ref b104), .val (.ref b125), .unset] [(.int (0 : Int32))])
            refine hst (fun t₀ k₀ => XS.istore X148.here hx rfl (hb hby at_172) rfl (l' := #[.val (.int p1), .val (.int p2), .val (.int p3), .val (.int p4), .val (.int p5), .val (.int p6), .val (.int iv), .val (.int jv), .val (.int (p3 &&& (255 : Int32))), .val (.int (p4 &&& (255 : Int32))), .val (.int ((p5 &&& (2147483647 : Int32)) % (257 : Int32))), .val (.ref b64), .val (.ref b84), .val (.ref b84), .val (.ref b104), .val (.ref b125), .val (.int (0 : Int32))]) rfl k₀) ?_
            show F T148 (mkF m 174 #[.val (.int p1), .val (.int p2), .val (.int p3), .val (.int p4), .val (.int p5), .val (.int p6), .val (.int iv), .val (.int jv), .val (.int (p3 &&& (255 : Int32))), .val (.int (p4 &&& (255 : Int32))), .val (.int ((p5 &&& (2147483647 : Int32)) % (257 : Int32))), .val (.ref b64), .val (.ref b84), .val (.ref b84), .val (.ref b104), .val (.ref b125), .val (.int (0 : Int32))] [])
            refine hst (fun t₀ k₀ => XS.aload X148.here hx rfl (hb hby at_174) rfl rfl k₀) ?_
            show F T148 (mkF m 176 #[.val (.int p1), .val (.int p2), .val (.int p3), .val (.int p4), .val (.int p5), .val (.int p6), .val (.int iv), .val (.int jv), .val (.int (p3 &&& (255 : Int32))), .val (.int (p4 &&& (255 : Int32))), .val (.int ((p5 &&& (2147483647 : Int32)) % (257 : Int32))), .val (.ref b64), .val (.ref b84), .val (.ref b84), .val (.ref b104), .val (.ref b125), .val (.int (0 : Int32))] [(.ref b104)])
            obtain ⟨v176, T176, Lc176, X176, hQ176, st176⟩ := own_callV X148 hx hZ hown (y := (⟨"com/example/seamark/seamark/transport/CommandApdu", "isSelectByName", "()Z"⟩ : MethodName)) (hw _ (List.mem_of_getElem? (i := 45) rfl)) (hw _ (List.mem_of_getElem? (i := 46) rfl)) (hw _ (List.mem_of_getElem? (i := 48) rfl)) (hw _ (List.mem_of_getElem? (i := 47) rfl)) (hw _ (List.mem_of_getElem? (i := 4) rfl)) (hw _ (List.mem_of_getElem? (i := 49) rfl)) (by decide) rfl q1_120_p148 (rm4 l Z a0 hw [] b104 iv jv T148.heap n0 Z0_p148 q3_120_p148 q4_120_p148) (by decide) (by decide) (g := (mkF m 176 #[.val (.int p1), .val (.int p2), .val (.int p3), .val (.int p4), .val (.int p5), .val (.int p6), .val (.int iv), .val (.int jv), .val (.int (p3 &&& (255 : Int32))), .val (.int (p4 &&& (255 : Int32))), .val (.int ((p5 &&& (2147483647 : Int32)) % (257 : Int32))), .val (.ref b64), .val (.ref b84), .val (.ref b84), .val (.ref b104), .val (.ref b125), .val (.int (0 : Int32))] [(.ref b104)])) rfl (by rw [hml]; rfl) (argsL := []) (rest := []) (lenOf pd_2 rfl) rfl rfl (W := 0) (by show 2 * 0 + _ ≤ _; exact Nat.le_of_eq rfl) (hb hby at_176) (by decide) (by decide)
            obtain ⟨rfl, Nq176, he176⟩ := hQ176
            have N176 := Fr.app N148 Nq176
            refine hst st176 ?_
            show F T176 (mkF m 179 #[.val (.int p1), .val (.int p2), .val (.int p3), .val (.int p4), .val (.int p5), .val (.int p6), .val (.int iv), .val (.int jv), .val (.int (p3 &&& (255 : Int32))), .val (.int (p4 &&& (255 : Int32))), .val (.int ((p5 &&& (2147483647 : Int32)) % (257 : Int32))), .val (.ref b64), .val (.ref b84), .val (.ref b84), .val (.ref b104), .val (.ref b125), .val (.int (0 : Int32))] [(.int (own_sel iv jv))])
            refine hst (fun t₀ k₀ => XS.iload X176.here hx rfl (hb hby at_179) rfl k₀) ?_
            show F T176 (mkF m 181 #[.val (.int p1), .val (.int p2), .val (.int p3), .val (.int p4), .val (.int p5), .val (.int p6), .val (.int iv), .val (.int jv), .val (.int (p3 &&& (255 : Int32))), .val (.int (p4 &&& (255 : Int32))), .val (.int ((p5 &&& (2147483647 : Int32)) % (257 : Int32))), .val (.ref b64), .val (.ref b84), .val (.ref b84), .val (.ref b104), .val (.ref b125), .val (.int (0 : Int32))] [(.int (0 : Int32)), (.int (own_sel iv jv))])
            refine hst (fun t₀ k₀ => XS.icmpNo X176.here hx rfl (hb hby at_181) rfl (teq (by unfold own_sel; rw [if_pos hc158, if_neg hc164])).2 k₀) ?_
            show F T176 (mkF m 184 #[.val (.int p1), .val (.int p2), .val (.int p3), .val (.int p4), .val (.int p5), .val (.int p6), .val (.int iv), .val (.int jv), .val (.int (p3 &&& (255 : Int32))), .val (.int (p4 &&& (255 : Int32))), .val (.int ((p5 &&& (2147483647 : Int32)) % (257 : Int32))), .val (.ref b64), .val (.ref b84), .val (.ref b84), .val (.ref b104), .val (.ref b125), .val (.int (0 : Int32))] [])
            refine hst (fun t₀ k₀ => XS.aload X176.here hx rfl (hb hby at_184) rfl rfl k₀) ?_
            show F T176 (mkF m 186 #[.val (.int p1), .val (.int p2), .val (.int p3), .val (.int p4), .val (.int p5), .val (.int p6), .val (.int iv), .val (.int jv), .val (.int (p3 &&& (255 : Int32))), .val (.int (p4 &&& (255 : Int32))), .val (.int ((p5 &&& (2147483647 : Int32)) % (257 : Int32))), .val (.ref b64), .val (.ref b84), .val (.ref b84), .val (.ref b104), .val (.ref b125), .val (.int (0 : Int32))] [(.ref b125)])
            obtain ⟨v186, T186, Lc186, X186, hQ186, st186⟩ := own_callV X176 hx hZ hown (y := (⟨"com/example/seamark/seamark/transport/CommandApdu", "isSelectByName", "()Z"⟩ : MethodName)) (hw _ (List.mem_of_getElem? (i := 45) rfl)) (hw _ (List.mem_of_getElem? (i := 46) rfl)) (hw _ (List.mem_of_getElem? (i := 48) rfl)) (hw _ (List.mem_of_getElem? (i := 47) rfl)) (hw _ (List.mem_of_getElem? (i := 4) rfl)) (hw _ (List.mem_of_getElem? (i := 49) rfl)) (by decide) he176 q1_148 (rm4 l Z a0 hw [] b125 iv jv T148.heap n0 Z0_p148 q3_148 q4_148) (by decide) (by decide) (g := (mkF m 186 #[.val (.int p1), .val (.int p2), .val (.int p3), .val (.int p4), .val (.int p5), .val (.int p6), .val (.int iv), .val (.int jv), .val (.int (p3 &&& (255 : Int32))), .val (.int (p4 &&& (255 : Int32))), .val (.int ((p5 &&& (2147483647 : Int32)) % (257 : Int32))), .val (.ref b64), .val (.ref b84), .val (.ref b84), .val (.ref b104), .val (.ref b125), .val (.int (0 : Int32))] [(.ref b125)])) rfl (by rw [hml]; rfl) (argsL := []) (rest := []) (lenOf pd_2 rfl) rfl rfl (W := 0) (by show 2 * 0 + _ ≤ _; exact Nat.le_of_eq rfl) (hb hby at_186) (by decide) (by decide)
            obtain ⟨rfl, Nq186, he186⟩ := hQ186
            have N186 := Fr.app N176 Nq186
            refine hst st186 ?_
            show F T186 (mkF m 189 #[.val (.int p1), .val (.int p2), .val (.int p3), .val (.int p4), .val (.int p5), .val (.int p6), .val (.int iv), .val (.int jv), .val (.int (p3 &&& (255 : Int32))), .val (.int (p4 &&& (255 : Int32))), .val (.int ((p5 &&& (2147483647 : Int32)) % (257 : Int32))), .val (.ref b64), .val (.ref b84), .val (.ref b84), .val (.ref b104), .val (.ref b125), .val (.int (0 : Int32))] [(.int (own_sel iv jv))])
            refine hst (fun t₀ k₀ => XS.iload X186.here hx rfl (hb hby at_189) rfl k₀) ?_
            show F T186 (mkF m 191 #[.val (.int p1), .val (.int p2), .val (.int p3), .val (.int p4), .val (.int p5), .val (.int p6), .val (.int iv), .val (.int jv), .val (.int (p3 &&& (255 : Int32))), .val (.int (p4 &&& (255 : Int32))), .val (.int ((p5 &&& (2147483647 : Int32)) % (257 : Int32))), .val (.ref b64), .val (.ref b84), .val (.ref b84), .val (.ref b104), .val (.ref b125), .val (.int (0 : Int32))] [(.int (0 : Int32)), (.int (own_sel iv jv))])
            refine hst (fun t₀ k₀ => XS.icmpNo X186.here hx rfl (hb hby at_191) rfl (teq (by unfold own_sel; rw [if_pos hc158, if_neg hc164])).2 k₀) ?_
            show F T186 (mkF m 194 #[.val (.int p1), .val (.int p2), .val (.int p3), .val (.int p4), .val (.int p5), .val (.int p6), .val (.int iv), .val (.int jv), .val (.int (p3 &&& (255 : Int32))), .val (.int (p4 &&& (255 : Int32))), .val (.int ((p5 &&& (2147483647 : Int32)) % (257 : Int32))), .val (.ref b64), .val (.ref b84), .val (.ref b84), .val (.ref b104), .val (.ref b125), .val (.int (0 : Int32))] [])
            refine hst (fun t₀ k₀ => XS.iconst X186.here hx rfl (hb hby at_194) k₀) ?_
            show F T186 (mkF m 195 #[.val (.int p1), .val (.int p2), .val (.int p3), .val (.int p4), .val (.int p5), .val (.int p6), .val (.int iv), .val (.int jv), .val (.int (p3 &&& (255 : Int32))), .val (.int (p4 &&& (255 : Int32))), .val (.int ((p5 &&& (2147483647 : Int32)) % (257 : Int32))), .val (.ref b64), .val (.ref b84), .val (.ref b84), .val (.ref b104), .val (.ref b125), .val (.int (0 : Int32))] [(.int (1 : Int32))])
            refine hst (fun t₀ k₀ => XS.goto X186.here hx rfl (pc0 := 195) (pc' := 199) rfl (hb hby at_195) (by decide) (by decide) k₀) ?_
            show F T186 (mkF m 199 #[.val (.int p1), .val (.int p2), .val (.int p3), .val (.int p4), .val (.int p5), .val (.int p6), .val (.int iv), .val (.int jv), .val (.int (p3 &&& (255 : Int32))), .val (.int (p4 &&& (255 : Int32))), .val (.int ((p5 &&& (2147483647 : Int32)) % (257 : Int32))), .val (.ref b64), .val (.ref b84), .val (.ref b84), .val (.ref b104), .val (.ref b125), .val (.int (0 : Int32))] [(.int (1 : Int32))])
            rw [hF]
            refine own_retNW X186 hS148 (by rw [he186]; exact (Nat.le_refl _)) hx hret (by simp) hlk (hb hby at_199) (by decide) (by decide) ?_
            rw [he186]
            exact ⟨rfl, N186⟩
        · -- pc 158: taken
          refine hst (fun t₀ k₀ => XS.icmpYes X148.here hx rfl (pc0 := 158) (pc' := 171) rfl (hb hby at_158) rfl (feq hc158).2 (by decide) (by decide) k₀) ?_
          show F T148 (mkF m 171 #[.val (.int p1), .val (.int p2), .val (.int p3), .val (.int p4), .val (.int p5), .val (.int p6), .val (.int iv), .val (.int jv), .val (.int (p3 &&& (255 : Int32))), .val (.int (p4 &&& (255 : Int32))), .val (.int ((p5 &&& (2147483647 : Int32)) % (257 : Int32))), .val (.ref b64), .val (.ref b84), .val (.ref b84), .val (.ref b104), .val (.ref b125), .unset] [])
          refine hst (fun t₀ k₀ => XS.iconst X148.here hx rfl (hb hby at_171) k₀) ?_
          show F T148 (mkF m 172 #[.val (.int p1), .val (.int p2), .val (.int p3), .val (.int p4), .val (.int p5), .val (.int p6), .val (.int iv), .val (.int jv), .val (.int (p3 &&& (255 : Int32))), .val (.int (p4 &&& (255 : Int32))), .val (.int ((p5 &&& (2147483647 : Int32)) % (257 : Int32))), .val (.ref b64), .val (.ref b84), .val (.ref b84), .val (.ref b104), .val (.ref b125), .unset] [(.int (0 : Int32))])
          refine hst (fun t₀ k₀ => XS.istore X148.here hx rfl (hb hby at_172) rfl (l' := #[.val (.int p1), .val (.int p2), .val (.int p3), .val (.int p4), .val (.int p5), .val (.int p6), .val (.int iv), .val (.int jv), .val (.int (p3 &&& (255 : Int32))), .val (.int (p4 &&& (255 : Int32))), .val (.int ((p5 &&& (2147483647 : Int32)) % (257 : Int32))), .val (.ref b64), .val (.ref b84), .val (.ref b84), .val (.ref b104), .val (.ref b125), .val (.int (0 : Int32))]) rfl k₀) ?_
          show F T148 (mkF m 174 #[.val (.int p1), .val (.int p2), .val (.int p3), .val (.int p4), .val (.int p5), .val (.int p6), .val (.int iv), .val (.int jv), .val (.int (p3 &&& (255 : Int32))), .val (.int (p4 &&& (255 : Int32))), .val (.int ((p5 &&& (2147483647 : Int32)) % (257 : Int32))), .val (.ref b64), .val (.ref b84), .val (.ref b84), .val (.ref b104), .val (.ref b125), .val (.int (0 : Int32))] [])
          refine hst (fun t₀ k₀ => XS.aload X148.here hx rfl (hb hby at_174) rfl rfl k₀) ?_
          show F T148 (mkF m 176 #[.val (.int p1), .val (.int p2), .val (.int p3), .val (.int p4), .val (.int p5), .val (.int p6), .val (.int iv), .val (.int jv), .val (.int (p3 &&& (255 : Int32))), .val (.int (p4 &&& (255 : Int32))), .val (.int ((p5 &&& (2147483647 : Int32)) % (257 : Int32))), .val (.ref b64), .val (.ref b84), .val (.ref b84), .val (.ref b104), .val (.ref b125), .val (.int (0 : Int32))] [(.ref b104)])
          obtain ⟨v176, T176, Lc176, X176, hQ176, st176⟩ := own_callV X148 hx hZ hown (y := (⟨"com/example/seamark/seamark/transport/CommandApdu", "isSelectByName", "()Z"⟩ : MethodName)) (hw _ (List.mem_of_getElem? (i := 45) rfl)) (hw _ (List.mem_of_getElem? (i := 46) rfl)) (hw _ (List.mem_of_getElem? (i := 48) rfl)) (hw _ (List.mem_of_getElem? (i := 47) rfl)) (hw _ (List.mem_of_getElem? (i := 4) rfl)) (hw _ (List.mem_of_getElem? (i := 49) rfl)) (by decide) rfl q1_120_p148 (rm4 l Z a0 hw [] b104 iv jv T148.heap n0 Z0_p148 q3_120_p148 q4_120_p148) (by decide) (by decide) (g := (mkF m 176 #[.val (.int p1), .val (.int p2), .val (.int p3), .val (.int p4), .val (.int p5), .val (.int p6), .val (.int iv), .val (.int jv), .val (.int (p3 &&& (255 : Int32))), .val (.int (p4 &&& (255 : Int32))), .val (.int ((p5 &&& (2147483647 : Int32)) % (257 : Int32))), .val (.ref b64), .val (.ref b84), .val (.ref b84), .val (.ref b104), .val (.ref b125), .val (.int (0 : Int32))] [(.ref b104)])) rfl (by rw [hml]; rfl) (argsL := []) (rest := []) (lenOf pd_2 rfl) rfl rfl (W := 0) (by show 2 * 0 + _ ≤ _; exact Nat.le_of_eq rfl) (hb hby at_176) (by decide) (by decide)
          obtain ⟨rfl, Nq176, he176⟩ := hQ176
          have N176 := Fr.app N148 Nq176
          refine hst st176 ?_
          show F T176 (mkF m 179 #[.val (.int p1), .val (.int p2), .val (.int p3), .val (.int p4), .val (.int p5), .val (.int p6), .val (.int iv), .val (.int jv), .val (.int (p3 &&& (255 : Int32))), .val (.int (p4 &&& (255 : Int32))), .val (.int ((p5 &&& (2147483647 : Int32)) % (257 : Int32))), .val (.ref b64), .val (.ref b84), .val (.ref b84), .val (.ref b104), .val (.ref b125), .val (.int (0 : Int32))] [(.int (own_sel iv jv))])
          refine hst (fun t₀ k₀ => XS.iload X176.here hx rfl (hb hby at_179) rfl k₀) ?_
          show F T176 (mkF m 181 #[.val (.int p1), .val (.int p2), .val (.int p3), .val (.int p4), .val (.int p5), .val (.int p6), .val (.int iv), .val (.int jv), .val (.int (p3 &&& (255 : Int32))), .val (.int (p4 &&& (255 : Int32))), .val (.int ((p5 &&& (2147483647 : Int32)) % (257 : Int32))), .val (.ref b64), .val (.ref b84), .val (.ref b84), .val (.ref b104), .val (.ref b125), .val (.int (0 : Int32))] [(.int (0 : Int32)), (.int (own_sel iv jv))])
          refine hst (fun t₀ k₀ => XS.icmpNo X176.here hx rfl (hb hby at_181) rfl (teq (by unfold own_sel; rw [if_neg hc158])).2 k₀) ?_
          show F T176 (mkF m 184 #[.val (.int p1), .val (.int p2), .val (.int p3), .val (.int p4), .val (.int p5), .val (.int p6), .val (.int iv), .val (.int jv), .val (.int (p3 &&& (255 : Int32))), .val (.int (p4 &&& (255 : Int32))), .val (.int ((p5 &&& (2147483647 : Int32)) % (257 : Int32))), .val (.ref b64), .val (.ref b84), .val (.ref b84), .val (.ref b104), .val (.ref b125), .val (.int (0 : Int32))] [])
          refine hst (fun t₀ k₀ => XS.aload X176.here hx rfl (hb hby at_184) rfl rfl k₀) ?_
          show F T176 (mkF m 186 #[.val (.int p1), .val (.int p2), .val (.int p3), .val (.int p4), .val (.int p5), .val (.int p6), .val (.int iv), .val (.int jv), .val (.int (p3 &&& (255 : Int32))), .val (.int (p4 &&& (255 : Int32))), .val (.int ((p5 &&& (2147483647 : Int32)) % (257 : Int32))), .val (.ref b64), .val (.ref b84), .val (.ref b84), .val (.ref b104), .val (.ref b125), .val (.int (0 : Int32))] [(.ref b125)])
          obtain ⟨v186, T186, Lc186, X186, hQ186, st186⟩ := own_callV X176 hx hZ hown (y := (⟨"com/example/seamark/seamark/transport/CommandApdu", "isSelectByName", "()Z"⟩ : MethodName)) (hw _ (List.mem_of_getElem? (i := 45) rfl)) (hw _ (List.mem_of_getElem? (i := 46) rfl)) (hw _ (List.mem_of_getElem? (i := 48) rfl)) (hw _ (List.mem_of_getElem? (i := 47) rfl)) (hw _ (List.mem_of_getElem? (i := 4) rfl)) (hw _ (List.mem_of_getElem? (i := 49) rfl)) (by decide) he176 q1_148 (rm4 l Z a0 hw [] b125 iv jv T148.heap n0 Z0_p148 q3_148 q4_148) (by decide) (by decide) (g := (mkF m 186 #[.val (.int p1), .val (.int p2), .val (.int p3), .val (.int p4), .val (.int p5), .val (.int p6), .val (.int iv), .val (.int jv), .val (.int (p3 &&& (255 : Int32))), .val (.int (p4 &&& (255 : Int32))), .val (.int ((p5 &&& (2147483647 : Int32)) % (257 : Int32))), .val (.ref b64), .val (.ref b84), .val (.ref b84), .val (.ref b104), .val (.ref b125), .val (.int (0 : Int32))] [(.ref b125)])) rfl (by rw [hml]; rfl) (argsL := []) (rest := []) (lenOf pd_2 rfl) rfl rfl (W := 0) (by show 2 * 0 + _ ≤ _; exact Nat.le_of_eq rfl) (hb hby at_186) (by decide) (by decide)
          obtain ⟨rfl, Nq186, he186⟩ := hQ186
          have N186 := Fr.app N176 Nq186
          refine hst st186 ?_
          show F T186 (mkF m 189 #[.val (.int p1), .val (.int p2), .val (.int p3), .val (.int p4), .val (.int p5), .val (.int p6), .val (.int iv), .val (.int jv), .val (.int (p3 &&& (255 : Int32))), .val (.int (p4 &&& (255 : Int32))), .val (.int ((p5 &&& (2147483647 : Int32)) % (257 : Int32))), .val (.ref b64), .val (.ref b84), .val (.ref b84), .val (.ref b104), .val (.ref b125), .val (.int (0 : Int32))] [(.int (own_sel iv jv))])
          refine hst (fun t₀ k₀ => XS.iload X186.here hx rfl (hb hby at_189) rfl k₀) ?_
          show F T186 (mkF m 191 #[.val (.int p1), .val (.int p2), .val (.int p3), .val (.int p4), .val (.int p5), .val (.int p6), .val (.int iv), .val (.int jv), .val (.int (p3 &&& (255 : Int32))), .val (.int (p4 &&& (255 : Int32))), .val (.int ((p5 &&& (2147483647 : Int32)) % (257 : Int32))), .val (.ref b64), .val (.ref b84), .val (.ref b84), .val (.ref b104), .val (.ref b125), .val (.int (0 : Int32))] [(.int (0 : Int32)), (.int (own_sel iv jv))])
          refine hst (fun t₀ k₀ => XS.icmpNo X186.here hx rfl (hb hby at_191) rfl (teq (by unfold own_sel; rw [if_neg hc158])).2 k₀) ?_
          show F T186 (mkF m 194 #[.val (.int p1), .val (.int p2), .val (.int p3), .val (.int p4), .val (.int p5), .val (.int p6), .val (.int iv), .val (.int jv), .val (.int (p3 &&& (255 : Int32))), .val (.int (p4 &&& (255 : Int32))), .val (.int ((p5 &&& (2147483647 : Int32)) % (257 : Int32))), .val (.ref b64), .val (.ref b84), .val (.ref b84), .val (.ref b104), .val (.ref b125), .val (.int (0 : Int32))] [])
          refine hst (fun t₀ k₀ => XS.iconst X186.here hx rfl (hb hby at_194) k₀) ?_
          show F T186 (mkF m 195 #[.val (.int p1), .val (.int p2), .val (.int p3), .val (.int p4), .val (.int p5), .val (.int p6), .val (.int iv), .val (.int jv), .val (.int (p3 &&& (255 : Int32))), .val (.int (p4 &&& (255 : Int32))), .val (.int ((p5 &&& (2147483647 : Int32)) % (257 : Int32))), .val (.ref b64), .val (.ref b84), .val (.ref b84), .val (.ref b104), .val (.ref b125), .val (.int (0 : Int32))] [(.int (1 : Int32))])
          refine hst (fun t₀ k₀ => XS.goto X186.here hx rfl (pc0 := 195) (pc' := 199) rfl (hb hby at_195) (by decide) (by decide) k₀) ?_
          show F T186 (mkF m 199 #[.val (.int p1), .val (.int p2), .val (.int p3), .val (.int p4), .val (.int p5), .val (.int p6), .val (.int iv), .val (.int jv), .val (.int (p3 &&& (255 : Int32))), .val (.int (p4 &&& (255 : Int32))), .val (.int ((p5 &&& (2147483647 : Int32)) % (257 : Int32))), .val (.ref b64), .val (.ref b84), .val (.ref b84), .val (.ref b104), .val (.ref b125), .val (.int (0 : Int32))] [(.int (1 : Int32))])
          rw [hF]
          refine own_retNW X186 hS148 (by rw [he186]; exact (Nat.le_refl _)) hx hret (by simp) hlk (hb hby at_199) (by decide) (by decide) ?_
          rw [he186]
          exact ⟨rfl, N186⟩
      · -- pc 92: not taken
        refine hst (fun t₀ k₀ => XS.ifNo X84.here hx rfl (hb hby at_92) rfl ((if0 _ _).trans (feq hc92).1) k₀) ?_
        show F T84 (mkF m 95 #[.val (.int p1), .val (.int p2), .val (.int p3), .val (.int p4), .val (.int p5), .val (.int p6), .val (.int iv), .val (.int jv), .val (.int (p3 &&& (255 : Int32))), .val (.int (p4 &&& (255 : Int32))), .val (.int ((p5 &&& (2147483647 : Int32)) % (257 : Int32))), .val (.ref b64), .val (.ref b84), .unset, .unset, .unset, .unset] [])
        refine hst (fun t₀ k₀ => XS.aload X84.here hx rfl (hb hby at_95) rfl rfl k₀) ?_
        show F T84 (mkF m 97 #[.val (.int p1), .val (.int p2), .val (.int p3), .val (.int p4), .val (.int p5), .val (.int p6), .val (.int iv), .val (.int jv), .val (.int (p3 &&& (255 : Int32))), .val (.int (p4 &&& (255 : Int32))), .val (.int ((p5 &&& (2147483647 : Int32)) % (257 : Int32))), .val (.ref b64), .val (.ref b84), .unset, .unset, .unset, .unset] [(.ref b64)])
        refine hst (fun t₀ k₀ => XS.goto X84.here hx rfl (pc0 := 97) (pc' := 102) rfl (hb hby at_97) (by decide) (by decide) k₀) ?_
        show F T84 (mkF m 102 #[.val (.int p1), .val (.int p2), .val (.int p3), .val (.int p4), .val (.int p5), .val (.int p6), .val (.int iv), .val (.int jv), .val (.int (p3 &&& (255 : Int32))), .val (.int (p4 &&& (255 : Int32))), .val (.int ((p5 &&& (2147483647 : Int32)) % (257 : Int32))), .val (.ref b64), .val (.ref b84), .unset, .unset, .unset, .unset] [(.ref b64)])
        refine hst (fun t₀ k₀ => XS.astore X84.here hx rfl (hb hby at_102) rfl rfl (l' := #[.val (.int p1), .val (.int p2), .val (.int p3), .val (.int p4), .val (.int p5), .val (.int p6), .val (.int iv), .val (.int jv), .val (.int (p3 &&& (255 : Int32))), .val (.int (p4 &&& (255 : Int32))), .val (.int ((p5 &&& (2147483647 : Int32)) % (257 : Int32))), .val (.ref b64), .val (.ref b84), .val (.ref b64), .unset, .unset, .unset]) rfl k₀) ?_
        show F T84 (mkF m 104 #[.val (.int p1), .val (.int p2), .val (.int p3), .val (.int p4), .val (.int p5), .val (.int p6), .val (.int iv), .val (.int jv), .val (.int (p3 &&& (255 : Int32))), .val (.int (p4 &&& (255 : Int32))), .val (.int ((p5 &&& (2147483647 : Int32)) % (257 : Int32))), .val (.ref b64), .val (.ref b84), .val (.ref b64), .unset, .unset, .unset] [])
        obtain ⟨T104, h104, b104, X104, e104, g104, E104, A104, D104, st104⟩ := own_new X84 hx hZ hown (hw _ (List.mem_of_getElem? (i := 2) rfl)) (hw _ (List.mem_of_getElem? (i := 3) rfl)) (hw _ (List.mem_of_getElem? (i := 4) rfl)) e84 (g := (mkF m 104 #[.val (.int p1), .val (.int p2), .val (.int p3), .val (.int p4), .val (.int p5), .val (.int p6), .val (.int iv), .val (.int jv), .val (.int (p3 &&& (255 : Int32))), .val (.int (p4 &&& (255 : Int32))), .val (.int ((p5 &&& (2147483647 : Int32)) % (257 : Int32))), .val (.ref b64), .val (.ref b84), .val (.ref b64), .unset, .unset, .unset] [])) rfl (hb hby at_104) (by decide) (by decide)
        have ne_b64_b104 : b64 ≠ b104 := Nat.ne_of_lt (Nat.lt_of_lt_of_le A_b64_p84.lt (Nat.le_of_eq g104.symm))
        have ne_b84_b104 : b84 ≠ b104 := Nat.ne_of_lt (Nat.lt_of_lt_of_le A_b84.lt (Nat.le_of_eq g104.symm))
        have ge_b104 : n0 ≤ b104 := Nat.le_trans Z0_p84 (Nat.le_of_eq g104.symm)
        have A_b64_p104 : own_A Z h104 b64 .byte 2 (fun i => .int (if i = 1 then nar .byte y1 else (if i = 0 then nar .byte y0 else (0 : Int32)))) := A_b64_p84.ext E104
        have Ex64_p104 : Exa Z h104 b64 "[B" := Ex64_p84.ext E104
        have A_b84_p104 : own_A Z h104 b84 .byte 0 (fun _ => (.int (0 : Int32))) := A_b84.ext E104
        have Ex84_p104 : Exa Z h104 b84 "[B" := Ex84.ext E104
        have Z0_p104 : n0 ≤ h104.size := (Nat.le_trans Z0_p84 E104.1)
        have hk_p104 := Nat.le_trans hk_p84 E104.1
        have F_cla_b104 : Fld Z h104 b104 "com/example/seamark/seamark/transport/CommandApdu" "cla" "I" (.int (0 : Int32)) := D104 (Or.inr (hw _ (List.mem_of_getElem? (i := 22) rfl))) (ty := .int) (by decide)
        have F_ins_b104 : Fld Z h104 b104 "com/example/seamark/seamark/transport/CommandApdu" "ins" "I" (.int (0 : Int32)) := D104 (Or.inr (hw _ (List.mem_of_getElem? (i := 25) rfl))) (ty := .int) (by decide)
        have F_p1_b104 : Fld Z h104 b104 "com/example/seamark/seamark/transport/CommandApdu" "p1" "I" (.int (0 : Int32)) := D104 (Or.inr (hw _ (List.mem_of_getElem? (i := 28) rfl))) (ty := .int) (by decide)
        have F_p2_b104 : Fld Z h104 b104 "com/example/seamark/seamark/transport/CommandApdu" "p2" "I" (.int (0 : Int32)) := D104 (Or.inr (hw _ (List.mem_of_getElem? (i := 31) rfl))) (ty := .int) (by decide)
        have F_data_b104 : Fld Z h104 b104 "com/example/seamark/seamark/transport/CommandApdu" "data" "[B" .null := D104 (Or.inr (hw _ (List.mem_of_getElem? (i := 42) rfl))) (ty := (.array .byte)) (by decide)
        have F_ne_b104 : Fld Z h104 b104 "com/example/seamark/seamark/transport/CommandApdu" "ne" "I" (.int (0 : Int32)) := D104 (Or.inr (hw _ (List.mem_of_getElem? (i := 44) rfl))) (ty := .int) (by decide)
        refine hst st104 ?_
        show F T104 (mkF m 107 #[.val (.int p1), .val (.int p2), .val (.int p3), .val (.int p4), .val (.int p5), .val (.int p6), .val (.int iv), .val (.int jv), .val (.int (p3 &&& (255 : Int32))), .val (.int (p4 &&& (255 : Int32))), .val (.int ((p5 &&& (2147483647 : Int32)) % (257 : Int32))), .val (.ref b64), .val (.ref b84), .val (.ref b64), .unset, .unset, .unset] [(.ref b104)])
        refine hst (fun t₀ k₀ => XS.dup X104.here hx rfl (hb hby at_107) rfl rfl k₀) ?_
        show F T104 (mkF m 108 #[.val (.int p1), .val (.int p2), .val (.int p3), .val (.int p4), .val (.int p5), .val (.int p6), .val (.int iv), .val (.int jv), .val (.int (p3 &&& (255 : Int32))), .val (.int (p4 &&& (255 : Int32))), .val (.int ((p5 &&& (2147483647 : Int32)) % (257 : Int32))), .val (.ref b64), .val (.ref b84), .val (.ref b64), .unset, .unset, .unset] [(.ref b104), (.ref b104)])
        refine hst (fun t₀ k₀ => XS.iload X104.here hx rfl (hb hby at_108) rfl k₀) ?_
        show F T104 (mkF m 110 #[.val (.int p1), .val (.int p2), .val (.int p3), .val (.int p4), .val (.int p5), .val (.int p6), .val (.int iv), .val (.int jv), .val (.int (p3 &&& (255 : Int32))), .val (.int (p4 &&& (255 : Int32))), .val (.int ((p5 &&& (2147483647 : Int32)) % (257 : Int32))), .val (.ref b64), .val (.ref b84), .val (.ref b64), .unset, .unset, .unset] [(.int (p3 &&& (255 : Int32))), (.ref b104), (.ref b104)])
        refine hst (fun t₀ k₀ => XS.iload X104.here hx rfl (hb hby at_110) rfl k₀) ?_
        show F T104 (mkF m 112 #[.val (.int p1), .val (.int p2), .val (.int p3), .val (.int p4), .val (.int p5), .val (.int p6), .val (.int iv), .val (.int jv), .val (.int (p3 &&& (255 : Int32))), .val (.int (p4 &&& (255 : Int32))), .val (.int ((p5 &&& (2147483647 : Int32)) % (257 : Int32))), .val (.ref b64), .val (.ref b84), .val (.ref b64), .unset, .unset, .unset] [(.int iv), (.int (p3 &&& (255 : Int32))), (.ref b104), (.ref b104)])
        refine hst (fun t₀ k₀ => XS.iload X104.here hx rfl (hb hby at_112) rfl k₀) ?_
        show F T104 (mkF m 114 #[.val (.int p1), .val (.int p2), .val (.int p3), .val (.int p4), .val (.int p5), .val (.int p6), .val (.int iv), .val (.int jv), .val (.int (p3 &&& (255 : Int32))), .val (.int (p4 &&& (255 : Int32))), .val (.int ((p5 &&& (2147483647 : Int32)) % (257 : Int32))), .val (.ref b64), .val (.ref b84), .val (.ref b64), .unset, .unset, .unset] [(.int jv), (.int iv), (.int (p3 &&& (255 : Int32))), (.ref b104), (.ref b104)])
        refine hst (fun t₀ k₀ => XS.iload X104.here hx rfl (hb hby at_114) rfl k₀) ?_
        show F T104 (mkF m 116 #[.val (.int p1), .val (.int p2), .val (.int p3), .val (.int p4), .val (.int p5), .val (.int p6), .val (.int iv), .val (.int jv), .val (.int (p3 &&& (255 : Int32))), .val (.int (p4 &&& (255 : Int32))), .val (.int ((p5 &&& (2147483647 : Int32)) % (257 : Int32))), .val (.ref b64), .val (.ref b84), .val (.ref b64), .unset, .unset, .unset] [(.int (p4 &&& (255 : Int32))), (.int jv), (.int iv), (.int (p3 &&& (255 : Int32))), (.ref b104), (.ref b104)])
        refine hst (fun t₀ k₀ => XS.aload X104.here hx rfl (hb hby at_116) rfl rfl k₀) ?_
        show F T104 (mkF m 118 #[.val (.int p1), .val (.int p2), .val (.int p3), .val (.int p4), .val (.int p5), .val (.int p6), .val (.int iv), .val (.int jv), .val (.int (p3 &&& (255 : Int32))), .val (.int (p4 &&& (255 : Int32))), .val (.int ((p5 &&& (2147483647 : Int32)) % (257 : Int32))), .val (.ref b64), .val (.ref b84), .val (.ref b64), .unset, .unset, .unset] [(.ref b64), (.int (p4 &&& (255 : Int32))), (.int jv), (.int iv), (.int (p3 &&& (255 : Int32))), (.ref b104), (.ref b104)])
        refine hst (fun t₀ k₀ => XS.iload X104.here hx rfl (hb hby at_118) rfl k₀) ?_
        show F T104 (mkF m 120 #[.val (.int p1), .val (.int p2), .val (.int p3), .val (.int p4), .val (.int p5), .val (.int p6), .val (.int iv), .val (.int jv), .val (.int (p3 &&& (255 : Int32))), .val (.int (p4 &&& (255 : Int32))), .val (.int ((p5 &&& (2147483647 : Int32)) % (257 : Int32))), .val (.ref b64), .val (.ref b84), .val (.ref b64), .unset, .unset, .unset] [(.int ((p5 &&& (2147483647 : Int32)) % (257 : Int32))), (.ref b64), (.int (p4 &&& (255 : Int32))), (.int jv), (.int iv), (.int (p3 &&& (255 : Int32))), (.ref b104), (.ref b104)])
        obtain ⟨v120, T120, Lc120, X120, hQ120, hS120, hZ, hown, st120⟩ := own_callNW X104 hS0 hk_p104 hx hZ (y := (⟨"com/example/seamark/seamark/transport/CommandApdu", "<init>", "(IIII[BI)V"⟩ : MethodName)) rfl hown (hw _ (List.mem_of_getElem? (i := 5) rfl)) (hw _ (List.mem_of_getElem? (i := 6) rfl)) (hw _ (List.mem_of_getElem? (i := 4) rfl)) (hw _ (List.mem_of_getElem? (i := 7) rfl)) (by decide) e104 (rm1 l Z a0 hw [] b104 (p3 &&& (255 : Int32)) iv jv (p4 &&& (255 : Int32)) b64 ((p5 &&& (2147483647 : Int32)) % (257 : Int32)) 2 (fun i => if i = 1 then nar .byte y1 else (if i = 0 then nar .byte y0 else (0 : Int32))) h104 n0 Z0_p104 A104 ge_b104 F_cla_b104 F_ins_b104 F_p1_b104 F_p2_b104 F_data_b104 F_ne_b104 A_b64_p104 Ex64_p104 ne_b64_b104 (by decide) (fun i _ => by (try dsimp only); split; exact fits_nar_byte _; split; exact fits_nar_byte _; rfl) (own_in255 _) hiv hjv (own_in255 _) (own_in256 _)) (by decide) (by decide) (g := (mkF m 120 #[.val (.int p1), .val (.int p2), .val (.int p3), .val (.int p4), .val (.int p5), .val (.int p6), .val (.int iv), .val (.int jv), .val (.int (p3 &&& (255 : Int32))), .val (.int (p4 &&& (255 : Int32))), .val (.int ((p5 &&& (2147483647 : Int32)) % (257 : Int32))), .val (.ref b64), .val (.ref b84), .val (.ref b64), .unset, .unset, .unset] [(.int ((p5 &&& (2147483647 : Int32)) % (257 : Int32))), (.ref b64), (.int (p4 &&& (255 : Int32))), (.int jv), (.int iv), (.int (p3 &&& (255 : Int32))), (.ref b104), (.ref b104)])) rfl (by rw [hml]; rfl) (a := b104) (argsL := [(.int (p3 &&& (255 : Int32))), (.int iv), (.int jv), (.int (p4 &&& (255 : Int32))), (.ref b64), (.int ((p5 &&& (2147483647 : Int32)) % (257 : Int32)))]) (rest := [(.ref b104)]) (lenOf pd_3 rfl) rfl rfl (W := 1) (by show 2 * 0 + _ ≤ _; exact Nat.le_of_eq rfl) (hb hby at_120) (by decide) (by decide)
        obtain ⟨bd120, rfl, Nq120, K120, q1_120, q2_120, q3_120, q4_120, q5_120, q6_120, q7_120, q8_120, q9_120, ne_bd120_b104⟩ := hQ120
        have N120 := Fr.app N80 Nq120
        have A_b64_p120 : own_A Z T120.heap b64 .byte 2 (fun i => .int (if i = 1 then nar .byte y1 else (if i = 0 then nar .byte y0 else (0 : Int32)))) := A_b64_p104.keep K120 (by simp only [List.mem_cons, List.not_mem_nil, or_false, not_or]; exact ne_b64_b104)
        have Ex64_p120 : Exa Z T120.heap b64 "[B" := Ex64_p104.keep K120
        have A_b84_p120 : own_A Z T120.heap b84 .byte 0 (fun _ => (.int (0 : Int32))) := A_b84_p104.keep K120 (by simp only [List.mem_cons, List.not_mem_nil, or_false, not_or]; exact ne_b84_b104)
        have Ex84_p120 : Exa Z T120.heap b84 "[B" := Ex84_p104.keep K120
        have Z0_p120 : n0 ≤ T120.heap.size := Nat.le_trans Z0_p104 K120.1
        refine hst st120 ?_
        show F T120 (mkF m 123 #[.val (.int p1), .val (.int p2), .val (.int p3), .val (.int p4), .val (.int p5), .val (.int p6), .val (.int iv), .val (.int jv), .val (.int (p3 &&& (255 : Int32))), .val (.int (p4 &&& (255 : Int32))), .val (.int ((p5 &&& (2147483647 : Int32)) % (257 : Int32))), .val (.ref b64), .val (.ref b84), .val (.ref b64), .unset, .unset, .unset] [(.ref b104)])
        refine hst (fun t₀ k₀ => XS.astore X120.here hx rfl (hb hby at_123) rfl rfl (l' := #[.val (.int p1), .val (.int p2), .val (.int p3), .val (.int p4), .val (.int p5), .val (.int p6), .val (.int iv), .val (.int jv), .val (.int (p3 &&& (255 : Int32))), .val (.int (p4 &&& (255 : Int32))), .val (.int ((p5 &&& (2147483647 : Int32)) % (257 : Int32))), .val (.ref b64), .val (.ref b84), .val (.ref b64), .val (.ref b104), .unset, .unset]) rfl k₀) ?_
        show F T120 (mkF m 125 #[.val (.int p1), .val (.int p2), .val (.int p3), .val (.int p4), .val (.int p5), .val (.int p6), .val (.int iv), .val (.int jv), .val (.int (p3 &&& (255 : Int32))), .val (.int (p4 &&& (255 : Int32))), .val (.int ((p5 &&& (2147483647 : Int32)) % (257 : Int32))), .val (.ref b64), .val (.ref b84), .val (.ref b64), .val (.ref b104), .unset, .unset] [])
        obtain ⟨T125, h125, b125, X125, e125, g125, E125, A125, D125, st125⟩ := own_new X120 hx hZ hown (hw _ (List.mem_of_getElem? (i := 2) rfl)) (hw _ (List.mem_of_getElem? (i := 3) rfl)) (hw _ (List.mem_of_getElem? (i := 4) rfl)) rfl (g := (mkF m 125 #[.val (.int p1), .val (.int p2), .val (.int p3), .val (.int p4), .val (.int p5), .val (.int p6), .val (.int iv), .val (.int jv), .val (.int (p3 &&& (255 : Int32))), .val (.int (p4 &&& (255 : Int32))), .val (.int ((p5 &&& (2147483647 : Int32)) % (257 : Int32))), .val (.ref b64), .val (.ref b84), .val (.ref b64), .val (.ref b104), .unset, .unset] [])) rfl (hb hby at_125) (by decide) (by decide)
        have ne_b64_b125 : b64 ≠ b125 := Nat.ne_of_lt (Nat.lt_of_lt_of_le A_b64_p120.lt (Nat.le_of_eq g125.symm))
        have ne_b84_b125 : b84 ≠ b125 := Nat.ne_of_lt (Nat.lt_of_lt_of_le A_b84_p120.lt (Nat.le_of_eq g125.symm))
        have ne_b104_b125 : b104 ≠ b125 := Nat.ne_of_lt (Nat.lt_of_lt_of_le q1_120.lt (Nat.le_of_eq g125.symm))
        have ne_bd120_b125 : bd120 ≠ b125 := Nat.ne_of_lt (Nat.lt_of_lt_of_le q8_120.lt (Nat.le_of_eq g125.symm))
        have ge_b125 : n0 ≤ b125 := Nat.le_trans Z0_p120 (Nat.le_of_eq g125.symm)
        have A_b64_p125 : own_A Z h125 b64 .byte 2 (fun i => .int (if i = 1 then nar .byte y1 else (if i = 0 then nar .byte y0 else (0 : Int32)))) := A_b64_p120.ext E125
        have Ex64_p125 : Exa Z h125 b64 "[B" := Ex64_p120.ext E125
        have A_b84_p125 : own_A Z h125 b84 .byte 0 (fun _ => (.int (0 : Int32))) := A_b84_p120.ext E125
        have Ex84_p125 : Exa Z h125 b84 "[B" := Ex84_p120.ext E125
        have q1_120_p125 : Exa Z h125 b104 "com/example/seamark/seamark/transport/CommandApdu" := q1_120.ext E125
        have q2_120_p125 : Fld Z h125 b104 "com/example/seamark/seamark/transport/CommandApdu" "cla" "I" (.int (p3 &&& (255 : Int32))) := q2_120.ext E125
        have q3_120_p125 : Fld Z h125 b104 "com/example/seamark/seamark/transport/CommandApdu" "ins" "I" (.int iv) := q3_120.ext E125
        have q4_120_p125 : Fld Z h125 b104 "com/example/seamark/seamark/transport/CommandApdu" "p1" "I" (.int jv) := q4_120.ext E125
        have q5_120_p125 : Fld Z h125 b104 "com/example/seamark/seamark/transport/CommandApdu" "p2" "I" (.int (p4 &&& (255 : Int32))) := q5_120.ext E125
        have q6_120_p125 : Fld Z h125 b104 "com/example/seamark/seamark/transport/CommandApdu" "ne" "I" (.int ((p5 &&& (2147483647 : Int32)) % (257 : Int32))) := q6_120.ext E125
        have q7_120_p125 : Fld Z h125 b104 "com/example/seamark/seamark/transport/CommandApdu" "data" "[B" (.ref bd120) := q7_120.ext E125
        have q8_120_p125 : own_A Z h125 bd120 .byte 2 (fun i => .int ((fun i => if i = 1 then nar .byte y1 else (if i = 0 then nar .byte y0 else (0 : Int32))) i)) := q8_120.ext E125
        have q9_120_p125 : Exa Z h125 bd120 "[B" := q9_120.ext E125
        have Z0_p125 : n0 ≤ h125.size := (Nat.le_trans Z0_p120 E125.1)
        have hk_p125 := Nat.le_trans (Nat.le_refl _) E125.1
        have F_cla_b125 : Fld Z h125 b125 "com/example/seamark/seamark/transport/CommandApdu" "cla" "I" (.int (0 : Int32)) := D125 (Or.inr (hw _ (List.mem_of_getElem? (i := 22) rfl))) (ty := .int) (by decide)
        have F_ins_b125 : Fld Z h125 b125 "com/example/seamark/seamark/transport/CommandApdu" "ins" "I" (.int (0 : Int32)) := D125 (Or.inr (hw _ (List.mem_of_getElem? (i := 25) rfl))) (ty := .int) (by decide)
        have F_p1_b125 : Fld Z h125 b125 "com/example/seamark/seamark/transport/CommandApdu" "p1" "I" (.int (0 : Int32)) := D125 (Or.inr (hw _ (List.mem_of_getElem? (i := 28) rfl))) (ty := .int) (by decide)
        have F_p2_b125 : Fld Z h125 b125 "com/example/seamark/seamark/transport/CommandApdu" "p2" "I" (.int (0 : Int32)) := D125 (Or.inr (hw _ (List.mem_of_getElem? (i := 31) rfl))) (ty := .int) (by decide)
        have F_data_b125 : Fld Z h125 b125 "com/example/seamark/seamark/transport/CommandApdu" "data" "[B" .null := D125 (Or.inr (hw _ (List.mem_of_getElem? (i := 42) rfl))) (ty := (.array .byte)) (by decide)
        have F_ne_b125 : Fld Z h125 b125 "com/example/seamark/seamark/transport/CommandApdu" "ne" "I" (.int (0 : Int32)) := D125 (Or.inr (hw _ (List.mem_of_getElem? (i := 44) rfl))) (ty := .int) (by decide)
        refine hst st125 ?_
        show F T125 (mkF m 128 #[.val (.int p1), .val (.int p2), .val (.int p3), .val (.int p4), .val (.int p5), .val (.int p6), .val (.int iv), .val (.int jv), .val (.int (p3 &&& (255 : Int32))), .val (.int (p4 &&& (255 : Int32))), .val (.int ((p5 &&& (2147483647 : Int32)) % (257 : Int32))), .val (.ref b64), .val (.ref b84), .val (.ref b64), .val (.ref b104), .unset, .unset] [(.ref b125)])
        refine hst (fun t₀ k₀ => XS.dup X125.here hx rfl (hb hby at_128) rfl rfl k₀) ?_
        show F T125 (mkF m 129 #[.val (.int p1), .val (.int p2), .val (.int p3), .val (.int p4), .val (.int p5), .val (.int p6), .val (.int iv), .val (.int jv), .val (.int (p3 &&& (255 : Int32))), .val (.int (p4 &&& (255 : Int32))), .val (.int ((p5 &&& (2147483647 : Int32)) % (257 : Int32))), .val (.ref b64), .val (.ref b84), .val (.ref b64), .val (.ref b104), .unset, .unset] [(.ref b125), (.ref b125)])
        refine hst (fun t₀ k₀ => XS.iload X125.here hx rfl (hb hby at_129) rfl k₀) ?_
        show F T125 (mkF m 131 #[.val (.int p1), .val (.int p2), .val (.int p3), .val (.int p4), .val (.int p5), .val (.int p6), .val (.int iv), .val (.int jv), .val (.int (p3 &&& (255 : Int32))), .val (.int (p4 &&& (255 : Int32))), .val (.int ((p5 &&& (2147483647 : Int32)) % (257 : Int32))), .val (.ref b64), .val (.ref b84), .val (.ref b64), .val (.ref b104), .unset, .unset] [(.int (p3 &&& (255 : Int32))), (.ref b125), (.ref b125)])
        refine hst (fun t₀ k₀ => XS.sipush X125.here hx rfl (hb hby at_131) k₀) ?_
        show F T125 (mkF m 134 #[.val (.int p1), .val (.int p2), .val (.int p3), .val (.int p4), .val (.int p5), .val (.int p6), .val (.int iv), .val (.int jv), .val (.int (p3 &&& (255 : Int32))), .val (.int (p4 &&& (255 : Int32))), .val (.int ((p5 &&& (2147483647 : Int32)) % (257 : Int32))), .val (.ref b64), .val (.ref b84), .val (.ref b64), .val (.ref b104), .unset, .unset] [(.int (255 : Int32)), (.int (p3 &&& (255 : Int32))), (.ref b125), (.ref b125)])
        refine hst (fun t₀ k₀ => XS.ixor X125.here hx rfl (hb hby at_134) rfl k₀) ?_
        show F T125 (mkF m 135 #[.val (.int p1), .val (.int p2), .val (.int p3), .val (.int p4), .val (.int p5), .val (.int p6), .val (.int iv), .val (.int jv), .val (.int (p3 &&& (255 : Int32))), .val (.int (p4 &&& (255 : Int32))), .val (.int ((p5 &&& (2147483647 : Int32)) % (257 : Int32))), .val (.ref b64), .val (.ref b84), .val (.ref b64), .val (.ref b104), .unset, .unset] [(.int ((p3 &&& (255 : Int32)) ^^^ (255 : Int32))), (.ref b125), (.ref b125)])
        refine hst (fun t₀ k₀ => XS.iload X125.here hx rfl (hb hby at_135) rfl k₀) ?_
        show F T125 (mkF m 137 #[.val (.int p1), .val (.int p2), .val (.int p3), .val (.int p4), .val (.int p5), .val (.int p6), .val (.int iv), .val (.int jv), .val (.int (p3 &&& (255 : Int32))), .val (.int (p4 &&& (255 : Int32))), .val (.int ((p5 &&& (2147483647 : Int32)) % (257 : Int32))), .val (.ref b64), .val (.ref b84), .val (.ref b64), .val (.ref b104), .unset, .unset] [(.int iv), (.int ((p3 &&& (255 : Int32)) ^^^ (255 : Int32))), (.ref b125), (.ref b125)])
        refine hst (fun t₀ k₀ => XS.iload X125.here hx rfl (hb hby at_137) rfl k₀) ?_
        show F T125 (mkF m 139 #[.val (.int p1), .val (.int p2), .val (.int p3), .val (.int p4), .val (.int p5), .val (.int p6), .val (.int iv), .val (.int jv), .val (.int (p3 &&& (255 : Int32))), .val (.int (p4 &&& (255 : Int32))), .val (.int ((p5 &&& (2147483647 : Int32)) % (257 : Int32))), .val (.ref b64), .val (.ref b84), .val (.ref b64), .val (.ref b104), .unset, .unset] [(.int jv), (.int iv), (.int ((p3 &&& (255 : Int32)) ^^^ (255 : Int32))), (.ref b125), (.ref b125)])
        refine hst (fun t₀ k₀ => XS.iload X125.here hx rfl (hb hby at_139) rfl k₀) ?_
        show F T125 (mkF m 141 #[.val (.int p1), .val (.int p2), .val (.int p3), .val (.int p4), .val (.int p5), .val (.int p6), .val (.int iv), .val (.int jv), .val (.int (p3 &&& (255 : Int32))), .val (.int (p4 &&& (255 : Int32))), .val (.int ((p5 &&& (2147483647 : Int32)) % (257 : Int32))), .val (.ref b64), .val (.ref b84), .val (.ref b64), .val (.ref b104), .unset, .unset] [(.int (p4 &&& (255 : Int32))), (.int jv), (.int iv), (.int ((p3 &&& (255 : Int32)) ^^^ (255 : Int32))), (.ref b125), (.ref b125)])
        refine hst (fun t₀ k₀ => XS.sipush X125.here hx rfl (hb hby at_141) k₀) ?_
        show F T125 (mkF m 144 #[.val (.int p1), .val (.int p2), .val (.int p3), .val (.int p4), .val (.int p5), .val (.int p6), .val (.int iv), .val (.int jv), .val (.int (p3 &&& (255 : Int32))), .val (.int (p4 &&& (255 : Int32))), .val (.int ((p5 &&& (2147483647 : Int32)) % (257 : Int32))), .val (.ref b64), .val (.ref b84), .val (.ref b64), .val (.ref b104), .unset, .unset] [(.int (255 : Int32)), (.int (p4 &&& (255 : Int32))), (.int jv), (.int iv), (.int ((p3 &&& (255 : Int32)) ^^^ (255 : Int32))), (.ref b125), (.ref b125)])
        refine hst (fun t₀ k₀ => XS.ixor X125.here hx rfl (hb hby at_144) rfl k₀) ?_
        show F T125 (mkF m 145 #[.val (.int p1), .val (.int p2), .val (.int p3), .val (.int p4), .val (.int p5), .val (.int p6), .val (.int iv), .val (.int jv), .val (.int (p3 &&& (255 : Int32))), .val (.int (p4 &&& (255 : Int32))), .val (.int ((p5 &&& (2147483647 : Int32)) % (257 : Int32))), .val (.ref b64), .val (.ref b84), .val (.ref b64), .val (.ref b104), .unset, .unset] [(.int ((p4 &&& (255 : Int32)) ^^^ (255 : Int32))), (.int jv), (.int iv), (.int ((p3 &&& (255 : Int32)) ^^^ (255 : Int32))), (.ref b125), (.ref b125)])
        refine hst (fun t₀ k₀ => XS.aload X125.here hx rfl (hb hby at_145) rfl rfl k₀) ?_
        show F T125 (mkF m 147 #[.val (.int p1), .val (.int p2), .val (.int p3), .val (.int p4), .val (.int p5), .val (.int p6), .val (.int iv), .val (.int jv), .val (.int (p3 &&& (255 : Int32))), .val (.int (p4 &&& (255 : Int32))), .val (.int ((p5 &&& (2147483647 : Int32)) % (257 : Int32))), .val (.ref b64), .val (.ref b84), .val (.ref b64), .val (.ref b104), .unset, .unset] [(.ref b84), (.int ((p4 &&& (255 : Int32)) ^^^ (255 : Int32))), (.int jv), (.int iv), (.int ((p3 &&& (255 : Int32)) ^^^ (255 : Int32))), (.ref b125), (.ref b125)])
        refine hst (fun t₀ k₀ => XS.iconst X125.here hx rfl (hb hby at_147) k₀) ?_
        show F T125 (mkF m 148 #[.val (.int p1), .val (.int p2), .val (.int p3), .val (.int p4), .val (.int p5), .val (.int p6), .val (.int iv), .val (.int jv), .val (.int (p3 &&& (255 : Int32))), .val (.int (p4 &&& (255 : Int32))), .val (.int ((p5 &&& (2147483647 : Int32)) % (257 : Int32))), .val (.ref b64), .val (.ref b84), .val (.ref b64), .val (.ref b104), .unset, .unset] [(.int (0 : Int32)), (.ref b84), (.int ((p4 &&& (255 : Int32)) ^^^ (255 : Int32))), (.int jv), (.int iv), (.int ((p3 &&& (255 : Int32)) ^^^ (255 : Int32))), (.ref b125), (.ref b125)])
        obtain ⟨v148, T148, Lc148, X148, hQ148, hS148, hZ, hown, st148⟩ := own_callNW X125 hS120 hk_p125 hx hZ (y := (⟨"com/example/seamark/seamark/transport/CommandApdu", "<init>", "(IIII[BI)V"⟩ : MethodName)) rfl hown (hw _ (List.mem_of_getElem? (i := 5) rfl)) (hw _ (List.mem_of_getElem? (i := 6) rfl)) (hw _ (List.mem_of_getElem? (i := 4) rfl)) (hw _ (List.mem_of_getElem? (i := 7) rfl)) (by decide) e125 (rm1 l Z a0 hw [] b125 ((p3 &&& (255 : Int32)) ^^^ (255 : Int32)) iv jv ((p4 &&& (255 : Int32)) ^^^ (255 : Int32)) b84 (0 : Int32) 0 (fun _ => (0 : Int32)) h125 n0 Z0_p125 A125 ge_b125 F_cla_b125 F_ins_b125 F_p1_b125 F_p2_b125 F_data_b125 F_ne_b125 A_b84_p125 Ex84_p125 ne_b84_b125 (by decide) (fun i _ => rfl) (own_xor _ (own_in255 _)) hiv hjv (own_xor _ (own_in255 _)) (by unfold own_in; decide)) (by decide) (by decide) (g := (mkF m 148 #[.val (.int p1), .val (.int p2), .val (.int p3), .val (.int p4), .val (.int p5), .val (.int p6), .val (.int iv), .val (.int jv), .val (.int (p3 &&& (255 : Int32))), .val (.int (p4 &&& (255 : Int32))), .val (.int ((p5 &&& (2147483647 : Int32)) % (257 : Int32))), .val (.ref b64), .val (.ref b84), .val (.ref b64), .val (.ref b104), .unset, .unset] [(.int (0 : Int32)), (.ref b84), (.int ((p4 &&& (255 : Int32)) ^^^ (255 : Int32))), (.int jv), (.int iv), (.int ((p3 &&& (255 : Int32)) ^^^ (255 : Int32))), (.ref b125), (.ref b125)])) rfl (by rw [hml]; rfl) (a := b125) (argsL := [(.int ((p3 &&& (255 : Int32)) ^^^ (255 : Int32))), (.int iv), (.int jv), (.int ((p4 &&& (255 : Int32)) ^^^ (255 : Int32))), (.ref b84), (.int (0 : Int32))]) (rest := [(.ref b125)]) (lenOf pd_3 rfl) rfl rfl (W := 1) (by show 2 * 0 + _ ≤ _; exact Nat.le_of_eq rfl) (hb hby at_148) (by decide) (by decide)
        obtain ⟨bd148, rfl, Nq148, K148, q1_148, q2_148, q3_148, q4_148, q5_148, q6_148, q7_148, q8_148, q9_148, ne_bd148_b125⟩ := hQ148
        have N148 := Fr.app N120 Nq148
        have A_b64_p148 : own_A Z T148.heap b64 .byte 2 (fun i => .int (if i = 1 then nar .byte y1 else (if i = 0 then nar .byte y0 else (0 : Int32)))) := A_b64_p125.keep K148 (by simp only [List.mem_cons, List.not_mem_nil, or_false, not_or]; exact ne_b64_b125)
        have Ex64_p148 : Exa Z T148.heap b64 "[B" := Ex64_p125.keep K148
        have A_b84_p148 : own_A Z T148.heap b84 .byte 0 (fun _ => (.int (0 : Int32))) := A_b84_p125.keep K148 (by simp only [List.mem_cons, List.not_mem_nil, or_false, not_or]; exact ne_b84_b125)
        have Ex84_p148 : Exa Z T148.heap b84 "[B" := Ex84_p125.keep K148
        have q1_120_p148 : Exa Z T148.heap b104 "com/example/seamark/seamark/transport/CommandApdu" := q1_120_p125.keep K148
        have q2_120_p148 : Fld Z T148.heap b104 "com/example/seamark/seamark/transport/CommandApdu" "cla" "I" (.int (p3 &&& (255 : Int32))) := q2_120_p125.keep K148 (by simp only [List.mem_cons, List.not_mem_nil, or_false, not_or]; exact ne_b104_b125)
        have q3_120_p148 : Fld Z T148.heap b104 "com/example/seamark/seamark/transport/CommandApdu" "ins" "I" (.int iv) := q3_120_p125.keep K148 (by simp only [List.mem_cons, List.not_mem_nil, or_false, not_or]; exact ne_b104_b125)
        have q4_120_p148 : Fld Z T148.heap b104 "com/example/seamark/seamark/transport/CommandApdu" "p1" "I" (.int jv) := q4_120_p125.keep K148 (by simp only [List.mem_cons, List.not_mem_nil, or_false, not_or]; exact ne_b104_b125)
        have q5_120_p148 : Fld Z T148.heap b104 "com/example/seamark/seamark/transport/CommandApdu" "p2" "I" (.int (p4 &&& (255 : Int32))) := q5_120_p125.keep K148 (by simp only [List.mem_cons, List.not_mem_nil, or_false, not_or]; exact ne_b104_b125)
        have q6_120_p148 : Fld Z T148.heap b104 "com/example/seamark/seamark/transport/CommandApdu" "ne" "I" (.int ((p5 &&& (2147483647 : Int32)) % (257 : Int32))) := q6_120_p125.keep K148 (by simp only [List.mem_cons, List.not_mem_nil, or_false, not_or]; exact ne_b104_b125)
        have q7_120_p148 : Fld Z T148.heap b104 "com/example/seamark/seamark/transport/CommandApdu" "data" "[B" (.ref bd120) := q7_120_p125.keep K148 (by simp only [List.mem_cons, List.not_mem_nil, or_false, not_or]; exact ne_b104_b125)
        have q8_120_p148 : own_A Z T148.heap bd120 .byte 2 (fun i => .int ((fun i => if i = 1 then nar .byte y1 else (if i = 0 then nar .byte y0 else (0 : Int32))) i)) := q8_120_p125.keep K148 (by simp only [List.mem_cons, List.not_mem_nil, or_false, not_or]; exact ne_bd120_b125)
        have q9_120_p148 : Exa Z T148.heap bd120 "[B" := q9_120_p125.keep K148
        have Z0_p148 : n0 ≤ T148.heap.size := Nat.le_trans Z0_p125 K148.1
        refine hst st148 ?_
        show F T148 (mkF m 151 #[.val (.int p1), .val (.int p2), .val (.int p3), .val (.int p4), .val (.int p5), .val (.int p6), .val (.int iv), .val (.int jv), .val (.int (p3 &&& (255 : Int32))), .val (.int (p4 &&& (255 : Int32))), .val (.int ((p5 &&& (2147483647 : Int32)) % (257 : Int32))), .val (.ref b64), .val (.ref b84), .val (.ref b64), .val (.ref b104), .unset, .unset] [(.ref b125)])
        refine hst (fun t₀ k₀ => XS.astore X148.here hx rfl (hb hby at_151) rfl rfl (l' := #[.val (.int p1), .val (.int p2), .val (.int p3), .val (.int p4), .val (.int p5), .val (.int p6), .val (.int iv), .val (.int jv), .val (.int (p3 &&& (255 : Int32))), .val (.int (p4 &&& (255 : Int32))), .val (.int ((p5 &&& (2147483647 : Int32)) % (257 : Int32))), .val (.ref b64), .val (.ref b84), .val (.ref b64), .val (.ref b104), .val (.ref b125), .unset]) rfl k₀) ?_
        show F T148 (mkF m 153 #[.val (.int p1), .val (.int p2), .val (.int p3), .val (.int p4), .val (.int p5), .val (.int p6), .val (.int iv), .val (.int jv), .val (.int (p3 &&& (255 : Int32))), .val (.int (p4 &&& (255 : Int32))), .val (.int ((p5 &&& (2147483647 : Int32)) % (257 : Int32))), .val (.ref b64), .val (.ref b84), .val (.ref b64), .val (.ref b104), .val (.ref b125), .unset] [])
        refine hst (fun t₀ k₀ => XS.iload X148.here hx rfl (hb hby at_153) rfl k₀) ?_
        show F T148 (mkF m 155 #[.val (.int p1), .val (.int p2), .val (.int p3), .val (.int p4), .val (.int p5), .val (.int p6), .val (.int iv), .val (.int jv), .val (.int (p3 &&& (255 : Int32))), .val (.int (p4 &&& (255 : Int32))), .val (.int ((p5 &&& (2147483647 : Int32)) % (257 : Int32))), .val (.ref b64), .val (.ref b84), .val (.ref b64), .val (.ref b104), .val (.ref b125), .unset] [(.int iv)])
        refine hst (fun t₀ k₀ => XS.sipush X148.here hx rfl (hb hby at_155) k₀) ?_
        show F T148 (mkF m 158 #[.val (.int p1), .val (.int p2), .val (.int p3), .val (.int p4), .val (.int p5), .val (.int p6), .val (.int iv), .val (.int jv), .val (.int (p3 &&& (255 : Int32))), .val (.int (p4 &&& (255 : Int32))), .val (.int ((p5 &&& (2147483647 : Int32)) % (257 : Int32))), .val (.ref b64), .val (.ref b84), .val (.ref b64), .val (.ref b104), .val (.ref b125), .unset] [(.int (164 : Int32)), (.int iv)])
        by_cases hc158 : iv = (164 : Int32)
        · -- pc 158: not taken
          refine hst (fun t₀ k₀ => XS.icmpNo X148.here hx rfl (hb hby at_158) rfl (teq hc158).2 k₀) ?_
          show F T148 (mkF m 161 #[.val (.int p1), .val (.int p2), .val (.int p3), .val (.int p4), .val (.int p5), .val (.int p6), .val (.int iv), .val (.int jv), .val (.int (p3 &&& (255 : Int32))), .val (.int (p4 &&& (255 : Int32))), .val (.int ((p5 &&& (2147483647 : Int32)) % (257 : Int32))), .val (.ref b64), .val (.ref b84), .val (.ref b64), .val (.ref b104), .val (.ref b125), .unset] [])
          refine hst (fun t₀ k₀ => XS.iload X148.here hx rfl (hb hby at_161) rfl k₀) ?_
          show F T148 (mkF m 163 #[.val (.int p1), .val (.int p2), .val (.int p3), .val (.int p4), .val (.int p5), .val (.int p6), .val (.int iv), .val (.int jv), .val (.int (p3 &&& (255 : Int32))), .val (.int (p4 &&& (255 : Int32))), .val (.int ((p5 &&& (2147483647 : Int32)) % (257 : Int32))), .val (.ref b64), .val (.ref b84), .val (.ref b64), .val (.ref b104), .val (.ref b125), .unset] [(.int jv)])
          refine hst (fun t₀ k₀ => XS.iconst X148.here hx rfl (hb hby at_163) k₀) ?_
          show F T148 (mkF m 164 #[.val (.int p1), .val (.int p2), .val (.int p3), .val (.int p4), .val (.int p5), .val (.int p6), .val (.int iv), .val (.int jv), .val (.int (p3 &&& (255 : Int32))), .val (.int (p4 &&& (255 : Int32))), .val (.int ((p5 &&& (2147483647 : Int32)) % (257 : Int32))), .val (.ref b64), .val (.ref b84), .val (.ref b64), .val (.ref b104), .val (.ref b125), .unset] [(.int (4 : Int32)), (.int jv)])
          by_cases hc164 : jv = (4 : Int32)
          · -- pc 164: not taken
            refine hst (fun t₀ k₀ => XS.icmpNo X148.here hx rfl (hb hby at_164) rfl (teq hc164).2 k₀) ?_
            show F T148 (mkF m 167 #[.val (.int p1), .val (.int p2), .val (.int p3), .val (.int p4), .val (.int p5), .val (.int p6), .val (.int iv), .val (.int jv), .val (.int (p3 &&& (255 : Int32))), .val (.int (p4 &&& (255 : Int32))), .val (.int ((p5 &&& (2147483647 : Int32)) % (257 : Int32))), .val (.ref b64), .val (.ref b84), .val (.ref b64), .val (.ref b104), .val (.ref b125), .unset] [])
            refine hst (fun t₀ k₀ => XS.iconst X148.here hx rfl (hb hby at_167) k₀) ?_
            show F T148 (mkF m 168 #[.val (.int p1), .val (.int p2), .val (.int p3), .val (.int p4), .val (.int p5), .val (.int p6), .val (.int iv), .val (.int jv), .val (.int (p3 &&& (255 : Int32))), .val (.int (p4 &&& (255 : Int32))), .val (.int ((p5 &&& (2147483647 : Int32)) % (257 : Int32))), .val (.ref b64), .val (.ref b84), .val (.ref b64), .val (.ref b104), .val (.ref b125), .unset] [(.int (1 : Int32))])
            refine hst (fun t₀ k₀ => XS.goto X148.here hx rfl (pc0 := 168) (pc' := 172) rfl (hb hby at_168) (by decide) (by decide) k₀) ?_
            show F T148 (mkF m 172 #[.val (.int p1), .val (.int p2), .val (.int p3), .val (.int p4), .val (.int p5), .val (.int p6), .val (.int iv), .val (.int jv), .val (.int (p3 &&& (255 : Int32))), .val (.int (p4 &&& (255 : Int32))), .val (.int ((p5 &&& (2147483647 : Int32)) % (257 : Int32))), .val (.ref b64), .val (.ref b84), .val (.ref b64), .val (.ref b104), .val (.ref b125), .unset] [(.int (1 : Int32))])
            refine hst (fun t₀ k₀ => XS.istore X148.here hx rfl (hb hby at_172) rfl (l' := #[.val (.int p1), .val (.int p2), .val (.int p3), .val (.int p4), .val (.int p5), .val (.int p6), .val (.int iv), .val (.int jv), .val (.int (p3 &&& (255 : Int32))), .val (.int (p4 &&& (255 : Int32))), .val (.int ((p5 &&& (2147483647 : Int32)) % (257 : Int32))), .val (.ref b64), .val (.ref b84), .val (.ref b64), .val (.ref b104), .val (.ref b125), .val (.int (1 : Int32))]) rfl k₀) ?_
            show F T148 (mkF m 174 #[.val (.int p1), .val (.int p2), .val (.int p3), .val (.int p4), .val (.int p5), .val (.int p6), .val (.int iv), .val (.int jv), .val (.int (p3 &&& (255 : Int32))), .val (.int (p4 &&& (255 : Int32))), .val (.int ((p5 &&& (2147483647 : Int32)) % (257 : Int32))), .val (.ref b64), .val (.ref b84), .val (.ref b64), .val (.ref b104), .val (.ref b125), .val (.int (1 : Int32))] [])
            refine hst (fun t₀ k₀ => XS.aload X148.here hx rfl (hb hby at_174) rfl rfl k₀) ?_
            show F T148 (mkF m 176 #[.val (.int p1), .val (.int p2), .val (.int p3), .val (.int p4), .val (.int p5), .val (.int p6), .val (.int iv), .val (.int jv), .val (.int (p3 &&& (255 : Int32))), .val (.int (p4 &&& (255 : Int32))), .val (.int ((p5 &&& (2147483647 : Int32)) % (257 : Int32))), .val (.ref b64), .val (.ref b84), .val (.ref b64), .val (.ref b104), .val (.ref b125), .val (.int (1 : Int32))] [(.ref b104)])
            obtain ⟨v176, T176, Lc176, X176, hQ176, st176⟩ := own_callV X148 hx hZ hown (y := (⟨"com/example/seamark/seamark/transport/CommandApdu", "isSelectByName", "()Z"⟩ : MethodName)) (hw _ (List.mem_of_getElem? (i := 45) rfl)) (hw _ (List.mem_of_getElem? (i := 46) rfl)) (hw _ (List.mem_of_getElem? (i := 48) rfl)) (hw _ (List.mem_of_getElem? (i := 47) rfl)) (hw _ (List.mem_of_getElem? (i := 4) rfl)) (hw _ (List.mem_of_getElem? (i := 49) rfl)) (by decide) rfl q1_120_p148 (rm4 l Z a0 hw [] b104 iv jv T148.heap n0 Z0_p148 q3_120_p148 q4_120_p148) (by decide) (by decide) (g := (mkF m 176 #[.val (.int p1), .val (.int p2), .val (.int p3), .val (.int p4), .val (.int p5), .val (.int p6), .val (.int iv), .val (.int jv), .val (.int (p3 &&& (255 : Int32))), .val (.int (p4 &&& (255 : Int32))), .val (.int ((p5 &&& (2147483647 : Int32)) % (257 : Int32))), .val (.ref b64), .val (.ref b84), .val (.ref b64), .val (.ref b104), .val (.ref b125), .val (.int (1 : Int32))] [(.ref b104)])) rfl (by rw [hml]; rfl) (argsL := []) (rest := []) (lenOf pd_2 rfl) rfl rfl (W := 0) (by show 2 * 0 + _ ≤ _; exact Nat.le_of_eq rfl) (hb hby at_176) (by decide) (by decide)
            obtain ⟨rfl, Nq176, he176⟩ := hQ176
            have N176 := Fr.app N148 Nq176
            refine hst st176 ?_
            show F T176 (mkF m 179 #[.val (.int p1), .val (.int p2), .val (.int p3), .val (.int p4), .val (.int p5), .val (.int p6), .val (.int iv), .val (.int jv), .val (.int (p3 &&& (255 : Int32))), .val (.int (p4 &&& (255 : Int32))), .val (.int ((p5 &&& (2147483647 : Int32)) % (257 : Int32))), .val (.ref b64), .val (.ref b84), .val (.ref b64), .val (.ref b104), .val (.ref b125), .val (.int (1 : Int32))] [(.int (own_sel iv jv))])
            refine hst (fun t₀ k₀ => XS.iload X176.here hx rfl (hb hby at_179) rfl k₀) ?_
            show F T176 (mkF m 181 #[.val (.int p1), .val (.int p2), .val (.int p3), .val (.int p4), .val (.int p5), .val (.int p6), .val (.int iv), .val (.int jv), .val (.int (p3 &&& (255 : Int32))), .val (.int (p4 &&& (255 : Int32))), .val (.int ((p5 &&& (2147483647 : Int32)) % (257 : Int32))), .val (.ref b64), .val (.ref b84), .val (.ref b64), .val (.ref b104), .val (.ref b125), .val (.int (1 : Int32))] [(.int (1 : Int32)), (.int (own_sel iv jv))])
            refine hst (fun t₀ k₀ => XS.icmpNo X176.here hx rfl (hb hby at_181) rfl (teq (by unfold own_sel; rw [if_pos hc158, if_pos hc164])).2 k₀) ?_
            show F T176 (mkF m 184 #[.val (.int p1), .val (.int p2), .val (.int p3), .val (.int p4), .val (.int p5), .val (.int p6), .val (.int iv), .val (.int jv), .val (.int (p3 &&& (255 : Int32))), .val (.int (p4 &&& (255 : Int32))), .val (.int ((p5 &&& (2147483647 : Int32)) % (257 : Int32))), .val (.ref b64), .val (.ref b84), .val (.ref b64), .val (.ref b104), .val (.ref b125), .val (.int (1 : Int32))] [])
            refine hst (fun t₀ k₀ => XS.aload X176.here hx rfl (hb hby at_184) rfl rfl k₀) ?_
            show F T176 (mkF m 186 #[.val (.int p1), .val (.int p2), .val (.int p3), .val (.int p4), .val (.int p5), .val (.int p6), .val (.int iv), .val (.int jv), .val (.int (p3 &&& (255 : Int32))), .val (.int (p4 &&& (255 : Int32))), .val (.int ((p5 &&& (2147483647 : Int32)) % (257 : Int32))), .val (.ref b64), .val (.ref b84), .val (.ref b64), .val (.ref b104), .val (.ref b125), .val (.int (1 : Int32))] [(.ref b125)])
            obtain ⟨v186, T186, Lc186, X186, hQ186, st186⟩ := own_callV X176 hx hZ hown (y := (⟨"com/example/seamark/seamark/transport/CommandApdu", "isSelectByName", "()Z"⟩ : MethodName)) (hw _ (List.mem_of_getElem? (i := 45) rfl)) (hw _ (List.mem_of_getElem? (i := 46) rfl)) (hw _ (List.mem_of_getElem? (i := 48) rfl)) (hw _ (List.mem_of_getElem? (i := 47) rfl)) (hw _ (List.mem_of_getElem? (i := 4) rfl)) (hw _ (List.mem_of_getElem? (i := 49) rfl)) (by decide) he176 q1_148 (rm4 l Z a0 hw [] b125 iv jv T148.heap n0 Z0_p148 q3_148 q4_148) (by decide) (by decide) (g := (mkF m 186 #[.val (.int p1), .val (.int p2), .val (.int p3), .val (.int p4), .val (.int p5), .val (.int p6), .val (.int iv), .val (.int jv), .val (.int (p3 &&& (255 : Int32))), .val (.int (p4 &&& (255 : Int32))), .val (.int ((p5 &&& (2147483647 : Int32)) % (257 : Int32))), .val (.ref b64), .val (.ref b84), .val (.ref b64), .val (.ref b104), .val (.ref b125), .val (.int (1 : Int32))] [(.ref b125)])) rfl (by rw [hml]; rfl) (argsL := []) (rest := []) (lenOf pd_2 rfl) rfl rfl (W := 0) (by show 2 * 0 + _ ≤ _; exact Nat.le_of_eq rfl) (hb hby at_186) (by decide) (by decide)
            obtain ⟨rfl, Nq186, he186⟩ := hQ186
            have N186 := Fr.app N176 Nq186
            refine hst st186 ?_
            show F T186 (mkF m 189 #[.val (.int p1), .val (.int p2), .val (.int p3), .val (.int p4), .val (.int p5), .val (.int p6), .val (.int iv), .val (.int jv), .val (.int (p3 &&& (255 : Int32))), .val (.int (p4 &&& (255 : Int32))), .val (.int ((p5 &&& (2147483647 : Int32)) % (257 : Int32))), .val (.ref b64), .val (.ref b84), .val (.ref b64), .val (.ref b104), .val (.ref b125), .val (.int (1 : Int32))] [(.int (own_sel iv jv))])
            refine hst (fun t₀ k₀ => XS.iload X186.here hx rfl (hb hby at_189) rfl k₀) ?_
            show F T186 (mkF m 191 #[.val (.int p1), .val (.int p2), .val (.int p3), .val (.int p4), .val (.int p5), .val (.int p6), .val (.int iv), .val (.int jv), .val (.int (p3 &&& (255 : Int32))), .val (.int (p4 &&& (255 : Int32))), .val (.int ((p5 &&& (2147483647 : Int32)) % (257 : Int32))), .val (.ref b64), .val (.ref b84), .val (.ref b64), .val (.ref b104), .val (.ref b125), .val (.int (1 : Int32))] [(.int (1 : Int32)), (.int (own_sel iv jv))])
            refine hst (fun t₀ k₀ => XS.icmpNo X186.here hx rfl (hb hby at_191) rfl (teq (by unfold own_sel; rw [if_pos hc158, if_pos hc164])).2 k₀) ?_
            show F T186 (mkF m 194 #[.val (.int p1), .val (.int p2), .val (.int p3), .val (.int p4), .val (.int p5), .val (.int p6), .val (.int iv), .val (.int jv), .val (.int (p3 &&& (255 : Int32))), .val (.int (p4 &&& (255 : Int32))), .val (.int ((p5 &&& (2147483647 : Int32)) % (257 : Int32))), .val (.ref b64), .val (.ref b84), .val (.ref b64), .val (.ref b104), .val (.ref b125), .val (.int (1 : Int32))] [])
            refine hst (fun t₀ k₀ => XS.iconst X186.here hx rfl (hb hby at_194) k₀) ?_
            show F T186 (mkF m 195 #[.val (.int p1), .val (.int p2), .val (.int p3), .val (.int p4), .val (.int p5), .val (.int p6), .val (.int iv), .val (.int jv), .val (.int (p3 &&& (255 : Int32))), .val (.int (p4 &&& (255 : Int32))), .val (.int ((p5 &&& (2147483647 : Int32)) % (257 : Int32))), .val (.ref b64), .val (.ref b84), .val (.ref b64), .val (.ref b104), .val (.ref b125), .val (.int (1 : Int32))] [(.int (1 : Int32))])
            refine hst (fun t₀ k₀ => XS.goto X186.here hx rfl (pc0 := 195) (pc' := 199) rfl (hb hby at_195) (by decide) (by decide) k₀) ?_
            show F T186 (mkF m 199 #[.val (.int p1), .val (.int p2), .val (.int p3), .val (.int p4), .val (.int p5), .val (.int p6), .val (.int iv), .val (.int jv), .val (.int (p3 &&& (255 : Int32))), .val (.int (p4 &&& (255 : Int32))), .val (.int ((p5 &&& (2147483647 : Int32)) % (257 : Int32))), .val (.ref b64), .val (.ref b84), .val (.ref b64), .val (.ref b104), .val (.ref b125), .val (.int (1 : Int32))] [(.int (1 : Int32))])
            rw [hF]
            refine own_retNW X186 hS148 (by rw [he186]; exact (Nat.le_refl _)) hx hret (by simp) hlk (hb hby at_199) (by decide) (by decide) ?_
            rw [he186]
            exact ⟨rfl, N186⟩
          · -- pc 164: taken
            refine hst (fun t₀ k₀ => XS.icmpYes X148.here hx rfl (pc0 := 164) (pc' := 171) rfl (hb hby at_164) rfl (feq hc164).2 (by decide) (by decide) k₀) ?_
            show F T148 (mkF m 171 #[.val (.int p1), .val (.int p2), .val (.int p3), .val (.int p4), .val (.int p5), .val (.int p6), .val (.int iv), .val (.int jv), .val (.int (p3 &&& (255 : Int32))), .val (.int (p4 &&& (255 : Int32))), .val (.int ((p5 &&& (2147483647 : Int32)) % (257 : Int32))), .val (.ref b64), .val (.ref b84), .val (.ref b64), .val (.ref b104), .val (.ref b125), .unset] [])
            refine hst (fun t₀ k₀ => XS.iconst X148.here hx rfl (hb hby at_171) k₀) ?_
            show F T148 (mkF m 172 #[.val (.int p1), .val (.int p2), .val (.int p3), .val (.int p4), .val (.int p5), .val (.int p6), .val (.int iv), .val (.int jv), .val (.int (p3 &&& (255 : Int32))), .val (.int (p4 &&& (255 : Int32))), .val (.int ((p5 &&& (2147483647 : Int32)) % (257 : Int32))), .val (.ref b64), .val (.ref b84), .val (.ref b64), .val (.ref b104), .val (.ref b125), .unset] [(.int (0 : Int32))])
            refine hst (fun t₀ k₀ => XS.istore X148.here hx rfl (hb hby at_172) rfl (l' := #[.val (.int p1), .val (.int p2), .val (.int p3), .val (.int p4), .val (.int p5), .val (.int p6), .val (.int iv), .val (.int jv), .val (.int (p3 &&& (255 : Int32))), .val (.int (p4 &&& (255 : Int32))), .val (.int ((p5 &&& (2147483647 : Int32)) % (257 : Int32))), .val (.ref b64), .val (.ref b84), .val (.ref b64), .val (.ref b104), .val (.ref b125), .val (.int (0 : Int32))]) rfl k₀) ?_
            show F T148 (mkF m 174 #[.val (.int p1), .val (.int p2), .val (.int p3), .val (.int p4), .val (.int p5), .val (.int p6), .val (.int iv), .val (.int jv), .val (.int (p3 &&& (255 : Int32))), .val (.int (p4 &&& (255 : Int32))), .val (.int ((p5 &&& (2147483647 : Int32)) % (257 : Int32))), .val (.ref b64), .val (.ref b84), .val (.ref b64), .val (.ref b104), .val (.ref b125), .val (.int (0 : Int32))] [])
            refine hst (fun t₀ k₀ => XS.aload X148.here hx rfl (hb hby at_174) rfl rfl k₀) ?_
            show F T148 (mkF m 176 #[.val (.int p1), .val (.int p2), .val (.int p3), .val (.int p4), .val (.int p5), .val (.int p6), .val (.int iv), .val (.int jv), .val (.int (p3 &&& (255 : Int32))), .val (.int (p4 &&& (255 : Int32))), .val (.int ((p5 &&& (2147483647 : Int32)) % (257 : Int32))), .val (.ref b64), .val (.ref b84), .val (.ref b64), .val (.ref b104), .val (.ref b125), .val (.int (0 : Int32))] [(.ref b104)])
            obtain ⟨v176, T176, Lc176, X176, hQ176, st176⟩ := own_callV X148 hx hZ hown (y := (⟨"com/example/seamark/seamark/transport/CommandApdu", "isSelectByName", "()Z"⟩ : MethodName)) (hw _ (List.mem_of_getElem? (i := 45) rfl)) (hw _ (List.mem_of_getElem? (i := 46) rfl)) (hw _ (List.mem_of_getElem? (i := 48) rfl)) (hw _ (List.mem_of_getElem? (i := 47) rfl)) (hw _ (List.mem_of_getElem? (i := 4) rfl)) (hw _ (List.mem_of_getElem? (i := 49) rfl)) (by decide) rfl q1_120_p148 (rm4 l Z a0 hw [] b104 iv jv T148.heap n0 Z0_p148 q3_120_p148 q4_120_p148) (by decide) (by decide) (g := (mkF m 176 #[.val (.int p1), .val (.int p2), .val (.int p3), .val (.int p4), .val (.int p5), .val (.int p6), .val (.int iv), .val (.int jv), .val (.int (p3 &&& (255 : Int32))), .val (.int (p4 &&& (255 : Int32))), .val (.int ((p5 &&& (2147483647 : Int32)) % (257 : Int32))), .val (.ref b64), .val (.ref b84), .val (.ref b64), .val (.ref b104), .val (.ref b125), .val (.int (0 : Int32))] [(.ref b104)])) rfl (by rw [hml]; rfl) (argsL := []) (rest := []) (lenOf pd_2 rfl) rfl rfl (W := 0) (by show 2 * 0 + _ ≤ _; exact Nat.le_of_eq rfl) (hb hby at_176) (by decide) (by decide)
            obtain ⟨rfl, Nq176, he176⟩ := hQ176
            have N176 := Fr.app N148 Nq176
            refine hst st176 ?_
            show F T176 (mkF m 179 #[.val (.int p1), .val (.int p2), .val (.int p3), .val (.int p4), .val (.int p5), .val (.int p6), .val (.int iv), .val (.int jv), .val (.int (p3 &&& (255 : Int32))), .val (.int (p4 &&& (255 : Int32))), .val (.int ((p5 &&& (2147483647 : Int32)) % (257 : Int32))), .val (.ref b64), .val (.ref b84), .val (.ref b64), .val (.ref b104), .val (.ref b125), .val (.int (0 : Int32))] [(.int (own_sel iv jv))])
            refine hst (fun t₀ k₀ => XS.iload X176.here hx rfl (hb hby at_179) rfl k₀) ?_
            show F T176 (mkF m 181 #[.val (.int p1), .val (.int p2), .val (.int p3), .val (.int p4), .val (.int p5), .val (.int p6), .val (.int iv), .val (.int jv), .val (.int (p3 &&& (255 : Int32))), .val (.int (p4 &&& (255 : Int32))), .val (.int ((p5 &&& (2147483647 : Int32)) % (257 : Int32))), .val (.ref b64), .val (.ref b84), .val (.ref b64), .val (.ref b104), .val (.ref b125), .val (.int (0 : Int32))] [(.int (0 : Int32)), (.int (own_sel iv jv))])
            refine hst (fun t₀ k₀ => XS.icmpNo X176.here hx rfl (hb hby at_181) rfl (teq (by unfold own_sel; rw [if_pos hc158, if_neg hc164])).2 k₀) ?_
            show F T176 (mkF m 184 #[.val (.int p1), .val (.int p2), .val (.int p3), .val (.int p4), .val (.int p5), .val (.int p6), .val (.int iv), .val (.int jv), .val (.int (p3 &&& (255 : Int32))), .val (.int (p4 &&& (255 : Int32))), .val (.int ((p5 &&& (2147483647 : Int32)) % (257 : Int32))), .val (.ref b64), .val (.ref b84), .val (.ref b64), .val (.ref b104), .val (.ref b125), .val (.int (0 : Int32))] [])
            refine hst (fun t₀ k₀ => XS.aload X176.here hx rfl (hb hby at_184) rfl rfl k₀) ?_
            show F T176 (mkF m 186 #[.val (.int p1), .val (.int p2), .val (.int p3), .val (.int p4), .val (.int p5), .val (.int p6), .val (.int iv), .val (.int jv), .val (.int (p3 &&& (255 : Int32))), .val (.int (p4 &&& (255 : Int32))), .val (.int ((p5 &&& (2147483647 : Int32)) % (257 : Int32))), .val (.ref b64), .val (.ref b84), .val (.ref b64), .val (.ref b104), .val (.ref b125), .val (.int (0 : Int32))] [(.ref b125)])
            obtain ⟨v186, T186, Lc186, X186, hQ186, st186⟩ := own_callV X176 hx hZ hown (y := (⟨"com/example/seamark/seamark/transport/CommandApdu", "isSelectByName", "()Z"⟩ : MethodName)) (hw _ (List.mem_of_getElem? (i := 45) rfl)) (hw _ (List.mem_of_getElem? (i := 46) rfl)) (hw _ (List.mem_of_getElem? (i := 48) rfl)) (hw _ (List.mem_of_getElem? (i := 47) rfl)) (hw _ (List.mem_of_getElem? (i := 4) rfl)) (hw _ (List.mem_of_getElem? (i := 49) rfl)) (by decide) he176 q1_148 (rm4 l Z a0 hw [] b125 iv jv T148.heap n0 Z0_p148 q3_148 q4_148) (by decide) (by decide) (g := (mkF m 186 #[.val (.int p1), .val (.int p2), .val (.int p3), .val (.int p4), .val (.int p5), .val (.int p6), .val (.int iv), .val (.int jv), .val (.int (p3 &&& (255 : Int32))), .val (.int (p4 &&& (255 : Int32))), .val (.int ((p5 &&& (2147483647 : Int32)) % (257 : Int32))), .val (.ref b64), .val (.ref b84), .val (.ref b64), .val (.ref b104), .val (.ref b125), .val (.int (0 : Int32))] [(.ref b125)])) rfl (by rw [hml]; rfl) (argsL := []) (rest := []) (lenOf pd_2 rfl) rfl rfl (W := 0) (by show 2 * 0 + _ ≤ _; exact Nat.le_of_eq rfl) (hb hby at_186) (by decide) (by decide)
            obtain ⟨rfl, Nq186, he186⟩ := hQ186
            have N186 := Fr.app N176 Nq186
            refine hst st186 ?_
            show F T186 (mkF m 189 #[.val (.int p1), .val (.int p2), .val (.int p3), .val (.int p4), .val (.int p5), .val (.int p6), .val (.int iv), .val (.int jv), .val (.int (p3 &&& (255 : Int32))), .val (.int (p4 &&& (255 : Int32))), .val (.int ((p5 &&& (2147483647 : Int32)) % (257 : Int32))), .val (.ref b64), .val (.ref b84), .val (.ref b64), .val (.ref b104), .val (.ref b125), .val (.int (0 : Int32))] [(.int (own_sel iv jv))])
            refine hst (fun t₀ k₀ => XS.iload X186.here hx rfl (hb hby at_189) rfl k₀) ?_
            show F T186 (mkF m 191 #[.val (.int p1), .val (.int p2), .val (.int p3), .val (.int p4), .val (.int p5), .val (.int p6), .val (.int iv), .val (.int jv), .val (.int (p3 &&& (255 : Int32))), .val (.int (p4 &&& (255 : Int32))), .val (.int ((p5 &&& (2147483647 : Int32)) % (257 : Int32))), .val (.ref b64), .val (.ref b84), .val (.ref b64), .val (.ref b104), .val (.ref b125), .val (.int (0 : Int32))] [(.int (0 : Int32)), (.int (own_sel iv jv))])
            refine hst (fun t₀ k₀ => XS.icmpNo X186.here hx rfl (hb hby at_191) rfl (teq (by unfold own_sel; rw [if_pos hc158, if_neg hc164])).2 k₀) ?_
            show F T186 (mkF m 194 #[.val (.int p1), .val (.int p2), .val (.int p3), .val (.int p4), .val (.int p5), .val (.int p6), .val (.int iv), .val (.int jv), .val (.int (p3 &&& (255 : Int32))), .val (.int (p4 &&& (255 : Int32))), .val (.int ((p5 &&& (2147483647 : Int32)) % (257 : Int32))), .val (.ref b64), .val (.ref b84), .val (.ref b64), .val (.ref b104), .val (.ref b125), .val (.int (0 : Int32))] [])
            refine hst (fun t₀ k₀ => XS.iconst X186.here hx rfl (hb hby at_194) k₀) ?_
            show F T186 (mkF m 195 #[.val (.int p1), .val (.int p2), .val (.int p3), .val (.int p4), .val (.int p5), .val (.int p6), .val (.int iv), .val (.int jv), .val (.int (p3 &&& (255 : Int32))), .val (.int (p4 &&& (255 : Int32))), .val (.int ((p5 &&& (2147483647 : Int32)) % (257 : Int32))), .val (.ref b64), .val (.ref b84), .val (.ref b64), .val (.ref b104), .val (.ref b125), .val (.int (0 : Int32))] [(.int (1 : Int32))])
            refine hst (fun t₀ k₀ => XS.goto X186.here hx rfl (pc0 := 195) (pc' := 199) rfl (hb hby at_195) (by decide) (by decide) k₀) ?_
            show F T186 (mkF m 199 #[.val (.int p1), .val (.int p2), .val (.int p3), .val (.int p4), .val (.int p5), .val (.int p6), .val (.int iv), .val (.int jv), .val (.int (p3 &&& (255 : Int32))), .val (.int (p4 &&& (255 : Int32))), .val (.int ((p5 &&& (2147483647 : Int32)) % (257 : Int32))), .val (.ref b64), .val (.ref b84), .val (.ref b64), .val (.ref b104), .val (.ref b125), .val (.int (0 : Int32))] [(.int (1 : Int32))])
            rw [hF]
            refine own_retNW X186 hS148 (by rw [he186]; exact (Nat.le_refl _)) hx hret (by simp) hlk (hb hby at_199) (by decide) (by decide) ?_
            rw [he186]
            exact ⟨rfl, N186⟩
        · -- pc 158: taken
          refine hst (fun t₀ k₀ => XS.icmpYes X148.here hx rfl (pc0 := 158) (pc' := 171) rfl (hb hby at_158) rfl (feq hc158).2 (by decide) (by decide) k₀) ?_
          show F T148 (mkF m 171 #[.val (.int p1), .val (.int p2), .val (.int p3), .val (.int p4), .val (.int p5), .val (.int p6), .val (.int iv), .val (.int jv), .val (.int (p3 &&& (255 : Int32))), .val (.int (p4 &&& (255 : Int32))), .val (.int ((p5 &&& (2147483647 : Int32)) % (257 : Int32))), .val (.ref b64), .val (.ref b84), .val (.ref b64), .val (.ref b104), .val (.ref b125), .unset] [])
          refine hst (fun t₀ k₀ => XS.iconst X148.here hx rfl (hb hby at_171) k₀) ?_
          show F T148 (mkF m 172 #[.val (.int p1), .val (.int p2), .val (.int p3), .val (.int p4), .val (.int p5), .val (.int p6), .val (.int iv), .val (.int jv), .val (.int (p3 &&& (255 : Int32))), .val (.int (p4 &&& (255 : Int32))), .val (.int ((p5 &&& (2147483647 : Int32)) % (257 : Int32))), .val (.ref b64), .val (.ref b84), .val (.ref b64), .val (.ref b104), .val (.ref b125), .unset] [(.int (0 : Int32))])
          refine hst (fun t₀ k₀ => XS.istore X148.here hx rfl (hb hby at_172) rfl (l' := #[.val (.int p1), .val (.int p2), .val (.int p3), .val (.int p4), .val (.int p5), .val (.int p6), .val (.int iv), .val (.int jv), .val (.int (p3 &&& (255 : Int32))), .val (.int (p4 &&& (255 : Int32))), .val (.int ((p5 &&& (2147483647 : Int32)) % (257 : Int32))), .val (.ref b64), .val (.ref b84), .val (.ref b64), .val (.ref b104), .val (.ref b125), .val (.int (0 : Int32))]) rfl k₀) ?_
          show F T148 (mkF m 174 #[.val (.int p1), .val (.int p2), .val (.int p3), .val (.int p4), .val (.int p5), .val (.int p6), .val (.int iv), .val (.int jv), .val (.int (p3 &&& (255 : Int32))), .val (.int (p4 &&& (255 : Int32))), .val (.int ((p5 &&& (2147483647 : Int32)) % (257 : Int32))), .val (.ref b64), .val (.ref b84), .val (.ref b64), .val (.ref b104), .val (.ref b125), .val (.int (0 : Int32))] [])
          refine hst (fun t₀ k₀ => XS.aload X148.here hx rfl (hb hby at_174) rfl rfl k₀) ?_
          show F T148 (mkF m 176 #[.val (.int p1), .val (.int p2), .val (.int p3), .val (.int p4), .val (.int p5), .val (.int p6), .val (.int iv), .val (.int jv), .val (.int (p3 &&& (255 : Int32))), .val (.int (p4 &&& (255 : Int32))), .val (.int ((p5 &&& (2147483647 : Int32)) % (257 : Int32))), .val (.ref b64), .val (.ref b84), .val (.ref b64), .val (.ref b104), .val (.ref b125), .val (.int (0 : Int32))] [(.ref b104)])
          obtain ⟨v176, T176, Lc176, X176, hQ176, st176⟩ := own_callV X148 hx hZ hown (y := (⟨"com/example/seamark/seamark/transport/CommandApdu", "isSelectByName", "()Z"⟩ : MethodName)) (hw _ (List.mem_of_getElem? (i := 45) rfl)) (hw _ (List.mem_of_getElem? (i := 46) rfl)) (hw _ (List.mem_of_getElem? (i := 48) rfl)) (hw _ (List.mem_of_getElem? (i := 47) rfl)) (hw _ (List.mem_of_getElem? (i := 4) rfl)) (hw _ (List.mem_of_getElem? (i := 49) rfl)) (by decide) rfl q1_120_p148 (rm4 l Z a0 hw [] b104 iv jv T148.heap n0 Z0_p148 q3_120_p148 q4_120_p148) (by decide) (by decide) (g := (mkF m 176 #[.val (.int p1), .val (.int p2), .val (.int p3), .val (.int p4), .val (.int p5), .val (.int p6), .val (.int iv), .val (.int jv), .val (.int (p3 &&& (255 : Int32))), .val (.int (p4 &&& (255 : Int32))), .val (.int ((p5 &&& (2147483647 : Int32)) % (257 : Int32))), .val (.ref b64), .val (.ref b84), .val (.ref b64), .val (.ref b104), .val (.ref b125), .val (.int (0 : Int32))] [(.ref b104)])) rfl (by rw [hml]; rfl) (argsL := []) (rest := []) (lenOf pd_2 rfl) rfl rfl (W := 0) (by show 2 * 0 + _ ≤ _; exact Nat.le_of_eq rfl) (hb hby at_176) (by decide) (by decide)
          obtain ⟨rfl, Nq176, he176⟩ := hQ176
          have N176 := Fr.app N148 Nq176
          refine hst st176 ?_
          show F T176 (mkF m 179 #[.val (.int p1), .val (.int p2), .val (.int p3), .val (.int p4), .val (.int p5), .val (.int p6), .val (.int iv), .val (.int jv), .val (.int (p3 &&& (255 : Int32))), .val (.int (p4 &&& (255 : Int32))), .val (.int ((p5 &&& (2147483647 : Int32)) % (257 : Int32))), .val (.ref b64), .val (.ref b84), .val (.ref b64), .val (.ref b104), .val (.ref b125), .val (.int (0 : Int32))] [(.int (own_sel iv jv))])
          refine hst (fun t₀ k₀ => XS.iload X176.here hx rfl (hb hby at_179) rfl k₀) ?_
          show F T176 (mkF m 181 #[.val (.int p1), .val (.int p2), .val (.int p3), .val (.int p4), .val (.int p5), .val (.int p6), .val (.int iv), .val (.int jv), .val (.int (p3 &&& (255 : Int32))), .val (.int (p4 &&& (255 : Int32))), .val (.int ((p5 &&& (2147483647 : Int32)) % (257 : Int32))), .val (.ref b64), .val (.ref b84), .val (.ref b64), .val (.ref b104), .val (.ref b125), .val (.int (0 : Int32))] [(.int (0 : Int32)), (.int (own_sel iv jv))])
          refine hst (fun t₀ k₀ => XS.icmpNo X176.here hx rfl (hb hby at_181) rfl (teq (by unfold own_sel; rw [if_neg hc158])).2 k₀) ?_
          show F T176 (mkF m 184 #[.val (.int p1), .val (.int p2), .val (.int p3), .val (.int p4), .val (.int p5), .val (.int p6), .val (.int iv), .val (.int jv), .val (.int (p3 &&& (255 : Int32))), .val (.int (p4 &&& (255 : Int32))), .val (.int ((p5 &&& (2147483647 : Int32)) % (257 : Int32))), .val (.ref b64), .val (.ref b84), .val (.ref b64), .val (.ref b104), .val (.ref b125), .val (.int (0 : Int32))] [])
          refine hst (fun t₀ k₀ => XS.aload X176.here hx rfl (hb hby at_184) rfl rfl k₀) ?_
          show F T176 (mkF m 186 #[.val (.int p1), .val (.int p2), .val (.int p3), .val (.int p4), .val (.int p5), .val (.int p6), .val (.int iv), .val (.int jv), .val (.int (p3 &&& (255 : Int32))), .val (.int (p4 &&& (255 : Int32))), .val (.int ((p5 &&& (2147483647 : Int32)) % (257 : Int32))), .val (.ref b64), .val (.ref b84), .val (.ref b64), .val (.ref b104), .val (.ref b125), .val (.int (0 : Int32))] [(.ref b125)])
          obtain ⟨v186, T186, Lc186, X186, hQ186, st186⟩ := own_callV X176 hx hZ hown (y := (⟨"com/example/seamark/seamark/transport/CommandApdu", "isSelectByName", "()Z"⟩ : MethodName)) (hw _ (List.mem_of_getElem? (i := 45) rfl)) (hw _ (List.mem_of_getElem? (i := 46) rfl)) (hw _ (List.mem_of_getElem? (i := 48) rfl)) (hw _ (List.mem_of_getElem? (i := 47) rfl)) (hw _ (List.mem_of_getElem? (i := 4) rfl)) (hw _ (List.mem_of_getElem? (i := 49) rfl)) (by decide) he176 q1_148 (rm4 l Z a0 hw [] b125 iv jv T148.heap n0 Z0_p148 q3_148 q4_148) (by decide) (by decide) (g := (mkF m 186 #[.val (.int p1), .val (.int p2), .val (.int p3), .val (.int p4), .val (.int p5), .val (.int p6), .val (.int iv), .val (.int jv), .val (.int (p3 &&& (255 : Int32))), .val (.int (p4 &&& (255 : Int32))), .val (.int ((p5 &&& (2147483647 : Int32)) % (257 : Int32))), .val (.ref b64), .val (.ref b84), .val (.ref b64), .val (.ref b104), .val (.ref b125), .val (.int (0 : Int32))] [(.ref b125)])) rfl (by rw [hml]; rfl) (argsL := []) (rest := []) (lenOf pd_2 rfl) rfl rfl (W := 0) (by show 2 * 0 + _ ≤ _; exact Nat.le_of_eq rfl) (hb hby at_186) (by decide) (by decide)
          obtain ⟨rfl, Nq186, he186⟩ := hQ186
          have N186 := Fr.app N176 Nq186
          refine hst st186 ?_
          show F T186 (mkF m 189 #[.val (.int p1), .val (.int p2), .val (.int p3), .val (.int p4), .val (.int p5), .val (.int p6), .val (.int iv), .val (.int jv), .val (.int (p3 &&& (255 : Int32))), .val (.int (p4 &&& (255 : Int32))), .val (.int ((p5 &&& (2147483647 : Int32)) % (257 : Int32))), .val (.ref b64), .val (.ref b84), .val (.ref b64), .val (.ref b104), .val (.ref b125), .val (.int (0 : Int32))] [(.int (own_sel iv jv))])
          refine hst (fun t₀ k₀ => XS.iload X186.here hx rfl (hb hby at_189) rfl k₀) ?_
          show F T186 (mkF m 191 #[.val (.int p1), .val (.int p2), .val (.int p3), .val (.int p4), .val (.int p5), .val (.int p6), .val (.int iv), .val (.int jv), .val (.int (p3 &&& (255 : Int32))), .val (.int (p4 &&& (255 : Int32))), .val (.int ((p5 &&& (2147483647 : Int32)) % (257 : Int32))), .val (.ref b64), .val (.ref b84), .val (.ref b64), .val (.ref b104), .val (.ref b125), .val (.int (0 : Int32))] [(.int (0 : Int32)), (.int (own_sel iv jv))])
          refine hst (fun t₀ k₀ => XS.icmpNo X186.here hx rfl (hb hby at_191) rfl (teq (by unfold own_sel; rw [if_neg hc158])).2 k₀) ?_
          show F T186 (mkF m 194 #[.val (.int p1), .val (.int p2), .val (.int p3), .val (.int p4), .val (.int p5), .val (.int p6), .val (.int iv), .val (.int jv), .val (.int (p3 &&& (255 : Int32))), .val (.int (p4 &&& (255 : Int32))), .val (.int ((p5 &&& (2147483647 : Int32)) % (257 : Int32))), .val (.ref b64), .val (.ref b84), .val (.ref b64), .val (.ref b104), .val (.ref b125), .val (.int (0 : Int32))] [])
          refine hst (fun t₀ k₀ => XS.iconst X186.here hx rfl (hb hby at_194) k₀) ?_
          show F T186 (mkF m 195 #[.val (.int p1), .val (.int p2), .val (.int p3), .val (.int p4), .val (.int p5), .val (.int p6), .val (.int iv), .val (.int jv), .val (.int (p3 &&& (255 : Int32))), .val (.int (p4 &&& (255 : Int32))), .val (.int ((p5 &&& (2147483647 : Int32)) % (257 : Int32))), .val (.ref b64), .val (.ref b84), .val (.ref b64), .val (.ref b104), .val (.ref b125), .val (.int (0 : Int32))] [(.int (1 : Int32))])
          refine hst (fun t₀ k₀ => XS.goto X186.here hx rfl (pc0 := 195) (pc' := 199) rfl (hb hby at_195) (by decide) (by decide) k₀) ?_
          show F T186 (mkF m 199 #[.val (.int p1), .val (.int p2), .val (.int p3), .val (.int p4), .val (.int p5), .val (.int p6), .val (.int iv), .val (.int jv), .val (.int (p3 &&& (255 : Int32))), .val (.int (p4 &&& (255 : Int32))), .val (.int ((p5 &&& (2147483647 : Int32)) % (257 : Int32))), .val (.ref b64), .val (.ref b84), .val (.ref b64), .val (.ref b104), .val (.ref b125), .val (.int (0 : Int32))] [(.int (1 : Int32))])
          rw [hF]
          refine own_retNW X186 hS148 (by rw [he186]; exact (Nat.le_refl _)) hx hret (by simp) hlk (hb hby at_199) (by decide) (by decide) ?_
          rw [he186]
          exact ⟨rfl, N186⟩
    by_cases hc24 : (p6 &&& (2 : Int32)) = (0 : Int32)
    · -- pc 24: taken
      refine hst (fun t₀ k₀ => XS.ifYes XI.here hx rfl (pc0 := 24) (pc' := 31) rfl (hb hby at_24) rfl ((if0 _ _).trans (teq hc24).1) (by decide) (by decide) k₀) ?_
      show F s₁ (mkF m 31 #[.val (.int p1), .val (.int p2), .val (.int p3), .val (.int p4), .val (.int p5), .val (.int p6), .val (.int iv), .unset, .unset, .unset, .unset, .unset, .unset, .unset, .unset, .unset, .unset] [])
      refine hst (fun t₀ k₀ => XS.iloadN XI.here hx rfl (hb hby at_31) rfl k₀) ?_
      show F s₁ (mkF m 32 #[.val (.int p1), .val (.int p2), .val (.int p3), .val (.int p4), .val (.int p5), .val (.int p6), .val (.int iv), .unset, .unset, .unset, .unset, .unset, .unset, .unset, .unset, .unset, .unset] [(.int p2)])
      refine hst (fun t₀ k₀ => XS.sipush XI.here hx rfl (hb hby at_32) k₀) ?_
      show F s₁ (mkF m 35 #[.val (.int p1), .val (.int p2), .val (.int p3), .val (.int p4), .val (.int p5), .val (.int p6), .val (.int iv), .unset, .unset, .unset, .unset, .unset, .unset, .unset, .unset, .unset, .unset] [(.int (255 : Int32)), (.int p2)])
      refine hst (fun t₀ k₀ => XS.iand XI.here hx rfl (hb hby at_35) rfl k₀) ?_
      show F s₁ (mkF m 36 #[.val (.int p1), .val (.int p2), .val (.int p3), .val (.int p4), .val (.int p5), .val (.int p6), .val (.int iv), .unset, .unset, .unset, .unset, .unset, .unset, .unset, .unset, .unset, .unset] [(.int (p2 &&& (255 : Int32)))])
      refine hst (fun t₀ k₀ => XS.istore XI.here hx rfl (hb hby at_36) rfl (l' := #[.val (.int p1), .val (.int p2), .val (.int p3), .val (.int p4), .val (.int p5), .val (.int p6), .val (.int iv), .val (.int (p2 &&& (255 : Int32))), .unset, .unset, .unset, .unset, .unset, .unset, .unset, .unset, .unset]) rfl k₀) ?_
      show F s₁ (mkF m 38 #[.val (.int p1), .val (.int p2), .val (.int p3), .val (.int p4), .val (.int p5), .val (.int p6), .val (.int iv), .val (.int (p2 &&& (255 : Int32))), .unset, .unset, .unset, .unset, .unset, .unset, .unset, .unset, .unset] [])
      exact J38 (p2 &&& (255 : Int32)) (own_in255 _)
    · -- pc 24: not taken
      refine hst (fun t₀ k₀ => XS.ifNo XI.here hx rfl (hb hby at_24) rfl ((if0 _ _).trans (feq hc24).1) k₀) ?_
      show F s₁ (mkF m 27 #[.val (.int p1), .val (.int p2), .val (.int p3), .val (.int p4), .val (.int p5), .val (.int p6), .val (.int iv), .unset, .unset, .unset, .unset, .unset, .unset, .unset, .unset, .unset, .unset] [])
      refine hst (fun t₀ k₀ => XS.iconst XI.here hx rfl (hb hby at_27) k₀) ?_
      show F s₁ (mkF m 28 #[.val (.int p1), .val (.int p2), .val (.int p3), .val (.int p4), .val (.int p5), .val (.int p6), .val (.int iv), .unset, .unset, .unset, .unset, .unset, .unset, .unset, .unset, .unset, .unset] [(.int (4 : Int32))])
      refine hst (fun t₀ k₀ => XS.goto XI.here hx rfl (pc0 := 28) (pc' := 36) rfl (hb hby at_28) (by decide) (by decide) k₀) ?_
      show F s₁ (mkF m 36 #[.val (.int p1), .val (.int p2), .val (.int p3), .val (.int p4), .val (.int p5), .val (.int p6), .val (.int iv), .unset, .unset, .unset, .unset, .unset, .unset, .unset, .unset, .unset, .unset] [(.int (4 : Int32))])
      refine hst (fun t₀ k₀ => XS.istore XI.here hx rfl (hb hby at_36) rfl (l' := #[.val (.int p1), .val (.int p2), .val (.int p3), .val (.int p4), .val (.int p5), .val (.int p6), .val (.int iv), .val (.int (4 : Int32)), .unset, .unset, .unset, .unset, .unset, .unset, .unset, .unset, .unset]) rfl k₀) ?_
      show F s₁ (mkF m 38 #[.val (.int p1), .val (.int p2), .val (.int p3), .val (.int p4), .val (.int p5), .val (.int p6), .val (.int iv), .val (.int (4 : Int32)), .unset, .unset, .unset, .unset, .unset, .unset, .unset, .unset, .unset] [])
      exact J38 (4 : Int32) (by unfold own_in; decide)
  by_cases hc4 : (p6 &&& (1 : Int32)) = (0 : Int32)
  · -- pc 4: taken
    refine hst (fun t₀ k₀ => XS.ifYes XI.here hx rfl (pc0 := 4) (pc' := 13) rfl (hb hby at_4) rfl ((if0 _ _).trans (teq hc4).1) (by decide) (by decide) k₀) ?_
    show F s₁ (mkF m 13 #[.val (.int p1), .val (.int p2), .val (.int p3), .val (.int p4), .val (.int p5), .val (.int p6), .unset, .unset, .unset, .unset, .unset, .unset, .unset, .unset, .unset, .unset, .unset] [])
    refine hst (fun t₀ k₀ => XS.iloadN XI.here hx rfl (hb hby at_13) rfl k₀) ?_
    show F s₁ (mkF m 14 #[.val (.int p1), .val (.int p2), .val (.int p3), .val (.int p4), .val (.int p5), .val (.int p6), .unset, .unset, .unset, .unset, .unset, .unset, .unset, .unset, .unset, .unset, .unset] [(.int p1)])
    refine hst (fun t₀ k₀ => XS.sipush XI.here hx rfl (hb hby at_14) k₀) ?_
    show F s₁ (mkF m 17 #[.val (.int p1), .val (.int p2), .val (.int p3), .val (.int p4), .val (.int p5), .val (.int p6), .unset, .unset, .unset, .unset, .unset, .unset, .unset, .unset, .unset, .unset, .unset] [(.int (255 : Int32)), (.int p1)])
    refine hst (fun t₀ k₀ => XS.iand XI.here hx rfl (hb hby at_17) rfl k₀) ?_
    show F s₁ (mkF m 18 #[.val (.int p1), .val (.int p2), .val (.int p3), .val (.int p4), .val (.int p5), .val (.int p6), .unset, .unset, .unset, .unset, .unset, .unset, .unset, .unset, .unset, .unset, .unset] [(.int (p1 &&& (255 : Int32)))])
    refine hst (fun t₀ k₀ => XS.istore XI.here hx rfl (hb hby at_18) rfl (l' := #[.val (.int p1), .val (.int p2), .val (.int p3), .val (.int p4), .val (.int p5), .val (.int p6), .val (.int (p1 &&& (255 : Int32))), .unset, .unset, .unset, .unset, .unset, .unset, .unset, .unset, .unset, .unset]) rfl k₀) ?_
    show F s₁ (mkF m 20 #[.val (.int p1), .val (.int p2), .val (.int p3), .val (.int p4), .val (.int p5), .val (.int p6), .val (.int (p1 &&& (255 : Int32))), .unset, .unset, .unset, .unset, .unset, .unset, .unset, .unset, .unset, .unset] [])
    exact J20 (p1 &&& (255 : Int32)) (own_in255 _)
  · -- pc 4: not taken
    refine hst (fun t₀ k₀ => XS.ifNo XI.here hx rfl (hb hby at_4) rfl ((if0 _ _).trans (feq hc4).1) k₀) ?_
    show F s₁ (mkF m 7 #[.val (.int p1), .val (.int p2), .val (.int p3), .val (.int p4), .val (.int p5), .val (.int p6), .unset, .unset, .unset, .unset, .unset, .unset, .unset, .unset, .unset, .unset, .unset] [])
    refine hst (fun t₀ k₀ => XS.sipush XI.here hx rfl (hb hby at_7) k₀) ?_
    show F s₁ (mkF m 10 #[.val (.int p1), .val (.int p2), .val (.int p3), .val (.int p4), .val (.int p5), .val (.int p6), .unset, .unset, .unset, .unset, .unset, .unset, .unset, .unset, .unset, .unset, .unset] [(.int (164 : Int32))])
    refine hst (fun t₀ k₀ => XS.goto XI.here hx rfl (pc0 := 10) (pc' := 18) rfl (hb hby at_10) (by decide) (by decide) k₀) ?_
    show F s₁ (mkF m 18 #[.val (.int p1), .val (.int p2), .val (.int p3), .val (.int p4), .val (.int p5), .val (.int p6), .unset, .unset, .unset, .unset, .unset, .unset, .unset, .unset, .unset, .unset, .unset] [(.int (164 : Int32))])
    refine hst (fun t₀ k₀ => XS.istore XI.here hx rfl (hb hby at_18) rfl (l' := #[.val (.int p1), .val (.int p2), .val (.int p3), .val (.int p4), .val (.int p5), .val (.int p6), .val (.int (164 : Int32)), .unset, .unset, .unset, .unset, .unset, .unset, .unset, .unset, .unset, .unset]) rfl k₀) ?_
    show F s₁ (mkF m 20 #[.val (.int p1), .val (.int p2), .val (.int p3), .val (.int p4), .val (.int p5), .val (.int p6), .val (.int (164 : Int32)), .unset, .unset, .unset, .unset, .unset, .unset, .unset, .unset, .unset, .unset] [])
    exact J20 (164 : Int32) (by unfold own_in; decide)
set_option maxRecDepth 65536 in
set_option maxHeartbeats 40000000 in
theorem comes_1 {Post : Tables → Env → Array Value → State → Outcome → State → Prop} (hpost : ∀ tb e args s v u, (limb_1_1.after args s (.returned v) u = true ∧ limb_1_2.after args s (.returned v) u = true ∧ True) → ReturnedEndW s (.returned v) u (Jvm.fieldLocs frame_1_writes args s ++ Jvm.arrayLocs frame_1_arrays args s ++ Jvm.staticLocs frame_1_statics s) 32 4224 → Post tb e args s (.returned v) u) :
    ArmFor flags0 classFile x code maxLocals ret World_1 tables_1 room_1 Calls_1 rest_1 Pre_1 Post := by
  intro l hfl _ _ p e ha hc hk s m args below hf hA hF happ hP
  obtain ⟨hcalls, hrest, hpre⟩ := hP
  obtain ⟨-, -, -, hnamed, -, -, -, hat⟩ := (Spec.applies_iff hf).mp happ
  obtain ⟨hg, hn⟩ := and_e (Cond.before_iff.mp (show (Jvm.Cond.and given_1 narrow_1).before args s = true from hpre))
  obtain ⟨g1, g2⟩ := and_e hg
  obtain ⟨g3, g4⟩ := and_e g2
  obtain ⟨g5, g6⟩ := and_e g4
  obtain ⟨g7, g8⟩ := and_e g6
  obtain ⟨g9, g10⟩ := and_e g8
  obtain ⟨g11, g12⟩ := and_e g10
  obtain ⟨w0, w1, w2, w3, w4, w5, rfl⟩ : ∃ w0 w1 w2 w3 w4 w5 : Value, args = #[w0, w1, w2, w3, w4, w5] := by
    have hs : args.size = 6 := by simpa [Cond.value, given_1] using g1
    obtain ⟨L⟩ := args
    match L, hs with
    | [w0, w1, w2, w3, w4, w5], _ => exact ⟨w0, w1, w2, w3, w4, w5, rfl⟩
  have hw := fun d (hd : d ∈ tables_1) => atoms_spec (ws := Jvm.Cond.code x code maxLocals ret :: tables_1) hat d (List.mem_cons_of_mem _ hd)
  obtain ⟨i0, ei0⟩ := is_v g3
  obtain rfl : w0 = (.int i0) := Option.some.inj ei0
  obtain ⟨i1, ei1⟩ := is_v g5
  obtain rfl : w1 = (.int i1) := Option.some.inj ei1
  obtain ⟨i2, ei2⟩ := is_v g7
  obtain rfl : w2 = (.int i2) := Option.some.inj ei2
  obtain ⟨i3, ei3⟩ := is_v g9
  obtain rfl : w3 = (.int i3) := Option.some.inj ei3
  obtain ⟨i4, ei4⟩ := is_v g11
  obtain rfl : w4 = (.int i4) := Option.some.inj ei4
  obtain ⟨i5, ei5⟩ := is_v g12
  obtain rfl : w5 = (.int i5) := Option.some.inj ei5
  obtain ⟨n, o, h1, h2, h3, _, L, rfl, ⟨rfl, N⟩, hq⟩ := rm0 l s _ hw tables_1 i0 i1 i2 i3 i4 i5 s.heap s.heap.size (Nat.le_refl _) p e ha hc hk s m _ below hf ((Spec.applies_iff_loose hf).mp happ).1 ⟨rfl, State.Warmed39.refl s, rfl⟩ trivial
  refine ⟨n, _, h1, h2, h3, hpost _ _ _ _ _ _ ⟨Cond.after_iff.mpr rfl, Cond.after_iff.mpr (eq_i res_at (Term.int_eval (1)) rfl), trivial⟩ ⟨hq.1, hq.2.1, hq.2.2.1, (hq.2.2.2.sift fun y hy => Or.inr (N y hy)).mono (by decide) (by decide)⟩⟩
theorem main_1_1 : Claimed_1_1 := comes_1 fun _ _ _ _ _ _ h hF => ⟨h.1, hF⟩
theorem main_1_2 : Claimed_1_2 := comes_1 fun _ _ _ _ _ _ h hF => ⟨h.2.1, hF⟩
end Jvm.Pilot.@@N@@
namespace Jvm.Pilot.@@N@@
open Jvm Jvm.ClassFile Sem Op Lib Jvm.Free Jvm.Stand Jvm.Pilot.@@N@@.Jvm.D
/-! MADE BY PROGRAM (witnessworld.py) out of the Statement's table words and the real class files: 14 classes; the members and pool entries that the words name. The judged class is class 1, her method 1. -/
namespace start1
open Jvm.ClassFile
def u (s : String) : CpInfo := .utf8 (stringToUtf16 s)
/-- a pool by its gaps: so many unusable entries, then the entry; so many at the end -/
def gap : Nat → List CpInfo → List CpInfo
  | 0, r => r
  | n + 1, r => .unusable :: gap n r
def poolList (es : List (Nat × CpInfo)) (last : Nat) : List CpInfo := es.foldr (fun e r => gap e.1 (e.2 :: r)) (gap last [])
def pool (es : List (Nat × CpInfo)) (last : Nat) : Array CpInfo := ⟨poolList es last⟩
def fileOf (pool : Array CpInfo) (this : Nat) (attrs : Array Attribute := #[]) (ms : Array MethodInfo := #[]) (fl : Nat := 33) (sup : Nat := 0) (ifs : Array Nat := #[]) (fds : Array FieldInfo := #[]) : ClassFile where
  minorVersion := 0
  majorVersion := 65
  constantPool := pool
  accessFlags := fl
  thisClass := this
  superClass := sup
  interfaces := ifs
  fields := fds
  methods := ms
  attributes := attrs
def plain (name : String) (sup : Option ClassId) : Class where
  name := name
  kind := .ordinary
  loader := none
  accessFlags := 33
  super := sup
  interfaces := #[]
  cf := none
  fields := #[]
  methods := #[]
  instanceTypes := #[]
  staticTypes := #[]
  resolved := #[]
  callSites := []
  init := .initialized
  statics := none
  mirror := none

def pool0 : Array CpInfo := pool [(5, u "<init>"), (0, u "()V"), (1, .class_ 10), (1, u "java/lang/Object"), (85, u "clone"), (0, u "()Ljava/lang/Object;")] 26

def k0c0 : Code := { maxStack := 0, maxLocals := 1, code := object_method_1_code, exceptionTable := #[], attributes := #[] }
def k0m0 : Method := { name := "<init>", desc := "()V", sig := { parameters := [], returnType := none }, accessFlags := 1, code := some k0c0 }
def k0m1 : Method := { name := "clone", desc := "()Ljava/lang/Object;", sig := { parameters := [], returnType := some (.object "java/lang/Object") }, accessFlags := 260, code := none }
/-- java/lang/Object -/
def k0 : Class := { plain "java/lang/Object" none with
  accessFlags := 33
  interfaces := #[]
  cf := some (fileOf pool0 8 #[] #[{ accessFlags := 1, nameIndex := 5, descriptorIndex := 6, attributes := #[] }, { accessFlags := 260, nameIndex := 96, descriptorIndex := 97, attributes := #[] }] 33 0 #[] #[])
  fields := #[]
  methods := #[k0m0, k0m1]
  instanceTypes := #[]
  staticTypes := #[]
  resolved := Array.replicate 124 none
  statics := none }

def pool1 : Array CpInfo := pool [(2, .class_ 4), (1, u "java/lang/Object"), (0, u "<init>"), (0, u "()V"), (0, .integer 2147483647), (0, .class_ 9), (0, u "com/example/seamark/seamark/transport/CommandApdu"), (0, .methodref 8 11), (0, .nameAndType 5 12), (0, u "(IIII[BI)V"), (0, .methodref 8 14), (0, .nameAndType 15 16), (0, u "isSelectByName"), (0, u "()Z"), (0, .class_ 18), (0, u "com/example/seamark/seamark/transport/CommandApduIsSelectByNamePinLaw"), (2, u "law"), (0, u "(IIIIII)Z")] 5

def k1m0 : Method := { name := "<init>", desc := "()V", sig := { parameters := [], returnType := none }, accessFlags := 1, code := none }
def k1c1 : Code := { maxStack := 8, maxLocals := 17, code := code, exceptionTable := #[], attributes := #[] }
def k1m1 : Method := { name := "law", desc := "(IIIIII)Z", sig := { parameters := [.int, .int, .int, .int, .int, .int], returnType := some .boolean }, accessFlags := 9, code := some k1c1 }
/-- com/example/seamark/seamark/transport/CommandApduIsSelectByNamePinLaw -/
def k1 : Class := { plain "com/example/seamark/seamark/transport/CommandApduIsSelectByNamePinLaw" (some 0) with
  accessFlags := 49
  interfaces := #[]
  cf := some (fileOf pool1 17 #[] #[{ accessFlags := 1, nameIndex := 5, descriptorIndex := 6, attributes := #[] }, { accessFlags := 9, nameIndex := 21, descriptorIndex := 22, attributes := #[] }] 49 2 #[] #[])
  fields := #[]
  methods := #[k1m0, k1m1]
  instanceTypes := #[]
  staticTypes := #[]
  resolved := Array.replicate 28 none
  statics := none }

def pool2 : Array CpInfo := pool [(1, .methodref 2 3), (0, .class_ 4), (0, .nameAndType 5 6), (0, u "java/lang/Object"), (0, u "<init>"), (0, u "()V"), (0, .string 8), (0, u "CLA"), (0, .methodref 10 11), (0, .class_ 12), (0, .nameAndType 13 14), (0, u "com/example/seamark/seamark/transport/CommandApdu"), (0, u "requireByte"), (0, u "(Ljava/lang/String;I)I"), (0, .fieldref 10 16), (0, .nameAndType 17 18), (0, u "cla"), (0, u "I"), (0, .string 20), (0, u "INS"), (0, .fieldref 10 22), (0, .nameAndType 23 18), (0, u "ins"), (0, .string 25), (0, u "P1"), (0, .fieldref 10 27), (0, .nameAndType 28 18), (0, u "p1"), (0, .string 30), (0, u "P2"), (0, .fieldref 10 32), (0, .nameAndType 33 18), (0, u "p2"), (10, .methodref 45 46), (0, .class_ 47), (0, .nameAndType 48 49), (0, u "[B"), (0, u "clone"), (0, u "()Ljava/lang/Object;"), (0, .fieldref 10 51), (0, .nameAndType 52 47), (0, u "data"), (0, .fieldref 10 54), (0, .nameAndType 55 18), (0, u "ne"), (3, u "NO_DATA"), (2, u "(IIII[BI)V"), (27, u "()Z"), (34, u "BASIC_CHANNEL"), (2, u "MAX_CHANNEL"), (1, u "MAX_DATA"), (1, u "MAX_NE"), (1, u "INS_MANAGE_CHANNEL"), (1, u "P1_OPEN_CHANNEL"), (0, u "P1_CLOSE_CHANNEL"), (1, u "INS_SELECT"), (1, u "P1_SELECT_BY_NAME"), (1, u "MIN_AID"), (1, u "MAX_AID"), (1, u "P2_NO_RESPONSE_DATA"), (1, u "P2_OCCURRENCE"), (1, u "FIRST_OCCURRENCE"), (0, u "NEXT_OCCURRENCE"), (1, u "INS_GET_RESPONSE"), (1, u "FURTHER_FORM"), (1, u "KEPT_BITS"), (1, u "FIRST_FORM_SECURE_MESSAGING"), (0, u "FURTHER_FORM_SECURE_MESSAGING"), (1, u "FIRST_FORM_SECURE_MESSAGING_PLAIN_HEADER"), (17, u "isSelectByName")] 39

def k2c0 : Code := { maxStack := 3, maxLocals := 7, code := prog_45_method_1_code, exceptionTable := #[], attributes := #[] }
def k2m0 : Method := { name := "<init>", desc := "(IIII[BI)V", sig := { parameters := [.int, .int, .int, .int, (.array .byte), .int], returnType := none }, accessFlags := 1, code := some k2c0 }
def k2c1 : Code := { maxStack := 2, maxLocals := 1, code := prog_45_method_15_code, exceptionTable := #[], attributes := #[] }
def k2m1 : Method := { name := "isSelectByName", desc := "()Z", sig := { parameters := [], returnType := some .boolean }, accessFlags := 1, code := some k2c1 }
def k2c2 : Code := { maxStack := 4, maxLocals := 2, code := prog_45_method_25_code, exceptionTable := #[], attributes := #[] }
def k2m2 : Method := { name := "requireByte", desc := "(Ljava/lang/String;I)I", sig := { parameters := [(.object "java/lang/String"), .int], returnType := some .int }, accessFlags := 10, code := some k2c2 }
/-- com/example/seamark/seamark/transport/CommandApdu -/
def k2 : Class := { plain "com/example/seamark/seamark/transport/CommandApdu" (some 0) with
  accessFlags := 49
  interfaces := #[]
  cf := some (fileOf pool2 10 #[] #[{ accessFlags := 1, nameIndex := 5, descriptorIndex := 62, attributes := #[] }, { accessFlags := 1, nameIndex := 181, descriptorIndex := 90, attributes := #[] }, { accessFlags := 10, nameIndex := 13, descriptorIndex := 14, attributes := #[] }] 49 2 #[] #[{ accessFlags := 25, nameIndex := 125, descriptorIndex := 18, attributes := #[] }, { accessFlags := 25, nameIndex := 128, descriptorIndex := 18, attributes := #[] }, { accessFlags := 25, nameIndex := 130, descriptorIndex := 18, attributes := #[] }, { accessFlags := 25, nameIndex := 132, descriptorIndex := 18, attributes := #[] }, { accessFlags := 25, nameIndex := 134, descriptorIndex := 18, attributes := #[] }, { accessFlags := 25, nameIndex := 136, descriptorIndex := 18, attributes := #[] }, { accessFlags := 25, nameIndex := 137, descriptorIndex := 18, attributes := #[] }, { accessFlags := 25, nameIndex := 139, descriptorIndex := 18, attributes := #[] }, { accessFlags := 25, nameIndex := 141, descriptorIndex := 18, attributes := #[] }, { accessFlags := 25, nameIndex := 143, descriptorIndex := 18, attributes := #[] }, { accessFlags := 25, nameIndex := 145, descriptorIndex := 18, attributes := #[] }, { accessFlags := 26, nameIndex := 147, descriptorIndex := 18, attributes := #[] }, { accessFlags := 26, nameIndex := 149, descriptorIndex := 18, attributes := #[] }, { accessFlags := 25, nameIndex := 151, descriptorIndex := 18, attributes := #[] }, { accessFlags := 25, nameIndex := 152, descriptorIndex := 18, attributes := #[] }, { accessFlags := 25, nameIndex := 154, descriptorIndex := 18, attributes := #[] }, { accessFlags := 26, nameIndex := 156, descriptorIndex := 18, attributes := #[] }, { accessFlags := 26, nameIndex := 158, descriptorIndex := 18, attributes := #[] }, { accessFlags := 26, nameIndex := 160, descriptorIndex := 18, attributes := #[] }, { accessFlags := 26, nameIndex := 161, descriptorIndex := 18, attributes := #[] }, { accessFlags := 26, nameIndex := 163, descriptorIndex := 18, attributes := #[] }, { accessFlags := 26, nameIndex := 59, descriptorIndex := 47, attributes := #[] }, { accessFlags := 18, nameIndex := 17, descriptorIndex := 18, attributes := #[] }, { accessFlags := 18, nameIndex := 23, descriptorIndex := 18, attributes := #[] }, { accessFlags := 18, nameIndex := 28, descriptorIndex := 18, attributes := #[] }, { accessFlags := 18, nameIndex := 33, descriptorIndex := 18, attributes := #[] }, { accessFlags := 18, nameIndex := 52, descriptorIndex := 47, attributes := #[] }, { accessFlags := 18, nameIndex := 55, descriptorIndex := 18, attributes := #[] }])
  fields := #[{ name := "BASIC_CHANNEL", type := .int, accessFlags := 25, slot := 0, constantValue := 0 }, { name := "MAX_CHANNEL", type := .int, accessFlags := 25, slot := 1, constantValue := 0 }, { name := "MAX_DATA", type := .int, accessFlags := 25, slot := 2, constantValue := 0 }, { name := "MAX_NE", type := .int, accessFlags := 25, slot := 3, constantValue := 0 }, { name := "INS_MANAGE_CHANNEL", type := .int, accessFlags := 25, slot := 4, constantValue := 0 }, { name := "P1_OPEN_CHANNEL", type := .int, accessFlags := 25, slot := 5, constantValue := 0 }, { name := "P1_CLOSE_CHANNEL", type := .int, accessFlags := 25, slot := 6, constantValue := 0 }, { name := "INS_SELECT", type := .int, accessFlags := 25, slot := 7, constantValue := 0 }, { name := "P1_SELECT_BY_NAME", type := .int, accessFlags := 25, slot := 8, constantValue := 0 }, { name := "MIN_AID", type := .int, accessFlags := 25, slot := 9, constantValue := 0 }, { name := "MAX_AID", type := .int, accessFlags := 25, slot := 10, constantValue := 0 }, { name := "P2_NO_RESPONSE_DATA", type := .int, accessFlags := 26, slot := 11, constantValue := 0 }, { name := "P2_OCCURRENCE", type := .int, accessFlags := 26, slot := 12, constantValue := 0 }, { name := "FIRST_OCCURRENCE", type := .int, accessFlags := 25, slot := 13, constantValue := 0 }, { name := "NEXT_OCCURRENCE", type := .int, accessFlags := 25, slot := 14, constantValue := 0 }, { name := "INS_GET_RESPONSE", type := .int, accessFlags := 25, slot := 15, constantValue := 0 }, { name := "FURTHER_FORM", type := .int, accessFlags := 26, slot := 16, constantValue := 0 }, { name := "KEPT_BITS", type := .int, accessFlags := 26, slot := 17, constantValue := 0 }, { name := "FIRST_FORM_SECURE_MESSAGING", type := .int, accessFlags := 26, slot := 18, constantValue := 0 }, { name := "FURTHER_FORM_SECURE_MESSAGING", type := .int, accessFlags := 26, slot := 19, constantValue := 0 }, { name := "FIRST_FORM_SECURE_MESSAGING_PLAIN_HEADER", type := .int, accessFlags := 26, slot := 20, constantValue := 0 }, { name := "NO_DATA", type := (.array .byte), accessFlags := 26, slot := 21, constantValue := 0 }, { name := "cla", type := .int, accessFlags := 18, slot := 0, constantValue := 0 }, { name := "ins", type := .int, accessFlags := 18, slot := 1, constantValue := 0 }, { name := "p1", type := .int, accessFlags := 18, slot := 2, constantValue := 0 }, { name := "p2", type := .int, accessFlags := 18, slot := 3, constantValue := 0 }, { name := "data", type := (.array .byte), accessFlags := 18, slot := 4, constantValue := 0 }, { name := "ne", type := .int, accessFlags := 18, slot := 5, constantValue := 0 }]
  methods := #[k2m0, k2m1, k2m2]
  instanceTypes := #[.int, .int, .int, .int, (.array .byte), .int]
  staticTypes := #[.int, .int, .int, .int, .int, .int, .int, .int, .int, .int, .int, .int, .int, .int, .int, .int, .int, .int, .int, .int, .int, (.array .byte)]
  resolved := Array.replicate 221 none
  statics := none }

def pool3 : Array CpInfo := pool [(1, .class_ 2), (0, u "java/io/Serializable"), (0, .class_ 4), (0, u "java/lang/Object")] 2

/-- java/io/Serializable -/
def k3 : Class := { plain "java/io/Serializable" (some 0) with
  accessFlags := 1537
  interfaces := #[]
  cf := some (fileOf pool3 1 #[] #[] 1537 3 #[] #[])
  fields := #[]
  methods := #[]
  instanceTypes := #[]
  staticTypes := #[]
  resolved := Array.replicate 7 none
  statics := none }

def pool4 : Array CpInfo := pool [(1, .class_ 2), (0, u "java/lang/Comparable"), (0, .class_ 4), (0, u "java/lang/Object")] 7

/-- java/lang/Comparable -/
def k4 : Class := { plain "java/lang/Comparable" (some 0) with
  accessFlags := 1537
  interfaces := #[]
  cf := some (fileOf pool4 1 #[] #[] 1537 3 #[] #[])
  fields := #[]
  methods := #[]
  instanceTypes := #[]
  staticTypes := #[]
  resolved := Array.replicate 12 none
  statics := none }

def pool5 : Array CpInfo := pool [(2, .class_ 4), (1, u "java/lang/CharSequence"), (42, .class_ 48), (0, u "java/lang/CharSequence$1CodePointIterator"), (10, .class_ 60), (0, u "java/lang/CharSequence$1CharIterator"), (5, .class_ 67), (0, u "java/lang/Object")] 63

/-- java/lang/CharSequence -/
def k5 : Class := { plain "java/lang/CharSequence" (some 0) with
  accessFlags := 1537
  interfaces := #[]
  cf := some (fileOf pool5 2 #[.nestMembers #[47, 59]] #[] 1537 66 #[] #[])
  fields := #[]
  methods := #[]
  instanceTypes := #[]
  staticTypes := #[]
  resolved := Array.replicate 131 none
  statics := none }

def pool6 : Array CpInfo := pool [(1, .class_ 2), (0, u "java/lang/constant/Constable"), (0, .class_ 4), (0, u "java/lang/Object")] 6

/-- java/lang/constant/Constable -/
def k6 : Class := { plain "java/lang/constant/Constable" (some 0) with
  accessFlags := 1537
  interfaces := #[]
  cf := some (fileOf pool6 1 #[] #[] 1537 3 #[] #[])
  fields := #[]
  methods := #[]
  instanceTypes := #[]
  staticTypes := #[]
  resolved := Array.replicate 11 none
  statics := none }

def pool7 : Array CpInfo := pool [(1, .class_ 2), (0, u "java/lang/constant/ConstantDesc"), (0, .class_ 4), (0, u "java/lang/Object")] 32

/-- java/lang/constant/ConstantDesc -/
def k7 : Class := { plain "java/lang/constant/ConstantDesc" (some 0) with
  accessFlags := 1537
  interfaces := #[]
  cf := some (fileOf pool7 1 #[] #[] 1537 3 #[] #[])
  fields := #[]
  methods := #[]
  instanceTypes := #[]
  staticTypes := #[]
  resolved := Array.replicate 37 none
  statics := none }

def pool8 : Array CpInfo := pool [(2, .class_ 4), (1, u "java/lang/Object"), (0, u "<init>"), (0, u "()V"), (3, .class_ 12), (1, u "java/lang/String"), (0, u "value"), (0, u "[B"), (2, u "coder"), (0, u "B"), (2, u "hash"), (0, u "I"), (2, u "hashIsZero"), (0, u "Z"), (13, u "COMPACT_STRINGS"), (534, .class_ 576), (0, u "java/lang/CharSequence"), (22, u "CASE_INSENSITIVE_ORDER"), (0, u "Ljava/util/Comparator;"), (500, u "serialPersistentFields"), (0, u "[Ljava/io/ObjectStreamField;"), (0, .class_ 1104), (0, u "java/lang/String$CaseInsensitiveComparator"), (1, .class_ 1107), (0, u "java/io/Serializable"), (0, .class_ 1109), (0, u "java/lang/Comparable"), (0, .class_ 1111), (0, u "java/lang/constant/Constable"), (0, .class_ 1113), (0, u "java/lang/constant/ConstantDesc"), (2, u "serialVersionUID"), (0, u "J"), (3, u "REPL"), (0, u "C"), (2, u "LATIN1"), (1, u "UTF16")] 323

def k8m0 : Method := { name := "<init>", desc := "()V", sig := { parameters := [], returnType := none }, accessFlags := 1, code := none }
/-- java/lang/String -/
def k8 : Class := { plain "java/lang/String" (some 0) with
  accessFlags := 49
  interfaces := #[3, 4, 5, 6, 7]
  cf := some (fileOf pool8 10 #[.nestMembers #[1103]] #[{ accessFlags := 1, nameIndex := 5, descriptorIndex := 6, attributes := #[] }] 49 2 #[1106, 1108, 575, 1110, 1112] #[{ accessFlags := 18, nameIndex := 13, descriptorIndex := 14, attributes := #[] }, { accessFlags := 18, nameIndex := 17, descriptorIndex := 18, attributes := #[] }, { accessFlags := 2, nameIndex := 21, descriptorIndex := 22, attributes := #[] }, { accessFlags := 2, nameIndex := 25, descriptorIndex := 26, attributes := #[] }, { accessFlags := 26, nameIndex := 1116, descriptorIndex := 1117, attributes := #[] }, { accessFlags := 24, nameIndex := 40, descriptorIndex := 26, attributes := #[] }, { accessFlags := 26, nameIndex := 1101, descriptorIndex := 1102, attributes := #[] }, { accessFlags := 26, nameIndex := 1121, descriptorIndex := 1122, attributes := #[] }, { accessFlags := 25, nameIndex := 599, descriptorIndex := 600, attributes := #[] }, { accessFlags := 24, nameIndex := 1125, descriptorIndex := 18, attributes := #[] }, { accessFlags := 24, nameIndex := 1127, descriptorIndex := 18, attributes := #[] }])
  fields := #[{ name := "value", type := (.array .byte), accessFlags := 18, slot := 0, constantValue := 0 }, { name := "coder", type := .byte, accessFlags := 18, slot := 1, constantValue := 0 }, { name := "hash", type := .int, accessFlags := 2, slot := 2, constantValue := 0 }, { name := "hashIsZero", type := .boolean, accessFlags := 2, slot := 3, constantValue := 0 }, { name := "serialVersionUID", type := .long, accessFlags := 26, slot := 0, constantValue := 0 }, { name := "COMPACT_STRINGS", type := .boolean, accessFlags := 24, slot := 1, constantValue := 0 }, { name := "serialPersistentFields", type := (.array (.object "java/io/ObjectStreamField")), accessFlags := 26, slot := 2, constantValue := 0 }, { name := "REPL", type := .char, accessFlags := 26, slot := 3, constantValue := 0 }, { name := "CASE_INSENSITIVE_ORDER", type := (.object "java/util/Comparator"), accessFlags := 25, slot := 4, constantValue := 0 }, { name := "LATIN1", type := .byte, accessFlags := 24, slot := 5, constantValue := 0 }, { name := "UTF16", type := .byte, accessFlags := 24, slot := 6, constantValue := 0 }]
  methods := #[k8m0]
  instanceTypes := #[(.array .byte), .byte, .int, .boolean]
  staticTypes := #[.long, .boolean, (.array (.object "java/io/ObjectStreamField")), .char, (.object "java/util/Comparator"), .byte, .byte]
  resolved := Array.replicate 1451 none
  statics := none }

def pool9 : Array CpInfo := pool [(1, .class_ 2), (0, u "java/lang/Cloneable"), (0, .class_ 4), (0, u "java/lang/Object")] 2

/-- java/lang/Cloneable -/
def k9 : Class := { plain "java/lang/Cloneable" (some 0) with
  accessFlags := 1537
  interfaces := #[]
  cf := some (fileOf pool9 1 #[] #[] 1537 3 #[] #[])
  fields := #[]
  methods := #[]
  instanceTypes := #[]
  staticTypes := #[]
  resolved := Array.replicate 7 none
  statics := none }

/-- the primitive byte -/
def k10 : Class := { plain "byte" none with kind := .primitive 'B', accessFlags := 0x411 }
/-- [B -/
def k11 : Class := { plain "[B" (some 0) with kind := .array 10 .byte, interfaces := #[9, 3], accessFlags := 1041 }

/-- the primitive int -/
def k12 : Class := { plain "int" none with kind := .primitive 'I', accessFlags := 0x411 }
/-- [I -/
def k13 : Class := { plain "[I" (some 0) with kind := .array 12 .int, interfaces := #[9, 3], accessFlags := 1041 }

def heap : Heap := #[]
def classes : Array Class := #[k0, k1, k2, k3, k4, k5, k6, k7, k8, k9, k10, k11, k12, k13]
def interned : List (Array UInt16 × Addr) := []
def slotsUsed : Nat := 0
def theMethod : MethodId := ⟨1, 1⟩
def args0 : Array Value := #[.int 1, .int 2, .int 3, .int 4, .int 5, .int 6]
def aboutOver (below : List Frame) : State where
  vm := { classes := classes, interned := interned.toArray }
  heap := heap
  slotsUsed := slotsUsed
  threads := #[{ frames := .invoking theMethod args0 :: below }]
def below0 : List Frame := [.native { method := ⟨0, 0⟩, args := #[] }]
def about1 : State := aboutOver below0
def p0 : Program := .bare "" "" ""
def e0 : Env := launch0.env 0 0 0
theorem w_frames : about1.frames = Frame.invoking theMethod args0 :: below0 := rfl
set_option maxRecDepth 65536 in
theorem w_args : argsFit about1.vm theMethod args0 = true := by decide +kernel
set_option maxRecDepth 65536 in
theorem w_heap : heapFits about1 = true := by decide +kernel
set_option maxRecDepth 65536 in
theorem w_runnable : about1.curStatus? = some .runnable := by decide +kernel
set_option maxRecDepth 65536 in
theorem w_alone : about1.alone = true := by decide +kernel
set_option maxRecDepth 65536 in
theorem w_named : about1.methodNamed? x = some theMethod := by decide +kernel
set_option maxRecDepth 65536 in
theorem w_hears : about1.hears theMethod below0 = true := by decide +kernel
set_option maxRecDepth 65536 in
theorem w_ripe : about1.ripe theMethod args0 below0 = true := by decide +kernel
theorem w_running : about1.status = .running := rfl
set_option maxRecDepth 65536 in
theorem w_room : about1.hasRoom e0.platform room_1 = true :=
  launch0.hasRoom_least _ room_1 (by decide +kernel) (by decide +kernel) (by decide +kernel) (by decide +kernel) (by decide +kernel) (by decide +kernel)
theorem allAtoms_all (ts : List Jvm.Cond) (a : Array Jvm.Value) (st : Jvm.State) : (allAtoms ts).before a st = ts.all (fun c => c.before a st) := by
  induction ts with
  | nil => rfl
  | cons c t ih =>
    show (Jvm.Cond.and c (allAtoms t)).before a st = _
    rw [Jvm.Cond.before_and, ih, List.all_cons]
def words1 : List Jvm.Cond := Jvm.Cond.code x code maxLocals ret :: tables_1
/-- a 'code' word, met by the world's own term for the bytes: nothing is compared byte by byte -/
theorem code_word {y : MethodName} {bytes : ByteArray} {mx : Nat} {rt : Option FieldType} {a : Array Value} {s : State} {m : MethodId} {meth : Method} {c : Code} (h1 : s.methodNamed? y = some m) (h2 : s.vm.method? m = some meth) (h3 : meth.code = some c) (h4 : c.code = bytes)
    (h5 : (c.maxLocals == mx && c.exceptionTable.isEmpty && decide (c.maxStack ≤ mostOperands) && decide (meth.sig.returnType = rt) && !meth.locks && decide (parseMethodDescriptor y.desc = some meth.sig)) = true) : (Jvm.Cond.code y bytes mx rt).before a s = true := by
  simp only [Bool.and_eq_true, beq_iff_eq, Bool.not_eq_true', decide_eq_true_eq] at h5
  obtain ⟨⟨⟨⟨⟨g1, g2⟩, g3⟩, g4⟩, g5⟩, g6⟩ := h5
  simp [Cond.before, Cond.holds, Cond.value, h1, h2, h3, h4, g1, g2, g3, g4, g5, g6]
def isCode : Jvm.Cond → Bool
  | .code _ _ _ _ => true
  | _ => false
theorem all_split {L : List Jvm.Cond} {P : Jvm.Cond → Bool} (h1 : L.all (fun c => isCode c || P c) = true) (h2 : ∀ c ∈ L.filter isCode, P c = true) : L.all P = true := by
  refine List.all_eq_true.mpr fun c hc => ?_
  have h := List.all_eq_true.mp h1 c hc
  rcases Bool.eq_false_or_eq_true (isCode c) with hi | hi
  · exact h2 c (List.mem_filter.mpr ⟨hc, hi⟩)
  · simpa [hi] using h
set_option maxRecDepth 65536 in
theorem w_c0 : (Jvm.Cond.code x code maxLocals ret).before args0 about1 = true := code_word (m := ⟨1, 1⟩) (meth := k1m1) (c := k1c1) (by decide +kernel) rfl rfl rfl (by decide +kernel)
set_option maxRecDepth 65536 in
theorem w_c1 : (Jvm.Cond.code ({ cls := "com/example/seamark/seamark/transport/CommandApdu", name := "<init>", desc := "(IIII[BI)V" } : Jvm.MethodName) prog_45_method_1_code (7 : Nat) (Option.none : Option Jvm.ClassFile.FieldType)).before args0 about1 = true := code_word (m := ⟨2, 0⟩) (meth := k2m0) (c := k2c0) (by decide +kernel) rfl rfl rfl (by decide +kernel)
set_option maxRecDepth 65536 in
theorem w_c2 : (Jvm.Cond.code ({ cls := "java/lang/Object", name := "<init>", desc := "()V" } : Jvm.MethodName) object_method_1_code (1 : Nat) (Option.none : Option Jvm.ClassFile.FieldType)).before args0 about1 = true := code_word (m := ⟨0, 0⟩) (meth := k0m0) (c := k0c0) (by decide +kernel) rfl rfl rfl (by decide +kernel)
set_option maxRecDepth 65536 in
theorem w_c3 : (Jvm.Cond.code ({ cls := "com/example/seamark/seamark/transport/CommandApdu", name := "requireByte", desc := "(Ljava/lang/String;I)I" } : Jvm.MethodName) prog_45_method_25_code (2 : Nat) (Option.some Jvm.ClassFile.FieldType.int)).before args0 about1 = true := code_word (m := ⟨2, 2⟩) (meth := k2m2) (c := k2c2) (by decide +kernel) rfl rfl rfl (by decide +kernel)
set_option maxRecDepth 65536 in
theorem w_c4 : (Jvm.Cond.code ({ cls := "com/example/seamark/seamark/transport/CommandApdu", name := "isSelectByName", desc := "()Z" } : Jvm.MethodName) prog_45_method_15_code (1 : Nat) (Option.some Jvm.ClassFile.FieldType.boolean)).before args0 about1 = true := code_word (m := ⟨2, 1⟩) (meth := k2m1) (c := k2c1) (by decide +kernel) rfl rfl rfl (by decide +kernel)
def codes1 : List Jvm.Cond := [Jvm.Cond.code x code maxLocals ret, Jvm.Cond.code ({ cls := "com/example/seamark/seamark/transport/CommandApdu", name := "<init>", desc := "(IIII[BI)V" } : Jvm.MethodName) prog_45_method_1_code (7 : Nat) (Option.none : Option Jvm.ClassFile.FieldType), Jvm.Cond.code ({ cls := "java/lang/Object", name := "<init>", desc := "()V" } : Jvm.MethodName) object_method_1_code (1 : Nat) (Option.none : Option Jvm.ClassFile.FieldType), Jvm.Cond.code ({ cls := "com/example/seamark/seamark/transport/CommandApdu", name := "requireByte", desc := "(Ljava/lang/String;I)I" } : Jvm.MethodName) prog_45_method_25_code (2 : Nat) (Option.some Jvm.ClassFile.FieldType.int), Jvm.Cond.code ({ cls := "com/example/seamark/seamark/transport/CommandApdu", name := "isSelectByName", desc := "()Z" } : Jvm.MethodName) prog_45_method_15_code (1 : Nat) (Option.some Jvm.ClassFile.FieldType.boolean)]
set_option maxRecDepth 65536 in
theorem codes_eq : words1.filter isCode = codes1 := rfl
theorem w_codes : ∀ c ∈ words1.filter isCode, c.before args0 about1 = true := by
  rw [codes_eq]
  intro c hc
  simp only [codes1, List.mem_cons, List.not_mem_nil, or_false] at hc
  rcases hc with rfl | rfl | rfl | rfl | rfl
  · exact w_c0
  · exact w_c1
  · exact w_c2
  · exact w_c3
  · exact w_c4
set_option maxRecDepth 65536 in
theorem w_t1 : (words1.take 24).all (fun c => isCode c || c.before args0 about1) = true := by decide +kernel
set_option maxRecDepth 65536 in
theorem w_t2 : ((words1.drop 24).take 24).all (fun c => isCode c || c.before args0 about1) = true := by decide +kernel
set_option maxRecDepth 65536 in
theorem w_t3 : ((words1.drop 24).drop 24).all (fun c => isCode c || c.before args0 about1) = true := by decide +kernel
theorem w_tables : (allAtoms (Jvm.Cond.code x code maxLocals ret :: tables_1)).before args0 about1 = true := by
  rw [allAtoms_all]
  show words1.all (fun c => c.before args0 about1) = true
  refine all_split ?_ w_codes
  rw [← List.take_append_drop 24 words1, List.all_append, w_t1, ← List.take_append_drop 24 (words1.drop 24), List.all_append, w_t2, w_t3]
  rfl
set_option maxRecDepth 65536 in
theorem w_case : (Jvm.Cond.and given_1 narrow_1).before args0 about1 = true := by decide +kernel
theorem w_applies : (headSpec (Jvm.Cond.code x code maxLocals ret :: tables_1) room_1).applies x e0.platform about1 = true :=
  (Spec.applies_iff w_frames).mpr ⟨w_running, w_runnable, w_alone, w_named, w_hears, w_ripe, w_room, w_tables⟩
theorem atStart : AtStart classFile x code maxLocals ret World_1 tables_1 room_1 Calls_1 rest_1 Pre_1 launch0 p0 e0 about1 theMethod args0 below0 :=
  ⟨lists_1, trivial, launch0.admits_env _ _ _, launch0.least_env, fairChoices_fair.cas, fairChoices_fair.clock, w_frames, w_args, w_heap, w_applies, trivial, trivial, w_case⟩
end start1
theorem witness_1 : WitnessClaimed_1 := ⟨start1.p0, start1.e0, start1.about1, start1.theMethod, start1.args0, start1.below0, start1.atStart⟩
end Jvm.Pilot.@@N@@
