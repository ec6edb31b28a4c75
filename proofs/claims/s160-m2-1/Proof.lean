import JvmDerived
import JvmDerived.Pilot.@@N@@Statement
import JvmDerived.Pilot.@@N@@Code
set_option linter.unusedVariables false
set_option linter.unusedSimpArgs false
namespace Jvm.Pilot.@@N@@
open Jvm Jvm.ClassFile Sem Op Lib Jvm.Free Jvm.Stand Jvm.LawKit Jvm.RoadKit Bundle Jvm.Pilot.@@N@@.Jvm.D
/-! ## the walk's own goal: from this frame the method comes to its end, and what it leaves is Q -/
def own_Fin (tb : Tables) (e : Env) (below : List Frame) (s : State) (R : Room) (Q : Option Value → Heap → List Loc → Prop) (T : State) (g : JFrame) : Prop :=
  ∃ s₂ o, Steps tb e below (T.setTop g) s₂ ∧ s₂.status = .running ∧ Ended s₂ below o ∧ ∃ v L, o = .returned v ∧ Q v s₂.heap L ∧ FrameEnd s o s₂ L R.cells R.slots
theorem own_st {tb : Tables} {e : Env} {below : List Frame} {s : State} {R : Room} {Q : Option Value → Heap → List Loc → Prop} {T T' : State} {g g' : JFrame}
    (h : ∀ t, Steps tb e below (T'.setTop g') t → Steps tb e below (T.setTop g) t) (k : own_Fin tb e below s R Q T' g') : own_Fin tb e below s R Q T g := by
  obtain ⟨s₂, o, h1, r⟩ := k
  exact ⟨s₂, o, h _ h1, r⟩
/-- an array: its kind, its length, what lies at each place -/
def own_A (Z : State) (h : Heap) (a : Addr) (ty : FieldType) (n : Nat) (f : Nat → Value) : Prop := ∃ c : Cell, Arr Z h a c ty ∧ c.slots.size = n ∧ ∀ i, i < n → c.slots[i]? = some (f i)
section OwnArr
variable {Z : State} {h h' : Heap} {a b : Addr} {ty : FieldType} {n : Nat} {f : Nat → Value} {ws : List Addr} {sl : Nat} {v : Value}
theorem own_A.lt (F : own_A Z h a ty n f) : a < h.size := by obtain ⟨c, A, -⟩ := F; exact A.lt
theorem own_A.ext (F : own_A Z h a ty n f) (E : Ext h h') : own_A Z h' a ty n f := by obtain ⟨c, A, r⟩ := F; exact ⟨c, A.ext E, r⟩
theorem own_A.other (F : own_A Z h a ty n f) (W : Wr h h' b sl v) (q : a ≠ b) : own_A Z h' a ty n f := by obtain ⟨c, A, r⟩ := F; exact ⟨c, A.other W q, r⟩
theorem own_A.keep (F : own_A Z h a ty n f) (K : Keep h h' ws) (q : a ∉ ws) : own_A Z h' a ty n f := by obtain ⟨c, A, r⟩ := F; exact ⟨c, ⟨K.2.1 a c A.1 q, A.2⟩, r⟩
theorem own_A.congr (F : own_A Z h a ty n f) {f' : Nat → Value} (q : ∀ i, i < n → f i = f' i) : own_A Z h a ty n f' := by
  obtain ⟨c, A, r1, r2⟩ := F
  exact ⟨c, A, r1, fun i hi => by rw [r2 i hi, q i hi]⟩
theorem own_A.new {k : ClassId} {z : Int32} (A : Arr Z h a (newA k ty z) ty) : own_A Z h a ty z.toNatClampNeg (fun _ => defaultValue ty) :=
  ⟨_, A, sz_new _ _ _, fun i hi => by simp [newA, hi]⟩
theorem own_A.set (F : own_A Z h a ty n f) (W : Wr h h' a sl v) : own_A Z h' a ty n (fun i => if i = sl then v else f i) := by
  obtain ⟨c, A, r1, r2⟩ := F
  refine ⟨_, A.same W, by rw [sz_set]; exact r1, fun i hi => ?_⟩
  by_cases q : i = sl
  · subst q; simp [Cell.setSlot, r1, hi]
  · simp only [Cell.setSlot, q, if_false]; rw [Array.getElem?_setIfInBounds_ne (Ne.symm q)]; exact r2 i hi
theorem own_ne_A {c : Nat} {C : String} {a0 : Array Value} (F : Exa Z h b C) (wi : (Jvm.Cond.instantiable C c).before a0 Z = true) (G : own_A Z h a ty n f) : b ≠ a := by
  obtain ⟨cl, A, -⟩ := G; exact ne_arr F wi A
end OwnArr
section OwnStand
variable {p : Program} {l : Launch} {e : Env} {R : Room} {s : State} {m : MethodId} {args : Array Value} {below : List Frame} {meth : Method} {c : Code} {T : State} {locs : List Loc} {cells slots : Nat} {Q : Option Value → Heap → List Loc → Prop} {Z : State} {a0 : Array Value} {h : Heap}
theorem own_ret {v : Option Value} {g : JFrame} (X : Stand p l e R s m args below meth c T locs cells slots) (hv : meth.sig.returnType = none → v = none) (hlocks : meth.locks = false) (hc : cells ≤ R.cells) (hs : slots ≤ R.slots) (hQ : Q v T.heap locs)
    (hstep : ∀ fs, (∀ (f : JFrame) (acts : List Action), f.method = m → f.locked = none → f.entered = [] → (doReturn e (T.setTop f) acts v).1 = T.setFrames fs) → Steps p.tables e below (T.setTop g) (T.setFrames fs)) : own_Fin p.tables e below s R Q T g := by
  obtain ⟨fs, hr, hrun, hended, hW, hsame⟩ := X.leave hv hlocks
  exact ⟨_, _, hstep fs hr, hrun, hended, _, _, rfl, hQ, ⟨_, rfl⟩, hW, hsame.mono hc hs⟩
theorem own_retI {pc : Nat} {Ls : Array Slot} {z : Int32} {rest : List Value} (X : Stand p l e R s m args below meth c T locs cells slots) (hx : p.tables.exec = Jvm.exec) (hret : meth.sig.returnType = some .int) (hlocks : meth.locks = false) (hd : decode c.code pc = .ok (.ireturn, 1))
    (hc : cells ≤ R.cells) (hs : slots ≤ R.slots) (hQ : Q (some (.int z)) T.heap locs) : own_Fin p.tables e below s R Q T (mkF m pc Ls (.int z :: rest)) :=
  own_ret X (fun h => by rw [hret] at h; cases h) hlocks hc hs hQ fun fs hr => retOut X hx hret rfl (Or.inl ⟨rfl, Or.inl rfl, _, rfl⟩) hd hr
theorem own_retJ {pc : Nat} {Ls : Array Slot} {z : Int64} {rest : List Value} (X : Stand p l e R s m args below meth c T locs cells slots) (hx : p.tables.exec = Jvm.exec) (hret : meth.sig.returnType = some .long) (hlocks : meth.locks = false) (hd : decode c.code pc = .ok (.lreturn, 1))
    (hc : cells ≤ R.cells) (hs : slots ≤ R.slots) (hQ : Q (some (.long z)) T.heap locs) : own_Fin p.tables e below s R Q T (mkF m pc Ls (.long z :: rest)) :=
  own_ret X (fun h => by rw [hret] at h; cases h) hlocks hc hs hQ fun fs hr => retOut X hx hret rfl (Or.inr (Or.inl ⟨rfl, rfl, _, rfl⟩)) hd hr
theorem own_retA {pc : Nat} {Ls : Array Slot} {t : FieldType} {b : Addr} {rest : List Value} (X : Stand p l e R s m args below meth c T locs cells slots) (hx : p.tables.exec = Jvm.exec) (hret : meth.sig.returnType = some t) (ht : t.isReference = true) (hn : narrow t (.ref b) = .ref b) (hlocks : meth.locks = false) (hd : decode c.code pc = .ok (.areturn, 1))
    (hc : cells ≤ R.cells) (hs : slots ≤ R.slots) (hQ : Q (some (.ref b)) T.heap locs) : own_Fin p.tables e below s R Q T (mkF m pc Ls (.ref b :: rest)) :=
  own_ret X (fun h => by rw [hret] at h; cases h) hlocks hc hs hQ fun fs hr => retOut X hx hret hn (Or.inr (Or.inr (Or.inr (Or.inr ⟨rfl, ht, rfl⟩)))) hd hr
theorem own_retN {pc : Nat} {Ls : Array Slot} {t : FieldType} {z : Int32} {rest : List Value} (X : Stand p l e R s m args below meth c T locs cells slots) (hx : p.tables.exec = Jvm.exec) (hret : meth.sig.returnType = some t) (ht : t = .boolean ∨ t = .byte ∨ t = .char ∨ t = .short) (hlocks : meth.locks = false) (hd : decode c.code pc = .ok (.ireturn, 1))
    (hc : cells ≤ R.cells) (hs : slots ≤ R.slots) (hQ : Q (some (.int (nar t z))) T.heap locs) : own_Fin p.tables e below s R Q T (mkF m pc Ls (.int z :: rest)) :=
  own_ret X (fun h => by rw [hret] at h; cases h) hlocks hc hs hQ fun fs hr => retN X hx hret ht hd hr
theorem own_retV {pc : Nat} {Ls : Array Slot} (X : Stand p l e R s m args below meth c T locs cells slots) (hx : p.tables.exec = Jvm.exec) (hret : meth.sig.returnType = none) (hlocks : meth.locks = false) (hd : decode c.code pc = .ok (.return_, 1))
    (hc : cells ≤ R.cells) (hs : slots ≤ R.slots) (hQ : Q none T.heap locs) : own_Fin p.tables e below s R Q T (mkF m pc Ls []) :=
  own_ret X (fun _ => rfl) hlocks hc hs hQ fun fs hr => X.returnOut hx hret hd hr
theorem own_iaload {n : Nat} {f : Nat → Value} {a : Addr} {j : Int32} {v : Value} {g : JFrame} {rest : List Value} (X : Stand p l e R s m args below meth c T locs cells slots) (hx : p.tables.exec = Jvm.exec) (hZ : Z.Warmed39 s.vm) (eT : T.heap = h) (F : own_A Z h a .int n f) (hj : ¬ (j < 0 ∨ n ≤ j.toNatClampNeg)) (hv : f j.toNatClampNeg = v)
    (hg : g.method = m) (hs : g.stack = .int j :: .ref a :: rest) (hd : decode c.code g.pc = .ok (.iaload, 1)) (t : State) (k : Steps p.tables e below (T.setTop { g with pc := g.pc + 1, stack := v :: rest }) t) : Steps p.tables e below (T.setTop g) t := by
  obtain ⟨cl, A, r1, r2⟩ := F
  exact X.iaload hx (by rw [eT]; exact A.1) (State.isArrayOf_alike hZ.alike A.2.1) A.2.2 (by rw [r1]; exact hj) (by rw [r2 _ (Nat.lt_of_not_le fun q => hj (Or.inr q)), hv]) hg hs hd t k
theorem own_laload {n : Nat} {f : Nat → Value} {a : Addr} {j : Int32} {v : Value} {g : JFrame} {rest : List Value} (X : Stand p l e R s m args below meth c T locs cells slots) (hx : p.tables.exec = Jvm.exec) (hZ : Z.Warmed39 s.vm) (eT : T.heap = h) (F : own_A Z h a .long n f) (hj : ¬ (j < 0 ∨ n ≤ j.toNatClampNeg)) (hv : f j.toNatClampNeg = v)
    (hg : g.method = m) (hs : g.stack = .int j :: .ref a :: rest) (hd : decode c.code g.pc = .ok (.laload, 1)) (t : State) (k : Steps p.tables e below (T.setTop { g with pc := g.pc + 1, stack := v :: rest }) t) : Steps p.tables e below (T.setTop g) t := by
  obtain ⟨cl, A, r1, r2⟩ := F
  exact X.laload hx (by rw [eT]; exact A.1) (State.isArrayOf_alike hZ.alike A.2.1) A.2.2 (by rw [r1]; exact hj) (by rw [r2 _ (Nat.lt_of_not_le fun q => hj (Or.inr q)), hv]) hg hs hd t k
theorem own_baload {n : Nat} {f : Nat → Value} {a : Addr} {j : Int32} {v : Value} {g : JFrame} {rest : List Value} (X : Stand p l e R s m args below meth c T locs cells slots) (hx : p.tables.exec = Jvm.exec) (hZ : Z.Warmed39 s.vm) (eT : T.heap = h) (F : own_A Z h a .byte n f) (hj : ¬ (j < 0 ∨ n ≤ j.toNatClampNeg)) (hv : f j.toNatClampNeg = v)
    (hg : g.method = m) (hs : g.stack = .int j :: .ref a :: rest) (hd : decode c.code g.pc = .ok (.baload, 1)) (t : State) (k : Steps p.tables e below (T.setTop { g with pc := g.pc + 1, stack := v :: rest }) t) : Steps p.tables e below (T.setTop g) t := by
  obtain ⟨cl, A, r1, r2⟩ := F
  exact X.baloadBytes hx (by rw [eT]; exact A.1) (State.isArrayOf_alike hZ.alike A.2.1) A.2.2 (by rw [r1]; exact hj) (by rw [r2 _ (Nat.lt_of_not_le fun q => hj (Or.inr q)), hv]) hg hs hd t k
theorem own_alen {ty : FieldType} {n : Nat} {f : Nat → Value} {a : Addr} {z : Int32} {g : JFrame} {rest : List Value} (X : Stand p l e R s m args below meth c T locs cells slots) (hx : p.tables.exec = Jvm.exec) (hZ : Z.Warmed39 s.vm) (eT : T.heap = h) (F : own_A Z h a ty n f) (hz : n.toInt32 = z)
    (hg : g.method = m) (hs : g.stack = .ref a :: rest) (hd : decode c.code g.pc = .ok (.arraylength, 1)) (t : State) (k : Steps p.tables e below (T.setTop { g with pc := g.pc + 1, stack := .int z :: rest }) t) : Steps p.tables e below (T.setTop g) t := by
  obtain ⟨cl, A, r1, r2⟩ := F
  subst hz
  exact X.arraylength hx (by rw [eT]; exact A.1) (State.isArrayOf_alike hZ.alike A.2.1) hg hs hd t (by rw [r1]; exact k)
theorem own_iastore {n : Nat} {f : Nat → Value} {a : Addr} {j x : Int32} {g : JFrame} {rest : List Value} (X : Stand p l e R s m args below meth c T locs cells slots) (hx : p.tables.exec = Jvm.exec) (hZ : Z.Warmed39 s.vm) (eT : T.heap = h) (F : own_A Z h a .int n f) (hj : ¬ (j < 0 ∨ n ≤ j.toNatClampNeg))
    (hg : g.method = m) (hs : g.stack = .int x :: .int j :: .ref a :: rest) (hd : decode c.code g.pc = .ok (.iastore, 1)) :
    ∃ T' h', Stand p l e R s m args below meth c T' (locs ++ [⟨a, j.toNatClampNeg⟩]) cells slots ∧ T'.heap = h' ∧ Wr h h' a j.toNatClampNeg (.int x) ∧ ∀ target, Steps p.tables e below (T'.setTop { g with pc := g.pc + 1, stack := rest }) target → Steps p.tables e below (T.setTop g) target := by
  obtain ⟨cl, A, r1, r2⟩ := F
  exact stI X hx hZ eT A (by rw [r1]; exact hj) hg hs hd
theorem own_lastore {n : Nat} {f : Nat → Value} {a : Addr} {j : Int32} {x : Int64} {g : JFrame} {rest : List Value} (X : Stand p l e R s m args below meth c T locs cells slots) (hx : p.tables.exec = Jvm.exec) (hZ : Z.Warmed39 s.vm) (eT : T.heap = h) (F : own_A Z h a .long n f) (hj : ¬ (j < 0 ∨ n ≤ j.toNatClampNeg))
    (hg : g.method = m) (hs : g.stack = .long x :: .int j :: .ref a :: rest) (hd : decode c.code g.pc = .ok (.lastore, 1)) :
    ∃ T' h', Stand p l e R s m args below meth c T' (locs ++ [⟨a, j.toNatClampNeg⟩]) cells slots ∧ T'.heap = h' ∧ Wr h h' a j.toNatClampNeg (.long x) ∧ ∀ target, Steps p.tables e below (T'.setTop { g with pc := g.pc + 1, stack := rest }) target → Steps p.tables e below (T.setTop g) target := by
  obtain ⟨cl, A, r1, r2⟩ := F
  exact stJ X hx hZ eT A (by rw [r1]; exact hj) hg hs hd
theorem own_bastore {n : Nat} {f : Nat → Value} {a : Addr} {j x : Int32} {g : JFrame} {rest : List Value} (X : Stand p l e R s m args below meth c T locs cells slots) (hx : p.tables.exec = Jvm.exec) (hZ : Z.Warmed39 s.vm) (eT : T.heap = h) (F : own_A Z h a .byte n f) (hj : ¬ (j < 0 ∨ n ≤ j.toNatClampNeg))
    (hg : g.method = m) (hs : g.stack = .int x :: .int j :: .ref a :: rest) (hd : decode c.code g.pc = .ok (.bastore, 1)) :
    ∃ T' h', Stand p l e R s m args below meth c T' (locs ++ [⟨a, j.toNatClampNeg⟩]) cells slots ∧ T'.heap = h' ∧ Wr h h' a j.toNatClampNeg (.int (nar .byte x)) ∧ ∀ target, Steps p.tables e below (T'.setTop { g with pc := g.pc + 1, stack := rest }) target → Steps p.tables e below (T.setTop g) target := by
  obtain ⟨cl, A, r1, r2⟩ := F
  exact stB X hx hZ eT A (by rw [r1]; exact hj) hg hs hd
theorem own_newarr {aty : ArrayType} {n : Int32} {rest : List Value} {g : JFrame} (X : Stand p l e R s m args below meth c T locs cells slots) (hx : p.tables.exec = Jvm.exec) (hZ : Z.Warmed39 s.vm) (w : (Jvm.Cond.arrayClass (newarray.typeOf aty)).before a0 Z = true) (eT : T.heap = h) (hg : g.method = m) (hd : decode c.code g.pc = .ok (.newarray aty, 2)) (hs : g.stack = .int n :: rest)
    (hn : ¬ n < 0) {cap : Nat} (hcap : n.toNatClampNeg ≤ cap) (hb : cap * 8 ≤ 536870912) (hc : cells + 1 ≤ R.cells) (hl : slots + cap ≤ R.slots) :
    ∃ T' h' a, Stand p l e R s m args below meth c T' locs (cells + 1) (slots + cap) ∧ T'.heap = h' ∧ a = h.size ∧ Ext h h' ∧ own_A Z h' a (newarray.typeOf aty) n.toNatClampNeg (fun _ => defaultValue (newarray.typeOf aty)) ∧
      ∀ target, Steps p.tables e below (T'.setTop { g with pc := g.pc + 2, stack := .ref a :: rest }) target → Steps p.tables e below (T.setTop g) target := by
  obtain ⟨T', h', cA, X', e', E', A', st⟩ := newP X hx hZ w eT hg hd hs hn hcap hb hc hl
  exact ⟨T', h', _, X', e', rfl, E', own_A.new A', st⟩
theorem own_new {own C : String} {index n : Nat} {g : JFrame} (X : Stand p l e R s m args below meth c T locs cells slots) (hx : p.tables.exec = Jvm.exec) (hZ : Z.Warmed39 s.vm) (hown : s.vm.findClass own = some m.cls) (w : (Jvm.Cond.classLink own index C).before a0 Z = true) (wi : (Jvm.Cond.instantiable C n).before a0 Z = true) (wz : (Jvm.Cond.initialized C).before a0 Z = true) (eT : T.heap = h)
    (hg : g.method = m) (hd : decode c.code g.pc = .ok (.new index, 3)) (hc : cells + 1 ≤ R.cells) (hl : slots + n ≤ R.slots) :
    ∃ T' h' a, Stand p l e R s m args below meth c T' locs (cells + 1) (slots + n) ∧ T'.heap = h' ∧ a = h.size ∧ Ext h h' ∧ Exa Z h' a C ∧ (∀ {O nm d : String} {ty : FieldType}, Laid Z a0 C O nm d → parseFieldDescriptor d = some ty → Fld Z h' a O nm d (defaultValue ty)) ∧
      ∀ target, Steps p.tables e below (T'.setTop { g with pc := g.pc + 3, stack := .ref a :: g.stack }) target → Steps p.tables e below (T.setTop g) target := by
  obtain ⟨T', h', X', e', E', A', D', -, st⟩ := newO X hx hZ hown w wi wz eT hg hd hc hl
  exact ⟨T', h', _, X', e', rfl, E', A', D', st⟩
theorem own_body {y : MethodName} {bytes : ByteArray} {maxL : Nat} {ret : Option FieldType} {ws : List Jvm.Cond} {rm : Room} {as' : Array Value} {h0 : Heap} (hpl : plainFor y = true)
    (body : ∀ (p : Program) (e : Env) (s : State) (m : MethodId) (below : List Frame) (meth : Method) (c : Code) (s₁ : State), p.tables.exec = Jvm.exec → c.code = bytes → c.maxLocals = maxL → s.vm.findClass y.cls = some m.cls → meth.name = y.name → meth.sig.returnType = ret → meth.locks = false → Z.Warmed39 s.vm → Stand p l e rm s m as' below meth c s₁ [] 0 0 → s₁.heap = h0 → own_Fin p.tables e below s rm Q s₁ (entryFrame m as' maxL)) :
    MetFree l y (head1 (Jvm.Cond.code y bytes maxL ret :: ws) rm) (fun a U => a = as' ∧ Z.Warmed39 U.vm ∧ U.heap = h0) (fun _ _ _ _ _ => True) (fun _ U o U' => ∃ v L, o = .returned v ∧ Q v U'.heap L ∧ FrameEnd U o U' L rm.cells rm.slots) := by
  refine MetFree.of_bodySF hpl hisR ?_
  intro p e s m args below meth c s₁ Bd hml0 hP hK
  obtain ⟨rfl, hZ, hh⟩ := hP
  exact body p e s m below meth c s₁ Bd.exec Bd.bytes hml0 (findClass_of_methodNamed Bd.named) (name_of_methodNamed Bd.named Bd.method).1 Bd.returns Bd.notSynchronized hZ (Stand.of_body Bd) (by rw [← hh, Bd.state]; rfl)
theorem own_callS {own : String} {index : Nat} {y : MethodName} {bytes : ByteArray} {maxL W : Nat} {ret : Option FieldType} {rm : Room} {as' : Array Value} {g : JFrame} {argsL rest : List Value}
    (X : Stand p l e R s m args below meth c T locs cells slots) (hx : p.tables.exec = Jvm.exec) (hZ : Z.Warmed39 s.vm) (hown : s.vm.findClass own = some m.cls)
    (w1 : (Jvm.Cond.methodLink own index y).before a0 Z = true) (w2 : (Jvm.Cond.static y).before a0 Z = true) (w3 : (Jvm.Cond.initialized y.cls).before a0 Z = true) (w4 : (Jvm.Cond.code y bytes maxL ret).before a0 Z = true)
    (hy : y.cls ≠ "java/lang/invoke/MethodHandle" ∧ y.cls ≠ "java/lang/invoke/VarHandle") (eT : T.heap = h)
    (hM : MetFree l y (head1 [Jvm.Cond.code y bytes maxL ret] rm) (fun a U => a = as' ∧ Z.Warmed39 U.vm ∧ U.heap = h) (fun _ _ _ _ _ => True) (fun _ U o U' => ∃ v L, o = .returned v ∧ Q v U'.heap L ∧ FrameEnd U o U' L rm.cells rm.slots))
    (hf : rm.frames + 1 ≤ R.frames) (hl : W + (maxL + 11) + rm.locals ≤ R.locals) (hg : g.method = m) (hsize : g.locals.size = c.maxLocals) (hlen : ∀ sig, parseMethodDescriptor y.desc = some sig → argsL.length = sig.parameters.length)
    (hstack : g.stack = argsL.reverse ++ rest) (has : argsL.toArray = as') (hW : 2 * g.monitorRoom + (rest.map fun v => v.category).sum ≤ W) (hdg : decode c.code g.pc = .ok (.invokestatic index, 3)) (hc : cells + rm.cells ≤ R.cells) (hs : slots + rm.slots ≤ R.slots) :
    ∃ (v : Option Value) (T' : State) (L : List Loc), Stand p l e R s m args below meth c T' (locs ++ L) (cells + rm.cells) (slots + rm.slots) ∧ Q v T'.heap L ∧
      ∀ target, Steps p.tables e below (T'.setTop { g with pc := g.pc + 3, stack := v.toList ++ rest }) target → Steps p.tables e below (T.setTop g) target := by
  obtain ⟨v, _, ⟨T', L', k', n'⟩, -, X', ⟨Lc, hQ, l', y', z'⟩, st⟩ := Jvm.LawKit.callS X hx (y := y) hown (mvT hZ w1) (mvT hZ w2) (mvT hZ w3) (mvT hZ w4) hy (backOf (W := W) hM hZ w4 w3 hf hl) hg hsize hlen hstack hW hdg (fun _ _ => ⟨has, eT, hc, hs⟩)
  dsimp only [Pt.U, Pt.locs, Pt.cells, Pt.slots] at X' l' y' z' st hQ
  subst l' y' z'
  exact ⟨v, T', Lc, X', hQ, st⟩
theorem own_callN {own : String} {index : Nat} {y : MethodName} {bytes : ByteArray} {maxL W : Nat} {rm : Room} {as' : Array Value} {g : JFrame} {a : Addr} {argsL rest : List Value}
    (X : Stand p l e R s m args below meth c T locs cells slots) (hx : p.tables.exec = Jvm.exec) (hZ : Z.Warmed39 s.vm) (hy1 : y.name = "<init>") (hown : s.vm.findClass own = some m.cls)
    (w1 : (Jvm.Cond.methodLink own index y).before a0 Z = true) (w2 : (Jvm.Cond.instanceMethod y).before a0 Z = true) (w3 : (Jvm.Cond.initialized y.cls).before a0 Z = true) (w4 : (Jvm.Cond.code y bytes maxL none).before a0 Z = true)
    (hy : y.cls ≠ "java/lang/invoke/MethodHandle" ∧ y.cls ≠ "java/lang/invoke/VarHandle") (eT : T.heap = h)
    (hM : MetFree l y (head1 [Jvm.Cond.code y bytes maxL none] rm) (fun a U => a = as' ∧ Z.Warmed39 U.vm ∧ U.heap = h) (fun _ _ _ _ _ => True) (fun _ U o U' => ∃ v L, o = .returned v ∧ Q v U'.heap L ∧ FrameEnd U o U' L rm.cells rm.slots))
    (hf : rm.frames + 1 ≤ R.frames) (hl : W + (maxL + 11) + rm.locals ≤ R.locals) (hg : g.method = m) (hsize : g.locals.size = c.maxLocals) (hlen : ∀ sig, parseMethodDescriptor y.desc = some sig → argsL.length = sig.parameters.length)
    (hstack : g.stack = argsL.reverse ++ .ref a :: rest) (has : (.ref a :: argsL).toArray = as') (hW : 2 * g.monitorRoom + (rest.map fun v => v.category).sum ≤ W) (hdg : decode c.code g.pc = .ok (.invokespecial index, 3)) (hc : cells + rm.cells ≤ R.cells) (hs : slots + rm.slots ≤ R.slots) :
    ∃ (v : Option Value) (T' : State) (L : List Loc), Stand p l e R s m args below meth c T' (locs ++ L) (cells + rm.cells) (slots + rm.slots) ∧ Q v T'.heap L ∧
      ∀ target, Steps p.tables e below (T'.setTop { g with pc := g.pc + 3, stack := v.toList ++ rest }) target → Steps p.tables e below (T.setTop g) target := by
  obtain ⟨v, _, ⟨T', L', k', n'⟩, -, X', ⟨Lc, hQ, l', y', z'⟩, st⟩ := X.specialBack hx (y := y) hy1 hown (mvT hZ w1) (mvT hZ w2) (mvT hZ w4) hy (backOf (W := W) hM hZ w4 w3 hf hl) hg hsize (Steps.refl _) (a := a) hlen hstack hW hdg (fun _ _ => ⟨has, eT, hc, hs⟩)
  dsimp only [Pt.U, Pt.locs, Pt.cells, Pt.slots] at X' l' y' z' st hQ
  subst l' y' z'
  exact ⟨v, T', Lc, X', hQ, fun _ k => st.trans k⟩
theorem own_callV {own C : String} {index : Nat} {y : MethodName} {bytes : ByteArray} {maxL W : Nat} {ret : Option FieldType} {rm : Room} {as' : Array Value} {g : JFrame} {a : Addr} {argsL rest : List Value}
    (X : Stand p l e R s m args below meth c T locs cells slots) (hx : p.tables.exec = Jvm.exec) (hZ : Z.Warmed39 s.vm) (hown : s.vm.findClass own = some m.cls)
    (w1 : (Jvm.Cond.methodLink own index y).before a0 Z = true) (w2 : (Jvm.Cond.declares y).before a0 Z = true) (w3 : (Jvm.Cond.selects C y y).before a0 Z = true) (w4 : (Jvm.Cond.instanceMethod y).before a0 Z = true) (w5 : (Jvm.Cond.initialized y.cls).before a0 Z = true) (w6 : (Jvm.Cond.code y bytes maxL ret).before a0 Z = true)
    (hy : y.cls ≠ "java/lang/invoke/MethodHandle" ∧ y.cls ≠ "java/lang/invoke/VarHandle") (eT : T.heap = h) (E : Exa Z h a C)
    (hM : MetFree l y (head1 [Jvm.Cond.code y bytes maxL ret] rm) (fun a U => a = as' ∧ Z.Warmed39 U.vm ∧ U.heap = h) (fun _ _ _ _ _ => True) (fun _ U o U' => ∃ v L, o = .returned v ∧ Q v U'.heap L ∧ FrameEnd U o U' L rm.cells rm.slots))
    (hf : rm.frames + 1 ≤ R.frames) (hl : W + (maxL + 11) + rm.locals ≤ R.locals) (hg : g.method = m) (hsize : g.locals.size = c.maxLocals) (hlen : ∀ sig, parseMethodDescriptor y.desc = some sig → argsL.length = sig.parameters.length)
    (hstack : g.stack = argsL.reverse ++ .ref a :: rest) (has : (.ref a :: argsL).toArray = as') (hW : 2 * g.monitorRoom + (rest.map fun v => v.category).sum ≤ W) (hdg : decode c.code g.pc = .ok (.invokevirtual index, 3)) (hc : cells + rm.cells ≤ R.cells) (hs : slots + rm.slots ≤ R.slots) :
    ∃ (v : Option Value) (T' : State) (L : List Loc), Stand p l e R s m args below meth c T' (locs ++ L) (cells + rm.cells) (slots + rm.slots) ∧ Q v T'.heap L ∧
      ∀ target, Steps p.tables e below (T'.setTop { g with pc := g.pc + 3, stack := v.toList ++ rest }) target → Steps p.tables e below (T.setTop g) target := by
  obtain ⟨cq, kq, qa, qb, qc⟩ := isOf hZ eT E
  obtain ⟨v, _, ⟨T', L', k', n'⟩, -, X', ⟨Lc, hQ, l', y', z'⟩, st⟩ := X.virtualBack hx (y := y) (z := y) hown (mvT hZ w1) (mvT hZ w2) (notFace_of_selects (args := args) (mvT hZ w3)) (mvT hZ w3) (mvT hZ w4) hy (backOf (W := W) hM hZ w6 w5 hf hl) qa qc hg hsize (Steps.refl _) hlen hstack hW hdg (fun _ _ => ⟨has, eT, hc, hs⟩)
  dsimp only [Pt.U, Pt.locs, Pt.cells, Pt.slots] at X' l' y' z' st hQ
  subst l' y' z'
  exact ⟨v, T', Lc, X', hQ, fun _ k => st.trans k⟩
end OwnStand
theorem d2_0 : decode jdk_30_method_1_code 0 = .ok (.aload_n 0, 1) := by decide +kernel
theorem d2_1 : decode jdk_30_method_1_code 1 = .ok (.invokespecial 1, 3) := by decide +kernel
theorem d2_4 : decode jdk_30_method_1_code 4 = .ok (.return_, 1) := by decide +kernel
theorem pn_2 : plainFor (⟨"java/lang/Record", "<init>", "()V"⟩ : MethodName) = true := plainFor_of_name (by first | (simp [plainName, overriddenIn]; done) | decide +kernel)
theorem ef_2 (m : MethodId) (a : Addr) : entryFrame m #[(.ref a)] 1 = mkF m 0 #[.val (.ref a)] [] := by first | (simp [entryFrame, mkF, argsToLocals, Value.category]; done) | rfl
def Q2 (Z : State) (a : Addr) (h0 : Heap) (n0 : Nat) (v : Option Value) (h : Heap) (L : List Loc) : Prop := v = none ∧ Fr n0 L ∧ h = h0
set_option maxRecDepth 65536 in
set_option maxHeartbeats 40000000 in
theorem rm2 (l : Launch) (Z : State) (a0 : Array Value) (hw : ∀ d ∈ tables_1, d.before a0 Z = true) (ws : List Jvm.Cond) (a : Addr) (h0 : Heap) (n0 : Nat) (Z0 : n0 ≤ h0.size) :
    MetFree l (⟨"java/lang/Record", "<init>", "()V"⟩ : MethodName) (head1 (Jvm.Cond.code (⟨"java/lang/Record", "<init>", "()V"⟩ : MethodName) jdk_30_method_1_code 1 none :: ws) ({ frames := 1, cells := 0, slots := 0, locals := 12 } : Room)) (fun xa U => xa = #[(.ref a)] ∧ Z.Warmed39 U.vm ∧ U.heap = h0) (fun _ _ _ _ _ => True) (fun _ U o U' => ∃ v L, o = .returned v ∧ Q2 Z a h0 n0 v U'.heap L ∧ FrameEnd U o U' L ({ frames := 1, cells := 0, slots := 0, locals := 12 } : Room).cells ({ frames := 1, cells := 0, slots := 0, locals := 12 } : Room).slots) := by
  refine own_body pn_2 ?_
  intro p e s m below meth c s₁ hx hby hml hown hnm hret hlk hZ X0 e0
  obtain ⟨F, hF⟩ : ∃ F : State → JFrame → Prop, F = own_Fin p.tables e below s ({ frames := 1, cells := 0, slots := 0, locals := 12 } : Room) (Q2 Z a h0 n0) := ⟨_, rfl⟩
  have hst : ∀ {T T' : State} {g g' : JFrame}, (∀ t, Steps p.tables e below (T'.setTop g') t → Steps p.tables e below (T.setTop g) t) → F T' g' → F T g := by subst hF; exact own_st
  have N0 := Fr.nil n0
  show own_Fin p.tables e below s ({ frames := 1, cells := 0, slots := 0, locals := 12 } : Room) (Q2 Z a h0 n0) s₁ (entryFrame m #[(.ref a)] 1)
  rw [← hF]
  rw [ef_2]
  show F s₁ (mkF m 0 #[.val (.ref a)] [])
  refine hst (fun t k => XS.aloadN X0.here hx rfl (hb hby d2_0) rfl rfl k) ?_
  show F s₁ (mkF m 1 #[.val (.ref a)] [(.ref a)])
  obtain ⟨T1, X1, e1, st1⟩ := initO X0 hx hZ hown (hw _ (List.mem_of_getElem? (i := 11) rfl)) (hw _ (List.mem_of_getElem? (i := 12) rfl)) (hw _ (List.mem_of_getElem? (i := 13) rfl)) e0 (g := (mkF m 1 #[.val (.ref a)] [(.ref a)])) rfl (by rw [hml]; rfl) rfl (hb hby d2_1) (by decide) (W := 0) (by show 2 * 0 + _ ≤ _; exact Nat.le_of_eq rfl) (by decide)
  refine hst st1 ?_
  show F T1 (mkF m 4 #[.val (.ref a)] [])
  rw [hF]
  refine own_retV X1 hx hret hlk (hb hby d2_4) (by decide) (by decide) ?_
  rw [e1]
  exact ⟨rfl, N0, rfl⟩
theorem d1_0 : decode prog_4_method_1_code 0 = .ok (.aload_n 0, 1) := by decide +kernel
theorem d1_1 : decode prog_4_method_1_code 1 = .ok (.invokespecial 1, 3) := by decide +kernel
theorem d1_4 : decode prog_4_method_1_code 4 = .ok (.aload_n 0, 1) := by decide +kernel
theorem d1_5 : decode prog_4_method_1_code 5 = .ok (.iload_n 1, 1) := by decide +kernel
theorem d1_6 : decode prog_4_method_1_code 6 = .ok (.putfield 7, 3) := by decide +kernel
theorem d1_9 : decode prog_4_method_1_code 9 = .ok (.aload_n 0, 1) := by decide +kernel
theorem d1_10 : decode prog_4_method_1_code 10 = .ok (.iload_n 2, 1) := by decide +kernel
theorem d1_11 : decode prog_4_method_1_code 11 = .ok (.putfield 13, 3) := by decide +kernel
theorem d1_14 : decode prog_4_method_1_code 14 = .ok (.aload_n 0, 1) := by decide +kernel
theorem d1_15 : decode prog_4_method_1_code 15 = .ok (.iload_n 3, 1) := by decide +kernel
theorem d1_16 : decode prog_4_method_1_code 16 = .ok (.putfield 16, 3) := by decide +kernel
theorem d1_19 : decode prog_4_method_1_code 19 = .ok (.aload_n 0, 1) := by decide +kernel
theorem d1_20 : decode prog_4_method_1_code 20 = .ok (.iload 4, 2) := by decide +kernel
theorem d1_22 : decode prog_4_method_1_code 22 = .ok (.putfield 19, 3) := by decide +kernel
theorem d1_25 : decode prog_4_method_1_code 25 = .ok (.aload_n 0, 1) := by decide +kernel
theorem d1_26 : decode prog_4_method_1_code 26 = .ok (.iload 5, 2) := by decide +kernel
theorem d1_28 : decode prog_4_method_1_code 28 = .ok (.putfield 22, 3) := by decide +kernel
theorem d1_31 : decode prog_4_method_1_code 31 = .ok (.aload_n 0, 1) := by decide +kernel
theorem d1_32 : decode prog_4_method_1_code 32 = .ok (.iload 6, 2) := by decide +kernel
theorem d1_34 : decode prog_4_method_1_code 34 = .ok (.putfield 25, 3) := by decide +kernel
theorem d1_37 : decode prog_4_method_1_code 37 = .ok (.aload_n 0, 1) := by decide +kernel
theorem d1_38 : decode prog_4_method_1_code 38 = .ok (.iload 7, 2) := by decide +kernel
theorem d1_40 : decode prog_4_method_1_code 40 = .ok (.putfield 28, 3) := by decide +kernel
theorem d1_43 : decode prog_4_method_1_code 43 = .ok (.aload_n 0, 1) := by decide +kernel
theorem d1_44 : decode prog_4_method_1_code 44 = .ok (.iload 8, 2) := by decide +kernel
theorem d1_46 : decode prog_4_method_1_code 46 = .ok (.putfield 31, 3) := by decide +kernel
theorem d1_49 : decode prog_4_method_1_code 49 = .ok (.aload_n 0, 1) := by decide +kernel
theorem d1_50 : decode prog_4_method_1_code 50 = .ok (.iload 9, 2) := by decide +kernel
theorem d1_52 : decode prog_4_method_1_code 52 = .ok (.putfield 34, 3) := by decide +kernel
theorem d1_55 : decode prog_4_method_1_code 55 = .ok (.aload_n 0, 1) := by decide +kernel
theorem d1_56 : decode prog_4_method_1_code 56 = .ok (.iload 10, 2) := by decide +kernel
theorem d1_58 : decode prog_4_method_1_code 58 = .ok (.putfield 37, 3) := by decide +kernel
theorem d1_61 : decode prog_4_method_1_code 61 = .ok (.aload_n 0, 1) := by decide +kernel
theorem d1_62 : decode prog_4_method_1_code 62 = .ok (.iload 11, 2) := by decide +kernel
theorem d1_64 : decode prog_4_method_1_code 64 = .ok (.putfield 40, 3) := by decide +kernel
theorem d1_67 : decode prog_4_method_1_code 67 = .ok (.return_, 1) := by decide +kernel
theorem pn_1 : plainFor (⟨"com/example/horarium/horarium/course/Score", "<init>", "(IIIIIIIIIII)V"⟩ : MethodName) = true := plainFor_of_name (by first | (simp [plainName, overriddenIn]; done) | decide +kernel)
theorem pd_1 : parseMethodDescriptor "()V" = some ⟨[], none⟩ := by decide +kernel
theorem ef_1 (m : MethodId) (a : Addr) (p1 : Int32) (p2 : Int32) (p3 : Int32) (p4 : Int32) (p5 : Int32) (p6 : Int32) (p7 : Int32) (p8 : Int32) (p9 : Int32) (p10 : Int32) (p11 : Int32) : entryFrame m #[(.ref a), (.int p1), (.int p2), (.int p3), (.int p4), (.int p5), (.int p6), (.int p7), (.int p8), (.int p9), (.int p10), (.int p11)] 12 = mkF m 0 #[.val (.ref a), .val (.int p1), .val (.int p2), .val (.int p3), .val (.int p4), .val (.int p5), .val (.int p6), .val (.int p7), .val (.int p8), .val (.int p9), .val (.int p10), .val (.int p11)] [] := by first | (simp [entryFrame, mkF, argsToLocals, Value.category]; done) | rfl
def Q1 (Z : State) (a : Addr) (p1 : Int32) (p2 : Int32) (p3 : Int32) (p4 : Int32) (p5 : Int32) (p6 : Int32) (p7 : Int32) (p8 : Int32) (p9 : Int32) (p10 : Int32) (p11 : Int32) (h0 : Heap) (n0 : Nat) (v : Option Value) (h : Heap) (L : List Loc) : Prop := v = none ∧ Fr n0 L ∧ Keep h0 h [a] ∧ Exa Z h a "com/example/horarium/horarium/course/Score" ∧ Fld Z h a "com/example/horarium/horarium/course/Score" "softLastTimeslot" "I" (.int p9) ∧ Fld Z h a "com/example/horarium/horarium/course/Score" "softThreeInARow" "I" (.int p10) ∧ Fld Z h a "com/example/horarium/horarium/course/Score" "softSingleEventDay" "I" (.int p11)
set_option maxRecDepth 65536 in
set_option maxHeartbeats 40000000 in
theorem rm1 (l : Launch) (Z : State) (a0 : Array Value) (hw : ∀ d ∈ tables_1, d.before a0 Z = true) (ws : List Jvm.Cond) (a : Addr) (p1 : Int32) (p2 : Int32) (p3 : Int32) (p4 : Int32) (p5 : Int32) (p6 : Int32) (p7 : Int32) (p8 : Int32) (p9 : Int32) (p10 : Int32) (p11 : Int32) (h0 : Heap) (n0 : Nat) (Z0 : n0 ≤ h0.size) (E_a : Exa Z h0 a "com/example/horarium/horarium/course/Score") (ge_a : n0 ≤ a) (F_events : Fld Z h0 a "com/example/horarium/horarium/course/Score" "events" "I" (.int (0 : Int32))) (F_unplaced : Fld Z h0 a "com/example/horarium/horarium/course/Score" "unplaced" "I" (.int (0 : Int32))) (F_distanceToFeasibility : Fld Z h0 a "com/example/horarium/horarium/course/Score" "distanceToFeasibility" "I" (.int (0 : Int32))) (F_unsuitableRooms : Fld Z h0 a "com/example/horarium/horarium/course/Score" "unsuitableRooms" "I" (.int (0 : Int32))) (F_unavailableTimeslots : Fld Z h0 a "com/example/horarium/horarium/course/Score" "unavailableTimeslots" "I" (.int (0 : Int32))) (F_precedenceViolations : Fld Z h0 a "com/example/horarium/horarium/course/Score" "precedenceViolations" "I" (.int (0 : Int32))) (F_studentClashes : Fld Z h0 a "com/example/horarium/horarium/course/Score" "studentClashes" "I" (.int (0 : Int32))) (F_roomClashes : Fld Z h0 a "com/example/horarium/horarium/course/Score" "roomClashes" "I" (.int (0 : Int32))) (F_softLastTimeslot : Fld Z h0 a "com/example/horarium/horarium/course/Score" "softLastTimeslot" "I" (.int (0 : Int32))) (F_softThreeInARow : Fld Z h0 a "com/example/horarium/horarium/course/Score" "softThreeInARow" "I" (.int (0 : Int32))) (F_softSingleEventDay : Fld Z h0 a "com/example/horarium/horarium/course/Score" "softSingleEventDay" "I" (.int (0 : Int32))) :
    MetFree l (⟨"com/example/horarium/horarium/course/Score", "<init>", "(IIIIIIIIIII)V"⟩ : MethodName) (head1 (Jvm.Cond.code (⟨"com/example/horarium/horarium/course/Score", "<init>", "(IIIIIIIIIII)V"⟩ : MethodName) prog_4_method_1_code 12 none :: ws) ({ frames := 2, cells := 0, slots := 0, locals := 24 } : Room)) (fun xa U => xa = #[(.ref a), (.int p1), (.int p2), (.int p3), (.int p4), (.int p5), (.int p6), (.int p7), (.int p8), (.int p9), (.int p10), (.int p11)] ∧ Z.Warmed39 U.vm ∧ U.heap = h0) (fun _ _ _ _ _ => True) (fun _ U o U' => ∃ v L, o = .returned v ∧ Q1 Z a p1 p2 p3 p4 p5 p6 p7 p8 p9 p10 p11 h0 n0 v U'.heap L ∧ FrameEnd U o U' L ({ frames := 2, cells := 0, slots := 0, locals := 24 } : Room).cells ({ frames := 2, cells := 0, slots := 0, locals := 24 } : Room).slots) := by
  refine own_body pn_1 ?_
  intro p e s m below meth c s₁ hx hby hml hown hnm hret hlk hZ X0 e0
  obtain ⟨F, hF⟩ : ∃ F : State → JFrame → Prop, F = own_Fin p.tables e below s ({ frames := 2, cells := 0, slots := 0, locals := 24 } : Room) (Q1 Z a p1 p2 p3 p4 p5 p6 p7 p8 p9 p10 p11 h0 n0) := ⟨_, rfl⟩
  have hst : ∀ {T T' : State} {g g' : JFrame}, (∀ t, Steps p.tables e below (T'.setTop g') t → Steps p.tables e below (T.setTop g) t) → F T' g' → F T g := by subst hF; exact own_st
  have N0 := Fr.nil n0
  show own_Fin p.tables e below s ({ frames := 2, cells := 0, slots := 0, locals := 24 } : Room) (Q1 Z a p1 p2 p3 p4 p5 p6 p7 p8 p9 p10 p11 h0 n0) s₁ (entryFrame m #[(.ref a), (.int p1), (.int p2), (.int p3), (.int p4), (.int p5), (.int p6), (.int p7), (.int p8), (.int p9), (.int p10), (.int p11)] 12)
  rw [← hF]
  rw [ef_1]
  show F s₁ (mkF m 0 #[.val (.ref a), .val (.int p1), .val (.int p2), .val (.int p3), .val (.int p4), .val (.int p5), .val (.int p6), .val (.int p7), .val (.int p8), .val (.int p9), .val (.int p10), .val (.int p11)] [])
  refine hst (fun t k => XS.aloadN X0.here hx rfl (hb hby d1_0) rfl rfl k) ?_
  show F s₁ (mkF m 1 #[.val (.ref a), .val (.int p1), .val (.int p2), .val (.int p3), .val (.int p4), .val (.int p5), .val (.int p6), .val (.int p7), .val (.int p8), .val (.int p9), .val (.int p10), .val (.int p11)] [(.ref a)])
  obtain ⟨v1, T1, Lc1, X1, hQ1, st1⟩ := own_callN X0 hx hZ (y := (⟨"java/lang/Record", "<init>", "()V"⟩ : MethodName)) rfl hown (hw _ (List.mem_of_getElem? (i := 6) rfl)) (hw _ (List.mem_of_getElem? (i := 7) rfl)) (hw _ (List.mem_of_getElem? (i := 9) rfl)) (hw _ (List.mem_of_getElem? (i := 10) rfl)) (by decide) e0 (rm2 l Z a0 hw [] a h0 n0 Z0 ) (by decide) (by decide) (g := (mkF m 1 #[.val (.ref a), .val (.int p1), .val (.int p2), .val (.int p3), .val (.int p4), .val (.int p5), .val (.int p6), .val (.int p7), .val (.int p8), .val (.int p9), .val (.int p10), .val (.int p11)] [(.ref a)])) rfl (by rw [hml]; rfl) (a := a) (argsL := []) (rest := []) (lenOf pd_1 rfl) rfl rfl (W := 0) (by show 2 * 0 + _ ≤ _; exact Nat.le_of_eq rfl) (hb hby d1_1) (by decide) (by decide)
  obtain ⟨rfl, Nq1, he1⟩ := hQ1
  have N1 := Fr.app N0 Nq1
  refine hst st1 ?_
  show F T1 (mkF m 4 #[.val (.ref a), .val (.int p1), .val (.int p2), .val (.int p3), .val (.int p4), .val (.int p5), .val (.int p6), .val (.int p7), .val (.int p8), .val (.int p9), .val (.int p10), .val (.int p11)] [])
  refine hst (fun t k => XS.aloadN X1.here hx rfl (hb hby d1_4) rfl rfl k) ?_
  show F T1 (mkF m 5 #[.val (.ref a), .val (.int p1), .val (.int p2), .val (.int p3), .val (.int p4), .val (.int p5), .val (.int p6), .val (.int p7), .val (.int p8), .val (.int p9), .val (.int p10), .val (.int p11)] [(.ref a)])
  refine hst (fun t k => XS.iloadN X1.here hx rfl (hb hby d1_5) rfl k) ?_
  show F T1 (mkF m 6 #[.val (.ref a), .val (.int p1), .val (.int p2), .val (.int p3), .val (.int p4), .val (.int p5), .val (.int p6), .val (.int p7), .val (.int p8), .val (.int p9), .val (.int p10), .val (.int p11)] [(.int p1), (.ref a)])
  obtain ⟨T6, h6, X6, e6, W6, st6⟩ := putF X1 hx hZ hown (host := "") (Or.inl (hw _ (List.mem_of_getElem? (i := 14) rfl))) Via.refl he1 F_events E_a (Or.inr ⟨(hw _ (List.mem_of_getElem? (i := 15) rfl)), rfl, hnm⟩) (hw _ (List.mem_of_getElem? (i := 1) rfl)) (ty := .int) (by decide) rfl rfl (g := (mkF m 6 #[.val (.ref a), .val (.int p1), .val (.int p2), .val (.int p3), .val (.int p4), .val (.int p5), .val (.int p6), .val (.int p7), .val (.int p8), .val (.int p9), .val (.int p10), .val (.int p11)] [(.int p1), (.ref a)])) rfl rfl (hb hby d1_6)
  have N6 := Fr.snoc X6 N1 ge_a
  have E_a_p6 : Exa Z h6 a "com/example/horarium/horarium/course/Score" := E_a.wr W6
  have F_events_p6 : Fld Z h6 a "com/example/horarium/horarium/course/Score" "events" "I" (.int p1) := F_events.same W6
  have F_unplaced_p6 : Fld Z h6 a "com/example/horarium/horarium/course/Score" "unplaced" "I" (.int (0 : Int32)) := F_unplaced.other W6 (Or.inr (slot_ne (Or.inr (hw _ (List.mem_of_getElem? (i := 17) rfl))) (Or.inr (hw _ (List.mem_of_getElem? (i := 15) rfl))) (by decide) (t := .int) (t' := .int) (by decide) (by decide)))
  have F_distanceToFeasibility_p6 : Fld Z h6 a "com/example/horarium/horarium/course/Score" "distanceToFeasibility" "I" (.int (0 : Int32)) := F_distanceToFeasibility.other W6 (Or.inr (slot_ne (Or.inr (hw _ (List.mem_of_getElem? (i := 19) rfl))) (Or.inr (hw _ (List.mem_of_getElem? (i := 15) rfl))) (by decide) (t := .int) (t' := .int) (by decide) (by decide)))
  have F_unsuitableRooms_p6 : Fld Z h6 a "com/example/horarium/horarium/course/Score" "unsuitableRooms" "I" (.int (0 : Int32)) := F_unsuitableRooms.other W6 (Or.inr (slot_ne (Or.inr (hw _ (List.mem_of_getElem? (i := 21) rfl))) (Or.inr (hw _ (List.mem_of_getElem? (i := 15) rfl))) (by decide) (t := .int) (t' := .int) (by decide) (by decide)))
  have F_unavailableTimeslots_p6 : Fld Z h6 a "com/example/horarium/horarium/course/Score" "unavailableTimeslots" "I" (.int (0 : Int32)) := F_unavailableTimeslots.other W6 (Or.inr (slot_ne (Or.inr (hw _ (List.mem_of_getElem? (i := 23) rfl))) (Or.inr (hw _ (List.mem_of_getElem? (i := 15) rfl))) (by decide) (t := .int) (t' := .int) (by decide) (by decide)))
  have F_precedenceViolations_p6 : Fld Z h6 a "com/example/horarium/horarium/course/Score" "precedenceViolations" "I" (.int (0 : Int32)) := F_precedenceViolations.other W6 (Or.inr (slot_ne (Or.inr (hw _ (List.mem_of_getElem? (i := 25) rfl))) (Or.inr (hw _ (List.mem_of_getElem? (i := 15) rfl))) (by decide) (t := .int) (t' := .int) (by decide) (by decide)))
  have F_studentClashes_p6 : Fld Z h6 a "com/example/horarium/horarium/course/Score" "studentClashes" "I" (.int (0 : Int32)) := F_studentClashes.other W6 (Or.inr (slot_ne (Or.inr (hw _ (List.mem_of_getElem? (i := 27) rfl))) (Or.inr (hw _ (List.mem_of_getElem? (i := 15) rfl))) (by decide) (t := .int) (t' := .int) (by decide) (by decide)))
  have F_roomClashes_p6 : Fld Z h6 a "com/example/horarium/horarium/course/Score" "roomClashes" "I" (.int (0 : Int32)) := F_roomClashes.other W6 (Or.inr (slot_ne (Or.inr (hw _ (List.mem_of_getElem? (i := 29) rfl))) (Or.inr (hw _ (List.mem_of_getElem? (i := 15) rfl))) (by decide) (t := .int) (t' := .int) (by decide) (by decide)))
  have F_softLastTimeslot_p6 : Fld Z h6 a "com/example/horarium/horarium/course/Score" "softLastTimeslot" "I" (.int (0 : Int32)) := F_softLastTimeslot.other W6 (Or.inr (slot_ne (Or.inr (hw _ (List.mem_of_getElem? (i := 31) rfl))) (Or.inr (hw _ (List.mem_of_getElem? (i := 15) rfl))) (by decide) (t := .int) (t' := .int) (by decide) (by decide)))
  have F_softThreeInARow_p6 : Fld Z h6 a "com/example/horarium/horarium/course/Score" "softThreeInARow" "I" (.int (0 : Int32)) := F_softThreeInARow.other W6 (Or.inr (slot_ne (Or.inr (hw _ (List.mem_of_getElem? (i := 33) rfl))) (Or.inr (hw _ (List.mem_of_getElem? (i := 15) rfl))) (by decide) (t := .int) (t' := .int) (by decide) (by decide)))
  have F_softSingleEventDay_p6 : Fld Z h6 a "com/example/horarium/horarium/course/Score" "softSingleEventDay" "I" (.int (0 : Int32)) := F_softSingleEventDay.other W6 (Or.inr (slot_ne (Or.inr (hw _ (List.mem_of_getElem? (i := 35) rfl))) (Or.inr (hw _ (List.mem_of_getElem? (i := 15) rfl))) (by decide) (t := .int) (t' := .int) (by decide) (by decide)))
  have Z0_p6 : n0 ≤ h6.size := Nat.le_trans Z0 (Keep.of_wr W6).1
  have K_p6 : Keep h0 h6 [a] := (Keep.refl h0 [a]).wr W6 (Or.inl (List.mem_of_getElem? (i := 0) rfl))
  refine hst st6 ?_
  show F T6 (mkF m 9 #[.val (.ref a), .val (.int p1), .val (.int p2), .val (.int p3), .val (.int p4), .val (.int p5), .val (.int p6), .val (.int p7), .val (.int p8), .val (.int p9), .val (.int p10), .val (.int p11)] [])
  refine hst (fun t k => XS.aloadN X6.here hx rfl (hb hby d1_9) rfl rfl k) ?_
  show F T6 (mkF m 10 #[.val (.ref a), .val (.int p1), .val (.int p2), .val (.int p3), .val (.int p4), .val (.int p5), .val (.int p6), .val (.int p7), .val (.int p8), .val (.int p9), .val (.int p10), .val (.int p11)] [(.ref a)])
  refine hst (fun t k => XS.iloadN X6.here hx rfl (hb hby d1_10) rfl k) ?_
  show F T6 (mkF m 11 #[.val (.ref a), .val (.int p1), .val (.int p2), .val (.int p3), .val (.int p4), .val (.int p5), .val (.int p6), .val (.int p7), .val (.int p8), .val (.int p9), .val (.int p10), .val (.int p11)] [(.int p2), (.ref a)])
  obtain ⟨T11, h11, X11, e11, W11, st11⟩ := putF X6 hx hZ hown (host := "") (Or.inl (hw _ (List.mem_of_getElem? (i := 16) rfl))) Via.refl e6 F_unplaced_p6 E_a_p6 (Or.inr ⟨(hw _ (List.mem_of_getElem? (i := 17) rfl)), rfl, hnm⟩) (hw _ (List.mem_of_getElem? (i := 1) rfl)) (ty := .int) (by decide) rfl rfl (g := (mkF m 11 #[.val (.ref a), .val (.int p1), .val (.int p2), .val (.int p3), .val (.int p4), .val (.int p5), .val (.int p6), .val (.int p7), .val (.int p8), .val (.int p9), .val (.int p10), .val (.int p11)] [(.int p2), (.ref a)])) rfl rfl (hb hby d1_11)
  have N11 := Fr.snoc X11 N6 ge_a
  have E_a_p11 : Exa Z h11 a "com/example/horarium/horarium/course/Score" := E_a_p6.wr W11
  have F_unplaced_p11 : Fld Z h11 a "com/example/horarium/horarium/course/Score" "unplaced" "I" (.int p2) := F_unplaced_p6.same W11
  have F_distanceToFeasibility_p11 : Fld Z h11 a "com/example/horarium/horarium/course/Score" "distanceToFeasibility" "I" (.int (0 : Int32)) := F_distanceToFeasibility_p6.other W11 (Or.inr (slot_ne (Or.inr (hw _ (List.mem_of_getElem? (i := 19) rfl))) (Or.inr (hw _ (List.mem_of_getElem? (i := 17) rfl))) (by decide) (t := .int) (t' := .int) (by decide) (by decide)))
  have F_unsuitableRooms_p11 : Fld Z h11 a "com/example/horarium/horarium/course/Score" "unsuitableRooms" "I" (.int (0 : Int32)) := F_unsuitableRooms_p6.other W11 (Or.inr (slot_ne (Or.inr (hw _ (List.mem_of_getElem? (i := 21) rfl))) (Or.inr (hw _ (List.mem_of_getElem? (i := 17) rfl))) (by decide) (t := .int) (t' := .int) (by decide) (by decide)))
  have F_unavailableTimeslots_p11 : Fld Z h11 a "com/example/horarium/horarium/course/Score" "unavailableTimeslots" "I" (.int (0 : Int32)) := F_unavailableTimeslots_p6.other W11 (Or.inr (slot_ne (Or.inr (hw _ (List.mem_of_getElem? (i := 23) rfl))) (Or.inr (hw _ (List.mem_of_getElem? (i := 17) rfl))) (by decide) (t := .int) (t' := .int) (by decide) (by decide)))
  have F_precedenceViolations_p11 : Fld Z h11 a "com/example/horarium/horarium/course/Score" "precedenceViolations" "I" (.int (0 : Int32)) := F_precedenceViolations_p6.other W11 (Or.inr (slot_ne (Or.inr (hw _ (List.mem_of_getElem? (i := 25) rfl))) (Or.inr (hw _ (List.mem_of_getElem? (i := 17) rfl))) (by decide) (t := .int) (t' := .int) (by decide) (by decide)))
  have F_studentClashes_p11 : Fld Z h11 a "com/example/horarium/horarium/course/Score" "studentClashes" "I" (.int (0 : Int32)) := F_studentClashes_p6.other W11 (Or.inr (slot_ne (Or.inr (hw _ (List.mem_of_getElem? (i := 27) rfl))) (Or.inr (hw _ (List.mem_of_getElem? (i := 17) rfl))) (by decide) (t := .int) (t' := .int) (by decide) (by decide)))
  have F_roomClashes_p11 : Fld Z h11 a "com/example/horarium/horarium/course/Score" "roomClashes" "I" (.int (0 : Int32)) := F_roomClashes_p6.other W11 (Or.inr (slot_ne (Or.inr (hw _ (List.mem_of_getElem? (i := 29) rfl))) (Or.inr (hw _ (List.mem_of_getElem? (i := 17) rfl))) (by decide) (t := .int) (t' := .int) (by decide) (by decide)))
  have F_softLastTimeslot_p11 : Fld Z h11 a "com/example/horarium/horarium/course/Score" "softLastTimeslot" "I" (.int (0 : Int32)) := F_softLastTimeslot_p6.other W11 (Or.inr (slot_ne (Or.inr (hw _ (List.mem_of_getElem? (i := 31) rfl))) (Or.inr (hw _ (List.mem_of_getElem? (i := 17) rfl))) (by decide) (t := .int) (t' := .int) (by decide) (by decide)))
  have F_softThreeInARow_p11 : Fld Z h11 a "com/example/horarium/horarium/course/Score" "softThreeInARow" "I" (.int (0 : Int32)) := F_softThreeInARow_p6.other W11 (Or.inr (slot_ne (Or.inr (hw _ (List.mem_of_getElem? (i := 33) rfl))) (Or.inr (hw _ (List.mem_of_getElem? (i := 17) rfl))) (by decide) (t := .int) (t' := .int) (by decide) (by decide)))
  have F_softSingleEventDay_p11 : Fld Z h11 a "com/example/horarium/horarium/course/Score" "softSingleEventDay" "I" (.int (0 : Int32)) := F_softSingleEventDay_p6.other W11 (Or.inr (slot_ne (Or.inr (hw _ (List.mem_of_getElem? (i := 35) rfl))) (Or.inr (hw _ (List.mem_of_getElem? (i := 17) rfl))) (by decide) (t := .int) (t' := .int) (by decide) (by decide)))
  have Z0_p11 : n0 ≤ h11.size := Nat.le_trans Z0_p6 (Keep.of_wr W11).1
  have K_p11 : Keep h0 h11 [a] := K_p6.wr W11 (Or.inl (List.mem_of_getElem? (i := 0) rfl))
  refine hst st11 ?_
  show F T11 (mkF m 14 #[.val (.ref a), .val (.int p1), .val (.int p2), .val (.int p3), .val (.int p4), .val (.int p5), .val (.int p6), .val (.int p7), .val (.int p8), .val (.int p9), .val (.int p10), .val (.int p11)] [])
  refine hst (fun t k => XS.aloadN X11.here hx rfl (hb hby d1_14) rfl rfl k) ?_
  show F T11 (mkF m 15 #[.val (.ref a), .val (.int p1), .val (.int p2), .val (.int p3), .val (.int p4), .val (.int p5), .val (.int p6), .val (.int p7), .val (.int p8), .val (.int p9), .val (.int p10), .val (.int p11)] [(.ref a)])
  refine hst (fun t k => XS.iloadN X11.here hx rfl (hb hby d1_15) rfl k) ?_
  show F T11 (mkF m 16 #[.val (.ref a), .val (.int p1), .val (.int p2), .val (.int p3), .val (.int p4), .val (.int p5), .val (.int p6), .val (.int p7), .val (.int p8), .val (.int p9), .val (.int p10), .val (.int p11)] [(.int p3), (.ref a)])
  obtain ⟨T16, h16, X16, e16, W16, st16⟩ := putF X11 hx hZ hown (host := "") (Or.inl (hw _ (List.mem_of_getElem? (i := 18) rfl))) Via.refl e11 F_distanceToFeasibility_p11 E_a_p11 (Or.inr ⟨(hw _ (List.mem_of_getElem? (i := 19) rfl)), rfl, hnm⟩) (hw _ (List.mem_of_getElem? (i := 1) rfl)) (ty := .int) (by decide) rfl rfl (g := (mkF m 16 #[.val (.ref a), .val (.int p1), .val (.int p2), .val (.int p3), .val (.int p4), .val (.int p5), .val (.int p6), .val (.int p7), .val (.int p8), .val (.int p9), .val (.int p10), .val (.int p11)] [(.int p3), (.ref a)])) rfl rfl (hb hby d1_16)
  have N16 := Fr.snoc X16 N11 ge_a
  have E_a_p16 : Exa Z h16 a "com/example/horarium/horarium/course/Score" := E_a_p11.wr W16
  have F_distanceToFeasibility_p16 : Fld Z h16 a "com/example/horarium/horarium/course/Score" "distanceToFeasibility" "I" (.int p3) := F_distanceToFeasibility_p11.same W16
  have F_unsuitableRooms_p16 : Fld Z h16 a "com/example/horarium/horarium/course/Score" "unsuitableRooms" "I" (.int (0 : Int32)) := F_unsuitableRooms_p11.other W16 (Or.inr (slot_ne (Or.inr (hw _ (List.mem_of_getElem? (i := 21) rfl))) (Or.inr (hw _ (List.mem_of_getElem? (i := 19) rfl))) (by decide) (t := .int) (t' := .int) (by decide) (by decide)))
  have F_unavailableTimeslots_p16 : Fld Z h16 a "com/example/horarium/horarium/course/Score" "unavailableTimeslots" "I" (.int (0 : Int32)) := F_unavailableTimeslots_p11.other W16 (Or.inr (slot_ne (Or.inr (hw _ (List.mem_of_getElem? (i := 23) rfl))) (Or.inr (hw _ (List.mem_of_getElem? (i := 19) rfl))) (by decide) (t := .int) (t' := .int) (by decide) (by decide)))
  have F_precedenceViolations_p16 : Fld Z h16 a "com/example/horarium/horarium/course/Score" "precedenceViolations" "I" (.int (0 : Int32)) := F_precedenceViolations_p11.other W16 (Or.inr (slot_ne (Or.inr (hw _ (List.mem_of_getElem? (i := 25) rfl))) (Or.inr (hw _ (List.mem_of_getElem? (i := 19) rfl))) (by decide) (t := .int) (t' := .int) (by decide) (by decide)))
  have F_studentClashes_p16 : Fld Z h16 a "com/example/horarium/horarium/course/Score" "studentClashes" "I" (.int (0 : Int32)) := F_studentClashes_p11.other W16 (Or.inr (slot_ne (Or.inr (hw _ (List.mem_of_getElem? (i := 27) rfl))) (Or.inr (hw _ (List.mem_of_getElem? (i := 19) rfl))) (by decide) (t := .int) (t' := .int) (by decide) (by decide)))
  have F_roomClashes_p16 : Fld Z h16 a "com/example/horarium/horarium/course/Score" "roomClashes" "I" (.int (0 : Int32)) := F_roomClashes_p11.other W16 (Or.inr (slot_ne (Or.inr (hw _ (List.mem_of_getElem? (i := 29) rfl))) (Or.inr (hw _ (List.mem_of_getElem? (i := 19) rfl))) (by decide) (t := .int) (t' := .int) (by decide) (by decide)))
  have F_softLastTimeslot_p16 : Fld Z h16 a "com/example/horarium/horarium/course/Score" "softLastTimeslot" "I" (.int (0 : Int32)) := F_softLastTimeslot_p11.other W16 (Or.inr (slot_ne (Or.inr (hw _ (List.mem_of_getElem? (i := 31) rfl))) (Or.inr (hw _ (List.mem_of_getElem? (i := 19) rfl))) (by decide) (t := .int) (t' := .int) (by decide) (by decide)))
  have F_softThreeInARow_p16 : Fld Z h16 a "com/example/horarium/horarium/course/Score" "softThreeInARow" "I" (.int (0 : Int32)) := F_softThreeInARow_p11.other W16 (Or.inr (slot_ne (Or.inr (hw _ (List.mem_of_getElem? (i := 33) rfl))) (Or.inr (hw _ (List.mem_of_getElem? (i := 19) rfl))) (by decide) (t := .int) (t' := .int) (by decide) (by decide)))
  have F_softSingleEventDay_p16 : Fld Z h16 a "com/example/horarium/horarium/course/Score" "softSingleEventDay" "I" (.int (0 : Int32)) := F_softSingleEventDay_p11.other W16 (Or.inr (slot_ne (Or.inr (hw _ (List.mem_of_getElem? (i := 35) rfl))) (Or.inr (hw _ (List.mem_of_getElem? (i := 19) rfl))) (by decide) (t := .int) (t' := .int) (by decide) (by decide)))
  have Z0_p16 : n0 ≤ h16.size := Nat.le_trans Z0_p11 (Keep.of_wr W16).1
  have K_p16 : Keep h0 h16 [a] := K_p11.wr W16 (Or.inl (List.mem_of_getElem? (i := 0) rfl))
  refine hst st16 ?_
  show F T16 (mkF m 19 #[.val (.ref a), .val (.int p1), .val (.int p2), .val (.int p3), .val (.int p4), .val (.int p5), .val (.int p6), .val (.int p7), .val (.int p8), .val (.int p9), .val (.int p10), .val (.int p11)] [])
  refine hst (fun t k => XS.aloadN X16.here hx rfl (hb hby d1_19) rfl rfl k) ?_
  show F T16 (mkF m 20 #[.val (.ref a), .val (.int p1), .val (.int p2), .val (.int p3), .val (.int p4), .val (.int p5), .val (.int p6), .val (.int p7), .val (.int p8), .val (.int p9), .val (.int p10), .val (.int p11)] [(.ref a)])
  refine hst (fun t k => XS.iload X16.here hx rfl (hb hby d1_20) rfl k) ?_
  show F T16 (mkF m 22 #[.val (.ref a), .val (.int p1), .val (.int p2), .val (.int p3), .val (.int p4), .val (.int p5), .val (.int p6), .val (.int p7), .val (.int p8), .val (.int p9), .val (.int p10), .val (.int p11)] [(.int p4), (.ref a)])
  obtain ⟨T22, h22, X22, e22, W22, st22⟩ := putF X16 hx hZ hown (host := "") (Or.inl (hw _ (List.mem_of_getElem? (i := 20) rfl))) Via.refl e16 F_unsuitableRooms_p16 E_a_p16 (Or.inr ⟨(hw _ (List.mem_of_getElem? (i := 21) rfl)), rfl, hnm⟩) (hw _ (List.mem_of_getElem? (i := 1) rfl)) (ty := .int) (by decide) rfl rfl (g := (mkF m 22 #[.val (.ref a), .val (.int p1), .val (.int p2), .val (.int p3), .val (.int p4), .val (.int p5), .val (.int p6), .val (.int p7), .val (.int p8), .val (.int p9), .val (.int p10), .val (.int p11)] [(.int p4), (.ref a)])) rfl rfl (hb hby d1_22)
  have N22 := Fr.snoc X22 N16 ge_a
  have E_a_p22 : Exa Z h22 a "com/example/horarium/horarium/course/Score" := E_a_p16.wr W22
  have F_unsuitableRooms_p22 : Fld Z h22 a "com/example/horarium/horarium/course/Score" "unsuitableRooms" "I" (.int p4) := F_unsuitableRooms_p16.same W22
  have F_unavailableTimeslots_p22 : Fld Z h22 a "com/example/horarium/horarium/course/Score" "unavailableTimeslots" "I" (.int (0 : Int32)) := F_unavailableTimeslots_p16.other W22 (Or.inr (slot_ne (Or.inr (hw _ (List.mem_of_getElem? (i := 23) rfl))) (Or.inr (hw _ (List.mem_of_getElem? (i := 21) rfl))) (by decide) (t := .int) (t' := .int) (by decide) (by decide)))
  have F_precedenceViolations_p22 : Fld Z h22 a "com/example/horarium/horarium/course/Score" "precedenceViolations" "I" (.int (0 : Int32)) := F_precedenceViolations_p16.other W22 (Or.inr (slot_ne (Or.inr (hw _ (List.mem_of_getElem? (i := 25) rfl))) (Or.inr (hw _ (List.mem_of_getElem? (i := 21) rfl))) (by decide) (t := .int) (t' := .int) (by decide) (by decide)))
  have F_studentClashes_p22 : Fld Z h22 a "com/example/horarium/horarium/course/Score" "studentClashes" "I" (.int (0 : Int32)) := F_studentClashes_p16.other W22 (Or.inr (slot_ne (Or.inr (hw _ (List.mem_of_getElem? (i := 27) rfl))) (Or.inr (hw _ (List.mem_of_getElem? (i := 21) rfl))) (by decide) (t := .int) (t' := .int) (by decide) (by decide)))
  have F_roomClashes_p22 : Fld Z h22 a "com/example/horarium/horarium/course/Score" "roomClashes" "I" (.int (0 : Int32)) := F_roomClashes_p16.other W22 (Or.inr (slot_ne (Or.inr (hw _ (List.mem_of_getElem? (i := 29) rfl))) (Or.inr (hw _ (List.mem_of_getElem? (i := 21) rfl))) (by decide) (t := .int) (t' := .int) (by decide) (by decide)))
  have F_softLastTimeslot_p22 : Fld Z h22 a "com/example/horarium/horarium/course/Score" "softLastTimeslot" "I" (.int (0 : Int32)) := F_softLastTimeslot_p16.other W22 (Or.inr (slot_ne (Or.inr (hw _ (List.mem_of_getElem? (i := 31) rfl))) (Or.inr (hw _ (List.mem_of_getElem? (i := 21) rfl))) (by decide) (t := .int) (t' := .int) (by decide) (by decide)))
  have F_softThreeInARow_p22 : Fld Z h22 a "com/example/horarium/horarium/course/Score" "softThreeInARow" "I" (.int (0 : Int32)) := F_softThreeInARow_p16.other W22 (Or.inr (slot_ne (Or.inr (hw _ (List.mem_of_getElem? (i := 33) rfl))) (Or.inr (hw _ (List.mem_of_getElem? (i := 21) rfl))) (by decide) (t := .int) (t' := .int) (by decide) (by decide)))
  have F_softSingleEventDay_p22 : Fld Z h22 a "com/example/horarium/horarium/course/Score" "softSingleEventDay" "I" (.int (0 : Int32)) := F_softSingleEventDay_p16.other W22 (Or.inr (slot_ne (Or.inr (hw _ (List.mem_of_getElem? (i := 35) rfl))) (Or.inr (hw _ (List.mem_of_getElem? (i := 21) rfl))) (by decide) (t := .int) (t' := .int) (by decide) (by decide)))
  have Z0_p22 : n0 ≤ h22.size := Nat.le_trans Z0_p16 (Keep.of_wr W22).1
  have K_p22 : Keep h0 h22 [a] := K_p16.wr W22 (Or.inl (List.mem_of_getElem? (i := 0) rfl))
  refine hst st22 ?_
  show F T22 (mkF m 25 #[.val (.ref a), .val (.int p1), .val (.int p2), .val (.int p3), .val (.int p4), .val (.int p5), .val (.int p6), .val (.int p7), .val (.int p8), .val (.int p9), .val (.int p10), .val (.int p11)] [])
  refine hst (fun t k => XS.aloadN X22.here hx rfl (hb hby d1_25) rfl rfl k) ?_
  show F T22 (mkF m 26 #[.val (.ref a), .val (.int p1), .val (.int p2), .val (.int p3), .val (.int p4), .val (.int p5), .val (.int p6), .val (.int p7), .val (.int p8), .val (.int p9), .val (.int p10), .val (.int p11)] [(.ref a)])
  refine hst (fun t k => XS.iload X22.here hx rfl (hb hby d1_26) rfl k) ?_
  show F T22 (mkF m 28 #[.val (.ref a), .val (.int p1), .val (.int p2), .val (.int p3), .val (.int p4), .val (.int p5), .val (.int p6), .val (.int p7), .val (.int p8), .val (.int p9), .val (.int p10), .val (.int p11)] [(.int p5), (.ref a)])
  obtain ⟨T28, h28, X28, e28, W28, st28⟩ := putF X22 hx hZ hown (host := "") (Or.inl (hw _ (List.mem_of_getElem? (i := 22) rfl))) Via.refl e22 F_unavailableTimeslots_p22 E_a_p22 (Or.inr ⟨(hw _ (List.mem_of_getElem? (i := 23) rfl)), rfl, hnm⟩) (hw _ (List.mem_of_getElem? (i := 1) rfl)) (ty := .int) (by decide) rfl rfl (g := (mkF m 28 #[.val (.ref a), .val (.int p1), .val (.int p2), .val (.int p3), .val (.int p4), .val (.int p5), .val (.int p6), .val (.int p7), .val (.int p8), .val (.int p9), .val (.int p10), .val (.int p11)] [(.int p5), (.ref a)])) rfl rfl (hb hby d1_28)
  have N28 := Fr.snoc X28 N22 ge_a
  have E_a_p28 : Exa Z h28 a "com/example/horarium/horarium/course/Score" := E_a_p22.wr W28
  have F_unavailableTimeslots_p28 : Fld Z h28 a "com/example/horarium/horarium/course/Score" "unavailableTimeslots" "I" (.int p5) := F_unavailableTimeslots_p22.same W28
  have F_precedenceViolations_p28 : Fld Z h28 a "com/example/horarium/horarium/course/Score" "precedenceViolations" "I" (.int (0 : Int32)) := F_precedenceViolations_p22.other W28 (Or.inr (slot_ne (Or.inr (hw _ (List.mem_of_getElem? (i := 25) rfl))) (Or.inr (hw _ (List.mem_of_getElem? (i := 23) rfl))) (by decide) (t := .int) (t' := .int) (by decide) (by decide)))
  have F_studentClashes_p28 : Fld Z h28 a "com/example/horarium/horarium/course/Score" "studentClashes" "I" (.int (0 : Int32)) := F_studentClashes_p22.other W28 (Or.inr (slot_ne (Or.inr (hw _ (List.mem_of_getElem? (i := 27) rfl))) (Or.inr (hw _ (List.mem_of_getElem? (i := 23) rfl))) (by decide) (t := .int) (t' := .int) (by decide) (by decide)))
  have F_roomClashes_p28 : Fld Z h28 a "com/example/horarium/horarium/course/Score" "roomClashes" "I" (.int (0 : Int32)) := F_roomClashes_p22.other W28 (Or.inr (slot_ne (Or.inr (hw _ (List.mem_of_getElem? (i := 29) rfl))) (Or.inr (hw _ (List.mem_of_getElem? (i := 23) rfl))) (by decide) (t := .int) (t' := .int) (by decide) (by decide)))
  have F_softLastTimeslot_p28 : Fld Z h28 a "com/example/horarium/horarium/course/Score" "softLastTimeslot" "I" (.int (0 : Int32)) := F_softLastTimeslot_p22.other W28 (Or.inr (slot_ne (Or.inr (hw _ (List.mem_of_getElem? (i := 31) rfl))) (Or.inr (hw _ (List.mem_of_getElem? (i := 23) rfl))) (by decide) (t := .int) (t' := .int) (by decide) (by decide)))
  have F_softThreeInARow_p28 : Fld Z h28 a "com/example/horarium/horarium/course/Score" "softThreeInARow" "I" (.int (0 : Int32)) := F_softThreeInARow_p22.other W28 (Or.inr (slot_ne (Or.inr (hw _ (List.mem_of_getElem? (i := 33) rfl))) (Or.inr (hw _ (List.mem_of_getElem? (i := 23) rfl))) (by decide) (t := .int) (t' := .int) (by decide) (by decide)))
  have F_softSingleEventDay_p28 : Fld Z h28 a "com/example/horarium/horarium/course/Score" "softSingleEventDay" "I" (.int (0 : Int32)) := F_softSingleEventDay_p22.other W28 (Or.inr (slot_ne (Or.inr (hw _ (List.mem_of_getElem? (i := 35) rfl))) (Or.inr (hw _ (List.mem_of_getElem? (i := 23) rfl))) (by decide) (t := .int) (t' := .int) (by decide) (by decide)))
  have Z0_p28 : n0 ≤ h28.size := Nat.le_trans Z0_p22 (Keep.of_wr W28).1
  have K_p28 : Keep h0 h28 [a] := K_p22.wr W28 (Or.inl (List.mem_of_getElem? (i := 0) rfl))
  refine hst st28 ?_
  show F T28 (mkF m 31 #[.val (.ref a), .val (.int p1), .val (.int p2), .val (.int p3), .val (.int p4), .val (.int p5), .val (.int p6), .val (.int p7), .val (.int p8), .val (.int p9), .val (.int p10), .val (.int p11)] [])
  refine hst (fun t k => XS.aloadN X28.here hx rfl (hb hby d1_31) rfl rfl k) ?_
  show F T28 (mkF m 32 #[.val (.ref a), .val (.int p1), .val (.int p2), .val (.int p3), .val (.int p4), .val (.int p5), .val (.int p6), .val (.int p7), .val (.int p8), .val (.int p9), .val (.int p10), .val (.int p11)] [(.ref a)])
  refine hst (fun t k => XS.iload X28.here hx rfl (hb hby d1_32) rfl k) ?_
  show F T28 (mkF m 34 #[.val (.ref a), .val (.int p1), .val (.int p2), .val (.int p3), .val (.int p4), .val (.int p5), .val (.int p6), .val (.int p7), .val (.int p8), .val (.int p9), .val (.int p10), .val (.int p11)] [(.int p6), (.ref a)])
  obtain ⟨T34, h34, X34, e34, W34, st34⟩ := putF X28 hx hZ hown (host := "") (Or.inl (hw _ (List.mem_of_getElem? (i := 24) rfl))) Via.refl e28 F_precedenceViolations_p28 E_a_p28 (Or.inr ⟨(hw _ (List.mem_of_getElem? (i := 25) rfl)), rfl, hnm⟩) (hw _ (List.mem_of_getElem? (i := 1) rfl)) (ty := .int) (by decide) rfl rfl (g := (mkF m 34 #[.val (.ref a), .val (.int p1), .val (.int p2), .val (.int p3), .val (.int p4), .val (.int p5), .val (.int p6), .val (.int p7), .val (.int p8), .val (.int p9), .val (.int p10), .val (.int p11)] [(.int p6), (.ref a)])) rfl rfl (hb hby d1_34)
  have N34 := Fr.snoc X34 N28 ge_a
  have E_a_p34 : Exa Z h34 a "com/example/horarium/horarium/course/Score" := E_a_p28.wr W34
  have F_precedenceViolations_p34 : Fld Z h34 a "com/example/horarium/horarium/course/Score" "precedenceViolations" "I" (.int p6) := F_precedenceViolations_p28.same W34
  have F_studentClashes_p34 : Fld Z h34 a "com/example/horarium/horarium/course/Score" "studentClashes" "I" (.int (0 : Int32)) := F_studentClashes_p28.other W34 (Or.inr (slot_ne (Or.inr (hw _ (List.mem_of_getElem? (i := 27) rfl))) (Or.inr (hw _ (List.mem_of_getElem? (i := 25) rfl))) (by decide) (t := .int) (t' := .int) (by decide) (by decide)))
  have F_roomClashes_p34 : Fld Z h34 a "com/example/horarium/horarium/course/Score" "roomClashes" "I" (.int (0 : Int32)) := F_roomClashes_p28.other W34 (Or.inr (slot_ne (Or.inr (hw _ (List.mem_of_getElem? (i := 29) rfl))) (Or.inr (hw _ (List.mem_of_getElem? (i := 25) rfl))) (by decide) (t := .int) (t' := .int) (by decide) (by decide)))
  have F_softLastTimeslot_p34 : Fld Z h34 a "com/example/horarium/horarium/course/Score" "softLastTimeslot" "I" (.int (0 : Int32)) := F_softLastTimeslot_p28.other W34 (Or.inr (slot_ne (Or.inr (hw _ (List.mem_of_getElem? (i := 31) rfl))) (Or.inr (hw _ (List.mem_of_getElem? (i := 25) rfl))) (by decide) (t := .int) (t' := .int) (by decide) (by decide)))
  have F_softThreeInARow_p34 : Fld Z h34 a "com/example/horarium/horarium/course/Score" "softThreeInARow" "I" (.int (0 : Int32)) := F_softThreeInARow_p28.other W34 (Or.inr (slot_ne (Or.inr (hw _ (List.mem_of_getElem? (i := 33) rfl))) (Or.inr (hw _ (List.mem_of_getElem? (i := 25) rfl))) (by decide) (t := .int) (t' := .int) (by decide) (by decide)))
  have F_softSingleEventDay_p34 : Fld Z h34 a "com/example/horarium/horarium/course/Score" "softSingleEventDay" "I" (.int (0 : Int32)) := F_softSingleEventDay_p28.other W34 (Or.inr (slot_ne (Or.inr (hw _ (List.mem_of_getElem? (i := 35) rfl))) (Or.inr (hw _ (List.mem_of_getElem? (i := 25) rfl))) (by decide) (t := .int) (t' := .int) (by decide) (by decide)))
  have Z0_p34 : n0 ≤ h34.size := Nat.le_trans Z0_p28 (Keep.of_wr W34).1
  have K_p34 : Keep h0 h34 [a] := K_p28.wr W34 (Or.inl (List.mem_of_getElem? (i := 0) rfl))
  refine hst st34 ?_
  show F T34 (mkF m 37 #[.val (.ref a), .val (.int p1), .val (.int p2), .val (.int p3), .val (.int p4), .val (.int p5), .val (.int p6), .val (.int p7), .val (.int p8), .val (.int p9), .val (.int p10), .val (.int p11)] [])
  refine hst (fun t k => XS.aloadN X34.here hx rfl (hb hby d1_37) rfl rfl k) ?_
  show F T34 (mkF m 38 #[.val (.ref a), .val (.int p1), .val (.int p2), .val (.int p3), .val (.int p4), .val (.int p5), .val (.int p6), .val (.int p7), .val (.int p8), .val (.int p9), .val (.int p10), .val (.int p11)] [(.ref a)])
  refine hst (fun t k => XS.iload X34.here hx rfl (hb hby d1_38) rfl k) ?_
  show F T34 (mkF m 40 #[.val (.ref a), .val (.int p1), .val (.int p2), .val (.int p3), .val (.int p4), .val (.int p5), .val (.int p6), .val (.int p7), .val (.int p8), .val (.int p9), .val (.int p10), .val (.int p11)] [(.int p7), (.ref a)])
  obtain ⟨T40, h40, X40, e40, W40, st40⟩ := putF X34 hx hZ hown (host := "") (Or.inl (hw _ (List.mem_of_getElem? (i := 26) rfl))) Via.refl e34 F_studentClashes_p34 E_a_p34 (Or.inr ⟨(hw _ (List.mem_of_getElem? (i := 27) rfl)), rfl, hnm⟩) (hw _ (List.mem_of_getElem? (i := 1) rfl)) (ty := .int) (by decide) rfl rfl (g := (mkF m 40 #[.val (.ref a), .val (.int p1), .val (.int p2), .val (.int p3), .val (.int p4), .val (.int p5), .val (.int p6), .val (.int p7), .val (.int p8), .val (.int p9), .val (.int p10), .val (.int p11)] [(.int p7), (.ref a)])) rfl rfl (hb hby d1_40)
  have N40 := Fr.snoc X40 N34 ge_a
  have E_a_p40 : Exa Z h40 a "com/example/horarium/horarium/course/Score" := E_a_p34.wr W40
  have F_studentClashes_p40 : Fld Z h40 a "com/example/horarium/horarium/course/Score" "studentClashes" "I" (.int p7) := F_studentClashes_p34.same W40
  have F_roomClashes_p40 : Fld Z h40 a "com/example/horarium/horarium/course/Score" "roomClashes" "I" (.int (0 : Int32)) := F_roomClashes_p34.other W40 (Or.inr (slot_ne (Or.inr (hw _ (List.mem_of_getElem? (i := 29) rfl))) (Or.inr (hw _ (List.mem_of_getElem? (i := 27) rfl))) (by decide) (t := .int) (t' := .int) (by decide) (by decide)))
  have F_softLastTimeslot_p40 : Fld Z h40 a "com/example/horarium/horarium/course/Score" "softLastTimeslot" "I" (.int (0 : Int32)) := F_softLastTimeslot_p34.other W40 (Or.inr (slot_ne (Or.inr (hw _ (List.mem_of_getElem? (i := 31) rfl))) (Or.inr (hw _ (List.mem_of_getElem? (i := 27) rfl))) (by decide) (t := .int) (t' := .int) (by decide) (by decide)))
  have F_softThreeInARow_p40 : Fld Z h40 a "com/example/horarium/horarium/course/Score" "softThreeInARow" "I" (.int (0 : Int32)) := F_softThreeInARow_p34.other W40 (Or.inr (slot_ne (Or.inr (hw _ (List.mem_of_getElem? (i := 33) rfl))) (Or.inr (hw _ (List.mem_of_getElem? (i := 27) rfl))) (by decide) (t := .int) (t' := .int) (by decide) (by decide)))
  have F_softSingleEventDay_p40 : Fld Z h40 a "com/example/horarium/horarium/course/Score" "softSingleEventDay" "I" (.int (0 : Int32)) := F_softSingleEventDay_p34.other W40 (Or.inr (slot_ne (Or.inr (hw _ (List.mem_of_getElem? (i := 35) rfl))) (Or.inr (hw _ (List.mem_of_getElem? (i := 27) rfl))) (by decide) (t := .int) (t' := .int) (by decide) (by decide)))
  have Z0_p40 : n0 ≤ h40.size := Nat.le_trans Z0_p34 (Keep.of_wr W40).1
  have K_p40 : Keep h0 h40 [a] := K_p34.wr W40 (Or.inl (List.mem_of_getElem? (i := 0) rfl))
  refine hst st40 ?_
  show F T40 (mkF m 43 #[.val (.ref a), .val (.int p1), .val (.int p2), .val (.int p3), .val (.int p4), .val (.int p5), .val (.int p6), .val (.int p7), .val (.int p8), .val (.int p9), .val (.int p10), .val (.int p11)] [])
  refine hst (fun t k => XS.aloadN X40.here hx rfl (hb hby d1_43) rfl rfl k) ?_
  show F T40 (mkF m 44 #[.val (.ref a), .val (.int p1), .val (.int p2), .val (.int p3), .val (.int p4), .val (.int p5), .val (.int p6), .val (.int p7), .val (.int p8), .val (.int p9), .val (.int p10), .val (.int p11)] [(.ref a)])
  refine hst (fun t k => XS.iload X40.here hx rfl (hb hby d1_44) rfl k) ?_
  show F T40 (mkF m 46 #[.val (.ref a), .val (.int p1), .val (.int p2), .val (.int p3), .val (.int p4), .val (.int p5), .val (.int p6), .val (.int p7), .val (.int p8), .val (.int p9), .val (.int p10), .val (.int p11)] [(.int p8), (.ref a)])
  obtain ⟨T46, h46, X46, e46, W46, st46⟩ := putF X40 hx hZ hown (host := "") (Or.inl (hw _ (List.mem_of_getElem? (i := 28) rfl))) Via.refl e40 F_roomClashes_p40 E_a_p40 (Or.inr ⟨(hw _ (List.mem_of_getElem? (i := 29) rfl)), rfl, hnm⟩) (hw _ (List.mem_of_getElem? (i := 1) rfl)) (ty := .int) (by decide) rfl rfl (g := (mkF m 46 #[.val (.ref a), .val (.int p1), .val (.int p2), .val (.int p3), .val (.int p4), .val (.int p5), .val (.int p6), .val (.int p7), .val (.int p8), .val (.int p9), .val (.int p10), .val (.int p11)] [(.int p8), (.ref a)])) rfl rfl (hb hby d1_46)
  have N46 := Fr.snoc X46 N40 ge_a
  have E_a_p46 : Exa Z h46 a "com/example/horarium/horarium/course/Score" := E_a_p40.wr W46
  have F_roomClashes_p46 : Fld Z h46 a "com/example/horarium/horarium/course/Score" "roomClashes" "I" (.int p8) := F_roomClashes_p40.same W46
  have F_softLastTimeslot_p46 : Fld Z h46 a "com/example/horarium/horarium/course/Score" "softLastTimeslot" "I" (.int (0 : Int32)) := F_softLastTimeslot_p40.other W46 (Or.inr (slot_ne (Or.inr (hw _ (List.mem_of_getElem? (i := 31) rfl))) (Or.inr (hw _ (List.mem_of_getElem? (i := 29) rfl))) (by decide) (t := .int) (t' := .int) (by decide) (by decide)))
  have F_softThreeInARow_p46 : Fld Z h46 a "com/example/horarium/horarium/course/Score" "softThreeInARow" "I" (.int (0 : Int32)) := F_softThreeInARow_p40.other W46 (Or.inr (slot_ne (Or.inr (hw _ (List.mem_of_getElem? (i := 33) rfl))) (Or.inr (hw _ (List.mem_of_getElem? (i := 29) rfl))) (by decide) (t := .int) (t' := .int) (by decide) (by decide)))
  have F_softSingleEventDay_p46 : Fld Z h46 a "com/example/horarium/horarium/course/Score" "softSingleEventDay" "I" (.int (0 : Int32)) := F_softSingleEventDay_p40.other W46 (Or.inr (slot_ne (Or.inr (hw _ (List.mem_of_getElem? (i := 35) rfl))) (Or.inr (hw _ (List.mem_of_getElem? (i := 29) rfl))) (by decide) (t := .int) (t' := .int) (by decide) (by decide)))
  have Z0_p46 : n0 ≤ h46.size := Nat.le_trans Z0_p40 (Keep.of_wr W46).1
  have K_p46 : Keep h0 h46 [a] := K_p40.wr W46 (Or.inl (List.mem_of_getElem? (i := 0) rfl))
  refine hst st46 ?_
  show F T46 (mkF m 49 #[.val (.ref a), .val (.int p1), .val (.int p2), .val (.int p3), .val (.int p4), .val (.int p5), .val (.int p6), .val (.int p7), .val (.int p8), .val (.int p9), .val (.int p10), .val (.int p11)] [])
  refine hst (fun t k => XS.aloadN X46.here hx rfl (hb hby d1_49) rfl rfl k) ?_
  show F T46 (mkF m 50 #[.val (.ref a), .val (.int p1), .val (.int p2), .val (.int p3), .val (.int p4), .val (.int p5), .val (.int p6), .val (.int p7), .val (.int p8), .val (.int p9), .val (.int p10), .val (.int p11)] [(.ref a)])
  refine hst (fun t k => XS.iload X46.here hx rfl (hb hby d1_50) rfl k) ?_
  show F T46 (mkF m 52 #[.val (.ref a), .val (.int p1), .val (.int p2), .val (.int p3), .val (.int p4), .val (.int p5), .val (.int p6), .val (.int p7), .val (.int p8), .val (.int p9), .val (.int p10), .val (.int p11)] [(.int p9), (.ref a)])
  obtain ⟨T52, h52, X52, e52, W52, st52⟩ := putF X46 hx hZ hown (host := "") (Or.inl (hw _ (List.mem_of_getElem? (i := 30) rfl))) Via.refl e46 F_softLastTimeslot_p46 E_a_p46 (Or.inr ⟨(hw _ (List.mem_of_getElem? (i := 31) rfl)), rfl, hnm⟩) (hw _ (List.mem_of_getElem? (i := 1) rfl)) (ty := .int) (by decide) rfl rfl (g := (mkF m 52 #[.val (.ref a), .val (.int p1), .val (.int p2), .val (.int p3), .val (.int p4), .val (.int p5), .val (.int p6), .val (.int p7), .val (.int p8), .val (.int p9), .val (.int p10), .val (.int p11)] [(.int p9), (.ref a)])) rfl rfl (hb hby d1_52)
  have N52 := Fr.snoc X52 N46 ge_a
  have E_a_p52 : Exa Z h52 a "com/example/horarium/horarium/course/Score" := E_a_p46.wr W52
  have F_softLastTimeslot_p52 : Fld Z h52 a "com/example/horarium/horarium/course/Score" "softLastTimeslot" "I" (.int p9) := F_softLastTimeslot_p46.same W52
  have F_softThreeInARow_p52 : Fld Z h52 a "com/example/horarium/horarium/course/Score" "softThreeInARow" "I" (.int (0 : Int32)) := F_softThreeInARow_p46.other W52 (Or.inr (slot_ne (Or.inr (hw _ (List.mem_of_getElem? (i := 33) rfl))) (Or.inr (hw _ (List.mem_of_getElem? (i := 31) rfl))) (by decide) (t := .int) (t' := .int) (by decide) (by decide)))
  have F_softSingleEventDay_p52 : Fld Z h52 a "com/example/horarium/horarium/course/Score" "softSingleEventDay" "I" (.int (0 : Int32)) := F_softSingleEventDay_p46.other W52 (Or.inr (slot_ne (Or.inr (hw _ (List.mem_of_getElem? (i := 35) rfl))) (Or.inr (hw _ (List.mem_of_getElem? (i := 31) rfl))) (by decide) (t := .int) (t' := .int) (by decide) (by decide)))
  have Z0_p52 : n0 ≤ h52.size := Nat.le_trans Z0_p46 (Keep.of_wr W52).1
  have K_p52 : Keep h0 h52 [a] := K_p46.wr W52 (Or.inl (List.mem_of_getElem? (i := 0) rfl))
  refine hst st52 ?_
  show F T52 (mkF m 55 #[.val (.ref a), .val (.int p1), .val (.int p2), .val (.int p3), .val (.int p4), .val (.int p5), .val (.int p6), .val (.int p7), .val (.int p8), .val (.int p9), .val (.int p10), .val (.int p11)] [])
  refine hst (fun t k => XS.aloadN X52.here hx rfl (hb hby d1_55) rfl rfl k) ?_
  show F T52 (mkF m 56 #[.val (.ref a), .val (.int p1), .val (.int p2), .val (.int p3), .val (.int p4), .val (.int p5), .val (.int p6), .val (.int p7), .val (.int p8), .val (.int p9), .val (.int p10), .val (.int p11)] [(.ref a)])
  refine hst (fun t k => XS.iload X52.here hx rfl (hb hby d1_56) rfl k) ?_
  show F T52 (mkF m 58 #[.val (.ref a), .val (.int p1), .val (.int p2), .val (.int p3), .val (.int p4), .val (.int p5), .val (.int p6), .val (.int p7), .val (.int p8), .val (.int p9), .val (.int p10), .val (.int p11)] [(.int p10), (.ref a)])
  obtain ⟨T58, h58, X58, e58, W58, st58⟩ := putF X52 hx hZ hown (host := "") (Or.inl (hw _ (List.mem_of_getElem? (i := 32) rfl))) Via.refl e52 F_softThreeInARow_p52 E_a_p52 (Or.inr ⟨(hw _ (List.mem_of_getElem? (i := 33) rfl)), rfl, hnm⟩) (hw _ (List.mem_of_getElem? (i := 1) rfl)) (ty := .int) (by decide) rfl rfl (g := (mkF m 58 #[.val (.ref a), .val (.int p1), .val (.int p2), .val (.int p3), .val (.int p4), .val (.int p5), .val (.int p6), .val (.int p7), .val (.int p8), .val (.int p9), .val (.int p10), .val (.int p11)] [(.int p10), (.ref a)])) rfl rfl (hb hby d1_58)
  have N58 := Fr.snoc X58 N52 ge_a
  have E_a_p58 : Exa Z h58 a "com/example/horarium/horarium/course/Score" := E_a_p52.wr W58
  have F_softLastTimeslot_p58 : Fld Z h58 a "com/example/horarium/horarium/course/Score" "softLastTimeslot" "I" (.int p9) := F_softLastTimeslot_p52.other W58 (Or.inr (slot_ne (Or.inr (hw _ (List.mem_of_getElem? (i := 31) rfl))) (Or.inr (hw _ (List.mem_of_getElem? (i := 33) rfl))) (by decide) (t := .int) (t' := .int) (by decide) (by decide)))
  have F_softThreeInARow_p58 : Fld Z h58 a "com/example/horarium/horarium/course/Score" "softThreeInARow" "I" (.int p10) := F_softThreeInARow_p52.same W58
  have F_softSingleEventDay_p58 : Fld Z h58 a "com/example/horarium/horarium/course/Score" "softSingleEventDay" "I" (.int (0 : Int32)) := F_softSingleEventDay_p52.other W58 (Or.inr (slot_ne (Or.inr (hw _ (List.mem_of_getElem? (i := 35) rfl))) (Or.inr (hw _ (List.mem_of_getElem? (i := 33) rfl))) (by decide) (t := .int) (t' := .int) (by decide) (by decide)))
  have Z0_p58 : n0 ≤ h58.size := Nat.le_trans Z0_p52 (Keep.of_wr W58).1
  have K_p58 : Keep h0 h58 [a] := K_p52.wr W58 (Or.inl (List.mem_of_getElem? (i := 0) rfl))
  refine hst st58 ?_
  show F T58 (mkF m 61 #[.val (.ref a), .val (.int p1), .val (.int p2), .val (.int p3), .val (.int p4), .val (.int p5), .val (.int p6), .val (.int p7), .val (.int p8), .val (.int p9), .val (.int p10), .val (.int p11)] [])
  refine hst (fun t k => XS.aloadN X58.here hx rfl (hb hby d1_61) rfl rfl k) ?_
  show F T58 (mkF m 62 #[.val (.ref a), .val (.int p1), .val (.int p2), .val (.int p3), .val (.int p4), .val (.int p5), .val (.int p6), .val (.int p7), .val (.int p8), .val (.int p9), .val (.int p10), .val (.int p11)] [(.ref a)])
  refine hst (fun t k => XS.iload X58.here hx rfl (hb hby d1_62) rfl k) ?_
  show F T58 (mkF m 64 #[.val (.ref a), .val (.int p1), .val (.int p2), .val (.int p3), .val (.int p4), .val (.int p5), .val (.int p6), .val (.int p7), .val (.int p8), .val (.int p9), .val (.int p10), .val (.int p11)] [(.int p11), (.ref a)])
  obtain ⟨T64, h64, X64, e64, W64, st64⟩ := putF X58 hx hZ hown (host := "") (Or.inl (hw _ (List.mem_of_getElem? (i := 34) rfl))) Via.refl e58 F_softSingleEventDay_p58 E_a_p58 (Or.inr ⟨(hw _ (List.mem_of_getElem? (i := 35) rfl)), rfl, hnm⟩) (hw _ (List.mem_of_getElem? (i := 1) rfl)) (ty := .int) (by decide) rfl rfl (g := (mkF m 64 #[.val (.ref a), .val (.int p1), .val (.int p2), .val (.int p3), .val (.int p4), .val (.int p5), .val (.int p6), .val (.int p7), .val (.int p8), .val (.int p9), .val (.int p10), .val (.int p11)] [(.int p11), (.ref a)])) rfl rfl (hb hby d1_64)
  have N64 := Fr.snoc X64 N58 ge_a
  have E_a_p64 : Exa Z h64 a "com/example/horarium/horarium/course/Score" := E_a_p58.wr W64
  have F_softLastTimeslot_p64 : Fld Z h64 a "com/example/horarium/horarium/course/Score" "softLastTimeslot" "I" (.int p9) := F_softLastTimeslot_p58.other W64 (Or.inr (slot_ne (Or.inr (hw _ (List.mem_of_getElem? (i := 31) rfl))) (Or.inr (hw _ (List.mem_of_getElem? (i := 35) rfl))) (by decide) (t := .int) (t' := .int) (by decide) (by decide)))
  have F_softThreeInARow_p64 : Fld Z h64 a "com/example/horarium/horarium/course/Score" "softThreeInARow" "I" (.int p10) := F_softThreeInARow_p58.other W64 (Or.inr (slot_ne (Or.inr (hw _ (List.mem_of_getElem? (i := 33) rfl))) (Or.inr (hw _ (List.mem_of_getElem? (i := 35) rfl))) (by decide) (t := .int) (t' := .int) (by decide) (by decide)))
  have F_softSingleEventDay_p64 : Fld Z h64 a "com/example/horarium/horarium/course/Score" "softSingleEventDay" "I" (.int p11) := F_softSingleEventDay_p58.same W64
  have Z0_p64 : n0 ≤ h64.size := Nat.le_trans Z0_p58 (Keep.of_wr W64).1
  have K_p64 : Keep h0 h64 [a] := K_p58.wr W64 (Or.inl (List.mem_of_getElem? (i := 0) rfl))
  refine hst st64 ?_
  show F T64 (mkF m 67 #[.val (.ref a), .val (.int p1), .val (.int p2), .val (.int p3), .val (.int p4), .val (.int p5), .val (.int p6), .val (.int p7), .val (.int p8), .val (.int p9), .val (.int p10), .val (.int p11)] [])
  rw [hF]
  refine own_retV X64 hx hret hlk (hb hby d1_67) (by decide) (by decide) ?_
  rw [e64]
  exact ⟨rfl, N64, K_p64, E_a_p64, F_softLastTimeslot_p64, F_softThreeInARow_p64, F_softSingleEventDay_p64⟩
theorem d4_0 : decode prog_4_method_7_code 0 = .ok (.aload_n 0, 1) := by decide +kernel
theorem d4_1 : decode prog_4_method_7_code 1 = .ok (.getfield 34, 3) := by decide +kernel
theorem d4_4 : decode prog_4_method_7_code 4 = .ok (.aload_n 0, 1) := by decide +kernel
theorem d4_5 : decode prog_4_method_7_code 5 = .ok (.getfield 37, 3) := by decide +kernel
theorem d4_8 : decode prog_4_method_7_code 8 = .ok (.iadd, 1) := by decide +kernel
theorem d4_9 : decode prog_4_method_7_code 9 = .ok (.aload_n 0, 1) := by decide +kernel
theorem d4_10 : decode prog_4_method_7_code 10 = .ok (.getfield 40, 3) := by decide +kernel
theorem d4_13 : decode prog_4_method_7_code 13 = .ok (.iadd, 1) := by decide +kernel
theorem d4_14 : decode prog_4_method_7_code 14 = .ok (.ireturn, 1) := by decide +kernel
theorem pn_4 : plainFor (⟨"com/example/horarium/horarium/course/Score", "softCost", "()I"⟩ : MethodName) = true := plainFor_of_name (by first | (simp [plainName, overriddenIn]; done) | decide +kernel)
theorem ef_4 (m : MethodId) (a : Addr) : entryFrame m #[(.ref a)] 1 = mkF m 0 #[.val (.ref a)] [] := by first | (simp [entryFrame, mkF, argsToLocals, Value.category]; done) | rfl
def Q4 (Z : State) (a : Addr) (w1 : Int32) (w2 : Int32) (w3 : Int32) (h0 : Heap) (n0 : Nat) (v : Option Value) (h : Heap) (L : List Loc) : Prop := v = some (.int ((w1 + w2) + w3)) ∧ Fr n0 L ∧ h = h0
set_option maxRecDepth 65536 in
set_option maxHeartbeats 40000000 in
theorem rm4 (l : Launch) (Z : State) (a0 : Array Value) (hw : ∀ d ∈ tables_1, d.before a0 Z = true) (ws : List Jvm.Cond) (a : Addr) (w1 : Int32) (w2 : Int32) (w3 : Int32) (h0 : Heap) (n0 : Nat) (Z0 : n0 ≤ h0.size) (F0 : Fld Z h0 a "com/example/horarium/horarium/course/Score" "softLastTimeslot" "I" (.int w1)) (F1 : Fld Z h0 a "com/example/horarium/horarium/course/Score" "softThreeInARow" "I" (.int w2)) (F2 : Fld Z h0 a "com/example/horarium/horarium/course/Score" "softSingleEventDay" "I" (.int w3)) :
    MetFree l (⟨"com/example/horarium/horarium/course/Score", "softCost", "()I"⟩ : MethodName) (head1 (Jvm.Cond.code (⟨"com/example/horarium/horarium/course/Score", "softCost", "()I"⟩ : MethodName) prog_4_method_7_code 1 (some .int) :: ws) ({ frames := 0, cells := 0, slots := 0, locals := 0 } : Room)) (fun xa U => xa = #[(.ref a)] ∧ Z.Warmed39 U.vm ∧ U.heap = h0) (fun _ _ _ _ _ => True) (fun _ U o U' => ∃ v L, o = .returned v ∧ Q4 Z a w1 w2 w3 h0 n0 v U'.heap L ∧ FrameEnd U o U' L ({ frames := 0, cells := 0, slots := 0, locals := 0 } : Room).cells ({ frames := 0, cells := 0, slots := 0, locals := 0 } : Room).slots) := by
  refine own_body pn_4 ?_
  intro p e s m below meth c s₁ hx hby hml hown hnm hret hlk hZ X0 e0
  obtain ⟨F, hF⟩ : ∃ F : State → JFrame → Prop, F = own_Fin p.tables e below s ({ frames := 0, cells := 0, slots := 0, locals := 0 } : Room) (Q4 Z a w1 w2 w3 h0 n0) := ⟨_, rfl⟩
  have hst : ∀ {T T' : State} {g g' : JFrame}, (∀ t, Steps p.tables e below (T'.setTop g') t → Steps p.tables e below (T.setTop g) t) → F T' g' → F T g := by subst hF; exact own_st
  have N0 := Fr.nil n0
  show own_Fin p.tables e below s ({ frames := 0, cells := 0, slots := 0, locals := 0 } : Room) (Q4 Z a w1 w2 w3 h0 n0) s₁ (entryFrame m #[(.ref a)] 1)
  rw [← hF]
  rw [ef_4]
  show F s₁ (mkF m 0 #[.val (.ref a)] [])
  refine hst (fun t k => XS.aloadN X0.here hx rfl (hb hby d4_0) rfl rfl k) ?_
  show F s₁ (mkF m 1 #[.val (.ref a)] [(.ref a)])
  obtain ⟨T1, X1, e1, st1⟩ := getF X0 hx hZ hown (host := "") (Or.inl (hw _ (List.mem_of_getElem? (i := 30) rfl))) Via.refl e0 F0 (g := (mkF m 1 #[.val (.ref a)] [(.ref a)])) rfl rfl (hb hby d4_1)
  refine hst st1 ?_
  show F T1 (mkF m 4 #[.val (.ref a)] [(.int w1)])
  refine hst (fun t k => XS.aloadN X1.here hx rfl (hb hby d4_4) rfl rfl k) ?_
  show F T1 (mkF m 5 #[.val (.ref a)] [(.ref a), (.int w1)])
  obtain ⟨T5, X5, e5, st5⟩ := getF X1 hx hZ hown (host := "") (Or.inl (hw _ (List.mem_of_getElem? (i := 32) rfl))) Via.refl e1 F1 (g := (mkF m 5 #[.val (.ref a)] [(.ref a), (.int w1)])) rfl rfl (hb hby d4_5)
  refine hst st5 ?_
  show F T5 (mkF m 8 #[.val (.ref a)] [(.int w2), (.int w1)])
  refine hst (fun t k => XS.iadd X5.here hx rfl (hb hby d4_8) rfl k) ?_
  show F T5 (mkF m 9 #[.val (.ref a)] [(.int (w1 + w2))])
  refine hst (fun t k => XS.aloadN X5.here hx rfl (hb hby d4_9) rfl rfl k) ?_
  show F T5 (mkF m 10 #[.val (.ref a)] [(.ref a), (.int (w1 + w2))])
  obtain ⟨T10, X10, e10, st10⟩ := getF X5 hx hZ hown (host := "") (Or.inl (hw _ (List.mem_of_getElem? (i := 34) rfl))) Via.refl e5 F2 (g := (mkF m 10 #[.val (.ref a)] [(.ref a), (.int (w1 + w2))])) rfl rfl (hb hby d4_10)
  refine hst st10 ?_
  show F T10 (mkF m 13 #[.val (.ref a)] [(.int w3), (.int (w1 + w2))])
  refine hst (fun t k => XS.iadd X10.here hx rfl (hb hby d4_13) rfl k) ?_
  show F T10 (mkF m 14 #[.val (.ref a)] [(.int ((w1 + w2) + w3))])
  rw [hF]
  refine own_retI X10 hx hret hlk (hb hby d4_14) (by decide) (by decide) ?_
  rw [e10]
  exact ⟨rfl, N0, rfl⟩
theorem pn_0 : plainFor x = true := plainFor_of_name (by first | (simp [plainName, overriddenIn]; done) | decide +kernel)
theorem pd_2 : parseMethodDescriptor "(IIIIIIIIIII)V" = some ⟨[.int, .int, .int, .int, .int, .int, .int, .int, .int, .int, .int], none⟩ := by decide +kernel
theorem pd_0 : parseMethodDescriptor "()I" = some ⟨[], some .int⟩ := by decide +kernel
theorem ef_0 (m : MethodId) (p1 : Int32) (p2 : Int32) (p3 : Int32) (p4 : Int32) (p5 : Int32) : entryFrame m #[(.int p1), (.int p2), (.int p3), (.int p4), (.int p5)] maxLocals = mkF m 0 #[.val (.int p1), .val (.int p2), .val (.int p3), .val (.int p4), .val (.int p5), .unset, .unset, .unset] [] := by first | (simp [entryFrame, mkF, argsToLocals, Value.category, maxLocals]; done) | rfl
def Q0 (Z : State) (p1 : Int32) (p2 : Int32) (p3 : Int32) (p4 : Int32) (p5 : Int32) (h0 : Heap) (n0 : Nat) (v : Option Value) (h : Heap) (L : List Loc) : Prop := v = some (.int 1) ∧ Fr n0 L
set_option maxRecDepth 65536 in
set_option maxHeartbeats 40000000 in
theorem rm0 (l : Launch) (Z : State) (a0 : Array Value) (hw : ∀ d ∈ tables_1, d.before a0 Z = true) (ws : List Jvm.Cond) (p1 : Int32) (p2 : Int32) (p3 : Int32) (p4 : Int32) (p5 : Int32) (h0 : Heap) (n0 : Nat) (Z0 : n0 ≤ h0.size) :
    MetFree l x (head1 (Jvm.Cond.code x code maxLocals ret :: ws) room_1) (fun xa U => xa = #[(.int p1), (.int p2), (.int p3), (.int p4), (.int p5)] ∧ Z.Warmed39 U.vm ∧ U.heap = h0) (fun _ _ _ _ _ => True) (fun _ U o U' => ∃ v L, o = .returned v ∧ Q0 Z p1 p2 p3 p4 p5 h0 n0 v U'.heap L ∧ FrameEnd U o U' L room_1.cells room_1.slots) := by
  refine own_body pn_0 ?_
  intro p e s m below meth c s₁ hx hby hml hown hnm hret hlk hZ X0 e0
  have hml : c.maxLocals = 8 := hml
  obtain ⟨F, hF⟩ : ∃ F : State → JFrame → Prop, F = own_Fin p.tables e below s room_1 (Q0 Z p1 p2 p3 p4 p5 h0 n0) := ⟨_, rfl⟩
  have hst : ∀ {T T' : State} {g g' : JFrame}, (∀ t, Steps p.tables e below (T'.setTop g') t → Steps p.tables e below (T.setTop g) t) → F T' g' → F T g := by subst hF; exact own_st
  have N0 := Fr.nil n0
  show own_Fin p.tables e below s room_1 (Q0 Z p1 p2 p3 p4 p5 h0 n0) s₁ (entryFrame m #[(.int p1), (.int p2), (.int p3), (.int p4), (.int p5)] maxLocals)
  rw [← hF]
  rw [ef_0]
  show F s₁ (mkF m 0 #[.val (.int p1), .val (.int p2), .val (.int p3), .val (.int p4), .val (.int p5), .unset, .unset, .unset] [])
  obtain ⟨T0, h0, b0, X0, e0, g0, E0, A0, D0, st0⟩ := own_new X0 hx hZ hown (hw _ (List.mem_of_getElem? (i := 0) rfl)) (hw _ (List.mem_of_getElem? (i := 1) rfl)) (hw _ (List.mem_of_getElem? (i := 2) rfl)) e0 (g := (mkF m 0 #[.val (.int p1), .val (.int p2), .val (.int p3), .val (.int p4), .val (.int p5), .unset, .unset, .unset] [])) rfl (hb hby at_0) (by decide) (by decide)
  have ge_b0 : n0 ≤ b0 := Nat.le_trans Z0 (Nat.le_of_eq g0.symm)
  have Z0_p0 : n0 ≤ h0.size := (Nat.le_trans Z0 E0.1)
  have F_events_b0 : Fld Z h0 b0 "com/example/horarium/horarium/course/Score" "events" "I" (.int (0 : Int32)) := D0 (Or.inr (hw _ (List.mem_of_getElem? (i := 15) rfl))) (ty := .int) (by decide)
  have F_unplaced_b0 : Fld Z h0 b0 "com/example/horarium/horarium/course/Score" "unplaced" "I" (.int (0 : Int32)) := D0 (Or.inr (hw _ (List.mem_of_getElem? (i := 17) rfl))) (ty := .int) (by decide)
  have F_distanceToFeasibility_b0 : Fld Z h0 b0 "com/example/horarium/horarium/course/Score" "distanceToFeasibility" "I" (.int (0 : Int32)) := D0 (Or.inr (hw _ (List.mem_of_getElem? (i := 19) rfl))) (ty := .int) (by decide)
  have F_unsuitableRooms_b0 : Fld Z h0 b0 "com/example/horarium/horarium/course/Score" "unsuitableRooms" "I" (.int (0 : Int32)) := D0 (Or.inr (hw _ (List.mem_of_getElem? (i := 21) rfl))) (ty := .int) (by decide)
  have F_unavailableTimeslots_b0 : Fld Z h0 b0 "com/example/horarium/horarium/course/Score" "unavailableTimeslots" "I" (.int (0 : Int32)) := D0 (Or.inr (hw _ (List.mem_of_getElem? (i := 23) rfl))) (ty := .int) (by decide)
  have F_precedenceViolations_b0 : Fld Z h0 b0 "com/example/horarium/horarium/course/Score" "precedenceViolations" "I" (.int (0 : Int32)) := D0 (Or.inr (hw _ (List.mem_of_getElem? (i := 25) rfl))) (ty := .int) (by decide)
  have F_studentClashes_b0 : Fld Z h0 b0 "com/example/horarium/horarium/course/Score" "studentClashes" "I" (.int (0 : Int32)) := D0 (Or.inr (hw _ (List.mem_of_getElem? (i := 27) rfl))) (ty := .int) (by decide)
  have F_roomClashes_b0 : Fld Z h0 b0 "com/example/horarium/horarium/course/Score" "roomClashes" "I" (.int (0 : Int32)) := D0 (Or.inr (hw _ (List.mem_of_getElem? (i := 29) rfl))) (ty := .int) (by decide)
  have F_softLastTimeslot_b0 : Fld Z h0 b0 "com/example/horarium/horarium/course/Score" "softLastTimeslot" "I" (.int (0 : Int32)) := D0 (Or.inr (hw _ (List.mem_of_getElem? (i := 31) rfl))) (ty := .int) (by decide)
  have F_softThreeInARow_b0 : Fld Z h0 b0 "com/example/horarium/horarium/course/Score" "softThreeInARow" "I" (.int (0 : Int32)) := D0 (Or.inr (hw _ (List.mem_of_getElem? (i := 33) rfl))) (ty := .int) (by decide)
  have F_softSingleEventDay_b0 : Fld Z h0 b0 "com/example/horarium/horarium/course/Score" "softSingleEventDay" "I" (.int (0 : Int32)) := D0 (Or.inr (hw _ (List.mem_of_getElem? (i := 35) rfl))) (ty := .int) (by decide)
  refine hst st0 ?_
  show F T0 (mkF m 3 #[.val (.int p1), .val (.int p2), .val (.int p3), .val (.int p4), .val (.int p5), .unset, .unset, .unset] [(.ref b0)])
  refine hst (fun t k => XS.dup X0.here hx rfl (hb hby at_3) rfl rfl k) ?_
  show F T0 (mkF m 4 #[.val (.int p1), .val (.int p2), .val (.int p3), .val (.int p4), .val (.int p5), .unset, .unset, .unset] [(.ref b0), (.ref b0)])
  refine hst (fun t k => XS.iloadN X0.here hx rfl (hb hby at_4) rfl k) ?_
  show F T0 (mkF m 5 #[.val (.int p1), .val (.int p2), .val (.int p3), .val (.int p4), .val (.int p5), .unset, .unset, .unset] [(.int p4), (.ref b0), (.ref b0)])
  refine hst (fun t k => XS.iload X0.here hx rfl (hb hby at_5) rfl k) ?_
  show F T0 (mkF m 7 #[.val (.int p1), .val (.int p2), .val (.int p3), .val (.int p4), .val (.int p5), .unset, .unset, .unset] [(.int p5), (.int p4), (.ref b0), (.ref b0)])
  refine hst (fun t k => XS.iloadN X0.here hx rfl (hb hby at_7) rfl k) ?_
  show F T0 (mkF m 8 #[.val (.int p1), .val (.int p2), .val (.int p3), .val (.int p4), .val (.int p5), .unset, .unset, .unset] [(.int p4), (.int p5), (.int p4), (.ref b0), (.ref b0)])
  refine hst (fun t k => XS.iload X0.here hx rfl (hb hby at_8) rfl k) ?_
  show F T0 (mkF m 10 #[.val (.int p1), .val (.int p2), .val (.int p3), .val (.int p4), .val (.int p5), .unset, .unset, .unset] [(.int p5), (.int p4), (.int p5), (.int p4), (.ref b0), (.ref b0)])
  refine hst (fun t k => XS.ixor X0.here hx rfl (hb hby at_10) rfl k) ?_
  show F T0 (mkF m 11 #[.val (.int p1), .val (.int p2), .val (.int p3), .val (.int p4), .val (.int p5), .unset, .unset, .unset] [(.int (p4 ^^^ p5)), (.int p5), (.int p4), (.ref b0), (.ref b0)])
  refine hst (fun t k => XS.iloadN X0.here hx rfl (hb hby at_11) rfl k) ?_
  show F T0 (mkF m 12 #[.val (.int p1), .val (.int p2), .val (.int p3), .val (.int p4), .val (.int p5), .unset, .unset, .unset] [(.int p4), (.int (p4 ^^^ p5)), (.int p5), (.int p4), (.ref b0), (.ref b0)])
  refine hst (fun t k => XS.iconst X0.here hx rfl (hb hby at_12) k) ?_
  show F T0 (mkF m 13 #[.val (.int p1), .val (.int p2), .val (.int p3), .val (.int p4), .val (.int p5), .unset, .unset, .unset] [(.int (-1 : Int32)), (.int p4), (.int (p4 ^^^ p5)), (.int p5), (.int p4), (.ref b0), (.ref b0)])
  refine hst (fun t k => XS.ixor X0.here hx rfl (hb hby at_13) rfl k) ?_
  show F T0 (mkF m 14 #[.val (.int p1), .val (.int p2), .val (.int p3), .val (.int p4), .val (.int p5), .unset, .unset, .unset] [(.int (p4 ^^^ (-1 : Int32))), (.int (p4 ^^^ p5)), (.int p5), (.int p4), (.ref b0), (.ref b0)])
  refine hst (fun t k => XS.iloadN X0.here hx rfl (hb hby at_14) rfl k) ?_
  show F T0 (mkF m 15 #[.val (.int p1), .val (.int p2), .val (.int p3), .val (.int p4), .val (.int p5), .unset, .unset, .unset] [(.int p4), (.int (p4 ^^^ (-1 : Int32))), (.int (p4 ^^^ p5)), (.int p5), (.int p4), (.ref b0), (.ref b0)])
  refine hst (fun t k => XS.iload X0.here hx rfl (hb hby at_15) rfl k) ?_
  show F T0 (mkF m 17 #[.val (.int p1), .val (.int p2), .val (.int p3), .val (.int p4), .val (.int p5), .unset, .unset, .unset] [(.int p5), (.int p4), (.int (p4 ^^^ (-1 : Int32))), (.int (p4 ^^^ p5)), (.int p5), (.int p4), (.ref b0), (.ref b0)])
  refine hst (fun t k => XS.iadd X0.here hx rfl (hb hby at_17) rfl k) ?_
  show F T0 (mkF m 18 #[.val (.int p1), .val (.int p2), .val (.int p3), .val (.int p4), .val (.int p5), .unset, .unset, .unset] [(.int (p4 + p5)), (.int (p4 ^^^ (-1 : Int32))), (.int (p4 ^^^ p5)), (.int p5), (.int p4), (.ref b0), (.ref b0)])
  refine hst (fun t k => XS.iloadN X0.here hx rfl (hb hby at_18) rfl k) ?_
  show F T0 (mkF m 19 #[.val (.int p1), .val (.int p2), .val (.int p3), .val (.int p4), .val (.int p5), .unset, .unset, .unset] [(.int p4), (.int (p4 + p5)), (.int (p4 ^^^ (-1 : Int32))), (.int (p4 ^^^ p5)), (.int p5), (.int p4), (.ref b0), (.ref b0)])
  refine hst (fun t k => XS.iload X0.here hx rfl (hb hby at_19) rfl k) ?_
  show F T0 (mkF m 21 #[.val (.int p1), .val (.int p2), .val (.int p3), .val (.int p4), .val (.int p5), .unset, .unset, .unset] [(.int p5), (.int p4), (.int (p4 + p5)), (.int (p4 ^^^ (-1 : Int32))), (.int (p4 ^^^ p5)), (.int p5), (.int p4), (.ref b0), (.ref b0)])
  refine hst (fun t k => XS.isub X0.here hx rfl (hb hby at_21) rfl k) ?_
  show F T0 (mkF m 22 #[.val (.int p1), .val (.int p2), .val (.int p3), .val (.int p4), .val (.int p5), .unset, .unset, .unset] [(.int (p4 - p5)), (.int (p4 + p5)), (.int (p4 ^^^ (-1 : Int32))), (.int (p4 ^^^ p5)), (.int p5), (.int p4), (.ref b0), (.ref b0)])
  refine hst (fun t k => XS.iload X0.here hx rfl (hb hby at_22) rfl k) ?_
  show F T0 (mkF m 24 #[.val (.int p1), .val (.int p2), .val (.int p3), .val (.int p4), .val (.int p5), .unset, .unset, .unset] [(.int p5), (.int (p4 - p5)), (.int (p4 + p5)), (.int (p4 ^^^ (-1 : Int32))), (.int (p4 ^^^ p5)), (.int p5), (.int p4), (.ref b0), (.ref b0)])
  refine hst (fun t k => XS.iconst X0.here hx rfl (hb hby at_24) k) ?_
  show F T0 (mkF m 25 #[.val (.int p1), .val (.int p2), .val (.int p3), .val (.int p4), .val (.int p5), .unset, .unset, .unset] [(.int (3 : Int32)), (.int p5), (.int (p4 - p5)), (.int (p4 + p5)), (.int (p4 ^^^ (-1 : Int32))), (.int (p4 ^^^ p5)), (.int p5), (.int p4), (.ref b0), (.ref b0)])
  refine hst (fun t k => XS.imul X0.here hx rfl (hb hby at_25) rfl k) ?_
  show F T0 (mkF m 26 #[.val (.int p1), .val (.int p2), .val (.int p3), .val (.int p4), .val (.int p5), .unset, .unset, .unset] [(.int (p5 * (3 : Int32))), (.int (p4 - p5)), (.int (p4 + p5)), (.int (p4 ^^^ (-1 : Int32))), (.int (p4 ^^^ p5)), (.int p5), (.int p4), (.ref b0), (.ref b0)])
  refine hst (fun t k => XS.iloadN X0.here hx rfl (hb hby at_26) rfl k) ?_
  show F T0 (mkF m 27 #[.val (.int p1), .val (.int p2), .val (.int p3), .val (.int p4), .val (.int p5), .unset, .unset, .unset] [(.int p4), (.int (p5 * (3 : Int32))), (.int (p4 - p5)), (.int (p4 + p5)), (.int (p4 ^^^ (-1 : Int32))), (.int (p4 ^^^ p5)), (.int p5), (.int p4), (.ref b0), (.ref b0)])
  refine hst (fun t k => XS.iconst X0.here hx rfl (hb hby at_27) k) ?_
  show F T0 (mkF m 28 #[.val (.int p1), .val (.int p2), .val (.int p3), .val (.int p4), .val (.int p5), .unset, .unset, .unset] [(.int (1 : Int32)), (.int p4), (.int (p5 * (3 : Int32))), (.int (p4 - p5)), (.int (p4 + p5)), (.int (p4 ^^^ (-1 : Int32))), (.int (p4 ^^^ p5)), (.int p5), (.int p4), (.ref b0), (.ref b0)])
  refine hst (fun t k => XS.iushr X0.here hx rfl (hb hby at_28) rfl k) ?_
  show F T0 (mkF m 29 #[.val (.int p1), .val (.int p2), .val (.int p3), .val (.int p4), .val (.int p5), .unset, .unset, .unset] [(.int ((p4.toUInt32 >>> ((1 : Int32) &&& 31).toUInt32).toInt32)), (.int (p5 * (3 : Int32))), (.int (p4 - p5)), (.int (p4 + p5)), (.int (p4 ^^^ (-1 : Int32))), (.int (p4 ^^^ p5)), (.int p5), (.int p4), (.ref b0), (.ref b0)])
  refine hst (fun t k => XS.iloadN X0.here hx rfl (hb hby at_29) rfl k) ?_
  show F T0 (mkF m 30 #[.val (.int p1), .val (.int p2), .val (.int p3), .val (.int p4), .val (.int p5), .unset, .unset, .unset] [(.int p1), (.int ((p4.toUInt32 >>> ((1 : Int32) &&& 31).toUInt32).toInt32)), (.int (p5 * (3 : Int32))), (.int (p4 - p5)), (.int (p4 + p5)), (.int (p4 ^^^ (-1 : Int32))), (.int (p4 ^^^ p5)), (.int p5), (.int p4), (.ref b0), (.ref b0)])
  refine hst (fun t k => XS.iloadN X0.here hx rfl (hb hby at_30) rfl k) ?_
  show F T0 (mkF m 31 #[.val (.int p1), .val (.int p2), .val (.int p3), .val (.int p4), .val (.int p5), .unset, .unset, .unset] [(.int p2), (.int p1), (.int ((p4.toUInt32 >>> ((1 : Int32) &&& 31).toUInt32).toInt32)), (.int (p5 * (3 : Int32))), (.int (p4 - p5)), (.int (p4 + p5)), (.int (p4 ^^^ (-1 : Int32))), (.int (p4 ^^^ p5)), (.int p5), (.int p4), (.ref b0), (.ref b0)])
  refine hst (fun t k => XS.iloadN X0.here hx rfl (hb hby at_31) rfl k) ?_
  show F T0 (mkF m 32 #[.val (.int p1), .val (.int p2), .val (.int p3), .val (.int p4), .val (.int p5), .unset, .unset, .unset] [(.int p3), (.int p2), (.int p1), (.int ((p4.toUInt32 >>> ((1 : Int32) &&& 31).toUInt32).toInt32)), (.int (p5 * (3 : Int32))), (.int (p4 - p5)), (.int (p4 + p5)), (.int (p4 ^^^ (-1 : Int32))), (.int (p4 ^^^ p5)), (.int p5), (.int p4), (.ref b0), (.ref b0)])
  obtain ⟨v32, T32, Lc32, X32, hQ32, st32⟩ := own_callN X0 hx hZ (y := (⟨"com/example/horarium/horarium/course/Score", "<init>", "(IIIIIIIIIII)V"⟩ : MethodName)) rfl hown (hw _ (List.mem_of_getElem? (i := 3) rfl)) (hw _ (List.mem_of_getElem? (i := 4) rfl)) (hw _ (List.mem_of_getElem? (i := 2) rfl)) (hw _ (List.mem_of_getElem? (i := 5) rfl)) (by decide) e0 (rm1 l Z a0 hw [] b0 p4 p5 (p4 ^^^ p5) (p4 ^^^ (-1 : Int32)) (p4 + p5) (p4 - p5) (p5 * (3 : Int32)) ((p4.toUInt32 >>> ((1 : Int32) &&& 31).toUInt32).toInt32) p1 p2 p3 h0 n0 Z0_p0 A0 ge_b0 F_events_b0 F_unplaced_b0 F_distanceToFeasibility_b0 F_unsuitableRooms_b0 F_unavailableTimeslots_b0 F_precedenceViolations_b0 F_studentClashes_b0 F_roomClashes_b0 F_softLastTimeslot_b0 F_softThreeInARow_b0 F_softSingleEventDay_b0) (by decide) (by decide) (g := (mkF m 32 #[.val (.int p1), .val (.int p2), .val (.int p3), .val (.int p4), .val (.int p5), .unset, .unset, .unset] [(.int p3), (.int p2), (.int p1), (.int ((p4.toUInt32 >>> ((1 : Int32) &&& 31).toUInt32).toInt32)), (.int (p5 * (3 : Int32))), (.int (p4 - p5)), (.int (p4 + p5)), (.int (p4 ^^^ (-1 : Int32))), (.int (p4 ^^^ p5)), (.int p5), (.int p4), (.ref b0), (.ref b0)])) rfl (by rw [hml]; rfl) (a := b0) (argsL := [(.int p4), (.int p5), (.int (p4 ^^^ p5)), (.int (p4 ^^^ (-1 : Int32))), (.int (p4 + p5)), (.int (p4 - p5)), (.int (p5 * (3 : Int32))), (.int ((p4.toUInt32 >>> ((1 : Int32) &&& 31).toUInt32).toInt32)), (.int p1), (.int p2), (.int p3)]) (rest := [(.ref b0)]) (lenOf pd_2 rfl) rfl rfl (W := 1) (by show 2 * 0 + _ ≤ _; exact Nat.le_of_eq rfl) (hb hby at_32) (by decide) (by decide)
  obtain ⟨rfl, Nq32, K32, q1_32, q2_32, q3_32, q4_32⟩ := hQ32
  have N32 := Fr.app N0 Nq32
  have Z0_p32 : n0 ≤ T32.heap.size := Nat.le_trans Z0_p0 K32.1
  refine hst st32 ?_
  show F T32 (mkF m 35 #[.val (.int p1), .val (.int p2), .val (.int p3), .val (.int p4), .val (.int p5), .unset, .unset, .unset] [(.ref b0)])
  refine hst (fun t k => XS.astore X32.here hx rfl (hb hby at_35) rfl rfl (l' := #[.val (.int p1), .val (.int p2), .val (.int p3), .val (.int p4), .val (.int p5), .val (.ref b0), .unset, .unset]) rfl k) ?_
  show F T32 (mkF m 37 #[.val (.int p1), .val (.int p2), .val (.int p3), .val (.int p4), .val (.int p5), .val (.ref b0), .unset, .unset] [])
  obtain ⟨T37, h37, b37, X37, e37, g37, E37, A37, D37, st37⟩ := own_new X32 hx hZ hown (hw _ (List.mem_of_getElem? (i := 0) rfl)) (hw _ (List.mem_of_getElem? (i := 1) rfl)) (hw _ (List.mem_of_getElem? (i := 2) rfl)) rfl (g := (mkF m 37 #[.val (.int p1), .val (.int p2), .val (.int p3), .val (.int p4), .val (.int p5), .val (.ref b0), .unset, .unset] [])) rfl (hb hby at_37) (by decide) (by decide)
  have ne_b0_b37 : b0 ≠ b37 := Nat.ne_of_lt (Nat.lt_of_lt_of_le q1_32.lt (Nat.le_of_eq g37.symm))
  have ge_b37 : n0 ≤ b37 := Nat.le_trans Z0_p32 (Nat.le_of_eq g37.symm)
  have q1_32_p37 : Exa Z h37 b0 "com/example/horarium/horarium/course/Score" := q1_32.ext E37
  have q2_32_p37 : Fld Z h37 b0 "com/example/horarium/horarium/course/Score" "softLastTimeslot" "I" (.int p1) := q2_32.ext E37
  have q3_32_p37 : Fld Z h37 b0 "com/example/horarium/horarium/course/Score" "softThreeInARow" "I" (.int p2) := q3_32.ext E37
  have q4_32_p37 : Fld Z h37 b0 "com/example/horarium/horarium/course/Score" "softSingleEventDay" "I" (.int p3) := q4_32.ext E37
  have Z0_p37 : n0 ≤ h37.size := (Nat.le_trans Z0_p32 E37.1)
  have F_events_b37 : Fld Z h37 b37 "com/example/horarium/horarium/course/Score" "events" "I" (.int (0 : Int32)) := D37 (Or.inr (hw _ (List.mem_of_getElem? (i := 15) rfl))) (ty := .int) (by decide)
  have F_unplaced_b37 : Fld Z h37 b37 "com/example/horarium/horarium/course/Score" "unplaced" "I" (.int (0 : Int32)) := D37 (Or.inr (hw _ (List.mem_of_getElem? (i := 17) rfl))) (ty := .int) (by decide)
  have F_distanceToFeasibility_b37 : Fld Z h37 b37 "com/example/horarium/horarium/course/Score" "distanceToFeasibility" "I" (.int (0 : Int32)) := D37 (Or.inr (hw _ (List.mem_of_getElem? (i := 19) rfl))) (ty := .int) (by decide)
  have F_unsuitableRooms_b37 : Fld Z h37 b37 "com/example/horarium/horarium/course/Score" "unsuitableRooms" "I" (.int (0 : Int32)) := D37 (Or.inr (hw _ (List.mem_of_getElem? (i := 21) rfl))) (ty := .int) (by decide)
  have F_unavailableTimeslots_b37 : Fld Z h37 b37 "com/example/horarium/horarium/course/Score" "unavailableTimeslots" "I" (.int (0 : Int32)) := D37 (Or.inr (hw _ (List.mem_of_getElem? (i := 23) rfl))) (ty := .int) (by decide)
  have F_precedenceViolations_b37 : Fld Z h37 b37 "com/example/horarium/horarium/course/Score" "precedenceViolations" "I" (.int (0 : Int32)) := D37 (Or.inr (hw _ (List.mem_of_getElem? (i := 25) rfl))) (ty := .int) (by decide)
  have F_studentClashes_b37 : Fld Z h37 b37 "com/example/horarium/horarium/course/Score" "studentClashes" "I" (.int (0 : Int32)) := D37 (Or.inr (hw _ (List.mem_of_getElem? (i := 27) rfl))) (ty := .int) (by decide)
  have F_roomClashes_b37 : Fld Z h37 b37 "com/example/horarium/horarium/course/Score" "roomClashes" "I" (.int (0 : Int32)) := D37 (Or.inr (hw _ (List.mem_of_getElem? (i := 29) rfl))) (ty := .int) (by decide)
  have F_softLastTimeslot_b37 : Fld Z h37 b37 "com/example/horarium/horarium/course/Score" "softLastTimeslot" "I" (.int (0 : Int32)) := D37 (Or.inr (hw _ (List.mem_of_getElem? (i := 31) rfl))) (ty := .int) (by decide)
  have F_softThreeInARow_b37 : Fld Z h37 b37 "com/example/horarium/horarium/course/Score" "softThreeInARow" "I" (.int (0 : Int32)) := D37 (Or.inr (hw _ (List.mem_of_getElem? (i := 33) rfl))) (ty := .int) (by decide)
  have F_softSingleEventDay_b37 : Fld Z h37 b37 "com/example/horarium/horarium/course/Score" "softSingleEventDay" "I" (.int (0 : Int32)) := D37 (Or.inr (hw _ (List.mem_of_getElem? (i := 35) rfl))) (ty := .int) (by decide)
  refine hst st37 ?_
  show F T37 (mkF m 40 #[.val (.int p1), .val (.int p2), .val (.int p3), .val (.int p4), .val (.int p5), .val (.ref b0), .unset, .unset] [(.ref b37)])
  refine hst (fun t k => XS.dup X37.here hx rfl (hb hby at_40) rfl rfl k) ?_
  show F T37 (mkF m 41 #[.val (.int p1), .val (.int p2), .val (.int p3), .val (.int p4), .val (.int p5), .val (.ref b0), .unset, .unset] [(.ref b37), (.ref b37)])
  refine hst (fun t k => XS.iload X37.here hx rfl (hb hby at_41) rfl k) ?_
  show F T37 (mkF m 43 #[.val (.int p1), .val (.int p2), .val (.int p3), .val (.int p4), .val (.int p5), .val (.ref b0), .unset, .unset] [(.int p5), (.ref b37), (.ref b37)])
  refine hst (fun t k => XS.iconst X37.here hx rfl (hb hby at_43) k) ?_
  show F T37 (mkF m 44 #[.val (.int p1), .val (.int p2), .val (.int p3), .val (.int p4), .val (.int p5), .val (.ref b0), .unset, .unset] [(.int (-1 : Int32)), (.int p5), (.ref b37), (.ref b37)])
  refine hst (fun t k => XS.ixor X37.here hx rfl (hb hby at_44) rfl k) ?_
  show F T37 (mkF m 45 #[.val (.int p1), .val (.int p2), .val (.int p3), .val (.int p4), .val (.int p5), .val (.ref b0), .unset, .unset] [(.int (p5 ^^^ (-1 : Int32))), (.ref b37), (.ref b37)])
  refine hst (fun t k => XS.iloadN X37.here hx rfl (hb hby at_45) rfl k) ?_
  show F T37 (mkF m 46 #[.val (.int p1), .val (.int p2), .val (.int p3), .val (.int p4), .val (.int p5), .val (.ref b0), .unset, .unset] [(.int p4), (.int (p5 ^^^ (-1 : Int32))), (.ref b37), (.ref b37)])
  refine hst (fun t k => XS.iconst X37.here hx rfl (hb hby at_46) k) ?_
  show F T37 (mkF m 47 #[.val (.int p1), .val (.int p2), .val (.int p3), .val (.int p4), .val (.int p5), .val (.ref b0), .unset, .unset] [(.int (5 : Int32)), (.int p4), (.int (p5 ^^^ (-1 : Int32))), (.ref b37), (.ref b37)])
  refine hst (fun t k => XS.imul X37.here hx rfl (hb hby at_47) rfl k) ?_
  show F T37 (mkF m 48 #[.val (.int p1), .val (.int p2), .val (.int p3), .val (.int p4), .val (.int p5), .val (.ref b0), .unset, .unset] [(.int (p4 * (5 : Int32))), (.int (p5 ^^^ (-1 : Int32))), (.ref b37), (.ref b37)])
  refine hst (fun t k => XS.iload X37.here hx rfl (hb hby at_48) rfl k) ?_
  show F T37 (mkF m 50 #[.val (.int p1), .val (.int p2), .val (.int p3), .val (.int p4), .val (.int p5), .val (.ref b0), .unset, .unset] [(.int p5), (.int (p4 * (5 : Int32))), (.int (p5 ^^^ (-1 : Int32))), (.ref b37), (.ref b37)])
  refine hst (fun t k => XS.iconst X37.here hx rfl (hb hby at_50) k) ?_
  show F T37 (mkF m 51 #[.val (.int p1), .val (.int p2), .val (.int p3), .val (.int p4), .val (.int p5), .val (.ref b0), .unset, .unset] [(.int (2 : Int32)), (.int p5), (.int (p4 * (5 : Int32))), (.int (p5 ^^^ (-1 : Int32))), (.ref b37), (.ref b37)])
  refine hst (fun t k => XS.iushr X37.here hx rfl (hb hby at_51) rfl k) ?_
  show F T37 (mkF m 52 #[.val (.int p1), .val (.int p2), .val (.int p3), .val (.int p4), .val (.int p5), .val (.ref b0), .unset, .unset] [(.int ((p5.toUInt32 >>> ((2 : Int32) &&& 31).toUInt32).toInt32)), (.int (p4 * (5 : Int32))), (.int (p5 ^^^ (-1 : Int32))), (.ref b37), (.ref b37)])
  refine hst (fun t k => XS.iloadN X37.here hx rfl (hb hby at_52) rfl k) ?_
  show F T37 (mkF m 53 #[.val (.int p1), .val (.int p2), .val (.int p3), .val (.int p4), .val (.int p5), .val (.ref b0), .unset, .unset] [(.int p4), (.int ((p5.toUInt32 >>> ((2 : Int32) &&& 31).toUInt32).toInt32)), (.int (p4 * (5 : Int32))), (.int (p5 ^^^ (-1 : Int32))), (.ref b37), (.ref b37)])
  refine hst (fun t k => XS.iload X37.here hx rfl (hb hby at_53) rfl k) ?_
  show F T37 (mkF m 55 #[.val (.int p1), .val (.int p2), .val (.int p3), .val (.int p4), .val (.int p5), .val (.ref b0), .unset, .unset] [(.int p5), (.int p4), (.int ((p5.toUInt32 >>> ((2 : Int32) &&& 31).toUInt32).toInt32)), (.int (p4 * (5 : Int32))), (.int (p5 ^^^ (-1 : Int32))), (.ref b37), (.ref b37)])
  refine hst (fun t k => XS.ineg X37.here hx rfl (hb hby at_55) rfl k) ?_
  show F T37 (mkF m 56 #[.val (.int p1), .val (.int p2), .val (.int p3), .val (.int p4), .val (.int p5), .val (.ref b0), .unset, .unset] [(.int (-p5)), (.int p4), (.int ((p5.toUInt32 >>> ((2 : Int32) &&& 31).toUInt32).toInt32)), (.int (p4 * (5 : Int32))), (.int (p5 ^^^ (-1 : Int32))), (.ref b37), (.ref b37)])
  refine hst (fun t k => XS.iloadN X37.here hx rfl (hb hby at_56) rfl k) ?_
  show F T37 (mkF m 57 #[.val (.int p1), .val (.int p2), .val (.int p3), .val (.int p4), .val (.int p5), .val (.ref b0), .unset, .unset] [(.int p4), (.int (-p5)), (.int p4), (.int ((p5.toUInt32 >>> ((2 : Int32) &&& 31).toUInt32).toInt32)), (.int (p4 * (5 : Int32))), (.int (p5 ^^^ (-1 : Int32))), (.ref b37), (.ref b37)])
  refine hst (fun t k => XS.iload X37.here hx rfl (hb hby at_57) rfl k) ?_
  show F T37 (mkF m 59 #[.val (.int p1), .val (.int p2), .val (.int p3), .val (.int p4), .val (.int p5), .val (.ref b0), .unset, .unset] [(.int p5), (.int p4), (.int (-p5)), (.int p4), (.int ((p5.toUInt32 >>> ((2 : Int32) &&& 31).toUInt32).toInt32)), (.int (p4 * (5 : Int32))), (.int (p5 ^^^ (-1 : Int32))), (.ref b37), (.ref b37)])
  refine hst (fun t k => XS.ior X37.here hx rfl (hb hby at_59) rfl k) ?_
  show F T37 (mkF m 60 #[.val (.int p1), .val (.int p2), .val (.int p3), .val (.int p4), .val (.int p5), .val (.ref b0), .unset, .unset] [(.int (p4 ||| p5)), (.int (-p5)), (.int p4), (.int ((p5.toUInt32 >>> ((2 : Int32) &&& 31).toUInt32).toInt32)), (.int (p4 * (5 : Int32))), (.int (p5 ^^^ (-1 : Int32))), (.ref b37), (.ref b37)])
  refine hst (fun t k => XS.iloadN X37.here hx rfl (hb hby at_60) rfl k) ?_
  show F T37 (mkF m 61 #[.val (.int p1), .val (.int p2), .val (.int p3), .val (.int p4), .val (.int p5), .val (.ref b0), .unset, .unset] [(.int p4), (.int (p4 ||| p5)), (.int (-p5)), (.int p4), (.int ((p5.toUInt32 >>> ((2 : Int32) &&& 31).toUInt32).toInt32)), (.int (p4 * (5 : Int32))), (.int (p5 ^^^ (-1 : Int32))), (.ref b37), (.ref b37)])
  refine hst (fun t k => XS.iload X37.here hx rfl (hb hby at_61) rfl k) ?_
  show F T37 (mkF m 63 #[.val (.int p1), .val (.int p2), .val (.int p3), .val (.int p4), .val (.int p5), .val (.ref b0), .unset, .unset] [(.int p5), (.int p4), (.int (p4 ||| p5)), (.int (-p5)), (.int p4), (.int ((p5.toUInt32 >>> ((2 : Int32) &&& 31).toUInt32).toInt32)), (.int (p4 * (5 : Int32))), (.int (p5 ^^^ (-1 : Int32))), (.ref b37), (.ref b37)])
  refine hst (fun t k => XS.iand X37.here hx rfl (hb hby at_63) rfl k) ?_
  show F T37 (mkF m 64 #[.val (.int p1), .val (.int p2), .val (.int p3), .val (.int p4), .val (.int p5), .val (.ref b0), .unset, .unset] [(.int (p4 &&& p5)), (.int (p4 ||| p5)), (.int (-p5)), (.int p4), (.int ((p5.toUInt32 >>> ((2 : Int32) &&& 31).toUInt32).toInt32)), (.int (p4 * (5 : Int32))), (.int (p5 ^^^ (-1 : Int32))), (.ref b37), (.ref b37)])
  refine hst (fun t k => XS.iload X37.here hx rfl (hb hby at_64) rfl k) ?_
  show F T37 (mkF m 66 #[.val (.int p1), .val (.int p2), .val (.int p3), .val (.int p4), .val (.int p5), .val (.ref b0), .unset, .unset] [(.int p5), (.int (p4 &&& p5)), (.int (p4 ||| p5)), (.int (-p5)), (.int p4), (.int ((p5.toUInt32 >>> ((2 : Int32) &&& 31).toUInt32).toInt32)), (.int (p4 * (5 : Int32))), (.int (p5 ^^^ (-1 : Int32))), (.ref b37), (.ref b37)])
  refine hst (fun t k => XS.iloadN X37.here hx rfl (hb hby at_66) rfl k) ?_
  show F T37 (mkF m 67 #[.val (.int p1), .val (.int p2), .val (.int p3), .val (.int p4), .val (.int p5), .val (.ref b0), .unset, .unset] [(.int p4), (.int p5), (.int (p4 &&& p5)), (.int (p4 ||| p5)), (.int (-p5)), (.int p4), (.int ((p5.toUInt32 >>> ((2 : Int32) &&& 31).toUInt32).toInt32)), (.int (p4 * (5 : Int32))), (.int (p5 ^^^ (-1 : Int32))), (.ref b37), (.ref b37)])
  refine hst (fun t k => XS.isub X37.here hx rfl (hb hby at_67) rfl k) ?_
  show F T37 (mkF m 68 #[.val (.int p1), .val (.int p2), .val (.int p3), .val (.int p4), .val (.int p5), .val (.ref b0), .unset, .unset] [(.int (p5 - p4)), (.int (p4 &&& p5)), (.int (p4 ||| p5)), (.int (-p5)), (.int p4), (.int ((p5.toUInt32 >>> ((2 : Int32) &&& 31).toUInt32).toInt32)), (.int (p4 * (5 : Int32))), (.int (p5 ^^^ (-1 : Int32))), (.ref b37), (.ref b37)])
  refine hst (fun t k => XS.iloadN X37.here hx rfl (hb hby at_68) rfl k) ?_
  show F T37 (mkF m 69 #[.val (.int p1), .val (.int p2), .val (.int p3), .val (.int p4), .val (.int p5), .val (.ref b0), .unset, .unset] [(.int p3), (.int (p5 - p4)), (.int (p4 &&& p5)), (.int (p4 ||| p5)), (.int (-p5)), (.int p4), (.int ((p5.toUInt32 >>> ((2 : Int32) &&& 31).toUInt32).toInt32)), (.int (p4 * (5 : Int32))), (.int (p5 ^^^ (-1 : Int32))), (.ref b37), (.ref b37)])
  refine hst (fun t k => XS.iloadN X37.here hx rfl (hb hby at_69) rfl k) ?_
  show F T37 (mkF m 70 #[.val (.int p1), .val (.int p2), .val (.int p3), .val (.int p4), .val (.int p5), .val (.ref b0), .unset, .unset] [(.int p1), (.int p3), (.int (p5 - p4)), (.int (p4 &&& p5)), (.int (p4 ||| p5)), (.int (-p5)), (.int p4), (.int ((p5.toUInt32 >>> ((2 : Int32) &&& 31).toUInt32).toInt32)), (.int (p4 * (5 : Int32))), (.int (p5 ^^^ (-1 : Int32))), (.ref b37), (.ref b37)])
  refine hst (fun t k => XS.iloadN X37.here hx rfl (hb hby at_70) rfl k) ?_
  show F T37 (mkF m 71 #[.val (.int p1), .val (.int p2), .val (.int p3), .val (.int p4), .val (.int p5), .val (.ref b0), .unset, .unset] [(.int p2), (.int p1), (.int p3), (.int (p5 - p4)), (.int (p4 &&& p5)), (.int (p4 ||| p5)), (.int (-p5)), (.int p4), (.int ((p5.toUInt32 >>> ((2 : Int32) &&& 31).toUInt32).toInt32)), (.int (p4 * (5 : Int32))), (.int (p5 ^^^ (-1 : Int32))), (.ref b37), (.ref b37)])
  obtain ⟨v71, T71, Lc71, X71, hQ71, st71⟩ := own_callN X37 hx hZ (y := (⟨"com/example/horarium/horarium/course/Score", "<init>", "(IIIIIIIIIII)V"⟩ : MethodName)) rfl hown (hw _ (List.mem_of_getElem? (i := 3) rfl)) (hw _ (List.mem_of_getElem? (i := 4) rfl)) (hw _ (List.mem_of_getElem? (i := 2) rfl)) (hw _ (List.mem_of_getElem? (i := 5) rfl)) (by decide) e37 (rm1 l Z a0 hw [] b37 (p5 ^^^ (-1 : Int32)) (p4 * (5 : Int32)) ((p5.toUInt32 >>> ((2 : Int32) &&& 31).toUInt32).toInt32) p4 (-p5) (p4 ||| p5) (p4 &&& p5) (p5 - p4) p3 p1 p2 h37 n0 Z0_p37 A37 ge_b37 F_events_b37 F_unplaced_b37 F_distanceToFeasibility_b37 F_unsuitableRooms_b37 F_unavailableTimeslots_b37 F_precedenceViolations_b37 F_studentClashes_b37 F_roomClashes_b37 F_softLastTimeslot_b37 F_softThreeInARow_b37 F_softSingleEventDay_b37) (by decide) (by decide) (g := (mkF m 71 #[.val (.int p1), .val (.int p2), .val (.int p3), .val (.int p4), .val (.int p5), .val (.ref b0), .unset, .unset] [(.int p2), (.int p1), (.int p3), (.int (p5 - p4)), (.int (p4 &&& p5)), (.int (p4 ||| p5)), (.int (-p5)), (.int p4), (.int ((p5.toUInt32 >>> ((2 : Int32) &&& 31).toUInt32).toInt32)), (.int (p4 * (5 : Int32))), (.int (p5 ^^^ (-1 : Int32))), (.ref b37), (.ref b37)])) rfl (by rw [hml]; rfl) (a := b37) (argsL := [(.int (p5 ^^^ (-1 : Int32))), (.int (p4 * (5 : Int32))), (.int ((p5.toUInt32 >>> ((2 : Int32) &&& 31).toUInt32).toInt32)), (.int p4), (.int (-p5)), (.int (p4 ||| p5)), (.int (p4 &&& p5)), (.int (p5 - p4)), (.int p3), (.int p1), (.int p2)]) (rest := [(.ref b37)]) (lenOf pd_2 rfl) rfl rfl (W := 1) (by show 2 * 0 + _ ≤ _; exact Nat.le_of_eq rfl) (hb hby at_71) (by decide) (by decide)
  obtain ⟨rfl, Nq71, K71, q1_71, q2_71, q3_71, q4_71⟩ := hQ71
  have N71 := Fr.app N32 Nq71
  have q1_32_p71 : Exa Z T71.heap b0 "com/example/horarium/horarium/course/Score" := q1_32_p37.keep K71
  have q2_32_p71 : Fld Z T71.heap b0 "com/example/horarium/horarium/course/Score" "softLastTimeslot" "I" (.int p1) := q2_32_p37.keep K71 (by simp only [List.mem_cons, List.not_mem_nil, or_false, not_or]; exact ne_b0_b37)
  have q3_32_p71 : Fld Z T71.heap b0 "com/example/horarium/horarium/course/Score" "softThreeInARow" "I" (.int p2) := q3_32_p37.keep K71 (by simp only [List.mem_cons, List.not_mem_nil, or_false, not_or]; exact ne_b0_b37)
  have q4_32_p71 : Fld Z T71.heap b0 "com/example/horarium/horarium/course/Score" "softSingleEventDay" "I" (.int p3) := q4_32_p37.keep K71 (by simp only [List.mem_cons, List.not_mem_nil, or_false, not_or]; exact ne_b0_b37)
  have Z0_p71 : n0 ≤ T71.heap.size := Nat.le_trans Z0_p37 K71.1
  refine hst st71 ?_
  show F T71 (mkF m 74 #[.val (.int p1), .val (.int p2), .val (.int p3), .val (.int p4), .val (.int p5), .val (.ref b0), .unset, .unset] [(.ref b37)])
  refine hst (fun t k => XS.astore X71.here hx rfl (hb hby at_74) rfl rfl (l' := #[.val (.int p1), .val (.int p2), .val (.int p3), .val (.int p4), .val (.int p5), .val (.ref b0), .val (.ref b37), .unset]) rfl k) ?_
  show F T71 (mkF m 76 #[.val (.int p1), .val (.int p2), .val (.int p3), .val (.int p4), .val (.int p5), .val (.ref b0), .val (.ref b37), .unset] [])
  refine hst (fun t k => XS.iloadN X71.here hx rfl (hb hby at_76) rfl k) ?_
  show F T71 (mkF m 77 #[.val (.int p1), .val (.int p2), .val (.int p3), .val (.int p4), .val (.int p5), .val (.ref b0), .val (.ref b37), .unset] [(.int p1)])
  refine hst (fun t k => XS.iloadN X71.here hx rfl (hb hby at_77) rfl k) ?_
  show F T71 (mkF m 78 #[.val (.int p1), .val (.int p2), .val (.int p3), .val (.int p4), .val (.int p5), .val (.ref b0), .val (.ref b37), .unset] [(.int p2), (.int p1)])
  refine hst (fun t k => XS.iadd X71.here hx rfl (hb hby at_78) rfl k) ?_
  show F T71 (mkF m 79 #[.val (.int p1), .val (.int p2), .val (.int p3), .val (.int p4), .val (.int p5), .val (.ref b0), .val (.ref b37), .unset] [(.int (p1 + p2))])
  refine hst (fun t k => XS.iloadN X71.here hx rfl (hb hby at_79) rfl k) ?_
  show F T71 (mkF m 80 #[.val (.int p1), .val (.int p2), .val (.int p3), .val (.int p4), .val (.int p5), .val (.ref b0), .val (.ref b37), .unset] [(.int p3), (.int (p1 + p2))])
  refine hst (fun t k => XS.iadd X71.here hx rfl (hb hby at_80) rfl k) ?_
  show F T71 (mkF m 81 #[.val (.int p1), .val (.int p2), .val (.int p3), .val (.int p4), .val (.int p5), .val (.ref b0), .val (.ref b37), .unset] [(.int ((p1 + p2) + p3))])
  refine hst (fun t k => XS.istore X71.here hx rfl (hb hby at_81) rfl (l' := #[.val (.int p1), .val (.int p2), .val (.int p3), .val (.int p4), .val (.int p5), .val (.ref b0), .val (.ref b37), .val (.int ((p1 + p2) + p3))]) rfl k) ?_
  show F T71 (mkF m 83 #[.val (.int p1), .val (.int p2), .val (.int p3), .val (.int p4), .val (.int p5), .val (.ref b0), .val (.ref b37), .val (.int ((p1 + p2) + p3))] [])
  refine hst (fun t k => XS.aload X71.here hx rfl (hb hby at_83) rfl rfl k) ?_
  show F T71 (mkF m 85 #[.val (.int p1), .val (.int p2), .val (.int p3), .val (.int p4), .val (.int p5), .val (.ref b0), .val (.ref b37), .val (.int ((p1 + p2) + p3))] [(.ref b0)])
  obtain ⟨v85, T85, Lc85, X85, hQ85, st85⟩ := own_callV X71 hx hZ hown (y := (⟨"com/example/horarium/horarium/course/Score", "softCost", "()I"⟩ : MethodName)) (hw _ (List.mem_of_getElem? (i := 36) rfl)) (hw _ (List.mem_of_getElem? (i := 37) rfl)) (hw _ (List.mem_of_getElem? (i := 39) rfl)) (hw _ (List.mem_of_getElem? (i := 38) rfl)) (hw _ (List.mem_of_getElem? (i := 2) rfl)) (hw _ (List.mem_of_getElem? (i := 40) rfl)) (by decide) rfl q1_32_p71 (rm4 l Z a0 hw [] b0 p1 p2 p3 T71.heap n0 Z0_p71 q2_32_p71 q3_32_p71 q4_32_p71) (by decide) (by decide) (g := (mkF m 85 #[.val (.int p1), .val (.int p2), .val (.int p3), .val (.int p4), .val (.int p5), .val (.ref b0), .val (.ref b37), .val (.int ((p1 + p2) + p3))] [(.ref b0)])) rfl (by rw [hml]; rfl) (argsL := []) (rest := []) (lenOf pd_0 rfl) rfl rfl (W := 0) (by show 2 * 0 + _ ≤ _; exact Nat.le_of_eq rfl) (hb hby at_85) (by decide) (by decide)
  obtain ⟨rfl, Nq85, he85⟩ := hQ85
  have N85 := Fr.app N71 Nq85
  refine hst st85 ?_
  show F T85 (mkF m 88 #[.val (.int p1), .val (.int p2), .val (.int p3), .val (.int p4), .val (.int p5), .val (.ref b0), .val (.ref b37), .val (.int ((p1 + p2) + p3))] [(.int ((p1 + p2) + p3))])
  refine hst (fun t k => XS.iload X85.here hx rfl (hb hby at_88) rfl k) ?_
  show F T85 (mkF m 90 #[.val (.int p1), .val (.int p2), .val (.int p3), .val (.int p4), .val (.int p5), .val (.ref b0), .val (.ref b37), .val (.int ((p1 + p2) + p3))] [(.int ((p1 + p2) + p3)), (.int ((p1 + p2) + p3))])
  refine hst (fun t k => XS.icmpNo X85.here hx rfl (hb hby at_90) rfl (teq rfl).2 k) ?_
  show F T85 (mkF m 93 #[.val (.int p1), .val (.int p2), .val (.int p3), .val (.int p4), .val (.int p5), .val (.ref b0), .val (.ref b37), .val (.int ((p1 + p2) + p3))] [])
  refine hst (fun t k => XS.aload X85.here hx rfl (hb hby at_93) rfl rfl k) ?_
  show F T85 (mkF m 95 #[.val (.int p1), .val (.int p2), .val (.int p3), .val (.int p4), .val (.int p5), .val (.ref b0), .val (.ref b37), .val (.int ((p1 + p2) + p3))] [(.ref b37)])
  obtain ⟨v95, T95, Lc95, X95, hQ95, st95⟩ := own_callV X85 hx hZ hown (y := (⟨"com/example/horarium/horarium/course/Score", "softCost", "()I"⟩ : MethodName)) (hw _ (List.mem_of_getElem? (i := 36) rfl)) (hw _ (List.mem_of_getElem? (i := 37) rfl)) (hw _ (List.mem_of_getElem? (i := 39) rfl)) (hw _ (List.mem_of_getElem? (i := 38) rfl)) (hw _ (List.mem_of_getElem? (i := 2) rfl)) (hw _ (List.mem_of_getElem? (i := 40) rfl)) (by decide) he85 q1_71 (rm4 l Z a0 hw [] b37 p3 p1 p2 T71.heap n0 Z0_p71 q2_71 q3_71 q4_71) (by decide) (by decide) (g := (mkF m 95 #[.val (.int p1), .val (.int p2), .val (.int p3), .val (.int p4), .val (.int p5), .val (.ref b0), .val (.ref b37), .val (.int ((p1 + p2) + p3))] [(.ref b37)])) rfl (by rw [hml]; rfl) (argsL := []) (rest := []) (lenOf pd_0 rfl) rfl rfl (W := 0) (by show 2 * 0 + _ ≤ _; exact Nat.le_of_eq rfl) (hb hby at_95) (by decide) (by decide)
  obtain ⟨rfl, Nq95, he95⟩ := hQ95
  have N95 := Fr.app N85 Nq95
  refine hst st95 ?_
  show F T95 (mkF m 98 #[.val (.int p1), .val (.int p2), .val (.int p3), .val (.int p4), .val (.int p5), .val (.ref b0), .val (.ref b37), .val (.int ((p1 + p2) + p3))] [(.int ((p3 + p1) + p2))])
  refine hst (fun t k => XS.iload X95.here hx rfl (hb hby at_98) rfl k) ?_
  show F T95 (mkF m 100 #[.val (.int p1), .val (.int p2), .val (.int p3), .val (.int p4), .val (.int p5), .val (.ref b0), .val (.ref b37), .val (.int ((p1 + p2) + p3))] [(.int ((p1 + p2) + p3)), (.int ((p3 + p1) + p2))])
  refine hst (fun t k => XS.icmpNo X95.here hx rfl (hb hby at_100) rfl (teq (by rw [Int32.add_assoc, Int32.add_comm])).2 k) ?_
  show F T95 (mkF m 103 #[.val (.int p1), .val (.int p2), .val (.int p3), .val (.int p4), .val (.int p5), .val (.ref b0), .val (.ref b37), .val (.int ((p1 + p2) + p3))] [])
  refine hst (fun t k => XS.iconst X95.here hx rfl (hb hby at_103) k) ?_
  show F T95 (mkF m 104 #[.val (.int p1), .val (.int p2), .val (.int p3), .val (.int p4), .val (.int p5), .val (.ref b0), .val (.ref b37), .val (.int ((p1 + p2) + p3))] [(.int (1 : Int32))])
  refine hst (fun t k => XS.goto X95.here hx rfl (pc0 := 104) (pc' := 108) rfl (hb hby at_104) (by decide) (by decide) k) ?_
  show F T95 (mkF m 108 #[.val (.int p1), .val (.int p2), .val (.int p3), .val (.int p4), .val (.int p5), .val (.ref b0), .val (.ref b37), .val (.int ((p1 + p2) + p3))] [(.int (1 : Int32))])
  rw [hF]
  refine own_retN X95 hx hret (by simp) hlk (hb hby at_108) (by decide) (by decide) ?_
  rw [he95]
  exact ⟨rfl, N95⟩
set_option maxRecDepth 65536 in
set_option maxHeartbeats 40000000 in
theorem comes_1 {Post : Tables → Env → Array Value → State → Outcome → State → Prop} (hpost : ∀ tb e args s v u, (limb_1_1.after args s (.returned v) u = true ∧ limb_1_2.after args s (.returned v) u = true ∧ True) → FrameEnd s (.returned v) u (Jvm.fieldLocs frame_1_writes args s ++ Jvm.arrayLocs frame_1_arrays args s ++ Jvm.staticLocs frame_1_statics s) 16 128 → Post tb e args s (.returned v) u) :
    ArmFor flags0 classFile x code maxLocals ret World_1 tables_1 room_1 Calls_1 rest_1 Pre_1 Post := by
  intro l hfl _ _ p e ha hc hk s m args below hf hA hF happ hP
  obtain ⟨hcalls, hrest, hpre⟩ := hP
  obtain ⟨-, -, -, hnamed, -, -, -, hat⟩ := (Spec.applies_iff hf).mp happ
  obtain ⟨hg, hn⟩ := and_e (Cond.before_iff.mp (show (Jvm.Cond.and given_1 narrow_1).before args s = true from hpre))
  obtain ⟨g1, g2⟩ := and_e hg
  obtain ⟨g3, g4⟩ := and_e g2
  obtain ⟨g5, g6⟩ := and_e g4
  obtain ⟨g7, g8⟩ := and_e g6
  obtain ⟨g9, g10⟩ := and_e g8
  obtain ⟨w0, w1, w2, w3, w4, rfl⟩ : ∃ w0 w1 w2 w3 w4 : Value, args = #[w0, w1, w2, w3, w4] := by
    have hs : args.size = 5 := by simpa [Cond.value, given_1] using g1
    obtain ⟨L⟩ := args
    match L, hs with
    | [w0, w1, w2, w3, w4], _ => exact ⟨w0, w1, w2, w3, w4, rfl⟩
  have hw := fun d (hd : d ∈ tables_1) => atoms_spec (ws := Jvm.Cond.code x code maxLocals ret :: tables_1) hat d (List.mem_cons_of_mem _ hd)
  obtain ⟨i0, ei0⟩ := is_v g3
  obtain rfl : w0 = (.int i0) := Option.some.inj ei0
  obtain ⟨i1, ei1⟩ := is_v g5
  obtain rfl : w1 = (.int i1) := Option.some.inj ei1
  obtain ⟨i2, ei2⟩ := is_v g7
  obtain rfl : w2 = (.int i2) := Option.some.inj ei2
  obtain ⟨i3, ei3⟩ := is_v g9
  obtain rfl : w3 = (.int i3) := Option.some.inj ei3
  obtain ⟨i4, ei4⟩ := is_v g10
  obtain rfl : w4 = (.int i4) := Option.some.inj ei4
  obtain ⟨n, o, h1, h2, h3, _, L, rfl, ⟨rfl, N⟩, hq⟩ := rm0 l s _ hw tables_1 i0 i1 i2 i3 i4 s.heap s.heap.size (Nat.le_refl _) p e ha hc hk s m _ below hf ((Spec.applies_iff_loose hf).mp happ).1 ⟨rfl, State.Warmed39.refl s, rfl⟩ trivial
  refine ⟨n, _, h1, h2, h3, hpost _ _ _ _ _ _ ⟨Cond.after_iff.mpr rfl, Cond.after_iff.mpr (eq_i res_at (Term.int_eval (1)) rfl), trivial⟩ ⟨hq.1, hq.2.1, (hq.2.2.sift fun y hy => Or.inr (N y hy)).mono (by decide) (by decide)⟩⟩
theorem main_1_1 : Claimed_1_1 := comes_1 fun _ _ _ _ _ _ h hF => ⟨h.1, hF⟩
theorem main_1_2 : Claimed_1_2 := comes_1 fun _ _ _ _ _ _ h hF => ⟨h.2.1, hF⟩
end Jvm.Pilot.@@N@@
namespace Jvm.Pilot.@@N@@
open Jvm Jvm.ClassFile Sem Op Lib Jvm.Free Jvm.Stand Jvm.Pilot.@@N@@.Jvm.D
/-! MADE BY PROGRAM (witnessworld.py) out of the Statement's table words and the real class files: 11 classes; the members and pool entries that the words name. The judged class is class 1, her method 1. -/
namespace start1
open Jvm.ClassFile
def u (s : String) : CpInfo := .utf8 (stringToUtf16 s)
/-- a pool by its gaps: so many unusable entries, then the entry; so many at the end -/
def gap : Nat → List CpInfo → List CpInfo
  | 0, r => r
  | n + 1, r => .unusable :: gap n r
def poolList (es : List (Nat × CpInfo)) (last : Nat) : List CpInfo := es.foldr (fun e r => gap e.1 (e.2 :: r)) (gap last [])
def pool (es : List (Nat × CpInfo)) (last : Nat) : Array CpInfo := ⟨poolList es last⟩
def fileOf (pool : Array CpInfo) (this : Nat) (attrs : Array Attribute := #[]) (ms : Array MethodInfo := #[]) (fl : Nat := 33) (sup : Nat := 0) (ifs : Array Nat := #[]) (fds : Array FieldInfo := #[]) : ClassFile where
  minorVersion := 0
  majorVersion := 65
  constantPool := pool
  accessFlags := fl
  thisClass := this
  superClass := sup
  interfaces := ifs
  fields := fds
  methods := ms
  attributes := attrs
def plain (name : String) (sup : Option ClassId) : Class where
  name := name
  kind := .ordinary
  loader := none
  accessFlags := 33
  super := sup
  interfaces := #[]
  cf := none
  fields := #[]
  methods := #[]
  instanceTypes := #[]
  staticTypes := #[]
  resolved := #[]
  callSites := []
  init := .initialized
  statics := none
  mirror := none

def pool0 : Array CpInfo := pool [(5, u "<init>"), (0, u "()V"), (1, .class_ 10), (1, u "java/lang/Object")] 113

def k0c0 : Code := { maxStack := 0, maxLocals := 1, code := object_method_1_code, exceptionTable := #[], attributes := #[] }
def k0m0 : Method := { name := "<init>", desc := "()V", sig := { parameters := [], returnType := none }, accessFlags := 1, code := some k0c0 }
/-- java/lang/Object -/
def k0 : Class := { plain "java/lang/Object" none with
  accessFlags := 33
  interfaces := #[]
  cf := some (fileOf pool0 8 #[] #[{ accessFlags := 1, nameIndex := 5, descriptorIndex := 6, attributes := #[] }] 33 0 #[] #[])
  fields := #[]
  methods := #[k0m0]
  instanceTypes := #[]
  staticTypes := #[]
  resolved := Array.replicate 124 none
  statics := none }

def pool1 : Array CpInfo := pool [(2, .class_ 4), (1, u "java/lang/Object"), (0, u "<init>"), (0, u "()V"), (0, .class_ 8), (0, u "com/example/horarium/horarium/course/Score"), (0, .methodref 7 10), (0, .nameAndType 5 11), (0, u "(IIIIIIIIIII)V"), (0, .methodref 7 13), (0, .nameAndType 14 15), (0, u "softCost"), (0, u "()I"), (0, .class_ 17), (0, u "com/example/horarium/horarium/course/ScoreSoftCostPinLaw"), (2, u "law"), (0, u "(IIIII)Z")] 3

def k1m0 : Method := { name := "<init>", desc := "()V", sig := { parameters := [], returnType := none }, accessFlags := 1, code := none }
def k1c1 : Code := { maxStack := 13, maxLocals := 8, code := code, exceptionTable := #[], attributes := #[] }
def k1m1 : Method := { name := "law", desc := "(IIIII)Z", sig := { parameters := [.int, .int, .int, .int, .int], returnType := some .boolean }, accessFlags := 9, code := some k1c1 }
/-- com/example/horarium/horarium/course/ScoreSoftCostPinLaw -/
def k1 : Class := { plain "com/example/horarium/horarium/course/ScoreSoftCostPinLaw" (some 0) with
  accessFlags := 49
  interfaces := #[]
  cf := some (fileOf pool1 16 #[] #[{ accessFlags := 1, nameIndex := 5, descriptorIndex := 6, attributes := #[] }, { accessFlags := 9, nameIndex := 20, descriptorIndex := 21, attributes := #[] }] 49 2 #[] #[])
  fields := #[]
  methods := #[k1m0, k1m1]
  instanceTypes := #[]
  staticTypes := #[]
  resolved := Array.replicate 25 none
  statics := none }

def pool2 : Array CpInfo := pool [(1, .methodref 2 3), (0, .class_ 4), (0, .nameAndType 5 6), (0, u "java/lang/Object"), (0, u "<init>"), (0, u "()V"), (0, .class_ 8), (0, u "java/lang/Record")] 13

def k2c0 : Code := { maxStack := 1, maxLocals := 1, code := jdk_30_method_1_code, exceptionTable := #[], attributes := #[] }
def k2m0 : Method := { name := "<init>", desc := "()V", sig := { parameters := [], returnType := none }, accessFlags := 4, code := some k2c0 }
/-- java/lang/Record -/
def k2 : Class := { plain "java/lang/Record" (some 0) with
  accessFlags := 1057
  interfaces := #[]
  cf := some (fileOf pool2 7 #[] #[{ accessFlags := 4, nameIndex := 5, descriptorIndex := 6, attributes := #[] }] 1057 2 #[] #[])
  fields := #[]
  methods := #[k2m0]
  instanceTypes := #[]
  staticTypes := #[]
  resolved := Array.replicate 22 none
  statics := none }

def pool3 : Array CpInfo := pool [(2, .class_ 4), (1, u "com/example/horarium/horarium/score/Scorecard"), (76, .class_ 82), (0, u "java/lang/Object")] 29

/-- com/example/horarium/horarium/score/Scorecard -/
def k3 : Class := { plain "com/example/horarium/horarium/score/Scorecard" (some 0) with
  accessFlags := 1537
  interfaces := #[]
  cf := some (fileOf pool3 2 #[] #[] 1537 81 #[] #[])
  fields := #[]
  methods := #[]
  instanceTypes := #[]
  staticTypes := #[]
  resolved := Array.replicate 112 none
  statics := none }

def pool4 : Array CpInfo := pool [(1, .methodref 2 3), (0, .class_ 4), (0, .nameAndType 5 6), (0, u "java/lang/Record"), (0, u "<init>"), (0, u "()V"), (0, .fieldref 8 9), (0, .class_ 10), (0, .nameAndType 11 12), (0, u "com/example/horarium/horarium/course/Score"), (0, u "events"), (0, u "I"), (0, .fieldref 8 14), (0, .nameAndType 15 12), (0, u "unplaced"), (0, .fieldref 8 17), (0, .nameAndType 18 12), (0, u "distanceToFeasibility"), (0, .fieldref 8 20), (0, .nameAndType 21 12), (0, u "unsuitableRooms"), (0, .fieldref 8 23), (0, .nameAndType 24 12), (0, u "unavailableTimeslots"), (0, .fieldref 8 26), (0, .nameAndType 27 12), (0, u "precedenceViolations"), (0, .fieldref 8 29), (0, .nameAndType 30 12), (0, u "studentClashes"), (0, .fieldref 8 32), (0, .nameAndType 33 12), (0, u "roomClashes"), (0, .fieldref 8 35), (0, .nameAndType 36 12), (0, u "softLastTimeslot"), (0, .fieldref 8 38), (0, .nameAndType 39 12), (0, u "softThreeInARow"), (0, .fieldref 8 41), (0, .nameAndType 42 12), (0, u "softSingleEventDay"), (11, u "()I"), (52, u "(IIIIIIIIIII)V"), (89, u "softCost"), (11, .class_ 210), (0, u "com/example/horarium/horarium/score/Scorecard"), (0, u "RUN_THAT_COSTS")] 48

def k4c0 : Code := { maxStack := 2, maxLocals := 12, code := prog_4_method_1_code, exceptionTable := #[], attributes := #[] }
def k4m0 : Method := { name := "<init>", desc := "(IIIIIIIIIII)V", sig := { parameters := [.int, .int, .int, .int, .int, .int, .int, .int, .int, .int, .int], returnType := none }, accessFlags := 1, code := some k4c0 }
def k4c1 : Code := { maxStack := 2, maxLocals := 1, code := prog_4_method_7_code, exceptionTable := #[], attributes := #[] }
def k4m1 : Method := { name := "softCost", desc := "()I", sig := { parameters := [], returnType := some .int }, accessFlags := 1, code := some k4c1 }
/-- com/example/horarium/horarium/course/Score -/
def k4 : Class := { plain "com/example/horarium/horarium/course/Score" (some 2) with
  accessFlags := 49
  interfaces := #[3]
  cf := some (fileOf pool4 8 #[] #[{ accessFlags := 1, nameIndex := 5, descriptorIndex := 107, attributes := #[] }, { accessFlags := 1, nameIndex := 197, descriptorIndex := 54, attributes := #[] }] 49 2 #[209] #[{ accessFlags := 18, nameIndex := 11, descriptorIndex := 12, attributes := #[] }, { accessFlags := 18, nameIndex := 15, descriptorIndex := 12, attributes := #[] }, { accessFlags := 18, nameIndex := 18, descriptorIndex := 12, attributes := #[] }, { accessFlags := 18, nameIndex := 21, descriptorIndex := 12, attributes := #[] }, { accessFlags := 18, nameIndex := 24, descriptorIndex := 12, attributes := #[] }, { accessFlags := 18, nameIndex := 27, descriptorIndex := 12, attributes := #[] }, { accessFlags := 18, nameIndex := 30, descriptorIndex := 12, attributes := #[] }, { accessFlags := 18, nameIndex := 33, descriptorIndex := 12, attributes := #[] }, { accessFlags := 18, nameIndex := 36, descriptorIndex := 12, attributes := #[] }, { accessFlags := 18, nameIndex := 39, descriptorIndex := 12, attributes := #[] }, { accessFlags := 18, nameIndex := 42, descriptorIndex := 12, attributes := #[] }, { accessFlags := 26, nameIndex := 211, descriptorIndex := 12, attributes := #[] }])
  fields := #[{ name := "events", type := .int, accessFlags := 18, slot := 0, constantValue := 0 }, { name := "unplaced", type := .int, accessFlags := 18, slot := 1, constantValue := 0 }, { name := "distanceToFeasibility", type := .int, accessFlags := 18, slot := 2, constantValue := 0 }, { name := "unsuitableRooms", type := .int, accessFlags := 18, slot := 3, constantValue := 0 }, { name := "unavailableTimeslots", type := .int, accessFlags := 18, slot := 4, constantValue := 0 }, { name := "precedenceViolations", type := .int, accessFlags := 18, slot := 5, constantValue := 0 }, { name := "studentClashes", type := .int, accessFlags := 18, slot := 6, constantValue := 0 }, { name := "roomClashes", type := .int, accessFlags := 18, slot := 7, constantValue := 0 }, { name := "softLastTimeslot", type := .int, accessFlags := 18, slot := 8, constantValue := 0 }, { name := "softThreeInARow", type := .int, accessFlags := 18, slot := 9, constantValue := 0 }, { name := "softSingleEventDay", type := .int, accessFlags := 18, slot := 10, constantValue := 0 }, { name := "RUN_THAT_COSTS", type := .int, accessFlags := 26, slot := 0, constantValue := 0 }]
  methods := #[k4m0, k4m1]
  instanceTypes := #[.int, .int, .int, .int, .int, .int, .int, .int, .int, .int, .int]
  staticTypes := #[.int]
  resolved := Array.replicate 260 none
  statics := none }

def pool5 : Array CpInfo := pool [(1, u "java/lang/Cloneable"), (0, .class_ 1), (0, u "java/lang/Object"), (0, .class_ 3)] 3

/-- java/lang/Cloneable -/
def k5 : Class := { plain "java/lang/Cloneable" (some 0) with
  accessFlags := 1537
  interfaces := #[]
  cf := some (fileOf pool5 2 #[] #[] 1537 4 #[] #[])
  fields := #[]
  methods := #[]
  instanceTypes := #[]
  staticTypes := #[]
  resolved := Array.replicate 8 none
  statics := none }

def pool6 : Array CpInfo := pool [(1, u "java/io/Serializable"), (0, .class_ 1), (0, u "java/lang/Object"), (0, .class_ 3)] 3

/-- java/io/Serializable -/
def k6 : Class := { plain "java/io/Serializable" (some 0) with
  accessFlags := 1537
  interfaces := #[]
  cf := some (fileOf pool6 2 #[] #[] 1537 4 #[] #[])
  fields := #[]
  methods := #[]
  instanceTypes := #[]
  staticTypes := #[]
  resolved := Array.replicate 8 none
  statics := none }

/-- the primitive byte -/
def k7 : Class := { plain "byte" none with kind := .primitive 'B', accessFlags := 0x411 }
/-- [B -/
def k8 : Class := { plain "[B" (some 0) with kind := .array 7 .byte, interfaces := #[5, 6], accessFlags := 1041 }

/-- the primitive int -/
def k9 : Class := { plain "int" none with kind := .primitive 'I', accessFlags := 0x411 }
/-- [I -/
def k10 : Class := { plain "[I" (some 0) with kind := .array 9 .int, interfaces := #[5, 6], accessFlags := 1041 }

def heap : Heap := #[]
def classes : Array Class := #[k0, k1, k2, k3, k4, k5, k6, k7, k8, k9, k10]
def interned : List (Array UInt16 × Addr) := []
def slotsUsed : Nat := 0
def theMethod : MethodId := ⟨1, 1⟩
def args0 : Array Value := #[.int 1, .int 2, .int 3, .int 4, .int 5]
def aboutOver (below : List Frame) : State where
  vm := { classes := classes, interned := interned.toArray }
  heap := heap
  slotsUsed := slotsUsed
  threads := #[{ frames := .invoking theMethod args0 :: below }]
def below0 : List Frame := [.native { method := ⟨0, 0⟩, args := #[] }]
def about1 : State := aboutOver below0
def p0 : Program := .bare "" "" ""
def e0 : Env := launch0.env 0 0 0
theorem w_frames : about1.frames = Frame.invoking theMethod args0 :: below0 := rfl
set_option maxRecDepth 65536 in
theorem w_args : argsFit about1.vm theMethod args0 = true := by decide +kernel
set_option maxRecDepth 65536 in
theorem w_heap : heapFits about1 = true := by decide +kernel
set_option maxRecDepth 65536 in
theorem w_runnable : about1.curStatus? = some .runnable := by decide +kernel
set_option maxRecDepth 65536 in
theorem w_alone : about1.alone = true := by decide +kernel
set_option maxRecDepth 65536 in
theorem w_named : about1.methodNamed? x = some theMethod := by decide +kernel
set_option maxRecDepth 65536 in
theorem w_hears : about1.hears theMethod below0 = true := by decide +kernel
set_option maxRecDepth 65536 in
theorem w_ripe : about1.ripe theMethod args0 below0 = true := by decide +kernel
theorem w_running : about1.status = .running := rfl
set_option maxRecDepth 65536 in
theorem w_room : about1.hasRoom e0.platform room_1 = true :=
  launch0.hasRoom_least _ room_1 (by decide +kernel) (by decide +kernel) (by decide +kernel) (by decide +kernel) (by decide +kernel) (by decide +kernel)
theorem allAtoms_all (ts : List Jvm.Cond) (a : Array Jvm.Value) (st : Jvm.State) : (allAtoms ts).before a st = ts.all (fun c => c.before a st) := by
  induction ts with
  | nil => rfl
  | cons c t ih =>
    show (Jvm.Cond.and c (allAtoms t)).before a st = _
    rw [Jvm.Cond.before_and, ih, List.all_cons]
def words1 : List Jvm.Cond := Jvm.Cond.code x code maxLocals ret :: tables_1
/-- a 'code' word, met by the world's own term for the bytes: nothing is compared byte by byte -/
theorem code_word {y : MethodName} {bytes : ByteArray} {mx : Nat} {rt : Option FieldType} {a : Array Value} {s : State} {m : MethodId} {meth : Method} {c : Code} (h1 : s.methodNamed? y = some m) (h2 : s.vm.method? m = some meth) (h3 : meth.code = some c) (h4 : c.code = bytes)
    (h5 : (c.maxLocals == mx && c.exceptionTable.isEmpty && decide (c.maxStack ≤ mostOperands) && decide (meth.sig.returnType = rt) && !meth.locks && decide (parseMethodDescriptor y.desc = some meth.sig)) = true) : (Jvm.Cond.code y bytes mx rt).before a s = true := by
  simp only [Bool.and_eq_true, beq_iff_eq, Bool.not_eq_true', decide_eq_true_eq] at h5
  obtain ⟨⟨⟨⟨⟨g1, g2⟩, g3⟩, g4⟩, g5⟩, g6⟩ := h5
  simp [Cond.before, Cond.holds, Cond.value, h1, h2, h3, h4, g1, g2, g3, g4, g5, g6]
def isCode : Jvm.Cond → Bool
  | .code _ _ _ _ => true
  | _ => false
theorem all_split {L : List Jvm.Cond} {P : Jvm.Cond → Bool} (h1 : L.all (fun c => isCode c || P c) = true) (h2 : ∀ c ∈ L.filter isCode, P c = true) : L.all P = true := by
  refine List.all_eq_true.mpr fun c hc => ?_
  have h := List.all_eq_true.mp h1 c hc
  rcases Bool.eq_false_or_eq_true (isCode c) with hi | hi
  · exact h2 c (List.mem_filter.mpr ⟨hc, hi⟩)
  · simpa [hi] using h
set_option maxRecDepth 65536 in
theorem w_c0 : (Jvm.Cond.code x code maxLocals ret).before args0 about1 = true := code_word (m := ⟨1, 1⟩) (meth := k1m1) (c := k1c1) (by decide +kernel) rfl rfl rfl (by decide +kernel)
set_option maxRecDepth 65536 in
theorem w_c1 : (Jvm.Cond.code ({ cls := "com/example/horarium/horarium/course/Score", name := "<init>", desc := "(IIIIIIIIIII)V" } : Jvm.MethodName) prog_4_method_1_code (12 : Nat) (Option.none : Option Jvm.ClassFile.FieldType)).before args0 about1 = true := code_word (m := ⟨4, 0⟩) (meth := k4m0) (c := k4c0) (by decide +kernel) rfl rfl rfl (by decide +kernel)
set_option maxRecDepth 65536 in
theorem w_c2 : (Jvm.Cond.code ({ cls := "java/lang/Record", name := "<init>", desc := "()V" } : Jvm.MethodName) jdk_30_method_1_code (1 : Nat) (Option.none : Option Jvm.ClassFile.FieldType)).before args0 about1 = true := code_word (m := ⟨2, 0⟩) (meth := k2m0) (c := k2c0) (by decide +kernel) rfl rfl rfl (by decide +kernel)
set_option maxRecDepth 65536 in
theorem w_c3 : (Jvm.Cond.code ({ cls := "java/lang/Object", name := "<init>", desc := "()V" } : Jvm.MethodName) object_method_1_code (1 : Nat) (Option.none : Option Jvm.ClassFile.FieldType)).before args0 about1 = true := code_word (m := ⟨0, 0⟩) (meth := k0m0) (c := k0c0) (by decide +kernel) rfl rfl rfl (by decide +kernel)
set_option maxRecDepth 65536 in
theorem w_c4 : (Jvm.Cond.code ({ cls := "com/example/horarium/horarium/course/Score", name := "softCost", desc := "()I" } : Jvm.MethodName) prog_4_method_7_code (1 : Nat) (Option.some Jvm.ClassFile.FieldType.int)).before args0 about1 = true := code_word (m := ⟨4, 1⟩) (meth := k4m1) (c := k4c1) (by decide +kernel) rfl rfl rfl (by decide +kernel)
def codes1 : List Jvm.Cond := [Jvm.Cond.code x code maxLocals ret, Jvm.Cond.code ({ cls := "com/example/horarium/horarium/course/Score", name := "<init>", desc := "(IIIIIIIIIII)V" } : Jvm.MethodName) prog_4_method_1_code (12 : Nat) (Option.none : Option Jvm.ClassFile.FieldType), Jvm.Cond.code ({ cls := "java/lang/Record", name := "<init>", desc := "()V" } : Jvm.MethodName) jdk_30_method_1_code (1 : Nat) (Option.none : Option Jvm.ClassFile.FieldType), Jvm.Cond.code ({ cls := "java/lang/Object", name := "<init>", desc := "()V" } : Jvm.MethodName) object_method_1_code (1 : Nat) (Option.none : Option Jvm.ClassFile.FieldType), Jvm.Cond.code ({ cls := "com/example/horarium/horarium/course/Score", name := "softCost", desc := "()I" } : Jvm.MethodName) prog_4_method_7_code (1 : Nat) (Option.some Jvm.ClassFile.FieldType.int)]
set_option maxRecDepth 65536 in
theorem codes_eq : words1.filter isCode = codes1 := rfl
theorem w_codes : ∀ c ∈ words1.filter isCode, c.before args0 about1 = true := by
  rw [codes_eq]
  intro c hc
  simp only [codes1, List.mem_cons, List.not_mem_nil, or_false] at hc
  rcases hc with rfl | rfl | rfl | rfl | rfl
  · exact w_c0
  · exact w_c1
  · exact w_c2
  · exact w_c3
  · exact w_c4
set_option maxRecDepth 65536 in
theorem w_t1 : (words1.take 24).all (fun c => isCode c || c.before args0 about1) = true := by decide +kernel
set_option maxRecDepth 65536 in
theorem w_t2 : (words1.drop 24).all (fun c => isCode c || c.before args0 about1) = true := by decide +kernel
theorem w_tables : (allAtoms (Jvm.Cond.code x code maxLocals ret :: tables_1)).before args0 about1 = true := by
  rw [allAtoms_all]
  show words1.all (fun c => c.before args0 about1) = true
  refine all_split ?_ w_codes
  rw [← List.take_append_drop 24 words1, List.all_append, w_t1, w_t2]
  rfl
set_option maxRecDepth 65536 in
theorem w_case : (Jvm.Cond.and given_1 narrow_1).before args0 about1 = true := by decide +kernel
theorem w_applies : (headSpec (Jvm.Cond.code x code maxLocals ret :: tables_1) room_1).applies x e0.platform about1 = true :=
  (Spec.applies_iff w_frames).mpr ⟨w_running, w_runnable, w_alone, w_named, w_hears, w_ripe, w_room, w_tables⟩
theorem atStart : AtStart classFile x code maxLocals ret World_1 tables_1 room_1 Calls_1 rest_1 Pre_1 launch0 p0 e0 about1 theMethod args0 below0 :=
  ⟨lists_1, trivial, launch0.admits_env _ _ _, launch0.least_env, fairChoices_fair.cas, fairChoices_fair.clock, w_frames, w_args, w_heap, w_applies, trivial, trivial, w_case⟩
end start1
theorem witness_1 : WitnessClaimed_1 := ⟨start1.p0, start1.e0, start1.about1, start1.theMethod, start1.args0, start1.below0, start1.atStart⟩
end Jvm.Pilot.@@N@@
