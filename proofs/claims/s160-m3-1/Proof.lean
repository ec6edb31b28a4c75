import JvmDerived
import JvmDerived.Pilot.@@N@@Statement
import JvmDerived.Pilot.@@N@@Code
set_option linter.unusedVariables false
set_option linter.unusedSimpArgs false
namespace Jvm.Pilot.@@N@@
open Jvm Jvm.ClassFile Sem Op Lib Jvm.Free Jvm.Stand Jvm.LawKit Jvm.RoadKit Bundle Jvm.Pilot.@@N@@.Jvm.D
/-! ## the walk's own goal: from this frame the method comes to its end, and what it leaves is Q -/
def own_Fin (tb : Tables) (e : Env) (below : List Frame) (s : State) (R : Room) (Q : Option Value → Heap → List Loc → Prop) (T : State) (g : JFrame) : Prop :=
  ∃ s₂ o, Steps tb e below (T.setTop g) s₂ ∧ s₂.status = .running ∧ Ended s₂ below o ∧ ∃ v L, o = .returned v ∧ Q v s₂.heap L ∧ FrameEnd s o s₂ L R.cells R.slots
theorem own_st {tb : Tables} {e : Env} {below : List Frame} {s : State} {R : Room} {Q : Option Value → Heap → List Loc → Prop} {T T' : State} {g g' : JFrame}
    (h : ∀ t, Steps tb e below (T'.setTop g') t → Steps tb e below (T.setTop g) t) (k : own_Fin tb e below s R Q T' g') : own_Fin tb e below s R Q T g := by
  obtain ⟨s₂, o, h1, r⟩ := k
  exact ⟨s₂, o, h _ h1, r⟩
/-- an array: its kind, its length, what lies at each place -/
def own_A (Z : State) (h : Heap) (a : Addr) (ty : FieldType) (n : Nat) (f : Nat → Value) : Prop := ∃ c : Cell, Arr Z h a c ty ∧ c.slots.size = n ∧ ∀ i, i < n → c.slots[i]? = some (f i)
section OwnArr
variable {Z : State} {h h' : Heap} {a b : Addr} {ty : FieldType} {n : Nat} {f : Nat → Value} {ws : List Addr} {sl : Nat} {v : Value}
theorem own_A.lt (F : own_A Z h a ty n f) : a < h.size := by obtain ⟨c, A, -⟩ := F; exact A.lt
theorem own_A.ext (F : own_A Z h a ty n f) (E : Ext h h') : own_A Z h' a ty n f := by obtain ⟨c, A, r⟩ := F; exact ⟨c, A.ext E, r⟩
theorem own_A.other (F : own_A Z h a ty n f) (W : Wr h h' b sl v) (q : a ≠ b) : own_A Z h' a ty n f := by obtain ⟨c, A, r⟩ := F; exact ⟨c, A.other W q, r⟩
theorem own_A.keep (F : own_A Z h a ty n f) (K : Keep h h' ws) (q : a ∉ ws) : own_A Z h' a ty n f := by obtain ⟨c, A, r⟩ := F; exact ⟨c, ⟨K.2.1 a c A.1 q, A.2⟩, r⟩
theorem own_A.congr (F : own_A Z h a ty n f) {f' : Nat → Value} (q : ∀ i, i < n → f i = f' i) : own_A Z h a ty n f' := by
  obtain ⟨c, A, r1, r2⟩ := F
  exact ⟨c, A, r1, fun i hi => by rw [r2 i hi, q i hi]⟩
theorem own_A.new {k : ClassId} {z : Int32} (A : Arr Z h a (newA k ty z) ty) : own_A Z h a ty z.toNatClampNeg (fun _ => defaultValue ty) :=
  ⟨_, A, sz_new _ _ _, fun i hi => by simp [newA, hi]⟩
theorem own_A.set (F : own_A Z h a ty n f) (W : Wr h h' a sl v) : own_A Z h' a ty n (fun i => if i = sl then v else f i) := by
  obtain ⟨c, A, r1, r2⟩ := F
  refine ⟨_, A.same W, by rw [sz_set]; exact r1, fun i hi => ?_⟩
  by_cases q : i = sl
  · subst q; simp [Cell.setSlot, r1, hi]
  · simp only [Cell.setSlot, q, if_false]; rw [Array.getElem?_setIfInBounds_ne (Ne.symm q)]; exact r2 i hi
theorem own_ne_A {c : Nat} {C : String} {a0 : Array Value} (F : Exa Z h b C) (wi : (Jvm.Cond.instantiable C c).before a0 Z = true) (G : own_A Z h a ty n f) : b ≠ a := by
  obtain ⟨cl, A, -⟩ := G; exact ne_arr F wi A
end OwnArr
section OwnStand
variable {p : Program} {l : Launch} {e : Env} {R : Room} {s : State} {m : MethodId} {args : Array Value} {below : List Frame} {meth : Method} {c : Code} {T : State} {locs : List Loc} {cells slots : Nat} {Q : Option Value → Heap → List Loc → Prop} {Z : State} {a0 : Array Value} {h : Heap}
theorem own_ret {v : Option Value} {g : JFrame} (X : Stand p l e R s m args below meth c T locs cells slots) (hv : meth.sig.returnType = none → v = none) (hlocks : meth.locks = false) (hc : cells ≤ R.cells) (hs : slots ≤ R.slots) (hQ : Q v T.heap locs)
    (hstep : ∀ fs, (∀ (f : JFrame) (acts : List Action), f.method = m → f.locked = none → f.entered = [] → (doReturn e (T.setTop f) acts v).1 = T.setFrames fs) → Steps p.tables e below (T.setTop g) (T.setFrames fs)) : own_Fin p.tables e below s R Q T g := by
  obtain ⟨fs, hr, hrun, hended, hW, hsame⟩ := X.leave hv hlocks
  exact ⟨_, _, hstep fs hr, hrun, hended, _, _, rfl, hQ, ⟨_, rfl⟩, hW, hsame.mono hc hs⟩
theorem own_retI {pc : Nat} {Ls : Array Slot} {z : Int32} {rest : List Value} (X : Stand p l e R s m args below meth c T locs cells slots) (hx : p.tables.exec = Jvm.exec) (hret : meth.sig.returnType = some .int) (hlocks : meth.locks = false) (hd : decode c.code pc = .ok (.ireturn, 1))
    (hc : cells ≤ R.cells) (hs : slots ≤ R.slots) (hQ : Q (some (.int z)) T.heap locs) : own_Fin p.tables e below s R Q T (mkF m pc Ls (.int z :: rest)) :=
  own_ret X (fun h => by rw [hret] at h; cases h) hlocks hc hs hQ fun fs hr => retOut X hx hret rfl (Or.inl ⟨rfl, Or.inl rfl, _, rfl⟩) hd hr
theorem own_retJ {pc : Nat} {Ls : Array Slot} {z : Int64} {rest : List Value} (X : Stand p l e R s m args below meth c T locs cells slots) (hx : p.tables.exec = Jvm.exec) (hret : meth.sig.returnType = some .long) (hlocks : meth.locks = false) (hd : decode c.code pc = .ok (.lreturn, 1))
    (hc : cells ≤ R.cells) (hs : slots ≤ R.slots) (hQ : Q (some (.long z)) T.heap locs) : own_Fin p.tables e below s R Q T (mkF m pc Ls (.long z :: rest)) :=
  own_ret X (fun h => by rw [hret] at h; cases h) hlocks hc hs hQ fun fs hr => retOut X hx hret rfl (Or.inr (Or.inl ⟨rfl, rfl, _, rfl⟩)) hd hr
theorem own_retA {pc : Nat} {Ls : Array Slot} {t : FieldType} {b : Addr} {rest : List Value} (X : Stand p l e R s m args below meth c T locs cells slots) (hx : p.tables.exec = Jvm.exec) (hret : meth.sig.returnType = some t) (ht : t.isReference = true) (hn : narrow t (.ref b) = .ref b) (hlocks : meth.locks = false) (hd : decode c.code pc = .ok (.areturn, 1))
    (hc : cells ≤ R.cells) (hs : slots ≤ R.slots) (hQ : Q (some (.ref b)) T.heap locs) : own_Fin p.tables e below s R Q T (mkF m pc Ls (.ref b :: rest)) :=
  own_ret X (fun h => by rw [hret] at h; cases h) hlocks hc hs hQ fun fs hr => retOut X hx hret hn (Or.inr (Or.inr (Or.inr (Or.inr ⟨rfl, ht, rfl⟩)))) hd hr
theorem own_retN {pc : Nat} {Ls : Array Slot} {t : FieldType} {z : Int32} {rest : List Value} (X : Stand p l e R s m args below meth c T locs cells slots) (hx : p.tables.exec = Jvm.exec) (hret : meth.sig.returnType = some t) (ht : t = .boolean ∨ t = .byte ∨ t = .char ∨ t = .short) (hlocks : meth.locks = false) (hd : decode c.code pc = .ok (.ireturn, 1))
    (hc : cells ≤ R.cells) (hs : slots ≤ R.slots) (hQ : Q (some (.int (nar t z))) T.heap locs) : own_Fin p.tables e below s R Q T (mkF m pc Ls (.int z :: rest)) :=
  own_ret X (fun h => by rw [hret] at h; cases h) hlocks hc hs hQ fun fs hr => retN X hx hret ht hd hr
theorem own_retV {pc : Nat} {Ls : Array Slot} (X : Stand p l e R s m args below meth c T locs cells slots) (hx : p.tables.exec = Jvm.exec) (hret : meth.sig.returnType = none) (hlocks : meth.locks = false) (hd : decode c.code pc = .ok (.return_, 1))
    (hc : cells ≤ R.cells) (hs : slots ≤ R.slots) (hQ : Q none T.heap locs) : own_Fin p.tables e below s R Q T (mkF m pc Ls []) :=
  own_ret X (fun _ => rfl) hlocks hc hs hQ fun fs hr => X.returnOut hx hret hd hr
theorem own_iaload {n : Nat} {f : Nat → Value} {a : Addr} {j : Int32} {v : Value} {g : JFrame} {rest : List Value} (X : Stand p l e R s m args below meth c T locs cells slots) (hx : p.tables.exec = Jvm.exec) (hZ : Z.Warmed39 s.vm) (eT : T.heap = h) (F : own_A Z h a .int n f) (hj : ¬ (j < 0 ∨ n ≤ j.toNatClampNeg)) (hv : f j.toNatClampNeg = v)
    (hg : g.method = m) (hs : g.stack = .int j :: .ref a :: rest) (hd : decode c.code g.pc = .ok (.iaload, 1)) (t : State) (k : Steps p.tables e below (T.setTop { g with pc := g.pc + 1, stack := v :: rest }) t) : Steps p.tables e below (T.setTop g) t := by
  obtain ⟨cl, A, r1, r2⟩ := F
  exact X.iaload hx (by rw [eT]; exact A.1) (State.isArrayOf_alike hZ.alike A.2.1) A.2.2 (by rw [r1]; exact hj) (by rw [r2 _ (Nat.lt_of_not_le fun q => hj (Or.inr q)), hv]) hg hs hd t k
theorem own_laload {n : Nat} {f : Nat → Value} {a : Addr} {j : Int32} {v : Value} {g : JFrame} {rest : List Value} (X : Stand p l e R s m args below meth c T locs cells slots) (hx : p.tables.exec = Jvm.exec) (hZ : Z.Warmed39 s.vm) (eT : T.heap = h) (F : own_A Z h a .long n f) (hj : ¬ (j < 0 ∨ n ≤ j.toNatClampNeg)) (hv : f j.toNatClampNeg = v)
    (hg : g.method = m) (hs : g.stack = .int j :: .ref a :: rest) (hd : decode c.code g.pc = .ok (.laload, 1)) (t : State) (k : Steps p.tables e below (T.setTop { g with pc := g.pc + 1, stack := v :: rest }) t) : Steps p.tables e below (T.setTop g) t := by
  obtain ⟨cl, A, r1, r2⟩ := F
  exact X.laload hx (by rw [eT]; exact A.1) (State.isArrayOf_alike hZ.alike A.2.1) A.2.2 (by rw [r1]; exact hj) (by rw [r2 _ (Nat.lt_of_not_le fun q => hj (Or.inr q)), hv]) hg hs hd t k
theorem own_baload {n : Nat} {f : Nat → Value} {a : Addr} {j : Int32} {v : Value} {g : JFrame} {rest : List Value} (X : Stand p l e R s m args below meth c T locs cells slots) (hx : p.tables.exec = Jvm.exec) (hZ : Z.Warmed39 s.vm) (eT : T.heap = h) (F : own_A Z h a .byte n f) (hj : ¬ (j < 0 ∨ n ≤ j.toNatClampNeg)) (hv : f j.toNatClampNeg = v)
    (hg : g.method = m) (hs : g.stack = .int j :: .ref a :: rest) (hd : decode c.code g.pc = .ok (.baload, 1)) (t : State) (k : Steps p.tables e below (T.setTop { g with pc := g.pc + 1, stack := v :: rest }) t) : Steps p.tables e below (T.setTop g) t := by
  obtain ⟨cl, A, r1, r2⟩ := F
  exact X.baloadBytes hx (by rw [eT]; exact A.1) (State.isArrayOf_alike hZ.alike A.2.1) A.2.2 (by rw [r1]; exact hj) (by rw [r2 _ (Nat.lt_of_not_le fun q => hj (Or.inr q)), hv]) hg hs hd t k
theorem own_alen {ty : FieldType} {n : Nat} {f : Nat → Value} {a : Addr} {z : Int32} {g : JFrame} {rest : List Value} (X : Stand p l e R s m args below meth c T locs cells slots) (hx : p.tables.exec = Jvm.exec) (hZ : Z.Warmed39 s.vm) (eT : T.heap = h) (F : own_A Z h a ty n f) (hz : n.toInt32 = z)
    (hg : g.method = m) (hs : g.stack = .ref a :: rest) (hd : decode c.code g.pc = .ok (.arraylength, 1)) (t : State) (k : Steps p.tables e below (T.setTop { g with pc := g.pc + 1, stack := .int z :: rest }) t) : Steps p.tables e below (T.setTop g) t := by
  obtain ⟨cl, A, r1, r2⟩ := F
  subst hz
  exact X.arraylength hx (by rw [eT]; exact A.1) (State.isArrayOf_alike hZ.alike A.2.1) hg hs hd t (by rw [r1]; exact k)
theorem own_iastore {n : Nat} {f : Nat → Value} {a : Addr} {j x : Int32} {g : JFrame} {rest : List Value} (X : Stand p l e R s m args below meth c T locs cells slots) (hx : p.tables.exec = Jvm.exec) (hZ : Z.Warmed39 s.vm) (eT : T.heap = h) (F : own_A Z h a .int n f) (hj : ¬ (j < 0 ∨ n ≤ j.toNatClampNeg))
    (hg : g.method = m) (hs : g.stack = .int x :: .int j :: .ref a :: rest) (hd : decode c.code g.pc = .ok (.iastore, 1)) :
    ∃ T' h', Stand p l e R s m args below meth c T' (locs ++ [⟨a, j.toNatClampNeg⟩]) cells slots ∧ T'.heap = h' ∧ Wr h h' a j.toNatClampNeg (.int x) ∧ ∀ target, Steps p.tables e below (T'.setTop { g with pc := g.pc + 1, stack := rest }) target → Steps p.tables e below (T.setTop g) target := by
  obtain ⟨cl, A, r1, r2⟩ := F
  exact stI X hx hZ eT A (by rw [r1]; exact hj) hg hs hd
theorem own_lastore {n : Nat} {f : Nat → Value} {a : Addr} {j : Int32} {x : Int64} {g : JFrame} {rest : List Value} (X : Stand p l e R s m args below meth c T locs cells slots) (hx : p.tables.exec = Jvm.exec) (hZ : Z.Warmed39 s.vm) (eT : T.heap = h) (F : own_A Z h a .long n f) (hj : ¬ (j < 0 ∨ n ≤ j.toNatClampNeg))
    (hg : g.method = m) (hs : g.stack = .long x :: .int j :: .ref a :: rest) (hd : decode c.code g.pc = .ok (.lastore, 1)) :
    ∃ T' h', Stand p l e R s m args below meth c T' (locs ++ [⟨a, j.toNatClampNeg⟩]) cells slots ∧ T'.heap = h' ∧ Wr h h' a j.toNatClampNeg (.long x) ∧ ∀ target, Steps p.tables e below (T'.setTop { g with pc := g.pc + 1, stack := rest }) target → Steps p.tables e below (T.setTop g) target := by
  obtain ⟨cl, A, r1, r2⟩ := F
  exact stJ X hx hZ eT A (by rw [r1]; exact hj) hg hs hd
theorem own_bastore {n : Nat} {f : Nat → Value} {a : Addr} {j x : Int32} {g : JFrame} {rest : List Value} (X : Stand p l e R s m args below meth c T locs cells slots) (hx : p.tables.exec = Jvm.exec) (hZ : Z.Warmed39 s.vm) (eT : T.heap = h) (F : own_A Z h a .byte n f) (hj : ¬ (j < 0 ∨ n ≤ j.toNatClampNeg))
    (hg : g.method = m) (hs : g.stack = .int x :: .int j :: .ref a :: rest) (hd : decode c.code g.pc = .ok (.bastore, 1)) :
    ∃ T' h', Stand p l e R s m args below meth c T' (locs ++ [⟨a, j.toNatClampNeg⟩]) cells slots ∧ T'.heap = h' ∧ Wr h h' a j.toNatClampNeg (.int (nar .byte x)) ∧ ∀ target, Steps p.tables e below (T'.setTop { g with pc := g.pc + 1, stack := rest }) target → Steps p.tables e below (T.setTop g) target := by
  obtain ⟨cl, A, r1, r2⟩ := F
  exact stB X hx hZ eT A (by rw [r1]; exact hj) hg hs hd
theorem own_newarr {aty : ArrayType} {n : Int32} {rest : List Value} {g : JFrame} (X : Stand p l e R s m args below meth c T locs cells slots) (hx : p.tables.exec = Jvm.exec) (hZ : Z.Warmed39 s.vm) (w : (Jvm.Cond.arrayClass (newarray.typeOf aty)).before a0 Z = true) (eT : T.heap = h) (hg : g.method = m) (hd : decode c.code g.pc = .ok (.newarray aty, 2)) (hs : g.stack = .int n :: rest)
    (hn : ¬ n < 0) {cap : Nat} (hcap : n.toNatClampNeg ≤ cap) (hb : cap * 8 ≤ 536870912) (hc : cells + 1 ≤ R.cells) (hl : slots + cap ≤ R.slots) :
    ∃ T' h' a, Stand p l e R s m args below meth c T' locs (cells + 1) (slots + cap) ∧ T'.heap = h' ∧ a = h.size ∧ Ext h h' ∧ own_A Z h' a (newarray.typeOf aty) n.toNatClampNeg (fun _ => defaultValue (newarray.typeOf aty)) ∧
      ∀ target, Steps p.tables e below (T'.setTop { g with pc := g.pc + 2, stack := .ref a :: rest }) target → Steps p.tables e below (T.setTop g) target := by
  obtain ⟨T', h', cA, X', e', E', A', st⟩ := newP X hx hZ w eT hg hd hs hn hcap hb hc hl
  exact ⟨T', h', _, X', e', rfl, E', own_A.new A', st⟩
theorem own_new {own C : String} {index n : Nat} {g : JFrame} (X : Stand p l e R s m args below meth c T locs cells slots) (hx : p.tables.exec = Jvm.exec) (hZ : Z.Warmed39 s.vm) (hown : s.vm.findClass own = some m.cls) (w : (Jvm.Cond.classLink own index C).before a0 Z = true) (wi : (Jvm.Cond.instantiable C n).before a0 Z = true) (wz : (Jvm.Cond.initialized C).before a0 Z = true) (eT : T.heap = h)
    (hg : g.method = m) (hd : decode c.code g.pc = .ok (.new index, 3)) (hc : cells + 1 ≤ R.cells) (hl : slots + n ≤ R.slots) :
    ∃ T' h' a, Stand p l e R s m args below meth c T' locs (cells + 1) (slots + n) ∧ T'.heap = h' ∧ a = h.size ∧ Ext h h' ∧ Exa Z h' a C ∧ (∀ {O nm d : String} {ty : FieldType}, Laid Z a0 C O nm d → parseFieldDescriptor d = some ty → Fld Z h' a O nm d (defaultValue ty)) ∧
      ∀ target, Steps p.tables e below (T'.setTop { g with pc := g.pc + 3, stack := .ref a :: g.stack }) target → Steps p.tables e below (T.setTop g) target := by
  obtain ⟨T', h', X', e', E', A', D', -, st⟩ := newO X hx hZ hown w wi wz eT hg hd hc hl
  exact ⟨T', h', _, X', e', rfl, E', A', D', st⟩
theorem own_body {y : MethodName} {bytes : ByteArray} {maxL : Nat} {ret : Option FieldType} {ws : List Jvm.Cond} {rm : Room} {as' : Array Value} {h0 : Heap} (hpl : plainFor y = true)
    (body : ∀ (p : Program) (e : Env) (s : State) (m : MethodId) (below : List Frame) (meth : Method) (c : Code) (s₁ : State), p.tables.exec = Jvm.exec → c.code = bytes → c.maxLocals = maxL → s.vm.findClass y.cls = some m.cls → meth.name = y.name → meth.sig.returnType = ret → meth.locks = false → Z.Warmed39 s.vm → Stand p l e rm s m as' below meth c s₁ [] 0 0 → s₁.heap = h0 → own_Fin p.tables e below s rm Q s₁ (entryFrame m as' maxL)) :
    MetFree l y (head1 (Jvm.Cond.code y bytes maxL ret :: ws) rm) (fun a U => a = as' ∧ Z.Warmed39 U.vm ∧ U.heap = h0) (fun _ _ _ _ _ => True) (fun _ U o U' => ∃ v L, o = .returned v ∧ Q v U'.heap L ∧ FrameEnd U o U' L rm.cells rm.slots) := by
  refine MetFree.of_bodySF hpl hisR ?_
  intro p e s m args below meth c s₁ Bd hml0 hP hK
  obtain ⟨rfl, hZ, hh⟩ := hP
  exact body p e s m below meth c s₁ Bd.exec Bd.bytes hml0 (findClass_of_methodNamed Bd.named) (name_of_methodNamed Bd.named Bd.method).1 Bd.returns Bd.notSynchronized hZ (Stand.of_body Bd) (by rw [← hh, Bd.state]; rfl)
theorem own_callS {own : String} {index : Nat} {y : MethodName} {bytes : ByteArray} {maxL W : Nat} {ret : Option FieldType} {rm : Room} {as' : Array Value} {g : JFrame} {argsL rest : List Value}
    (X : Stand p l e R s m args below meth c T locs cells slots) (hx : p.tables.exec = Jvm.exec) (hZ : Z.Warmed39 s.vm) (hown : s.vm.findClass own = some m.cls)
    (w1 : (Jvm.Cond.methodLink own index y).before a0 Z = true) (w2 : (Jvm.Cond.static y).before a0 Z = true) (w3 : (Jvm.Cond.initialized y.cls).before a0 Z = true) (w4 : (Jvm.Cond.code y bytes maxL ret).before a0 Z = true)
    (hy : y.cls ≠ "java/lang/invoke/MethodHandle" ∧ y.cls ≠ "java/lang/invoke/VarHandle") (eT : T.heap = h)
    (hM : MetFree l y (head1 [Jvm.Cond.code y bytes maxL ret] rm) (fun a U => a = as' ∧ Z.Warmed39 U.vm ∧ U.heap = h) (fun _ _ _ _ _ => True) (fun _ U o U' => ∃ v L, o = .returned v ∧ Q v U'.heap L ∧ FrameEnd U o U' L rm.cells rm.slots))
    (hf : rm.frames + 1 ≤ R.frames) (hl : W + (maxL + 11) + rm.locals ≤ R.locals) (hg : g.method = m) (hsize : g.locals.size = c.maxLocals) (hlen : ∀ sig, parseMethodDescriptor y.desc = some sig → argsL.length = sig.parameters.length)
    (hstack : g.stack = argsL.reverse ++ rest) (has : argsL.toArray = as') (hW : 2 * g.monitorRoom + (rest.map fun v => v.category).sum ≤ W) (hdg : decode c.code g.pc = .ok (.invokestatic index, 3)) (hc : cells + rm.cells ≤ R.cells) (hs : slots + rm.slots ≤ R.slots) :
    ∃ (v : Option Value) (T' : State) (L : List Loc), Stand p l e R s m args below meth c T' (locs ++ L) (cells + rm.cells) (slots + rm.slots) ∧ Q v T'.heap L ∧
      ∀ target, Steps p.tables e below (T'.setTop { g with pc := g.pc + 3, stack := v.toList ++ rest }) target → Steps p.tables e below (T.setTop g) target := by
  obtain ⟨v, _, ⟨T', L', k', n'⟩, -, X', ⟨Lc, hQ, l', y', z'⟩, st⟩ := Jvm.LawKit.callS X hx (y := y) hown (mvT hZ w1) (mvT hZ w2) (mvT hZ w3) (mvT hZ w4) hy (backOf (W := W) hM hZ w4 w3 hf hl) hg hsize hlen hstack hW hdg (fun _ _ => ⟨has, eT, hc, hs⟩)
  dsimp only [Pt.U, Pt.locs, Pt.cells, Pt.slots] at X' l' y' z' st hQ
  subst l' y' z'
  exact ⟨v, T', Lc, X', hQ, st⟩
theorem own_callN {own : String} {index : Nat} {y : MethodName} {bytes : ByteArray} {maxL W : Nat} {rm : Room} {as' : Array Value} {g : JFrame} {a : Addr} {argsL rest : List Value}
    (X : Stand p l e R s m args below meth c T locs cells slots) (hx : p.tables.exec = Jvm.exec) (hZ : Z.Warmed39 s.vm) (hy1 : y.name = "<init>") (hown : s.vm.findClass own = some m.cls)
    (w1 : (Jvm.Cond.methodLink own index y).before a0 Z = true) (w2 : (Jvm.Cond.instanceMethod y).before a0 Z = true) (w3 : (Jvm.Cond.initialized y.cls).before a0 Z = true) (w4 : (Jvm.Cond.code y bytes maxL none).before a0 Z = true)
    (hy : y.cls ≠ "java/lang/invoke/MethodHandle" ∧ y.cls ≠ "java/lang/invoke/VarHandle") (eT : T.heap = h)
    (hM : MetFree l y (head1 [Jvm.Cond.code y bytes maxL none] rm) (fun a U => a = as' ∧ Z.Warmed39 U.vm ∧ U.heap = h) (fun _ _ _ _ _ => True) (fun _ U o U' => ∃ v L, o = .returned v ∧ Q v U'.heap L ∧ FrameEnd U o U' L rm.cells rm.slots))
    (hf : rm.frames + 1 ≤ R.frames) (hl : W + (maxL + 11) + rm.locals ≤ R.locals) (hg : g.method = m) (hsize : g.locals.size = c.maxLocals) (hlen : ∀ sig, parseMethodDescriptor y.desc = some sig → argsL.length = sig.parameters.length)
    (hstack : g.stack = argsL.reverse ++ .ref a :: rest) (has : (.ref a :: argsL).toArray = as') (hW : 2 * g.monitorRoom + (rest.map fun v => v.category).sum ≤ W) (hdg : decode c.code g.pc = .ok (.invokespecial index, 3)) (hc : cells + rm.cells ≤ R.cells) (hs : slots + rm.slots ≤ R.slots) :
    ∃ (v : Option Value) (T' : State) (L : List Loc), Stand p l e R s m args below meth c T' (locs ++ L) (cells + rm.cells) (slots + rm.slots) ∧ Q v T'.heap L ∧
      ∀ target, Steps p.tables e below (T'.setTop { g with pc := g.pc + 3, stack := v.toList ++ rest }) target → Steps p.tables e below (T.setTop g) target := by
  obtain ⟨v, _, ⟨T', L', k', n'⟩, -, X', ⟨Lc, hQ, l', y', z'⟩, st⟩ := X.specialBack hx (y := y) hy1 hown (mvT hZ w1) (mvT hZ w2) (mvT hZ w4) hy (backOf (W := W) hM hZ w4 w3 hf hl) hg hsize (Steps.refl _) (a := a) hlen hstack hW hdg (fun _ _ => ⟨has, eT, hc, hs⟩)
  dsimp only [Pt.U, Pt.locs, Pt.cells, Pt.slots] at X' l' y' z' st hQ
  subst l' y' z'
  exact ⟨v, T', Lc, X', hQ, fun _ k => st.trans k⟩
theorem own_callV {own C : String} {index : Nat} {y : MethodName} {bytes : ByteArray} {maxL W : Nat} {ret : Option FieldType} {rm : Room} {as' : Array Value} {g : JFrame} {a : Addr} {argsL rest : List Value}
    (X : Stand p l e R s m args below meth c T locs cells slots) (hx : p.tables.exec = Jvm.exec) (hZ : Z.Warmed39 s.vm) (hown : s.vm.findClass own = some m.cls)
    (w1 : (Jvm.Cond.methodLink own index y).before a0 Z = true) (w2 : (Jvm.Cond.declares y).before a0 Z = true) (w3 : (Jvm.Cond.selects C y y).before a0 Z = true) (w4 : (Jvm.Cond.instanceMethod y).before a0 Z = true) (w5 : (Jvm.Cond.initialized y.cls).before a0 Z = true) (w6 : (Jvm.Cond.code y bytes maxL ret).before a0 Z = true)
    (hy : y.cls ≠ "java/lang/invoke/MethodHandle" ∧ y.cls ≠ "java/lang/invoke/VarHandle") (eT : T.heap = h) (E : Exa Z h a C)
    (hM : MetFree l y (head1 [Jvm.Cond.code y bytes maxL ret] rm) (fun a U => a = as' ∧ Z.Warmed39 U.vm ∧ U.heap = h) (fun _ _ _ _ _ => True) (fun _ U o U' => ∃ v L, o = .returned v ∧ Q v U'.heap L ∧ FrameEnd U o U' L rm.cells rm.slots))
    (hf : rm.frames + 1 ≤ R.frames) (hl : W + (maxL + 11) + rm.locals ≤ R.locals) (hg : g.method = m) (hsize : g.locals.size = c.maxLocals) (hlen : ∀ sig, parseMethodDescriptor y.desc = some sig → argsL.length = sig.parameters.length)
    (hstack : g.stack = argsL.reverse ++ .ref a :: rest) (has : (.ref a :: argsL).toArray = as') (hW : 2 * g.monitorRoom + (rest.map fun v => v.category).sum ≤ W) (hdg : decode c.code g.pc = .ok (.invokevirtual index, 3)) (hc : cells + rm.cells ≤ R.cells) (hs : slots + rm.slots ≤ R.slots) :
    ∃ (v : Option Value) (T' : State) (L : List Loc), Stand p l e R s m args below meth c T' (locs ++ L) (cells + rm.cells) (slots + rm.slots) ∧ Q v T'.heap L ∧
      ∀ target, Steps p.tables e below (T'.setTop { g with pc := g.pc + 3, stack := v.toList ++ rest }) target → Steps p.tables e below (T.setTop g) target := by
  obtain ⟨cq, kq, qa, qb, qc⟩ := isOf hZ eT E
  obtain ⟨v, _, ⟨T', L', k', n'⟩, -, X', ⟨Lc, hQ, l', y', z'⟩, st⟩ := X.virtualBack hx (y := y) (z := y) hown (mvT hZ w1) (mvT hZ w2) (notFace_of_selects (args := args) (mvT hZ w3)) (mvT hZ w3) (mvT hZ w4) hy (backOf (W := W) hM hZ w6 w5 hf hl) qa qc hg hsize (Steps.refl _) hlen hstack hW hdg (fun _ _ => ⟨has, eT, hc, hs⟩)
  dsimp only [Pt.U, Pt.locs, Pt.cells, Pt.slots] at X' l' y' z' st hQ
  subst l' y' z'
  exact ⟨v, T', Lc, X', hQ, fun _ k => st.trans k⟩
end OwnStand
theorem own_nomore (z : Int64) : ¬ ((9223372036854775807 : Int64) < z) := by
  rw [Int64.lt_iff_toInt_lt]
  have k : (9223372036854775807 : Int64).toInt = 9223372036854775807 := by decide
  have := rng64 z
  omega
theorem own_ltmax {z : Int64} (h : ¬ z = (9223372036854775807 : Int64)) : z < (9223372036854775807 : Int64) := by
  rw [Int64.lt_iff_toInt_lt]
  have k : (9223372036854775807 : Int64).toInt = 9223372036854775807 := by decide
  rw [← Int64.toInt_inj] at h
  have := rng64 z
  omega
theorem d3_0 : decode jdk_30_method_1_code 0 = .ok (.aload_n 0, 1) := by decide +kernel
theorem d3_1 : decode jdk_30_method_1_code 1 = .ok (.invokespecial 1, 3) := by decide +kernel
theorem d3_4 : decode jdk_30_method_1_code 4 = .ok (.return_, 1) := by decide +kernel
theorem pn_3 : plainFor (⟨"java/lang/Record", "<init>", "()V"⟩ : MethodName) = true := plainFor_of_name (by first | (simp [plainName, overriddenIn]; done) | decide +kernel)
theorem ef_3 (m : MethodId) (a : Addr) : entryFrame m #[(.ref a)] 1 = mkF m 0 #[.val (.ref a)] [] := by first | (simp [entryFrame, mkF, argsToLocals, Value.category]; done) | rfl
def Q3 (Z : State) (a : Addr) (hI : Heap) (n0 : Nat) (v : Option Value) (h : Heap) (L : List Loc) : Prop := v = none ∧ Fr n0 L ∧ h = hI
set_option maxRecDepth 65536 in
set_option maxHeartbeats 40000000 in
theorem rm3 (l : Launch) (Z : State) (a0 : Array Value) (hw : ∀ d ∈ tables_1, d.before a0 Z = true) (ws : List Jvm.Cond) (a : Addr) (hI : Heap) (n0 : Nat) (Z0 : n0 ≤ hI.size) :
    MetFree l (⟨"java/lang/Record", "<init>", "()V"⟩ : MethodName) (head1 (Jvm.Cond.code (⟨"java/lang/Record", "<init>", "()V"⟩ : MethodName) jdk_30_method_1_code 1 none :: ws) ({ frames := 1, cells := 0, slots := 0, locals := 12 } : Room)) (fun xa U => xa = #[(.ref a)] ∧ Z.Warmed39 U.vm ∧ U.heap = hI) (fun _ _ _ _ _ => True) (fun _ U o U' => ∃ v L, o = .returned v ∧ Q3 Z a hI n0 v U'.heap L ∧ FrameEnd U o U' L ({ frames := 1, cells := 0, slots := 0, locals := 12 } : Room).cells ({ frames := 1, cells := 0, slots := 0, locals := 12 } : Room).slots) := by
  refine own_body pn_3 ?_
  intro p e s m below meth c s₁ hx hby hml hown hnm hret hlk hZ XI eI
  obtain ⟨F, hF⟩ : ∃ F : State → JFrame → Prop, F = own_Fin p.tables e below s ({ frames := 1, cells := 0, slots := 0, locals := 12 } : Room) (Q3 Z a hI n0) := ⟨_, rfl⟩
  have hst : ∀ {T T' : State} {g g' : JFrame}, (∀ t, Steps p.tables e below (T'.setTop g') t → Steps p.tables e below (T.setTop g) t) → F T' g' → F T g := by subst hF; exact own_st
  have NI := Fr.nil n0
  show own_Fin p.tables e below s ({ frames := 1, cells := 0, slots := 0, locals := 12 } : Room) (Q3 Z a hI n0) s₁ (entryFrame m #[(.ref a)] 1)
  rw [← hF]
  rw [ef_3]
  show F s₁ (mkF m 0 #[.val (.ref a)] [])
  refine hst (fun t k => XS.aloadN XI.here hx rfl (hb hby d3_0) rfl rfl k) ?_
  show F s₁ (mkF m 1 #[.val (.ref a)] [(.ref a)])
  obtain ⟨T1, X1, e1, st1⟩ := initO XI hx hZ hown (hw _ (List.mem_of_getElem? (i := 15) rfl)) (hw _ (List.mem_of_getElem? (i := 16) rfl)) (hw _ (List.mem_of_getElem? (i := 17) rfl)) eI (g := (mkF m 1 #[.val (.ref a)] [(.ref a)])) rfl (by rw [hml]; rfl) rfl (hb hby d3_1) (by decide) (W := 0) (by show 2 * 0 + _ ≤ _; exact Nat.le_of_eq rfl) (by decide)
  refine hst st1 ?_
  show F T1 (mkF m 4 #[.val (.ref a)] [])
  rw [hF]
  refine own_retV X1 hx hret hlk (hb hby d3_4) (by decide) (by decide) ?_
  rw [e1]
  exact ⟨rfl, NI, rfl⟩
theorem d2_0 : decode prog_20_method_1_code 0 = .ok (.aload_n 0, 1) := by decide +kernel
theorem d2_1 : decode prog_20_method_1_code 1 = .ok (.invokespecial 3, 3) := by decide +kernel
theorem d2_4 : decode prog_20_method_1_code 4 = .ok (.aload_n 0, 1) := by decide +kernel
theorem d2_5 : decode prog_20_method_1_code 5 = .ok (.lload_n 1, 1) := by decide +kernel
theorem d2_6 : decode prog_20_method_1_code 6 = .ok (.putfield 9, 3) := by decide +kernel
theorem d2_9 : decode prog_20_method_1_code 9 = .ok (.aload_n 0, 1) := by decide +kernel
theorem d2_10 : decode prog_20_method_1_code 10 = .ok (.lload_n 3, 1) := by decide +kernel
theorem d2_11 : decode prog_20_method_1_code 11 = .ok (.putfield 15, 3) := by decide +kernel
theorem d2_14 : decode prog_20_method_1_code 14 = .ok (.aload_n 0, 1) := by decide +kernel
theorem d2_15 : decode prog_20_method_1_code 15 = .ok (.lload 5, 2) := by decide +kernel
theorem d2_17 : decode prog_20_method_1_code 17 = .ok (.putfield 18, 3) := by decide +kernel
theorem d2_20 : decode prog_20_method_1_code 20 = .ok (.return_, 1) := by decide +kernel
theorem pn_2 : plainFor (⟨"com/example/horarium/horarium/solve/FeasibilitySearch$Budget", "<init>", "(JJJ)V"⟩ : MethodName) = true := plainFor_of_name (by first | (simp [plainName, overriddenIn]; done) | decide +kernel)
theorem pd_1 : parseMethodDescriptor "()V" = some ⟨[], none⟩ := by decide +kernel
theorem ef_2 (m : MethodId) (a : Addr) (q1 : Int64) (q2 : Int64) (q3 : Int64) : entryFrame m #[(.ref a), (.long q1), (.long q2), (.long q3)] 7 = mkF m 0 #[.val (.ref a), .val (.long q1), .second, .val (.long q2), .second, .val (.long q3), .second] [] := by first | (simp [entryFrame, mkF, argsToLocals, Value.category]; done) | rfl
def Q2 (Z : State) (a : Addr) (q1 : Int64) (q2 : Int64) (q3 : Int64) (hI : Heap) (n0 : Nat) (v : Option Value) (h : Heap) (L : List Loc) : Prop := v = none ∧ Fr n0 L ∧ Keep hI h [a] ∧ Exa Z h a "com/example/horarium/horarium/solve/FeasibilitySearch$Budget" ∧ Fld Z h a "com/example/horarium/horarium/solve/FeasibilitySearch$Budget" "deadline" "J" (.long q1) ∧ Fld Z h a "com/example/horarium/horarium/solve/FeasibilitySearch$Budget" "patience" "J" (.long q2) ∧ Fld Z h a "com/example/horarium/horarium/solve/FeasibilitySearch$Budget" "maxSteps" "J" (.long q3)
set_option maxRecDepth 65536 in
set_option maxHeartbeats 40000000 in
theorem rm2 (l : Launch) (Z : State) (a0 : Array Value) (hw : ∀ d ∈ tables_1, d.before a0 Z = true) (ws : List Jvm.Cond) (a : Addr) (q1 : Int64) (q2 : Int64) (q3 : Int64) (hI : Heap) (n0 : Nat) (Z0 : n0 ≤ hI.size) (E_a : Exa Z hI a "com/example/horarium/horarium/solve/FeasibilitySearch$Budget") (ge_a : n0 ≤ a) (F_deadline : Fld Z hI a "com/example/horarium/horarium/solve/FeasibilitySearch$Budget" "deadline" "J" (.long (0 : Int64))) (F_patience : Fld Z hI a "com/example/horarium/horarium/solve/FeasibilitySearch$Budget" "patience" "J" (.long (0 : Int64))) (F_maxSteps : Fld Z hI a "com/example/horarium/horarium/solve/FeasibilitySearch$Budget" "maxSteps" "J" (.long (0 : Int64))) :
    MetFree l (⟨"com/example/horarium/horarium/solve/FeasibilitySearch$Budget", "<init>", "(JJJ)V"⟩ : MethodName) (head1 (Jvm.Cond.code (⟨"com/example/horarium/horarium/solve/FeasibilitySearch$Budget", "<init>", "(JJJ)V"⟩ : MethodName) prog_20_method_1_code 7 none :: ws) ({ frames := 2, cells := 0, slots := 0, locals := 24 } : Room)) (fun xa U => xa = #[(.ref a), (.long q1), (.long q2), (.long q3)] ∧ Z.Warmed39 U.vm ∧ U.heap = hI) (fun _ _ _ _ _ => True) (fun _ U o U' => ∃ v L, o = .returned v ∧ Q2 Z a q1 q2 q3 hI n0 v U'.heap L ∧ FrameEnd U o U' L ({ frames := 2, cells := 0, slots := 0, locals := 24 } : Room).cells ({ frames := 2, cells := 0, slots := 0, locals := 24 } : Room).slots) := by
  refine own_body pn_2 ?_
  intro p e s m below meth c s₁ hx hby hml hown hnm hret hlk hZ XI eI
  obtain ⟨F, hF⟩ : ∃ F : State → JFrame → Prop, F = own_Fin p.tables e below s ({ frames := 2, cells := 0, slots := 0, locals := 24 } : Room) (Q2 Z a q1 q2 q3 hI n0) := ⟨_, rfl⟩
  have hst : ∀ {T T' : State} {g g' : JFrame}, (∀ t, Steps p.tables e below (T'.setTop g') t → Steps p.tables e below (T.setTop g) t) → F T' g' → F T g := by subst hF; exact own_st
  have NI := Fr.nil n0
  show own_Fin p.tables e below s ({ frames := 2, cells := 0, slots := 0, locals := 24 } : Room) (Q2 Z a q1 q2 q3 hI n0) s₁ (entryFrame m #[(.ref a), (.long q1), (.long q2), (.long q3)] 7)
  rw [← hF]
  rw [ef_2]
  show F s₁ (mkF m 0 #[.val (.ref a), .val (.long q1), .second, .val (.long q2), .second, .val (.long q3), .second] [])
  refine hst (fun t k => XS.aloadN XI.here hx rfl (hb hby d2_0) rfl rfl k) ?_
  show F s₁ (mkF m 1 #[.val (.ref a), .val (.long q1), .second, .val (.long q2), .second, .val (.long q3), .second] [(.ref a)])
  obtain ⟨v1, T1, Lc1, X1, hQ1, st1⟩ := own_callN XI hx hZ (y := (⟨"java/lang/Record", "<init>", "()V"⟩ : MethodName)) rfl hown (hw _ (List.mem_of_getElem? (i := 10) rfl)) (hw _ (List.mem_of_getElem? (i := 11) rfl)) (hw _ (List.mem_of_getElem? (i := 13) rfl)) (hw _ (List.mem_of_getElem? (i := 14) rfl)) (by decide) eI (rm3 l Z a0 hw [] a hI n0 Z0 ) (by decide) (by decide) (g := (mkF m 1 #[.val (.ref a), .val (.long q1), .second, .val (.long q2), .second, .val (.long q3), .second] [(.ref a)])) rfl (by rw [hml]; rfl) (a := a) (argsL := []) (rest := []) (lenOf pd_1 rfl) rfl rfl (W := 0) (by show 2 * 0 + _ ≤ _; exact Nat.le_of_eq rfl) (hb hby d2_1) (by decide) (by decide)
  obtain ⟨rfl, Nq1, he1⟩ := hQ1
  have N1 := Fr.app NI Nq1
  refine hst st1 ?_
  show F T1 (mkF m 4 #[.val (.ref a), .val (.long q1), .second, .val (.long q2), .second, .val (.long q3), .second] [])
  refine hst (fun t k => XS.aloadN X1.here hx rfl (hb hby d2_4) rfl rfl k) ?_
  show F T1 (mkF m 5 #[.val (.ref a), .val (.long q1), .second, .val (.long q2), .second, .val (.long q3), .second] [(.ref a)])
  refine hst (fun t k => XS.lloadN X1.here hx rfl (hb hby d2_5) rfl k) ?_
  show F T1 (mkF m 6 #[.val (.ref a), .val (.long q1), .second, .val (.long q2), .second, .val (.long q3), .second] [(.long q1), (.ref a)])
  obtain ⟨T6, h6, X6, e6, W6, st6⟩ := putF X1 hx hZ hown (host := "") (Or.inl (hw _ (List.mem_of_getElem? (i := 18) rfl))) Via.refl he1 F_deadline E_a (Or.inr ⟨(hw _ (List.mem_of_getElem? (i := 19) rfl)), rfl, hnm⟩) (hw _ (List.mem_of_getElem? (i := 5) rfl)) (ty := .long) (by decide) rfl rfl (g := (mkF m 6 #[.val (.ref a), .val (.long q1), .second, .val (.long q2), .second, .val (.long q3), .second] [(.long q1), (.ref a)])) rfl rfl (hb hby d2_6)
  have N6 := Fr.snoc X6 N1 ge_a
  have E_a_p6 : Exa Z h6 a "com/example/horarium/horarium/solve/FeasibilitySearch$Budget" := E_a.wr W6
  have F_deadline_p6 : Fld Z h6 a "com/example/horarium/horarium/solve/FeasibilitySearch$Budget" "deadline" "J" (.long q1) := F_deadline.same W6
  have F_patience_p6 : Fld Z h6 a "com/example/horarium/horarium/solve/FeasibilitySearch$Budget" "patience" "J" (.long (0 : Int64)) := F_patience.other W6 (Or.inr (slot_ne (Or.inr (hw _ (List.mem_of_getElem? (i := 21) rfl))) (Or.inr (hw _ (List.mem_of_getElem? (i := 19) rfl))) (by decide) (t := .long) (t' := .long) (by decide) (by decide)))
  have F_maxSteps_p6 : Fld Z h6 a "com/example/horarium/horarium/solve/FeasibilitySearch$Budget" "maxSteps" "J" (.long (0 : Int64)) := F_maxSteps.other W6 (Or.inr (slot_ne (Or.inr (hw _ (List.mem_of_getElem? (i := 23) rfl))) (Or.inr (hw _ (List.mem_of_getElem? (i := 19) rfl))) (by decide) (t := .long) (t' := .long) (by decide) (by decide)))
  have Z0_p6 : n0 ≤ h6.size := Nat.le_trans Z0 (Keep.of_wr W6).1
  have K_p6 : Keep hI h6 [a] := (Keep.refl hI [a]).wr W6 (Or.inl (List.mem_of_getElem? (i := 0) rfl))
  refine hst st6 ?_
  show F T6 (mkF m 9 #[.val (.ref a), .val (.long q1), .second, .val (.long q2), .second, .val (.long q3), .second] [])
  refine hst (fun t k => XS.aloadN X6.here hx rfl (hb hby d2_9) rfl rfl k) ?_
  show F T6 (mkF m 10 #[.val (.ref a), .val (.long q1), .second, .val (.long q2), .second, .val (.long q3), .second] [(.ref a)])
  refine hst (fun t k => XS.lloadN X6.here hx rfl (hb hby d2_10) rfl k) ?_
  show F T6 (mkF m 11 #[.val (.ref a), .val (.long q1), .second, .val (.long q2), .second, .val (.long q3), .second] [(.long q2), (.ref a)])
  obtain ⟨T11, h11, X11, e11, W11, st11⟩ := putF X6 hx hZ hown (host := "") (Or.inl (hw _ (List.mem_of_getElem? (i := 20) rfl))) Via.refl e6 F_patience_p6 E_a_p6 (Or.inr ⟨(hw _ (List.mem_of_getElem? (i := 21) rfl)), rfl, hnm⟩) (hw _ (List.mem_of_getElem? (i := 5) rfl)) (ty := .long) (by decide) rfl rfl (g := (mkF m 11 #[.val (.ref a), .val (.long q1), .second, .val (.long q2), .second, .val (.long q3), .second] [(.long q2), (.ref a)])) rfl rfl (hb hby d2_11)
  have N11 := Fr.snoc X11 N6 ge_a
  have E_a_p11 : Exa Z h11 a "com/example/horarium/horarium/solve/FeasibilitySearch$Budget" := E_a_p6.wr W11
  have F_deadline_p11 : Fld Z h11 a "com/example/horarium/horarium/solve/FeasibilitySearch$Budget" "deadline" "J" (.long q1) := F_deadline_p6.other W11 (Or.inr (slot_ne (Or.inr (hw _ (List.mem_of_getElem? (i := 19) rfl))) (Or.inr (hw _ (List.mem_of_getElem? (i := 21) rfl))) (by decide) (t := .long) (t' := .long) (by decide) (by decide)))
  have F_patience_p11 : Fld Z h11 a "com/example/horarium/horarium/solve/FeasibilitySearch$Budget" "patience" "J" (.long q2) := F_patience_p6.same W11
  have F_maxSteps_p11 : Fld Z h11 a "com/example/horarium/horarium/solve/FeasibilitySearch$Budget" "maxSteps" "J" (.long (0 : Int64)) := F_maxSteps_p6.other W11 (Or.inr (slot_ne (Or.inr (hw _ (List.mem_of_getElem? (i := 23) rfl))) (Or.inr (hw _ (List.mem_of_getElem? (i := 21) rfl))) (by decide) (t := .long) (t' := .long) (by decide) (by decide)))
  have Z0_p11 : n0 ≤ h11.size := Nat.le_trans Z0_p6 (Keep.of_wr W11).1
  have K_p11 : Keep hI h11 [a] := K_p6.wr W11 (Or.inl (List.mem_of_getElem? (i := 0) rfl))
  refine hst st11 ?_
  show F T11 (mkF m 14 #[.val (.ref a), .val (.long q1), .second, .val (.long q2), .second, .val (.long q3), .second] [])
  refine hst (fun t k => XS.aloadN X11.here hx rfl (hb hby d2_14) rfl rfl k) ?_
  show F T11 (mkF m 15 #[.val (.ref a), .val (.long q1), .second, .val (.long q2), .second, .val (.long q3), .second] [(.ref a)])
  refine hst (fun t k => XS.lload X11.here hx rfl (hb hby d2_15) rfl k) ?_
  show F T11 (mkF m 17 #[.val (.ref a), .val (.long q1), .second, .val (.long q2), .second, .val (.long q3), .second] [(.long q3), (.ref a)])
  obtain ⟨T17, h17, X17, e17, W17, st17⟩ := putF X11 hx hZ hown (host := "") (Or.inl (hw _ (List.mem_of_getElem? (i := 22) rfl))) Via.refl e11 F_maxSteps_p11 E_a_p11 (Or.inr ⟨(hw _ (List.mem_of_getElem? (i := 23) rfl)), rfl, hnm⟩) (hw _ (List.mem_of_getElem? (i := 5) rfl)) (ty := .long) (by decide) rfl rfl (g := (mkF m 17 #[.val (.ref a), .val (.long q1), .second, .val (.long q2), .second, .val (.long q3), .second] [(.long q3), (.ref a)])) rfl rfl (hb hby d2_17)
  have N17 := Fr.snoc X17 N11 ge_a
  have E_a_p17 : Exa Z h17 a "com/example/horarium/horarium/solve/FeasibilitySearch$Budget" := E_a_p11.wr W17
  have F_deadline_p17 : Fld Z h17 a "com/example/horarium/horarium/solve/FeasibilitySearch$Budget" "deadline" "J" (.long q1) := F_deadline_p11.other W17 (Or.inr (slot_ne (Or.inr (hw _ (List.mem_of_getElem? (i := 19) rfl))) (Or.inr (hw _ (List.mem_of_getElem? (i := 23) rfl))) (by decide) (t := .long) (t' := .long) (by decide) (by decide)))
  have F_patience_p17 : Fld Z h17 a "com/example/horarium/horarium/solve/FeasibilitySearch$Budget" "patience" "J" (.long q2) := F_patience_p11.other W17 (Or.inr (slot_ne (Or.inr (hw _ (List.mem_of_getElem? (i := 21) rfl))) (Or.inr (hw _ (List.mem_of_getElem? (i := 23) rfl))) (by decide) (t := .long) (t' := .long) (by decide) (by decide)))
  have F_maxSteps_p17 : Fld Z h17 a "com/example/horarium/horarium/solve/FeasibilitySearch$Budget" "maxSteps" "J" (.long q3) := F_maxSteps_p11.same W17
  have Z0_p17 : n0 ≤ h17.size := Nat.le_trans Z0_p11 (Keep.of_wr W17).1
  have K_p17 : Keep hI h17 [a] := K_p11.wr W17 (Or.inl (List.mem_of_getElem? (i := 0) rfl))
  refine hst st17 ?_
  show F T17 (mkF m 20 #[.val (.ref a), .val (.long q1), .second, .val (.long q2), .second, .val (.long q3), .second] [])
  rw [hF]
  refine own_retV X17 hx hret hlk (hb hby d2_20) (by decide) (by decide) ?_
  rw [e17]
  exact ⟨rfl, N17, K_p17, E_a_p17, F_deadline_p17, F_patience_p17, F_maxSteps_p17⟩
theorem d1_0 : decode prog_20_method_2_code 0 = .ok (.new 10, 3) := by decide +kernel
theorem d1_3 : decode prog_20_method_2_code 3 = .ok (.dup, 1) := by decide +kernel
theorem d1_4 : decode prog_20_method_2_code 4 = .ok (.lload_n 0, 1) := by decide +kernel
theorem d1_5 : decode prog_20_method_2_code 5 = .ok (.ldc2_w 21, 3) := by decide +kernel
theorem d1_8 : decode prog_20_method_2_code 8 = .ok (.ldc2_w 21, 3) := by decide +kernel
theorem d1_11 : decode prog_20_method_2_code 11 = .ok (.invokespecial 23, 3) := by decide +kernel
theorem d1_14 : decode prog_20_method_2_code 14 = .ok (.areturn, 1) := by decide +kernel
theorem pn_1 : plainFor (⟨"com/example/horarium/horarium/solve/FeasibilitySearch$Budget", "untilPlaced", "(J)Lcom/example/horarium/horarium/solve/FeasibilitySearch$Budget;"⟩ : MethodName) = true := plainFor_of_name (by first | (simp [plainName, overriddenIn]; done) | decide +kernel)
theorem pd_3 : parseMethodDescriptor "(JJJ)V" = some ⟨[.long, .long, .long], none⟩ := by decide +kernel
theorem ef_1 (m : MethodId) (q1 : Int64) : entryFrame m #[(.long q1)] 2 = mkF m 0 #[.val (.long q1), .second] [] := by first | (simp [entryFrame, mkF, argsToLocals, Value.category]; done) | rfl
def Q1 (Z : State) (q1 : Int64) (hI : Heap) (n0 : Nat) (v : Option Value) (h : Heap) (L : List Loc) : Prop := ∃ (b : Addr), v = some (.ref b) ∧ Fr n0 L ∧ Keep hI h [] ∧ Exa Z h b "com/example/horarium/horarium/solve/FeasibilitySearch$Budget" ∧ Fld Z h b "com/example/horarium/horarium/solve/FeasibilitySearch$Budget" "deadline" "J" (.long q1) ∧ Fld Z h b "com/example/horarium/horarium/solve/FeasibilitySearch$Budget" "patience" "J" (.long (9223372036854775807 : Int64)) ∧ Fld Z h b "com/example/horarium/horarium/solve/FeasibilitySearch$Budget" "maxSteps" "J" (.long (9223372036854775807 : Int64))
set_option maxRecDepth 65536 in
set_option maxHeartbeats 40000000 in
theorem rm1 (l : Launch) (Z : State) (a0 : Array Value) (hw : ∀ d ∈ tables_1, d.before a0 Z = true) (ws : List Jvm.Cond) (q1 : Int64) (hI : Heap) (n0 : Nat) (Z0 : n0 ≤ hI.size) :
    MetFree l (⟨"com/example/horarium/horarium/solve/FeasibilitySearch$Budget", "untilPlaced", "(J)Lcom/example/horarium/horarium/solve/FeasibilitySearch$Budget;"⟩ : MethodName) (head1 (Jvm.Cond.code (⟨"com/example/horarium/horarium/solve/FeasibilitySearch$Budget", "untilPlaced", "(J)Lcom/example/horarium/horarium/solve/FeasibilitySearch$Budget;"⟩ : MethodName) prog_20_method_2_code 2 (some (.object "com/example/horarium/horarium/solve/FeasibilitySearch$Budget")) :: ws) ({ frames := 3, cells := 1, slots := 3, locals := 43 } : Room)) (fun xa U => xa = #[(.long q1)] ∧ Z.Warmed39 U.vm ∧ U.heap = hI) (fun _ _ _ _ _ => True) (fun _ U o U' => ∃ v L, o = .returned v ∧ Q1 Z q1 hI n0 v U'.heap L ∧ FrameEnd U o U' L ({ frames := 3, cells := 1, slots := 3, locals := 43 } : Room).cells ({ frames := 3, cells := 1, slots := 3, locals := 43 } : Room).slots) := by
  refine own_body pn_1 ?_
  intro p e s m below meth c s₁ hx hby hml hown hnm hret hlk hZ XI eI
  obtain ⟨F, hF⟩ : ∃ F : State → JFrame → Prop, F = own_Fin p.tables e below s ({ frames := 3, cells := 1, slots := 3, locals := 43 } : Room) (Q1 Z q1 hI n0) := ⟨_, rfl⟩
  have hst : ∀ {T T' : State} {g g' : JFrame}, (∀ t, Steps p.tables e below (T'.setTop g') t → Steps p.tables e below (T.setTop g) t) → F T' g' → F T g := by subst hF; exact own_st
  have NI := Fr.nil n0
  show own_Fin p.tables e below s ({ frames := 3, cells := 1, slots := 3, locals := 43 } : Room) (Q1 Z q1 hI n0) s₁ (entryFrame m #[(.long q1)] 2)
  rw [← hF]
  rw [ef_1]
  show F s₁ (mkF m 0 #[.val (.long q1), .second] [])
  obtain ⟨T0, h0, b0, X0, e0, g0, E0, A0, D0, st0⟩ := own_new XI hx hZ hown (hw _ (List.mem_of_getElem? (i := 4) rfl)) (hw _ (List.mem_of_getElem? (i := 5) rfl)) (hw _ (List.mem_of_getElem? (i := 2) rfl)) eI (g := (mkF m 0 #[.val (.long q1), .second] [])) rfl (hb hby d1_0) (by decide) (by decide)
  have ge_b0 : n0 ≤ b0 := Nat.le_trans Z0 (Nat.le_of_eq g0.symm)
  have sz_b0 : hI.size ≤ b0 := Nat.le_trans (Keep.refl hI []).1 (Nat.le_of_eq g0.symm)
  have Z0_p0 : n0 ≤ h0.size := (Nat.le_trans Z0 E0.1)
  have K_p0 : Keep hI h0 [] := (Keep.refl hI []).ext E0
  have F_deadline_b0 : Fld Z h0 b0 "com/example/horarium/horarium/solve/FeasibilitySearch$Budget" "deadline" "J" (.long (0 : Int64)) := D0 (Or.inr (hw _ (List.mem_of_getElem? (i := 19) rfl))) (ty := .long) (by decide)
  have F_patience_b0 : Fld Z h0 b0 "com/example/horarium/horarium/solve/FeasibilitySearch$Budget" "patience" "J" (.long (0 : Int64)) := D0 (Or.inr (hw _ (List.mem_of_getElem? (i := 21) rfl))) (ty := .long) (by decide)
  have F_maxSteps_b0 : Fld Z h0 b0 "com/example/horarium/horarium/solve/FeasibilitySearch$Budget" "maxSteps" "J" (.long (0 : Int64)) := D0 (Or.inr (hw _ (List.mem_of_getElem? (i := 23) rfl))) (ty := .long) (by decide)
  refine hst st0 ?_
  show F T0 (mkF m 3 #[.val (.long q1), .second] [(.ref b0)])
  refine hst (fun t k => XS.dup X0.here hx rfl (hb hby d1_3) rfl rfl k) ?_
  show F T0 (mkF m 4 #[.val (.long q1), .second] [(.ref b0), (.ref b0)])
  refine hst (fun t k => XS.lloadN X0.here hx rfl (hb hby d1_4) rfl k) ?_
  show F T0 (mkF m 5 #[.val (.long q1), .second] [(.long q1), (.ref b0), (.ref b0)])
  refine hst (fun t k => X0.ldc2J hx hown (mvT hZ (hw _ (List.mem_of_getElem? (i := 6) rfl))) (g := (mkF m 5 #[.val (.long q1), .second] [(.long q1), (.ref b0), (.ref b0)])) rfl (hb hby d1_5) k) ?_
  show F T0 (mkF m 8 #[.val (.long q1), .second] [(.long (9223372036854775807 : Int64)), (.long q1), (.ref b0), (.ref b0)])
  refine hst (fun t k => X0.ldc2J hx hown (mvT hZ (hw _ (List.mem_of_getElem? (i := 6) rfl))) (g := (mkF m 8 #[.val (.long q1), .second] [(.long (9223372036854775807 : Int64)), (.long q1), (.ref b0), (.ref b0)])) rfl (hb hby d1_8) k) ?_
  show F T0 (mkF m 11 #[.val (.long q1), .second] [(.long (9223372036854775807 : Int64)), (.long (9223372036854775807 : Int64)), (.long q1), (.ref b0), (.ref b0)])
  obtain ⟨v11, T11, Lc11, X11, hQ11, st11⟩ := own_callN X0 hx hZ (y := (⟨"com/example/horarium/horarium/solve/FeasibilitySearch$Budget", "<init>", "(JJJ)V"⟩ : MethodName)) rfl hown (hw _ (List.mem_of_getElem? (i := 7) rfl)) (hw _ (List.mem_of_getElem? (i := 8) rfl)) (hw _ (List.mem_of_getElem? (i := 2) rfl)) (hw _ (List.mem_of_getElem? (i := 9) rfl)) (by decide) e0 (rm2 l Z a0 hw [] b0 q1 (9223372036854775807 : Int64) (9223372036854775807 : Int64) h0 n0 Z0_p0 A0 ge_b0 F_deadline_b0 F_patience_b0 F_maxSteps_b0) (by decide) (by decide) (g := (mkF m 11 #[.val (.long q1), .second] [(.long (9223372036854775807 : Int64)), (.long (9223372036854775807 : Int64)), (.long q1), (.ref b0), (.ref b0)])) rfl (by rw [hml]; rfl) (a := b0) (argsL := [(.long q1), (.long (9223372036854775807 : Int64)), (.long (9223372036854775807 : Int64))]) (rest := [(.ref b0)]) (lenOf pd_3 rfl) rfl rfl (W := 1) (by show 2 * 0 + _ ≤ _; exact Nat.le_of_eq rfl) (hb hby d1_11) (by decide) (by decide)
  obtain ⟨rfl, Nq11, K11, q1_11, q2_11, q3_11, q4_11⟩ := hQ11
  have N11 := Fr.app NI Nq11
  have Z0_p11 : n0 ≤ T11.heap.size := Nat.le_trans Z0_p0 K11.1
  have K_p11 : Keep hI T11.heap [] := K_p0.trans K11 (by intro x hx'; simp only [List.mem_cons, List.not_mem_nil, or_false] at hx' ⊢; subst hx'; first | exact Or.inl (by simp) | exact Or.inr sz_b0)
  refine hst st11 ?_
  show F T11 (mkF m 14 #[.val (.long q1), .second] [(.ref b0)])
  rw [hF]
  refine own_retA X11 hx hret rfl rfl hlk (hb hby d1_14) (by decide) (by decide) ?_
  exact ⟨b0, rfl, N11, K_p11, q1_11, q2_11, q3_11, q4_11⟩
theorem d5_0 : decode prog_20_method_7_code 0 = .ok (.aload_n 0, 1) := by decide +kernel
theorem d5_1 : decode prog_20_method_7_code 1 = .ok (.getfield 9, 3) := by decide +kernel
theorem d5_4 : decode prog_20_method_7_code 4 = .ok (.lreturn, 1) := by decide +kernel
theorem pn_5 : plainFor (⟨"com/example/horarium/horarium/solve/FeasibilitySearch$Budget", "deadline", "()J"⟩ : MethodName) = true := plainFor_of_name (by first | (simp [plainName, overriddenIn]; done) | decide +kernel)
theorem ef_5 (m : MethodId) (a : Addr) : entryFrame m #[(.ref a)] 1 = mkF m 0 #[.val (.ref a)] [] := by first | (simp [entryFrame, mkF, argsToLocals, Value.category]; done) | rfl
def Q5 (Z : State) (a : Addr) (w : Int64) (hI : Heap) (n0 : Nat) (v : Option Value) (h : Heap) (L : List Loc) : Prop := v = some (.long w) ∧ Fr n0 L ∧ h = hI
set_option maxRecDepth 65536 in
set_option maxHeartbeats 40000000 in
theorem rm5 (l : Launch) (Z : State) (a0 : Array Value) (hw : ∀ d ∈ tables_1, d.before a0 Z = true) (ws : List Jvm.Cond) (a : Addr) (w : Int64) (hI : Heap) (n0 : Nat) (Z0 : n0 ≤ hI.size) (Ff : Fld Z hI a "com/example/horarium/horarium/solve/FeasibilitySearch$Budget" "deadline" "J" (.long w)) :
    MetFree l (⟨"com/example/horarium/horarium/solve/FeasibilitySearch$Budget", "deadline", "()J"⟩ : MethodName) (head1 (Jvm.Cond.code (⟨"com/example/horarium/horarium/solve/FeasibilitySearch$Budget", "deadline", "()J"⟩ : MethodName) prog_20_method_7_code 1 (some .long) :: ws) ({ frames := 0, cells := 0, slots := 0, locals := 0 } : Room)) (fun xa U => xa = #[(.ref a)] ∧ Z.Warmed39 U.vm ∧ U.heap = hI) (fun _ _ _ _ _ => True) (fun _ U o U' => ∃ v L, o = .returned v ∧ Q5 Z a w hI n0 v U'.heap L ∧ FrameEnd U o U' L ({ frames := 0, cells := 0, slots := 0, locals := 0 } : Room).cells ({ frames := 0, cells := 0, slots := 0, locals := 0 } : Room).slots) := by
  refine own_body pn_5 ?_
  intro p e s m below meth c s₁ hx hby hml hown hnm hret hlk hZ XI eI
  obtain ⟨F, hF⟩ : ∃ F : State → JFrame → Prop, F = own_Fin p.tables e below s ({ frames := 0, cells := 0, slots := 0, locals := 0 } : Room) (Q5 Z a w hI n0) := ⟨_, rfl⟩
  have hst : ∀ {T T' : State} {g g' : JFrame}, (∀ t, Steps p.tables e below (T'.setTop g') t → Steps p.tables e below (T.setTop g) t) → F T' g' → F T g := by subst hF; exact own_st
  have NI := Fr.nil n0
  show own_Fin p.tables e below s ({ frames := 0, cells := 0, slots := 0, locals := 0 } : Room) (Q5 Z a w hI n0) s₁ (entryFrame m #[(.ref a)] 1)
  rw [← hF]
  rw [ef_5]
  show F s₁ (mkF m 0 #[.val (.ref a)] [])
  refine hst (fun t k => XS.aloadN XI.here hx rfl (hb hby d5_0) rfl rfl k) ?_
  show F s₁ (mkF m 1 #[.val (.ref a)] [(.ref a)])
  obtain ⟨T1, X1, e1, st1⟩ := getF XI hx hZ hown (host := "") (Or.inl (hw _ (List.mem_of_getElem? (i := 18) rfl))) Via.refl eI Ff (g := (mkF m 1 #[.val (.ref a)] [(.ref a)])) rfl rfl (hb hby d5_1)
  refine hst st1 ?_
  show F T1 (mkF m 4 #[.val (.ref a)] [(.long w)])
  rw [hF]
  refine own_retJ X1 hx hret hlk (hb hby d5_4) (by decide) (by decide) ?_
  rw [e1]
  exact ⟨rfl, NI, rfl⟩
theorem d6_0 : decode prog_20_method_8_code 0 = .ok (.aload_n 0, 1) := by decide +kernel
theorem d6_1 : decode prog_20_method_8_code 1 = .ok (.getfield 15, 3) := by decide +kernel
theorem d6_4 : decode prog_20_method_8_code 4 = .ok (.lreturn, 1) := by decide +kernel
theorem pn_6 : plainFor (⟨"com/example/horarium/horarium/solve/FeasibilitySearch$Budget", "patience", "()J"⟩ : MethodName) = true := plainFor_of_name (by first | (simp [plainName, overriddenIn]; done) | decide +kernel)
theorem ef_6 (m : MethodId) (a : Addr) : entryFrame m #[(.ref a)] 1 = mkF m 0 #[.val (.ref a)] [] := by first | (simp [entryFrame, mkF, argsToLocals, Value.category]; done) | rfl
def Q6 (Z : State) (a : Addr) (w : Int64) (hI : Heap) (n0 : Nat) (v : Option Value) (h : Heap) (L : List Loc) : Prop := v = some (.long w) ∧ Fr n0 L ∧ h = hI
set_option maxRecDepth 65536 in
set_option maxHeartbeats 40000000 in
theorem rm6 (l : Launch) (Z : State) (a0 : Array Value) (hw : ∀ d ∈ tables_1, d.before a0 Z = true) (ws : List Jvm.Cond) (a : Addr) (w : Int64) (hI : Heap) (n0 : Nat) (Z0 : n0 ≤ hI.size) (Ff : Fld Z hI a "com/example/horarium/horarium/solve/FeasibilitySearch$Budget" "patience" "J" (.long w)) :
    MetFree l (⟨"com/example/horarium/horarium/solve/FeasibilitySearch$Budget", "patience", "()J"⟩ : MethodName) (head1 (Jvm.Cond.code (⟨"com/example/horarium/horarium/solve/FeasibilitySearch$Budget", "patience", "()J"⟩ : MethodName) prog_20_method_8_code 1 (some .long) :: ws) ({ frames := 0, cells := 0, slots := 0, locals := 0 } : Room)) (fun xa U => xa = #[(.ref a)] ∧ Z.Warmed39 U.vm ∧ U.heap = hI) (fun _ _ _ _ _ => True) (fun _ U o U' => ∃ v L, o = .returned v ∧ Q6 Z a w hI n0 v U'.heap L ∧ FrameEnd U o U' L ({ frames := 0, cells := 0, slots := 0, locals := 0 } : Room).cells ({ frames := 0, cells := 0, slots := 0, locals := 0 } : Room).slots) := by
  refine own_body pn_6 ?_
  intro p e s m below meth c s₁ hx hby hml hown hnm hret hlk hZ XI eI
  obtain ⟨F, hF⟩ : ∃ F : State → JFrame → Prop, F = own_Fin p.tables e below s ({ frames := 0, cells := 0, slots := 0, locals := 0 } : Room) (Q6 Z a w hI n0) := ⟨_, rfl⟩
  have hst : ∀ {T T' : State} {g g' : JFrame}, (∀ t, Steps p.tables e below (T'.setTop g') t → Steps p.tables e below (T.setTop g) t) → F T' g' → F T g := by subst hF; exact own_st
  have NI := Fr.nil n0
  show own_Fin p.tables e below s ({ frames := 0, cells := 0, slots := 0, locals := 0 } : Room) (Q6 Z a w hI n0) s₁ (entryFrame m #[(.ref a)] 1)
  rw [← hF]
  rw [ef_6]
  show F s₁ (mkF m 0 #[.val (.ref a)] [])
  refine hst (fun t k => XS.aloadN XI.here hx rfl (hb hby d6_0) rfl rfl k) ?_
  show F s₁ (mkF m 1 #[.val (.ref a)] [(.ref a)])
  obtain ⟨T1, X1, e1, st1⟩ := getF XI hx hZ hown (host := "") (Or.inl (hw _ (List.mem_of_getElem? (i := 20) rfl))) Via.refl eI Ff (g := (mkF m 1 #[.val (.ref a)] [(.ref a)])) rfl rfl (hb hby d6_1)
  refine hst st1 ?_
  show F T1 (mkF m 4 #[.val (.ref a)] [(.long w)])
  rw [hF]
  refine own_retJ X1 hx hret hlk (hb hby d6_4) (by decide) (by decide) ?_
  rw [e1]
  exact ⟨rfl, NI, rfl⟩
theorem d7_0 : decode prog_20_method_9_code 0 = .ok (.aload_n 0, 1) := by decide +kernel
theorem d7_1 : decode prog_20_method_9_code 1 = .ok (.getfield 18, 3) := by decide +kernel
theorem d7_4 : decode prog_20_method_9_code 4 = .ok (.lreturn, 1) := by decide +kernel
theorem pn_7 : plainFor (⟨"com/example/horarium/horarium/solve/FeasibilitySearch$Budget", "maxSteps", "()J"⟩ : MethodName) = true := plainFor_of_name (by first | (simp [plainName, overriddenIn]; done) | decide +kernel)
theorem ef_7 (m : MethodId) (a : Addr) : entryFrame m #[(.ref a)] 1 = mkF m 0 #[.val (.ref a)] [] := by first | (simp [entryFrame, mkF, argsToLocals, Value.category]; done) | rfl
def Q7 (Z : State) (a : Addr) (w : Int64) (hI : Heap) (n0 : Nat) (v : Option Value) (h : Heap) (L : List Loc) : Prop := v = some (.long w) ∧ Fr n0 L ∧ h = hI
set_option maxRecDepth 65536 in
set_option maxHeartbeats 40000000 in
theorem rm7 (l : Launch) (Z : State) (a0 : Array Value) (hw : ∀ d ∈ tables_1, d.before a0 Z = true) (ws : List Jvm.Cond) (a : Addr) (w : Int64) (hI : Heap) (n0 : Nat) (Z0 : n0 ≤ hI.size) (Ff : Fld Z hI a "com/example/horarium/horarium/solve/FeasibilitySearch$Budget" "maxSteps" "J" (.long w)) :
    MetFree l (⟨"com/example/horarium/horarium/solve/FeasibilitySearch$Budget", "maxSteps", "()J"⟩ : MethodName) (head1 (Jvm.Cond.code (⟨"com/example/horarium/horarium/solve/FeasibilitySearch$Budget", "maxSteps", "()J"⟩ : MethodName) prog_20_method_9_code 1 (some .long) :: ws) ({ frames := 0, cells := 0, slots := 0, locals := 0 } : Room)) (fun xa U => xa = #[(.ref a)] ∧ Z.Warmed39 U.vm ∧ U.heap = hI) (fun _ _ _ _ _ => True) (fun _ U o U' => ∃ v L, o = .returned v ∧ Q7 Z a w hI n0 v U'.heap L ∧ FrameEnd U o U' L ({ frames := 0, cells := 0, slots := 0, locals := 0 } : Room).cells ({ frames := 0, cells := 0, slots := 0, locals := 0 } : Room).slots) := by
  refine own_body pn_7 ?_
  intro p e s m below meth c s₁ hx hby hml hown hnm hret hlk hZ XI eI
  obtain ⟨F, hF⟩ : ∃ F : State → JFrame → Prop, F = own_Fin p.tables e below s ({ frames := 0, cells := 0, slots := 0, locals := 0 } : Room) (Q7 Z a w hI n0) := ⟨_, rfl⟩
  have hst : ∀ {T T' : State} {g g' : JFrame}, (∀ t, Steps p.tables e below (T'.setTop g') t → Steps p.tables e below (T.setTop g) t) → F T' g' → F T g := by subst hF; exact own_st
  have NI := Fr.nil n0
  show own_Fin p.tables e below s ({ frames := 0, cells := 0, slots := 0, locals := 0 } : Room) (Q7 Z a w hI n0) s₁ (entryFrame m #[(.ref a)] 1)
  rw [← hF]
  rw [ef_7]
  show F s₁ (mkF m 0 #[.val (.ref a)] [])
  refine hst (fun t k => XS.aloadN XI.here hx rfl (hb hby d7_0) rfl rfl k) ?_
  show F s₁ (mkF m 1 #[.val (.ref a)] [(.ref a)])
  obtain ⟨T1, X1, e1, st1⟩ := getF XI hx hZ hown (host := "") (Or.inl (hw _ (List.mem_of_getElem? (i := 22) rfl))) Via.refl eI Ff (g := (mkF m 1 #[.val (.ref a)] [(.ref a)])) rfl rfl (hb hby d7_1)
  refine hst st1 ?_
  show F T1 (mkF m 4 #[.val (.ref a)] [(.long w)])
  rw [hF]
  refine own_retJ X1 hx hret hlk (hb hby d7_4) (by decide) (by decide) ?_
  rw [e1]
  exact ⟨rfl, NI, rfl⟩
theorem pn_0 : plainFor x = true := plainFor_of_name (by first | (simp [plainName, overriddenIn]; done) | decide +kernel)
theorem pd_2 : parseMethodDescriptor "(J)Lcom/example/horarium/horarium/solve/FeasibilitySearch$Budget;" = some ⟨[.long], some (.object "com/example/horarium/horarium/solve/FeasibilitySearch$Budget")⟩ := by decide +kernel
theorem pd_0 : parseMethodDescriptor "()J" = some ⟨[], some .long⟩ := by decide +kernel
theorem ef_0 (m : MethodId) (q1 : Int64) (q2 : Int64) (q3 : Int64) : entryFrame m #[(.long q1), (.long q2), (.long q3)] maxLocals = mkF m 0 #[.val (.long q1), .second, .val (.long q2), .second, .val (.long q3), .second, .unset, .unset, .unset, .unset, .unset, .unset, .unset] [] := by first | (simp [entryFrame, mkF, argsToLocals, Value.category, maxLocals]; done) | rfl
def Q0 (Z : State) (q1 : Int64) (q2 : Int64) (q3 : Int64) (hI : Heap) (n0 : Nat) (v : Option Value) (h : Heap) (L : List Loc) : Prop := v = some (.int 1) ∧ Fr n0 L
set_option maxRecDepth 65536 in
set_option maxHeartbeats 40000000 in
theorem rm0 (l : Launch) (Z : State) (a0 : Array Value) (hw : ∀ d ∈ tables_1, d.before a0 Z = true) (ws : List Jvm.Cond) (q1 : Int64) (q2 : Int64) (q3 : Int64) (hI : Heap) (n0 : Nat) (Z0 : n0 ≤ hI.size) :
    MetFree l x (head1 (Jvm.Cond.code x code maxLocals ret :: ws) room_1) (fun xa U => xa = #[(.long q1), (.long q2), (.long q3)] ∧ Z.Warmed39 U.vm ∧ U.heap = hI) (fun _ _ _ _ _ => True) (fun _ U o U' => ∃ v L, o = .returned v ∧ Q0 Z q1 q2 q3 hI n0 v U'.heap L ∧ FrameEnd U o U' L room_1.cells room_1.slots) := by
  refine own_body pn_0 ?_
  intro p e s m below meth c s₁ hx hby hml hown hnm hret hlk hZ XI eI
  have hml : c.maxLocals = 13 := hml
  obtain ⟨F, hF⟩ : ∃ F : State → JFrame → Prop, F = own_Fin p.tables e below s room_1 (Q0 Z q1 q2 q3 hI n0) := ⟨_, rfl⟩
  have hst : ∀ {T T' : State} {g g' : JFrame}, (∀ t, Steps p.tables e below (T'.setTop g') t → Steps p.tables e below (T.setTop g) t) → F T' g' → F T g := by subst hF; exact own_st
  have NI := Fr.nil n0
  show own_Fin p.tables e below s room_1 (Q0 Z q1 q2 q3 hI n0) s₁ (entryFrame m #[(.long q1), (.long q2), (.long q3)] maxLocals)
  rw [← hF]
  rw [ef_0]
  show F s₁ (mkF m 0 #[.val (.long q1), .second, .val (.long q2), .second, .val (.long q3), .second, .unset, .unset, .unset, .unset, .unset, .unset, .unset] [])
  refine hst (fun t k => XS.lloadN XI.here hx rfl (hb hby at_0) rfl k) ?_
  show F s₁ (mkF m 1 #[.val (.long q1), .second, .val (.long q2), .second, .val (.long q3), .second, .unset, .unset, .unset, .unset, .unset, .unset, .unset] [(.long q1)])
  obtain ⟨v1, T1, Lc1, X1, hQ1, st1⟩ := own_callS XI hx hZ hown (y := (⟨"com/example/horarium/horarium/solve/FeasibilitySearch$Budget", "untilPlaced", "(J)Lcom/example/horarium/horarium/solve/FeasibilitySearch$Budget;"⟩ : MethodName)) (hw _ (List.mem_of_getElem? (i := 0) rfl)) (hw _ (List.mem_of_getElem? (i := 1) rfl)) (hw _ (List.mem_of_getElem? (i := 2) rfl)) (hw _ (List.mem_of_getElem? (i := 3) rfl)) (by decide) eI (rm1 l Z a0 hw [] q1 hI n0 Z0 ) (by decide) (by decide) (g := (mkF m 1 #[.val (.long q1), .second, .val (.long q2), .second, .val (.long q3), .second, .unset, .unset, .unset, .unset, .unset, .unset, .unset] [(.long q1)])) rfl (by rw [hml]; rfl) (argsL := [(.long q1)]) (rest := []) (lenOf pd_2 rfl) rfl rfl (W := 0) (by show 2 * 0 + _ ≤ _; exact Nat.le_of_eq rfl) (hb hby at_1) (by decide) (by decide)
  obtain ⟨b1, rfl, Nq1, K1, q1_1, q2_1, q3_1, q4_1⟩ := hQ1
  have N1 := Fr.app NI Nq1
  have Z0_p1 : n0 ≤ T1.heap.size := Nat.le_trans Z0 K1.1
  refine hst st1 ?_
  show F T1 (mkF m 4 #[.val (.long q1), .second, .val (.long q2), .second, .val (.long q3), .second, .unset, .unset, .unset, .unset, .unset, .unset, .unset] [(.ref b1)])
  refine hst (fun t k => XS.astore X1.here hx rfl (hb hby at_4) rfl rfl (l' := #[.val (.long q1), .second, .val (.long q2), .second, .val (.long q3), .second, .val (.ref b1), .unset, .unset, .unset, .unset, .unset, .unset]) rfl k) ?_
  show F T1 (mkF m 6 #[.val (.long q1), .second, .val (.long q2), .second, .val (.long q3), .second, .val (.ref b1), .unset, .unset, .unset, .unset, .unset, .unset] [])
  refine hst (fun t k => XS.aload X1.here hx rfl (hb hby at_6) rfl rfl k) ?_
  show F T1 (mkF m 8 #[.val (.long q1), .second, .val (.long q2), .second, .val (.long q3), .second, .val (.ref b1), .unset, .unset, .unset, .unset, .unset, .unset] [(.ref b1)])
  obtain ⟨v8, T8, Lc8, X8, hQ8, st8⟩ := own_callV X1 hx hZ hown (y := (⟨"com/example/horarium/horarium/solve/FeasibilitySearch$Budget", "deadline", "()J"⟩ : MethodName)) (hw _ (List.mem_of_getElem? (i := 24) rfl)) (hw _ (List.mem_of_getElem? (i := 25) rfl)) (hw _ (List.mem_of_getElem? (i := 27) rfl)) (hw _ (List.mem_of_getElem? (i := 26) rfl)) (hw _ (List.mem_of_getElem? (i := 2) rfl)) (hw _ (List.mem_of_getElem? (i := 28) rfl)) (by decide) rfl q1_1 (rm5 l Z a0 hw [] b1 q1 T1.heap n0 Z0_p1 q2_1) (by decide) (by decide) (g := (mkF m 8 #[.val (.long q1), .second, .val (.long q2), .second, .val (.long q3), .second, .val (.ref b1), .unset, .unset, .unset, .unset, .unset, .unset] [(.ref b1)])) rfl (by rw [hml]; rfl) (argsL := []) (rest := []) (lenOf pd_0 rfl) rfl rfl (W := 0) (by show 2 * 0 + _ ≤ _; exact Nat.le_of_eq rfl) (hb hby at_8) (by decide) (by decide)
  obtain ⟨rfl, Nq8, he8⟩ := hQ8
  have N8 := Fr.app N1 Nq8
  refine hst st8 ?_
  show F T8 (mkF m 11 #[.val (.long q1), .second, .val (.long q2), .second, .val (.long q3), .second, .val (.ref b1), .unset, .unset, .unset, .unset, .unset, .unset] [(.long q1)])
  refine hst (fun t k => XS.lloadN X8.here hx rfl (hb hby at_11) rfl k) ?_
  show F T8 (mkF m 12 #[.val (.long q1), .second, .val (.long q2), .second, .val (.long q3), .second, .val (.ref b1), .unset, .unset, .unset, .unset, .unset, .unset] [(.long q1), (.long q1)])
  refine hst (fun t k => XS.lcmp X8.here hx rfl (hb hby at_12) rfl k) ?_
  show F T8 (mkF m 13 #[.val (.long q1), .second, .val (.long q2), .second, .val (.long q3), .second, .val (.ref b1), .unset, .unset, .unset, .unset, .unset, .unset] [(.int (lcmpW q1 q1))])
  refine hst (fun t k => XS.ifYes X8.here hx rfl (pc0 := 13) (pc' := 18) rfl (hb hby at_13) rfl ((if0 _ _).trans (teq ((lw_eq _ _).mpr rfl)).1) (by decide) (by decide) k) ?_
  show F T8 (mkF m 18 #[.val (.long q1), .second, .val (.long q2), .second, .val (.long q3), .second, .val (.ref b1), .unset, .unset, .unset, .unset, .unset, .unset] [])
  refine hst (fun t k => XS.aload X8.here hx rfl (hb hby at_18) rfl rfl k) ?_
  show F T8 (mkF m 20 #[.val (.long q1), .second, .val (.long q2), .second, .val (.long q3), .second, .val (.ref b1), .unset, .unset, .unset, .unset, .unset, .unset] [(.ref b1)])
  obtain ⟨v20, T20, Lc20, X20, hQ20, st20⟩ := own_callV X8 hx hZ hown (y := (⟨"com/example/horarium/horarium/solve/FeasibilitySearch$Budget", "patience", "()J"⟩ : MethodName)) (hw _ (List.mem_of_getElem? (i := 29) rfl)) (hw _ (List.mem_of_getElem? (i := 30) rfl)) (hw _ (List.mem_of_getElem? (i := 32) rfl)) (hw _ (List.mem_of_getElem? (i := 31) rfl)) (hw _ (List.mem_of_getElem? (i := 2) rfl)) (hw _ (List.mem_of_getElem? (i := 33) rfl)) (by decide) he8 q1_1 (rm6 l Z a0 hw [] b1 (9223372036854775807 : Int64) T1.heap n0 Z0_p1 q3_1) (by decide) (by decide) (g := (mkF m 20 #[.val (.long q1), .second, .val (.long q2), .second, .val (.long q3), .second, .val (.ref b1), .unset, .unset, .unset, .unset, .unset, .unset] [(.ref b1)])) rfl (by rw [hml]; rfl) (argsL := []) (rest := []) (lenOf pd_0 rfl) rfl rfl (W := 0) (by show 2 * 0 + _ ≤ _; exact Nat.le_of_eq rfl) (hb hby at_20) (by decide) (by decide)
  obtain ⟨rfl, Nq20, he20⟩ := hQ20
  have N20 := Fr.app N8 Nq20
  refine hst st20 ?_
  show F T20 (mkF m 23 #[.val (.long q1), .second, .val (.long q2), .second, .val (.long q3), .second, .val (.ref b1), .unset, .unset, .unset, .unset, .unset, .unset] [(.long (9223372036854775807 : Int64))])
  refine hst (fun t k => X20.ldc2J hx hown (mvT hZ (hw _ (List.mem_of_getElem? (i := 34) rfl))) (g := (mkF m 23 #[.val (.long q1), .second, .val (.long q2), .second, .val (.long q3), .second, .val (.ref b1), .unset, .unset, .unset, .unset, .unset, .unset] [(.long (9223372036854775807 : Int64))])) rfl (hb hby at_23) k) ?_
  show F T20 (mkF m 26 #[.val (.long q1), .second, .val (.long q2), .second, .val (.long q3), .second, .val (.ref b1), .unset, .unset, .unset, .unset, .unset, .unset] [(.long (9223372036854775807 : Int64)), (.long (9223372036854775807 : Int64))])
  refine hst (fun t k => XS.lcmp X20.here hx rfl (hb hby at_26) rfl k) ?_
  show F T20 (mkF m 27 #[.val (.long q1), .second, .val (.long q2), .second, .val (.long q3), .second, .val (.ref b1), .unset, .unset, .unset, .unset, .unset, .unset] [(.int (lcmpW (9223372036854775807 : Int64) (9223372036854775807 : Int64)))])
  refine hst (fun t k => XS.ifYes X20.here hx rfl (pc0 := 27) (pc' := 32) rfl (hb hby at_27) rfl ((if0 _ _).trans (teq ((lw_eq _ _).mpr rfl)).1) (by decide) (by decide) k) ?_
  show F T20 (mkF m 32 #[.val (.long q1), .second, .val (.long q2), .second, .val (.long q3), .second, .val (.ref b1), .unset, .unset, .unset, .unset, .unset, .unset] [])
  refine hst (fun t k => XS.aload X20.here hx rfl (hb hby at_32) rfl rfl k) ?_
  show F T20 (mkF m 34 #[.val (.long q1), .second, .val (.long q2), .second, .val (.long q3), .second, .val (.ref b1), .unset, .unset, .unset, .unset, .unset, .unset] [(.ref b1)])
  obtain ⟨v34, T34, Lc34, X34, hQ34, st34⟩ := own_callV X20 hx hZ hown (y := (⟨"com/example/horarium/horarium/solve/FeasibilitySearch$Budget", "maxSteps", "()J"⟩ : MethodName)) (hw _ (List.mem_of_getElem? (i := 35) rfl)) (hw _ (List.mem_of_getElem? (i := 36) rfl)) (hw _ (List.mem_of_getElem? (i := 38) rfl)) (hw _ (List.mem_of_getElem? (i := 37) rfl)) (hw _ (List.mem_of_getElem? (i := 2) rfl)) (hw _ (List.mem_of_getElem? (i := 39) rfl)) (by decide) he20 q1_1 (rm7 l Z a0 hw [] b1 (9223372036854775807 : Int64) T1.heap n0 Z0_p1 q4_1) (by decide) (by decide) (g := (mkF m 34 #[.val (.long q1), .second, .val (.long q2), .second, .val (.long q3), .second, .val (.ref b1), .unset, .unset, .unset, .unset, .unset, .unset] [(.ref b1)])) rfl (by rw [hml]; rfl) (argsL := []) (rest := []) (lenOf pd_0 rfl) rfl rfl (W := 0) (by show 2 * 0 + _ ≤ _; exact Nat.le_of_eq rfl) (hb hby at_34) (by decide) (by decide)
  obtain ⟨rfl, Nq34, he34⟩ := hQ34
  have N34 := Fr.app N20 Nq34
  refine hst st34 ?_
  show F T34 (mkF m 37 #[.val (.long q1), .second, .val (.long q2), .second, .val (.long q3), .second, .val (.ref b1), .unset, .unset, .unset, .unset, .unset, .unset] [(.long (9223372036854775807 : Int64))])
  refine hst (fun t k => X34.ldc2J hx hown (mvT hZ (hw _ (List.mem_of_getElem? (i := 34) rfl))) (g := (mkF m 37 #[.val (.long q1), .second, .val (.long q2), .second, .val (.long q3), .second, .val (.ref b1), .unset, .unset, .unset, .unset, .unset, .unset] [(.long (9223372036854775807 : Int64))])) rfl (hb hby at_37) k) ?_
  show F T34 (mkF m 40 #[.val (.long q1), .second, .val (.long q2), .second, .val (.long q3), .second, .val (.ref b1), .unset, .unset, .unset, .unset, .unset, .unset] [(.long (9223372036854775807 : Int64)), (.long (9223372036854775807 : Int64))])
  refine hst (fun t k => XS.lcmp X34.here hx rfl (hb hby at_40) rfl k) ?_
  show F T34 (mkF m 41 #[.val (.long q1), .second, .val (.long q2), .second, .val (.long q3), .second, .val (.ref b1), .unset, .unset, .unset, .unset, .unset, .unset] [(.int (lcmpW (9223372036854775807 : Int64) (9223372036854775807 : Int64)))])
  refine hst (fun t k => XS.ifYes X34.here hx rfl (pc0 := 41) (pc' := 46) rfl (hb hby at_41) rfl ((if0 _ _).trans (teq ((lw_eq _ _).mpr rfl)).1) (by decide) (by decide) k) ?_
  show F T34 (mkF m 46 #[.val (.long q1), .second, .val (.long q2), .second, .val (.long q3), .second, .val (.ref b1), .unset, .unset, .unset, .unset, .unset, .unset] [])
  refine hst (fun t k => XS.lloadN X34.here hx rfl (hb hby at_46) rfl k) ?_
  show F T34 (mkF m 47 #[.val (.long q1), .second, .val (.long q2), .second, .val (.long q3), .second, .val (.ref b1), .unset, .unset, .unset, .unset, .unset, .unset] [(.long q2)])
  refine hst (fun t k => X34.ldc2J hx hown (mvT hZ (hw _ (List.mem_of_getElem? (i := 34) rfl))) (g := (mkF m 47 #[.val (.long q1), .second, .val (.long q2), .second, .val (.long q3), .second, .val (.ref b1), .unset, .unset, .unset, .unset, .unset, .unset] [(.long q2)])) rfl (hb hby at_47) k) ?_
  show F T34 (mkF m 50 #[.val (.long q1), .second, .val (.long q2), .second, .val (.long q3), .second, .val (.ref b1), .unset, .unset, .unset, .unset, .unset, .unset] [(.long (9223372036854775807 : Int64)), (.long q2)])
  refine hst (fun t k => XS.land X34.here hx rfl (hb hby at_50) rfl k) ?_
  show F T34 (mkF m 51 #[.val (.long q1), .second, .val (.long q2), .second, .val (.long q3), .second, .val (.ref b1), .unset, .unset, .unset, .unset, .unset, .unset] [(.long (q2 &&& (9223372036854775807 : Int64)))])
  generalize hsv : (q2 &&& (9223372036854775807 : Int64)) = sv
  show F T34 (mkF m 51 #[.val (.long q1), .second, .val (.long q2), .second, .val (.long q3), .second, .val (.ref b1), .unset, .unset, .unset, .unset, .unset, .unset] [(.long sv)])
  refine hst (fun t k => XS.lstore X34.here hx rfl (hb hby at_51) rfl (l' := #[.val (.long q1), .second, .val (.long q2), .second, .val (.long q3), .second, .val (.ref b1), .val (.long sv), .second, .unset, .unset, .unset, .unset]) rfl k) ?_
  show F T34 (mkF m 53 #[.val (.long q1), .second, .val (.long q2), .second, .val (.long q3), .second, .val (.ref b1), .val (.long sv), .second, .unset, .unset, .unset, .unset] [])
  refine hst (fun t k => XS.lload X34.here hx rfl (hb hby at_53) rfl k) ?_
  show F T34 (mkF m 55 #[.val (.long q1), .second, .val (.long q2), .second, .val (.long q3), .second, .val (.ref b1), .val (.long sv), .second, .unset, .unset, .unset, .unset] [(.long sv)])
  refine hst (fun t k => X34.ldc2J hx hown (mvT hZ (hw _ (List.mem_of_getElem? (i := 34) rfl))) (g := (mkF m 55 #[.val (.long q1), .second, .val (.long q2), .second, .val (.long q3), .second, .val (.ref b1), .val (.long sv), .second, .unset, .unset, .unset, .unset] [(.long sv)])) rfl (hb hby at_55) k) ?_
  show F T34 (mkF m 58 #[.val (.long q1), .second, .val (.long q2), .second, .val (.long q3), .second, .val (.ref b1), .val (.long sv), .second, .unset, .unset, .unset, .unset] [(.long (9223372036854775807 : Int64)), (.long sv)])
  refine hst (fun t k => XS.lcmp X34.here hx rfl (hb hby at_58) rfl k) ?_
  show F T34 (mkF m 59 #[.val (.long q1), .second, .val (.long q2), .second, .val (.long q3), .second, .val (.ref b1), .val (.long sv), .second, .unset, .unset, .unset, .unset] [(.int (lcmpW sv (9223372036854775807 : Int64)))])
  by_cases hc59 : sv = (9223372036854775807 : Int64)
  · -- pc 59: not taken
    refine hst (fun t k => XS.ifNo X34.here hx rfl (hb hby at_59) rfl ((if0 _ _).trans (teq ((lw_eq _ _).mpr hc59)).2) k) ?_
    show F T34 (mkF m 62 #[.val (.long q1), .second, .val (.long q2), .second, .val (.long q3), .second, .val (.ref b1), .val (.long sv), .second, .unset, .unset, .unset, .unset] [])
    refine hst (fun t k => X34.ldc2J hx hown (mvT hZ (hw _ (List.mem_of_getElem? (i := 40) rfl))) (g := (mkF m 62 #[.val (.long q1), .second, .val (.long q2), .second, .val (.long q3), .second, .val (.ref b1), .val (.long sv), .second, .unset, .unset, .unset, .unset] [])) rfl (hb hby at_62) k) ?_
    show F T34 (mkF m 65 #[.val (.long q1), .second, .val (.long q2), .second, .val (.long q3), .second, .val (.ref b1), .val (.long sv), .second, .unset, .unset, .unset, .unset] [(.long (9223372036854775806 : Int64))])
    refine hst (fun t k => XS.lstore X34.here hx rfl (hb hby at_65) rfl (l' := #[.val (.long q1), .second, .val (.long q2), .second, .val (.long q3), .second, .val (.ref b1), .val (.long (9223372036854775806 : Int64)), .second, .unset, .unset, .unset, .unset]) rfl k) ?_
    show F T34 (mkF m 67 #[.val (.long q1), .second, .val (.long q2), .second, .val (.long q3), .second, .val (.ref b1), .val (.long (9223372036854775806 : Int64)), .second, .unset, .unset, .unset, .unset] [])
    refine hst (fun t k => XS.lload X34.here hx rfl (hb hby at_67) rfl k) ?_
    show F T34 (mkF m 69 #[.val (.long q1), .second, .val (.long q2), .second, .val (.long q3), .second, .val (.ref b1), .val (.long (9223372036854775806 : Int64)), .second, .unset, .unset, .unset, .unset] [(.long q3)])
    refine hst (fun t k => X34.ldc2J hx hown (mvT hZ (hw _ (List.mem_of_getElem? (i := 34) rfl))) (g := (mkF m 69 #[.val (.long q1), .second, .val (.long q2), .second, .val (.long q3), .second, .val (.ref b1), .val (.long (9223372036854775806 : Int64)), .second, .unset, .unset, .unset, .unset] [(.long q3)])) rfl (hb hby at_69) k) ?_
    show F T34 (mkF m 72 #[.val (.long q1), .second, .val (.long q2), .second, .val (.long q3), .second, .val (.ref b1), .val (.long (9223372036854775806 : Int64)), .second, .unset, .unset, .unset, .unset] [(.long (9223372036854775807 : Int64)), (.long q3)])
    refine hst (fun t k => XS.land X34.here hx rfl (hb hby at_72) rfl k) ?_
    show F T34 (mkF m 73 #[.val (.long q1), .second, .val (.long q2), .second, .val (.long q3), .second, .val (.ref b1), .val (.long (9223372036854775806 : Int64)), .second, .unset, .unset, .unset, .unset] [(.long (q3 &&& (9223372036854775807 : Int64)))])
    generalize hdv : (q3 &&& (9223372036854775807 : Int64)) = dv
    show F T34 (mkF m 73 #[.val (.long q1), .second, .val (.long q2), .second, .val (.long q3), .second, .val (.ref b1), .val (.long (9223372036854775806 : Int64)), .second, .unset, .unset, .unset, .unset] [(.long dv)])
    refine hst (fun t k => XS.lstore X34.here hx rfl (hb hby at_73) rfl (l' := #[.val (.long q1), .second, .val (.long q2), .second, .val (.long q3), .second, .val (.ref b1), .val (.long (9223372036854775806 : Int64)), .second, .val (.long dv), .second, .unset, .unset]) rfl k) ?_
    show F T34 (mkF m 75 #[.val (.long q1), .second, .val (.long q2), .second, .val (.long q3), .second, .val (.ref b1), .val (.long (9223372036854775806 : Int64)), .second, .val (.long dv), .second, .unset, .unset] [])
    refine hst (fun t k => XS.lload X34.here hx rfl (hb hby at_75) rfl k) ?_
    show F T34 (mkF m 77 #[.val (.long q1), .second, .val (.long q2), .second, .val (.long q3), .second, .val (.ref b1), .val (.long (9223372036854775806 : Int64)), .second, .val (.long dv), .second, .unset, .unset] [(.long dv)])
    refine hst (fun t k => XS.lload X34.here hx rfl (hb hby at_77) rfl k) ?_
    show F T34 (mkF m 79 #[.val (.long q1), .second, .val (.long q2), .second, .val (.long q3), .second, .val (.ref b1), .val (.long (9223372036854775806 : Int64)), .second, .val (.long dv), .second, .unset, .unset] [(.long (9223372036854775806 : Int64)), (.long dv)])
    refine hst (fun t k => XS.lcmp X34.here hx rfl (hb hby at_79) rfl k) ?_
    show F T34 (mkF m 80 #[.val (.long q1), .second, .val (.long q2), .second, .val (.long q3), .second, .val (.ref b1), .val (.long (9223372036854775806 : Int64)), .second, .val (.long dv), .second, .unset, .unset] [(.int (lcmpW dv (9223372036854775806 : Int64)))])
    by_cases hc80 : (9223372036854775806 : Int64) < dv
    · -- pc 80: not taken
      refine hst (fun t k => XS.ifNo X34.here hx rfl (hb hby at_80) rfl ((if0 _ _).trans (tlt ((lw_gt _ _).mpr hc80)).2.2.2) k) ?_
      show F T34 (mkF m 83 #[.val (.long q1), .second, .val (.long q2), .second, .val (.long q3), .second, .val (.ref b1), .val (.long (9223372036854775806 : Int64)), .second, .val (.long dv), .second, .unset, .unset] [])
      refine hst (fun t k => XS.lload X34.here hx rfl (hb hby at_83) rfl k) ?_
      show F T34 (mkF m 85 #[.val (.long q1), .second, .val (.long q2), .second, .val (.long q3), .second, .val (.ref b1), .val (.long (9223372036854775806 : Int64)), .second, .val (.long dv), .second, .unset, .unset] [(.long (9223372036854775806 : Int64))])
      refine hst (fun t k => XS.lstore X34.here hx rfl (hb hby at_85) rfl (l' := #[.val (.long q1), .second, .val (.long q2), .second, .val (.long q3), .second, .val (.ref b1), .val (.long (9223372036854775806 : Int64)), .second, .val (.long (9223372036854775806 : Int64)), .second, .unset, .unset]) rfl k) ?_
      show F T34 (mkF m 87 #[.val (.long q1), .second, .val (.long q2), .second, .val (.long q3), .second, .val (.ref b1), .val (.long (9223372036854775806 : Int64)), .second, .val (.long (9223372036854775806 : Int64)), .second, .unset, .unset] [])
      refine hst (fun t k => XS.lload X34.here hx rfl (hb hby at_87) rfl k) ?_
      show F T34 (mkF m 89 #[.val (.long q1), .second, .val (.long q2), .second, .val (.long q3), .second, .val (.ref b1), .val (.long (9223372036854775806 : Int64)), .second, .val (.long (9223372036854775806 : Int64)), .second, .unset, .unset] [(.long (9223372036854775806 : Int64))])
      refine hst (fun t k => XS.lload X34.here hx rfl (hb hby at_89) rfl k) ?_
      show F T34 (mkF m 91 #[.val (.long q1), .second, .val (.long q2), .second, .val (.long q3), .second, .val (.ref b1), .val (.long (9223372036854775806 : Int64)), .second, .val (.long (9223372036854775806 : Int64)), .second, .unset, .unset] [(.long (9223372036854775806 : Int64)), (.long (9223372036854775806 : Int64))])
      refine hst (fun t k => XS.lsub X34.here hx rfl (hb hby at_91) rfl k) ?_
      show F T34 (mkF m 92 #[.val (.long q1), .second, .val (.long q2), .second, .val (.long q3), .second, .val (.ref b1), .val (.long (9223372036854775806 : Int64)), .second, .val (.long (9223372036854775806 : Int64)), .second, .unset, .unset] [(.long ((9223372036854775806 : Int64) - (9223372036854775806 : Int64)))])
      refine hst (fun t k => XS.lstore X34.here hx rfl (hb hby at_92) rfl (l' := #[.val (.long q1), .second, .val (.long q2), .second, .val (.long q3), .second, .val (.ref b1), .val (.long (9223372036854775806 : Int64)), .second, .val (.long (9223372036854775806 : Int64)), .second, .val (.long ((9223372036854775806 : Int64) - (9223372036854775806 : Int64))), .second]) rfl k) ?_
      show F T34 (mkF m 94 #[.val (.long q1), .second, .val (.long q2), .second, .val (.long q3), .second, .val (.ref b1), .val (.long (9223372036854775806 : Int64)), .second, .val (.long (9223372036854775806 : Int64)), .second, .val (.long ((9223372036854775806 : Int64) - (9223372036854775806 : Int64))), .second] [])
      refine hst (fun t k => XS.lload X34.here hx rfl (hb hby at_94) rfl k) ?_
      show F T34 (mkF m 96 #[.val (.long q1), .second, .val (.long q2), .second, .val (.long q3), .second, .val (.ref b1), .val (.long (9223372036854775806 : Int64)), .second, .val (.long (9223372036854775806 : Int64)), .second, .val (.long ((9223372036854775806 : Int64) - (9223372036854775806 : Int64))), .second] [(.long (9223372036854775806 : Int64))])
      refine hst (fun t k => XS.lload X34.here hx rfl (hb hby at_96) rfl k) ?_
      show F T34 (mkF m 98 #[.val (.long q1), .second, .val (.long q2), .second, .val (.long q3), .second, .val (.ref b1), .val (.long (9223372036854775806 : Int64)), .second, .val (.long (9223372036854775806 : Int64)), .second, .val (.long ((9223372036854775806 : Int64) - (9223372036854775806 : Int64))), .second] [(.long ((9223372036854775806 : Int64) - (9223372036854775806 : Int64))), (.long (9223372036854775806 : Int64))])
      refine hst (fun t k => XS.lsub X34.here hx rfl (hb hby at_98) rfl k) ?_
      show F T34 (mkF m 99 #[.val (.long q1), .second, .val (.long q2), .second, .val (.long q3), .second, .val (.ref b1), .val (.long (9223372036854775806 : Int64)), .second, .val (.long (9223372036854775806 : Int64)), .second, .val (.long ((9223372036854775806 : Int64) - (9223372036854775806 : Int64))), .second] [(.long ((9223372036854775806 : Int64) - ((9223372036854775806 : Int64) - (9223372036854775806 : Int64))))])
      refine hst (fun t k => XS.aload X34.here hx rfl (hb hby at_99) rfl rfl k) ?_
      show F T34 (mkF m 101 #[.val (.long q1), .second, .val (.long q2), .second, .val (.long q3), .second, .val (.ref b1), .val (.long (9223372036854775806 : Int64)), .second, .val (.long (9223372036854775806 : Int64)), .second, .val (.long ((9223372036854775806 : Int64) - (9223372036854775806 : Int64))), .second] [(.ref b1), (.long ((9223372036854775806 : Int64) - ((9223372036854775806 : Int64) - (9223372036854775806 : Int64))))])
      obtain ⟨v101, T101, Lc101, X101, hQ101, st101⟩ := own_callV X34 hx hZ hown (y := (⟨"com/example/horarium/horarium/solve/FeasibilitySearch$Budget", "patience", "()J"⟩ : MethodName)) (hw _ (List.mem_of_getElem? (i := 29) rfl)) (hw _ (List.mem_of_getElem? (i := 30) rfl)) (hw _ (List.mem_of_getElem? (i := 32) rfl)) (hw _ (List.mem_of_getElem? (i := 31) rfl)) (hw _ (List.mem_of_getElem? (i := 2) rfl)) (hw _ (List.mem_of_getElem? (i := 33) rfl)) (by decide) he34 q1_1 (rm6 l Z a0 hw [] b1 (9223372036854775807 : Int64) T1.heap n0 Z0_p1 q3_1) (by decide) (by decide) (g := (mkF m 101 #[.val (.long q1), .second, .val (.long q2), .second, .val (.long q3), .second, .val (.ref b1), .val (.long (9223372036854775806 : Int64)), .second, .val (.long (9223372036854775806 : Int64)), .second, .val (.long ((9223372036854775806 : Int64) - (9223372036854775806 : Int64))), .second] [(.ref b1), (.long ((9223372036854775806 : Int64) - ((9223372036854775806 : Int64) - (9223372036854775806 : Int64))))])) rfl (by rw [hml]; rfl) (argsL := []) (rest := [(.long ((9223372036854775806 : Int64) - ((9223372036854775806 : Int64) - (9223372036854775806 : Int64))))]) (lenOf pd_0 rfl) rfl rfl (W := 2) (by show 2 * 0 + _ ≤ _; exact Nat.le_of_eq rfl) (hb hby at_101) (by decide) (by decide)
      obtain ⟨rfl, Nq101, he101⟩ := hQ101
      have N101 := Fr.app N34 Nq101
      refine hst st101 ?_
      show F T101 (mkF m 104 #[.val (.long q1), .second, .val (.long q2), .second, .val (.long q3), .second, .val (.ref b1), .val (.long (9223372036854775806 : Int64)), .second, .val (.long (9223372036854775806 : Int64)), .second, .val (.long ((9223372036854775806 : Int64) - (9223372036854775806 : Int64))), .second] [(.long (9223372036854775807 : Int64)), (.long ((9223372036854775806 : Int64) - ((9223372036854775806 : Int64) - (9223372036854775806 : Int64))))])
      refine hst (fun t k => XS.lcmp X101.here hx rfl (hb hby at_104) rfl k) ?_
      show F T101 (mkF m 105 #[.val (.long q1), .second, .val (.long q2), .second, .val (.long q3), .second, .val (.ref b1), .val (.long (9223372036854775806 : Int64)), .second, .val (.long (9223372036854775806 : Int64)), .second, .val (.long ((9223372036854775806 : Int64) - (9223372036854775806 : Int64))), .second] [(.int (lcmpW ((9223372036854775806 : Int64) - ((9223372036854775806 : Int64) - (9223372036854775806 : Int64))) (9223372036854775807 : Int64)))])
      refine hst (fun t k => XS.ifNo X101.here hx rfl (hb hby at_105) rfl ((if0 _ _).trans (flt (fun q => (own_nomore _) ((lw_gt _ _).mp q))).2.2.1) k) ?_
      show F T101 (mkF m 108 #[.val (.long q1), .second, .val (.long q2), .second, .val (.long q3), .second, .val (.ref b1), .val (.long (9223372036854775806 : Int64)), .second, .val (.long (9223372036854775806 : Int64)), .second, .val (.long ((9223372036854775806 : Int64) - (9223372036854775806 : Int64))), .second] [])
      refine hst (fun t k => XS.lload X101.here hx rfl (hb hby at_108) rfl k) ?_
      show F T101 (mkF m 110 #[.val (.long q1), .second, .val (.long q2), .second, .val (.long q3), .second, .val (.ref b1), .val (.long (9223372036854775806 : Int64)), .second, .val (.long (9223372036854775806 : Int64)), .second, .val (.long ((9223372036854775806 : Int64) - (9223372036854775806 : Int64))), .second] [(.long (9223372036854775806 : Int64))])
      refine hst (fun t k => XS.aload X101.here hx rfl (hb hby at_110) rfl rfl k) ?_
      show F T101 (mkF m 112 #[.val (.long q1), .second, .val (.long q2), .second, .val (.long q3), .second, .val (.ref b1), .val (.long (9223372036854775806 : Int64)), .second, .val (.long (9223372036854775806 : Int64)), .second, .val (.long ((9223372036854775806 : Int64) - (9223372036854775806 : Int64))), .second] [(.ref b1), (.long (9223372036854775806 : Int64))])
      obtain ⟨v112, T112, Lc112, X112, hQ112, st112⟩ := own_callV X101 hx hZ hown (y := (⟨"com/example/horarium/horarium/solve/FeasibilitySearch$Budget", "maxSteps", "()J"⟩ : MethodName)) (hw _ (List.mem_of_getElem? (i := 35) rfl)) (hw _ (List.mem_of_getElem? (i := 36) rfl)) (hw _ (List.mem_of_getElem? (i := 38) rfl)) (hw _ (List.mem_of_getElem? (i := 37) rfl)) (hw _ (List.mem_of_getElem? (i := 2) rfl)) (hw _ (List.mem_of_getElem? (i := 39) rfl)) (by decide) he101 q1_1 (rm7 l Z a0 hw [] b1 (9223372036854775807 : Int64) T1.heap n0 Z0_p1 q4_1) (by decide) (by decide) (g := (mkF m 112 #[.val (.long q1), .second, .val (.long q2), .second, .val (.long q3), .second, .val (.ref b1), .val (.long (9223372036854775806 : Int64)), .second, .val (.long (9223372036854775806 : Int64)), .second, .val (.long ((9223372036854775806 : Int64) - (9223372036854775806 : Int64))), .second] [(.ref b1), (.long (9223372036854775806 : Int64))])) rfl (by rw [hml]; rfl) (argsL := []) (rest := [(.long (9223372036854775806 : Int64))]) (lenOf pd_0 rfl) rfl rfl (W := 2) (by show 2 * 0 + _ ≤ _; exact Nat.le_of_eq rfl) (hb hby at_112) (by decide) (by decide)
      obtain ⟨rfl, Nq112, he112⟩ := hQ112
      have N112 := Fr.app N101 Nq112
      refine hst st112 ?_
      show F T112 (mkF m 115 #[.val (.long q1), .second, .val (.long q2), .second, .val (.long q3), .second, .val (.ref b1), .val (.long (9223372036854775806 : Int64)), .second, .val (.long (9223372036854775806 : Int64)), .second, .val (.long ((9223372036854775806 : Int64) - (9223372036854775806 : Int64))), .second] [(.long (9223372036854775807 : Int64)), (.long (9223372036854775806 : Int64))])
      refine hst (fun t k => XS.lcmp X112.here hx rfl (hb hby at_115) rfl k) ?_
      show F T112 (mkF m 116 #[.val (.long q1), .second, .val (.long q2), .second, .val (.long q3), .second, .val (.ref b1), .val (.long (9223372036854775806 : Int64)), .second, .val (.long (9223372036854775806 : Int64)), .second, .val (.long ((9223372036854775806 : Int64) - (9223372036854775806 : Int64))), .second] [(.int (lcmpW (9223372036854775806 : Int64) (9223372036854775807 : Int64)))])
      refine hst (fun t k => XS.ifNo X112.here hx rfl (hb hby at_116) rfl ((if0 _ _).trans (tlt ((lw_lt _ _).mpr (by first | decide | exact own_ltmax hc59))).2.1) k) ?_
      show F T112 (mkF m 119 #[.val (.long q1), .second, .val (.long q2), .second, .val (.long q3), .second, .val (.ref b1), .val (.long (9223372036854775806 : Int64)), .second, .val (.long (9223372036854775806 : Int64)), .second, .val (.long ((9223372036854775806 : Int64) - (9223372036854775806 : Int64))), .second] [])
      refine hst (fun t k => XS.iconst X112.here hx rfl (hb hby at_119) k) ?_
      show F T112 (mkF m 120 #[.val (.long q1), .second, .val (.long q2), .second, .val (.long q3), .second, .val (.ref b1), .val (.long (9223372036854775806 : Int64)), .second, .val (.long (9223372036854775806 : Int64)), .second, .val (.long ((9223372036854775806 : Int64) - (9223372036854775806 : Int64))), .second] [(.int (1 : Int32))])
      refine hst (fun t k => XS.goto X112.here hx rfl (pc0 := 120) (pc' := 124) rfl (hb hby at_120) (by decide) (by decide) k) ?_
      show F T112 (mkF m 124 #[.val (.long q1), .second, .val (.long q2), .second, .val (.long q3), .second, .val (.ref b1), .val (.long (9223372036854775806 : Int64)), .second, .val (.long (9223372036854775806 : Int64)), .second, .val (.long ((9223372036854775806 : Int64) - (9223372036854775806 : Int64))), .second] [(.int (1 : Int32))])
      rw [hF]
      refine own_retN X112 hx hret (by simp) hlk (hb hby at_124) (by decide) (by decide) ?_
      rw [he112]
      exact ⟨rfl, N112⟩
    · -- pc 80: taken
      refine hst (fun t k => XS.ifYes X34.here hx rfl (pc0 := 80) (pc' := 87) rfl (hb hby at_80) rfl ((if0 _ _).trans (flt (fun q => hc80 ((lw_gt _ _).mp q))).2.2.2) (by decide) (by decide) k) ?_
      show F T34 (mkF m 87 #[.val (.long q1), .second, .val (.long q2), .second, .val (.long q3), .second, .val (.ref b1), .val (.long (9223372036854775806 : Int64)), .second, .val (.long dv), .second, .unset, .unset] [])
      refine hst (fun t k => XS.lload X34.here hx rfl (hb hby at_87) rfl k) ?_
      show F T34 (mkF m 89 #[.val (.long q1), .second, .val (.long q2), .second, .val (.long q3), .second, .val (.ref b1), .val (.long (9223372036854775806 : Int64)), .second, .val (.long dv), .second, .unset, .unset] [(.long (9223372036854775806 : Int64))])
      refine hst (fun t k => XS.lload X34.here hx rfl (hb hby at_89) rfl k) ?_
      show F T34 (mkF m 91 #[.val (.long q1), .second, .val (.long q2), .second, .val (.long q3), .second, .val (.ref b1), .val (.long (9223372036854775806 : Int64)), .second, .val (.long dv), .second, .unset, .unset] [(.long dv), (.long (9223372036854775806 : Int64))])
      refine hst (fun t k => XS.lsub X34.here hx rfl (hb hby at_91) rfl k) ?_
      show F T34 (mkF m 92 #[.val (.long q1), .second, .val (.long q2), .second, .val (.long q3), .second, .val (.ref b1), .val (.long (9223372036854775806 : Int64)), .second, .val (.long dv), .second, .unset, .unset] [(.long ((9223372036854775806 : Int64) - dv))])
      refine hst (fun t k => XS.lstore X34.here hx rfl (hb hby at_92) rfl (l' := #[.val (.long q1), .second, .val (.long q2), .second, .val (.long q3), .second, .val (.ref b1), .val (.long (9223372036854775806 : Int64)), .second, .val (.long dv), .second, .val (.long ((9223372036854775806 : Int64) - dv)), .second]) rfl k) ?_
      show F T34 (mkF m 94 #[.val (.long q1), .second, .val (.long q2), .second, .val (.long q3), .second, .val (.ref b1), .val (.long (9223372036854775806 : Int64)), .second, .val (.long dv), .second, .val (.long ((9223372036854775806 : Int64) - dv)), .second] [])
      refine hst (fun t k => XS.lload X34.here hx rfl (hb hby at_94) rfl k) ?_
      show F T34 (mkF m 96 #[.val (.long q1), .second, .val (.long q2), .second, .val (.long q3), .second, .val (.ref b1), .val (.long (9223372036854775806 : Int64)), .second, .val (.long dv), .second, .val (.long ((9223372036854775806 : Int64) - dv)), .second] [(.long (9223372036854775806 : Int64))])
      refine hst (fun t k => XS.lload X34.here hx rfl (hb hby at_96) rfl k) ?_
      show F T34 (mkF m 98 #[.val (.long q1), .second, .val (.long q2), .second, .val (.long q3), .second, .val (.ref b1), .val (.long (9223372036854775806 : Int64)), .second, .val (.long dv), .second, .val (.long ((9223372036854775806 : Int64) - dv)), .second] [(.long ((9223372036854775806 : Int64) - dv)), (.long (9223372036854775806 : Int64))])
      refine hst (fun t k => XS.lsub X34.here hx rfl (hb hby at_98) rfl k) ?_
      show F T34 (mkF m 99 #[.val (.long q1), .second, .val (.long q2), .second, .val (.long q3), .second, .val (.ref b1), .val (.long (9223372036854775806 : Int64)), .second, .val (.long dv), .second, .val (.long ((9223372036854775806 : Int64) - dv)), .second] [(.long ((9223372036854775806 : Int64) - ((9223372036854775806 : Int64) - dv)))])
      refine hst (fun t k => XS.aload X34.here hx rfl (hb hby at_99) rfl rfl k) ?_
      show F T34 (mkF m 101 #[.val (.long q1), .second, .val (.long q2), .second, .val (.long q3), .second, .val (.ref b1), .val (.long (9223372036854775806 : Int64)), .second, .val (.long dv), .second, .val (.long ((9223372036854775806 : Int64) - dv)), .second] [(.ref b1), (.long ((9223372036854775806 : Int64) - ((9223372036854775806 : Int64) - dv)))])
      obtain ⟨v101, T101, Lc101, X101, hQ101, st101⟩ := own_callV X34 hx hZ hown (y := (⟨"com/example/horarium/horarium/solve/FeasibilitySearch$Budget", "patience", "()J"⟩ : MethodName)) (hw _ (List.mem_of_getElem? (i := 29) rfl)) (hw _ (List.mem_of_getElem? (i := 30) rfl)) (hw _ (List.mem_of_getElem? (i := 32) rfl)) (hw _ (List.mem_of_getElem? (i := 31) rfl)) (hw _ (List.mem_of_getElem? (i := 2) rfl)) (hw _ (List.mem_of_getElem? (i := 33) rfl)) (by decide) he34 q1_1 (rm6 l Z a0 hw [] b1 (9223372036854775807 : Int64) T1.heap n0 Z0_p1 q3_1) (by decide) (by decide) (g := (mkF m 101 #[.val (.long q1), .second, .val (.long q2), .second, .val (.long q3), .second, .val (.ref b1), .val (.long (9223372036854775806 : Int64)), .second, .val (.long dv), .second, .val (.long ((9223372036854775806 : Int64) - dv)), .second] [(.ref b1), (.long ((9223372036854775806 : Int64) - ((9223372036854775806 : Int64) - dv)))])) rfl (by rw [hml]; rfl) (argsL := []) (rest := [(.long ((9223372036854775806 : Int64) - ((9223372036854775806 : Int64) - dv)))]) (lenOf pd_0 rfl) rfl rfl (W := 2) (by show 2 * 0 + _ ≤ _; exact Nat.le_of_eq rfl) (hb hby at_101) (by decide) (by decide)
      obtain ⟨rfl, Nq101, he101⟩ := hQ101
      have N101 := Fr.app N34 Nq101
      refine hst st101 ?_
      show F T101 (mkF m 104 #[.val (.long q1), .second, .val (.long q2), .second, .val (.long q3), .second, .val (.ref b1), .val (.long (9223372036854775806 : Int64)), .second, .val (.long dv), .second, .val (.long ((9223372036854775806 : Int64) - dv)), .second] [(.long (9223372036854775807 : Int64)), (.long ((9223372036854775806 : Int64) - ((9223372036854775806 : Int64) - dv)))])
      refine hst (fun t k => XS.lcmp X101.here hx rfl (hb hby at_104) rfl k) ?_
      show F T101 (mkF m 105 #[.val (.long q1), .second, .val (.long q2), .second, .val (.long q3), .second, .val (.ref b1), .val (.long (9223372036854775806 : Int64)), .second, .val (.long dv), .second, .val (.long ((9223372036854775806 : Int64) - dv)), .second] [(.int (lcmpW ((9223372036854775806 : Int64) - ((9223372036854775806 : Int64) - dv)) (9223372036854775807 : Int64)))])
      refine hst (fun t k => XS.ifNo X101.here hx rfl (hb hby at_105) rfl ((if0 _ _).trans (flt (fun q => (own_nomore _) ((lw_gt _ _).mp q))).2.2.1) k) ?_
      show F T101 (mkF m 108 #[.val (.long q1), .second, .val (.long q2), .second, .val (.long q3), .second, .val (.ref b1), .val (.long (9223372036854775806 : Int64)), .second, .val (.long dv), .second, .val (.long ((9223372036854775806 : Int64) - dv)), .second] [])
      refine hst (fun t k => XS.lload X101.here hx rfl (hb hby at_108) rfl k) ?_
      show F T101 (mkF m 110 #[.val (.long q1), .second, .val (.long q2), .second, .val (.long q3), .second, .val (.ref b1), .val (.long (9223372036854775806 : Int64)), .second, .val (.long dv), .second, .val (.long ((9223372036854775806 : Int64) - dv)), .second] [(.long (9223372036854775806 : Int64))])
      refine hst (fun t k => XS.aload X101.here hx rfl (hb hby at_110) rfl rfl k) ?_
      show F T101 (mkF m 112 #[.val (.long q1), .second, .val (.long q2), .second, .val (.long q3), .second, .val (.ref b1), .val (.long (9223372036854775806 : Int64)), .second, .val (.long dv), .second, .val (.long ((9223372036854775806 : Int64) - dv)), .second] [(.ref b1), (.long (9223372036854775806 : Int64))])
      obtain ⟨v112, T112, Lc112, X112, hQ112, st112⟩ := own_callV X101 hx hZ hown (y := (⟨"com/example/horarium/horarium/solve/FeasibilitySearch$Budget", "maxSteps", "()J"⟩ : MethodName)) (hw _ (List.mem_of_getElem? (i := 35) rfl)) (hw _ (List.mem_of_getElem? (i := 36) rfl)) (hw _ (List.mem_of_getElem? (i := 38) rfl)) (hw _ (List.mem_of_getElem? (i := 37) rfl)) (hw _ (List.mem_of_getElem? (i := 2) rfl)) (hw _ (List.mem_of_getElem? (i := 39) rfl)) (by decide) he101 q1_1 (rm7 l Z a0 hw [] b1 (9223372036854775807 : Int64) T1.heap n0 Z0_p1 q4_1) (by decide) (by decide) (g := (mkF m 112 #[.val (.long q1), .second, .val (.long q2), .second, .val (.long q3), .second, .val (.ref b1), .val (.long (9223372036854775806 : Int64)), .second, .val (.long dv), .second, .val (.long ((9223372036854775806 : Int64) - dv)), .second] [(.ref b1), (.long (9223372036854775806 : Int64))])) rfl (by rw [hml]; rfl) (argsL := []) (rest := [(.long (9223372036854775806 : Int64))]) (lenOf pd_0 rfl) rfl rfl (W := 2) (by show 2 * 0 + _ ≤ _; exact Nat.le_of_eq rfl) (hb hby at_112) (by decide) (by decide)
      obtain ⟨rfl, Nq112, he112⟩ := hQ112
      have N112 := Fr.app N101 Nq112
      refine hst st112 ?_
      show F T112 (mkF m 115 #[.val (.long q1), .second, .val (.long q2), .second, .val (.long q3), .second, .val (.ref b1), .val (.long (9223372036854775806 : Int64)), .second, .val (.long dv), .second, .val (.long ((9223372036854775806 : Int64) - dv)), .second] [(.long (9223372036854775807 : Int64)), (.long (9223372036854775806 : Int64))])
      refine hst (fun t k => XS.lcmp X112.here hx rfl (hb hby at_115) rfl k) ?_
      show F T112 (mkF m 116 #[.val (.long q1), .second, .val (.long q2), .second, .val (.long q3), .second, .val (.ref b1), .val (.long (9223372036854775806 : Int64)), .second, .val (.long dv), .second, .val (.long ((9223372036854775806 : Int64) - dv)), .second] [(.int (lcmpW (9223372036854775806 : Int64) (9223372036854775807 : Int64)))])
      refine hst (fun t k => XS.ifNo X112.here hx rfl (hb hby at_116) rfl ((if0 _ _).trans (tlt ((lw_lt _ _).mpr (by first | decide | exact own_ltmax hc59))).2.1) k) ?_
      show F T112 (mkF m 119 #[.val (.long q1), .second, .val (.long q2), .second, .val (.long q3), .second, .val (.ref b1), .val (.long (9223372036854775806 : Int64)), .second, .val (.long dv), .second, .val (.long ((9223372036854775806 : Int64) - dv)), .second] [])
      refine hst (fun t k => XS.iconst X112.here hx rfl (hb hby at_119) k) ?_
      show F T112 (mkF m 120 #[.val (.long q1), .second, .val (.long q2), .second, .val (.long q3), .second, .val (.ref b1), .val (.long (9223372036854775806 : Int64)), .second, .val (.long dv), .second, .val (.long ((9223372036854775806 : Int64) - dv)), .second] [(.int (1 : Int32))])
      refine hst (fun t k => XS.goto X112.here hx rfl (pc0 := 120) (pc' := 124) rfl (hb hby at_120) (by decide) (by decide) k) ?_
      show F T112 (mkF m 124 #[.val (.long q1), .second, .val (.long q2), .second, .val (.long q3), .second, .val (.ref b1), .val (.long (9223372036854775806 : Int64)), .second, .val (.long dv), .second, .val (.long ((9223372036854775806 : Int64) - dv)), .second] [(.int (1 : Int32))])
      rw [hF]
      refine own_retN X112 hx hret (by simp) hlk (hb hby at_124) (by decide) (by decide) ?_
      rw [he112]
      exact ⟨rfl, N112⟩
  · -- pc 59: taken
    refine hst (fun t k => XS.ifYes X34.here hx rfl (pc0 := 59) (pc' := 67) rfl (hb hby at_59) rfl ((if0 _ _).trans (feq (fun q => hc59 ((lw_eq _ _).mp q))).2) (by decide) (by decide) k) ?_
    show F T34 (mkF m 67 #[.val (.long q1), .second, .val (.long q2), .second, .val (.long q3), .second, .val (.ref b1), .val (.long sv), .second, .unset, .unset, .unset, .unset] [])
    refine hst (fun t k => XS.lload X34.here hx rfl (hb hby at_67) rfl k) ?_
    show F T34 (mkF m 69 #[.val (.long q1), .second, .val (.long q2), .second, .val (.long q3), .second, .val (.ref b1), .val (.long sv), .second, .unset, .unset, .unset, .unset] [(.long q3)])
    refine hst (fun t k => X34.ldc2J hx hown (mvT hZ (hw _ (List.mem_of_getElem? (i := 34) rfl))) (g := (mkF m 69 #[.val (.long q1), .second, .val (.long q2), .second, .val (.long q3), .second, .val (.ref b1), .val (.long sv), .second, .unset, .unset, .unset, .unset] [(.long q3)])) rfl (hb hby at_69) k) ?_
    show F T34 (mkF m 72 #[.val (.long q1), .second, .val (.long q2), .second, .val (.long q3), .second, .val (.ref b1), .val (.long sv), .second, .unset, .unset, .unset, .unset] [(.long (9223372036854775807 : Int64)), (.long q3)])
    refine hst (fun t k => XS.land X34.here hx rfl (hb hby at_72) rfl k) ?_
    show F T34 (mkF m 73 #[.val (.long q1), .second, .val (.long q2), .second, .val (.long q3), .second, .val (.ref b1), .val (.long sv), .second, .unset, .unset, .unset, .unset] [(.long (q3 &&& (9223372036854775807 : Int64)))])
    generalize hdv : (q3 &&& (9223372036854775807 : Int64)) = dv
    show F T34 (mkF m 73 #[.val (.long q1), .second, .val (.long q2), .second, .val (.long q3), .second, .val (.ref b1), .val (.long sv), .second, .unset, .unset, .unset, .unset] [(.long dv)])
    refine hst (fun t k => XS.lstore X34.here hx rfl (hb hby at_73) rfl (l' := #[.val (.long q1), .second, .val (.long q2), .second, .val (.long q3), .second, .val (.ref b1), .val (.long sv), .second, .val (.long dv), .second, .unset, .unset]) rfl k) ?_
    show F T34 (mkF m 75 #[.val (.long q1), .second, .val (.long q2), .second, .val (.long q3), .second, .val (.ref b1), .val (.long sv), .second, .val (.long dv), .second, .unset, .unset] [])
    refine hst (fun t k => XS.lload X34.here hx rfl (hb hby at_75) rfl k) ?_
    show F T34 (mkF m 77 #[.val (.long q1), .second, .val (.long q2), .second, .val (.long q3), .second, .val (.ref b1), .val (.long sv), .second, .val (.long dv), .second, .unset, .unset] [(.long dv)])
    refine hst (fun t k => XS.lload X34.here hx rfl (hb hby at_77) rfl k) ?_
    show F T34 (mkF m 79 #[.val (.long q1), .second, .val (.long q2), .second, .val (.long q3), .second, .val (.ref b1), .val (.long sv), .second, .val (.long dv), .second, .unset, .unset] [(.long sv), (.long dv)])
    refine hst (fun t k => XS.lcmp X34.here hx rfl (hb hby at_79) rfl k) ?_
    show F T34 (mkF m 80 #[.val (.long q1), .second, .val (.long q2), .second, .val (.long q3), .second, .val (.ref b1), .val (.long sv), .second, .val (.long dv), .second, .unset, .unset] [(.int (lcmpW dv sv))])
    by_cases hc80 : sv < dv
    · -- pc 80: not taken
      refine hst (fun t k => XS.ifNo X34.here hx rfl (hb hby at_80) rfl ((if0 _ _).trans (tlt ((lw_gt _ _).mpr hc80)).2.2.2) k) ?_
      show F T34 (mkF m 83 #[.val (.long q1), .second, .val (.long q2), .second, .val (.long q3), .second, .val (.ref b1), .val (.long sv), .second, .val (.long dv), .second, .unset, .unset] [])
      refine hst (fun t k => XS.lload X34.here hx rfl (hb hby at_83) rfl k) ?_
      show F T34 (mkF m 85 #[.val (.long q1), .second, .val (.long q2), .second, .val (.long q3), .second, .val (.ref b1), .val (.long sv), .second, .val (.long dv), .second, .unset, .unset] [(.long sv)])
      refine hst (fun t k => XS.lstore X34.here hx rfl (hb hby at_85) rfl (l' := #[.val (.long q1), .second, .val (.long q2), .second, .val (.long q3), .second, .val (.ref b1), .val (.long sv), .second, .val (.long sv), .second, .unset, .unset]) rfl k) ?_
      show F T34 (mkF m 87 #[.val (.long q1), .second, .val (.long q2), .second, .val (.long q3), .second, .val (.ref b1), .val (.long sv), .second, .val (.long sv), .second, .unset, .unset] [])
      refine hst (fun t k => XS.lload X34.here hx rfl (hb hby at_87) rfl k) ?_
      show F T34 (mkF m 89 #[.val (.long q1), .second, .val (.long q2), .second, .val (.long q3), .second, .val (.ref b1), .val (.long sv), .second, .val (.long sv), .second, .unset, .unset] [(.long sv)])
      refine hst (fun t k => XS.lload X34.here hx rfl (hb hby at_89) rfl k) ?_
      show F T34 (mkF m 91 #[.val (.long q1), .second, .val (.long q2), .second, .val (.long q3), .second, .val (.ref b1), .val (.long sv), .second, .val (.long sv), .second, .unset, .unset] [(.long sv), (.long sv)])
      refine hst (fun t k => XS.lsub X34.here hx rfl (hb hby at_91) rfl k) ?_
      show F T34 (mkF m 92 #[.val (.long q1), .second, .val (.long q2), .second, .val (.long q3), .second, .val (.ref b1), .val (.long sv), .second, .val (.long sv), .second, .unset, .unset] [(.long (sv - sv))])
      refine hst (fun t k => XS.lstore X34.here hx rfl (hb hby at_92) rfl (l' := #[.val (.long q1), .second, .val (.long q2), .second, .val (.long q3), .second, .val (.ref b1), .val (.long sv), .second, .val (.long sv), .second, .val (.long (sv - sv)), .second]) rfl k) ?_
      show F T34 (mkF m 94 #[.val (.long q1), .second, .val (.long q2), .second, .val (.long q3), .second, .val (.ref b1), .val (.long sv), .second, .val (.long sv), .second, .val (.long (sv - sv)), .second] [])
      refine hst (fun t k => XS.lload X34.here hx rfl (hb hby at_94) rfl k) ?_
      show F T34 (mkF m 96 #[.val (.long q1), .second, .val (.long q2), .second, .val (.long q3), .second, .val (.ref b1), .val (.long sv), .second, .val (.long sv), .second, .val (.long (sv - sv)), .second] [(.long sv)])
      refine hst (fun t k => XS.lload X34.here hx rfl (hb hby at_96) rfl k) ?_
      show F T34 (mkF m 98 #[.val (.long q1), .second, .val (.long q2), .second, .val (.long q3), .second, .val (.ref b1), .val (.long sv), .second, .val (.long sv), .second, .val (.long (sv - sv)), .second] [(.long (sv - sv)), (.long sv)])
      refine hst (fun t k => XS.lsub X34.here hx rfl (hb hby at_98) rfl k) ?_
      show F T34 (mkF m 99 #[.val (.long q1), .second, .val (.long q2), .second, .val (.long q3), .second, .val (.ref b1), .val (.long sv), .second, .val (.long sv), .second, .val (.long (sv - sv)), .second] [(.long (sv - (sv - sv)))])
      refine hst (fun t k => XS.aload X34.here hx rfl (hb hby at_99) rfl rfl k) ?_
      show F T34 (mkF m 101 #[.val (.long q1), .second, .val (.long q2), .second, .val (.long q3), .second, .val (.ref b1), .val (.long sv), .second, .val (.long sv), .second, .val (.long (sv - sv)), .second] [(.ref b1), (.long (sv - (sv - sv)))])
      obtain ⟨v101, T101, Lc101, X101, hQ101, st101⟩ := own_callV X34 hx hZ hown (y := (⟨"com/example/horarium/horarium/solve/FeasibilitySearch$Budget", "patience", "()J"⟩ : MethodName)) (hw _ (List.mem_of_getElem? (i := 29) rfl)) (hw _ (List.mem_of_getElem? (i := 30) rfl)) (hw _ (List.mem_of_getElem? (i := 32) rfl)) (hw _ (List.mem_of_getElem? (i := 31) rfl)) (hw _ (List.mem_of_getElem? (i := 2) rfl)) (hw _ (List.mem_of_getElem? (i := 33) rfl)) (by decide) he34 q1_1 (rm6 l Z a0 hw [] b1 (9223372036854775807 : Int64) T1.heap n0 Z0_p1 q3_1) (by decide) (by decide) (g := (mkF m 101 #[.val (.long q1), .second, .val (.long q2), .second, .val (.long q3), .second, .val (.ref b1), .val (.long sv), .second, .val (.long sv), .second, .val (.long (sv - sv)), .second] [(.ref b1), (.long (sv - (sv - sv)))])) rfl (by rw [hml]; rfl) (argsL := []) (rest := [(.long (sv - (sv - sv)))]) (lenOf pd_0 rfl) rfl rfl (W := 2) (by show 2 * 0 + _ ≤ _; exact Nat.le_of_eq rfl) (hb hby at_101) (by decide) (by decide)
      obtain ⟨rfl, Nq101, he101⟩ := hQ101
      have N101 := Fr.app N34 Nq101
      refine hst st101 ?_
      show F T101 (mkF m 104 #[.val (.long q1), .second, .val (.long q2), .second, .val (.long q3), .second, .val (.ref b1), .val (.long sv), .second, .val (.long sv), .second, .val (.long (sv - sv)), .second] [(.long (9223372036854775807 : Int64)), (.long (sv - (sv - sv)))])
      refine hst (fun t k => XS.lcmp X101.here hx rfl (hb hby at_104) rfl k) ?_
      show F T101 (mkF m 105 #[.val (.long q1), .second, .val (.long q2), .second, .val (.long q3), .second, .val (.ref b1), .val (.long sv), .second, .val (.long sv), .second, .val (.long (sv - sv)), .second] [(.int (lcmpW (sv - (sv - sv)) (9223372036854775807 : Int64)))])
      refine hst (fun t k => XS.ifNo X101.here hx rfl (hb hby at_105) rfl ((if0 _ _).trans (flt (fun q => (own_nomore _) ((lw_gt _ _).mp q))).2.2.1) k) ?_
      show F T101 (mkF m 108 #[.val (.long q1), .second, .val (.long q2), .second, .val (.long q3), .second, .val (.ref b1), .val (.long sv), .second, .val (.long sv), .second, .val (.long (sv - sv)), .second] [])
      refine hst (fun t k => XS.lload X101.here hx rfl (hb hby at_108) rfl k) ?_
      show F T101 (mkF m 110 #[.val (.long q1), .second, .val (.long q2), .second, .val (.long q3), .second, .val (.ref b1), .val (.long sv), .second, .val (.long sv), .second, .val (.long (sv - sv)), .second] [(.long sv)])
      refine hst (fun t k => XS.aload X101.here hx rfl (hb hby at_110) rfl rfl k) ?_
      show F T101 (mkF m 112 #[.val (.long q1), .second, .val (.long q2), .second, .val (.long q3), .second, .val (.ref b1), .val (.long sv), .second, .val (.long sv), .second, .val (.long (sv - sv)), .second] [(.ref b1), (.long sv)])
      obtain ⟨v112, T112, Lc112, X112, hQ112, st112⟩ := own_callV X101 hx hZ hown (y := (⟨"com/example/horarium/horarium/solve/FeasibilitySearch$Budget", "maxSteps", "()J"⟩ : MethodName)) (hw _ (List.mem_of_getElem? (i := 35) rfl)) (hw _ (List.mem_of_getElem? (i := 36) rfl)) (hw _ (List.mem_of_getElem? (i := 38) rfl)) (hw _ (List.mem_of_getElem? (i := 37) rfl)) (hw _ (List.mem_of_getElem? (i := 2) rfl)) (hw _ (List.mem_of_getElem? (i := 39) rfl)) (by decide) he101 q1_1 (rm7 l Z a0 hw [] b1 (9223372036854775807 : Int64) T1.heap n0 Z0_p1 q4_1) (by decide) (by decide) (g := (mkF m 112 #[.val (.long q1), .second, .val (.long q2), .second, .val (.long q3), .second, .val (.ref b1), .val (.long sv), .second, .val (.long sv), .second, .val (.long (sv - sv)), .second] [(.ref b1), (.long sv)])) rfl (by rw [hml]; rfl) (argsL := []) (rest := [(.long sv)]) (lenOf pd_0 rfl) rfl rfl (W := 2) (by show 2 * 0 + _ ≤ _; exact Nat.le_of_eq rfl) (hb hby at_112) (by decide) (by decide)
      obtain ⟨rfl, Nq112, he112⟩ := hQ112
      have N112 := Fr.app N101 Nq112
      refine hst st112 ?_
      show F T112 (mkF m 115 #[.val (.long q1), .second, .val (.long q2), .second, .val (.long q3), .second, .val (.ref b1), .val (.long sv), .second, .val (.long sv), .second, .val (.long (sv - sv)), .second] [(.long (9223372036854775807 : Int64)), (.long sv)])
      refine hst (fun t k => XS.lcmp X112.here hx rfl (hb hby at_115) rfl k) ?_
      show F T112 (mkF m 116 #[.val (.long q1), .second, .val (.long q2), .second, .val (.long q3), .second, .val (.ref b1), .val (.long sv), .second, .val (.long sv), .second, .val (.long (sv - sv)), .second] [(.int (lcmpW sv (9223372036854775807 : Int64)))])
      refine hst (fun t k => XS.ifNo X112.here hx rfl (hb hby at_116) rfl ((if0 _ _).trans (tlt ((lw_lt _ _).mpr (by first | decide | exact own_ltmax hc59))).2.1) k) ?_
      show F T112 (mkF m 119 #[.val (.long q1), .second, .val (.long q2), .second, .val (.long q3), .second, .val (.ref b1), .val (.long sv), .second, .val (.long sv), .second, .val (.long (sv - sv)), .second] [])
      refine hst (fun t k => XS.iconst X112.here hx rfl (hb hby at_119) k) ?_
      show F T112 (mkF m 120 #[.val (.long q1), .second, .val (.long q2), .second, .val (.long q3), .second, .val (.ref b1), .val (.long sv), .second, .val (.long sv), .second, .val (.long (sv - sv)), .second] [(.int (1 : Int32))])
      refine hst (fun t k => XS.goto X112.here hx rfl (pc0 := 120) (pc' := 124) rfl (hb hby at_120) (by decide) (by decide) k) ?_
      show F T112 (mkF m 124 #[.val (.long q1), .second, .val (.long q2), .second, .val (.long q3), .second, .val (.ref b1), .val (.long sv), .second, .val (.long sv), .second, .val (.long (sv - sv)), .second] [(.int (1 : Int32))])
      rw [hF]
      refine own_retN X112 hx hret (by simp) hlk (hb hby at_124) (by decide) (by decide) ?_
      rw [he112]
      exact ⟨rfl, N112⟩
    · -- pc 80: taken
      refine hst (fun t k => XS.ifYes X34.here hx rfl (pc0 := 80) (pc' := 87) rfl (hb hby at_80) rfl ((if0 _ _).trans (flt (fun q => hc80 ((lw_gt _ _).mp q))).2.2.2) (by decide) (by decide) k) ?_
      show F T34 (mkF m 87 #[.val (.long q1), .second, .val (.long q2), .second, .val (.long q3), .second, .val (.ref b1), .val (.long sv), .second, .val (.long dv), .second, .unset, .unset] [])
      refine hst (fun t k => XS.lload X34.here hx rfl (hb hby at_87) rfl k) ?_
      show F T34 (mkF m 89 #[.val (.long q1), .second, .val (.long q2), .second, .val (.long q3), .second, .val (.ref b1), .val (.long sv), .second, .val (.long dv), .second, .unset, .unset] [(.long sv)])
      refine hst (fun t k => XS.lload X34.here hx rfl (hb hby at_89) rfl k) ?_
      show F T34 (mkF m 91 #[.val (.long q1), .second, .val (.long q2), .second, .val (.long q3), .second, .val (.ref b1), .val (.long sv), .second, .val (.long dv), .second, .unset, .unset] [(.long dv), (.long sv)])
      refine hst (fun t k => XS.lsub X34.here hx rfl (hb hby at_91) rfl k) ?_
      show F T34 (mkF m 92 #[.val (.long q1), .second, .val (.long q2), .second, .val (.long q3), .second, .val (.ref b1), .val (.long sv), .second, .val (.long dv), .second, .unset, .unset] [(.long (sv - dv))])
      refine hst (fun t k => XS.lstore X34.here hx rfl (hb hby at_92) rfl (l' := #[.val (.long q1), .second, .val (.long q2), .second, .val (.long q3), .second, .val (.ref b1), .val (.long sv), .second, .val (.long dv), .second, .val (.long (sv - dv)), .second]) rfl k) ?_
      show F T34 (mkF m 94 #[.val (.long q1), .second, .val (.long q2), .second, .val (.long q3), .second, .val (.ref b1), .val (.long sv), .second, .val (.long dv), .second, .val (.long (sv - dv)), .second] [])
      refine hst (fun t k => XS.lload X34.here hx rfl (hb hby at_94) rfl k) ?_
      show F T34 (mkF m 96 #[.val (.long q1), .second, .val (.long q2), .second, .val (.long q3), .second, .val (.ref b1), .val (.long sv), .second, .val (.long dv), .second, .val (.long (sv - dv)), .second] [(.long sv)])
      refine hst (fun t k => XS.lload X34.here hx rfl (hb hby at_96) rfl k) ?_
      show F T34 (mkF m 98 #[.val (.long q1), .second, .val (.long q2), .second, .val (.long q3), .second, .val (.ref b1), .val (.long sv), .second, .val (.long dv), .second, .val (.long (sv - dv)), .second] [(.long (sv - dv)), (.long sv)])
      refine hst (fun t k => XS.lsub X34.here hx rfl (hb hby at_98) rfl k) ?_
      show F T34 (mkF m 99 #[.val (.long q1), .second, .val (.long q2), .second, .val (.long q3), .second, .val (.ref b1), .val (.long sv), .second, .val (.long dv), .second, .val (.long (sv - dv)), .second] [(.long (sv - (sv - dv)))])
      refine hst (fun t k => XS.aload X34.here hx rfl (hb hby at_99) rfl rfl k) ?_
      show F T34 (mkF m 101 #[.val (.long q1), .second, .val (.long q2), .second, .val (.long q3), .second, .val (.ref b1), .val (.long sv), .second, .val (.long dv), .second, .val (.long (sv - dv)), .second] [(.ref b1), (.long (sv - (sv - dv)))])
      obtain ⟨v101, T101, Lc101, X101, hQ101, st101⟩ := own_callV X34 hx hZ hown (y := (⟨"com/example/horarium/horarium/solve/FeasibilitySearch$Budget", "patience", "()J"⟩ : MethodName)) (hw _ (List.mem_of_getElem? (i := 29) rfl)) (hw _ (List.mem_of_getElem? (i := 30) rfl)) (hw _ (List.mem_of_getElem? (i := 32) rfl)) (hw _ (List.mem_of_getElem? (i := 31) rfl)) (hw _ (List.mem_of_getElem? (i := 2) rfl)) (hw _ (List.mem_of_getElem? (i := 33) rfl)) (by decide) he34 q1_1 (rm6 l Z a0 hw [] b1 (9223372036854775807 : Int64) T1.heap n0 Z0_p1 q3_1) (by decide) (by decide) (g := (mkF m 101 #[.val (.long q1), .second, .val (.long q2), .second, .val (.long q3), .second, .val (.ref b1), .val (.long sv), .second, .val (.long dv), .second, .val (.long (sv - dv)), .second] [(.ref b1), (.long (sv - (sv - dv)))])) rfl (by rw [hml]; rfl) (argsL := []) (rest := [(.long (sv - (sv - dv)))]) (lenOf pd_0 rfl) rfl rfl (W := 2) (by show 2 * 0 + _ ≤ _; exact Nat.le_of_eq rfl) (hb hby at_101) (by decide) (by decide)
      obtain ⟨rfl, Nq101, he101⟩ := hQ101
      have N101 := Fr.app N34 Nq101
      refine hst st101 ?_
      show F T101 (mkF m 104 #[.val (.long q1), .second, .val (.long q2), .second, .val (.long q3), .second, .val (.ref b1), .val (.long sv), .second, .val (.long dv), .second, .val (.long (sv - dv)), .second] [(.long (9223372036854775807 : Int64)), (.long (sv - (sv - dv)))])
      refine hst (fun t k => XS.lcmp X101.here hx rfl (hb hby at_104) rfl k) ?_
      show F T101 (mkF m 105 #[.val (.long q1), .second, .val (.long q2), .second, .val (.long q3), .second, .val (.ref b1), .val (.long sv), .second, .val (.long dv), .second, .val (.long (sv - dv)), .second] [(.int (lcmpW (sv - (sv - dv)) (9223372036854775807 : Int64)))])
      refine hst (fun t k => XS.ifNo X101.here hx rfl (hb hby at_105) rfl ((if0 _ _).trans (flt (fun q => (own_nomore _) ((lw_gt _ _).mp q))).2.2.1) k) ?_
      show F T101 (mkF m 108 #[.val (.long q1), .second, .val (.long q2), .second, .val (.long q3), .second, .val (.ref b1), .val (.long sv), .second, .val (.long dv), .second, .val (.long (sv - dv)), .second] [])
      refine hst (fun t k => XS.lload X101.here hx rfl (hb hby at_108) rfl k) ?_
      show F T101 (mkF m 110 #[.val (.long q1), .second, .val (.long q2), .second, .val (.long q3), .second, .val (.ref b1), .val (.long sv), .second, .val (.long dv), .second, .val (.long (sv - dv)), .second] [(.long sv)])
      refine hst (fun t k => XS.aload X101.here hx rfl (hb hby at_110) rfl rfl k) ?_
      show F T101 (mkF m 112 #[.val (.long q1), .second, .val (.long q2), .second, .val (.long q3), .second, .val (.ref b1), .val (.long sv), .second, .val (.long dv), .second, .val (.long (sv - dv)), .second] [(.ref b1), (.long sv)])
      obtain ⟨v112, T112, Lc112, X112, hQ112, st112⟩ := own_callV X101 hx hZ hown (y := (⟨"com/example/horarium/horarium/solve/FeasibilitySearch$Budget", "maxSteps", "()J"⟩ : MethodName)) (hw _ (List.mem_of_getElem? (i := 35) rfl)) (hw _ (List.mem_of_getElem? (i := 36) rfl)) (hw _ (List.mem_of_getElem? (i := 38) rfl)) (hw _ (List.mem_of_getElem? (i := 37) rfl)) (hw _ (List.mem_of_getElem? (i := 2) rfl)) (hw _ (List.mem_of_getElem? (i := 39) rfl)) (by decide) he101 q1_1 (rm7 l Z a0 hw [] b1 (9223372036854775807 : Int64) T1.heap n0 Z0_p1 q4_1) (by decide) (by decide) (g := (mkF m 112 #[.val (.long q1), .second, .val (.long q2), .second, .val (.long q3), .second, .val (.ref b1), .val (.long sv), .second, .val (.long dv), .second, .val (.long (sv - dv)), .second] [(.ref b1), (.long sv)])) rfl (by rw [hml]; rfl) (argsL := []) (rest := [(.long sv)]) (lenOf pd_0 rfl) rfl rfl (W := 2) (by show 2 * 0 + _ ≤ _; exact Nat.le_of_eq rfl) (hb hby at_112) (by decide) (by decide)
      obtain ⟨rfl, Nq112, he112⟩ := hQ112
      have N112 := Fr.app N101 Nq112
      refine hst st112 ?_
      show F T112 (mkF m 115 #[.val (.long q1), .second, .val (.long q2), .second, .val (.long q3), .second, .val (.ref b1), .val (.long sv), .second, .val (.long dv), .second, .val (.long (sv - dv)), .second] [(.long (9223372036854775807 : Int64)), (.long sv)])
      refine hst (fun t k => XS.lcmp X112.here hx rfl (hb hby at_115) rfl k) ?_
      show F T112 (mkF m 116 #[.val (.long q1), .second, .val (.long q2), .second, .val (.long q3), .second, .val (.ref b1), .val (.long sv), .second, .val (.long dv), .second, .val (.long (sv - dv)), .second] [(.int (lcmpW sv (9223372036854775807 : Int64)))])
      refine hst (fun t k => XS.ifNo X112.here hx rfl (hb hby at_116) rfl ((if0 _ _).trans (tlt ((lw_lt _ _).mpr (by first | decide | exact own_ltmax hc59))).2.1) k) ?_
      show F T112 (mkF m 119 #[.val (.long q1), .second, .val (.long q2), .second, .val (.long q3), .second, .val (.ref b1), .val (.long sv), .second, .val (.long dv), .second, .val (.long (sv - dv)), .second] [])
      refine hst (fun t k => XS.iconst X112.here hx rfl (hb hby at_119) k) ?_
      show F T112 (mkF m 120 #[.val (.long q1), .second, .val (.long q2), .second, .val (.long q3), .second, .val (.ref b1), .val (.long sv), .second, .val (.long dv), .second, .val (.long (sv - dv)), .second] [(.int (1 : Int32))])
      refine hst (fun t k => XS.goto X112.here hx rfl (pc0 := 120) (pc' := 124) rfl (hb hby at_120) (by decide) (by decide) k) ?_
      show F T112 (mkF m 124 #[.val (.long q1), .second, .val (.long q2), .second, .val (.long q3), .second, .val (.ref b1), .val (.long sv), .second, .val (.long dv), .second, .val (.long (sv - dv)), .second] [(.int (1 : Int32))])
      rw [hF]
      refine own_retN X112 hx hret (by simp) hlk (hb hby at_124) (by decide) (by decide) ?_
      rw [he112]
      exact ⟨rfl, N112⟩
set_option maxRecDepth 65536 in
set_option maxHeartbeats 40000000 in
theorem comes_1 {Post : Tables → Env → Array Value → State → Outcome → State → Prop} (hpost : ∀ tb e args s v u, (limb_1_1.after args s (.returned v) u = true ∧ limb_1_2.after args s (.returned v) u = true ∧ True) → FrameEnd s (.returned v) u (Jvm.fieldLocs frame_1_writes args s ++ Jvm.arrayLocs frame_1_arrays args s ++ Jvm.staticLocs frame_1_statics s) 16 128 → Post tb e args s (.returned v) u) :
    ArmFor flags0 classFile x code maxLocals ret World_1 tables_1 room_1 Calls_1 rest_1 Pre_1 Post := by
  intro l hfl _ _ p e ha hc hk s m args below hf hA hF happ hP
  obtain ⟨hcalls, hrest, hpre⟩ := hP
  obtain ⟨-, -, -, hnamed, -, -, -, hat⟩ := (Spec.applies_iff hf).mp happ
  obtain ⟨hg, hn⟩ := and_e (Cond.before_iff.mp (show (Jvm.Cond.and given_1 narrow_1).before args s = true from hpre))
  obtain ⟨g1, g2⟩ := and_e hg
  obtain ⟨g3, g4⟩ := and_e g2
  obtain ⟨g5, g6⟩ := and_e g4
  obtain ⟨w0, w1, w2, rfl⟩ : ∃ w0 w1 w2 : Value, args = #[w0, w1, w2] := by
    have hs : args.size = 3 := by simpa [Cond.value, given_1] using g1
    obtain ⟨L⟩ := args
    match L, hs with
    | [w0, w1, w2], _ => exact ⟨w0, w1, w2, rfl⟩
  have hw := fun d (hd : d ∈ tables_1) => atoms_spec (ws := Jvm.Cond.code x code maxLocals ret :: tables_1) hat d (List.mem_cons_of_mem _ hd)
  obtain ⟨i0, ei0⟩ := isL_v g3
  obtain rfl : w0 = (.long i0) := Option.some.inj ei0
  obtain ⟨i1, ei1⟩ := isL_v g5
  obtain rfl : w1 = (.long i1) := Option.some.inj ei1
  obtain ⟨i2, ei2⟩ := isL_v g6
  obtain rfl : w2 = (.long i2) := Option.some.inj ei2
  obtain ⟨n, o, h1, h2, h3, _, L, rfl, ⟨rfl, N⟩, hq⟩ := rm0 l s _ hw tables_1 i0 i1 i2 s.heap s.heap.size (Nat.le_refl _) p e ha hc hk s m _ below hf ((Spec.applies_iff_loose hf).mp happ).1 ⟨rfl, State.Warmed39.refl s, rfl⟩ trivial
  refine ⟨n, _, h1, h2, h3, hpost _ _ _ _ _ _ ⟨Cond.after_iff.mpr rfl, Cond.after_iff.mpr (eq_i res_at (Term.int_eval (1)) rfl), trivial⟩ ⟨hq.1, hq.2.1, (hq.2.2.sift fun y hy => Or.inr (N y hy)).mono (by decide) (by decide)⟩⟩
theorem main_1_1 : Claimed_1_1 := comes_1 fun _ _ _ _ _ _ h hF => ⟨h.1, hF⟩
theorem main_1_2 : Claimed_1_2 := comes_1 fun _ _ _ _ _ _ h hF => ⟨h.2.1, hF⟩
end Jvm.Pilot.@@N@@
namespace Jvm.Pilot.@@N@@
open Jvm Jvm.ClassFile Sem Op Lib Jvm.Free Jvm.Stand Jvm.Pilot.@@N@@.Jvm.D
/-! MADE BY PROGRAM (witnessworld.py) out of the Statement's table words and the real class files: 10 classes; the members and pool entries that the words name. The judged class is class 1, her method 1. -/
namespace start1
open Jvm.ClassFile
def u (s : String) : CpInfo := .utf8 (stringToUtf16 s)
/-- a pool by its gaps: so many unusable entries, then the entry; so many at the end -/
def gap : Nat → List CpInfo → List CpInfo
  | 0, r => r
  | n + 1, r => .unusable :: gap n r
def poolList (es : List (Nat × CpInfo)) (last : Nat) : List CpInfo := es.foldr (fun e r => gap e.1 (e.2 :: r)) (gap last [])
def pool (es : List (Nat × CpInfo)) (last : Nat) : Array CpInfo := ⟨poolList es last⟩
def fileOf (pool : Array CpInfo) (this : Nat) (attrs : Array Attribute := #[]) (ms : Array MethodInfo := #[]) (fl : Nat := 33) (sup : Nat := 0) (ifs : Array Nat := #[]) (fds : Array FieldInfo := #[]) : ClassFile where
  minorVersion := 0
  majorVersion := 65
  constantPool := pool
  accessFlags := fl
  thisClass := this
  superClass := sup
  interfaces := ifs
  fields := fds
  methods := ms
  attributes := attrs
def plain (name : String) (sup : Option ClassId) : Class where
  name := name
  kind := .ordinary
  loader := none
  accessFlags := 33
  super := sup
  interfaces := #[]
  cf := none
  fields := #[]
  methods := #[]
  instanceTypes := #[]
  staticTypes := #[]
  resolved := #[]
  callSites := []
  init := .initialized
  statics := none
  mirror := none

def pool0 : Array CpInfo := pool [(5, u "<init>"), (0, u "()V"), (1, .class_ 10), (1, u "java/lang/Object")] 113

def k0c0 : Code := { maxStack := 0, maxLocals := 1, code := object_method_1_code, exceptionTable := #[], attributes := #[] }
def k0m0 : Method := { name := "<init>", desc := "()V", sig := { parameters := [], returnType := none }, accessFlags := 1, code := some k0c0 }
/-- java/lang/Object -/
def k0 : Class := { plain "java/lang/Object" none with
  accessFlags := 33
  interfaces := #[]
  cf := some (fileOf pool0 8 #[] #[{ accessFlags := 1, nameIndex := 5, descriptorIndex := 6, attributes := #[] }] 33 0 #[] #[])
  fields := #[]
  methods := #[k0m0]
  instanceTypes := #[]
  staticTypes := #[]
  resolved := Array.replicate 124 none
  statics := none }

def pool1 : Array CpInfo := pool [(2, .class_ 4), (1, u "java/lang/Object"), (0, u "<init>"), (0, u "()V"), (0, .methodref 8 9), (0, .class_ 10), (0, .nameAndType 11 12), (0, u "com/example/horarium/horarium/solve/FeasibilitySearch$Budget"), (0, u "untilPlaced"), (0, u "(J)Lcom/example/horarium/horarium/solve/FeasibilitySearch$Budget;"), (0, .methodref 8 14), (0, .nameAndType 15 16), (0, u "deadline"), (0, u "()J"), (0, .methodref 8 18), (0, .nameAndType 19 16), (0, u "patience"), (2, .long 9223372036854775807), (1, .methodref 8 25), (0, .nameAndType 26 16), (0, u "maxSteps"), (0, .long 9223372036854775806), (1, .class_ 30), (0, u "com/example/horarium/horarium/solve/BudgetUntilPlacedPinLaw"), (2, u "law"), (0, u "(JJJ)Z")] 7

def k1m0 : Method := { name := "<init>", desc := "()V", sig := { parameters := [], returnType := none }, accessFlags := 1, code := none }
def k1c1 : Code := { maxStack := 4, maxLocals := 13, code := code, exceptionTable := #[], attributes := #[] }
def k1m1 : Method := { name := "law", desc := "(JJJ)Z", sig := { parameters := [.long, .long, .long], returnType := some .boolean }, accessFlags := 9, code := some k1c1 }
/-- com/example/horarium/horarium/solve/BudgetUntilPlacedPinLaw -/
def k1 : Class := { plain "com/example/horarium/horarium/solve/BudgetUntilPlacedPinLaw" (some 0) with
  accessFlags := 49
  interfaces := #[]
  cf := some (fileOf pool1 29 #[] #[{ accessFlags := 1, nameIndex := 5, descriptorIndex := 6, attributes := #[] }, { accessFlags := 9, nameIndex := 33, descriptorIndex := 34, attributes := #[] }] 49 2 #[] #[])
  fields := #[]
  methods := #[k1m0, k1m1]
  instanceTypes := #[]
  staticTypes := #[]
  resolved := Array.replicate 42 none
  statics := none }

def pool2 : Array CpInfo := pool [(1, .methodref 2 3), (0, .class_ 4), (0, .nameAndType 5 6), (0, u "java/lang/Object"), (0, u "<init>"), (0, u "()V"), (0, .class_ 8), (0, u "java/lang/Record")] 13

def k2c0 : Code := { maxStack := 1, maxLocals := 1, code := jdk_30_method_1_code, exceptionTable := #[], attributes := #[] }
def k2m0 : Method := { name := "<init>", desc := "()V", sig := { parameters := [], returnType := none }, accessFlags := 4, code := some k2c0 }
/-- java/lang/Record -/
def k2 : Class := { plain "java/lang/Record" (some 0) with
  accessFlags := 1057
  interfaces := #[]
  cf := some (fileOf pool2 7 #[] #[{ accessFlags := 4, nameIndex := 5, descriptorIndex := 6, attributes := #[] }] 1057 2 #[] #[])
  fields := #[]
  methods := #[k2m0]
  instanceTypes := #[]
  staticTypes := #[]
  resolved := Array.replicate 22 none
  statics := none }

def pool3 : Array CpInfo := pool [(3, .methodref 4 5), (0, .class_ 6), (0, .nameAndType 7 8), (0, u "java/lang/Record"), (0, u "<init>"), (0, u "()V"), (0, .fieldref 10 11), (0, .class_ 12), (0, .nameAndType 13 14), (0, u "com/example/horarium/horarium/solve/FeasibilitySearch$Budget"), (0, u "deadline"), (0, u "J"), (0, .fieldref 10 16), (0, .nameAndType 17 14), (0, u "patience"), (0, .fieldref 10 19), (0, .nameAndType 20 14), (0, u "maxSteps"), (0, .long 9223372036854775807), (1, .methodref 10 24), (0, .nameAndType 7 25), (0, u "(JJJ)V"), (5, u "()J"), (12, u "NO_LIMIT"), (4, u "untilPlaced"), (0, u "(J)Lcom/example/horarium/horarium/solve/FeasibilitySearch$Budget;"), (9, .class_ 61), (0, u "com/example/horarium/horarium/solve/FeasibilitySearch")] 21

def k3c0 : Code := { maxStack := 3, maxLocals := 7, code := prog_20_method_1_code, exceptionTable := #[], attributes := #[] }
def k3m0 : Method := { name := "<init>", desc := "(JJJ)V", sig := { parameters := [.long, .long, .long], returnType := none }, accessFlags := 0, code := some k3c0 }
def k3c1 : Code := { maxStack := 8, maxLocals := 2, code := prog_20_method_2_code, exceptionTable := #[], attributes := #[] }
def k3m1 : Method := { name := "untilPlaced", desc := "(J)Lcom/example/horarium/horarium/solve/FeasibilitySearch$Budget;", sig := { parameters := [.long], returnType := some (.object "com/example/horarium/horarium/solve/FeasibilitySearch$Budget") }, accessFlags := 8, code := some k3c1 }
def k3c2 : Code := { maxStack := 2, maxLocals := 1, code := prog_20_method_7_code, exceptionTable := #[], attributes := #[] }
def k3m2 : Method := { name := "deadline", desc := "()J", sig := { parameters := [], returnType := some .long }, accessFlags := 1, code := some k3c2 }
def k3c3 : Code := { maxStack := 2, maxLocals := 1, code := prog_20_method_8_code, exceptionTable := #[], attributes := #[] }
def k3m3 : Method := { name := "patience", desc := "()J", sig := { parameters := [], returnType := some .long }, accessFlags := 1, code := some k3c3 }
def k3c4 : Code := { maxStack := 2, maxLocals := 1, code := prog_20_method_9_code, exceptionTable := #[], attributes := #[] }
def k3m4 : Method := { name := "maxSteps", desc := "()J", sig := { parameters := [], returnType := some .long }, accessFlags := 1, code := some k3c4 }
/-- com/example/horarium/horarium/solve/FeasibilitySearch$Budget -/
def k3 : Class := { plain "com/example/horarium/horarium/solve/FeasibilitySearch$Budget" (some 2) with
  accessFlags := 48
  interfaces := #[]
  cf := some (fileOf pool3 10 #[.nestHost 60] #[{ accessFlags := 0, nameIndex := 7, descriptorIndex := 25, attributes := #[] }, { accessFlags := 8, nameIndex := 49, descriptorIndex := 50, attributes := #[] }, { accessFlags := 1, nameIndex := 13, descriptorIndex := 31, attributes := #[] }, { accessFlags := 1, nameIndex := 17, descriptorIndex := 31, attributes := #[] }, { accessFlags := 1, nameIndex := 20, descriptorIndex := 31, attributes := #[] }] 48 4 #[] #[{ accessFlags := 18, nameIndex := 13, descriptorIndex := 14, attributes := #[] }, { accessFlags := 18, nameIndex := 17, descriptorIndex := 14, attributes := #[] }, { accessFlags := 18, nameIndex := 20, descriptorIndex := 14, attributes := #[] }, { accessFlags := 24, nameIndex := 44, descriptorIndex := 14, attributes := #[] }])
  fields := #[{ name := "deadline", type := .long, accessFlags := 18, slot := 0, constantValue := 0 }, { name := "patience", type := .long, accessFlags := 18, slot := 1, constantValue := 0 }, { name := "maxSteps", type := .long, accessFlags := 18, slot := 2, constantValue := 0 }, { name := "NO_LIMIT", type := .long, accessFlags := 24, slot := 0, constantValue := 0 }]
  methods := #[k3m0, k3m1, k3m2, k3m3, k3m4]
  instanceTypes := #[.long, .long, .long]
  staticTypes := #[.long]
  resolved := Array.replicate 83 none
  statics := none }

def pool4 : Array CpInfo := pool [(1, u "java/lang/Cloneable"), (0, .class_ 1), (0, u "java/lang/Object"), (0, .class_ 3)] 3

/-- java/lang/Cloneable -/
def k4 : Class := { plain "java/lang/Cloneable" (some 0) with
  accessFlags := 1537
  interfaces := #[]
  cf := some (fileOf pool4 2 #[] #[] 1537 4 #[] #[])
  fields := #[]
  methods := #[]
  instanceTypes := #[]
  staticTypes := #[]
  resolved := Array.replicate 8 none
  statics := none }

def pool5 : Array CpInfo := pool [(1, u "java/io/Serializable"), (0, .class_ 1), (0, u "java/lang/Object"), (0, .class_ 3)] 3

/-- java/io/Serializable -/
def k5 : Class := { plain "java/io/Serializable" (some 0) with
  accessFlags := 1537
  interfaces := #[]
  cf := some (fileOf pool5 2 #[] #[] 1537 4 #[] #[])
  fields := #[]
  methods := #[]
  instanceTypes := #[]
  staticTypes := #[]
  resolved := Array.replicate 8 none
  statics := none }

/-- the primitive byte -/
def k6 : Class := { plain "byte" none with kind := .primitive 'B', accessFlags := 0x411 }
/-- [B -/
def k7 : Class := { plain "[B" (some 0) with kind := .array 6 .byte, interfaces := #[4, 5], accessFlags := 1041 }

/-- the primitive int -/
def k8 : Class := { plain "int" none with kind := .primitive 'I', accessFlags := 0x411 }
/-- [I -/
def k9 : Class := { plain "[I" (some 0) with kind := .array 8 .int, interfaces := #[4, 5], accessFlags := 1041 }

def heap : Heap := #[]
def classes : Array Class := #[k0, k1, k2, k3, k4, k5, k6, k7, k8, k9]
def interned : List (Array UInt16 × Addr) := []
def slotsUsed : Nat := 0
def theMethod : MethodId := ⟨1, 1⟩
def args0 : Array Value := #[.long 1, .long 2, .long 3]
def aboutOver (below : List Frame) : State where
  vm := { classes := classes, interned := interned.toArray }
  heap := heap
  slotsUsed := slotsUsed
  threads := #[{ frames := .invoking theMethod args0 :: below }]
def below0 : List Frame := [.native { method := ⟨0, 0⟩, args := #[] }]
def about1 : State := aboutOver below0
def p0 : Program := .bare "" "" ""
def e0 : Env := launch0.env 0 0 0
theorem w_frames : about1.frames = Frame.invoking theMethod args0 :: below0 := rfl
set_option maxRecDepth 65536 in
theorem w_args : argsFit about1.vm theMethod args0 = true := by decide +kernel
set_option maxRecDepth 65536 in
theorem w_heap : heapFits about1 = true := by decide +kernel
set_option maxRecDepth 65536 in
theorem w_runnable : about1.curStatus? = some .runnable := by decide +kernel
set_option maxRecDepth 65536 in
theorem w_alone : about1.alone = true := by decide +kernel
set_option maxRecDepth 65536 in
theorem w_named : about1.methodNamed? x = some theMethod := by decide +kernel
set_option maxRecDepth 65536 in
theorem w_hears : about1.hears theMethod below0 = true := by decide +kernel
set_option maxRecDepth 65536 in
theorem w_ripe : about1.ripe theMethod args0 below0 = true := by decide +kernel
theorem w_running : about1.status = .running := rfl
set_option maxRecDepth 65536 in
theorem w_room : about1.hasRoom e0.platform room_1 = true :=
  launch0.hasRoom_least _ room_1 (by decide +kernel) (by decide +kernel) (by decide +kernel) (by decide +kernel) (by decide +kernel) (by decide +kernel)
theorem allAtoms_all (ts : List Jvm.Cond) (a : Array Jvm.Value) (st : Jvm.State) : (allAtoms ts).before a st = ts.all (fun c => c.before a st) := by
  induction ts with
  | nil => rfl
  | cons c t ih =>
    show (Jvm.Cond.and c (allAtoms t)).before a st = _
    rw [Jvm.Cond.before_and, ih, List.all_cons]
def words1 : List Jvm.Cond := Jvm.Cond.code x code maxLocals ret :: tables_1
/-- a 'code' word, met by the world's own term for the bytes: nothing is compared byte by byte -/
theorem code_word {y : MethodName} {bytes : ByteArray} {mx : Nat} {rt : Option FieldType} {a : Array Value} {s : State} {m : MethodId} {meth : Method} {c : Code} (h1 : s.methodNamed? y = some m) (h2 : s.vm.method? m = some meth) (h3 : meth.code = some c) (h4 : c.code = bytes)
    (h5 : (c.maxLocals == mx && c.exceptionTable.isEmpty && decide (c.maxStack ≤ mostOperands) && decide (meth.sig.returnType = rt) && !meth.locks && decide (parseMethodDescriptor y.desc = some meth.sig)) = true) : (Jvm.Cond.code y bytes mx rt).before a s = true := by
  simp only [Bool.and_eq_true, beq_iff_eq, Bool.not_eq_true', decide_eq_true_eq] at h5
  obtain ⟨⟨⟨⟨⟨g1, g2⟩, g3⟩, g4⟩, g5⟩, g6⟩ := h5
  simp [Cond.before, Cond.holds, Cond.value, h1, h2, h3, h4, g1, g2, g3, g4, g5, g6]
def isCode : Jvm.Cond → Bool
  | .code _ _ _ _ => true
  | _ => false
theorem all_split {L : List Jvm.Cond} {P : Jvm.Cond → Bool} (h1 : L.all (fun c => isCode c || P c) = true) (h2 : ∀ c ∈ L.filter isCode, P c = true) : L.all P = true := by
  refine List.all_eq_true.mpr fun c hc => ?_
  have h := List.all_eq_true.mp h1 c hc
  rcases Bool.eq_false_or_eq_true (isCode c) with hi | hi
  · exact h2 c (List.mem_filter.mpr ⟨hc, hi⟩)
  · simpa [hi] using h
set_option maxRecDepth 65536 in
theorem w_c0 : (Jvm.Cond.code x code maxLocals ret).before args0 about1 = true := code_word (m := ⟨1, 1⟩) (meth := k1m1) (c := k1c1) (by decide +kernel) rfl rfl rfl (by decide +kernel)
set_option maxRecDepth 65536 in
theorem w_c1 : (Jvm.Cond.code ({ cls := "com/example/horarium/horarium/solve/FeasibilitySearch$Budget", name := "untilPlaced", desc := "(J)Lcom/example/horarium/horarium/solve/FeasibilitySearch$Budget;" } : Jvm.MethodName) prog_20_method_2_code (2 : Nat) (Option.some (Jvm.ClassFile.FieldType.object "com/example/horarium/horarium/solve/FeasibilitySearch$Budget"))).before args0 about1 = true := code_word (m := ⟨3, 1⟩) (meth := k3m1) (c := k3c1) (by decide +kernel) rfl rfl rfl (by decide +kernel)
set_option maxRecDepth 65536 in
theorem w_c2 : (Jvm.Cond.code ({ cls := "com/example/horarium/horarium/solve/FeasibilitySearch$Budget", name := "<init>", desc := "(JJJ)V" } : Jvm.MethodName) prog_20_method_1_code (7 : Nat) (Option.none : Option Jvm.ClassFile.FieldType)).before args0 about1 = true := code_word (m := ⟨3, 0⟩) (meth := k3m0) (c := k3c0) (by decide +kernel) rfl rfl rfl (by decide +kernel)
set_option maxRecDepth 65536 in
theorem w_c3 : (Jvm.Cond.code ({ cls := "java/lang/Record", name := "<init>", desc := "()V" } : Jvm.MethodName) jdk_30_method_1_code (1 : Nat) (Option.none : Option Jvm.ClassFile.FieldType)).before args0 about1 = true := code_word (m := ⟨2, 0⟩) (meth := k2m0) (c := k2c0) (by decide +kernel) rfl rfl rfl (by decide +kernel)
set_option maxRecDepth 65536 in
theorem w_c4 : (Jvm.Cond.code ({ cls := "java/lang/Object", name := "<init>", desc := "()V" } : Jvm.MethodName) object_method_1_code (1 : Nat) (Option.none : Option Jvm.ClassFile.FieldType)).before args0 about1 = true := code_word (m := ⟨0, 0⟩) (meth := k0m0) (c := k0c0) (by decide +kernel) rfl rfl rfl (by decide +kernel)
set_option maxRecDepth 65536 in
theorem w_c5 : (Jvm.Cond.code ({ cls := "com/example/horarium/horarium/solve/FeasibilitySearch$Budget", name := "deadline", desc := "()J" } : Jvm.MethodName) prog_20_method_7_code (1 : Nat) (Option.some Jvm.ClassFile.FieldType.long)).before args0 about1 = true := code_word (m := ⟨3, 2⟩) (meth := k3m2) (c := k3c2) (by decide +kernel) rfl rfl rfl (by decide +kernel)
set_option maxRecDepth 65536 in
theorem w_c6 : (Jvm.Cond.code ({ cls := "com/example/horarium/horarium/solve/FeasibilitySearch$Budget", name := "patience", desc := "()J" } : Jvm.MethodName) prog_20_method_8_code (1 : Nat) (Option.some Jvm.ClassFile.FieldType.long)).before args0 about1 = true := code_word (m := ⟨3, 3⟩) (meth := k3m3) (c := k3c3) (by decide +kernel) rfl rfl rfl (by decide +kernel)
set_option maxRecDepth 65536 in
theorem w_c7 : (Jvm.Cond.code ({ cls := "com/example/horarium/horarium/solve/FeasibilitySearch$Budget", name := "maxSteps", desc := "()J" } : Jvm.MethodName) prog_20_method_9_code (1 : Nat) (Option.some Jvm.ClassFile.FieldType.long)).before args0 about1 = true := code_word (m := ⟨3, 4⟩) (meth := k3m4) (c := k3c4) (by decide +kernel) rfl rfl rfl (by decide +kernel)
def codes1 : List Jvm.Cond := [Jvm.Cond.code x code maxLocals ret, Jvm.Cond.code ({ cls := "com/example/horarium/horarium/solve/FeasibilitySearch$Budget", name := "untilPlaced", desc := "(J)Lcom/example/horarium/horarium/solve/FeasibilitySearch$Budget;" } : Jvm.MethodName) prog_20_method_2_code (2 : Nat) (Option.some (Jvm.ClassFile.FieldType.object "com/example/horarium/horarium/solve/FeasibilitySearch$Budget")), Jvm.Cond.code ({ cls := "com/example/horarium/horarium/solve/FeasibilitySearch$Budget", name := "<init>", desc := "(JJJ)V" } : Jvm.MethodName) prog_20_method_1_code (7 : Nat) (Option.none : Option Jvm.ClassFile.FieldType), Jvm.Cond.code ({ cls := "java/lang/Record", name := "<init>", desc := "()V" } : Jvm.MethodName) jdk_30_method_1_code (1 : Nat) (Option.none : Option Jvm.ClassFile.FieldType), Jvm.Cond.code ({ cls := "java/lang/Object", name := "<init>", desc := "()V" } : Jvm.MethodName) object_method_1_code (1 : Nat) (Option.none : Option Jvm.ClassFile.FieldType), Jvm.Cond.code ({ cls := "com/example/horarium/horarium/solve/FeasibilitySearch$Budget", name := "deadline", desc := "()J" } : Jvm.MethodName) prog_20_method_7_code (1 : Nat) (Option.some Jvm.ClassFile.FieldType.long), Jvm.Cond.code ({ cls := "com/example/horarium/horarium/solve/FeasibilitySearch$Budget", name := "patience", desc := "()J" } : Jvm.MethodName) prog_20_method_8_code (1 : Nat) (Option.some Jvm.ClassFile.FieldType.long), Jvm.Cond.code ({ cls := "com/example/horarium/horarium/solve/FeasibilitySearch$Budget", name := "maxSteps", desc := "()J" } : Jvm.MethodName) prog_20_method_9_code (1 : Nat) (Option.some Jvm.ClassFile.FieldType.long)]
set_option maxRecDepth 65536 in
theorem codes_eq : words1.filter isCode = codes1 := rfl
theorem w_codes : ∀ c ∈ words1.filter isCode, c.before args0 about1 = true := by
  rw [codes_eq]
  intro c hc
  simp only [codes1, List.mem_cons, List.not_mem_nil, or_false] at hc
  rcases hc with rfl | rfl | rfl | rfl | rfl | rfl | rfl | rfl
  · exact w_c0
  · exact w_c1
  · exact w_c2
  · exact w_c3
  · exact w_c4
  · exact w_c5
  · exact w_c6
  · exact w_c7
set_option maxRecDepth 65536 in
theorem w_t1 : (words1.take 24).all (fun c => isCode c || c.before args0 about1) = true := by decide +kernel
set_option maxRecDepth 65536 in
theorem w_t2 : (words1.drop 24).all (fun c => isCode c || c.before args0 about1) = true := by decide +kernel
theorem w_tables : (allAtoms (Jvm.Cond.code x code maxLocals ret :: tables_1)).before args0 about1 = true := by
  rw [allAtoms_all]
  show words1.all (fun c => c.before args0 about1) = true
  refine all_split ?_ w_codes
  rw [← List.take_append_drop 24 words1, List.all_append, w_t1, w_t2]
  rfl
set_option maxRecDepth 65536 in
theorem w_case : (Jvm.Cond.and given_1 narrow_1).before args0 about1 = true := by decide +kernel
theorem w_applies : (headSpec (Jvm.Cond.code x code maxLocals ret :: tables_1) room_1).applies x e0.platform about1 = true :=
  (Spec.applies_iff w_frames).mpr ⟨w_running, w_runnable, w_alone, w_named, w_hears, w_ripe, w_room, w_tables⟩
theorem atStart : AtStart classFile x code maxLocals ret World_1 tables_1 room_1 Calls_1 rest_1 Pre_1 launch0 p0 e0 about1 theMethod args0 below0 :=
  ⟨lists_1, trivial, launch0.admits_env _ _ _, launch0.least_env, fairChoices_fair.cas, fairChoices_fair.clock, w_frames, w_args, w_heap, w_applies, trivial, trivial, w_case⟩
end start1
theorem witness_1 : WitnessClaimed_1 := ⟨start1.p0, start1.e0, start1.about1, start1.theMethod, start1.args0, start1.below0, start1.atStart⟩
end Jvm.Pilot.@@N@@
