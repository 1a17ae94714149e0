import JvmDerived
import JvmDerived.Pilot.@@N@@Statement
import JvmDerived.Pilot.@@N@@Code
set_option linter.unusedVariables false
set_option linter.unusedSimpArgs false
namespace Jvm.Pilot.@@N@@
open Jvm Jvm.ClassFile Sem Op Lib Jvm.Free Jvm.Stand Jvm.LawKit Jvm.RoadKit Bundle Jvm.Pilot.@@N@@.Jvm.D
open Jvm.Free.Fl
section OwnLayer
variable {p : Program} {l : Launch} {e : Env} {R : Room} {s : State} {m : MethodId} {args : Array Value} {below : List Frame} {meth : Method} {c : Code} {T : State} {locs : List Loc} {cells slots : Nat} {Z : State} {h h0 : Heap} {a : Addr} {a0 : Array Value}
/-- a walk's goal: from S the run comes to an end of which Q holds -/
def own_Goes (p : Program) (e : Env) (below : List Frame) (Q : State → Prop) (S : State) : Prop := ∃ t, Steps p.tables e below S t ∧ Q t
theorem own_go {Q : State → Prop} {S S' : State} (k : ∀ t, Steps p.tables e below S' t → Steps p.tables e below S t) (g : own_Goes p e below Q S') : own_Goes p e below Q S := by
  obtain ⟨t, h1, h2⟩ := g
  exact ⟨t, k t h1, h2⟩
def own_End (s : State) (below : List Frame) (rm : Room) (Q : Option Value → Heap → List Loc → Prop) (t : State) : Prop := t.status = .running ∧ ∃ v L, Ended t below (.returned v) ∧ Q v t.heap L ∧ FrameEnd s (.returned v) t L rm.cells rm.slots
/-- a method's contract at one start: arguments as', heap h0; what it leaves: Q -/
def own_Met (l : Launch) (Z : State) (y : MethodName) (bytes : ByteArray) (maxL : Nat) (ret : Option FieldType) (rm : Room) (ws : List Jvm.Cond) (as' : Array Value) (h0 : Heap) (Q : Option Value → Heap → List Loc → Prop) : Prop :=
  MetFree l y (head1 (Jvm.Cond.code y bytes maxL ret :: ws) rm) (fun a U => a = as' ∧ Z.Warmed39 U.vm ∧ U.heap = h0) (fun _ _ _ _ _ => True) (fun _ U o U' => ∃ v L, o = .returned v ∧ Q v U'.heap L ∧ FrameEnd U o U' L rm.cells rm.slots)
theorem own_met {y : MethodName} {bytes : ByteArray} {maxL : Nat} {ret : Option FieldType} {rm : Room} {ws : List Jvm.Cond} {as' : Array Value} {Q : Option Value → Heap → List Loc → Prop} (hp : plainFor y = true)
    (body : ∀ (p : Program) (e : Env) (s : State) (m : MethodId) (below : List Frame) (meth : Method) (c : Code) (s₁ : State), BodyLoose p l y (head1 (Jvm.Cond.code y bytes maxL ret :: ws) rm) bytes maxL ret e s m as' below meth c s₁ → c.maxLocals = maxL → Z.Warmed39 s.vm → s₁.heap = h0 → own_Goes p e below (own_End s below rm Q) (s₁.setTop (entryFrame m as' maxL))) :
    own_Met l Z y bytes maxL ret rm ws as' h0 Q := by
  refine MetFree.of_bodySF hp hisR ?_
  intro p e s m args below meth c s₁ Bd hml0 hP hK
  obtain ⟨rfl, hZ, hh⟩ := hP
  obtain ⟨t, h1, h2, v, L, h3, h4, h5⟩ := body p e s m below meth c s₁ Bd hml0 hZ (by rw [← hh, Bd.state]; rfl)
  exact ⟨t, _, h1, h2, h3, v, L, rfl, h4, h5⟩
/-- the end of a walk -/
theorem own_fin (X : Stand p l e R s m args below meth c T locs cells slots) (hlocks : meth.locks = false) {v : Option Value} (hv : meth.sig.returnType = none → v = none) {g : JFrame} {rm : Room} {Q : Option Value → Heap → List Loc → Prop}
    (st : ∀ fs, (∀ (f : JFrame) (acts : List Action), f.method = m → f.locked = none → f.entered = [] → (doReturn e (T.setTop f) acts v).1 = T.setFrames fs) → Steps p.tables e below (T.setTop g) (T.setFrames fs))
    (hQ : Q v T.heap locs) (hc : cells ≤ rm.cells) (hs : slots ≤ rm.slots) : own_Goes p e below (own_End s below rm Q) (T.setTop g) := by
  obtain ⟨fs, hr, hrun, hended, hW, hsame⟩ := X.leave (v := v) hv hlocks
  exact ⟨_, st fs hr, hrun, v, locs, hended, hQ, ⟨_, rfl⟩, hW, hsame.mono hc hs⟩
theorem own_notnone {t : FieldType} {v : Option Value} (q : meth.sig.returnType = some t) : meth.sig.returnType = none → v = none := fun h => by rw [q] at h; cases h
/-- nothing written, nothing made: the value alone -/
def own_Pure (v : Option Value) (h : Heap) (v' : Option Value) (h' : Heap) (L : List Loc) : Prop := v' = v ∧ h' = h ∧ L = []
theorem own_callS (X : Stand p l e R s m args below meth c T locs cells slots) (hx : p.tables.exec = Jvm.exec) (hZ : Z.Warmed39 s.vm) {own : String} {index : Nat} {y : MethodName} {bytes : ByteArray} {maxL : Nat} {ret : Option FieldType} {rm : Room} {as' : Array Value} {Q : Option Value → Heap → List Loc → Prop}
    (hown : s.vm.findClass own = some m.cls) (w1 : (Jvm.Cond.methodLink own index y).before a0 Z = true) (w2 : (Jvm.Cond.static y).before a0 Z = true) (w3 : (Jvm.Cond.initialized y.cls).before a0 Z = true) (w4 : (Jvm.Cond.code y bytes maxL ret).before a0 Z = true)
    (hy : y.cls ≠ "java/lang/invoke/MethodHandle" ∧ y.cls ≠ "java/lang/invoke/VarHandle") (hM : own_Met l Z y bytes maxL ret rm [] as' h Q) (eT : T.heap = h) {W : Nat} (hf : rm.frames + 1 ≤ R.frames) (hl : W + (maxL + 11) + rm.locals ≤ R.locals)
    {g : JFrame} (hg : g.method = m) (hsize : g.locals.size = c.maxLocals) {argsL rest : List Value} {ps : List FieldType} {r : Option FieldType} (hd : parseMethodDescriptor y.desc = some ⟨ps, r⟩) (hlen : argsL.length = ps.length)
    (hstack : g.stack = argsL.reverse ++ rest) (hW : 2 * g.monitorRoom + (rest.map fun v => v.category).sum ≤ W) (hdg : decode c.code g.pc = .ok (.invokestatic index, 3)) (has : argsL.toArray = as') (hc : cells + rm.cells ≤ R.cells) (hs : slots + rm.slots ≤ R.slots) :
    ∃ (v : Option Value) (T' : State) (L : List Loc), Stand p l e R s m args below meth c T' (locs ++ L) (cells + rm.cells) (slots + rm.slots) ∧ Q v T'.heap L ∧ ∀ target, Steps p.tables e below (T'.setTop { g with pc := g.pc + 3, stack := v.toList ++ rest }) target → Steps p.tables e below (T.setTop g) target := by
  obtain ⟨v, _, ⟨U, Ls, k, n⟩, -, X', ⟨Lc, hQ, l1, y1, z1⟩, st⟩ := Jvm.LawKit.callS X hx (y := y) hown (mvT hZ w1) (mvT hZ w2) (mvT hZ w3) (mvT hZ w4) hy (backOf (W := W) hM hZ w4 w3 hf hl) (g := g) hg hsize (argsL := argsL) (rest := rest) (lenOf hd hlen) hstack hW hdg (fun _ _ => ⟨has, eT, hc, hs⟩)
  dsimp only [Pt.U, Pt.locs, Pt.cells, Pt.slots] at X' l1 y1 z1 st hQ
  subst l1 y1 z1
  exact ⟨v, U, Lc, X', hQ, st⟩
theorem own_callP (X : Stand p l e R s m args below meth c T locs cells slots) (hx : p.tables.exec = Jvm.exec) (hZ : Z.Warmed39 s.vm) {own : String} {index : Nat} {y : MethodName} {bytes : ByteArray} {maxL : Nat} {ret : Option FieldType} {fr lo : Nat} {as' : Array Value} {v : Option Value}
    (hown : s.vm.findClass own = some m.cls) (w1 : (Jvm.Cond.methodLink own index y).before a0 Z = true) (w2 : (Jvm.Cond.static y).before a0 Z = true) (w3 : (Jvm.Cond.initialized y.cls).before a0 Z = true) (w4 : (Jvm.Cond.code y bytes maxL ret).before a0 Z = true)
    (hy : y.cls ≠ "java/lang/invoke/MethodHandle" ∧ y.cls ≠ "java/lang/invoke/VarHandle") (hM : own_Met l Z y bytes maxL ret ({ frames := fr, cells := 0, slots := 0, locals := lo } : Room) [] as' h (own_Pure v h)) (eT : T.heap = h) {W : Nat} (hf : fr + 1 ≤ R.frames) (hl : W + (maxL + 11) + lo ≤ R.locals)
    {g : JFrame} (hg : g.method = m) (hsize : g.locals.size = c.maxLocals) {argsL rest : List Value} {ps : List FieldType} {r : Option FieldType} (hd : parseMethodDescriptor y.desc = some ⟨ps, r⟩) (hlen : argsL.length = ps.length)
    (hstack : g.stack = argsL.reverse ++ rest) (hW : 2 * g.monitorRoom + (rest.map fun v => v.category).sum ≤ W) (hdg : decode c.code g.pc = .ok (.invokestatic index, 3)) (has : argsL.toArray = as') (hc : cells ≤ R.cells) (hs : slots ≤ R.slots) :
    ∃ T' : State, Stand p l e R s m args below meth c T' locs cells slots ∧ T'.heap = h ∧ ∀ target, Steps p.tables e below (T'.setTop { g with pc := g.pc + 3, stack := v.toList ++ rest }) target → Steps p.tables e below (T.setTop g) target := by
  obtain ⟨v', T', L, X', ⟨q1, q2, q3⟩, st⟩ := own_callS X hx hZ hown w1 w2 w3 w4 hy hM eT hf hl hg hsize hd hlen hstack hW hdg has hc hs
  subst q1 q3
  rw [List.append_nil] at X'
  exact ⟨T', X', q2, st⟩
theorem own_callV (X : Stand p l e R s m args below meth c T locs cells slots) (hx : p.tables.exec = Jvm.exec) (hZ : Z.Warmed39 s.vm) {own C : String} {index : Nat} {y z : MethodName} {bytes : ByteArray} {maxL : Nat} {ret : Option FieldType} {rm : Room} {as' : Array Value} {Q : Option Value → Heap → List Loc → Prop}
    (hown : s.vm.findClass own = some m.cls) (w1 : (Jvm.Cond.methodLink own index y).before a0 Z = true) (w2 : (Jvm.Cond.declares y).before a0 Z = true) (w3 : (Jvm.Cond.selects C y z).before a0 Z = true) (w5 : (Jvm.Cond.instanceMethod z).before a0 Z = true) (w6 : (Jvm.Cond.initialized z.cls).before a0 Z = true) (w4 : (Jvm.Cond.code z bytes maxL ret).before a0 Z = true) (hnf : NotFace s y)
    (hy : y.cls ≠ "java/lang/invoke/MethodHandle" ∧ y.cls ≠ "java/lang/invoke/VarHandle") (hM : own_Met l Z z bytes maxL ret rm [] as' h Q) (eT : T.heap = h) (E : Exa Z h a C) {W : Nat} (hf : rm.frames + 1 ≤ R.frames) (hl : W + (maxL + 11) + rm.locals ≤ R.locals)
    {g : JFrame} (hg : g.method = m) (hsize : g.locals.size = c.maxLocals) {argsL rest : List Value} {ps : List FieldType} {r : Option FieldType} (hd : parseMethodDescriptor y.desc = some ⟨ps, r⟩) (hlen : argsL.length = ps.length)
    (hstack : g.stack = argsL.reverse ++ .ref a :: rest) (hW : 2 * g.monitorRoom + (rest.map fun v => v.category).sum ≤ W) (hdg : decode c.code g.pc = .ok (.invokevirtual index, 3)) (has : (Value.ref a :: argsL).toArray = as') (hc : cells + rm.cells ≤ R.cells) (hs : slots + rm.slots ≤ R.slots) :
    ∃ (v : Option Value) (T' : State) (L : List Loc), Stand p l e R s m args below meth c T' (locs ++ L) (cells + rm.cells) (slots + rm.slots) ∧ Q v T'.heap L ∧ ∀ target, Steps p.tables e below (T'.setTop { g with pc := g.pc + 3, stack := v.toList ++ rest }) target → Steps p.tables e below (T.setTop g) target := by
  obtain ⟨cB, kB, b1, b2, b3⟩ := isOf (T := T) hZ eT E
  obtain ⟨v, _, ⟨U, Ls, k, n⟩, -, X', ⟨Lc, hQ, l1, y1, z1⟩, st⟩ := X.virtualBack hx (y := y) (z := z) hown (mvT hZ w1) (mvT hZ w2) hnf (mvT hZ w3) (mvT hZ w5) hy (backOf (W := W) hM hZ w4 w6 hf hl) b1 b3 (g := g) hg hsize (Steps.refl _) (argsL := argsL) (rest := rest) (lenOf hd hlen) hstack hW hdg (fun _ _ => ⟨has, eT, hc, hs⟩)
  dsimp only [Pt.U, Pt.locs, Pt.cells, Pt.slots] at X' l1 y1 z1 st hQ
  subst l1 y1 z1
  exact ⟨v, U, Lc, X', hQ, fun _ k => st.trans k⟩
theorem own_callI (X : Stand p l e R s m args below meth c T locs cells slots) (hx : p.tables.exec = Jvm.exec) (hZ : Z.Warmed39 s.vm) {own : String} {index : Nat} {y : MethodName} {bytes : ByteArray} {maxL : Nat} {rm : Room} {as' : Array Value} {Q : Option Value → Heap → List Loc → Prop}
    (hy1 : y.name = "<init>") (hown : s.vm.findClass own = some m.cls) (w1 : (Jvm.Cond.methodLink own index y).before a0 Z = true) (w2 : (Jvm.Cond.instanceMethod y).before a0 Z = true) (w3 : (Jvm.Cond.initialized y.cls).before a0 Z = true) (w4 : (Jvm.Cond.code y bytes maxL none).before a0 Z = true)
    (hy : y.cls ≠ "java/lang/invoke/MethodHandle" ∧ y.cls ≠ "java/lang/invoke/VarHandle") (hM : own_Met l Z y bytes maxL none rm [] as' h Q) (eT : T.heap = h) {W : Nat} (hf : rm.frames + 1 ≤ R.frames) (hl : W + (maxL + 11) + rm.locals ≤ R.locals)
    {g : JFrame} (hg : g.method = m) (hsize : g.locals.size = c.maxLocals) {argsL rest : List Value} {ps : List FieldType} {r : Option FieldType} (hd : parseMethodDescriptor y.desc = some ⟨ps, r⟩) (hlen : argsL.length = ps.length)
    (hstack : g.stack = argsL.reverse ++ .ref a :: rest) (hW : 2 * g.monitorRoom + (rest.map fun v => v.category).sum ≤ W) (hdg : decode c.code g.pc = .ok (.invokespecial index, 3)) (has : (Value.ref a :: argsL).toArray = as') (hc : cells + rm.cells ≤ R.cells) (hs : slots + rm.slots ≤ R.slots) :
    ∃ (v : Option Value) (T' : State) (L : List Loc), Stand p l e R s m args below meth c T' (locs ++ L) (cells + rm.cells) (slots + rm.slots) ∧ Q v T'.heap L ∧ ∀ target, Steps p.tables e below (T'.setTop { g with pc := g.pc + 3, stack := v.toList ++ rest }) target → Steps p.tables e below (T.setTop g) target := by
  obtain ⟨v, _, ⟨U, Ls, k, n⟩, -, X', ⟨Lc, hQ, l1, y1, z1⟩, st⟩ := X.specialBack hx (y := y) hy1 hown (mvT hZ w1) (mvT hZ w2) (mvT hZ w4) hy (backOf (W := W) hM hZ w4 w3 hf hl) (g := g) hg hsize (Steps.refl _) (a := a) (argsL := argsL) (rest := rest) (lenOf hd hlen) hstack hW hdg (fun _ _ => ⟨has, eT, hc, hs⟩)
  dsimp only [Pt.U, Pt.locs, Pt.cells, Pt.slots] at X' l1 y1 z1 st hQ
  subst l1 y1 z1
  exact ⟨v, U, Lc, X', hQ, fun _ k => st.trans k⟩
theorem own_len (X : Stand p l e R s m args below meth c T locs cells slots) (hx : p.tables.exec = Jvm.exec) (hZ : Z.Warmed39 s.vm) (eT : T.heap = h) {cl : Cell} {ty : FieldType} (A : Arr Z h a cl ty) {z : Int32} (S : cl.slots.size = z.toNatClampNeg) (N : ¬ z < 0) {g : JFrame} (hg : g.method = m) {rest : List Value} (hs : g.stack = .ref a :: rest) (hd : decode c.code g.pc = .ok (.arraylength, 1)) :
    ∀ target, Steps p.tables e below (T.setTop { g with pc := g.pc + 1, stack := .int z :: rest }) target → Steps p.tables e below (T.setTop g) target := by
  intro target k
  refine X.arraylength hx (by rw [eT]; exact A.1) (State.isArrayOf_alike hZ.alike A.2.1) hg hs hd _ ?_
  rw [len_of S N]
  exact k
theorem own_dal (X : Stand p l e R s m args below meth c T locs cells slots) (hx : p.tables.exec = Jvm.exec) (hZ : Z.Warmed39 s.vm) (eT : T.heap = h) {cl : Cell} (A : Arr Z h a cl .double) {j : Int32} {v : Value} (hj : ¬ (j < 0 ∨ cl.slots.size ≤ j.toNatClampNeg)) (hv : cl.slots[j.toNatClampNeg]? = some v) {g : JFrame} (hg : g.method = m) {rest : List Value} (hs : g.stack = .int j :: .ref a :: rest) (hd : decode c.code g.pc = .ok (.daload, 1)) :
    ∀ target, Steps p.tables e below (T.setTop { g with pc := g.pc + 1, stack := v :: rest }) target → Steps p.tables e below (T.setTop g) target :=
  fun target k => X.daload hx (by rw [eT]; exact A.1) (State.isArrayOf_alike hZ.alike A.2.1) A.2.2 hj hv hg hs hd target k
theorem own_lal (X : Stand p l e R s m args below meth c T locs cells slots) (hx : p.tables.exec = Jvm.exec) (hZ : Z.Warmed39 s.vm) (eT : T.heap = h) {cl : Cell} (A : Arr Z h a cl .long) {j : Int32} {v : Value} (hj : ¬ (j < 0 ∨ cl.slots.size ≤ j.toNatClampNeg)) (hv : cl.slots[j.toNatClampNeg]? = some v) {g : JFrame} (hg : g.method = m) {rest : List Value} (hs : g.stack = .int j :: .ref a :: rest) (hd : decode c.code g.pc = .ok (.laload, 1)) :
    ∀ target, Steps p.tables e below (T.setTop { g with pc := g.pc + 1, stack := v :: rest }) target → Steps p.tables e below (T.setTop g) target :=
  fun target k => X.laload hx (by rw [eT]; exact A.1) (State.isArrayOf_alike hZ.alike A.2.1) A.2.2 hj hv hg hs hd target k
theorem own_ial (X : Stand p l e R s m args below meth c T locs cells slots) (hx : p.tables.exec = Jvm.exec) (hZ : Z.Warmed39 s.vm) (eT : T.heap = h) {cl : Cell} (A : Arr Z h a cl .int) {j : Int32} {v : Value} (hj : ¬ (j < 0 ∨ cl.slots.size ≤ j.toNatClampNeg)) (hv : cl.slots[j.toNatClampNeg]? = some v) {g : JFrame} (hg : g.method = m) {rest : List Value} (hs : g.stack = .int j :: .ref a :: rest) (hd : decode c.code g.pc = .ok (.iaload, 1)) :
    ∀ target, Steps p.tables e below (T.setTop { g with pc := g.pc + 1, stack := v :: rest }) target → Steps p.tables e below (T.setTop g) target :=
  fun target k => X.iaload hx (by rw [eT]; exact A.1) (State.isArrayOf_alike hZ.alike A.2.1) A.2.2 hj hv hg hs hd target k
/-- the returns -/
theorem own_retV {rm : Room} {Q : Option Value → Heap → List Loc → Prop} (X : Stand p l e R s m args below meth c T locs cells slots) (hx : p.tables.exec = Jvm.exec) (hlocks : meth.locks = false) (hret : meth.sig.returnType = none) {pc : Nat} {Ls : Array Slot} (hd : decode c.code pc = .ok (.return_, 1)) (hQ : Q none T.heap locs) (hc : cells ≤ rm.cells) (hs : slots ≤ rm.slots) :
    own_Goes p e below (own_End s below rm Q) (T.setTop (mkF m pc Ls [])) :=
  own_fin X hlocks (v := none) (fun _ => rfl) (fun fs hr => X.returnOut hx hret hd hr) hQ hc hs
theorem own_retD {rm : Room} {Q : Option Value → Heap → List Loc → Prop} (X : Stand p l e R s m args below meth c T locs cells slots) (hx : p.tables.exec = Jvm.exec) (hlocks : meth.locks = false) (hret : meth.sig.returnType = some .double) {pc : Nat} {Ls : Array Slot} {z : UInt64} {rest : List Value} (hd : decode c.code pc = .ok (.dreturn, 1)) (hQ : Q (some (.double z)) T.heap locs) (hc : cells ≤ rm.cells) (hs : slots ≤ rm.slots) :
    own_Goes p e below (own_End s below rm Q) (T.setTop (mkF m pc Ls (.double z :: rest))) :=
  own_fin X hlocks (own_notnone hret) (fun fs hr => retOut X hx hret rfl (Or.inr (Or.inr (Or.inl ⟨rfl, rfl, z, rfl⟩))) hd hr) hQ hc hs
theorem own_retJ {rm : Room} {Q : Option Value → Heap → List Loc → Prop} (X : Stand p l e R s m args below meth c T locs cells slots) (hx : p.tables.exec = Jvm.exec) (hlocks : meth.locks = false) (hret : meth.sig.returnType = some .long) {pc : Nat} {Ls : Array Slot} {z : Int64} {rest : List Value} (hd : decode c.code pc = .ok (.lreturn, 1)) (hQ : Q (some (.long z)) T.heap locs) (hc : cells ≤ rm.cells) (hs : slots ≤ rm.slots) :
    own_Goes p e below (own_End s below rm Q) (T.setTop (mkF m pc Ls (.long z :: rest))) :=
  own_fin X hlocks (own_notnone hret) (fun fs hr => retOut X hx hret rfl (Or.inr (Or.inl ⟨rfl, rfl, z, rfl⟩)) hd hr) hQ hc hs
theorem own_retI {rm : Room} {Q : Option Value → Heap → List Loc → Prop} (X : Stand p l e R s m args below meth c T locs cells slots) (hx : p.tables.exec = Jvm.exec) (hlocks : meth.locks = false) (hret : meth.sig.returnType = some .int) {pc : Nat} {Ls : Array Slot} {z : Int32} {rest : List Value} (hd : decode c.code pc = .ok (.ireturn, 1)) (hQ : Q (some (.int z)) T.heap locs) (hc : cells ≤ rm.cells) (hs : slots ≤ rm.slots) :
    own_Goes p e below (own_End s below rm Q) (T.setTop (mkF m pc Ls (.int z :: rest))) :=
  own_fin X hlocks (own_notnone hret) (fun fs hr => retOut X hx hret rfl (Or.inl ⟨rfl, Or.inl rfl, z, rfl⟩) hd hr) hQ hc hs
theorem own_retZ {rm : Room} {Q : Option Value → Heap → List Loc → Prop} (X : Stand p l e R s m args below meth c T locs cells slots) (hx : p.tables.exec = Jvm.exec) (hlocks : meth.locks = false) (hret : meth.sig.returnType = some .boolean) {pc : Nat} {Ls : Array Slot} {z : Int32} (hz : narrow .boolean (.int z) = .int z) {rest : List Value} (hd : decode c.code pc = .ok (.ireturn, 1)) (hQ : Q (some (.int z)) T.heap locs) (hc : cells ≤ rm.cells) (hs : slots ≤ rm.slots) :
    own_Goes p e below (own_End s below rm Q) (T.setTop (mkF m pc Ls (.int z :: rest))) :=
  own_fin X hlocks (own_notnone hret) (fun fs hr => retOut X hx hret hz (Or.inl ⟨rfl, Or.inr (Or.inl rfl), z, rfl⟩) hd hr) hQ hc hs
theorem own_retA {rm : Room} {Q : Option Value → Heap → List Loc → Prop} (X : Stand p l e R s m args below meth c T locs cells slots) (hx : p.tables.exec = Jvm.exec) (hlocks : meth.locks = false) {t : FieldType} (hret : meth.sig.returnType = some t) (ht : t.isReference = true) {pc : Nat} {Ls : Array Slot} {z : Addr} (hn : narrow t (.ref z) = .ref z) {rest : List Value} (hd : decode c.code pc = .ok (.areturn, 1)) (hQ : Q (some (.ref z)) T.heap locs) (hc : cells ≤ rm.cells) (hs : slots ≤ rm.slots) :
    own_Goes p e below (own_End s below rm Q) (T.setTop (mkF m pc Ls (.ref z :: rest))) :=
  own_fin X hlocks (own_notnone hret) (fun fs hr => retOut X hx hret hn (Or.inr (Or.inr (Or.inr (Or.inr ⟨rfl, ht, rfl⟩)))) hd hr) hQ hc hs
theorem own_set_get {cl : Cell} {j i : Nat} {v : Value} (hj : j < cl.slots.size) : (cl.setSlot j v).slots[i]? = if i = j then some v else cl.slots[i]? := by
  by_cases q : i = j
  · subst q; simp [Cell.setSlot, hj]
  · simp [Cell.setSlot, q, Array.getElem?_setIfInBounds_ne (Ne.symm q)]
end OwnLayer

section OwnUp
variable {p : Program} {l : Launch} {e : Env} {R : Room} {s : State} {m : MethodId} {args : Array Value} {below : List Frame} {meth : Method} {c : Code} {T : State} {locs : List Loc} {cells slots : Nat} {Z : State} {h h0 : Heap} {a : Addr} {a0 : Array Value}
theorem own_callUp (X : Stand p l e R s m args below meth c T locs cells slots) (hx : p.tables.exec = Jvm.exec) (hZ : Z.Warmed39 s.vm) {own C owner : String} {index : Nat} {y z : MethodName} {bytes : ByteArray} {maxL : Nat} {ret : Option FieldType} {fr lo : Nat} {as' : Array Value} {v : Option Value}
    (hown : s.vm.findClass own = some m.cls) (w1 : (Jvm.Cond.methodLink own index y).before a0 Z = true) (w2 : (Jvm.Cond.sameMethod y.cls owner y.name y.desc).before a0 Z = true) (w2' : (Jvm.Cond.declares ⟨owner, y.name, y.desc⟩).before a0 Z = true) (w3 : (Jvm.Cond.selects C y z).before a0 Z = true) (w5 : (Jvm.Cond.instanceMethod z).before a0 Z = true) (w6 : (Jvm.Cond.initialized z.cls).before a0 Z = true) (w4 : (Jvm.Cond.code z bytes maxL ret).before a0 Z = true)
    (hy : owner ≠ "java/lang/invoke/MethodHandle" ∧ owner ≠ "java/lang/invoke/VarHandle") (hM : own_Met l Z z bytes maxL ret ({ frames := fr, cells := 0, slots := 0, locals := lo } : Room) [] as' h (own_Pure v h)) (eT : T.heap = h) (E : Exa Z h a C) {W : Nat} (hf : fr + 1 ≤ R.frames) (hl : W + (maxL + 11) + lo ≤ R.locals)
    {g : JFrame} (hg : g.method = m) (hsize : g.locals.size = c.maxLocals) {argsL rest : List Value} {ps : List FieldType} {r : Option FieldType} (hd : parseMethodDescriptor y.desc = some ⟨ps, r⟩) (hlen : argsL.length = ps.length)
    (hstack : g.stack = argsL.reverse ++ .ref a :: rest) (hW : 2 * g.monitorRoom + (rest.map fun v => v.category).sum ≤ W) (hdg : decode c.code g.pc = .ok (.invokevirtual index, 3)) (has : (Value.ref a :: argsL).toArray = as') (hc : cells ≤ R.cells) (hs : slots ≤ R.slots) :
    ∃ T' : State, Stand p l e R s m args below meth c T' locs cells slots ∧ T'.heap = h ∧ ∀ target, Steps p.tables e below (T'.setTop { g with pc := g.pc + 3, stack := v.toList ++ rest }) target → Steps p.tables e below (T.setTop g) target := by
  obtain ⟨cB, kB, b1, b2, b3⟩ := isOf (T := T) hZ eT E
  obtain ⟨v', _, ⟨U, Ls, k, n⟩, -, X', ⟨Lc, ⟨q1, q2, q3⟩, l1, y1, z1⟩, st⟩ := X.virtualBackUp hx (x := y) (y := z) hown (mvT hZ w1) (mvT hZ w2) (mvT hZ w2') hy (mvT hZ w3) (mvT hZ w5) (backOf (W := W) hM hZ w4 w6 hf hl) b1 b3 (g := g) hg hsize (Steps.refl _) (argsL := argsL) (rest := rest) (lenOf hd hlen) hstack hW hdg (fun _ _ => ⟨has, eT, hc, hs⟩)
  dsimp only [Pt.U, Pt.locs, Pt.cells, Pt.slots] at X' l1 y1 z1 st q2
  subst l1 y1 z1 q1 q3
  rw [List.append_nil] at X'
  exact ⟨U, X', q2, fun _ k => st.trans k⟩
end OwnUp
theorem d1_0 : decode method_2_code 0 = .ok (.ldc2_w 7, 3) := by decide +kernel
theorem d1_3 : decode method_2_code 3 = .ok (.dstore_n 0, 1) := by decide +kernel
theorem d1_4 : decode method_2_code 4 = .ok (.dload_n 0, 1) := by decide +kernel
theorem d1_5 : decode method_2_code 5 = .ok (.dload_n 0, 1) := by decide +kernel
theorem d1_6 : decode method_2_code 6 = .ok (.dmul, 1) := by decide +kernel
theorem d1_7 : decode method_2_code 7 = .ok (.dstore_n 0, 1) := by decide +kernel
theorem d1_8 : decode method_2_code 8 = .ok (.dload_n 0, 1) := by decide +kernel
theorem d1_9 : decode method_2_code 9 = .ok (.dload_n 0, 1) := by decide +kernel
theorem d1_10 : decode method_2_code 10 = .ok (.dmul, 1) := by decide +kernel
theorem d1_11 : decode method_2_code 11 = .ok (.dstore_n 0, 1) := by decide +kernel
theorem d1_12 : decode method_2_code 12 = .ok (.dload_n 0, 1) := by decide +kernel
theorem d1_13 : decode method_2_code 13 = .ok (.dload_n 0, 1) := by decide +kernel
theorem d1_14 : decode method_2_code 14 = .ok (.dmul, 1) := by decide +kernel
theorem d1_15 : decode method_2_code 15 = .ok (.dstore_n 0, 1) := by decide +kernel
theorem d1_16 : decode method_2_code 16 = .ok (.dload_n 0, 1) := by decide +kernel
theorem d1_17 : decode method_2_code 17 = .ok (.dload_n 0, 1) := by decide +kernel
theorem d1_18 : decode method_2_code 18 = .ok (.dmul, 1) := by decide +kernel
theorem d1_19 : decode method_2_code 19 = .ok (.dstore_n 0, 1) := by decide +kernel
theorem d1_20 : decode method_2_code 20 = .ok (.dload_n 0, 1) := by decide +kernel
theorem d1_21 : decode method_2_code 21 = .ok (.dload_n 0, 1) := by decide +kernel
theorem d1_22 : decode method_2_code 22 = .ok (.dmul, 1) := by decide +kernel
theorem d1_23 : decode method_2_code 23 = .ok (.dstore_n 0, 1) := by decide +kernel
theorem d1_24 : decode method_2_code 24 = .ok (.dload_n 0, 1) := by decide +kernel
theorem d1_25 : decode method_2_code 25 = .ok (.dload_n 0, 1) := by decide +kernel
theorem d1_26 : decode method_2_code 26 = .ok (.dmul, 1) := by decide +kernel
theorem d1_27 : decode method_2_code 27 = .ok (.dstore_n 0, 1) := by decide +kernel
theorem d1_28 : decode method_2_code 28 = .ok (.dload_n 0, 1) := by decide +kernel
theorem d1_29 : decode method_2_code 29 = .ok (.dreturn, 1) := by decide +kernel
theorem d2_0 : decode prog_8_method_6_code 0 = .ok (.aload_n 0, 1) := by decide +kernel
theorem d2_1 : decode prog_8_method_6_code 1 = .ok (.invokevirtual 43, 3) := by decide +kernel
theorem d2_4 : decode prog_8_method_6_code 4 = .ok (.tableswitch 28 0 2 #[38, 60, 80], 28) := by decide +kernel
theorem d2_32 : decode prog_8_method_6_code 32 = .ok (.new 47, 3) := by decide +kernel
theorem d2_35 : decode prog_8_method_6_code 35 = .ok (.dup, 1) := by decide +kernel
theorem d2_36 : decode prog_8_method_6_code 36 = .ok (.aconst_null, 1) := by decide +kernel
theorem d2_37 : decode prog_8_method_6_code 37 = .ok (.aconst_null, 1) := by decide +kernel
theorem d2_38 : decode prog_8_method_6_code 38 = .ok (.invokespecial 49, 3) := by decide +kernel
theorem d2_41 : decode prog_8_method_6_code 41 = .ok (.athrow, 1) := by decide +kernel
theorem d2_42 : decode prog_8_method_6_code 42 = .ok (.dload_n 1, 1) := by decide +kernel
theorem d2_43 : decode prog_8_method_6_code 43 = .ok (.dconst 0, 1) := by decide +kernel
theorem d2_44 : decode prog_8_method_6_code 44 = .ok (.dcmp .l, 1) := by decide +kernel
theorem d2_45 : decode prog_8_method_6_code 45 = .ok (.ifCond .lt 15, 3) := by decide +kernel
theorem d2_48 : decode prog_8_method_6_code 48 = .ok (.dload_n 1, 1) := by decide +kernel
theorem d2_49 : decode prog_8_method_6_code 49 = .ok (.ldc2_w 54, 3) := by decide +kernel
theorem d2_52 : decode prog_8_method_6_code 52 = .ok (.dcmp .g, 1) := by decide +kernel
theorem d2_53 : decode prog_8_method_6_code 53 = .ok (.ifCond .ge 7, 3) := by decide +kernel
theorem d2_56 : decode prog_8_method_6_code 56 = .ok (.iconst 1, 1) := by decide +kernel
theorem d2_57 : decode prog_8_method_6_code 57 = .ok (.goto 46, 3) := by decide +kernel
theorem d2_60 : decode prog_8_method_6_code 60 = .ok (.iconst 0, 1) := by decide +kernel
theorem d2_61 : decode prog_8_method_6_code 61 = .ok (.goto 42, 3) := by decide +kernel
theorem d2_64 : decode prog_8_method_6_code 64 = .ok (.dload_n 1, 1) := by decide +kernel
theorem d2_65 : decode prog_8_method_6_code 65 = .ok (.dconst 0, 1) := by decide +kernel
theorem d2_66 : decode prog_8_method_6_code 66 = .ok (.dcmp .l, 1) := by decide +kernel
theorem d2_67 : decode prog_8_method_6_code 67 = .ok (.ifCond .lt 13, 3) := by decide +kernel
theorem d2_70 : decode prog_8_method_6_code 70 = .ok (.dload_n 1, 1) := by decide +kernel
theorem d2_71 : decode prog_8_method_6_code 71 = .ok (.dconst 1, 1) := by decide +kernel
theorem d2_72 : decode prog_8_method_6_code 72 = .ok (.dcmp .g, 1) := by decide +kernel
theorem d2_73 : decode prog_8_method_6_code 73 = .ok (.ifCond .gt 7, 3) := by decide +kernel
theorem d2_76 : decode prog_8_method_6_code 76 = .ok (.iconst 1, 1) := by decide +kernel
theorem d2_77 : decode prog_8_method_6_code 77 = .ok (.goto 26, 3) := by decide +kernel
theorem d2_80 : decode prog_8_method_6_code 80 = .ok (.iconst 0, 1) := by decide +kernel
theorem d2_81 : decode prog_8_method_6_code 81 = .ok (.goto 22, 3) := by decide +kernel
theorem d2_84 : decode prog_8_method_6_code 84 = .ok (.dload_n 1, 1) := by decide +kernel
theorem d2_85 : decode prog_8_method_6_code 85 = .ok (.dconst 0, 1) := by decide +kernel
theorem d2_86 : decode prog_8_method_6_code 86 = .ok (.dcmp .l, 1) := by decide +kernel
theorem d2_87 : decode prog_8_method_6_code 87 = .ok (.ifCond .le 15, 3) := by decide +kernel
theorem d2_90 : decode prog_8_method_6_code 90 = .ok (.dload_n 1, 1) := by decide +kernel
theorem d2_91 : decode prog_8_method_6_code 91 = .ok (.ldc2_w 54, 3) := by decide +kernel
theorem d2_94 : decode prog_8_method_6_code 94 = .ok (.dcmp .g, 1) := by decide +kernel
theorem d2_95 : decode prog_8_method_6_code 95 = .ok (.ifCond .ge 7, 3) := by decide +kernel
theorem d2_98 : decode prog_8_method_6_code 98 = .ok (.iconst 1, 1) := by decide +kernel
theorem d2_99 : decode prog_8_method_6_code 99 = .ok (.goto 4, 3) := by decide +kernel
theorem d2_102 : decode prog_8_method_6_code 102 = .ok (.iconst 0, 1) := by decide +kernel
theorem d2_103 : decode prog_8_method_6_code 103 = .ok (.ireturn, 1) := by decide +kernel
theorem d3_0 : decode jdk_37_method_2_code 0 = .ok (.aload_n 0, 1) := by decide +kernel
theorem d3_1 : decode jdk_37_method_2_code 1 = .ok (.getfield 7, 3) := by decide +kernel
theorem d3_4 : decode jdk_37_method_2_code 4 = .ok (.ireturn, 1) := by decide +kernel
theorem pn_0 : plainName "com/example/skor/skor/ParameterAdmitsPinLaw" = true := by first | (simp [plainName, overriddenIn]; done) | decide +kernel
theorem pn_2 : plainName "com/example/skor/skor/Bm25$Parameter" = true := by first | (simp [plainName, overriddenIn]; done) | decide +kernel
theorem pn_3 : plainName "java/lang/Enum" = true := by first | (simp [plainName, overriddenIn]; done) | decide +kernel
theorem pd_1 : parseMethodDescriptor "()D" = some ⟨[], some .double⟩ := by decide +kernel
theorem pd_2 : parseMethodDescriptor "(D)Z" = some ⟨[.double], some .boolean⟩ := by decide +kernel
theorem pd_3 : parseMethodDescriptor "()I" = some ⟨[], some .int⟩ := by decide +kernel
theorem ef_1 (m : MethodId) : entryFrame m #[] 2 = mkF m 0 #[.unset, .unset] [] := by first | (simp [entryFrame, mkF, argsToLocals, Value.category, maxLocals]; done) | rfl
theorem ef_2 (m : MethodId) (x0 : Addr) (x1 : UInt64) : entryFrame m #[(.ref x0), (.double x1)] 3 = mkF m 0 #[.val (.ref x0), .val (.double x1), .second] [] := by first | (simp [entryFrame, mkF, argsToLocals, Value.category, maxLocals]; done) | rfl
theorem ef_3 (m : MethodId) (x0 : Addr) : entryFrame m #[(.ref x0)] 1 = mkF m 0 #[.val (.ref x0)] [] := by first | (simp [entryFrame, mkF, argsToLocals, Value.category, maxLocals]; done) | rfl
theorem ef_0 (m : MethodId) (x0 : Int32) (x1 : Int32) (x2 : Int32) (x3 : Int32) : entryFrame m #[(.int x0), (.int x1), (.int x2), (.int x3)] maxLocals = mkF m 0 #[.val (.int x0), .val (.int x1), .val (.int x2), .val (.int x3), .unset, .unset, .unset, .unset, .unset, .unset, .unset, .unset, .unset] [] := by first | (simp [entryFrame, mkF, argsToLocals, Value.category, maxLocals]; done) | rfl
abbrev own_infN : MethodName := ⟨"com/example/skor/skor/ParameterAdmitsPinLaw", "infinity", "()D"⟩
abbrev own_admN : MethodName := ⟨"com/example/skor/skor/Bm25$Parameter", "admits", "(D)Z"⟩
abbrev own_ordN : MethodName := ⟨"java/lang/Enum", "ordinal", "()I"⟩
abbrev own_pordN : MethodName := ⟨"com/example/skor/skor/Bm25$Parameter", "ordinal", "()I"⟩
abbrev own_PINF : UInt64 := 9218868437227405312
abbrev own_NINF : UInt64 := 18442240474082181120
abbrev own_NZ : UInt64 := 9223372036854775808
theorem own_dneg : FP.dneg own_PINF = own_NINF := by decide +kernel
theorem own_sq0 : FP.dmul 4696837146684686336 4696837146684686336 = 4786511204640096256 := by decide +kernel
theorem own_sn0 : NoNaN64 (FP.dmul 4696837146684686336 4696837146684686336) := by rw [own_sq0]; unfold NoNaN64; decide
theorem own_sq1 : FP.dmul 4786511204640096256 4786511204640096256 = 4965913770331839924 := by decide +kernel
theorem own_sn1 : NoNaN64 (FP.dmul 4786511204640096256 4786511204640096256) := by rw [own_sq1]; unfold NoNaN64; decide
theorem own_sq2 : FP.dmul 4965913770331839924 4965913770331839924 = 5324914135746594931 := by decide +kernel
theorem own_sn2 : NoNaN64 (FP.dmul 4965913770331839924 4965913770331839924) := by rw [own_sq2]; unfold NoNaN64; decide
theorem own_sq3 : FP.dmul 5324914135746594931 5324914135746594931 = 6043257259031049059 := by decide +kernel
theorem own_sn3 : NoNaN64 (FP.dmul 5324914135746594931 5324914135746594931) := by rw [own_sq3]; unfold NoNaN64; decide
theorem own_sq4 : FP.dmul 6043257259031049059 6043257259031049059 = 7479368607221621995 := by decide +kernel
theorem own_sn4 : NoNaN64 (FP.dmul 6043257259031049059 6043257259031049059) := by rw [own_sq4]; unfold NoNaN64; decide
theorem own_sq5 : FP.dmul 7479368607221621995 7479368607221621995 = 9218868437227405312 := by decide +kernel
theorem own_sn5 : NoNaN64 (FP.dmul 7479368607221621995 7479368607221621995) := by rw [own_sq5]; unfold NoNaN64; decide
set_option maxRecDepth 65536 in
set_option maxHeartbeats 40000000 in
theorem own_inf (l : Launch) (Z : State) (a0 : Array Value) (hw : ∀ d ∈ tables_1, d.before a0 Z = true) (h0 : Heap) : own_Met l Z own_infN method_2_code 2 (some .double) ({ frames := 0, cells := 0, slots := 0, locals := 0 } : Room) [] #[] h0 (own_Pure (some (.double own_PINF)) h0) := by
  refine own_met (plainFor_of_name pn_0) ?_
  intro p e s m below meth c s₁ Bd hml hZ e0
  have hx := Bd.exec
  have hby := Bd.bytes
  have hown : s.vm.findClass "com/example/skor/skor/ParameterAdmitsPinLaw" = some m.cls := findClass_of_methodNamed Bd.named
  have hnm := (name_of_methodNamed Bd.named Bd.method).1
  have X0 : Stand p l e ({ frames := 0, cells := 0, slots := 0, locals := 0 } : Room) s m #[] below meth c s₁ [] 0 0 := Stand.of_body Bd
  rw [ef_1]
  show own_Goes p e below (own_End s below _ _) (s₁.setTop (mkF m 0 #[.unset, .unset] []))
  refine own_go (Stand.ldc2DoubleC X0 hx hown (mvT hZ (hw _ (List.mem_of_getElem? (i := 8) rfl))) (g := (mkF m 0 #[.unset, .unset] [])) rfl (hb hby d1_0)) ?_
  show own_Goes p e below (own_End s below _ _) (s₁.setTop (mkF m 3 #[.unset, .unset] [(.double 4696837146684686336)]))
  refine own_go (fun _ k => XS.dstoreN X0.here hx rfl (hb hby d1_3) rfl (l' := #[.val (.double 4696837146684686336), .second]) rfl k) ?_
  show own_Goes p e below (own_End s below _ _) (s₁.setTop (mkF m 4 #[.val (.double 4696837146684686336), .second] []))
  refine own_go (fun _ k => XS.dloadN X0.here hx rfl (hb hby d1_4) rfl k) ?_
  show own_Goes p e below (own_End s below _ _) (s₁.setTop (mkF m 5 #[.val (.double 4696837146684686336), .second] [(.double 4696837146684686336)]))
  refine own_go (fun _ k => XS.dloadN X0.here hx rfl (hb hby d1_5) rfl k) ?_
  show own_Goes p e below (own_End s below _ _) (s₁.setTop (mkF m 6 #[.val (.double 4696837146684686336), .second] [(.double 4696837146684686336), (.double 4696837146684686336)]))
  refine own_go (fun _ k => XS.dmulS X0.here hx rfl (hb hby d1_6) rfl own_sn0 own_sq0 k) ?_
  show own_Goes p e below (own_End s below _ _) (s₁.setTop (mkF m 7 #[.val (.double 4696837146684686336), .second] [(.double 4786511204640096256)]))
  refine own_go (fun _ k => XS.dstoreN X0.here hx rfl (hb hby d1_7) rfl (l' := #[.val (.double 4786511204640096256), .second]) rfl k) ?_
  show own_Goes p e below (own_End s below _ _) (s₁.setTop (mkF m 8 #[.val (.double 4786511204640096256), .second] []))
  refine own_go (fun _ k => XS.dloadN X0.here hx rfl (hb hby d1_8) rfl k) ?_
  show own_Goes p e below (own_End s below _ _) (s₁.setTop (mkF m 9 #[.val (.double 4786511204640096256), .second] [(.double 4786511204640096256)]))
  refine own_go (fun _ k => XS.dloadN X0.here hx rfl (hb hby d1_9) rfl k) ?_
  show own_Goes p e below (own_End s below _ _) (s₁.setTop (mkF m 10 #[.val (.double 4786511204640096256), .second] [(.double 4786511204640096256), (.double 4786511204640096256)]))
  refine own_go (fun _ k => XS.dmulS X0.here hx rfl (hb hby d1_10) rfl own_sn1 own_sq1 k) ?_
  show own_Goes p e below (own_End s below _ _) (s₁.setTop (mkF m 11 #[.val (.double 4786511204640096256), .second] [(.double 4965913770331839924)]))
  refine own_go (fun _ k => XS.dstoreN X0.here hx rfl (hb hby d1_11) rfl (l' := #[.val (.double 4965913770331839924), .second]) rfl k) ?_
  show own_Goes p e below (own_End s below _ _) (s₁.setTop (mkF m 12 #[.val (.double 4965913770331839924), .second] []))
  refine own_go (fun _ k => XS.dloadN X0.here hx rfl (hb hby d1_12) rfl k) ?_
  show own_Goes p e below (own_End s below _ _) (s₁.setTop (mkF m 13 #[.val (.double 4965913770331839924), .second] [(.double 4965913770331839924)]))
  refine own_go (fun _ k => XS.dloadN X0.here hx rfl (hb hby d1_13) rfl k) ?_
  show own_Goes p e below (own_End s below _ _) (s₁.setTop (mkF m 14 #[.val (.double 4965913770331839924), .second] [(.double 4965913770331839924), (.double 4965913770331839924)]))
  refine own_go (fun _ k => XS.dmulS X0.here hx rfl (hb hby d1_14) rfl own_sn2 own_sq2 k) ?_
  show own_Goes p e below (own_End s below _ _) (s₁.setTop (mkF m 15 #[.val (.double 4965913770331839924), .second] [(.double 5324914135746594931)]))
  refine own_go (fun _ k => XS.dstoreN X0.here hx rfl (hb hby d1_15) rfl (l' := #[.val (.double 5324914135746594931), .second]) rfl k) ?_
  show own_Goes p e below (own_End s below _ _) (s₁.setTop (mkF m 16 #[.val (.double 5324914135746594931), .second] []))
  refine own_go (fun _ k => XS.dloadN X0.here hx rfl (hb hby d1_16) rfl k) ?_
  show own_Goes p e below (own_End s below _ _) (s₁.setTop (mkF m 17 #[.val (.double 5324914135746594931), .second] [(.double 5324914135746594931)]))
  refine own_go (fun _ k => XS.dloadN X0.here hx rfl (hb hby d1_17) rfl k) ?_
  show own_Goes p e below (own_End s below _ _) (s₁.setTop (mkF m 18 #[.val (.double 5324914135746594931), .second] [(.double 5324914135746594931), (.double 5324914135746594931)]))
  refine own_go (fun _ k => XS.dmulS X0.here hx rfl (hb hby d1_18) rfl own_sn3 own_sq3 k) ?_
  show own_Goes p e below (own_End s below _ _) (s₁.setTop (mkF m 19 #[.val (.double 5324914135746594931), .second] [(.double 6043257259031049059)]))
  refine own_go (fun _ k => XS.dstoreN X0.here hx rfl (hb hby d1_19) rfl (l' := #[.val (.double 6043257259031049059), .second]) rfl k) ?_
  show own_Goes p e below (own_End s below _ _) (s₁.setTop (mkF m 20 #[.val (.double 6043257259031049059), .second] []))
  refine own_go (fun _ k => XS.dloadN X0.here hx rfl (hb hby d1_20) rfl k) ?_
  show own_Goes p e below (own_End s below _ _) (s₁.setTop (mkF m 21 #[.val (.double 6043257259031049059), .second] [(.double 6043257259031049059)]))
  refine own_go (fun _ k => XS.dloadN X0.here hx rfl (hb hby d1_21) rfl k) ?_
  show own_Goes p e below (own_End s below _ _) (s₁.setTop (mkF m 22 #[.val (.double 6043257259031049059), .second] [(.double 6043257259031049059), (.double 6043257259031049059)]))
  refine own_go (fun _ k => XS.dmulS X0.here hx rfl (hb hby d1_22) rfl own_sn4 own_sq4 k) ?_
  show own_Goes p e below (own_End s below _ _) (s₁.setTop (mkF m 23 #[.val (.double 6043257259031049059), .second] [(.double 7479368607221621995)]))
  refine own_go (fun _ k => XS.dstoreN X0.here hx rfl (hb hby d1_23) rfl (l' := #[.val (.double 7479368607221621995), .second]) rfl k) ?_
  show own_Goes p e below (own_End s below _ _) (s₁.setTop (mkF m 24 #[.val (.double 7479368607221621995), .second] []))
  refine own_go (fun _ k => XS.dloadN X0.here hx rfl (hb hby d1_24) rfl k) ?_
  show own_Goes p e below (own_End s below _ _) (s₁.setTop (mkF m 25 #[.val (.double 7479368607221621995), .second] [(.double 7479368607221621995)]))
  refine own_go (fun _ k => XS.dloadN X0.here hx rfl (hb hby d1_25) rfl k) ?_
  show own_Goes p e below (own_End s below _ _) (s₁.setTop (mkF m 26 #[.val (.double 7479368607221621995), .second] [(.double 7479368607221621995), (.double 7479368607221621995)]))
  refine own_go (fun _ k => XS.dmulS X0.here hx rfl (hb hby d1_26) rfl own_sn5 own_sq5 k) ?_
  show own_Goes p e below (own_End s below _ _) (s₁.setTop (mkF m 27 #[.val (.double 7479368607221621995), .second] [(.double 9218868437227405312)]))
  refine own_go (fun _ k => XS.dstoreN X0.here hx rfl (hb hby d1_27) rfl (l' := #[.val (.double 9218868437227405312), .second]) rfl k) ?_
  show own_Goes p e below (own_End s below _ _) (s₁.setTop (mkF m 28 #[.val (.double 9218868437227405312), .second] []))
  refine own_go (fun _ k => XS.dloadN X0.here hx rfl (hb hby d1_28) rfl k) ?_
  show own_Goes p e below (own_End s below _ _) (s₁.setTop (mkF m 29 #[.val (.double 9218868437227405312), .second] [(.double 9218868437227405312)]))
  exact own_retD X0 hx Bd.notSynchronized Bd.returns (hb hby d1_29) ⟨rfl, e0, rfl⟩ (by decide) (by decide)
set_option maxRecDepth 65536 in
set_option maxHeartbeats 40000000 in
theorem own_ord (l : Launch) (Z : State) (a0 : Array Value) (hw : ∀ d ∈ tables_1, d.before a0 Z = true) (h0 : Heap) (a : Addr) (k : Int32) (F : Fld Z h0 a "java/lang/Enum" "ordinal" "I" (.int k)) : own_Met l Z own_ordN jdk_37_method_2_code 1 (some .int) ({ frames := 0, cells := 0, slots := 0, locals := 0 } : Room) [] #[(.ref a)] h0 (own_Pure (some (.int k)) h0) := by
  refine own_met (plainFor_of_name pn_3) ?_
  intro p e s m below meth c s₁ Bd hml hZ e0
  have hx := Bd.exec
  have hby := Bd.bytes
  have hown : s.vm.findClass "java/lang/Enum" = some m.cls := findClass_of_methodNamed Bd.named
  have hnm := (name_of_methodNamed Bd.named Bd.method).1
  have X0 : Stand p l e ({ frames := 0, cells := 0, slots := 0, locals := 0 } : Room) s m #[(.ref a)] below meth c s₁ [] 0 0 := Stand.of_body Bd
  rw [ef_3]
  show own_Goes p e below (own_End s below _ _) (s₁.setTop (mkF m 0 #[.val (.ref a)] []))
  refine own_go (fun _ k => XS.aloadN X0.here hx rfl (hb hby d3_0) rfl rfl k) ?_
  show own_Goes p e below (own_End s below _ _) (s₁.setTop (mkF m 1 #[.val (.ref a)] [(.ref a)]))
  obtain ⟨T1, X1, e1, st1⟩ := getF X0 hx hZ hown (host := "") (Or.inl (hw _ (List.mem_of_getElem? (i := 21) rfl))) Via.refl e0 F (g := (mkF m 1 #[.val (.ref a)] [(.ref a)])) rfl rfl (hb hby d3_1)
  refine own_go st1 ?_
  show own_Goes p e below (own_End s below _ _) (T1.setTop (mkF m 4 #[.val (.ref a)] [(.int k)]))
  exact own_retI X1 hx Bd.notSynchronized Bd.returns (hb hby d3_4) ⟨rfl, e1, rfl⟩ (by decide) (by decide)
def own_c (x y : UInt64) (o : CmpOp) : Int32 := cmpValue (FP.dcmp x y) o
def own_ad0 (x : UInt64) : Int32 := if ifCond.holds .lt (own_c x FP.dconst0 .l) = true then 0 else if ifCond.holds .ge (own_c x own_PINF .g) = true then 0 else 1
def own_ad1 (x : UInt64) : Int32 := if ifCond.holds .lt (own_c x FP.dconst0 .l) = true then 0 else if ifCond.holds .gt (own_c x FP.dconst1 .g) = true then 0 else 1
def own_ad2 (x : UInt64) : Int32 := if ifCond.holds .le (own_c x FP.dconst0 .l) = true then 0 else if ifCond.holds .ge (own_c x own_PINF .g) = true then 0 else 1
set_option maxRecDepth 65536 in
set_option maxHeartbeats 40000000 in
theorem own_adm0 (l : Launch) (Z : State) (a0 : Array Value) (hw : ∀ d ∈ tables_1, d.before a0 Z = true) (h0 : Heap) (a : Addr) (x : UInt64) (EE : Exa Z h0 a "com/example/skor/skor/Bm25$Parameter") (F : Fld Z h0 a "java/lang/Enum" "ordinal" "I" (.int 0)) : own_Met l Z own_admN prog_8_method_6_code 3 (some .boolean) ({ frames := 1, cells := 0, slots := 0, locals := 12 } : Room) [] #[(.ref a), (.double x)] h0 (own_Pure (some (.int (own_ad0 x))) h0) := by
  refine own_met (plainFor_of_name pn_2) ?_
  intro p e s m below meth c s₁ Bd hml hZ e0
  have hx := Bd.exec
  have hby := Bd.bytes
  have hown : s.vm.findClass "com/example/skor/skor/Bm25$Parameter" = some m.cls := findClass_of_methodNamed Bd.named
  have hnm := (name_of_methodNamed Bd.named Bd.method).1
  have X0 : Stand p l e ({ frames := 1, cells := 0, slots := 0, locals := 12 } : Room) s m #[(.ref a), (.double x)] below meth c s₁ [] 0 0 := Stand.of_body Bd
  rw [ef_2]
  show own_Goes p e below (own_End s below _ _) (s₁.setTop (mkF m 0 #[.val (.ref a), .val (.double x), .second] []))
  refine own_go (fun _ k => XS.aloadN X0.here hx rfl (hb hby d2_0) rfl rfl k) ?_
  show own_Goes p e below (own_End s below _ _) (s₁.setTop (mkF m 1 #[.val (.ref a), .val (.double x), .second] [(.ref a)]))
  obtain ⟨T1, X1, e1, st1⟩ := own_callUp X0 hx hZ (y := own_pordN) (z := own_ordN) (owner := "java/lang/Enum") hown (hw _ (List.mem_of_getElem? (i := 14) rfl)) (hw _ (List.mem_of_getElem? (i := 15) rfl)) (hw _ (List.mem_of_getElem? (i := 16) rfl)) (hw _ (List.mem_of_getElem? (i := 18) rfl)) (hw _ (List.mem_of_getElem? (i := 17) rfl)) (hw _ (List.mem_of_getElem? (i := 19) rfl)) (hw _ (List.mem_of_getElem? (i := 20) rfl)) (by decide) (own_ord l Z a0 hw h0 a 0 F) e0 EE (W := 0) (by decide) (by decide) (g := (mkF m 1 #[.val (.ref a), .val (.double x), .second] [(.ref a)])) rfl (by rw [hml]; rfl) (argsL := []) (rest := []) pd_3 rfl rfl (by show 2 * 0 + _ ≤ _; exact Nat.le_of_eq rfl) (hb hby d2_1) rfl (by decide) (by decide)
  refine own_go st1 ?_
  show own_Goes p e below (own_End s below _ _) (T1.setTop (mkF m 4 #[.val (.ref a), .val (.double x), .second] [(.int (0 : Int32))]))
  refine own_go (fun _ k => XS.tswIn X1.here hx rfl (pc0 := 4) (pc' := 42) (o := 38) rfl (hb hby d2_4) rfl (by decide) (by decide) (by decide) (by decide) k) ?_
  show own_Goes p e below (own_End s below _ _) (T1.setTop (mkF m 42 #[.val (.ref a), .val (.double x), .second] []))
  refine own_go (fun _ k => XS.dloadN X1.here hx rfl (hb hby d2_42) rfl k) ?_
  show own_Goes p e below (own_End s below _ _) (T1.setTop (mkF m 43 #[.val (.ref a), .val (.double x), .second] [(.double x)]))
  refine own_go (fun _ k => XS.dconst0 X1.here hx rfl (hb hby d2_43) rfl k) ?_
  show own_Goes p e below (own_End s below _ _) (T1.setTop (mkF m 44 #[.val (.ref a), .val (.double x), .second] [(.double FP.dconst0), (.double x)]))
  refine own_go (fun _ k => XS.dcmpS X1.here hx rfl (hb hby d2_44) rfl rfl k) ?_
  show own_Goes p e below (own_End s below _ _) (T1.setTop (mkF m 45 #[.val (.ref a), .val (.double x), .second] [(.int (own_c x FP.dconst0 .l))]))
  by_cases q1 : ifCond.holds .lt (own_c x FP.dconst0 .l) = true
  · refine own_go (fun _ k => XS.ifYes X1.here hx rfl (pc0 := 45) (pc' := 60) rfl (hb hby d2_45) rfl q1 (by decide) (by decide) k) ?_
    show own_Goes p e below (own_End s below _ _) (T1.setTop (mkF m 60 #[.val (.ref a), .val (.double x), .second] []))
    refine own_go (fun _ k => XS.iconst X1.here hx rfl (hb hby d2_60) k) ?_
    show own_Goes p e below (own_End s below _ _) (T1.setTop (mkF m 61 #[.val (.ref a), .val (.double x), .second] [(.int (0 : Int32))]))
    refine own_go (fun _ k => XS.goto X1.here hx rfl (pc0 := 61) (pc' := 103) rfl (hb hby d2_61) (by decide) (by decide) k) ?_
    show own_Goes p e below (own_End s below _ _) (T1.setTop (mkF m 103 #[.val (.ref a), .val (.double x), .second] [(.int (0 : Int32))]))
    exact own_retZ X1 hx Bd.notSynchronized Bd.returns rfl (hb hby d2_103) ⟨by rw [own_ad0, if_pos q1], e1, rfl⟩ (by decide) (by decide)
  · refine own_go (fun _ k => XS.ifNo X1.here hx rfl (hb hby d2_45) rfl (by simpa using q1) k) ?_
    show own_Goes p e below (own_End s below _ _) (T1.setTop (mkF m 48 #[.val (.ref a), .val (.double x), .second] []))
    refine own_go (fun _ k => XS.dloadN X1.here hx rfl (hb hby d2_48) rfl k) ?_
    show own_Goes p e below (own_End s below _ _) (T1.setTop (mkF m 49 #[.val (.ref a), .val (.double x), .second] [(.double x)]))
    refine own_go (Stand.ldc2DoubleC X1 hx hown (mvT hZ (hw _ (List.mem_of_getElem? (i := 23) rfl))) (g := (mkF m 49 #[.val (.ref a), .val (.double x), .second] [(.double x)])) rfl (hb hby d2_49)) ?_
    show own_Goes p e below (own_End s below _ _) (T1.setTop (mkF m 52 #[.val (.ref a), .val (.double x), .second] [(.double own_PINF), (.double x)]))
    refine own_go (fun _ k => XS.dcmpS X1.here hx rfl (hb hby d2_52) rfl rfl k) ?_
    show own_Goes p e below (own_End s below _ _) (T1.setTop (mkF m 53 #[.val (.ref a), .val (.double x), .second] [(.int (own_c x own_PINF .g))]))
    by_cases q2 : ifCond.holds .ge (own_c x own_PINF .g) = true
    · refine own_go (fun _ k => XS.ifYes X1.here hx rfl (pc0 := 53) (pc' := 60) rfl (hb hby d2_53) rfl q2 (by decide) (by decide) k) ?_
      show own_Goes p e below (own_End s below _ _) (T1.setTop (mkF m 60 #[.val (.ref a), .val (.double x), .second] []))
      refine own_go (fun _ k => XS.iconst X1.here hx rfl (hb hby d2_60) k) ?_
      show own_Goes p e below (own_End s below _ _) (T1.setTop (mkF m 61 #[.val (.ref a), .val (.double x), .second] [(.int (0 : Int32))]))
      refine own_go (fun _ k => XS.goto X1.here hx rfl (pc0 := 61) (pc' := 103) rfl (hb hby d2_61) (by decide) (by decide) k) ?_
      show own_Goes p e below (own_End s below _ _) (T1.setTop (mkF m 103 #[.val (.ref a), .val (.double x), .second] [(.int (0 : Int32))]))
      exact own_retZ X1 hx Bd.notSynchronized Bd.returns rfl (hb hby d2_103) ⟨by rw [own_ad0, if_neg q1, if_pos q2], e1, rfl⟩ (by decide) (by decide)
    · refine own_go (fun _ k => XS.ifNo X1.here hx rfl (hb hby d2_53) rfl (by simpa using q2) k) ?_
      show own_Goes p e below (own_End s below _ _) (T1.setTop (mkF m 56 #[.val (.ref a), .val (.double x), .second] []))
      refine own_go (fun _ k => XS.iconst X1.here hx rfl (hb hby d2_56) k) ?_
      show own_Goes p e below (own_End s below _ _) (T1.setTop (mkF m 57 #[.val (.ref a), .val (.double x), .second] [(.int (1 : Int32))]))
      refine own_go (fun _ k => XS.goto X1.here hx rfl (pc0 := 57) (pc' := 103) rfl (hb hby d2_57) (by decide) (by decide) k) ?_
      show own_Goes p e below (own_End s below _ _) (T1.setTop (mkF m 103 #[.val (.ref a), .val (.double x), .second] [(.int (1 : Int32))]))
      exact own_retZ X1 hx Bd.notSynchronized Bd.returns rfl (hb hby d2_103) ⟨by rw [own_ad0, if_neg q1, if_neg q2], e1, rfl⟩ (by decide) (by decide)
set_option maxRecDepth 65536 in
set_option maxHeartbeats 40000000 in
theorem own_adm1 (l : Launch) (Z : State) (a0 : Array Value) (hw : ∀ d ∈ tables_1, d.before a0 Z = true) (h0 : Heap) (a : Addr) (x : UInt64) (EE : Exa Z h0 a "com/example/skor/skor/Bm25$Parameter") (F : Fld Z h0 a "java/lang/Enum" "ordinal" "I" (.int 1)) : own_Met l Z own_admN prog_8_method_6_code 3 (some .boolean) ({ frames := 1, cells := 0, slots := 0, locals := 12 } : Room) [] #[(.ref a), (.double x)] h0 (own_Pure (some (.int (own_ad1 x))) h0) := by
  refine own_met (plainFor_of_name pn_2) ?_
  intro p e s m below meth c s₁ Bd hml hZ e0
  have hx := Bd.exec
  have hby := Bd.bytes
  have hown : s.vm.findClass "com/example/skor/skor/Bm25$Parameter" = some m.cls := findClass_of_methodNamed Bd.named
  have hnm := (name_of_methodNamed Bd.named Bd.method).1
  have X0 : Stand p l e ({ frames := 1, cells := 0, slots := 0, locals := 12 } : Room) s m #[(.ref a), (.double x)] below meth c s₁ [] 0 0 := Stand.of_body Bd
  rw [ef_2]
  show own_Goes p e below (own_End s below _ _) (s₁.setTop (mkF m 0 #[.val (.ref a), .val (.double x), .second] []))
  refine own_go (fun _ k => XS.aloadN X0.here hx rfl (hb hby d2_0) rfl rfl k) ?_
  show own_Goes p e below (own_End s below _ _) (s₁.setTop (mkF m 1 #[.val (.ref a), .val (.double x), .second] [(.ref a)]))
  obtain ⟨T1, X1, e1, st1⟩ := own_callUp X0 hx hZ (y := own_pordN) (z := own_ordN) (owner := "java/lang/Enum") hown (hw _ (List.mem_of_getElem? (i := 14) rfl)) (hw _ (List.mem_of_getElem? (i := 15) rfl)) (hw _ (List.mem_of_getElem? (i := 16) rfl)) (hw _ (List.mem_of_getElem? (i := 18) rfl)) (hw _ (List.mem_of_getElem? (i := 17) rfl)) (hw _ (List.mem_of_getElem? (i := 19) rfl)) (hw _ (List.mem_of_getElem? (i := 20) rfl)) (by decide) (own_ord l Z a0 hw h0 a 1 F) e0 EE (W := 0) (by decide) (by decide) (g := (mkF m 1 #[.val (.ref a), .val (.double x), .second] [(.ref a)])) rfl (by rw [hml]; rfl) (argsL := []) (rest := []) pd_3 rfl rfl (by show 2 * 0 + _ ≤ _; exact Nat.le_of_eq rfl) (hb hby d2_1) rfl (by decide) (by decide)
  refine own_go st1 ?_
  show own_Goes p e below (own_End s below _ _) (T1.setTop (mkF m 4 #[.val (.ref a), .val (.double x), .second] [(.int (1 : Int32))]))
  refine own_go (fun _ k => XS.tswIn X1.here hx rfl (pc0 := 4) (pc' := 64) (o := 60) rfl (hb hby d2_4) rfl (by decide) (by decide) (by decide) (by decide) k) ?_
  show own_Goes p e below (own_End s below _ _) (T1.setTop (mkF m 64 #[.val (.ref a), .val (.double x), .second] []))
  refine own_go (fun _ k => XS.dloadN X1.here hx rfl (hb hby d2_64) rfl k) ?_
  show own_Goes p e below (own_End s below _ _) (T1.setTop (mkF m 65 #[.val (.ref a), .val (.double x), .second] [(.double x)]))
  refine own_go (fun _ k => XS.dconst0 X1.here hx rfl (hb hby d2_65) rfl k) ?_
  show own_Goes p e below (own_End s below _ _) (T1.setTop (mkF m 66 #[.val (.ref a), .val (.double x), .second] [(.double FP.dconst0), (.double x)]))
  refine own_go (fun _ k => XS.dcmpS X1.here hx rfl (hb hby d2_66) rfl rfl k) ?_
  show own_Goes p e below (own_End s below _ _) (T1.setTop (mkF m 67 #[.val (.ref a), .val (.double x), .second] [(.int (own_c x FP.dconst0 .l))]))
  by_cases q1 : ifCond.holds .lt (own_c x FP.dconst0 .l) = true
  · refine own_go (fun _ k => XS.ifYes X1.here hx rfl (pc0 := 67) (pc' := 80) rfl (hb hby d2_67) rfl q1 (by decide) (by decide) k) ?_
    show own_Goes p e below (own_End s below _ _) (T1.setTop (mkF m 80 #[.val (.ref a), .val (.double x), .second] []))
    refine own_go (fun _ k => XS.iconst X1.here hx rfl (hb hby d2_80) k) ?_
    show own_Goes p e below (own_End s below _ _) (T1.setTop (mkF m 81 #[.val (.ref a), .val (.double x), .second] [(.int (0 : Int32))]))
    refine own_go (fun _ k => XS.goto X1.here hx rfl (pc0 := 81) (pc' := 103) rfl (hb hby d2_81) (by decide) (by decide) k) ?_
    show own_Goes p e below (own_End s below _ _) (T1.setTop (mkF m 103 #[.val (.ref a), .val (.double x), .second] [(.int (0 : Int32))]))
    exact own_retZ X1 hx Bd.notSynchronized Bd.returns rfl (hb hby d2_103) ⟨by rw [own_ad1, if_pos q1], e1, rfl⟩ (by decide) (by decide)
  · refine own_go (fun _ k => XS.ifNo X1.here hx rfl (hb hby d2_67) rfl (by simpa using q1) k) ?_
    show own_Goes p e below (own_End s below _ _) (T1.setTop (mkF m 70 #[.val (.ref a), .val (.double x), .second] []))
    refine own_go (fun _ k => XS.dloadN X1.here hx rfl (hb hby d2_70) rfl k) ?_
    show own_Goes p e below (own_End s below _ _) (T1.setTop (mkF m 71 #[.val (.ref a), .val (.double x), .second] [(.double x)]))
    refine own_go (fun _ k => XS.dconst1 X1.here hx rfl (hb hby d2_71) rfl k) ?_
    show own_Goes p e below (own_End s below _ _) (T1.setTop (mkF m 72 #[.val (.ref a), .val (.double x), .second] [(.double FP.dconst1), (.double x)]))
    refine own_go (fun _ k => XS.dcmpS X1.here hx rfl (hb hby d2_72) rfl rfl k) ?_
    show own_Goes p e below (own_End s below _ _) (T1.setTop (mkF m 73 #[.val (.ref a), .val (.double x), .second] [(.int (own_c x FP.dconst1 .g))]))
    by_cases q2 : ifCond.holds .gt (own_c x FP.dconst1 .g) = true
    · refine own_go (fun _ k => XS.ifYes X1.here hx rfl (pc0 := 73) (pc' := 80) rfl (hb hby d2_73) rfl q2 (by decide) (by decide) k) ?_
      show own_Goes p e below (own_End s below _ _) (T1.setTop (mkF m 80 #[.val (.ref a), .val (.double x), .second] []))
      refine own_go (fun _ k => XS.iconst X1.here hx rfl (hb hby d2_80) k) ?_
      show own_Goes p e below (own_End s below _ _) (T1.setTop (mkF m 81 #[.val (.ref a), .val (.double x), .second] [(.int (0 : Int32))]))
      refine own_go (fun _ k => XS.goto X1.here hx rfl (pc0 := 81) (pc' := 103) rfl (hb hby d2_81) (by decide) (by decide) k) ?_
      show own_Goes p e below (own_End s below _ _) (T1.setTop (mkF m 103 #[.val (.ref a), .val (.double x), .second] [(.int (0 : Int32))]))
      exact own_retZ X1 hx Bd.notSynchronized Bd.returns rfl (hb hby d2_103) ⟨by rw [own_ad1, if_neg q1, if_pos q2], e1, rfl⟩ (by decide) (by decide)
    · refine own_go (fun _ k => XS.ifNo X1.here hx rfl (hb hby d2_73) rfl (by simpa using q2) k) ?_
      show own_Goes p e below (own_End s below _ _) (T1.setTop (mkF m 76 #[.val (.ref a), .val (.double x), .second] []))
      refine own_go (fun _ k => XS.iconst X1.here hx rfl (hb hby d2_76) k) ?_
      show own_Goes p e below (own_End s below _ _) (T1.setTop (mkF m 77 #[.val (.ref a), .val (.double x), .second] [(.int (1 : Int32))]))
      refine own_go (fun _ k => XS.goto X1.here hx rfl (pc0 := 77) (pc' := 103) rfl (hb hby d2_77) (by decide) (by decide) k) ?_
      show own_Goes p e below (own_End s below _ _) (T1.setTop (mkF m 103 #[.val (.ref a), .val (.double x), .second] [(.int (1 : Int32))]))
      exact own_retZ X1 hx Bd.notSynchronized Bd.returns rfl (hb hby d2_103) ⟨by rw [own_ad1, if_neg q1, if_neg q2], e1, rfl⟩ (by decide) (by decide)
set_option maxRecDepth 65536 in
set_option maxHeartbeats 40000000 in
theorem own_adm2 (l : Launch) (Z : State) (a0 : Array Value) (hw : ∀ d ∈ tables_1, d.before a0 Z = true) (h0 : Heap) (a : Addr) (x : UInt64) (EE : Exa Z h0 a "com/example/skor/skor/Bm25$Parameter") (F : Fld Z h0 a "java/lang/Enum" "ordinal" "I" (.int 2)) : own_Met l Z own_admN prog_8_method_6_code 3 (some .boolean) ({ frames := 1, cells := 0, slots := 0, locals := 12 } : Room) [] #[(.ref a), (.double x)] h0 (own_Pure (some (.int (own_ad2 x))) h0) := by
  refine own_met (plainFor_of_name pn_2) ?_
  intro p e s m below meth c s₁ Bd hml hZ e0
  have hx := Bd.exec
  have hby := Bd.bytes
  have hown : s.vm.findClass "com/example/skor/skor/Bm25$Parameter" = some m.cls := findClass_of_methodNamed Bd.named
  have hnm := (name_of_methodNamed Bd.named Bd.method).1
  have X0 : Stand p l e ({ frames := 1, cells := 0, slots := 0, locals := 12 } : Room) s m #[(.ref a), (.double x)] below meth c s₁ [] 0 0 := Stand.of_body Bd
  rw [ef_2]
  show own_Goes p e below (own_End s below _ _) (s₁.setTop (mkF m 0 #[.val (.ref a), .val (.double x), .second] []))
  refine own_go (fun _ k => XS.aloadN X0.here hx rfl (hb hby d2_0) rfl rfl k) ?_
  show own_Goes p e below (own_End s below _ _) (s₁.setTop (mkF m 1 #[.val (.ref a), .val (.double x), .second] [(.ref a)]))
  obtain ⟨T1, X1, e1, st1⟩ := own_callUp X0 hx hZ (y := own_pordN) (z := own_ordN) (owner := "java/lang/Enum") hown (hw _ (List.mem_of_getElem? (i := 14) rfl)) (hw _ (List.mem_of_getElem? (i := 15) rfl)) (hw _ (List.mem_of_getElem? (i := 16) rfl)) (hw _ (List.mem_of_getElem? (i := 18) rfl)) (hw _ (List.mem_of_getElem? (i := 17) rfl)) (hw _ (List.mem_of_getElem? (i := 19) rfl)) (hw _ (List.mem_of_getElem? (i := 20) rfl)) (by decide) (own_ord l Z a0 hw h0 a 2 F) e0 EE (W := 0) (by decide) (by decide) (g := (mkF m 1 #[.val (.ref a), .val (.double x), .second] [(.ref a)])) rfl (by rw [hml]; rfl) (argsL := []) (rest := []) pd_3 rfl rfl (by show 2 * 0 + _ ≤ _; exact Nat.le_of_eq rfl) (hb hby d2_1) rfl (by decide) (by decide)
  refine own_go st1 ?_
  show own_Goes p e below (own_End s below _ _) (T1.setTop (mkF m 4 #[.val (.ref a), .val (.double x), .second] [(.int (2 : Int32))]))
  refine own_go (fun _ k => XS.tswIn X1.here hx rfl (pc0 := 4) (pc' := 84) (o := 80) rfl (hb hby d2_4) rfl (by decide) (by decide) (by decide) (by decide) k) ?_
  show own_Goes p e below (own_End s below _ _) (T1.setTop (mkF m 84 #[.val (.ref a), .val (.double x), .second] []))
  refine own_go (fun _ k => XS.dloadN X1.here hx rfl (hb hby d2_84) rfl k) ?_
  show own_Goes p e below (own_End s below _ _) (T1.setTop (mkF m 85 #[.val (.ref a), .val (.double x), .second] [(.double x)]))
  refine own_go (fun _ k => XS.dconst0 X1.here hx rfl (hb hby d2_85) rfl k) ?_
  show own_Goes p e below (own_End s below _ _) (T1.setTop (mkF m 86 #[.val (.ref a), .val (.double x), .second] [(.double FP.dconst0), (.double x)]))
  refine own_go (fun _ k => XS.dcmpS X1.here hx rfl (hb hby d2_86) rfl rfl k) ?_
  show own_Goes p e below (own_End s below _ _) (T1.setTop (mkF m 87 #[.val (.ref a), .val (.double x), .second] [(.int (own_c x FP.dconst0 .l))]))
  by_cases q1 : ifCond.holds .le (own_c x FP.dconst0 .l) = true
  · refine own_go (fun _ k => XS.ifYes X1.here hx rfl (pc0 := 87) (pc' := 102) rfl (hb hby d2_87) rfl q1 (by decide) (by decide) k) ?_
    show own_Goes p e below (own_End s below _ _) (T1.setTop (mkF m 102 #[.val (.ref a), .val (.double x), .second] []))
    refine own_go (fun _ k => XS.iconst X1.here hx rfl (hb hby d2_102) k) ?_
    show own_Goes p e below (own_End s below _ _) (T1.setTop (mkF m 103 #[.val (.ref a), .val (.double x), .second] [(.int (0 : Int32))]))
    exact own_retZ X1 hx Bd.notSynchronized Bd.returns rfl (hb hby d2_103) ⟨by rw [own_ad2, if_pos q1], e1, rfl⟩ (by decide) (by decide)
  · refine own_go (fun _ k => XS.ifNo X1.here hx rfl (hb hby d2_87) rfl (by simpa using q1) k) ?_
    show own_Goes p e below (own_End s below _ _) (T1.setTop (mkF m 90 #[.val (.ref a), .val (.double x), .second] []))
    refine own_go (fun _ k => XS.dloadN X1.here hx rfl (hb hby d2_90) rfl k) ?_
    show own_Goes p e below (own_End s below _ _) (T1.setTop (mkF m 91 #[.val (.ref a), .val (.double x), .second] [(.double x)]))
    refine own_go (Stand.ldc2DoubleC X1 hx hown (mvT hZ (hw _ (List.mem_of_getElem? (i := 23) rfl))) (g := (mkF m 91 #[.val (.ref a), .val (.double x), .second] [(.double x)])) rfl (hb hby d2_91)) ?_
    show own_Goes p e below (own_End s below _ _) (T1.setTop (mkF m 94 #[.val (.ref a), .val (.double x), .second] [(.double own_PINF), (.double x)]))
    refine own_go (fun _ k => XS.dcmpS X1.here hx rfl (hb hby d2_94) rfl rfl k) ?_
    show own_Goes p e below (own_End s below _ _) (T1.setTop (mkF m 95 #[.val (.ref a), .val (.double x), .second] [(.int (own_c x own_PINF .g))]))
    by_cases q2 : ifCond.holds .ge (own_c x own_PINF .g) = true
    · refine own_go (fun _ k => XS.ifYes X1.here hx rfl (pc0 := 95) (pc' := 102) rfl (hb hby d2_95) rfl q2 (by decide) (by decide) k) ?_
      show own_Goes p e below (own_End s below _ _) (T1.setTop (mkF m 102 #[.val (.ref a), .val (.double x), .second] []))
      refine own_go (fun _ k => XS.iconst X1.here hx rfl (hb hby d2_102) k) ?_
      show own_Goes p e below (own_End s below _ _) (T1.setTop (mkF m 103 #[.val (.ref a), .val (.double x), .second] [(.int (0 : Int32))]))
      exact own_retZ X1 hx Bd.notSynchronized Bd.returns rfl (hb hby d2_103) ⟨by rw [own_ad2, if_neg q1, if_pos q2], e1, rfl⟩ (by decide) (by decide)
    · refine own_go (fun _ k => XS.ifNo X1.here hx rfl (hb hby d2_95) rfl (by simpa using q2) k) ?_
      show own_Goes p e below (own_End s below _ _) (T1.setTop (mkF m 98 #[.val (.ref a), .val (.double x), .second] []))
      refine own_go (fun _ k => XS.iconst X1.here hx rfl (hb hby d2_98) k) ?_
      show own_Goes p e below (own_End s below _ _) (T1.setTop (mkF m 99 #[.val (.ref a), .val (.double x), .second] [(.int (1 : Int32))]))
      refine own_go (fun _ k => XS.goto X1.here hx rfl (pc0 := 99) (pc' := 103) rfl (hb hby d2_99) (by decide) (by decide) k) ?_
      show own_Goes p e below (own_End s below _ _) (T1.setTop (mkF m 103 #[.val (.ref a), .val (.double x), .second] [(.int (1 : Int32))]))
      exact own_retZ X1 hx Bd.notSynchronized Bd.returns rfl (hb hby d2_103) ⟨by rw [own_ad2, if_neg q1, if_neg q2], e1, rfl⟩ (by decide) (by decide)
def own_w (k : Int32) : Int32 := (k &&& (2147483647 : Int32)) % (3 : Int32)
theorem own_w_cases (k : Int32) : own_w k = 0 ∨ own_w k = 1 ∨ own_w k = 2 := by
  have h1 := c_mask k 2147483647 31 (by decide) (by decide)
  have h2 := (c_irem (k &&& 2147483647) 3 3 (by decide)).1 (by omega)
  have h5 : (own_w k).toInt = ((k &&& (2147483647 : Int32)) % (3 : Int32)).toInt := rfl
  have h7 : (own_w k).toInt = 0 ∨ (own_w k).toInt = 1 ∨ (own_w k).toInt = 2 := by omega
  rcases h7 with h | h | h
  · exact Or.inl (Int32.toInt_inj.mp (by rw [h]; decide))
  · exact Or.inr (Or.inl (Int32.toInt_inj.mp (by rw [h]; decide)))
  · exact Or.inr (Or.inr (Int32.toInt_inj.mp (by rw [h]; decide)))
def own_sh (q : Int32) : Int32 := (1 : Int32) <<< ((q &&& (31 : Int32)) &&& 31)
theorem own_sh_ne (q : Int32) : own_sh q ≠ 0 := by
  intro h
  have h1 := c_ishl 1 (q &&& 31) _ rfl
  have h2 : ((1 : Int32) <<< ((q &&& 31) &&& 31)).toInt = 0 := by
    have : own_sh q = (1 : Int32) <<< ((q &&& 31) &&& 31) := rfl
    rw [← this, h]; decide
  rw [h2] at h1
  have h3 : (q &&& 31).toBitVec.toNat % 32 ≤ 31 := by omega
  have h4 : 2 ^ ((q &&& 31).toBitVec.toNat % 32) ≤ 2 ^ 31 := Nat.pow_le_pow_right (by decide) h3
  have h5 : 0 < 2 ^ ((q &&& 31).toBitVec.toNat % 32) := Nat.pow_pos (by decide)
  have h6 : (1 : Int32).toInt = 1 := by decide
  rw [h6] at h1
  generalize hX : 2 ^ ((q &&& 31).toBitVec.toNat % 32) = X at h1 h4 h5
  omega
def own_val (s q : Int32) : UInt64 := FP.ddiv (FP.i2d s) (FP.i2d (own_sh q))
theorem own_i2d_big (v : Int32) (h : v ≠ 0) : Big64 1023 (FP.i2d v) := FP.Core.i2d_big (fun q => h (Int32.toInt_inj.mp q))
theorem own_i2d_nz (v : Int32) (h : v ≠ 0) : Nz64 (FP.i2d v) := by
  have := own_i2d_big v h
  rw [nz64_iff]
  unfold Big64 at this
  omega
theorem own_val_nn (s q : Int32) : NoNaN64 (own_val s q) := ddiv_out (i2d_fin s).noNaN (i2d_fin _) (own_i2d_nz _ (own_sh_ne q))
theorem own_val_fin (s q : Int32) : Fin64 (own_val s q) := by
  have h1 : Mag64 1056 (FP.i2d s) := FP.Core.i2d_mag s
  have h2 := ddiv_mag h1 (own_i2d_big _ (own_sh_ne q)) (by decide) (by decide)
  have h3 : Mag64 1057 (own_val s q) := h2
  unfold Mag64 at h3
  rw [fin64_iff]
  omega
def own_Val (x : UInt64) (f : Int32) : Prop := (f = 0 ∧ (x = own_PINF ∨ x = own_NINF)) ∨ (f = 1 ∧ Fin64 x)
def own_ex0 (f : Int32) (x : UInt64) : Int32 := if ifCond.holds .eq f = true then 0 else if ifCond.holds .lt (own_c x FP.dconst0 .g) = true then 0 else 1
def own_ex1 (f : Int32) (x : UInt64) : Int32 := if ifCond.holds .eq f = true then 0 else if ifCond.holds .lt (own_c x FP.dconst0 .g) = true then 0 else if ifCond.holds .lt (own_c FP.dconst1 x .g) = true then 0 else 1
def own_ex2 (f : Int32) (x : UInt64) : Int32 := if ifCond.holds .eq f = true then 0 else if ifCond.holds .ge (own_c FP.dconst0 x .g) = true then 0 else 1
theorem own_z_nn : NoNaN64 FP.dconst0 := by unfold NoNaN64; decide +kernel
theorem own_o_nn : NoNaN64 FP.dconst1 := by unfold NoNaN64; decide +kernel
theorem own_same0 {x : UInt64} {f : Int32} (h : own_Val x f) : own_ad0 x = own_ex0 f x := by
  rcases h with ⟨rfl, rfl | rfl⟩ | ⟨rfl, hx⟩
  · decide +kernel
  · decide +kernel
  · obtain ⟨o, ho⟩ := dcmp_of_noNaN hx.noNaN own_z_nn
    have hi : ∀ u, own_c x own_PINF u = -1 := fun u => dcmp_pinf hx u
    rw [own_ad0, own_ex0, hi .g, own_c, own_c, ho]
    cases o <;> decide
theorem own_same1 {x : UInt64} {f : Int32} (h : own_Val x f) : own_ad1 x = own_ex1 f x := by
  rcases h with ⟨rfl, rfl | rfl⟩ | ⟨rfl, hx⟩
  · decide +kernel
  · decide +kernel
  · obtain ⟨o, ho⟩ := dcmp_of_noNaN hx.noNaN own_z_nn
    obtain ⟨o', ho'⟩ := dcmp_of_noNaN hx.noNaN own_o_nn
    have hs : FP.dcmp FP.dconst1 x = (FP.dcmp x FP.dconst1).map Ordering.swap := FP.Core.dcmp_swap _ _
    simp only [own_ad1, own_ex1, own_c, hs, ho, ho']
    cases o <;> cases o' <;> decide
theorem own_same2 {x : UInt64} {f : Int32} (h : own_Val x f) : own_ad2 x = own_ex2 f x := by
  rcases h with ⟨rfl, rfl | rfl⟩ | ⟨rfl, hx⟩
  · decide +kernel
  · decide +kernel
  · obtain ⟨o, ho⟩ := dcmp_of_noNaN hx.noNaN own_z_nn
    have hi : ∀ u, own_c x own_PINF u = -1 := fun u => dcmp_pinf hx u
    have hs : FP.dcmp FP.dconst0 x = (FP.dcmp x FP.dconst0).map Ordering.swap := FP.Core.dcmp_swap _ _
    rw [own_ad2, own_ex2, hi .g, own_c, own_c, hs, ho]
    cases o <;> decide
def own_Q (n0 : Nat) (v : Option Value) (h : Heap) (L : List Loc) : Prop := v = some (.int 1) ∧ Fr n0 L
set_option maxRecDepth 65536 in
set_option maxHeartbeats 40000000 in
theorem own_D0 (l : Launch) (Z : State) (a0 : Array Value) (hw : ∀ d ∈ tables_1, d.before a0 Z = true) (ws : List Jvm.Cond) (p1 p2 p3 p4 : Int32) (h0 : Heap) (n0 : Nat) (p : Program) (e : Env) (s : State) (m : MethodId) (below : List Frame) (meth : Method) (c : Code) (s₁ : State) (Bd : BodyLoose p l x (head1 (Jvm.Cond.code x code maxLocals ret :: ws) room_1) code maxLocals ret e s m #[(.int p1), (.int p2), (.int p3), (.int p4)] below meth c s₁) (hml : c.maxLocals = maxLocals) (hZ : Z.Warmed39 s.vm) (T : State) (X : Stand p l e room_1 s m #[(.int p1), (.int p2), (.int p3), (.int p4)] below meth c T [] 0 0) (eT : T.heap = h0) (a : Addr) (EE : Exa Z h0 a "com/example/skor/skor/Bm25$Parameter") (F : Fld Z h0 a "java/lang/Enum" "ordinal" "I" (.int 0)) (x : UInt64) (f cc E : Int32) (hE : own_ad0 x = E) :
    own_Goes p e below (own_End s below room_1 (own_Q n0)) (T.setTop (mkF m 196 #[.val (.int p1), .val (.int p2), .val (.int p3), .val (.int p4), .val (.int (own_w p1)), .val (.ref a), .val (.int cc), .val (.double own_PINF), .second, .val (.double x), .second, .val (.int f), .val (.int E)] [])) := by
  have hx := Bd.exec
  have hby := Bd.bytes
  have hown : s.vm.findClass "com/example/skor/skor/ParameterAdmitsPinLaw" = some m.cls := findClass_of_methodNamed Bd.named
  show own_Goes p e below (own_End s below _ _) (T.setTop (mkF m 196 #[.val (.int p1), .val (.int p2), .val (.int p3), .val (.int p4), .val (.int (own_w p1)), .val (.ref a), .val (.int cc), .val (.double own_PINF), .second, .val (.double x), .second, .val (.int f), .val (.int E)] []))
  refine own_go (fun _ k => XS.aload X.here hx rfl (hb hby at_196) rfl rfl k) ?_
  show own_Goes p e below (own_End s below _ _) (T.setTop (mkF m 198 #[.val (.int p1), .val (.int p2), .val (.int p3), .val (.int p4), .val (.int (own_w p1)), .val (.ref a), .val (.int cc), .val (.double own_PINF), .second, .val (.double x), .second, .val (.int f), .val (.int E)] [(.ref a)]))
  refine own_go (fun _ k => XS.dload X.here hx rfl (hb hby at_198) rfl k) ?_
  show own_Goes p e below (own_End s below _ _) (T.setTop (mkF m 200 #[.val (.int p1), .val (.int p2), .val (.int p3), .val (.int p4), .val (.int (own_w p1)), .val (.ref a), .val (.int cc), .val (.double own_PINF), .second, .val (.double x), .second, .val (.int f), .val (.int E)] [(.double x), (.ref a)]))
  obtain ⟨v1, T1, L1, X1, ⟨u1, u2, u3⟩, st1⟩ := own_callV X hx hZ (y := own_admN) (z := own_admN) hown (hw _ (List.mem_of_getElem? (i := 9) rfl)) (hw _ (List.mem_of_getElem? (i := 10) rfl)) (hw _ (List.mem_of_getElem? (i := 12) rfl)) (hw _ (List.mem_of_getElem? (i := 11) rfl)) (hw _ (List.mem_of_getElem? (i := 2) rfl)) (hw _ (List.mem_of_getElem? (i := 13) rfl)) (notFace_of_selects (args := #[]) (mvT hZ (hw _ (List.mem_of_getElem? (i := 12) rfl)))) (by decide) (own_adm0 l Z a0 hw h0 a x EE F) eT EE (W := 0) (by decide) (by decide) (g := (mkF m 200 #[.val (.int p1), .val (.int p2), .val (.int p3), .val (.int p4), .val (.int (own_w p1)), .val (.ref a), .val (.int cc), .val (.double own_PINF), .second, .val (.double x), .second, .val (.int f), .val (.int E)] [(.double x), (.ref a)])) rfl (by rw [hml]; rfl) (argsL := [(.double x)]) (rest := []) pd_2 rfl rfl (by show 2 * 0 + _ ≤ _; exact Nat.le_of_eq rfl) (hb hby at_200) rfl (by decide) (by decide)
  subst u1 u3
  rw [List.append_nil] at X1
  refine own_go st1 ?_
  show own_Goes p e below (own_End s below _ _) (T1.setTop (mkF m 203 #[.val (.int p1), .val (.int p2), .val (.int p3), .val (.int p4), .val (.int (own_w p1)), .val (.ref a), .val (.int cc), .val (.double own_PINF), .second, .val (.double x), .second, .val (.int f), .val (.int E)] [(.int (own_ad0 x))]))
  refine own_go (fun _ k => XS.iload X1.here hx rfl (hb hby at_203) rfl k) ?_
  show own_Goes p e below (own_End s below _ _) (T1.setTop (mkF m 205 #[.val (.int p1), .val (.int p2), .val (.int p3), .val (.int p4), .val (.int (own_w p1)), .val (.ref a), .val (.int cc), .val (.double own_PINF), .second, .val (.double x), .second, .val (.int f), .val (.int E)] [(.int E), (.int (own_ad0 x))]))
  refine own_go (fun _ k => XS.icmpNo X1.here hx rfl (hb hby at_205) rfl (teq hE).2 k) ?_
  show own_Goes p e below (own_End s below _ _) (T1.setTop (mkF m 208 #[.val (.int p1), .val (.int p2), .val (.int p3), .val (.int p4), .val (.int (own_w p1)), .val (.ref a), .val (.int cc), .val (.double own_PINF), .second, .val (.double x), .second, .val (.int f), .val (.int E)] []))
  refine own_go (fun _ k => XS.iconst X1.here hx rfl (hb hby at_208) k) ?_
  show own_Goes p e below (own_End s below _ _) (T1.setTop (mkF m 209 #[.val (.int p1), .val (.int p2), .val (.int p3), .val (.int p4), .val (.int (own_w p1)), .val (.ref a), .val (.int cc), .val (.double own_PINF), .second, .val (.double x), .second, .val (.int f), .val (.int E)] [(.int (1 : Int32))]))
  refine own_go (fun _ k => XS.goto X1.here hx rfl (pc0 := 209) (pc' := 213) rfl (hb hby at_209) (by decide) (by decide) k) ?_
  show own_Goes p e below (own_End s below _ _) (T1.setTop (mkF m 213 #[.val (.int p1), .val (.int p2), .val (.int p3), .val (.int p4), .val (.int (own_w p1)), .val (.ref a), .val (.int cc), .val (.double own_PINF), .second, .val (.double x), .second, .val (.int f), .val (.int E)] [(.int (1 : Int32))]))
  exact own_retZ X1 hx Bd.notSynchronized Bd.returns rfl (hb hby at_213) ⟨rfl, Fr.nil n0⟩ (by decide) (by decide)
set_option maxRecDepth 65536 in
set_option maxHeartbeats 40000000 in
theorem own_C0 (l : Launch) (Z : State) (a0 : Array Value) (hw : ∀ d ∈ tables_1, d.before a0 Z = true) (ws : List Jvm.Cond) (p1 p2 p3 p4 : Int32) (h0 : Heap) (n0 : Nat) (p : Program) (e : Env) (s : State) (m : MethodId) (below : List Frame) (meth : Method) (c : Code) (s₁ : State) (Bd : BodyLoose p l x (head1 (Jvm.Cond.code x code maxLocals ret :: ws) room_1) code maxLocals ret e s m #[(.int p1), (.int p2), (.int p3), (.int p4)] below meth c s₁) (hml : c.maxLocals = maxLocals) (hZ : Z.Warmed39 s.vm) (T : State) (X : Stand p l e room_1 s m #[(.int p1), (.int p2), (.int p3), (.int p4)] below meth c T [] 0 0) (eT : T.heap = h0) (hwh : own_w p1 = 0) (a : Addr) (EE : Exa Z h0 a "com/example/skor/skor/Bm25$Parameter") (F : Fld Z h0 a "java/lang/Enum" "ordinal" "I" (.int 0)) (x : UInt64) (f cc : Int32) (hE : own_ad0 x = own_ex0 f x) :
    own_Goes p e below (own_End s below room_1 (own_Q n0)) (T.setTop (mkF m 115 #[.val (.int p1), .val (.int p2), .val (.int p3), .val (.int p4), .val (.int (own_w p1)), .val (.ref a), .val (.int cc), .val (.double own_PINF), .second, .val (.double x), .second, .val (.int f), .unset] [])) := by
  have hx := Bd.exec
  have hby := Bd.bytes
  have hown : s.vm.findClass "com/example/skor/skor/ParameterAdmitsPinLaw" = some m.cls := findClass_of_methodNamed Bd.named
  show own_Goes p e below (own_End s below _ _) (T.setTop (mkF m 115 #[.val (.int p1), .val (.int p2), .val (.int p3), .val (.int p4), .val (.int (own_w p1)), .val (.ref a), .val (.int cc), .val (.double own_PINF), .second, .val (.double x), .second, .val (.int f), .unset] []))
  refine own_go (fun _ k => XS.iload X.here hx rfl (hb hby at_115) rfl k) ?_
  show own_Goes p e below (own_End s below _ _) (T.setTop (mkF m 117 #[.val (.int p1), .val (.int p2), .val (.int p3), .val (.int p4), .val (.int (own_w p1)), .val (.ref a), .val (.int cc), .val (.double own_PINF), .second, .val (.double x), .second, .val (.int f), .unset] [(.int (own_w p1))]))
  refine own_go (fun _ k => XS.ifNo X.here hx rfl (hb hby at_117) rfl (by rw [hwh]; decide) k) ?_
  show own_Goes p e below (own_End s below _ _) (T.setTop (mkF m 120 #[.val (.int p1), .val (.int p2), .val (.int p3), .val (.int p4), .val (.int (own_w p1)), .val (.ref a), .val (.int cc), .val (.double own_PINF), .second, .val (.double x), .second, .val (.int f), .unset] []))
  refine own_go (fun _ k => XS.iload X.here hx rfl (hb hby at_120) rfl k) ?_
  show own_Goes p e below (own_End s below _ _) (T.setTop (mkF m 122 #[.val (.int p1), .val (.int p2), .val (.int p3), .val (.int p4), .val (.int (own_w p1)), .val (.ref a), .val (.int cc), .val (.double own_PINF), .second, .val (.double x), .second, .val (.int f), .unset] [(.int f)]))
  by_cases q0 : ifCond.holds .eq f = true
  · refine own_go (fun _ k => XS.ifYes X.here hx rfl (pc0 := 122) (pc' := 136) rfl (hb hby at_122) rfl q0 (by decide) (by decide) k) ?_
    show own_Goes p e below (own_End s below _ _) (T.setTop (mkF m 136 #[.val (.int p1), .val (.int p2), .val (.int p3), .val (.int p4), .val (.int (own_w p1)), .val (.ref a), .val (.int cc), .val (.double own_PINF), .second, .val (.double x), .second, .val (.int f), .unset] []))
    refine own_go (fun _ k => XS.iconst X.here hx rfl (hb hby at_136) k) ?_
    show own_Goes p e below (own_End s below _ _) (T.setTop (mkF m 137 #[.val (.int p1), .val (.int p2), .val (.int p3), .val (.int p4), .val (.int (own_w p1)), .val (.ref a), .val (.int cc), .val (.double own_PINF), .second, .val (.double x), .second, .val (.int f), .unset] [(.int (0 : Int32))]))
    refine own_go (fun _ k => XS.istore X.here hx rfl (hb hby at_137) rfl (l' := #[.val (.int p1), .val (.int p2), .val (.int p3), .val (.int p4), .val (.int (own_w p1)), .val (.ref a), .val (.int cc), .val (.double own_PINF), .second, .val (.double x), .second, .val (.int f), .val (.int (0 : Int32))]) rfl k) ?_
    show own_Goes p e below (own_End s below _ _) (T.setTop (mkF m 139 #[.val (.int p1), .val (.int p2), .val (.int p3), .val (.int p4), .val (.int (own_w p1)), .val (.ref a), .val (.int cc), .val (.double own_PINF), .second, .val (.double x), .second, .val (.int f), .val (.int (0 : Int32))] []))
    refine own_go (fun _ k => XS.goto X.here hx rfl (pc0 := 139) (pc' := 196) rfl (hb hby at_139) (by decide) (by decide) k) ?_
    show own_Goes p e below (own_End s below _ _) (T.setTop (mkF m 196 #[.val (.int p1), .val (.int p2), .val (.int p3), .val (.int p4), .val (.int (own_w p1)), .val (.ref a), .val (.int cc), .val (.double own_PINF), .second, .val (.double x), .second, .val (.int f), .val (.int (0 : Int32))] []))
    exact own_D0 l Z a0 hw ws p1 p2 p3 p4 h0 n0 p e s m below meth c s₁ Bd hml hZ T X eT a EE F x f cc (0 : Int32) (hE.trans (by rw [own_ex0, if_pos q0]))
  · refine own_go (fun _ k => XS.ifNo X.here hx rfl (hb hby at_122) rfl (by simpa using q0) k) ?_
    show own_Goes p e below (own_End s below _ _) (T.setTop (mkF m 125 #[.val (.int p1), .val (.int p2), .val (.int p3), .val (.int p4), .val (.int (own_w p1)), .val (.ref a), .val (.int cc), .val (.double own_PINF), .second, .val (.double x), .second, .val (.int f), .unset] []))
    refine own_go (fun _ k => XS.dload X.here hx rfl (hb hby at_125) rfl k) ?_
    show own_Goes p e below (own_End s below _ _) (T.setTop (mkF m 127 #[.val (.int p1), .val (.int p2), .val (.int p3), .val (.int p4), .val (.int (own_w p1)), .val (.ref a), .val (.int cc), .val (.double own_PINF), .second, .val (.double x), .second, .val (.int f), .unset] [(.double x)]))
    refine own_go (fun _ k => XS.dconst0 X.here hx rfl (hb hby at_127) rfl k) ?_
    show own_Goes p e below (own_End s below _ _) (T.setTop (mkF m 128 #[.val (.int p1), .val (.int p2), .val (.int p3), .val (.int p4), .val (.int (own_w p1)), .val (.ref a), .val (.int cc), .val (.double own_PINF), .second, .val (.double x), .second, .val (.int f), .unset] [(.double FP.dconst0), (.double x)]))
    refine own_go (fun _ k => XS.dcmpS X.here hx rfl (hb hby at_128) rfl rfl k) ?_
    show own_Goes p e below (own_End s below _ _) (T.setTop (mkF m 129 #[.val (.int p1), .val (.int p2), .val (.int p3), .val (.int p4), .val (.int (own_w p1)), .val (.ref a), .val (.int cc), .val (.double own_PINF), .second, .val (.double x), .second, .val (.int f), .unset] [(.int (own_c x FP.dconst0 .g))]))
    by_cases q1 : ifCond.holds .lt (own_c x FP.dconst0 .g) = true
    · refine own_go (fun _ k => XS.ifYes X.here hx rfl (pc0 := 129) (pc' := 136) rfl (hb hby at_129) rfl q1 (by decide) (by decide) k) ?_
      show own_Goes p e below (own_End s below _ _) (T.setTop (mkF m 136 #[.val (.int p1), .val (.int p2), .val (.int p3), .val (.int p4), .val (.int (own_w p1)), .val (.ref a), .val (.int cc), .val (.double own_PINF), .second, .val (.double x), .second, .val (.int f), .unset] []))
      refine own_go (fun _ k => XS.iconst X.here hx rfl (hb hby at_136) k) ?_
      show own_Goes p e below (own_End s below _ _) (T.setTop (mkF m 137 #[.val (.int p1), .val (.int p2), .val (.int p3), .val (.int p4), .val (.int (own_w p1)), .val (.ref a), .val (.int cc), .val (.double own_PINF), .second, .val (.double x), .second, .val (.int f), .unset] [(.int (0 : Int32))]))
      refine own_go (fun _ k => XS.istore X.here hx rfl (hb hby at_137) rfl (l' := #[.val (.int p1), .val (.int p2), .val (.int p3), .val (.int p4), .val (.int (own_w p1)), .val (.ref a), .val (.int cc), .val (.double own_PINF), .second, .val (.double x), .second, .val (.int f), .val (.int (0 : Int32))]) rfl k) ?_
      show own_Goes p e below (own_End s below _ _) (T.setTop (mkF m 139 #[.val (.int p1), .val (.int p2), .val (.int p3), .val (.int p4), .val (.int (own_w p1)), .val (.ref a), .val (.int cc), .val (.double own_PINF), .second, .val (.double x), .second, .val (.int f), .val (.int (0 : Int32))] []))
      refine own_go (fun _ k => XS.goto X.here hx rfl (pc0 := 139) (pc' := 196) rfl (hb hby at_139) (by decide) (by decide) k) ?_
      show own_Goes p e below (own_End s below _ _) (T.setTop (mkF m 196 #[.val (.int p1), .val (.int p2), .val (.int p3), .val (.int p4), .val (.int (own_w p1)), .val (.ref a), .val (.int cc), .val (.double own_PINF), .second, .val (.double x), .second, .val (.int f), .val (.int (0 : Int32))] []))
      exact own_D0 l Z a0 hw ws p1 p2 p3 p4 h0 n0 p e s m below meth c s₁ Bd hml hZ T X eT a EE F x f cc (0 : Int32) (hE.trans (by rw [own_ex0, if_neg q0, if_pos q1]))
    · refine own_go (fun _ k => XS.ifNo X.here hx rfl (hb hby at_129) rfl (by simpa using q1) k) ?_
      show own_Goes p e below (own_End s below _ _) (T.setTop (mkF m 132 #[.val (.int p1), .val (.int p2), .val (.int p3), .val (.int p4), .val (.int (own_w p1)), .val (.ref a), .val (.int cc), .val (.double own_PINF), .second, .val (.double x), .second, .val (.int f), .unset] []))
      refine own_go (fun _ k => XS.iconst X.here hx rfl (hb hby at_132) k) ?_
      show own_Goes p e below (own_End s below _ _) (T.setTop (mkF m 133 #[.val (.int p1), .val (.int p2), .val (.int p3), .val (.int p4), .val (.int (own_w p1)), .val (.ref a), .val (.int cc), .val (.double own_PINF), .second, .val (.double x), .second, .val (.int f), .unset] [(.int (1 : Int32))]))
      refine own_go (fun _ k => XS.goto X.here hx rfl (pc0 := 133) (pc' := 137) rfl (hb hby at_133) (by decide) (by decide) k) ?_
      show own_Goes p e below (own_End s below _ _) (T.setTop (mkF m 137 #[.val (.int p1), .val (.int p2), .val (.int p3), .val (.int p4), .val (.int (own_w p1)), .val (.ref a), .val (.int cc), .val (.double own_PINF), .second, .val (.double x), .second, .val (.int f), .unset] [(.int (1 : Int32))]))
      refine own_go (fun _ k => XS.istore X.here hx rfl (hb hby at_137) rfl (l' := #[.val (.int p1), .val (.int p2), .val (.int p3), .val (.int p4), .val (.int (own_w p1)), .val (.ref a), .val (.int cc), .val (.double own_PINF), .second, .val (.double x), .second, .val (.int f), .val (.int (1 : Int32))]) rfl k) ?_
      show own_Goes p e below (own_End s below _ _) (T.setTop (mkF m 139 #[.val (.int p1), .val (.int p2), .val (.int p3), .val (.int p4), .val (.int (own_w p1)), .val (.ref a), .val (.int cc), .val (.double own_PINF), .second, .val (.double x), .second, .val (.int f), .val (.int (1 : Int32))] []))
      refine own_go (fun _ k => XS.goto X.here hx rfl (pc0 := 139) (pc' := 196) rfl (hb hby at_139) (by decide) (by decide) k) ?_
      show own_Goes p e below (own_End s below _ _) (T.setTop (mkF m 196 #[.val (.int p1), .val (.int p2), .val (.int p3), .val (.int p4), .val (.int (own_w p1)), .val (.ref a), .val (.int cc), .val (.double own_PINF), .second, .val (.double x), .second, .val (.int f), .val (.int (1 : Int32))] []))
      exact own_D0 l Z a0 hw ws p1 p2 p3 p4 h0 n0 p e s m below meth c s₁ Bd hml hZ T X eT a EE F x f cc (1 : Int32) (hE.trans (by rw [own_ex0, if_neg q0, if_neg q1]))
set_option maxRecDepth 65536 in
set_option maxHeartbeats 40000000 in
theorem own_D1 (l : Launch) (Z : State) (a0 : Array Value) (hw : ∀ d ∈ tables_1, d.before a0 Z = true) (ws : List Jvm.Cond) (p1 p2 p3 p4 : Int32) (h0 : Heap) (n0 : Nat) (p : Program) (e : Env) (s : State) (m : MethodId) (below : List Frame) (meth : Method) (c : Code) (s₁ : State) (Bd : BodyLoose p l x (head1 (Jvm.Cond.code x code maxLocals ret :: ws) room_1) code maxLocals ret e s m #[(.int p1), (.int p2), (.int p3), (.int p4)] below meth c s₁) (hml : c.maxLocals = maxLocals) (hZ : Z.Warmed39 s.vm) (T : State) (X : Stand p l e room_1 s m #[(.int p1), (.int p2), (.int p3), (.int p4)] below meth c T [] 0 0) (eT : T.heap = h0) (a : Addr) (EE : Exa Z h0 a "com/example/skor/skor/Bm25$Parameter") (F : Fld Z h0 a "java/lang/Enum" "ordinal" "I" (.int 1)) (x : UInt64) (f cc E : Int32) (hE : own_ad1 x = E) :
    own_Goes p e below (own_End s below room_1 (own_Q n0)) (T.setTop (mkF m 196 #[.val (.int p1), .val (.int p2), .val (.int p3), .val (.int p4), .val (.int (own_w p1)), .val (.ref a), .val (.int cc), .val (.double own_PINF), .second, .val (.double x), .second, .val (.int f), .val (.int E)] [])) := by
  have hx := Bd.exec
  have hby := Bd.bytes
  have hown : s.vm.findClass "com/example/skor/skor/ParameterAdmitsPinLaw" = some m.cls := findClass_of_methodNamed Bd.named
  show own_Goes p e below (own_End s below _ _) (T.setTop (mkF m 196 #[.val (.int p1), .val (.int p2), .val (.int p3), .val (.int p4), .val (.int (own_w p1)), .val (.ref a), .val (.int cc), .val (.double own_PINF), .second, .val (.double x), .second, .val (.int f), .val (.int E)] []))
  refine own_go (fun _ k => XS.aload X.here hx rfl (hb hby at_196) rfl rfl k) ?_
  show own_Goes p e below (own_End s below _ _) (T.setTop (mkF m 198 #[.val (.int p1), .val (.int p2), .val (.int p3), .val (.int p4), .val (.int (own_w p1)), .val (.ref a), .val (.int cc), .val (.double own_PINF), .second, .val (.double x), .second, .val (.int f), .val (.int E)] [(.ref a)]))
  refine own_go (fun _ k => XS.dload X.here hx rfl (hb hby at_198) rfl k) ?_
  show own_Goes p e below (own_End s below _ _) (T.setTop (mkF m 200 #[.val (.int p1), .val (.int p2), .val (.int p3), .val (.int p4), .val (.int (own_w p1)), .val (.ref a), .val (.int cc), .val (.double own_PINF), .second, .val (.double x), .second, .val (.int f), .val (.int E)] [(.double x), (.ref a)]))
  obtain ⟨v1, T1, L1, X1, ⟨u1, u2, u3⟩, st1⟩ := own_callV X hx hZ (y := own_admN) (z := own_admN) hown (hw _ (List.mem_of_getElem? (i := 9) rfl)) (hw _ (List.mem_of_getElem? (i := 10) rfl)) (hw _ (List.mem_of_getElem? (i := 12) rfl)) (hw _ (List.mem_of_getElem? (i := 11) rfl)) (hw _ (List.mem_of_getElem? (i := 2) rfl)) (hw _ (List.mem_of_getElem? (i := 13) rfl)) (notFace_of_selects (args := #[]) (mvT hZ (hw _ (List.mem_of_getElem? (i := 12) rfl)))) (by decide) (own_adm1 l Z a0 hw h0 a x EE F) eT EE (W := 0) (by decide) (by decide) (g := (mkF m 200 #[.val (.int p1), .val (.int p2), .val (.int p3), .val (.int p4), .val (.int (own_w p1)), .val (.ref a), .val (.int cc), .val (.double own_PINF), .second, .val (.double x), .second, .val (.int f), .val (.int E)] [(.double x), (.ref a)])) rfl (by rw [hml]; rfl) (argsL := [(.double x)]) (rest := []) pd_2 rfl rfl (by show 2 * 0 + _ ≤ _; exact Nat.le_of_eq rfl) (hb hby at_200) rfl (by decide) (by decide)
  subst u1 u3
  rw [List.append_nil] at X1
  refine own_go st1 ?_
  show own_Goes p e below (own_End s below _ _) (T1.setTop (mkF m 203 #[.val (.int p1), .val (.int p2), .val (.int p3), .val (.int p4), .val (.int (own_w p1)), .val (.ref a), .val (.int cc), .val (.double own_PINF), .second, .val (.double x), .second, .val (.int f), .val (.int E)] [(.int (own_ad1 x))]))
  refine own_go (fun _ k => XS.iload X1.here hx rfl (hb hby at_203) rfl k) ?_
  show own_Goes p e below (own_End s below _ _) (T1.setTop (mkF m 205 #[.val (.int p1), .val (.int p2), .val (.int p3), .val (.int p4), .val (.int (own_w p1)), .val (.ref a), .val (.int cc), .val (.double own_PINF), .second, .val (.double x), .second, .val (.int f), .val (.int E)] [(.int E), (.int (own_ad1 x))]))
  refine own_go (fun _ k => XS.icmpNo X1.here hx rfl (hb hby at_205) rfl (teq hE).2 k) ?_
  show own_Goes p e below (own_End s below _ _) (T1.setTop (mkF m 208 #[.val (.int p1), .val (.int p2), .val (.int p3), .val (.int p4), .val (.int (own_w p1)), .val (.ref a), .val (.int cc), .val (.double own_PINF), .second, .val (.double x), .second, .val (.int f), .val (.int E)] []))
  refine own_go (fun _ k => XS.iconst X1.here hx rfl (hb hby at_208) k) ?_
  show own_Goes p e below (own_End s below _ _) (T1.setTop (mkF m 209 #[.val (.int p1), .val (.int p2), .val (.int p3), .val (.int p4), .val (.int (own_w p1)), .val (.ref a), .val (.int cc), .val (.double own_PINF), .second, .val (.double x), .second, .val (.int f), .val (.int E)] [(.int (1 : Int32))]))
  refine own_go (fun _ k => XS.goto X1.here hx rfl (pc0 := 209) (pc' := 213) rfl (hb hby at_209) (by decide) (by decide) k) ?_
  show own_Goes p e below (own_End s below _ _) (T1.setTop (mkF m 213 #[.val (.int p1), .val (.int p2), .val (.int p3), .val (.int p4), .val (.int (own_w p1)), .val (.ref a), .val (.int cc), .val (.double own_PINF), .second, .val (.double x), .second, .val (.int f), .val (.int E)] [(.int (1 : Int32))]))
  exact own_retZ X1 hx Bd.notSynchronized Bd.returns rfl (hb hby at_213) ⟨rfl, Fr.nil n0⟩ (by decide) (by decide)
set_option maxRecDepth 65536 in
set_option maxHeartbeats 40000000 in
theorem own_C1 (l : Launch) (Z : State) (a0 : Array Value) (hw : ∀ d ∈ tables_1, d.before a0 Z = true) (ws : List Jvm.Cond) (p1 p2 p3 p4 : Int32) (h0 : Heap) (n0 : Nat) (p : Program) (e : Env) (s : State) (m : MethodId) (below : List Frame) (meth : Method) (c : Code) (s₁ : State) (Bd : BodyLoose p l x (head1 (Jvm.Cond.code x code maxLocals ret :: ws) room_1) code maxLocals ret e s m #[(.int p1), (.int p2), (.int p3), (.int p4)] below meth c s₁) (hml : c.maxLocals = maxLocals) (hZ : Z.Warmed39 s.vm) (T : State) (X : Stand p l e room_1 s m #[(.int p1), (.int p2), (.int p3), (.int p4)] below meth c T [] 0 0) (eT : T.heap = h0) (hwh : own_w p1 = 1) (a : Addr) (EE : Exa Z h0 a "com/example/skor/skor/Bm25$Parameter") (F : Fld Z h0 a "java/lang/Enum" "ordinal" "I" (.int 1)) (x : UInt64) (f cc : Int32) (hE : own_ad1 x = own_ex1 f x) :
    own_Goes p e below (own_End s below room_1 (own_Q n0)) (T.setTop (mkF m 115 #[.val (.int p1), .val (.int p2), .val (.int p3), .val (.int p4), .val (.int (own_w p1)), .val (.ref a), .val (.int cc), .val (.double own_PINF), .second, .val (.double x), .second, .val (.int f), .unset] [])) := by
  have hx := Bd.exec
  have hby := Bd.bytes
  have hown : s.vm.findClass "com/example/skor/skor/ParameterAdmitsPinLaw" = some m.cls := findClass_of_methodNamed Bd.named
  show own_Goes p e below (own_End s below _ _) (T.setTop (mkF m 115 #[.val (.int p1), .val (.int p2), .val (.int p3), .val (.int p4), .val (.int (own_w p1)), .val (.ref a), .val (.int cc), .val (.double own_PINF), .second, .val (.double x), .second, .val (.int f), .unset] []))
  refine own_go (fun _ k => XS.iload X.here hx rfl (hb hby at_115) rfl k) ?_
  show own_Goes p e below (own_End s below _ _) (T.setTop (mkF m 117 #[.val (.int p1), .val (.int p2), .val (.int p3), .val (.int p4), .val (.int (own_w p1)), .val (.ref a), .val (.int cc), .val (.double own_PINF), .second, .val (.double x), .second, .val (.int f), .unset] [(.int (own_w p1))]))
  refine own_go (fun _ k => XS.ifYes X.here hx rfl (pc0 := 117) (pc' := 142) rfl (hb hby at_117) rfl (by rw [hwh]; decide) (by decide) (by decide) k) ?_
  show own_Goes p e below (own_End s below _ _) (T.setTop (mkF m 142 #[.val (.int p1), .val (.int p2), .val (.int p3), .val (.int p4), .val (.int (own_w p1)), .val (.ref a), .val (.int cc), .val (.double own_PINF), .second, .val (.double x), .second, .val (.int f), .unset] []))
  refine own_go (fun _ k => XS.iload X.here hx rfl (hb hby at_142) rfl k) ?_
  show own_Goes p e below (own_End s below _ _) (T.setTop (mkF m 144 #[.val (.int p1), .val (.int p2), .val (.int p3), .val (.int p4), .val (.int (own_w p1)), .val (.ref a), .val (.int cc), .val (.double own_PINF), .second, .val (.double x), .second, .val (.int f), .unset] [(.int (own_w p1))]))
  refine own_go (fun _ k => XS.iconst X.here hx rfl (hb hby at_144) k) ?_
  show own_Goes p e below (own_End s below _ _) (T.setTop (mkF m 145 #[.val (.int p1), .val (.int p2), .val (.int p3), .val (.int p4), .val (.int (own_w p1)), .val (.ref a), .val (.int cc), .val (.double own_PINF), .second, .val (.double x), .second, .val (.int f), .unset] [(.int (1 : Int32)), (.int (own_w p1))]))
  refine own_go (fun _ k => XS.icmpNo X.here hx rfl (hb hby at_145) rfl (teq hwh).2 k) ?_
  show own_Goes p e below (own_End s below _ _) (T.setTop (mkF m 148 #[.val (.int p1), .val (.int p2), .val (.int p3), .val (.int p4), .val (.int (own_w p1)), .val (.ref a), .val (.int cc), .val (.double own_PINF), .second, .val (.double x), .second, .val (.int f), .unset] []))
  refine own_go (fun _ k => XS.iload X.here hx rfl (hb hby at_148) rfl k) ?_
  show own_Goes p e below (own_End s below _ _) (T.setTop (mkF m 150 #[.val (.int p1), .val (.int p2), .val (.int p3), .val (.int p4), .val (.int (own_w p1)), .val (.ref a), .val (.int cc), .val (.double own_PINF), .second, .val (.double x), .second, .val (.int f), .unset] [(.int f)]))
  by_cases q0 : ifCond.holds .eq f = true
  · refine own_go (fun _ k => XS.ifYes X.here hx rfl (pc0 := 150) (pc' := 171) rfl (hb hby at_150) rfl q0 (by decide) (by decide) k) ?_
    show own_Goes p e below (own_End s below _ _) (T.setTop (mkF m 171 #[.val (.int p1), .val (.int p2), .val (.int p3), .val (.int p4), .val (.int (own_w p1)), .val (.ref a), .val (.int cc), .val (.double own_PINF), .second, .val (.double x), .second, .val (.int f), .unset] []))
    refine own_go (fun _ k => XS.iconst X.here hx rfl (hb hby at_171) k) ?_
    show own_Goes p e below (own_End s below _ _) (T.setTop (mkF m 172 #[.val (.int p1), .val (.int p2), .val (.int p3), .val (.int p4), .val (.int (own_w p1)), .val (.ref a), .val (.int cc), .val (.double own_PINF), .second, .val (.double x), .second, .val (.int f), .unset] [(.int (0 : Int32))]))
    refine own_go (fun _ k => XS.istore X.here hx rfl (hb hby at_172) rfl (l' := #[.val (.int p1), .val (.int p2), .val (.int p3), .val (.int p4), .val (.int (own_w p1)), .val (.ref a), .val (.int cc), .val (.double own_PINF), .second, .val (.double x), .second, .val (.int f), .val (.int (0 : Int32))]) rfl k) ?_
    show own_Goes p e below (own_End s below _ _) (T.setTop (mkF m 174 #[.val (.int p1), .val (.int p2), .val (.int p3), .val (.int p4), .val (.int (own_w p1)), .val (.ref a), .val (.int cc), .val (.double own_PINF), .second, .val (.double x), .second, .val (.int f), .val (.int (0 : Int32))] []))
    refine own_go (fun _ k => XS.goto X.here hx rfl (pc0 := 174) (pc' := 196) rfl (hb hby at_174) (by decide) (by decide) k) ?_
    show own_Goes p e below (own_End s below _ _) (T.setTop (mkF m 196 #[.val (.int p1), .val (.int p2), .val (.int p3), .val (.int p4), .val (.int (own_w p1)), .val (.ref a), .val (.int cc), .val (.double own_PINF), .second, .val (.double x), .second, .val (.int f), .val (.int (0 : Int32))] []))
    exact own_D1 l Z a0 hw ws p1 p2 p3 p4 h0 n0 p e s m below meth c s₁ Bd hml hZ T X eT a EE F x f cc (0 : Int32) (hE.trans (by rw [own_ex1, if_pos q0]))
  · refine own_go (fun _ k => XS.ifNo X.here hx rfl (hb hby at_150) rfl (by simpa using q0) k) ?_
    show own_Goes p e below (own_End s below _ _) (T.setTop (mkF m 153 #[.val (.int p1), .val (.int p2), .val (.int p3), .val (.int p4), .val (.int (own_w p1)), .val (.ref a), .val (.int cc), .val (.double own_PINF), .second, .val (.double x), .second, .val (.int f), .unset] []))
    refine own_go (fun _ k => XS.dload X.here hx rfl (hb hby at_153) rfl k) ?_
    show own_Goes p e below (own_End s below _ _) (T.setTop (mkF m 155 #[.val (.int p1), .val (.int p2), .val (.int p3), .val (.int p4), .val (.int (own_w p1)), .val (.ref a), .val (.int cc), .val (.double own_PINF), .second, .val (.double x), .second, .val (.int f), .unset] [(.double x)]))
    refine own_go (fun _ k => XS.dconst0 X.here hx rfl (hb hby at_155) rfl k) ?_
    show own_Goes p e below (own_End s below _ _) (T.setTop (mkF m 156 #[.val (.int p1), .val (.int p2), .val (.int p3), .val (.int p4), .val (.int (own_w p1)), .val (.ref a), .val (.int cc), .val (.double own_PINF), .second, .val (.double x), .second, .val (.int f), .unset] [(.double FP.dconst0), (.double x)]))
    refine own_go (fun _ k => XS.dcmpS X.here hx rfl (hb hby at_156) rfl rfl k) ?_
    show own_Goes p e below (own_End s below _ _) (T.setTop (mkF m 157 #[.val (.int p1), .val (.int p2), .val (.int p3), .val (.int p4), .val (.int (own_w p1)), .val (.ref a), .val (.int cc), .val (.double own_PINF), .second, .val (.double x), .second, .val (.int f), .unset] [(.int (own_c x FP.dconst0 .g))]))
    by_cases q1 : ifCond.holds .lt (own_c x FP.dconst0 .g) = true
    · refine own_go (fun _ k => XS.ifYes X.here hx rfl (pc0 := 157) (pc' := 171) rfl (hb hby at_157) rfl q1 (by decide) (by decide) k) ?_
      show own_Goes p e below (own_End s below _ _) (T.setTop (mkF m 171 #[.val (.int p1), .val (.int p2), .val (.int p3), .val (.int p4), .val (.int (own_w p1)), .val (.ref a), .val (.int cc), .val (.double own_PINF), .second, .val (.double x), .second, .val (.int f), .unset] []))
      refine own_go (fun _ k => XS.iconst X.here hx rfl (hb hby at_171) k) ?_
      show own_Goes p e below (own_End s below _ _) (T.setTop (mkF m 172 #[.val (.int p1), .val (.int p2), .val (.int p3), .val (.int p4), .val (.int (own_w p1)), .val (.ref a), .val (.int cc), .val (.double own_PINF), .second, .val (.double x), .second, .val (.int f), .unset] [(.int (0 : Int32))]))
      refine own_go (fun _ k => XS.istore X.here hx rfl (hb hby at_172) rfl (l' := #[.val (.int p1), .val (.int p2), .val (.int p3), .val (.int p4), .val (.int (own_w p1)), .val (.ref a), .val (.int cc), .val (.double own_PINF), .second, .val (.double x), .second, .val (.int f), .val (.int (0 : Int32))]) rfl k) ?_
      show own_Goes p e below (own_End s below _ _) (T.setTop (mkF m 174 #[.val (.int p1), .val (.int p2), .val (.int p3), .val (.int p4), .val (.int (own_w p1)), .val (.ref a), .val (.int cc), .val (.double own_PINF), .second, .val (.double x), .second, .val (.int f), .val (.int (0 : Int32))] []))
      refine own_go (fun _ k => XS.goto X.here hx rfl (pc0 := 174) (pc' := 196) rfl (hb hby at_174) (by decide) (by decide) k) ?_
      show own_Goes p e below (own_End s below _ _) (T.setTop (mkF m 196 #[.val (.int p1), .val (.int p2), .val (.int p3), .val (.int p4), .val (.int (own_w p1)), .val (.ref a), .val (.int cc), .val (.double own_PINF), .second, .val (.double x), .second, .val (.int f), .val (.int (0 : Int32))] []))
      exact own_D1 l Z a0 hw ws p1 p2 p3 p4 h0 n0 p e s m below meth c s₁ Bd hml hZ T X eT a EE F x f cc (0 : Int32) (hE.trans (by rw [own_ex1, if_neg q0, if_pos q1]))
    · refine own_go (fun _ k => XS.ifNo X.here hx rfl (hb hby at_157) rfl (by simpa using q1) k) ?_
      show own_Goes p e below (own_End s below _ _) (T.setTop (mkF m 160 #[.val (.int p1), .val (.int p2), .val (.int p3), .val (.int p4), .val (.int (own_w p1)), .val (.ref a), .val (.int cc), .val (.double own_PINF), .second, .val (.double x), .second, .val (.int f), .unset] []))
      refine own_go (fun _ k => XS.dconst1 X.here hx rfl (hb hby at_160) rfl k) ?_
      show own_Goes p e below (own_End s below _ _) (T.setTop (mkF m 161 #[.val (.int p1), .val (.int p2), .val (.int p3), .val (.int p4), .val (.int (own_w p1)), .val (.ref a), .val (.int cc), .val (.double own_PINF), .second, .val (.double x), .second, .val (.int f), .unset] [(.double FP.dconst1)]))
      refine own_go (fun _ k => XS.dload X.here hx rfl (hb hby at_161) rfl k) ?_
      show own_Goes p e below (own_End s below _ _) (T.setTop (mkF m 163 #[.val (.int p1), .val (.int p2), .val (.int p3), .val (.int p4), .val (.int (own_w p1)), .val (.ref a), .val (.int cc), .val (.double own_PINF), .second, .val (.double x), .second, .val (.int f), .unset] [(.double x), (.double FP.dconst1)]))
      refine own_go (fun _ k => XS.dcmpS X.here hx rfl (hb hby at_163) rfl rfl k) ?_
      show own_Goes p e below (own_End s below _ _) (T.setTop (mkF m 164 #[.val (.int p1), .val (.int p2), .val (.int p3), .val (.int p4), .val (.int (own_w p1)), .val (.ref a), .val (.int cc), .val (.double own_PINF), .second, .val (.double x), .second, .val (.int f), .unset] [(.int (own_c FP.dconst1 x .g))]))
      by_cases q2 : ifCond.holds .lt (own_c FP.dconst1 x .g) = true
      · refine own_go (fun _ k => XS.ifYes X.here hx rfl (pc0 := 164) (pc' := 171) rfl (hb hby at_164) rfl q2 (by decide) (by decide) k) ?_
        show own_Goes p e below (own_End s below _ _) (T.setTop (mkF m 171 #[.val (.int p1), .val (.int p2), .val (.int p3), .val (.int p4), .val (.int (own_w p1)), .val (.ref a), .val (.int cc), .val (.double own_PINF), .second, .val (.double x), .second, .val (.int f), .unset] []))
        refine own_go (fun _ k => XS.iconst X.here hx rfl (hb hby at_171) k) ?_
        show own_Goes p e below (own_End s below _ _) (T.setTop (mkF m 172 #[.val (.int p1), .val (.int p2), .val (.int p3), .val (.int p4), .val (.int (own_w p1)), .val (.ref a), .val (.int cc), .val (.double own_PINF), .second, .val (.double x), .second, .val (.int f), .unset] [(.int (0 : Int32))]))
        refine own_go (fun _ k => XS.istore X.here hx rfl (hb hby at_172) rfl (l' := #[.val (.int p1), .val (.int p2), .val (.int p3), .val (.int p4), .val (.int (own_w p1)), .val (.ref a), .val (.int cc), .val (.double own_PINF), .second, .val (.double x), .second, .val (.int f), .val (.int (0 : Int32))]) rfl k) ?_
        show own_Goes p e below (own_End s below _ _) (T.setTop (mkF m 174 #[.val (.int p1), .val (.int p2), .val (.int p3), .val (.int p4), .val (.int (own_w p1)), .val (.ref a), .val (.int cc), .val (.double own_PINF), .second, .val (.double x), .second, .val (.int f), .val (.int (0 : Int32))] []))
        refine own_go (fun _ k => XS.goto X.here hx rfl (pc0 := 174) (pc' := 196) rfl (hb hby at_174) (by decide) (by decide) k) ?_
        show own_Goes p e below (own_End s below _ _) (T.setTop (mkF m 196 #[.val (.int p1), .val (.int p2), .val (.int p3), .val (.int p4), .val (.int (own_w p1)), .val (.ref a), .val (.int cc), .val (.double own_PINF), .second, .val (.double x), .second, .val (.int f), .val (.int (0 : Int32))] []))
        exact own_D1 l Z a0 hw ws p1 p2 p3 p4 h0 n0 p e s m below meth c s₁ Bd hml hZ T X eT a EE F x f cc (0 : Int32) (hE.trans (by rw [own_ex1, if_neg q0, if_neg q1, if_pos q2]))
      · refine own_go (fun _ k => XS.ifNo X.here hx rfl (hb hby at_164) rfl (by simpa using q2) k) ?_
        show own_Goes p e below (own_End s below _ _) (T.setTop (mkF m 167 #[.val (.int p1), .val (.int p2), .val (.int p3), .val (.int p4), .val (.int (own_w p1)), .val (.ref a), .val (.int cc), .val (.double own_PINF), .second, .val (.double x), .second, .val (.int f), .unset] []))
        refine own_go (fun _ k => XS.iconst X.here hx rfl (hb hby at_167) k) ?_
        show own_Goes p e below (own_End s below _ _) (T.setTop (mkF m 168 #[.val (.int p1), .val (.int p2), .val (.int p3), .val (.int p4), .val (.int (own_w p1)), .val (.ref a), .val (.int cc), .val (.double own_PINF), .second, .val (.double x), .second, .val (.int f), .unset] [(.int (1 : Int32))]))
        refine own_go (fun _ k => XS.goto X.here hx rfl (pc0 := 168) (pc' := 172) rfl (hb hby at_168) (by decide) (by decide) k) ?_
        show own_Goes p e below (own_End s below _ _) (T.setTop (mkF m 172 #[.val (.int p1), .val (.int p2), .val (.int p3), .val (.int p4), .val (.int (own_w p1)), .val (.ref a), .val (.int cc), .val (.double own_PINF), .second, .val (.double x), .second, .val (.int f), .unset] [(.int (1 : Int32))]))
        refine own_go (fun _ k => XS.istore X.here hx rfl (hb hby at_172) rfl (l' := #[.val (.int p1), .val (.int p2), .val (.int p3), .val (.int p4), .val (.int (own_w p1)), .val (.ref a), .val (.int cc), .val (.double own_PINF), .second, .val (.double x), .second, .val (.int f), .val (.int (1 : Int32))]) rfl k) ?_
        show own_Goes p e below (own_End s below _ _) (T.setTop (mkF m 174 #[.val (.int p1), .val (.int p2), .val (.int p3), .val (.int p4), .val (.int (own_w p1)), .val (.ref a), .val (.int cc), .val (.double own_PINF), .second, .val (.double x), .second, .val (.int f), .val (.int (1 : Int32))] []))
        refine own_go (fun _ k => XS.goto X.here hx rfl (pc0 := 174) (pc' := 196) rfl (hb hby at_174) (by decide) (by decide) k) ?_
        show own_Goes p e below (own_End s below _ _) (T.setTop (mkF m 196 #[.val (.int p1), .val (.int p2), .val (.int p3), .val (.int p4), .val (.int (own_w p1)), .val (.ref a), .val (.int cc), .val (.double own_PINF), .second, .val (.double x), .second, .val (.int f), .val (.int (1 : Int32))] []))
        exact own_D1 l Z a0 hw ws p1 p2 p3 p4 h0 n0 p e s m below meth c s₁ Bd hml hZ T X eT a EE F x f cc (1 : Int32) (hE.trans (by rw [own_ex1, if_neg q0, if_neg q1, if_neg q2]))
set_option maxRecDepth 65536 in
set_option maxHeartbeats 40000000 in
theorem own_D2 (l : Launch) (Z : State) (a0 : Array Value) (hw : ∀ d ∈ tables_1, d.before a0 Z = true) (ws : List Jvm.Cond) (p1 p2 p3 p4 : Int32) (h0 : Heap) (n0 : Nat) (p : Program) (e : Env) (s : State) (m : MethodId) (below : List Frame) (meth : Method) (c : Code) (s₁ : State) (Bd : BodyLoose p l x (head1 (Jvm.Cond.code x code maxLocals ret :: ws) room_1) code maxLocals ret e s m #[(.int p1), (.int p2), (.int p3), (.int p4)] below meth c s₁) (hml : c.maxLocals = maxLocals) (hZ : Z.Warmed39 s.vm) (T : State) (X : Stand p l e room_1 s m #[(.int p1), (.int p2), (.int p3), (.int p4)] below meth c T [] 0 0) (eT : T.heap = h0) (a : Addr) (EE : Exa Z h0 a "com/example/skor/skor/Bm25$Parameter") (F : Fld Z h0 a "java/lang/Enum" "ordinal" "I" (.int 2)) (x : UInt64) (f cc E : Int32) (hE : own_ad2 x = E) :
    own_Goes p e below (own_End s below room_1 (own_Q n0)) (T.setTop (mkF m 196 #[.val (.int p1), .val (.int p2), .val (.int p3), .val (.int p4), .val (.int (own_w p1)), .val (.ref a), .val (.int cc), .val (.double own_PINF), .second, .val (.double x), .second, .val (.int f), .val (.int E)] [])) := by
  have hx := Bd.exec
  have hby := Bd.bytes
  have hown : s.vm.findClass "com/example/skor/skor/ParameterAdmitsPinLaw" = some m.cls := findClass_of_methodNamed Bd.named
  show own_Goes p e below (own_End s below _ _) (T.setTop (mkF m 196 #[.val (.int p1), .val (.int p2), .val (.int p3), .val (.int p4), .val (.int (own_w p1)), .val (.ref a), .val (.int cc), .val (.double own_PINF), .second, .val (.double x), .second, .val (.int f), .val (.int E)] []))
  refine own_go (fun _ k => XS.aload X.here hx rfl (hb hby at_196) rfl rfl k) ?_
  show own_Goes p e below (own_End s below _ _) (T.setTop (mkF m 198 #[.val (.int p1), .val (.int p2), .val (.int p3), .val (.int p4), .val (.int (own_w p1)), .val (.ref a), .val (.int cc), .val (.double own_PINF), .second, .val (.double x), .second, .val (.int f), .val (.int E)] [(.ref a)]))
  refine own_go (fun _ k => XS.dload X.here hx rfl (hb hby at_198) rfl k) ?_
  show own_Goes p e below (own_End s below _ _) (T.setTop (mkF m 200 #[.val (.int p1), .val (.int p2), .val (.int p3), .val (.int p4), .val (.int (own_w p1)), .val (.ref a), .val (.int cc), .val (.double own_PINF), .second, .val (.double x), .second, .val (.int f), .val (.int E)] [(.double x), (.ref a)]))
  obtain ⟨v1, T1, L1, X1, ⟨u1, u2, u3⟩, st1⟩ := own_callV X hx hZ (y := own_admN) (z := own_admN) hown (hw _ (List.mem_of_getElem? (i := 9) rfl)) (hw _ (List.mem_of_getElem? (i := 10) rfl)) (hw _ (List.mem_of_getElem? (i := 12) rfl)) (hw _ (List.mem_of_getElem? (i := 11) rfl)) (hw _ (List.mem_of_getElem? (i := 2) rfl)) (hw _ (List.mem_of_getElem? (i := 13) rfl)) (notFace_of_selects (args := #[]) (mvT hZ (hw _ (List.mem_of_getElem? (i := 12) rfl)))) (by decide) (own_adm2 l Z a0 hw h0 a x EE F) eT EE (W := 0) (by decide) (by decide) (g := (mkF m 200 #[.val (.int p1), .val (.int p2), .val (.int p3), .val (.int p4), .val (.int (own_w p1)), .val (.ref a), .val (.int cc), .val (.double own_PINF), .second, .val (.double x), .second, .val (.int f), .val (.int E)] [(.double x), (.ref a)])) rfl (by rw [hml]; rfl) (argsL := [(.double x)]) (rest := []) pd_2 rfl rfl (by show 2 * 0 + _ ≤ _; exact Nat.le_of_eq rfl) (hb hby at_200) rfl (by decide) (by decide)
  subst u1 u3
  rw [List.append_nil] at X1
  refine own_go st1 ?_
  show own_Goes p e below (own_End s below _ _) (T1.setTop (mkF m 203 #[.val (.int p1), .val (.int p2), .val (.int p3), .val (.int p4), .val (.int (own_w p1)), .val (.ref a), .val (.int cc), .val (.double own_PINF), .second, .val (.double x), .second, .val (.int f), .val (.int E)] [(.int (own_ad2 x))]))
  refine own_go (fun _ k => XS.iload X1.here hx rfl (hb hby at_203) rfl k) ?_
  show own_Goes p e below (own_End s below _ _) (T1.setTop (mkF m 205 #[.val (.int p1), .val (.int p2), .val (.int p3), .val (.int p4), .val (.int (own_w p1)), .val (.ref a), .val (.int cc), .val (.double own_PINF), .second, .val (.double x), .second, .val (.int f), .val (.int E)] [(.int E), (.int (own_ad2 x))]))
  refine own_go (fun _ k => XS.icmpNo X1.here hx rfl (hb hby at_205) rfl (teq hE).2 k) ?_
  show own_Goes p e below (own_End s below _ _) (T1.setTop (mkF m 208 #[.val (.int p1), .val (.int p2), .val (.int p3), .val (.int p4), .val (.int (own_w p1)), .val (.ref a), .val (.int cc), .val (.double own_PINF), .second, .val (.double x), .second, .val (.int f), .val (.int E)] []))
  refine own_go (fun _ k => XS.iconst X1.here hx rfl (hb hby at_208) k) ?_
  show own_Goes p e below (own_End s below _ _) (T1.setTop (mkF m 209 #[.val (.int p1), .val (.int p2), .val (.int p3), .val (.int p4), .val (.int (own_w p1)), .val (.ref a), .val (.int cc), .val (.double own_PINF), .second, .val (.double x), .second, .val (.int f), .val (.int E)] [(.int (1 : Int32))]))
  refine own_go (fun _ k => XS.goto X1.here hx rfl (pc0 := 209) (pc' := 213) rfl (hb hby at_209) (by decide) (by decide) k) ?_
  show own_Goes p e below (own_End s below _ _) (T1.setTop (mkF m 213 #[.val (.int p1), .val (.int p2), .val (.int p3), .val (.int p4), .val (.int (own_w p1)), .val (.ref a), .val (.int cc), .val (.double own_PINF), .second, .val (.double x), .second, .val (.int f), .val (.int E)] [(.int (1 : Int32))]))
  exact own_retZ X1 hx Bd.notSynchronized Bd.returns rfl (hb hby at_213) ⟨rfl, Fr.nil n0⟩ (by decide) (by decide)
set_option maxRecDepth 65536 in
set_option maxHeartbeats 40000000 in
theorem own_C2 (l : Launch) (Z : State) (a0 : Array Value) (hw : ∀ d ∈ tables_1, d.before a0 Z = true) (ws : List Jvm.Cond) (p1 p2 p3 p4 : Int32) (h0 : Heap) (n0 : Nat) (p : Program) (e : Env) (s : State) (m : MethodId) (below : List Frame) (meth : Method) (c : Code) (s₁ : State) (Bd : BodyLoose p l x (head1 (Jvm.Cond.code x code maxLocals ret :: ws) room_1) code maxLocals ret e s m #[(.int p1), (.int p2), (.int p3), (.int p4)] below meth c s₁) (hml : c.maxLocals = maxLocals) (hZ : Z.Warmed39 s.vm) (T : State) (X : Stand p l e room_1 s m #[(.int p1), (.int p2), (.int p3), (.int p4)] below meth c T [] 0 0) (eT : T.heap = h0) (hwh : own_w p1 = 2) (a : Addr) (EE : Exa Z h0 a "com/example/skor/skor/Bm25$Parameter") (F : Fld Z h0 a "java/lang/Enum" "ordinal" "I" (.int 2)) (x : UInt64) (f cc : Int32) (hE : own_ad2 x = own_ex2 f x) :
    own_Goes p e below (own_End s below room_1 (own_Q n0)) (T.setTop (mkF m 115 #[.val (.int p1), .val (.int p2), .val (.int p3), .val (.int p4), .val (.int (own_w p1)), .val (.ref a), .val (.int cc), .val (.double own_PINF), .second, .val (.double x), .second, .val (.int f), .unset] [])) := by
  have hx := Bd.exec
  have hby := Bd.bytes
  have hown : s.vm.findClass "com/example/skor/skor/ParameterAdmitsPinLaw" = some m.cls := findClass_of_methodNamed Bd.named
  show own_Goes p e below (own_End s below _ _) (T.setTop (mkF m 115 #[.val (.int p1), .val (.int p2), .val (.int p3), .val (.int p4), .val (.int (own_w p1)), .val (.ref a), .val (.int cc), .val (.double own_PINF), .second, .val (.double x), .second, .val (.int f), .unset] []))
  refine own_go (fun _ k => XS.iload X.here hx rfl (hb hby at_115) rfl k) ?_
  show own_Goes p e below (own_End s below _ _) (T.setTop (mkF m 117 #[.val (.int p1), .val (.int p2), .val (.int p3), .val (.int p4), .val (.int (own_w p1)), .val (.ref a), .val (.int cc), .val (.double own_PINF), .second, .val (.double x), .second, .val (.int f), .unset] [(.int (own_w p1))]))
  refine own_go (fun _ k => XS.ifYes X.here hx rfl (pc0 := 117) (pc' := 142) rfl (hb hby at_117) rfl (by rw [hwh]; decide) (by decide) (by decide) k) ?_
  show own_Goes p e below (own_End s below _ _) (T.setTop (mkF m 142 #[.val (.int p1), .val (.int p2), .val (.int p3), .val (.int p4), .val (.int (own_w p1)), .val (.ref a), .val (.int cc), .val (.double own_PINF), .second, .val (.double x), .second, .val (.int f), .unset] []))
  refine own_go (fun _ k => XS.iload X.here hx rfl (hb hby at_142) rfl k) ?_
  show own_Goes p e below (own_End s below _ _) (T.setTop (mkF m 144 #[.val (.int p1), .val (.int p2), .val (.int p3), .val (.int p4), .val (.int (own_w p1)), .val (.ref a), .val (.int cc), .val (.double own_PINF), .second, .val (.double x), .second, .val (.int f), .unset] [(.int (own_w p1))]))
  refine own_go (fun _ k => XS.iconst X.here hx rfl (hb hby at_144) k) ?_
  show own_Goes p e below (own_End s below _ _) (T.setTop (mkF m 145 #[.val (.int p1), .val (.int p2), .val (.int p3), .val (.int p4), .val (.int (own_w p1)), .val (.ref a), .val (.int cc), .val (.double own_PINF), .second, .val (.double x), .second, .val (.int f), .unset] [(.int (1 : Int32)), (.int (own_w p1))]))
  refine own_go (fun _ k => XS.icmpYes X.here hx rfl (pc0 := 145) (pc' := 177) rfl (hb hby at_145) rfl (feq (by rw [hwh]; decide)).2 (by decide) (by decide) k) ?_
  show own_Goes p e below (own_End s below _ _) (T.setTop (mkF m 177 #[.val (.int p1), .val (.int p2), .val (.int p3), .val (.int p4), .val (.int (own_w p1)), .val (.ref a), .val (.int cc), .val (.double own_PINF), .second, .val (.double x), .second, .val (.int f), .unset] []))
  refine own_go (fun _ k => XS.iload X.here hx rfl (hb hby at_177) rfl k) ?_
  show own_Goes p e below (own_End s below _ _) (T.setTop (mkF m 179 #[.val (.int p1), .val (.int p2), .val (.int p3), .val (.int p4), .val (.int (own_w p1)), .val (.ref a), .val (.int cc), .val (.double own_PINF), .second, .val (.double x), .second, .val (.int f), .unset] [(.int f)]))
  by_cases q0 : ifCond.holds .eq f = true
  · refine own_go (fun _ k => XS.ifYes X.here hx rfl (pc0 := 179) (pc' := 193) rfl (hb hby at_179) rfl q0 (by decide) (by decide) k) ?_
    show own_Goes p e below (own_End s below _ _) (T.setTop (mkF m 193 #[.val (.int p1), .val (.int p2), .val (.int p3), .val (.int p4), .val (.int (own_w p1)), .val (.ref a), .val (.int cc), .val (.double own_PINF), .second, .val (.double x), .second, .val (.int f), .unset] []))
    refine own_go (fun _ k => XS.iconst X.here hx rfl (hb hby at_193) k) ?_
    show own_Goes p e below (own_End s below _ _) (T.setTop (mkF m 194 #[.val (.int p1), .val (.int p2), .val (.int p3), .val (.int p4), .val (.int (own_w p1)), .val (.ref a), .val (.int cc), .val (.double own_PINF), .second, .val (.double x), .second, .val (.int f), .unset] [(.int (0 : Int32))]))
    refine own_go (fun _ k => XS.istore X.here hx rfl (hb hby at_194) rfl (l' := #[.val (.int p1), .val (.int p2), .val (.int p3), .val (.int p4), .val (.int (own_w p1)), .val (.ref a), .val (.int cc), .val (.double own_PINF), .second, .val (.double x), .second, .val (.int f), .val (.int (0 : Int32))]) rfl k) ?_
    show own_Goes p e below (own_End s below _ _) (T.setTop (mkF m 196 #[.val (.int p1), .val (.int p2), .val (.int p3), .val (.int p4), .val (.int (own_w p1)), .val (.ref a), .val (.int cc), .val (.double own_PINF), .second, .val (.double x), .second, .val (.int f), .val (.int (0 : Int32))] []))
    exact own_D2 l Z a0 hw ws p1 p2 p3 p4 h0 n0 p e s m below meth c s₁ Bd hml hZ T X eT a EE F x f cc (0 : Int32) (hE.trans (by rw [own_ex2, if_pos q0]))
  · refine own_go (fun _ k => XS.ifNo X.here hx rfl (hb hby at_179) rfl (by simpa using q0) k) ?_
    show own_Goes p e below (own_End s below _ _) (T.setTop (mkF m 182 #[.val (.int p1), .val (.int p2), .val (.int p3), .val (.int p4), .val (.int (own_w p1)), .val (.ref a), .val (.int cc), .val (.double own_PINF), .second, .val (.double x), .second, .val (.int f), .unset] []))
    refine own_go (fun _ k => XS.dconst0 X.here hx rfl (hb hby at_182) rfl k) ?_
    show own_Goes p e below (own_End s below _ _) (T.setTop (mkF m 183 #[.val (.int p1), .val (.int p2), .val (.int p3), .val (.int p4), .val (.int (own_w p1)), .val (.ref a), .val (.int cc), .val (.double own_PINF), .second, .val (.double x), .second, .val (.int f), .unset] [(.double FP.dconst0)]))
    refine own_go (fun _ k => XS.dload X.here hx rfl (hb hby at_183) rfl k) ?_
    show own_Goes p e below (own_End s below _ _) (T.setTop (mkF m 185 #[.val (.int p1), .val (.int p2), .val (.int p3), .val (.int p4), .val (.int (own_w p1)), .val (.ref a), .val (.int cc), .val (.double own_PINF), .second, .val (.double x), .second, .val (.int f), .unset] [(.double x), (.double FP.dconst0)]))
    refine own_go (fun _ k => XS.dcmpS X.here hx rfl (hb hby at_185) rfl rfl k) ?_
    show own_Goes p e below (own_End s below _ _) (T.setTop (mkF m 186 #[.val (.int p1), .val (.int p2), .val (.int p3), .val (.int p4), .val (.int (own_w p1)), .val (.ref a), .val (.int cc), .val (.double own_PINF), .second, .val (.double x), .second, .val (.int f), .unset] [(.int (own_c FP.dconst0 x .g))]))
    by_cases q1 : ifCond.holds .ge (own_c FP.dconst0 x .g) = true
    · refine own_go (fun _ k => XS.ifYes X.here hx rfl (pc0 := 186) (pc' := 193) rfl (hb hby at_186) rfl q1 (by decide) (by decide) k) ?_
      show own_Goes p e below (own_End s below _ _) (T.setTop (mkF m 193 #[.val (.int p1), .val (.int p2), .val (.int p3), .val (.int p4), .val (.int (own_w p1)), .val (.ref a), .val (.int cc), .val (.double own_PINF), .second, .val (.double x), .second, .val (.int f), .unset] []))
      refine own_go (fun _ k => XS.iconst X.here hx rfl (hb hby at_193) k) ?_
      show own_Goes p e below (own_End s below _ _) (T.setTop (mkF m 194 #[.val (.int p1), .val (.int p2), .val (.int p3), .val (.int p4), .val (.int (own_w p1)), .val (.ref a), .val (.int cc), .val (.double own_PINF), .second, .val (.double x), .second, .val (.int f), .unset] [(.int (0 : Int32))]))
      refine own_go (fun _ k => XS.istore X.here hx rfl (hb hby at_194) rfl (l' := #[.val (.int p1), .val (.int p2), .val (.int p3), .val (.int p4), .val (.int (own_w p1)), .val (.ref a), .val (.int cc), .val (.double own_PINF), .second, .val (.double x), .second, .val (.int f), .val (.int (0 : Int32))]) rfl k) ?_
      show own_Goes p e below (own_End s below _ _) (T.setTop (mkF m 196 #[.val (.int p1), .val (.int p2), .val (.int p3), .val (.int p4), .val (.int (own_w p1)), .val (.ref a), .val (.int cc), .val (.double own_PINF), .second, .val (.double x), .second, .val (.int f), .val (.int (0 : Int32))] []))
      exact own_D2 l Z a0 hw ws p1 p2 p3 p4 h0 n0 p e s m below meth c s₁ Bd hml hZ T X eT a EE F x f cc (0 : Int32) (hE.trans (by rw [own_ex2, if_neg q0, if_pos q1]))
    · refine own_go (fun _ k => XS.ifNo X.here hx rfl (hb hby at_186) rfl (by simpa using q1) k) ?_
      show own_Goes p e below (own_End s below _ _) (T.setTop (mkF m 189 #[.val (.int p1), .val (.int p2), .val (.int p3), .val (.int p4), .val (.int (own_w p1)), .val (.ref a), .val (.int cc), .val (.double own_PINF), .second, .val (.double x), .second, .val (.int f), .unset] []))
      refine own_go (fun _ k => XS.iconst X.here hx rfl (hb hby at_189) k) ?_
      show own_Goes p e below (own_End s below _ _) (T.setTop (mkF m 190 #[.val (.int p1), .val (.int p2), .val (.int p3), .val (.int p4), .val (.int (own_w p1)), .val (.ref a), .val (.int cc), .val (.double own_PINF), .second, .val (.double x), .second, .val (.int f), .unset] [(.int (1 : Int32))]))
      refine own_go (fun _ k => XS.goto X.here hx rfl (pc0 := 190) (pc' := 194) rfl (hb hby at_190) (by decide) (by decide) k) ?_
      show own_Goes p e below (own_End s below _ _) (T.setTop (mkF m 194 #[.val (.int p1), .val (.int p2), .val (.int p3), .val (.int p4), .val (.int (own_w p1)), .val (.ref a), .val (.int cc), .val (.double own_PINF), .second, .val (.double x), .second, .val (.int f), .unset] [(.int (1 : Int32))]))
      refine own_go (fun _ k => XS.istore X.here hx rfl (hb hby at_194) rfl (l' := #[.val (.int p1), .val (.int p2), .val (.int p3), .val (.int p4), .val (.int (own_w p1)), .val (.ref a), .val (.int cc), .val (.double own_PINF), .second, .val (.double x), .second, .val (.int f), .val (.int (1 : Int32))]) rfl k) ?_
      show own_Goes p e below (own_End s below _ _) (T.setTop (mkF m 196 #[.val (.int p1), .val (.int p2), .val (.int p3), .val (.int p4), .val (.int (own_w p1)), .val (.ref a), .val (.int cc), .val (.double own_PINF), .second, .val (.double x), .second, .val (.int f), .val (.int (1 : Int32))] []))
      exact own_D2 l Z a0 hw ws p1 p2 p3 p4 h0 n0 p e s m below meth c s₁ Bd hml hZ T X eT a EE F x f cc (1 : Int32) (hE.trans (by rw [own_ex2, if_neg q0, if_neg q1]))
set_option maxRecDepth 65536 in
set_option maxHeartbeats 40000000 in
theorem own_B (l : Launch) (Z : State) (a0 : Array Value) (hw : ∀ d ∈ tables_1, d.before a0 Z = true) (ws : List Jvm.Cond) (p1 p2 p3 p4 : Int32) (h0 : Heap) (n0 : Nat) (p : Program) (e : Env) (s : State) (m : MethodId) (below : List Frame) (meth : Method) (c : Code) (s₁ : State) (Bd : BodyLoose p l x (head1 (Jvm.Cond.code x code maxLocals ret :: ws) room_1) code maxLocals ret e s m #[(.int p1), (.int p2), (.int p3), (.int p4)] below meth c s₁) (hml : c.maxLocals = maxLocals) (hZ : Z.Warmed39 s.vm) (T : State) (X : Stand p l e room_1 s m #[(.int p1), (.int p2), (.int p3), (.int p4)] below meth c T [] 0 0) (eT : T.heap = h0) (a : Addr)
    (K : ∀ (T : State) (x : UInt64) (f cc : Int32), Stand p l e room_1 s m #[(.int p1), (.int p2), (.int p3), (.int p4)] below meth c T [] 0 0 → T.heap = h0 → own_Val x f → own_Goes p e below (own_End s below room_1 (own_Q n0)) (T.setTop (mkF m 115 #[.val (.int p1), .val (.int p2), .val (.int p3), .val (.int p4), .val (.int (own_w p1)), .val (.ref a), .val (.int cc), .val (.double own_PINF), .second, .val (.double x), .second, .val (.int f), .unset] []))) :
    own_Goes p e below (own_End s below room_1 (own_Q n0)) (T.setTop (mkF m 40 #[.val (.int p1), .val (.int p2), .val (.int p3), .val (.int p4), .val (.int (own_w p1)), .val (.ref a), .unset, .unset, .unset, .unset, .unset, .unset, .unset] [])) := by
  have hx := Bd.exec
  have hby := Bd.bytes
  have hown : s.vm.findClass "com/example/skor/skor/ParameterAdmitsPinLaw" = some m.cls := findClass_of_methodNamed Bd.named
  show own_Goes p e below (own_End s below _ _) (T.setTop (mkF m 40 #[.val (.int p1), .val (.int p2), .val (.int p3), .val (.int p4), .val (.int (own_w p1)), .val (.ref a), .unset, .unset, .unset, .unset, .unset, .unset, .unset] []))
  refine own_go (fun _ k => XS.iloadN X.here hx rfl (hb hby at_40) rfl k) ?_
  show own_Goes p e below (own_End s below _ _) (T.setTop (mkF m 41 #[.val (.int p1), .val (.int p2), .val (.int p3), .val (.int p4), .val (.int (own_w p1)), .val (.ref a), .unset, .unset, .unset, .unset, .unset, .unset, .unset] [(.int p4)]))
  refine own_go (fun _ k => XS.bipush X.here hx rfl (hb hby at_41) k) ?_
  show own_Goes p e below (own_End s below _ _) (T.setTop (mkF m 43 #[.val (.int p1), .val (.int p2), .val (.int p3), .val (.int p4), .val (.int (own_w p1)), .val (.ref a), .unset, .unset, .unset, .unset, .unset, .unset, .unset] [(.int (7 : Int32)), (.int p4)]))
  refine own_go (fun _ k => XS.iand X.here hx rfl (hb hby at_43) rfl k) ?_
  show own_Goes p e below (own_End s below _ _) (T.setTop (mkF m 44 #[.val (.int p1), .val (.int p2), .val (.int p3), .val (.int p4), .val (.int (own_w p1)), .val (.ref a), .unset, .unset, .unset, .unset, .unset, .unset, .unset] [(.int (p4 &&& (7 : Int32)))]))
  refine own_go (fun _ k => XS.istore X.here hx rfl (hb hby at_44) rfl (l' := #[.val (.int p1), .val (.int p2), .val (.int p3), .val (.int p4), .val (.int (own_w p1)), .val (.ref a), .val (.int (p4 &&& (7 : Int32))), .unset, .unset, .unset, .unset, .unset, .unset]) rfl k) ?_
  show own_Goes p e below (own_End s below _ _) (T.setTop (mkF m 46 #[.val (.int p1), .val (.int p2), .val (.int p3), .val (.int p4), .val (.int (own_w p1)), .val (.ref a), .val (.int (p4 &&& (7 : Int32))), .unset, .unset, .unset, .unset, .unset, .unset] []))
  obtain ⟨T1, X1, e1, st1⟩ := own_callP X hx hZ (y := own_infN) hown (hw _ (List.mem_of_getElem? (i := 4) rfl)) (hw _ (List.mem_of_getElem? (i := 5) rfl)) (hw _ (List.mem_of_getElem? (i := 6) rfl)) (hw _ (List.mem_of_getElem? (i := 7) rfl)) (by decide) (own_inf l Z a0 hw h0) eT (W := 0) (by decide) (by decide) (g := (mkF m 46 #[.val (.int p1), .val (.int p2), .val (.int p3), .val (.int p4), .val (.int (own_w p1)), .val (.ref a), .val (.int (p4 &&& (7 : Int32))), .unset, .unset, .unset, .unset, .unset, .unset] [])) rfl (by rw [hml]; rfl) (argsL := []) (rest := []) pd_1 rfl rfl (by show 2 * 0 + _ ≤ _; exact Nat.le_of_eq rfl) (hb hby at_46) rfl (by decide) (by decide)
  refine own_go st1 ?_
  show own_Goes p e below (own_End s below _ _) (T1.setTop (mkF m 49 #[.val (.int p1), .val (.int p2), .val (.int p3), .val (.int p4), .val (.int (own_w p1)), .val (.ref a), .val (.int (p4 &&& (7 : Int32))), .unset, .unset, .unset, .unset, .unset, .unset] [(.double own_PINF)]))
  refine own_go (fun _ k => XS.dstore X1.here hx rfl (hb hby at_49) rfl (l' := #[.val (.int p1), .val (.int p2), .val (.int p3), .val (.int p4), .val (.int (own_w p1)), .val (.ref a), .val (.int (p4 &&& (7 : Int32))), .val (.double own_PINF), .second, .unset, .unset, .unset, .unset]) rfl k) ?_
  show own_Goes p e below (own_End s below _ _) (T1.setTop (mkF m 51 #[.val (.int p1), .val (.int p2), .val (.int p3), .val (.int p4), .val (.int (own_w p1)), .val (.ref a), .val (.int (p4 &&& (7 : Int32))), .val (.double own_PINF), .second, .unset, .unset, .unset, .unset] []))
  refine own_go (fun _ k => XS.iconst X1.here hx rfl (hb hby at_51) k) ?_
  show own_Goes p e below (own_End s below _ _) (T1.setTop (mkF m 52 #[.val (.int p1), .val (.int p2), .val (.int p3), .val (.int p4), .val (.int (own_w p1)), .val (.ref a), .val (.int (p4 &&& (7 : Int32))), .val (.double own_PINF), .second, .unset, .unset, .unset, .unset] [(.int (1 : Int32))]))
  refine own_go (fun _ k => XS.istore X1.here hx rfl (hb hby at_52) rfl (l' := #[.val (.int p1), .val (.int p2), .val (.int p3), .val (.int p4), .val (.int (own_w p1)), .val (.ref a), .val (.int (p4 &&& (7 : Int32))), .val (.double own_PINF), .second, .unset, .unset, .val (.int (1 : Int32)), .unset]) rfl k) ?_
  show own_Goes p e below (own_End s below _ _) (T1.setTop (mkF m 54 #[.val (.int p1), .val (.int p2), .val (.int p3), .val (.int p4), .val (.int (own_w p1)), .val (.ref a), .val (.int (p4 &&& (7 : Int32))), .val (.double own_PINF), .second, .unset, .unset, .val (.int (1 : Int32)), .unset] []))
  refine own_go (fun _ k => XS.iload X1.here hx rfl (hb hby at_54) rfl k) ?_
  show own_Goes p e below (own_End s below _ _) (T1.setTop (mkF m 56 #[.val (.int p1), .val (.int p2), .val (.int p3), .val (.int p4), .val (.int (own_w p1)), .val (.ref a), .val (.int (p4 &&& (7 : Int32))), .val (.double own_PINF), .second, .unset, .unset, .val (.int (1 : Int32)), .unset] [(.int (p4 &&& (7 : Int32)))]))
  refine own_go (fun _ k => XS.iconst X1.here hx rfl (hb hby at_56) k) ?_
  show own_Goes p e below (own_End s below _ _) (T1.setTop (mkF m 57 #[.val (.int p1), .val (.int p2), .val (.int p3), .val (.int p4), .val (.int (own_w p1)), .val (.ref a), .val (.int (p4 &&& (7 : Int32))), .val (.double own_PINF), .second, .unset, .unset, .val (.int (1 : Int32)), .unset] [(.int (5 : Int32)), (.int (p4 &&& (7 : Int32)))]))
  by_cases q0 : (p4 &&& (7 : Int32)) = (5 : Int32)
  · refine own_go (fun _ k => XS.icmpNo X1.here hx rfl (hb hby at_57) rfl (teq q0).2 k) ?_
    show own_Goes p e below (own_End s below _ _) (T1.setTop (mkF m 60 #[.val (.int p1), .val (.int p2), .val (.int p3), .val (.int p4), .val (.int (own_w p1)), .val (.ref a), .val (.int (p4 &&& (7 : Int32))), .val (.double own_PINF), .second, .unset, .unset, .val (.int (1 : Int32)), .unset] []))
    refine own_go (Stand.ldc2DoubleC X1 hx hown (mvT hZ (hw _ (List.mem_of_getElem? (i := 28) rfl))) (g := (mkF m 60 #[.val (.int p1), .val (.int p2), .val (.int p3), .val (.int p4), .val (.int (own_w p1)), .val (.ref a), .val (.int (p4 &&& (7 : Int32))), .val (.double own_PINF), .second, .unset, .unset, .val (.int (1 : Int32)), .unset] [])) rfl (hb hby at_60)) ?_
    show own_Goes p e below (own_End s below _ _) (T1.setTop (mkF m 63 #[.val (.int p1), .val (.int p2), .val (.int p3), .val (.int p4), .val (.int (own_w p1)), .val (.ref a), .val (.int (p4 &&& (7 : Int32))), .val (.double own_PINF), .second, .unset, .unset, .val (.int (1 : Int32)), .unset] [(.double own_NZ)]))
    refine own_go (fun _ k => XS.dstore X1.here hx rfl (hb hby at_63) rfl (l' := #[.val (.int p1), .val (.int p2), .val (.int p3), .val (.int p4), .val (.int (own_w p1)), .val (.ref a), .val (.int (p4 &&& (7 : Int32))), .val (.double own_PINF), .second, .val (.double own_NZ), .second, .val (.int (1 : Int32)), .unset]) rfl k) ?_
    show own_Goes p e below (own_End s below _ _) (T1.setTop (mkF m 65 #[.val (.int p1), .val (.int p2), .val (.int p3), .val (.int p4), .val (.int (own_w p1)), .val (.ref a), .val (.int (p4 &&& (7 : Int32))), .val (.double own_PINF), .second, .val (.double own_NZ), .second, .val (.int (1 : Int32)), .unset] []))
    refine own_go (fun _ k => XS.goto X1.here hx rfl (pc0 := 65) (pc' := 115) rfl (hb hby at_65) (by decide) (by decide) k) ?_
    show own_Goes p e below (own_End s below _ _) (T1.setTop (mkF m 115 #[.val (.int p1), .val (.int p2), .val (.int p3), .val (.int p4), .val (.int (own_w p1)), .val (.ref a), .val (.int (p4 &&& (7 : Int32))), .val (.double own_PINF), .second, .val (.double own_NZ), .second, .val (.int (1 : Int32)), .unset] []))
    exact K T1 own_NZ (1 : Int32) (p4 &&& (7 : Int32)) X1 e1 (Or.inr ⟨rfl, by unfold Fin64 own_NZ; decide⟩)
  · refine own_go (fun _ k => XS.icmpYes X1.here hx rfl (pc0 := 57) (pc' := 68) rfl (hb hby at_57) rfl (feq q0).2 (by decide) (by decide) k) ?_
    show own_Goes p e below (own_End s below _ _) (T1.setTop (mkF m 68 #[.val (.int p1), .val (.int p2), .val (.int p3), .val (.int p4), .val (.int (own_w p1)), .val (.ref a), .val (.int (p4 &&& (7 : Int32))), .val (.double own_PINF), .second, .unset, .unset, .val (.int (1 : Int32)), .unset] []))
    refine own_go (fun _ k => XS.iload X1.here hx rfl (hb hby at_68) rfl k) ?_
    show own_Goes p e below (own_End s below _ _) (T1.setTop (mkF m 70 #[.val (.int p1), .val (.int p2), .val (.int p3), .val (.int p4), .val (.int (own_w p1)), .val (.ref a), .val (.int (p4 &&& (7 : Int32))), .val (.double own_PINF), .second, .unset, .unset, .val (.int (1 : Int32)), .unset] [(.int (p4 &&& (7 : Int32)))]))
    refine own_go (fun _ k => XS.bipush X1.here hx rfl (hb hby at_70) k) ?_
    show own_Goes p e below (own_End s below _ _) (T1.setTop (mkF m 72 #[.val (.int p1), .val (.int p2), .val (.int p3), .val (.int p4), .val (.int (own_w p1)), .val (.ref a), .val (.int (p4 &&& (7 : Int32))), .val (.double own_PINF), .second, .unset, .unset, .val (.int (1 : Int32)), .unset] [(.int (6 : Int32)), (.int (p4 &&& (7 : Int32)))]))
    by_cases q1 : (p4 &&& (7 : Int32)) = (6 : Int32)
    · refine own_go (fun _ k => XS.icmpNo X1.here hx rfl (hb hby at_72) rfl (teq q1).2 k) ?_
      show own_Goes p e below (own_End s below _ _) (T1.setTop (mkF m 75 #[.val (.int p1), .val (.int p2), .val (.int p3), .val (.int p4), .val (.int (own_w p1)), .val (.ref a), .val (.int (p4 &&& (7 : Int32))), .val (.double own_PINF), .second, .unset, .unset, .val (.int (1 : Int32)), .unset] []))
      refine own_go (fun _ k => XS.dload X1.here hx rfl (hb hby at_75) rfl k) ?_
      show own_Goes p e below (own_End s below _ _) (T1.setTop (mkF m 77 #[.val (.int p1), .val (.int p2), .val (.int p3), .val (.int p4), .val (.int (own_w p1)), .val (.ref a), .val (.int (p4 &&& (7 : Int32))), .val (.double own_PINF), .second, .unset, .unset, .val (.int (1 : Int32)), .unset] [(.double own_PINF)]))
      refine own_go (fun _ k => XS.dstore X1.here hx rfl (hb hby at_77) rfl (l' := #[.val (.int p1), .val (.int p2), .val (.int p3), .val (.int p4), .val (.int (own_w p1)), .val (.ref a), .val (.int (p4 &&& (7 : Int32))), .val (.double own_PINF), .second, .val (.double own_PINF), .second, .val (.int (1 : Int32)), .unset]) rfl k) ?_
      show own_Goes p e below (own_End s below _ _) (T1.setTop (mkF m 79 #[.val (.int p1), .val (.int p2), .val (.int p3), .val (.int p4), .val (.int (own_w p1)), .val (.ref a), .val (.int (p4 &&& (7 : Int32))), .val (.double own_PINF), .second, .val (.double own_PINF), .second, .val (.int (1 : Int32)), .unset] []))
      refine own_go (fun _ k => XS.iconst X1.here hx rfl (hb hby at_79) k) ?_
      show own_Goes p e below (own_End s below _ _) (T1.setTop (mkF m 80 #[.val (.int p1), .val (.int p2), .val (.int p3), .val (.int p4), .val (.int (own_w p1)), .val (.ref a), .val (.int (p4 &&& (7 : Int32))), .val (.double own_PINF), .second, .val (.double own_PINF), .second, .val (.int (1 : Int32)), .unset] [(.int (0 : Int32))]))
      refine own_go (fun _ k => XS.istore X1.here hx rfl (hb hby at_80) rfl (l' := #[.val (.int p1), .val (.int p2), .val (.int p3), .val (.int p4), .val (.int (own_w p1)), .val (.ref a), .val (.int (p4 &&& (7 : Int32))), .val (.double own_PINF), .second, .val (.double own_PINF), .second, .val (.int (0 : Int32)), .unset]) rfl k) ?_
      show own_Goes p e below (own_End s below _ _) (T1.setTop (mkF m 82 #[.val (.int p1), .val (.int p2), .val (.int p3), .val (.int p4), .val (.int (own_w p1)), .val (.ref a), .val (.int (p4 &&& (7 : Int32))), .val (.double own_PINF), .second, .val (.double own_PINF), .second, .val (.int (0 : Int32)), .unset] []))
      refine own_go (fun _ k => XS.goto X1.here hx rfl (pc0 := 82) (pc' := 115) rfl (hb hby at_82) (by decide) (by decide) k) ?_
      show own_Goes p e below (own_End s below _ _) (T1.setTop (mkF m 115 #[.val (.int p1), .val (.int p2), .val (.int p3), .val (.int p4), .val (.int (own_w p1)), .val (.ref a), .val (.int (p4 &&& (7 : Int32))), .val (.double own_PINF), .second, .val (.double own_PINF), .second, .val (.int (0 : Int32)), .unset] []))
      exact K T1 own_PINF (0 : Int32) (p4 &&& (7 : Int32)) X1 e1 (Or.inl ⟨rfl, Or.inl rfl⟩)
    · refine own_go (fun _ k => XS.icmpYes X1.here hx rfl (pc0 := 72) (pc' := 85) rfl (hb hby at_72) rfl (feq q1).2 (by decide) (by decide) k) ?_
      show own_Goes p e below (own_End s below _ _) (T1.setTop (mkF m 85 #[.val (.int p1), .val (.int p2), .val (.int p3), .val (.int p4), .val (.int (own_w p1)), .val (.ref a), .val (.int (p4 &&& (7 : Int32))), .val (.double own_PINF), .second, .unset, .unset, .val (.int (1 : Int32)), .unset] []))
      refine own_go (fun _ k => XS.iload X1.here hx rfl (hb hby at_85) rfl k) ?_
      show own_Goes p e below (own_End s below _ _) (T1.setTop (mkF m 87 #[.val (.int p1), .val (.int p2), .val (.int p3), .val (.int p4), .val (.int (own_w p1)), .val (.ref a), .val (.int (p4 &&& (7 : Int32))), .val (.double own_PINF), .second, .unset, .unset, .val (.int (1 : Int32)), .unset] [(.int (p4 &&& (7 : Int32)))]))
      refine own_go (fun _ k => XS.bipush X1.here hx rfl (hb hby at_87) k) ?_
      show own_Goes p e below (own_End s below _ _) (T1.setTop (mkF m 89 #[.val (.int p1), .val (.int p2), .val (.int p3), .val (.int p4), .val (.int (own_w p1)), .val (.ref a), .val (.int (p4 &&& (7 : Int32))), .val (.double own_PINF), .second, .unset, .unset, .val (.int (1 : Int32)), .unset] [(.int (7 : Int32)), (.int (p4 &&& (7 : Int32)))]))
      by_cases q2 : (p4 &&& (7 : Int32)) = (7 : Int32)
      · refine own_go (fun _ k => XS.icmpNo X1.here hx rfl (hb hby at_89) rfl (teq q2).2 k) ?_
        show own_Goes p e below (own_End s below _ _) (T1.setTop (mkF m 92 #[.val (.int p1), .val (.int p2), .val (.int p3), .val (.int p4), .val (.int (own_w p1)), .val (.ref a), .val (.int (p4 &&& (7 : Int32))), .val (.double own_PINF), .second, .unset, .unset, .val (.int (1 : Int32)), .unset] []))
        refine own_go (fun _ k => XS.dload X1.here hx rfl (hb hby at_92) rfl k) ?_
        show own_Goes p e below (own_End s below _ _) (T1.setTop (mkF m 94 #[.val (.int p1), .val (.int p2), .val (.int p3), .val (.int p4), .val (.int (own_w p1)), .val (.ref a), .val (.int (p4 &&& (7 : Int32))), .val (.double own_PINF), .second, .unset, .unset, .val (.int (1 : Int32)), .unset] [(.double own_PINF)]))
        refine own_go (fun _ k => XS.dnegS X1.here hx rfl (hb hby at_94) rfl own_dneg k) ?_
        show own_Goes p e below (own_End s below _ _) (T1.setTop (mkF m 95 #[.val (.int p1), .val (.int p2), .val (.int p3), .val (.int p4), .val (.int (own_w p1)), .val (.ref a), .val (.int (p4 &&& (7 : Int32))), .val (.double own_PINF), .second, .unset, .unset, .val (.int (1 : Int32)), .unset] [(.double own_NINF)]))
        refine own_go (fun _ k => XS.dstore X1.here hx rfl (hb hby at_95) rfl (l' := #[.val (.int p1), .val (.int p2), .val (.int p3), .val (.int p4), .val (.int (own_w p1)), .val (.ref a), .val (.int (p4 &&& (7 : Int32))), .val (.double own_PINF), .second, .val (.double own_NINF), .second, .val (.int (1 : Int32)), .unset]) rfl k) ?_
        show own_Goes p e below (own_End s below _ _) (T1.setTop (mkF m 97 #[.val (.int p1), .val (.int p2), .val (.int p3), .val (.int p4), .val (.int (own_w p1)), .val (.ref a), .val (.int (p4 &&& (7 : Int32))), .val (.double own_PINF), .second, .val (.double own_NINF), .second, .val (.int (1 : Int32)), .unset] []))
        refine own_go (fun _ k => XS.iconst X1.here hx rfl (hb hby at_97) k) ?_
        show own_Goes p e below (own_End s below _ _) (T1.setTop (mkF m 98 #[.val (.int p1), .val (.int p2), .val (.int p3), .val (.int p4), .val (.int (own_w p1)), .val (.ref a), .val (.int (p4 &&& (7 : Int32))), .val (.double own_PINF), .second, .val (.double own_NINF), .second, .val (.int (1 : Int32)), .unset] [(.int (0 : Int32))]))
        refine own_go (fun _ k => XS.istore X1.here hx rfl (hb hby at_98) rfl (l' := #[.val (.int p1), .val (.int p2), .val (.int p3), .val (.int p4), .val (.int (own_w p1)), .val (.ref a), .val (.int (p4 &&& (7 : Int32))), .val (.double own_PINF), .second, .val (.double own_NINF), .second, .val (.int (0 : Int32)), .unset]) rfl k) ?_
        show own_Goes p e below (own_End s below _ _) (T1.setTop (mkF m 100 #[.val (.int p1), .val (.int p2), .val (.int p3), .val (.int p4), .val (.int (own_w p1)), .val (.ref a), .val (.int (p4 &&& (7 : Int32))), .val (.double own_PINF), .second, .val (.double own_NINF), .second, .val (.int (0 : Int32)), .unset] []))
        refine own_go (fun _ k => XS.goto X1.here hx rfl (pc0 := 100) (pc' := 115) rfl (hb hby at_100) (by decide) (by decide) k) ?_
        show own_Goes p e below (own_End s below _ _) (T1.setTop (mkF m 115 #[.val (.int p1), .val (.int p2), .val (.int p3), .val (.int p4), .val (.int (own_w p1)), .val (.ref a), .val (.int (p4 &&& (7 : Int32))), .val (.double own_PINF), .second, .val (.double own_NINF), .second, .val (.int (0 : Int32)), .unset] []))
        exact K T1 own_NINF (0 : Int32) (p4 &&& (7 : Int32)) X1 e1 (Or.inl ⟨rfl, Or.inr rfl⟩)
      · refine own_go (fun _ k => XS.icmpYes X1.here hx rfl (pc0 := 89) (pc' := 103) rfl (hb hby at_89) rfl (feq q2).2 (by decide) (by decide) k) ?_
        show own_Goes p e below (own_End s below _ _) (T1.setTop (mkF m 103 #[.val (.int p1), .val (.int p2), .val (.int p3), .val (.int p4), .val (.int (own_w p1)), .val (.ref a), .val (.int (p4 &&& (7 : Int32))), .val (.double own_PINF), .second, .unset, .unset, .val (.int (1 : Int32)), .unset] []))
        refine own_go (fun _ k => XS.iloadN X1.here hx rfl (hb hby at_103) rfl k) ?_
        show own_Goes p e below (own_End s below _ _) (T1.setTop (mkF m 104 #[.val (.int p1), .val (.int p2), .val (.int p3), .val (.int p4), .val (.int (own_w p1)), .val (.ref a), .val (.int (p4 &&& (7 : Int32))), .val (.double own_PINF), .second, .unset, .unset, .val (.int (1 : Int32)), .unset] [(.int p2)]))
        refine own_go (fun _ k => XS.i2dS X1.here hx rfl (hb hby at_104) rfl rfl k) ?_
        show own_Goes p e below (own_End s below _ _) (T1.setTop (mkF m 105 #[.val (.int p1), .val (.int p2), .val (.int p3), .val (.int p4), .val (.int (own_w p1)), .val (.ref a), .val (.int (p4 &&& (7 : Int32))), .val (.double own_PINF), .second, .unset, .unset, .val (.int (1 : Int32)), .unset] [(.double (FP.i2d p2))]))
        refine own_go (fun _ k => XS.iconst X1.here hx rfl (hb hby at_105) k) ?_
        show own_Goes p e below (own_End s below _ _) (T1.setTop (mkF m 106 #[.val (.int p1), .val (.int p2), .val (.int p3), .val (.int p4), .val (.int (own_w p1)), .val (.ref a), .val (.int (p4 &&& (7 : Int32))), .val (.double own_PINF), .second, .unset, .unset, .val (.int (1 : Int32)), .unset] [(.int (1 : Int32)), (.double (FP.i2d p2))]))
        refine own_go (fun _ k => XS.iloadN X1.here hx rfl (hb hby at_106) rfl k) ?_
        show own_Goes p e below (own_End s below _ _) (T1.setTop (mkF m 107 #[.val (.int p1), .val (.int p2), .val (.int p3), .val (.int p4), .val (.int (own_w p1)), .val (.ref a), .val (.int (p4 &&& (7 : Int32))), .val (.double own_PINF), .second, .unset, .unset, .val (.int (1 : Int32)), .unset] [(.int p3), (.int (1 : Int32)), (.double (FP.i2d p2))]))
        refine own_go (fun _ k => XS.bipush X1.here hx rfl (hb hby at_107) k) ?_
        show own_Goes p e below (own_End s below _ _) (T1.setTop (mkF m 109 #[.val (.int p1), .val (.int p2), .val (.int p3), .val (.int p4), .val (.int (own_w p1)), .val (.ref a), .val (.int (p4 &&& (7 : Int32))), .val (.double own_PINF), .second, .unset, .unset, .val (.int (1 : Int32)), .unset] [(.int (31 : Int32)), (.int p3), (.int (1 : Int32)), (.double (FP.i2d p2))]))
        refine own_go (fun _ k => XS.iand X1.here hx rfl (hb hby at_109) rfl k) ?_
        show own_Goes p e below (own_End s below _ _) (T1.setTop (mkF m 110 #[.val (.int p1), .val (.int p2), .val (.int p3), .val (.int p4), .val (.int (own_w p1)), .val (.ref a), .val (.int (p4 &&& (7 : Int32))), .val (.double own_PINF), .second, .unset, .unset, .val (.int (1 : Int32)), .unset] [(.int (p3 &&& (31 : Int32))), (.int (1 : Int32)), (.double (FP.i2d p2))]))
        refine own_go (fun _ k => XS.ishl X1.here hx rfl (hb hby at_110) rfl k) ?_
        show own_Goes p e below (own_End s below _ _) (T1.setTop (mkF m 111 #[.val (.int p1), .val (.int p2), .val (.int p3), .val (.int p4), .val (.int (own_w p1)), .val (.ref a), .val (.int (p4 &&& (7 : Int32))), .val (.double own_PINF), .second, .unset, .unset, .val (.int (1 : Int32)), .unset] [(.int ((1 : Int32) <<< ((p3 &&& (31 : Int32)) &&& 31))), (.double (FP.i2d p2))]))
        refine own_go (fun _ k => XS.i2dS X1.here hx rfl (hb hby at_111) rfl rfl k) ?_
        show own_Goes p e below (own_End s below _ _) (T1.setTop (mkF m 112 #[.val (.int p1), .val (.int p2), .val (.int p3), .val (.int p4), .val (.int (own_w p1)), .val (.ref a), .val (.int (p4 &&& (7 : Int32))), .val (.double own_PINF), .second, .unset, .unset, .val (.int (1 : Int32)), .unset] [(.double (FP.i2d ((1 : Int32) <<< ((p3 &&& (31 : Int32)) &&& 31)))), (.double (FP.i2d p2))]))
        refine own_go (fun _ k => XS.ddivS X1.here hx rfl (hb hby at_112) rfl (own_val_nn p2 p3) rfl k) ?_
        show own_Goes p e below (own_End s below _ _) (T1.setTop (mkF m 113 #[.val (.int p1), .val (.int p2), .val (.int p3), .val (.int p4), .val (.int (own_w p1)), .val (.ref a), .val (.int (p4 &&& (7 : Int32))), .val (.double own_PINF), .second, .unset, .unset, .val (.int (1 : Int32)), .unset] [(.double (own_val p2 p3))]))
        refine own_go (fun _ k => XS.dstore X1.here hx rfl (hb hby at_113) rfl (l' := #[.val (.int p1), .val (.int p2), .val (.int p3), .val (.int p4), .val (.int (own_w p1)), .val (.ref a), .val (.int (p4 &&& (7 : Int32))), .val (.double own_PINF), .second, .val (.double (own_val p2 p3)), .second, .val (.int (1 : Int32)), .unset]) rfl k) ?_
        show own_Goes p e below (own_End s below _ _) (T1.setTop (mkF m 115 #[.val (.int p1), .val (.int p2), .val (.int p3), .val (.int p4), .val (.int (own_w p1)), .val (.ref a), .val (.int (p4 &&& (7 : Int32))), .val (.double own_PINF), .second, .val (.double (own_val p2 p3)), .second, .val (.int (1 : Int32)), .unset] []))
        exact K T1 (own_val p2 p3) (1 : Int32) (p4 &&& (7 : Int32)) X1 e1 (Or.inr ⟨rfl, own_val_fin p2 p3⟩)
set_option maxRecDepth 65536 in
set_option maxHeartbeats 40000000 in
theorem own_law (l : Launch) (Z : State) (a0 : Array Value) (hw : ∀ d ∈ tables_1, d.before a0 Z = true) (ws : List Jvm.Cond) (p1 p2 p3 p4 : Int32) (h0 : Heap) (n0 : Nat) (k0 : Addr) (S0 : Sta Z h0 "com/example/skor/skor/Bm25$Parameter" "K1" "Lcom/example/skor/skor/Bm25$Parameter;" (.ref k0)) (E0 : Exa Z h0 k0 "com/example/skor/skor/Bm25$Parameter") (F0 : Fld Z h0 k0 "java/lang/Enum" "ordinal" "I" (.int 0)) (k1 : Addr) (S1 : Sta Z h0 "com/example/skor/skor/Bm25$Parameter" "B" "Lcom/example/skor/skor/Bm25$Parameter;" (.ref k1)) (E1 : Exa Z h0 k1 "com/example/skor/skor/Bm25$Parameter") (F1 : Fld Z h0 k1 "java/lang/Enum" "ordinal" "I" (.int 1)) (k2 : Addr) (S2 : Sta Z h0 "com/example/skor/skor/Bm25$Parameter" "WEIGHT" "Lcom/example/skor/skor/Bm25$Parameter;" (.ref k2)) (E2 : Exa Z h0 k2 "com/example/skor/skor/Bm25$Parameter") (F2 : Fld Z h0 k2 "java/lang/Enum" "ordinal" "I" (.int 2)) :
    own_Met l Z x code maxLocals ret room_1 ws #[(.int p1), (.int p2), (.int p3), (.int p4)] h0 (own_Q n0) := by
  refine own_met (plainFor_of_name pn_0) ?_
  intro p e s m below meth c s₁ Bd hml hZ e0
  have hx := Bd.exec
  have hby := Bd.bytes
  have hown : s.vm.findClass "com/example/skor/skor/ParameterAdmitsPinLaw" = some m.cls := findClass_of_methodNamed Bd.named
  have hnm := (name_of_methodNamed Bd.named Bd.method).1
  have X0 : Stand p l e room_1 s m #[(.int p1), (.int p2), (.int p3), (.int p4)] below meth c s₁ [] 0 0 := Stand.of_body Bd
  rw [ef_0]
  show own_Goes p e below (own_End s below _ _) (s₁.setTop (mkF m 0 #[.val (.int p1), .val (.int p2), .val (.int p3), .val (.int p4), .unset, .unset, .unset, .unset, .unset, .unset, .unset, .unset, .unset] []))
  refine own_go (fun _ k => XS.iloadN X0.here hx rfl (hb hby at_0) rfl k) ?_
  show own_Goes p e below (own_End s below _ _) (s₁.setTop (mkF m 1 #[.val (.int p1), .val (.int p2), .val (.int p3), .val (.int p4), .unset, .unset, .unset, .unset, .unset, .unset, .unset, .unset, .unset] [(.int p1)]))
  refine own_go (fun _ k => Stand.ldcI X0 hx hown (mvT hZ (hw _ (List.mem_of_getElem? (i := 0) rfl))) rfl (hb hby at_1) k) ?_
  show own_Goes p e below (own_End s below _ _) (s₁.setTop (mkF m 3 #[.val (.int p1), .val (.int p2), .val (.int p3), .val (.int p4), .unset, .unset, .unset, .unset, .unset, .unset, .unset, .unset, .unset] [(.int (2147483647 : Int32)), (.int p1)]))
  refine own_go (fun _ k => XS.iand X0.here hx rfl (hb hby at_3) rfl k) ?_
  show own_Goes p e below (own_End s below _ _) (s₁.setTop (mkF m 4 #[.val (.int p1), .val (.int p2), .val (.int p3), .val (.int p4), .unset, .unset, .unset, .unset, .unset, .unset, .unset, .unset, .unset] [(.int (p1 &&& (2147483647 : Int32)))]))
  refine own_go (fun _ k => XS.iconst X0.here hx rfl (hb hby at_4) k) ?_
  show own_Goes p e below (own_End s below _ _) (s₁.setTop (mkF m 5 #[.val (.int p1), .val (.int p2), .val (.int p3), .val (.int p4), .unset, .unset, .unset, .unset, .unset, .unset, .unset, .unset, .unset] [(.int (3 : Int32)), (.int (p1 &&& (2147483647 : Int32)))]))
  refine own_go (fun _ k => iremM X0 hx rfl (hb hby at_5) rfl (by decide) k) ?_
  show own_Goes p e below (own_End s below _ _) (s₁.setTop (mkF m 6 #[.val (.int p1), .val (.int p2), .val (.int p3), .val (.int p4), .unset, .unset, .unset, .unset, .unset, .unset, .unset, .unset, .unset] [(.int ((p1 &&& (2147483647 : Int32)) % (3 : Int32)))]))
  refine own_go (fun _ k => XS.istore X0.here hx rfl (hb hby at_6) rfl (l' := #[.val (.int p1), .val (.int p2), .val (.int p3), .val (.int p4), .val (.int ((p1 &&& (2147483647 : Int32)) % (3 : Int32))), .unset, .unset, .unset, .unset, .unset, .unset, .unset, .unset]) rfl k) ?_
  show own_Goes p e below (own_End s below _ _) (s₁.setTop (mkF m 8 #[.val (.int p1), .val (.int p2), .val (.int p3), .val (.int p4), .val (.int ((p1 &&& (2147483647 : Int32)) % (3 : Int32))), .unset, .unset, .unset, .unset, .unset, .unset, .unset, .unset] []))
  show own_Goes p e below (own_End s below _ _) (s₁.setTop (mkF m 8 #[.val (.int p1), .val (.int p2), .val (.int p3), .val (.int p4), .val (.int (own_w p1)), .unset, .unset, .unset, .unset, .unset, .unset, .unset, .unset] []))
  refine own_go (fun _ k => XS.iload X0.here hx rfl (hb hby at_8) rfl k) ?_
  show own_Goes p e below (own_End s below _ _) (s₁.setTop (mkF m 10 #[.val (.int p1), .val (.int p2), .val (.int p3), .val (.int p4), .val (.int (own_w p1)), .unset, .unset, .unset, .unset, .unset, .unset, .unset, .unset] [(.int (own_w p1))]))
  rcases own_w_cases p1 with hwh | hwh | hwh
  · refine own_go (fun _ k => XS.ifNo X0.here hx rfl (hb hby at_10) rfl (by rw [hwh]; decide) k) ?_
    show own_Goes p e below (own_End s below _ _) (s₁.setTop (mkF m 13 #[.val (.int p1), .val (.int p2), .val (.int p3), .val (.int p4), .val (.int (own_w p1)), .unset, .unset, .unset, .unset, .unset, .unset, .unset, .unset] []))
    obtain ⟨T1, X1, e1, st1⟩ := getS X0 hx hZ (host := "") hown (hw _ (List.mem_of_getElem? (i := 1) rfl)) Via.refl e0 S0 (g := (mkF m 13 #[.val (.int p1), .val (.int p2), .val (.int p3), .val (.int p4), .val (.int (own_w p1)), .unset, .unset, .unset, .unset, .unset, .unset, .unset, .unset] [])) rfl (hb hby at_13)
    refine own_go st1 ?_
    show own_Goes p e below (own_End s below _ _) (T1.setTop (mkF m 16 #[.val (.int p1), .val (.int p2), .val (.int p3), .val (.int p4), .val (.int (own_w p1)), .unset, .unset, .unset, .unset, .unset, .unset, .unset, .unset] [(.ref k0)]))
    refine own_go (fun _ k => XS.astore X1.here hx rfl (hb hby at_16) rfl rfl (l' := #[.val (.int p1), .val (.int p2), .val (.int p3), .val (.int p4), .val (.int (own_w p1)), .val (.ref k0), .unset, .unset, .unset, .unset, .unset, .unset, .unset]) rfl k) ?_
    show own_Goes p e below (own_End s below _ _) (T1.setTop (mkF m 18 #[.val (.int p1), .val (.int p2), .val (.int p3), .val (.int p4), .val (.int (own_w p1)), .val (.ref k0), .unset, .unset, .unset, .unset, .unset, .unset, .unset] []))
    refine own_go (fun _ k => XS.goto X1.here hx rfl (pc0 := 18) (pc' := 40) rfl (hb hby at_18) (by decide) (by decide) k) ?_
    show own_Goes p e below (own_End s below _ _) (T1.setTop (mkF m 40 #[.val (.int p1), .val (.int p2), .val (.int p3), .val (.int p4), .val (.int (own_w p1)), .val (.ref k0), .unset, .unset, .unset, .unset, .unset, .unset, .unset] []))
    exact own_B l Z a0 hw ws p1 p2 p3 p4 h0 n0 p e s m below meth c s₁ Bd hml hZ T1 X1 e1 k0 (fun T x f cc X eT hv => own_C0 l Z a0 hw ws p1 p2 p3 p4 h0 n0 p e s m below meth c s₁ Bd hml hZ T X eT hwh k0 E0 F0 x f cc (own_same0 hv))
  · refine own_go (fun _ k => XS.ifYes X0.here hx rfl (pc0 := 10) (pc' := 21) rfl (hb hby at_10) rfl (by rw [hwh]; decide) (by decide) (by decide) k) ?_
    show own_Goes p e below (own_End s below _ _) (s₁.setTop (mkF m 21 #[.val (.int p1), .val (.int p2), .val (.int p3), .val (.int p4), .val (.int (own_w p1)), .unset, .unset, .unset, .unset, .unset, .unset, .unset, .unset] []))
    refine own_go (fun _ k => XS.iload X0.here hx rfl (hb hby at_21) rfl k) ?_
    show own_Goes p e below (own_End s below _ _) (s₁.setTop (mkF m 23 #[.val (.int p1), .val (.int p2), .val (.int p3), .val (.int p4), .val (.int (own_w p1)), .unset, .unset, .unset, .unset, .unset, .unset, .unset, .unset] [(.int (own_w p1))]))
    refine own_go (fun _ k => XS.iconst X0.here hx rfl (hb hby at_23) k) ?_
    show own_Goes p e below (own_End s below _ _) (s₁.setTop (mkF m 24 #[.val (.int p1), .val (.int p2), .val (.int p3), .val (.int p4), .val (.int (own_w p1)), .unset, .unset, .unset, .unset, .unset, .unset, .unset, .unset] [(.int (1 : Int32)), (.int (own_w p1))]))
    refine own_go (fun _ k => XS.icmpNo X0.here hx rfl (hb hby at_24) rfl (teq hwh).2 k) ?_
    show own_Goes p e below (own_End s below _ _) (s₁.setTop (mkF m 27 #[.val (.int p1), .val (.int p2), .val (.int p3), .val (.int p4), .val (.int (own_w p1)), .unset, .unset, .unset, .unset, .unset, .unset, .unset, .unset] []))
    obtain ⟨T1, X1, e1, st1⟩ := getS X0 hx hZ (host := "") hown (hw _ (List.mem_of_getElem? (i := 24) rfl)) Via.refl e0 S1 (g := (mkF m 27 #[.val (.int p1), .val (.int p2), .val (.int p3), .val (.int p4), .val (.int (own_w p1)), .unset, .unset, .unset, .unset, .unset, .unset, .unset, .unset] [])) rfl (hb hby at_27)
    refine own_go st1 ?_
    show own_Goes p e below (own_End s below _ _) (T1.setTop (mkF m 30 #[.val (.int p1), .val (.int p2), .val (.int p3), .val (.int p4), .val (.int (own_w p1)), .unset, .unset, .unset, .unset, .unset, .unset, .unset, .unset] [(.ref k1)]))
    refine own_go (fun _ k => XS.astore X1.here hx rfl (hb hby at_30) rfl rfl (l' := #[.val (.int p1), .val (.int p2), .val (.int p3), .val (.int p4), .val (.int (own_w p1)), .val (.ref k1), .unset, .unset, .unset, .unset, .unset, .unset, .unset]) rfl k) ?_
    show own_Goes p e below (own_End s below _ _) (T1.setTop (mkF m 32 #[.val (.int p1), .val (.int p2), .val (.int p3), .val (.int p4), .val (.int (own_w p1)), .val (.ref k1), .unset, .unset, .unset, .unset, .unset, .unset, .unset] []))
    refine own_go (fun _ k => XS.goto X1.here hx rfl (pc0 := 32) (pc' := 40) rfl (hb hby at_32) (by decide) (by decide) k) ?_
    show own_Goes p e below (own_End s below _ _) (T1.setTop (mkF m 40 #[.val (.int p1), .val (.int p2), .val (.int p3), .val (.int p4), .val (.int (own_w p1)), .val (.ref k1), .unset, .unset, .unset, .unset, .unset, .unset, .unset] []))
    exact own_B l Z a0 hw ws p1 p2 p3 p4 h0 n0 p e s m below meth c s₁ Bd hml hZ T1 X1 e1 k1 (fun T x f cc X eT hv => own_C1 l Z a0 hw ws p1 p2 p3 p4 h0 n0 p e s m below meth c s₁ Bd hml hZ T X eT hwh k1 E1 F1 x f cc (own_same1 hv))
  · refine own_go (fun _ k => XS.ifYes X0.here hx rfl (pc0 := 10) (pc' := 21) rfl (hb hby at_10) rfl (by rw [hwh]; decide) (by decide) (by decide) k) ?_
    show own_Goes p e below (own_End s below _ _) (s₁.setTop (mkF m 21 #[.val (.int p1), .val (.int p2), .val (.int p3), .val (.int p4), .val (.int (own_w p1)), .unset, .unset, .unset, .unset, .unset, .unset, .unset, .unset] []))
    refine own_go (fun _ k => XS.iload X0.here hx rfl (hb hby at_21) rfl k) ?_
    show own_Goes p e below (own_End s below _ _) (s₁.setTop (mkF m 23 #[.val (.int p1), .val (.int p2), .val (.int p3), .val (.int p4), .val (.int (own_w p1)), .unset, .unset, .unset, .unset, .unset, .unset, .unset, .unset] [(.int (own_w p1))]))
    refine own_go (fun _ k => XS.iconst X0.here hx rfl (hb hby at_23) k) ?_
    show own_Goes p e below (own_End s below _ _) (s₁.setTop (mkF m 24 #[.val (.int p1), .val (.int p2), .val (.int p3), .val (.int p4), .val (.int (own_w p1)), .unset, .unset, .unset, .unset, .unset, .unset, .unset, .unset] [(.int (1 : Int32)), (.int (own_w p1))]))
    refine own_go (fun _ k => XS.icmpYes X0.here hx rfl (pc0 := 24) (pc' := 35) rfl (hb hby at_24) rfl (feq (by rw [hwh]; decide)).2 (by decide) (by decide) k) ?_
    show own_Goes p e below (own_End s below _ _) (s₁.setTop (mkF m 35 #[.val (.int p1), .val (.int p2), .val (.int p3), .val (.int p4), .val (.int (own_w p1)), .unset, .unset, .unset, .unset, .unset, .unset, .unset, .unset] []))
    obtain ⟨T1, X1, e1, st1⟩ := getS X0 hx hZ (host := "") hown (hw _ (List.mem_of_getElem? (i := 26) rfl)) Via.refl e0 S2 (g := (mkF m 35 #[.val (.int p1), .val (.int p2), .val (.int p3), .val (.int p4), .val (.int (own_w p1)), .unset, .unset, .unset, .unset, .unset, .unset, .unset, .unset] [])) rfl (hb hby at_35)
    refine own_go st1 ?_
    show own_Goes p e below (own_End s below _ _) (T1.setTop (mkF m 38 #[.val (.int p1), .val (.int p2), .val (.int p3), .val (.int p4), .val (.int (own_w p1)), .unset, .unset, .unset, .unset, .unset, .unset, .unset, .unset] [(.ref k2)]))
    refine own_go (fun _ k => XS.astore X1.here hx rfl (hb hby at_38) rfl rfl (l' := #[.val (.int p1), .val (.int p2), .val (.int p3), .val (.int p4), .val (.int (own_w p1)), .val (.ref k2), .unset, .unset, .unset, .unset, .unset, .unset, .unset]) rfl k) ?_
    show own_Goes p e below (own_End s below _ _) (T1.setTop (mkF m 40 #[.val (.int p1), .val (.int p2), .val (.int p3), .val (.int p4), .val (.int (own_w p1)), .val (.ref k2), .unset, .unset, .unset, .unset, .unset, .unset, .unset] []))
    exact own_B l Z a0 hw ws p1 p2 p3 p4 h0 n0 p e s m below meth c s₁ Bd hml hZ T1 X1 e1 k2 (fun T x f cc X eT hv => own_C2 l Z a0 hw ws p1 p2 p3 p4 h0 n0 p e s m below meth c s₁ Bd hml hZ T X eT hwh k2 E2 F2 x f cc (own_same2 hv))
theorem own_eqf {args : Array Value} {s : State} {t : Term} {a : Addr} {C n d : String} {k : Int32} (b : t.eval args s none [] s = some (.ref a)) (q : (Jvm.Cond.eq (Jvm.Term.field t C n d) (Jvm.Term.int k)).value args s none s [] = some true) : Fld s s.heap a C n d (.int k) := by
  obtain ⟨u, v, h1, h2, k1, k2⟩ := cmp_v (Or.inl q)
  obtain rfl : v = .int k := Option.some.inj (h2.symm.trans (Term.int_eval k))
  obtain ⟨z, rfl⟩ : ∃ z, u = .int z := k2
  obtain rfl : z = k := gotT (Cond.eq_ints h1 h2) q
  exact Fld.start ((fld_at b).symm.trans h1)
set_option maxRecDepth 65536 in
set_option maxHeartbeats 40000000 in
theorem comes_1 {Post : Tables → Env → Array Value → State → Outcome → State → Prop} (hpost : ∀ tb e args s v u, (limb_1_1.after args s (.returned v) u = true ∧ limb_1_2.after args s (.returned v) u = true ∧ True) → FrameEnd s (.returned v) u (Jvm.fieldLocs frame_1_writes args s ++ Jvm.arrayLocs frame_1_arrays args s ++ Jvm.staticLocs frame_1_statics s) room_1.cells room_1.slots → Post tb e args s (.returned v) u) :
    ArmFor flags0 classFile x code maxLocals ret World_1 tables_1 room_1 Calls_1 rest_1 Pre_1 Post := by
  intro l hfl _ _ p e ha hc hk s m args below hf hA hF happ hP
  obtain ⟨hcalls, hrest, hpre⟩ := hP
  obtain ⟨-, -, -, hnamed, -, -, -, hat⟩ := (Spec.applies_iff hf).mp happ
  obtain ⟨hg, hn⟩ := and_e (Cond.before_iff.mp (show (Jvm.Cond.and given_1 narrow_1).before args s = true from hpre))
  obtain ⟨g0, q0⟩ := and_e hg
  obtain ⟨g1, q1⟩ := and_e q0
  obtain ⟨g2, q2⟩ := and_e q1
  obtain ⟨g3, q3⟩ := and_e q2
  obtain ⟨w0, w1, w2, w3, rfl⟩ : ∃ w0 w1 w2 w3 : Value, args = #[w0, w1, w2, w3] := by
    have hs : args.size = 4 := by simpa [Cond.value, given_1] using g0
    obtain ⟨L⟩ := args
    match L, hs with
    | [w0, w1, w2, w3], _ => exact ⟨w0, w1, w2, w3, rfl⟩
  have hw := fun d (hd : d ∈ tables_1) => atoms_spec (ws := Jvm.Cond.code x code maxLocals ret :: tables_1) hat d (List.mem_cons_of_mem _ hd)
  obtain ⟨i0, z0⟩ := is_v g1
  obtain rfl : w0 = (.int i0) := Option.some.inj z0
  obtain ⟨i1, z1⟩ := is_v g2
  obtain rfl : w1 = (.int i1) := Option.some.inj z1
  obtain ⟨i2, z2⟩ := is_v g3
  obtain rfl : w2 = (.int i2) := Option.some.inj z2
  obtain ⟨i3, z3⟩ := is_v q3
  obtain rfl : w3 = (.int i3) := Option.some.inj z3
  obtain ⟨m0, r0⟩ := and_e hn
  obtain ⟨m1, r1⟩ := and_e r0
  obtain ⟨m2, r2⟩ := and_e r1
  obtain ⟨m3, r3⟩ := and_e r2
  obtain ⟨m4, m5⟩ := and_e r3
  obtain ⟨a0, b0⟩ := exa_v m0
  have E0 : Exa s s.heap a0 "com/example/skor/skor/Bm25$Parameter" := Exa.start b0 m0
  have S0 : Sta s s.heap "com/example/skor/skor/Bm25$Parameter" "K1" "Lcom/example/skor/skor/Bm25$Parameter;" (.ref a0) := Sta.start b0 (Or.inr ⟨(hw _ (List.mem_of_getElem? (i := 2) rfl)), (hw _ (List.mem_of_getElem? (i := 3) rfl))⟩)
  have F0 : Fld s s.heap a0 "java/lang/Enum" "ordinal" "I" (.int 0) := own_eqf b0 m1
  obtain ⟨a1, b1⟩ := exa_v m2
  have E1 : Exa s s.heap a1 "com/example/skor/skor/Bm25$Parameter" := Exa.start b1 m2
  have S1 : Sta s s.heap "com/example/skor/skor/Bm25$Parameter" "B" "Lcom/example/skor/skor/Bm25$Parameter;" (.ref a1) := Sta.start b1 (Or.inr ⟨(hw _ (List.mem_of_getElem? (i := 2) rfl)), (hw _ (List.mem_of_getElem? (i := 25) rfl))⟩)
  have F1 : Fld s s.heap a1 "java/lang/Enum" "ordinal" "I" (.int 1) := own_eqf b1 m3
  obtain ⟨a2, b2⟩ := exa_v m4
  have E2 : Exa s s.heap a2 "com/example/skor/skor/Bm25$Parameter" := Exa.start b2 m4
  have S2 : Sta s s.heap "com/example/skor/skor/Bm25$Parameter" "WEIGHT" "Lcom/example/skor/skor/Bm25$Parameter;" (.ref a2) := Sta.start b2 (Or.inr ⟨(hw _ (List.mem_of_getElem? (i := 2) rfl)), (hw _ (List.mem_of_getElem? (i := 27) rfl))⟩)
  have F2 : Fld s s.heap a2 "java/lang/Enum" "ordinal" "I" (.int 2) := own_eqf b2 m5
  obtain ⟨n, o, h1, h2, h3, _, L, rfl, ⟨rfl, N⟩, hq⟩ := own_law l s _ hw tables_1 i0 i1 i2 i3 s.heap s.heap.size a0 S0 E0 F0 a1 S1 E1 F1 a2 S2 E2 F2 p e ha hc hk s m _ below hf ((Spec.applies_iff_loose hf).mp happ).1 ⟨rfl, State.Warmed39.refl s, rfl⟩ trivial
  refine ⟨n, _, h1, h2, h3, hpost _ _ _ _ _ _ ⟨Cond.after_iff.mpr rfl, Cond.after_iff.mpr (eq_i res_at (Term.int_eval (1)) rfl), trivial⟩ ⟨hq.1, hq.2.1, hq.2.2.sift fun y hy => Or.inr (N y hy)⟩⟩
theorem main_1_1 : Claimed_1_1 := comes_1 fun _ _ _ _ _ _ h hF => ⟨h.1, hF⟩
theorem main_1_2 : Claimed_1_2 := comes_1 fun _ _ _ _ _ _ h hF => ⟨h.2.1, hF⟩
end Jvm.Pilot.@@N@@
namespace Jvm.Pilot.@@N@@
open Jvm Jvm.ClassFile Sem Op Lib Jvm.Free Jvm.Stand Jvm.Pilot.@@N@@.Jvm.D
/-! MADE BY PROGRAM (witnessworld.py) out of the Statement's table words and the real class files: 12 classes; the members and pool entries that the words name. The judged class is class 1, her method 2. -/
namespace start1
open Jvm.ClassFile
def u (s : String) : CpInfo := .utf8 (stringToUtf16 s)
/-- a pool by its gaps: so many unusable entries, then the entry; so many at the end -/
def gap : Nat → List CpInfo → List CpInfo
  | 0, r => r
  | n + 1, r => .unusable :: gap n r
def poolList (es : List (Nat × CpInfo)) (last : Nat) : List CpInfo := es.foldr (fun e r => gap e.1 (e.2 :: r)) (gap last [])
def pool (es : List (Nat × CpInfo)) (last : Nat) : Array CpInfo := ⟨poolList es last⟩
def fileOf (pool : Array CpInfo) (this : Nat) (attrs : Array Attribute := #[]) (ms : Array MethodInfo := #[]) (fl : Nat := 33) (sup : Nat := 0) (ifs : Array Nat := #[]) (fds : Array FieldInfo := #[]) : ClassFile where
  minorVersion := 0
  majorVersion := 65
  constantPool := pool
  accessFlags := fl
  thisClass := this
  superClass := sup
  interfaces := ifs
  fields := fds
  methods := ms
  attributes := attrs
def plain (name : String) (sup : Option ClassId) : Class where
  name := name
  kind := .ordinary
  loader := none
  accessFlags := 33
  super := sup
  interfaces := #[]
  cf := none
  fields := #[]
  methods := #[]
  instanceTypes := #[]
  staticTypes := #[]
  resolved := #[]
  callSites := []
  init := .initialized
  statics := none
  mirror := none

def pool0 : Array CpInfo := pool [(5, u "<init>"), (0, u "()V"), (1, .class_ 10), (1, u "java/lang/Object")] 113

def k0m0 : Method := { name := "<init>", desc := "()V", sig := { parameters := [], returnType := none }, accessFlags := 1, code := none }
/-- java/lang/Object -/
def k0 : Class := { plain "java/lang/Object" none with
  accessFlags := 33
  interfaces := #[]
  cf := some (fileOf pool0 8 #[] #[{ accessFlags := 1, nameIndex := 5, descriptorIndex := 6, attributes := #[] }] 33 0 #[] #[])
  fields := #[]
  methods := #[k0m0]
  instanceTypes := #[]
  staticTypes := #[]
  resolved := Array.replicate 124 none
  statics := none }

def pool1 : Array CpInfo := pool [(2, .class_ 4), (1, u "java/lang/Object"), (0, u "<init>"), (0, u "()V"), (0, .double 4696837146684686336), (1, .integer 2147483647), (0, .fieldref 11 12), (0, .class_ 13), (0, .nameAndType 14 15), (0, u "com/example/skor/skor/Bm25$Parameter"), (0, u "K1"), (0, u "Lcom/example/skor/skor/Bm25$Parameter;"), (0, .fieldref 11 17), (0, .nameAndType 18 15), (0, u "B"), (0, .fieldref 11 20), (0, .nameAndType 21 15), (0, u "WEIGHT"), (0, .methodref 23 24), (0, .class_ 25), (0, .nameAndType 26 27), (0, u "com/example/skor/skor/ParameterAdmitsPinLaw"), (0, u "infinity"), (0, u "()D"), (0, .double 9223372036854775808), (1, .methodref 11 31), (0, .nameAndType 32 33), (0, u "admits"), (0, u "(D)Z"), (2, u "law"), (0, u "(IIII)Z")] 7

def k1m0 : Method := { name := "<init>", desc := "()V", sig := { parameters := [], returnType := none }, accessFlags := 1, code := none }
def k1c1 : Code := { maxStack := 4, maxLocals := 2, code := method_2_code, exceptionTable := #[], attributes := #[] }
def k1m1 : Method := { name := "infinity", desc := "()D", sig := { parameters := [], returnType := some .double }, accessFlags := 10, code := some k1c1 }
def k1c2 : Code := { maxStack := 5, maxLocals := 13, code := code, exceptionTable := #[], attributes := #[] }
def k1m2 : Method := { name := "law", desc := "(IIII)Z", sig := { parameters := [.int, .int, .int, .int], returnType := some .boolean }, accessFlags := 9, code := some k1c2 }
/-- com/example/skor/skor/ParameterAdmitsPinLaw -/
def k1 : Class := { plain "com/example/skor/skor/ParameterAdmitsPinLaw" (some 0) with
  accessFlags := 49
  interfaces := #[]
  cf := some (fileOf pool1 23 #[] #[{ accessFlags := 1, nameIndex := 5, descriptorIndex := 6, attributes := #[] }, { accessFlags := 10, nameIndex := 26, descriptorIndex := 27, attributes := #[] }, { accessFlags := 9, nameIndex := 36, descriptorIndex := 37, attributes := #[] }] 49 2 #[] #[])
  fields := #[]
  methods := #[k1m0, k1m1, k1m2]
  instanceTypes := #[]
  staticTypes := #[]
  resolved := Array.replicate 45 none
  statics := none }

def pool2 : Array CpInfo := pool [(1, .class_ 2), (0, u "java/lang/constant/Constable"), (0, .class_ 4), (0, u "java/lang/Object")] 6

/-- java/lang/constant/Constable -/
def k2 : Class := { plain "java/lang/constant/Constable" (some 0) with
  accessFlags := 1537
  interfaces := #[]
  cf := some (fileOf pool2 1 #[] #[] 1537 3 #[] #[])
  fields := #[]
  methods := #[]
  instanceTypes := #[]
  staticTypes := #[]
  resolved := Array.replicate 11 none
  statics := none }

def pool3 : Array CpInfo := pool [(1, .class_ 2), (0, u "java/lang/Comparable"), (0, .class_ 4), (0, u "java/lang/Object")] 7

/-- java/lang/Comparable -/
def k3 : Class := { plain "java/lang/Comparable" (some 0) with
  accessFlags := 1537
  interfaces := #[]
  cf := some (fileOf pool3 1 #[] #[] 1537 3 #[] #[])
  fields := #[]
  methods := #[]
  instanceTypes := #[]
  staticTypes := #[]
  resolved := Array.replicate 12 none
  statics := none }

def pool4 : Array CpInfo := pool [(1, .class_ 2), (0, u "java/io/Serializable"), (0, .class_ 4), (0, u "java/lang/Object")] 2

/-- java/io/Serializable -/
def k4 : Class := { plain "java/io/Serializable" (some 0) with
  accessFlags := 1537
  interfaces := #[]
  cf := some (fileOf pool4 1 #[] #[] 1537 3 #[] #[])
  fields := #[]
  methods := #[]
  instanceTypes := #[]
  staticTypes := #[]
  resolved := Array.replicate 7 none
  statics := none }

def pool5 : Array CpInfo := pool [(2, .class_ 4), (1, u "java/lang/Enum"), (0, u "name"), (0, u "Ljava/lang/String;"), (0, .fieldref 2 8), (0, .nameAndType 9 10), (0, u "ordinal"), (0, u "I"), (1, .class_ 14), (1, u "java/lang/Object"), (4, u "hash"), (86, .class_ 108), (1, u "java/lang/Enum$EnumDesc"), (2, .class_ 112), (0, u "java/lang/constant/Constable"), (0, .class_ 114), (0, u "java/lang/Comparable"), (0, .class_ 116), (0, u "java/io/Serializable"), (9, u "()I")] 77

def k5c0 : Code := { maxStack := 1, maxLocals := 1, code := jdk_37_method_2_code, exceptionTable := #[], attributes := #[] }
def k5m0 : Method := { name := "ordinal", desc := "()I", sig := { parameters := [], returnType := some .int }, accessFlags := 17, code := some k5c0 }
/-- java/lang/Enum -/
def k5 : Class := { plain "java/lang/Enum" (some 0) with
  accessFlags := 1057
  interfaces := #[2, 3, 4]
  cf := some (fileOf pool5 2 #[.nestMembers #[106]] #[{ accessFlags := 17, nameIndex := 9, descriptorIndex := 126, attributes := #[] }] 1057 12 #[111, 113, 115] #[{ accessFlags := 18, nameIndex := 5, descriptorIndex := 6, attributes := #[] }, { accessFlags := 18, nameIndex := 9, descriptorIndex := 10, attributes := #[] }, { accessFlags := 2, nameIndex := 19, descriptorIndex := 10, attributes := #[] }])
  fields := #[{ name := "name", type := (.object "java/lang/String"), accessFlags := 18, slot := 0, constantValue := 0 }, { name := "ordinal", type := .int, accessFlags := 18, slot := 1, constantValue := 0 }, { name := "hash", type := .int, accessFlags := 2, slot := 2, constantValue := 0 }]
  methods := #[k5m0]
  instanceTypes := #[(.object "java/lang/String"), .int, .int]
  staticTypes := #[]
  resolved := Array.replicate 204 none
  statics := none }

def pool6 : Array CpInfo := pool [(1, .class_ 2), (0, u "com/example/skor/skor/Bm25$Parameter"), (2, u "K1"), (0, u "Lcom/example/skor/skor/Bm25$Parameter;"), (2, u "B"), (2, u "WEIGHT"), (2, u "$VALUES"), (0, u "[Lcom/example/skor/skor/Bm25$Parameter;"), (6, .class_ 25), (1, u "java/lang/Enum"), (8, u "name"), (0, u "Ljava/lang/String;"), (2, u "defaultValue"), (0, u "D"), (2, u "range"), (0, .methodref 1 44), (0, .nameAndType 45 46), (0, u "ordinal"), (0, u "()I"), (7, .double 9218868437227405312), (36, u "admits"), (0, u "(D)Z"), (8, .class_ 102), (0, u "com/example/skor/skor/Bm25")] 2

def k6c0 : Code := { maxStack := 4, maxLocals := 3, code := prog_8_method_6_code, exceptionTable := #[], attributes := #[] }
def k6m0 : Method := { name := "admits", desc := "(D)Z", sig := { parameters := [.double], returnType := some .boolean }, accessFlags := 0, code := some k6c0 }
/-- com/example/skor/skor/Bm25$Parameter -/
def k6 : Class := { plain "com/example/skor/skor/Bm25$Parameter" (some 5) with
  accessFlags := 16432
  interfaces := #[]
  cf := some (fileOf pool6 1 #[.nestHost 101] #[{ accessFlags := 0, nameIndex := 91, descriptorIndex := 92, attributes := #[] }] 16432 23 #[] #[{ accessFlags := 16409, nameIndex := 5, descriptorIndex := 6, attributes := #[] }, { accessFlags := 16409, nameIndex := 9, descriptorIndex := 6, attributes := #[] }, { accessFlags := 16409, nameIndex := 12, descriptorIndex := 6, attributes := #[] }, { accessFlags := 18, nameIndex := 34, descriptorIndex := 35, attributes := #[] }, { accessFlags := 18, nameIndex := 38, descriptorIndex := 39, attributes := #[] }, { accessFlags := 18, nameIndex := 42, descriptorIndex := 35, attributes := #[] }, { accessFlags := 4122, nameIndex := 15, descriptorIndex := 16, attributes := #[] }])
  fields := #[{ name := "K1", type := (.object "com/example/skor/skor/Bm25$Parameter"), accessFlags := 16409, slot := 0, constantValue := 0 }, { name := "B", type := (.object "com/example/skor/skor/Bm25$Parameter"), accessFlags := 16409, slot := 1, constantValue := 0 }, { name := "WEIGHT", type := (.object "com/example/skor/skor/Bm25$Parameter"), accessFlags := 16409, slot := 2, constantValue := 0 }, { name := "name", type := (.object "java/lang/String"), accessFlags := 18, slot := 3, constantValue := 0 }, { name := "defaultValue", type := .double, accessFlags := 18, slot := 4, constantValue := 0 }, { name := "range", type := (.object "java/lang/String"), accessFlags := 18, slot := 5, constantValue := 0 }, { name := "$VALUES", type := (.array (.object "com/example/skor/skor/Bm25$Parameter")), accessFlags := 4122, slot := 3, constantValue := 0 }]
  methods := #[k6m0]
  instanceTypes := #[(.object "java/lang/String"), .int, .int, (.object "java/lang/String"), .double, (.object "java/lang/String")]
  staticTypes := #[(.object "com/example/skor/skor/Bm25$Parameter"), (.object "com/example/skor/skor/Bm25$Parameter"), (.object "com/example/skor/skor/Bm25$Parameter"), (.array (.object "com/example/skor/skor/Bm25$Parameter"))]
  resolved := Array.replicate 105 none
  statics := some 0 }

def pool7 : Array CpInfo := pool [(1, u "java/lang/Cloneable"), (0, .class_ 1), (0, u "java/lang/Object"), (0, .class_ 3)] 3

/-- java/lang/Cloneable -/
def k7 : Class := { plain "java/lang/Cloneable" (some 0) with
  accessFlags := 1537
  interfaces := #[]
  cf := some (fileOf pool7 2 #[] #[] 1537 4 #[] #[])
  fields := #[]
  methods := #[]
  instanceTypes := #[]
  staticTypes := #[]
  resolved := Array.replicate 8 none
  statics := none }

/-- the primitive byte -/
def k8 : Class := { plain "byte" none with kind := .primitive 'B', accessFlags := 0x411 }
/-- [B -/
def k9 : Class := { plain "[B" (some 0) with kind := .array 8 .byte, interfaces := #[7, 4], accessFlags := 1041 }

/-- the primitive int -/
def k10 : Class := { plain "int" none with kind := .primitive 'I', accessFlags := 0x411 }
/-- [I -/
def k11 : Class := { plain "[I" (some 0) with kind := .array 10 .int, interfaces := #[7, 4], accessFlags := 1041 }

def heap : Heap := #[{ cls := 6, slots := #[.ref 1, .ref 2, .ref 3, .null], vm := .statics 6 },
  { cls := 6, slots := #[.null, .int 0, .int 0, .null, .double 0, .null], vm := .none },
  { cls := 6, slots := #[.null, .int 1, .int 0, .null, .double 0, .null], vm := .none },
  { cls := 6, slots := #[.null, .int 2, .int 0, .null, .double 0, .null], vm := .none }]
def classes : Array Class := #[k0, k1, k2, k3, k4, k5, k6, k7, k8, k9, k10, k11]
def interned : List (Array UInt16 × Addr) := []
def slotsUsed : Nat := 22
def theMethod : MethodId := ⟨1, 2⟩
def args0 : Array Value := #[.int 5, .int 1, .int 2, .int 3]
def aboutOver (below : List Frame) : State where
  vm := { classes := classes, interned := interned.toArray }
  heap := heap
  slotsUsed := slotsUsed
  threads := #[{ frames := .invoking theMethod args0 :: below }]
def below0 : List Frame := [.native { method := ⟨0, 0⟩, args := #[] }]
def about1 : State := aboutOver below0
def p0 : Program := .bare "" "" ""
def e0 : Env := launch0.env 0 0 0
theorem w_frames : about1.frames = Frame.invoking theMethod args0 :: below0 := rfl
set_option maxRecDepth 65536 in
theorem w_args : argsFit about1.vm theMethod args0 = true := by decide +kernel
set_option maxRecDepth 65536 in
theorem w_heap : heapFits about1 = true := by decide +kernel
set_option maxRecDepth 65536 in
theorem w_runnable : about1.curStatus? = some .runnable := by decide +kernel
set_option maxRecDepth 65536 in
theorem w_alone : about1.alone = true := by decide +kernel
set_option maxRecDepth 65536 in
theorem w_named : about1.methodNamed? x = some theMethod := by decide +kernel
set_option maxRecDepth 65536 in
theorem w_hears : about1.hears theMethod below0 = true := by decide +kernel
set_option maxRecDepth 65536 in
theorem w_ripe : about1.ripe theMethod args0 below0 = true := by decide +kernel
theorem w_running : about1.status = .running := rfl
set_option maxRecDepth 65536 in
theorem w_room : about1.hasRoom e0.platform room_1 = true :=
  launch0.hasRoom_least _ room_1 (by decide +kernel) (by decide +kernel) (by decide +kernel) (by decide +kernel) (by decide +kernel) (by decide +kernel)
theorem allAtoms_all (ts : List Jvm.Cond) (a : Array Jvm.Value) (st : Jvm.State) : (allAtoms ts).before a st = ts.all (fun c => c.before a st) := by
  induction ts with
  | nil => rfl
  | cons c t ih =>
    show (Jvm.Cond.and c (allAtoms t)).before a st = _
    rw [Jvm.Cond.before_and, ih, List.all_cons]
def words1 : List Jvm.Cond := Jvm.Cond.code x code maxLocals ret :: tables_1
/-- a 'code' word, met by the world's own term for the bytes: nothing is compared byte by byte -/
theorem code_word {y : MethodName} {bytes : ByteArray} {mx : Nat} {rt : Option FieldType} {a : Array Value} {s : State} {m : MethodId} {meth : Method} {c : Code} (h1 : s.methodNamed? y = some m) (h2 : s.vm.method? m = some meth) (h3 : meth.code = some c) (h4 : c.code = bytes)
    (h5 : (c.maxLocals == mx && c.exceptionTable.isEmpty && decide (c.maxStack ≤ mostOperands) && decide (meth.sig.returnType = rt) && !meth.locks && decide (parseMethodDescriptor y.desc = some meth.sig)) = true) : (Jvm.Cond.code y bytes mx rt).before a s = true := by
  simp only [Bool.and_eq_true, beq_iff_eq, Bool.not_eq_true', decide_eq_true_eq] at h5
  obtain ⟨⟨⟨⟨⟨g1, g2⟩, g3⟩, g4⟩, g5⟩, g6⟩ := h5
  simp [Cond.before, Cond.holds, Cond.value, h1, h2, h3, h4, g1, g2, g3, g4, g5, g6]
def isCode : Jvm.Cond → Bool
  | .code _ _ _ _ => true
  | _ => false
theorem all_split {L : List Jvm.Cond} {P : Jvm.Cond → Bool} (h1 : L.all (fun c => isCode c || P c) = true) (h2 : ∀ c ∈ L.filter isCode, P c = true) : L.all P = true := by
  refine List.all_eq_true.mpr fun c hc => ?_
  have h := List.all_eq_true.mp h1 c hc
  rcases Bool.eq_false_or_eq_true (isCode c) with hi | hi
  · exact h2 c (List.mem_filter.mpr ⟨hc, hi⟩)
  · simpa [hi] using h
set_option maxRecDepth 65536 in
theorem w_c0 : (Jvm.Cond.code x code maxLocals ret).before args0 about1 = true := code_word (m := ⟨1, 2⟩) (meth := k1m2) (c := k1c2) (by decide +kernel) rfl rfl rfl (by decide +kernel)
set_option maxRecDepth 65536 in
theorem w_c1 : (Jvm.Cond.code ({ cls := "com/example/skor/skor/ParameterAdmitsPinLaw", name := "infinity", desc := "()D" } : Jvm.MethodName) method_2_code (2 : Nat) (Option.some Jvm.ClassFile.FieldType.double)).before args0 about1 = true := code_word (m := ⟨1, 1⟩) (meth := k1m1) (c := k1c1) (by decide +kernel) rfl rfl rfl (by decide +kernel)
set_option maxRecDepth 65536 in
theorem w_c2 : (Jvm.Cond.code ({ cls := "com/example/skor/skor/Bm25$Parameter", name := "admits", desc := "(D)Z" } : Jvm.MethodName) prog_8_method_6_code (3 : Nat) (Option.some Jvm.ClassFile.FieldType.boolean)).before args0 about1 = true := code_word (m := ⟨6, 0⟩) (meth := k6m0) (c := k6c0) (by decide +kernel) rfl rfl rfl (by decide +kernel)
set_option maxRecDepth 65536 in
theorem w_c3 : (Jvm.Cond.code ({ cls := "java/lang/Enum", name := "ordinal", desc := "()I" } : Jvm.MethodName) jdk_37_method_2_code (1 : Nat) (Option.some Jvm.ClassFile.FieldType.int)).before args0 about1 = true := code_word (m := ⟨5, 0⟩) (meth := k5m0) (c := k5c0) (by decide +kernel) rfl rfl rfl (by decide +kernel)
def codes1 : List Jvm.Cond := [Jvm.Cond.code x code maxLocals ret, Jvm.Cond.code ({ cls := "com/example/skor/skor/ParameterAdmitsPinLaw", name := "infinity", desc := "()D" } : Jvm.MethodName) method_2_code (2 : Nat) (Option.some Jvm.ClassFile.FieldType.double), Jvm.Cond.code ({ cls := "com/example/skor/skor/Bm25$Parameter", name := "admits", desc := "(D)Z" } : Jvm.MethodName) prog_8_method_6_code (3 : Nat) (Option.some Jvm.ClassFile.FieldType.boolean), Jvm.Cond.code ({ cls := "java/lang/Enum", name := "ordinal", desc := "()I" } : Jvm.MethodName) jdk_37_method_2_code (1 : Nat) (Option.some Jvm.ClassFile.FieldType.int)]
set_option maxRecDepth 65536 in
theorem codes_eq : words1.filter isCode = codes1 := rfl
theorem w_codes : ∀ c ∈ words1.filter isCode, c.before args0 about1 = true := by
  rw [codes_eq]
  intro c hc
  simp only [codes1, List.mem_cons, List.not_mem_nil, or_false] at hc
  rcases hc with rfl | rfl | rfl | rfl
  · exact w_c0
  · exact w_c1
  · exact w_c2
  · exact w_c3
set_option maxRecDepth 65536 in
theorem w_t1 : (words1.take 24).all (fun c => isCode c || c.before args0 about1) = true := by decide +kernel
set_option maxRecDepth 65536 in
theorem w_t2 : (words1.drop 24).all (fun c => isCode c || c.before args0 about1) = true := by decide +kernel
theorem w_tables : (allAtoms (Jvm.Cond.code x code maxLocals ret :: tables_1)).before args0 about1 = true := by
  rw [allAtoms_all]
  show words1.all (fun c => c.before args0 about1) = true
  refine all_split ?_ w_codes
  rw [← List.take_append_drop 24 words1, List.all_append, w_t1, w_t2]
  rfl
set_option maxRecDepth 65536 in
theorem w_case : (Jvm.Cond.and given_1 narrow_1).before args0 about1 = true := by decide +kernel
theorem w_applies : (headSpec (Jvm.Cond.code x code maxLocals ret :: tables_1) room_1).applies x e0.platform about1 = true :=
  (Spec.applies_iff w_frames).mpr ⟨w_running, w_runnable, w_alone, w_named, w_hears, w_ripe, w_room, w_tables⟩
theorem atStart : AtStart classFile x code maxLocals ret World_1 tables_1 room_1 Calls_1 rest_1 Pre_1 launch0 p0 e0 about1 theMethod args0 below0 :=
  ⟨lists_1, trivial, launch0.admits_env _ _ _, launch0.least_env, fairChoices_fair.cas, fairChoices_fair.clock, w_frames, w_args, w_heap, w_applies, trivial, trivial, w_case⟩
end start1
theorem witness_1 : WitnessClaimed_1 := ⟨start1.p0, start1.e0, start1.about1, start1.theMethod, start1.args0, start1.below0, start1.atStart⟩
end Jvm.Pilot.@@N@@
