import JvmDerived
import JvmDerived.Pilot.@@N@@Statement
import JvmDerived.Pilot.@@N@@Code
set_option linter.unusedVariables false
set_option linter.unusedSimpArgs false
namespace Jvm.Pilot.@@N@@
open Jvm Jvm.ClassFile Sem Op Lib Jvm.Free Jvm.Stand Jvm.LawKit Jvm.RoadKit Bundle Jvm.Pilot.@@N@@.Jvm.D
open Jvm.Free.Fl
section OwnLayer
variable {p : Program} {l : Launch} {e : Env} {R : Room} {s : State} {m : MethodId} {args : Array Value} {below : List Frame} {meth : Method} {c : Code} {T : State} {locs : List Loc} {cells slots : Nat} {Z : State} {h h0 : Heap} {a : Addr} {a0 : Array Value}
/-- a walk's goal: from S the run comes to an end of which Q holds -/
def own_Goes (p : Program) (e : Env) (below : List Frame) (Q : State → Prop) (S : State) : Prop := ∃ t, Steps p.tables e below S t ∧ Q t
theorem own_go {Q : State → Prop} {S S' : State} (k : ∀ t, Steps p.tables e below S' t → Steps p.tables e below S t) (g : own_Goes p e below Q S') : own_Goes p e below Q S := by
  obtain ⟨t, h1, h2⟩ := g
  exact ⟨t, k t h1, h2⟩
def own_End (s : State) (below : List Frame) (rm : Room) (Q : Option Value → Heap → List Loc → Prop) (t : State) : Prop := t.status = .running ∧ ∃ v L, Ended t below (.returned v) ∧ Q v t.heap L ∧ FrameEnd s (.returned v) t L rm.cells rm.slots
/-- a method's contract at one start: arguments as', heap h0; what it leaves: Q -/
def own_Met (l : Launch) (Z : State) (y : MethodName) (bytes : ByteArray) (maxL : Nat) (ret : Option FieldType) (rm : Room) (ws : List Jvm.Cond) (as' : Array Value) (h0 : Heap) (Q : Option Value → Heap → List Loc → Prop) : Prop :=
  MetFree l y (head1 (Jvm.Cond.code y bytes maxL ret :: ws) rm) (fun a U => a = as' ∧ Z.Warmed39 U.vm ∧ U.heap = h0) (fun _ _ _ _ _ => True) (fun _ U o U' => ∃ v L, o = .returned v ∧ Q v U'.heap L ∧ FrameEnd U o U' L rm.cells rm.slots)
theorem own_met {y : MethodName} {bytes : ByteArray} {maxL : Nat} {ret : Option FieldType} {rm : Room} {ws : List Jvm.Cond} {as' : Array Value} {Q : Option Value → Heap → List Loc → Prop} (hp : plainFor y = true)
    (body : ∀ (p : Program) (e : Env) (s : State) (m : MethodId) (below : List Frame) (meth : Method) (c : Code) (s₁ : State), BodyLoose p l y (head1 (Jvm.Cond.code y bytes maxL ret :: ws) rm) bytes maxL ret e s m as' below meth c s₁ → c.maxLocals = maxL → Z.Warmed39 s.vm → s₁.heap = h0 → own_Goes p e below (own_End s below rm Q) (s₁.setTop (entryFrame m as' maxL))) :
    own_Met l Z y bytes maxL ret rm ws as' h0 Q := by
  refine MetFree.of_bodySF hp hisR ?_
  intro p e s m args below meth c s₁ Bd hml0 hP hK
  obtain ⟨rfl, hZ, hh⟩ := hP
  obtain ⟨t, h1, h2, v, L, h3, h4, h5⟩ := body p e s m below meth c s₁ Bd hml0 hZ (by rw [← hh, Bd.state]; rfl)
  exact ⟨t, _, h1, h2, h3, v, L, rfl, h4, h5⟩
/-- the end of a walk -/
theorem own_fin (X : Stand p l e R s m args below meth c T locs cells slots) (hlocks : meth.locks = false) {v : Option Value} (hv : meth.sig.returnType = none → v = none) {g : JFrame} {rm : Room} {Q : Option Value → Heap → List Loc → Prop}
    (st : ∀ fs, (∀ (f : JFrame) (acts : List Action), f.method = m → f.locked = none → f.entered = [] → (doReturn e (T.setTop f) acts v).1 = T.setFrames fs) → Steps p.tables e below (T.setTop g) (T.setFrames fs))
    (hQ : Q v T.heap locs) (hc : cells ≤ rm.cells) (hs : slots ≤ rm.slots) : own_Goes p e below (own_End s below rm Q) (T.setTop g) := by
  obtain ⟨fs, hr, hrun, hended, hW, hsame⟩ := X.leave (v := v) hv hlocks
  exact ⟨_, st fs hr, hrun, v, locs, hended, hQ, ⟨_, rfl⟩, hW, hsame.mono hc hs⟩
theorem own_notnone {t : FieldType} {v : Option Value} (q : meth.sig.returnType = some t) : meth.sig.returnType = none → v = none := fun h => by rw [q] at h; cases h
/-- nothing written, nothing made: the value alone -/
def own_Pure (v : Option Value) (h : Heap) (v' : Option Value) (h' : Heap) (L : List Loc) : Prop := v' = v ∧ h' = h ∧ L = []
theorem own_callS (X : Stand p l e R s m args below meth c T locs cells slots) (hx : p.tables.exec = Jvm.exec) (hZ : Z.Warmed39 s.vm) {own : String} {index : Nat} {y : MethodName} {bytes : ByteArray} {maxL : Nat} {ret : Option FieldType} {rm : Room} {as' : Array Value} {Q : Option Value → Heap → List Loc → Prop}
    (hown : s.vm.findClass own = some m.cls) (w1 : (Jvm.Cond.methodLink own index y).before a0 Z = true) (w2 : (Jvm.Cond.static y).before a0 Z = true) (w3 : (Jvm.Cond.initialized y.cls).before a0 Z = true) (w4 : (Jvm.Cond.code y bytes maxL ret).before a0 Z = true)
    (hy : y.cls ≠ "java/lang/invoke/MethodHandle" ∧ y.cls ≠ "java/lang/invoke/VarHandle") (hM : own_Met l Z y bytes maxL ret rm [] as' h Q) (eT : T.heap = h) {W : Nat} (hf : rm.frames + 1 ≤ R.frames) (hl : W + (maxL + 11) + rm.locals ≤ R.locals)
    {g : JFrame} (hg : g.method = m) (hsize : g.locals.size = c.maxLocals) {argsL rest : List Value} {ps : List FieldType} {r : Option FieldType} (hd : parseMethodDescriptor y.desc = some ⟨ps, r⟩) (hlen : argsL.length = ps.length)
    (hstack : g.stack = argsL.reverse ++ rest) (hW : 2 * g.monitorRoom + (rest.map fun v => v.category).sum ≤ W) (hdg : decode c.code g.pc = .ok (.invokestatic index, 3)) (has : argsL.toArray = as') (hc : cells + rm.cells ≤ R.cells) (hs : slots + rm.slots ≤ R.slots) :
    ∃ (v : Option Value) (T' : State) (L : List Loc), Stand p l e R s m args below meth c T' (locs ++ L) (cells + rm.cells) (slots + rm.slots) ∧ Q v T'.heap L ∧ ∀ target, Steps p.tables e below (T'.setTop { g with pc := g.pc + 3, stack := v.toList ++ rest }) target → Steps p.tables e below (T.setTop g) target := by
  obtain ⟨v, _, ⟨U, Ls, k, n⟩, -, X', ⟨Lc, hQ, l1, y1, z1⟩, st⟩ := Jvm.LawKit.callS X hx (y := y) hown (mvT hZ w1) (mvT hZ w2) (mvT hZ w3) (mvT hZ w4) hy (backOf (W := W) hM hZ w4 w3 hf hl) (g := g) hg hsize (argsL := argsL) (rest := rest) (lenOf hd hlen) hstack hW hdg (fun _ _ => ⟨has, eT, hc, hs⟩)
  dsimp only [Pt.U, Pt.locs, Pt.cells, Pt.slots] at X' l1 y1 z1 st hQ
  subst l1 y1 z1
  exact ⟨v, U, Lc, X', hQ, st⟩
theorem own_callP (X : Stand p l e R s m args below meth c T locs cells slots) (hx : p.tables.exec = Jvm.exec) (hZ : Z.Warmed39 s.vm) {own : String} {index : Nat} {y : MethodName} {bytes : ByteArray} {maxL : Nat} {ret : Option FieldType} {fr lo : Nat} {as' : Array Value} {v : Option Value}
    (hown : s.vm.findClass own = some m.cls) (w1 : (Jvm.Cond.methodLink own index y).before a0 Z = true) (w2 : (Jvm.Cond.static y).before a0 Z = true) (w3 : (Jvm.Cond.initialized y.cls).before a0 Z = true) (w4 : (Jvm.Cond.code y bytes maxL ret).before a0 Z = true)
    (hy : y.cls ≠ "java/lang/invoke/MethodHandle" ∧ y.cls ≠ "java/lang/invoke/VarHandle") (hM : own_Met l Z y bytes maxL ret ({ frames := fr, cells := 0, slots := 0, locals := lo } : Room) [] as' h (own_Pure v h)) (eT : T.heap = h) {W : Nat} (hf : fr + 1 ≤ R.frames) (hl : W + (maxL + 11) + lo ≤ R.locals)
    {g : JFrame} (hg : g.method = m) (hsize : g.locals.size = c.maxLocals) {argsL rest : List Value} {ps : List FieldType} {r : Option FieldType} (hd : parseMethodDescriptor y.desc = some ⟨ps, r⟩) (hlen : argsL.length = ps.length)
    (hstack : g.stack = argsL.reverse ++ rest) (hW : 2 * g.monitorRoom + (rest.map fun v => v.category).sum ≤ W) (hdg : decode c.code g.pc = .ok (.invokestatic index, 3)) (has : argsL.toArray = as') (hc : cells ≤ R.cells) (hs : slots ≤ R.slots) :
    ∃ T' : State, Stand p l e R s m args below meth c T' locs cells slots ∧ T'.heap = h ∧ ∀ target, Steps p.tables e below (T'.setTop { g with pc := g.pc + 3, stack := v.toList ++ rest }) target → Steps p.tables e below (T.setTop g) target := by
  obtain ⟨v', T', L, X', ⟨q1, q2, q3⟩, st⟩ := own_callS X hx hZ hown w1 w2 w3 w4 hy hM eT hf hl hg hsize hd hlen hstack hW hdg has hc hs
  subst q1 q3
  rw [List.append_nil] at X'
  exact ⟨T', X', q2, st⟩
theorem own_callV (X : Stand p l e R s m args below meth c T locs cells slots) (hx : p.tables.exec = Jvm.exec) (hZ : Z.Warmed39 s.vm) {own C : String} {index : Nat} {y z : MethodName} {bytes : ByteArray} {maxL : Nat} {ret : Option FieldType} {rm : Room} {as' : Array Value} {Q : Option Value → Heap → List Loc → Prop}
    (hown : s.vm.findClass own = some m.cls) (w1 : (Jvm.Cond.methodLink own index y).before a0 Z = true) (w2 : (Jvm.Cond.declares y).before a0 Z = true) (w3 : (Jvm.Cond.selects C y z).before a0 Z = true) (w5 : (Jvm.Cond.instanceMethod z).before a0 Z = true) (w6 : (Jvm.Cond.initialized z.cls).before a0 Z = true) (w4 : (Jvm.Cond.code z bytes maxL ret).before a0 Z = true) (hnf : NotFace s y)
    (hy : y.cls ≠ "java/lang/invoke/MethodHandle" ∧ y.cls ≠ "java/lang/invoke/VarHandle") (hM : own_Met l Z z bytes maxL ret rm [] as' h Q) (eT : T.heap = h) (E : Exa Z h a C) {W : Nat} (hf : rm.frames + 1 ≤ R.frames) (hl : W + (maxL + 11) + rm.locals ≤ R.locals)
    {g : JFrame} (hg : g.method = m) (hsize : g.locals.size = c.maxLocals) {argsL rest : List Value} {ps : List FieldType} {r : Option FieldType} (hd : parseMethodDescriptor y.desc = some ⟨ps, r⟩) (hlen : argsL.length = ps.length)
    (hstack : g.stack = argsL.reverse ++ .ref a :: rest) (hW : 2 * g.monitorRoom + (rest.map fun v => v.category).sum ≤ W) (hdg : decode c.code g.pc = .ok (.invokevirtual index, 3)) (has : (Value.ref a :: argsL).toArray = as') (hc : cells + rm.cells ≤ R.cells) (hs : slots + rm.slots ≤ R.slots) :
    ∃ (v : Option Value) (T' : State) (L : List Loc), Stand p l e R s m args below meth c T' (locs ++ L) (cells + rm.cells) (slots + rm.slots) ∧ Q v T'.heap L ∧ ∀ target, Steps p.tables e below (T'.setTop { g with pc := g.pc + 3, stack := v.toList ++ rest }) target → Steps p.tables e below (T.setTop g) target := by
  obtain ⟨cB, kB, b1, b2, b3⟩ := isOf (T := T) hZ eT E
  obtain ⟨v, _, ⟨U, Ls, k, n⟩, -, X', ⟨Lc, hQ, l1, y1, z1⟩, st⟩ := X.virtualBack hx (y := y) (z := z) hown (mvT hZ w1) (mvT hZ w2) hnf (mvT hZ w3) (mvT hZ w5) hy (backOf (W := W) hM hZ w4 w6 hf hl) b1 b3 (g := g) hg hsize (Steps.refl _) (argsL := argsL) (rest := rest) (lenOf hd hlen) hstack hW hdg (fun _ _ => ⟨has, eT, hc, hs⟩)
  dsimp only [Pt.U, Pt.locs, Pt.cells, Pt.slots] at X' l1 y1 z1 st hQ
  subst l1 y1 z1
  exact ⟨v, U, Lc, X', hQ, fun _ k => st.trans k⟩
theorem own_callI (X : Stand p l e R s m args below meth c T locs cells slots) (hx : p.tables.exec = Jvm.exec) (hZ : Z.Warmed39 s.vm) {own : String} {index : Nat} {y : MethodName} {bytes : ByteArray} {maxL : Nat} {rm : Room} {as' : Array Value} {Q : Option Value → Heap → List Loc → Prop}
    (hy1 : y.name = "<init>") (hown : s.vm.findClass own = some m.cls) (w1 : (Jvm.Cond.methodLink own index y).before a0 Z = true) (w2 : (Jvm.Cond.instanceMethod y).before a0 Z = true) (w3 : (Jvm.Cond.initialized y.cls).before a0 Z = true) (w4 : (Jvm.Cond.code y bytes maxL none).before a0 Z = true)
    (hy : y.cls ≠ "java/lang/invoke/MethodHandle" ∧ y.cls ≠ "java/lang/invoke/VarHandle") (hM : own_Met l Z y bytes maxL none rm [] as' h Q) (eT : T.heap = h) {W : Nat} (hf : rm.frames + 1 ≤ R.frames) (hl : W + (maxL + 11) + rm.locals ≤ R.locals)
    {g : JFrame} (hg : g.method = m) (hsize : g.locals.size = c.maxLocals) {argsL rest : List Value} {ps : List FieldType} {r : Option FieldType} (hd : parseMethodDescriptor y.desc = some ⟨ps, r⟩) (hlen : argsL.length = ps.length)
    (hstack : g.stack = argsL.reverse ++ .ref a :: rest) (hW : 2 * g.monitorRoom + (rest.map fun v => v.category).sum ≤ W) (hdg : decode c.code g.pc = .ok (.invokespecial index, 3)) (has : (Value.ref a :: argsL).toArray = as') (hc : cells + rm.cells ≤ R.cells) (hs : slots + rm.slots ≤ R.slots) :
    ∃ (v : Option Value) (T' : State) (L : List Loc), Stand p l e R s m args below meth c T' (locs ++ L) (cells + rm.cells) (slots + rm.slots) ∧ Q v T'.heap L ∧ ∀ target, Steps p.tables e below (T'.setTop { g with pc := g.pc + 3, stack := v.toList ++ rest }) target → Steps p.tables e below (T.setTop g) target := by
  obtain ⟨v, _, ⟨U, Ls, k, n⟩, -, X', ⟨Lc, hQ, l1, y1, z1⟩, st⟩ := X.specialBack hx (y := y) hy1 hown (mvT hZ w1) (mvT hZ w2) (mvT hZ w4) hy (backOf (W := W) hM hZ w4 w3 hf hl) (g := g) hg hsize (Steps.refl _) (a := a) (argsL := argsL) (rest := rest) (lenOf hd hlen) hstack hW hdg (fun _ _ => ⟨has, eT, hc, hs⟩)
  dsimp only [Pt.U, Pt.locs, Pt.cells, Pt.slots] at X' l1 y1 z1 st hQ
  subst l1 y1 z1
  exact ⟨v, U, Lc, X', hQ, fun _ k => st.trans k⟩
theorem own_len (X : Stand p l e R s m args below meth c T locs cells slots) (hx : p.tables.exec = Jvm.exec) (hZ : Z.Warmed39 s.vm) (eT : T.heap = h) {cl : Cell} {ty : FieldType} (A : Arr Z h a cl ty) {z : Int32} (S : cl.slots.size = z.toNatClampNeg) (N : ¬ z < 0) {g : JFrame} (hg : g.method = m) {rest : List Value} (hs : g.stack = .ref a :: rest) (hd : decode c.code g.pc = .ok (.arraylength, 1)) :
    ∀ target, Steps p.tables e below (T.setTop { g with pc := g.pc + 1, stack := .int z :: rest }) target → Steps p.tables e below (T.setTop g) target := by
  intro target k
  refine X.arraylength hx (by rw [eT]; exact A.1) (State.isArrayOf_alike hZ.alike A.2.1) hg hs hd _ ?_
  rw [len_of S N]
  exact k
theorem own_dal (X : Stand p l e R s m args below meth c T locs cells slots) (hx : p.tables.exec = Jvm.exec) (hZ : Z.Warmed39 s.vm) (eT : T.heap = h) {cl : Cell} (A : Arr Z h a cl .double) {j : Int32} {v : Value} (hj : ¬ (j < 0 ∨ cl.slots.size ≤ j.toNatClampNeg)) (hv : cl.slots[j.toNatClampNeg]? = some v) {g : JFrame} (hg : g.method = m) {rest : List Value} (hs : g.stack = .int j :: .ref a :: rest) (hd : decode c.code g.pc = .ok (.daload, 1)) :
    ∀ target, Steps p.tables e below (T.setTop { g with pc := g.pc + 1, stack := v :: rest }) target → Steps p.tables e below (T.setTop g) target :=
  fun target k => X.daload hx (by rw [eT]; exact A.1) (State.isArrayOf_alike hZ.alike A.2.1) A.2.2 hj hv hg hs hd target k
theorem own_lal (X : Stand p l e R s m args below meth c T locs cells slots) (hx : p.tables.exec = Jvm.exec) (hZ : Z.Warmed39 s.vm) (eT : T.heap = h) {cl : Cell} (A : Arr Z h a cl .long) {j : Int32} {v : Value} (hj : ¬ (j < 0 ∨ cl.slots.size ≤ j.toNatClampNeg)) (hv : cl.slots[j.toNatClampNeg]? = some v) {g : JFrame} (hg : g.method = m) {rest : List Value} (hs : g.stack = .int j :: .ref a :: rest) (hd : decode c.code g.pc = .ok (.laload, 1)) :
    ∀ target, Steps p.tables e below (T.setTop { g with pc := g.pc + 1, stack := v :: rest }) target → Steps p.tables e below (T.setTop g) target :=
  fun target k => X.laload hx (by rw [eT]; exact A.1) (State.isArrayOf_alike hZ.alike A.2.1) A.2.2 hj hv hg hs hd target k
theorem own_ial (X : Stand p l e R s m args below meth c T locs cells slots) (hx : p.tables.exec = Jvm.exec) (hZ : Z.Warmed39 s.vm) (eT : T.heap = h) {cl : Cell} (A : Arr Z h a cl .int) {j : Int32} {v : Value} (hj : ¬ (j < 0 ∨ cl.slots.size ≤ j.toNatClampNeg)) (hv : cl.slots[j.toNatClampNeg]? = some v) {g : JFrame} (hg : g.method = m) {rest : List Value} (hs : g.stack = .int j :: .ref a :: rest) (hd : decode c.code g.pc = .ok (.iaload, 1)) :
    ∀ target, Steps p.tables e below (T.setTop { g with pc := g.pc + 1, stack := v :: rest }) target → Steps p.tables e below (T.setTop g) target :=
  fun target k => X.iaload hx (by rw [eT]; exact A.1) (State.isArrayOf_alike hZ.alike A.2.1) A.2.2 hj hv hg hs hd target k
/-- the returns -/
theorem own_retV {rm : Room} {Q : Option Value → Heap → List Loc → Prop} (X : Stand p l e R s m args below meth c T locs cells slots) (hx : p.tables.exec = Jvm.exec) (hlocks : meth.locks = false) (hret : meth.sig.returnType = none) {pc : Nat} {Ls : Array Slot} (hd : decode c.code pc = .ok (.return_, 1)) (hQ : Q none T.heap locs) (hc : cells ≤ rm.cells) (hs : slots ≤ rm.slots) :
    own_Goes p e below (own_End s below rm Q) (T.setTop (mkF m pc Ls [])) :=
  own_fin X hlocks (v := none) (fun _ => rfl) (fun fs hr => X.returnOut hx hret hd hr) hQ hc hs
theorem own_retD {rm : Room} {Q : Option Value → Heap → List Loc → Prop} (X : Stand p l e R s m args below meth c T locs cells slots) (hx : p.tables.exec = Jvm.exec) (hlocks : meth.locks = false) (hret : meth.sig.returnType = some .double) {pc : Nat} {Ls : Array Slot} {z : UInt64} {rest : List Value} (hd : decode c.code pc = .ok (.dreturn, 1)) (hQ : Q (some (.double z)) T.heap locs) (hc : cells ≤ rm.cells) (hs : slots ≤ rm.slots) :
    own_Goes p e below (own_End s below rm Q) (T.setTop (mkF m pc Ls (.double z :: rest))) :=
  own_fin X hlocks (own_notnone hret) (fun fs hr => retOut X hx hret rfl (Or.inr (Or.inr (Or.inl ⟨rfl, rfl, z, rfl⟩))) hd hr) hQ hc hs
theorem own_retJ {rm : Room} {Q : Option Value → Heap → List Loc → Prop} (X : Stand p l e R s m args below meth c T locs cells slots) (hx : p.tables.exec = Jvm.exec) (hlocks : meth.locks = false) (hret : meth.sig.returnType = some .long) {pc : Nat} {Ls : Array Slot} {z : Int64} {rest : List Value} (hd : decode c.code pc = .ok (.lreturn, 1)) (hQ : Q (some (.long z)) T.heap locs) (hc : cells ≤ rm.cells) (hs : slots ≤ rm.slots) :
    own_Goes p e below (own_End s below rm Q) (T.setTop (mkF m pc Ls (.long z :: rest))) :=
  own_fin X hlocks (own_notnone hret) (fun fs hr => retOut X hx hret rfl (Or.inr (Or.inl ⟨rfl, rfl, z, rfl⟩)) hd hr) hQ hc hs
theorem own_retI {rm : Room} {Q : Option Value → Heap → List Loc → Prop} (X : Stand p l e R s m args below meth c T locs cells slots) (hx : p.tables.exec = Jvm.exec) (hlocks : meth.locks = false) (hret : meth.sig.returnType = some .int) {pc : Nat} {Ls : Array Slot} {z : Int32} {rest : List Value} (hd : decode c.code pc = .ok (.ireturn, 1)) (hQ : Q (some (.int z)) T.heap locs) (hc : cells ≤ rm.cells) (hs : slots ≤ rm.slots) :
    own_Goes p e below (own_End s below rm Q) (T.setTop (mkF m pc Ls (.int z :: rest))) :=
  own_fin X hlocks (own_notnone hret) (fun fs hr => retOut X hx hret rfl (Or.inl ⟨rfl, Or.inl rfl, z, rfl⟩) hd hr) hQ hc hs
theorem own_retZ {rm : Room} {Q : Option Value → Heap → List Loc → Prop} (X : Stand p l e R s m args below meth c T locs cells slots) (hx : p.tables.exec = Jvm.exec) (hlocks : meth.locks = false) (hret : meth.sig.returnType = some .boolean) {pc : Nat} {Ls : Array Slot} {z : Int32} (hz : narrow .boolean (.int z) = .int z) {rest : List Value} (hd : decode c.code pc = .ok (.ireturn, 1)) (hQ : Q (some (.int z)) T.heap locs) (hc : cells ≤ rm.cells) (hs : slots ≤ rm.slots) :
    own_Goes p e below (own_End s below rm Q) (T.setTop (mkF m pc Ls (.int z :: rest))) :=
  own_fin X hlocks (own_notnone hret) (fun fs hr => retOut X hx hret hz (Or.inl ⟨rfl, Or.inr (Or.inl rfl), z, rfl⟩) hd hr) hQ hc hs
theorem own_retA {rm : Room} {Q : Option Value → Heap → List Loc → Prop} (X : Stand p l e R s m args below meth c T locs cells slots) (hx : p.tables.exec = Jvm.exec) (hlocks : meth.locks = false) {t : FieldType} (hret : meth.sig.returnType = some t) (ht : t.isReference = true) {pc : Nat} {Ls : Array Slot} {z : Addr} (hn : narrow t (.ref z) = .ref z) {rest : List Value} (hd : decode c.code pc = .ok (.areturn, 1)) (hQ : Q (some (.ref z)) T.heap locs) (hc : cells ≤ rm.cells) (hs : slots ≤ rm.slots) :
    own_Goes p e below (own_End s below rm Q) (T.setTop (mkF m pc Ls (.ref z :: rest))) :=
  own_fin X hlocks (own_notnone hret) (fun fs hr => retOut X hx hret hn (Or.inr (Or.inr (Or.inr (Or.inr ⟨rfl, ht, rfl⟩)))) hd hr) hQ hc hs
theorem own_set_get {cl : Cell} {j i : Nat} {v : Value} (hj : j < cl.slots.size) : (cl.setSlot j v).slots[i]? = if i = j then some v else cl.slots[i]? := by
  by_cases q : i = j
  · subst q; simp [Cell.setSlot, hj]
  · simp [Cell.setSlot, q, Array.getElem?_setIfInBounds_ne (Ne.symm q)]
end OwnLayer

theorem dI_0 : decode prog_36_method_1_code 0 = .ok (.aload_n 0, 1) := by decide +kernel
theorem dI_1 : decode prog_36_method_1_code 1 = .ok (.invokespecial 5, 3) := by decide +kernel
theorem dI_4 : decode prog_36_method_1_code 4 = .ok (.aload_n 0, 1) := by decide +kernel
theorem dI_5 : decode prog_36_method_1_code 5 = .ok (.sipush 14336, 3) := by decide +kernel
theorem dI_8 : decode prog_36_method_1_code 8 = .ok (.newarray .long, 2) := by decide +kernel
theorem dI_10 : decode prog_36_method_1_code 10 = .ok (.putfield 11, 3) := by decide +kernel
theorem dI_13 : decode prog_36_method_1_code 13 = .ok (.return_, 1) := by decide +kernel
theorem dR_0 : decode prog_36_method_2_code 0 = .ok (.lconst 0, 1) := by decide +kernel
theorem dR_1 : decode prog_36_method_2_code 1 = .ok (.lload_n 1, 1) := by decide +kernel
theorem dR_2 : decode prog_36_method_2_code 2 = .ok (.invokestatic 15, 3) := by decide +kernel
theorem dR_5 : decode prog_36_method_2_code 5 = .ok (.lstore_n 3, 1) := by decide +kernel
theorem dR_6 : decode prog_36_method_2_code 6 = .ok (.aload_n 0, 1) := by decide +kernel
theorem dR_7 : decode prog_36_method_2_code 7 = .ok (.getfield 11, 3) := by decide +kernel
theorem dR_10 : decode prog_36_method_2_code 10 = .ok (.lload_n 3, 1) := by decide +kernel
theorem dR_11 : decode prog_36_method_2_code 11 = .ok (.invokestatic 21, 3) := by decide +kernel
theorem dR_14 : decode prog_36_method_2_code 14 = .ok (.dup2, 1) := by decide +kernel
theorem dR_15 : decode prog_36_method_2_code 15 = .ok (.laload, 1) := by decide +kernel
theorem dR_16 : decode prog_36_method_2_code 16 = .ok (.lconst 1, 1) := by decide +kernel
theorem dR_17 : decode prog_36_method_2_code 17 = .ok (.ladd, 1) := by decide +kernel
theorem dR_18 : decode prog_36_method_2_code 18 = .ok (.lastore, 1) := by decide +kernel
theorem dR_19 : decode prog_36_method_2_code 19 = .ok (.aload_n 0, 1) := by decide +kernel
theorem dR_20 : decode prog_36_method_2_code 20 = .ok (.dup, 1) := by decide +kernel
theorem dR_21 : decode prog_36_method_2_code 21 = .ok (.getfield 25, 3) := by decide +kernel
theorem dR_24 : decode prog_36_method_2_code 24 = .ok (.lconst 1, 1) := by decide +kernel
theorem dR_25 : decode prog_36_method_2_code 25 = .ok (.ladd, 1) := by decide +kernel
theorem dR_26 : decode prog_36_method_2_code 26 = .ok (.putfield 25, 3) := by decide +kernel
theorem dR_29 : decode prog_36_method_2_code 29 = .ok (.aload_n 0, 1) := by decide +kernel
theorem dR_30 : decode prog_36_method_2_code 30 = .ok (.dup, 1) := by decide +kernel
theorem dR_31 : decode prog_36_method_2_code 31 = .ok (.getfield 29, 3) := by decide +kernel
theorem dR_34 : decode prog_36_method_2_code 34 = .ok (.lload_n 3, 1) := by decide +kernel
theorem dR_35 : decode prog_36_method_2_code 35 = .ok (.ladd, 1) := by decide +kernel
theorem dR_36 : decode prog_36_method_2_code 36 = .ok (.putfield 29, 3) := by decide +kernel
theorem dR_39 : decode prog_36_method_2_code 39 = .ok (.return_, 1) := by decide +kernel
theorem dM_0 : decode jdk_29_method_66_code 0 = .ok (.lload_n 0, 1) := by decide +kernel
theorem dM_1 : decode jdk_29_method_66_code 1 = .ok (.lload_n 2, 1) := by decide +kernel
theorem dM_2 : decode jdk_29_method_66_code 2 = .ok (.lcmp, 1) := by decide +kernel
theorem dM_3 : decode jdk_29_method_66_code 3 = .ok (.ifCond .lt 7, 3) := by decide +kernel
theorem dM_6 : decode jdk_29_method_66_code 6 = .ok (.lload_n 0, 1) := by decide +kernel
theorem dM_7 : decode jdk_29_method_66_code 7 = .ok (.goto 4, 3) := by decide +kernel
theorem dM_10 : decode jdk_29_method_66_code 10 = .ok (.lload_n 2, 1) := by decide +kernel
theorem dM_11 : decode jdk_29_method_66_code 11 = .ok (.lreturn, 1) := by decide +kernel
theorem dB_0 : decode prog_36_method_6_code 0 = .ok (.lload_n 0, 1) := by decide +kernel
theorem dB_1 : decode prog_36_method_6_code 1 = .ok (.ldc2_w 40, 3) := by decide +kernel
theorem dB_4 : decode prog_36_method_6_code 4 = .ok (.lcmp, 1) := by decide +kernel
theorem dB_5 : decode prog_36_method_6_code 5 = .ok (.ifCond .ge 6, 3) := by decide +kernel
theorem dB_8 : decode prog_36_method_6_code 8 = .ok (.lload_n 0, 1) := by decide +kernel
theorem dB_9 : decode prog_36_method_6_code 9 = .ok (.l2i, 1) := by decide +kernel
theorem dB_10 : decode prog_36_method_6_code 10 = .ok (.ireturn, 1) := by decide +kernel
theorem dB_11 : decode prog_36_method_6_code 11 = .ok (.bipush 63, 2) := by decide +kernel
theorem dB_13 : decode prog_36_method_6_code 13 = .ok (.lload_n 0, 1) := by decide +kernel
theorem dB_14 : decode prog_36_method_6_code 14 = .ok (.invokestatic 42, 3) := by decide +kernel
theorem dB_17 : decode prog_36_method_6_code 17 = .ok (.isub, 1) := by decide +kernel
theorem dB_18 : decode prog_36_method_6_code 18 = .ok (.istore_n 2, 1) := by decide +kernel
theorem dB_19 : decode prog_36_method_6_code 19 = .ok (.iload_n 2, 1) := by decide +kernel
theorem dB_20 : decode prog_36_method_6_code 20 = .ok (.bipush 8, 2) := by decide +kernel
theorem dB_22 : decode prog_36_method_6_code 22 = .ok (.isub, 1) := by decide +kernel
theorem dB_23 : decode prog_36_method_6_code 23 = .ok (.istore_n 3, 1) := by decide +kernel
theorem dB_24 : decode prog_36_method_6_code 24 = .ok (.lload_n 0, 1) := by decide +kernel
theorem dB_25 : decode prog_36_method_6_code 25 = .ok (.iload_n 3, 1) := by decide +kernel
theorem dB_26 : decode prog_36_method_6_code 26 = .ok (.lushr, 1) := by decide +kernel
theorem dB_27 : decode prog_36_method_6_code 27 = .ok (.l2i, 1) := by decide +kernel
theorem dB_28 : decode prog_36_method_6_code 28 = .ok (.sipush 256, 3) := by decide +kernel
theorem dB_31 : decode prog_36_method_6_code 31 = .ok (.isub, 1) := by decide +kernel
theorem dB_32 : decode prog_36_method_6_code 32 = .ok (.istore 4, 2) := by decide +kernel
theorem dB_34 : decode prog_36_method_6_code 34 = .ok (.sipush 512, 3) := by decide +kernel
theorem dB_37 : decode prog_36_method_6_code 37 = .ok (.iload_n 2, 1) := by decide +kernel
theorem dB_38 : decode prog_36_method_6_code 38 = .ok (.bipush 9, 2) := by decide +kernel
theorem dB_40 : decode prog_36_method_6_code 40 = .ok (.isub, 1) := by decide +kernel
theorem dB_41 : decode prog_36_method_6_code 41 = .ok (.sipush 256, 3) := by decide +kernel
theorem dB_44 : decode prog_36_method_6_code 44 = .ok (.imul, 1) := by decide +kernel
theorem dB_45 : decode prog_36_method_6_code 45 = .ok (.iadd, 1) := by decide +kernel
theorem dB_46 : decode prog_36_method_6_code 46 = .ok (.iload 4, 2) := by decide +kernel
theorem dB_48 : decode prog_36_method_6_code 48 = .ok (.iadd, 1) := by decide +kernel
theorem dB_49 : decode prog_36_method_6_code 49 = .ok (.ireturn, 1) := by decide +kernel
theorem dE_0 : decode prog_36_method_4_code 0 = .ok (.aload_n 0, 1) := by decide +kernel
theorem dE_1 : decode prog_36_method_4_code 1 = .ok (.getfield 25, 3) := by decide +kernel
theorem dE_4 : decode prog_36_method_4_code 4 = .ok (.lconst 0, 1) := by decide +kernel
theorem dE_5 : decode prog_36_method_4_code 5 = .ok (.lcmp, 1) := by decide +kernel
theorem dE_6 : decode prog_36_method_4_code 6 = .ok (.ifCond .ne 7, 3) := by decide +kernel
theorem dE_9 : decode prog_36_method_4_code 9 = .ok (.dconst 0, 1) := by decide +kernel
theorem dE_10 : decode prog_36_method_4_code 10 = .ok (.goto 14, 3) := by decide +kernel
theorem dE_13 : decode prog_36_method_4_code 13 = .ok (.aload_n 0, 1) := by decide +kernel
theorem dE_14 : decode prog_36_method_4_code 14 = .ok (.getfield 29, 3) := by decide +kernel
theorem dE_17 : decode prog_36_method_4_code 17 = .ok (.l2d, 1) := by decide +kernel
theorem dE_18 : decode prog_36_method_4_code 18 = .ok (.aload_n 0, 1) := by decide +kernel
theorem dE_19 : decode prog_36_method_4_code 19 = .ok (.getfield 25, 3) := by decide +kernel
theorem dE_22 : decode prog_36_method_4_code 22 = .ok (.l2d, 1) := by decide +kernel
theorem dE_23 : decode prog_36_method_4_code 23 = .ok (.ddiv, 1) := by decide +kernel
theorem dE_24 : decode prog_36_method_4_code 24 = .ok (.dreturn, 1) := by decide +kernel
theorem dL_0 : decode jdk_35_method_48_code 0 = .ok (.lload_n 0, 1) := by decide +kernel
theorem dL_1 : decode jdk_35_method_48_code 1 = .ok (.bipush 32, 2) := by decide +kernel
theorem dL_3 : decode jdk_35_method_48_code 3 = .ok (.lushr, 1) := by decide +kernel
theorem dL_4 : decode jdk_35_method_48_code 4 = .ok (.l2i, 1) := by decide +kernel
theorem dL_5 : decode jdk_35_method_48_code 5 = .ok (.istore_n 2, 1) := by decide +kernel
theorem dL_6 : decode jdk_35_method_48_code 6 = .ok (.iload_n 2, 1) := by decide +kernel
theorem dL_7 : decode jdk_35_method_48_code 7 = .ok (.ifCond .ne 14, 3) := by decide +kernel
theorem dL_10 : decode jdk_35_method_48_code 10 = .ok (.bipush 32, 2) := by decide +kernel
theorem dL_12 : decode jdk_35_method_48_code 12 = .ok (.lload_n 0, 1) := by decide +kernel
theorem dL_13 : decode jdk_35_method_48_code 13 = .ok (.l2i, 1) := by decide +kernel
theorem dL_14 : decode jdk_35_method_48_code 14 = .ok (.invokestatic 308, 3) := by decide +kernel
theorem dL_17 : decode jdk_35_method_48_code 17 = .ok (.iadd, 1) := by decide +kernel
theorem dL_18 : decode jdk_35_method_48_code 18 = .ok (.goto 7, 3) := by decide +kernel
theorem dL_21 : decode jdk_35_method_48_code 21 = .ok (.iload_n 2, 1) := by decide +kernel
theorem dL_22 : decode jdk_35_method_48_code 22 = .ok (.invokestatic 308, 3) := by decide +kernel
theorem dL_25 : decode jdk_35_method_48_code 25 = .ok (.ireturn, 1) := by decide +kernel
theorem dN_0 : decode jdk_33_method_47_code 0 = .ok (.iload_n 0, 1) := by decide +kernel
theorem dN_1 : decode jdk_33_method_47_code 1 = .ok (.ifCond .gt 14, 3) := by decide +kernel
theorem dN_4 : decode jdk_33_method_47_code 4 = .ok (.iload_n 0, 1) := by decide +kernel
theorem dN_5 : decode jdk_33_method_47_code 5 = .ok (.ifCond .ne 8, 3) := by decide +kernel
theorem dN_8 : decode jdk_33_method_47_code 8 = .ok (.bipush 32, 2) := by decide +kernel
theorem dN_10 : decode jdk_33_method_47_code 10 = .ok (.goto 4, 3) := by decide +kernel
theorem dN_13 : decode jdk_33_method_47_code 13 = .ok (.iconst 0, 1) := by decide +kernel
theorem dN_14 : decode jdk_33_method_47_code 14 = .ok (.ireturn, 1) := by decide +kernel
theorem dN_15 : decode jdk_33_method_47_code 15 = .ok (.bipush 31, 2) := by decide +kernel
theorem dN_17 : decode jdk_33_method_47_code 17 = .ok (.istore_n 1, 1) := by decide +kernel
theorem dN_18 : decode jdk_33_method_47_code 18 = .ok (.iload_n 0, 1) := by decide +kernel
theorem dN_19 : decode jdk_33_method_47_code 19 = .ok (.ldc_w 264, 3) := by decide +kernel
theorem dN_22 : decode jdk_33_method_47_code 22 = .ok (.if_icmp .lt 11, 3) := by decide +kernel
theorem dN_25 : decode jdk_33_method_47_code 25 = .ok (.iinc 1 (-16), 3) := by decide +kernel
theorem dN_28 : decode jdk_33_method_47_code 28 = .ok (.iload_n 0, 1) := by decide +kernel
theorem dN_29 : decode jdk_33_method_47_code 29 = .ok (.bipush 16, 2) := by decide +kernel
theorem dN_31 : decode jdk_33_method_47_code 31 = .ok (.iushr, 1) := by decide +kernel
theorem dN_32 : decode jdk_33_method_47_code 32 = .ok (.istore_n 0, 1) := by decide +kernel
theorem dN_33 : decode jdk_33_method_47_code 33 = .ok (.iload_n 0, 1) := by decide +kernel
theorem dN_34 : decode jdk_33_method_47_code 34 = .ok (.sipush 256, 3) := by decide +kernel
theorem dN_37 : decode jdk_33_method_47_code 37 = .ok (.if_icmp .lt 11, 3) := by decide +kernel
theorem dN_40 : decode jdk_33_method_47_code 40 = .ok (.iinc 1 (-8), 3) := by decide +kernel
theorem dN_43 : decode jdk_33_method_47_code 43 = .ok (.iload_n 0, 1) := by decide +kernel
theorem dN_44 : decode jdk_33_method_47_code 44 = .ok (.bipush 8, 2) := by decide +kernel
theorem dN_46 : decode jdk_33_method_47_code 46 = .ok (.iushr, 1) := by decide +kernel
theorem dN_47 : decode jdk_33_method_47_code 47 = .ok (.istore_n 0, 1) := by decide +kernel
theorem dN_48 : decode jdk_33_method_47_code 48 = .ok (.iload_n 0, 1) := by decide +kernel
theorem dN_49 : decode jdk_33_method_47_code 49 = .ok (.bipush 16, 2) := by decide +kernel
theorem dN_51 : decode jdk_33_method_47_code 51 = .ok (.if_icmp .lt 10, 3) := by decide +kernel
theorem dN_54 : decode jdk_33_method_47_code 54 = .ok (.iinc 1 (-4), 3) := by decide +kernel
theorem dN_57 : decode jdk_33_method_47_code 57 = .ok (.iload_n 0, 1) := by decide +kernel
theorem dN_58 : decode jdk_33_method_47_code 58 = .ok (.iconst 4, 1) := by decide +kernel
theorem dN_59 : decode jdk_33_method_47_code 59 = .ok (.iushr, 1) := by decide +kernel
theorem dN_60 : decode jdk_33_method_47_code 60 = .ok (.istore_n 0, 1) := by decide +kernel
theorem dN_61 : decode jdk_33_method_47_code 61 = .ok (.iload_n 0, 1) := by decide +kernel
theorem dN_62 : decode jdk_33_method_47_code 62 = .ok (.iconst 4, 1) := by decide +kernel
theorem dN_63 : decode jdk_33_method_47_code 63 = .ok (.if_icmp .lt 10, 3) := by decide +kernel
theorem dN_66 : decode jdk_33_method_47_code 66 = .ok (.iinc 1 (-2), 3) := by decide +kernel
theorem dN_69 : decode jdk_33_method_47_code 69 = .ok (.iload_n 0, 1) := by decide +kernel
theorem dN_70 : decode jdk_33_method_47_code 70 = .ok (.iconst 2, 1) := by decide +kernel
theorem dN_71 : decode jdk_33_method_47_code 71 = .ok (.iushr, 1) := by decide +kernel
theorem dN_72 : decode jdk_33_method_47_code 72 = .ok (.istore_n 0, 1) := by decide +kernel
theorem dN_73 : decode jdk_33_method_47_code 73 = .ok (.iload_n 1, 1) := by decide +kernel
theorem dN_74 : decode jdk_33_method_47_code 74 = .ok (.iload_n 0, 1) := by decide +kernel
theorem dN_75 : decode jdk_33_method_47_code 75 = .ok (.iconst 1, 1) := by decide +kernel
theorem dN_76 : decode jdk_33_method_47_code 76 = .ok (.iushr, 1) := by decide +kernel
theorem dN_77 : decode jdk_33_method_47_code 77 = .ok (.isub, 1) := by decide +kernel
theorem dN_78 : decode jdk_33_method_47_code 78 = .ok (.ireturn, 1) := by decide +kernel
theorem pn_H : plainName "com/example/holdfast/holdfast/cli/LatencyHistogram" = true := by first | (simp [plainName, overriddenIn]; done) | decide +kernel
theorem pn_L : plainName "java/lang/Long" = true := by first | (simp [plainName, overriddenIn]; done) | decide +kernel
theorem pn_N : plainName "java/lang/Integer" = true := by first | (simp [plainName, overriddenIn]; done) | decide +kernel
theorem pd_V : parseMethodDescriptor "()V" = some ⟨[], none⟩ := by decide +kernel
theorem pd_JV : parseMethodDescriptor "(J)V" = some ⟨[.long], none⟩ := by decide +kernel
theorem pd_JJJ : parseMethodDescriptor "(JJ)J" = some ⟨[.long, .long], some .long⟩ := by decide +kernel
theorem pd_JI : parseMethodDescriptor "(J)I" = some ⟨[.long], some .int⟩ := by decide +kernel
theorem pd_II : parseMethodDescriptor "(I)I" = some ⟨[.int], some .int⟩ := by decide +kernel
theorem pd_D : parseMethodDescriptor "()D" = some ⟨[], some .double⟩ := by decide +kernel
theorem ef_I (m : MethodId) (x0 : Addr) : entryFrame m #[(.ref x0)] 1 = mkF m 0 #[.val (.ref x0)] [] := by first | (simp [entryFrame, mkF, argsToLocals, Value.category, maxLocals]; done) | rfl
theorem ef_R (m : MethodId) (x0 : Addr) (x1 : Int64) : entryFrame m #[(.ref x0), (.long x1)] 5 = mkF m 0 #[.val (.ref x0), .val (.long x1), .second, .unset, .unset] [] := by first | (simp [entryFrame, mkF, argsToLocals, Value.category, maxLocals]; done) | rfl
theorem ef_M (m : MethodId) (x0 : Int64) (x1 : Int64) : entryFrame m #[(.long x0), (.long x1)] 4 = mkF m 0 #[.val (.long x0), .second, .val (.long x1), .second] [] := by first | (simp [entryFrame, mkF, argsToLocals, Value.category, maxLocals]; done) | rfl
theorem ef_B (m : MethodId) (x0 : Int64) : entryFrame m #[(.long x0)] 5 = mkF m 0 #[.val (.long x0), .second, .unset, .unset, .unset] [] := by first | (simp [entryFrame, mkF, argsToLocals, Value.category, maxLocals]; done) | rfl
theorem ef_L (m : MethodId) (x0 : Int64) : entryFrame m #[(.long x0)] 3 = mkF m 0 #[.val (.long x0), .second, .unset] [] := by first | (simp [entryFrame, mkF, argsToLocals, Value.category, maxLocals]; done) | rfl
theorem ef_N (m : MethodId) (x0 : Int32) : entryFrame m #[(.int x0)] 2 = mkF m 0 #[.val (.int x0), .unset] [] := by first | (simp [entryFrame, mkF, argsToLocals, Value.category, maxLocals]; done) | rfl
abbrev own_iniN : MethodName := ⟨"com/example/holdfast/holdfast/cli/LatencyHistogram", "<init>", "()V"⟩
abbrev own_recN : MethodName := ⟨"com/example/holdfast/holdfast/cli/LatencyHistogram", "record", "(J)V"⟩
abbrev own_maxN : MethodName := ⟨"java/lang/Math", "max", "(JJ)J"⟩
abbrev own_bucN : MethodName := ⟨"com/example/holdfast/holdfast/cli/LatencyHistogram", "bucket", "(J)I"⟩
abbrev own_meaN : MethodName := ⟨"com/example/holdfast/holdfast/cli/LatencyHistogram", "mean", "()D"⟩
abbrev own_lnzN : MethodName := ⟨"java/lang/Long", "numberOfLeadingZeros", "(J)I"⟩
abbrev own_inzN : MethodName := ⟨"java/lang/Integer", "numberOfLeadingZeros", "(I)I"⟩
theorem own_add32 {x y : Int32} (h1 : -2147483648 ≤ x.toInt + y.toInt) (h2 : x.toInt + y.toInt < 2147483648) : (x + y).toInt = x.toInt + y.toInt := by
  have := c_iadd x y; have := rng32 (x + y); omega
theorem own_sub32 {x y : Int32} (h1 : -2147483648 ≤ x.toInt - y.toInt) (h2 : x.toInt - y.toInt < 2147483648) : (x - y).toInt = x.toInt - y.toInt := by
  have := c_isub x y; have := rng32 (x - y); omega
theorem own_mul32 {x y : Int32} (h1 : -2147483648 ≤ x.toInt * y.toInt) (h2 : x.toInt * y.toInt < 2147483648) : (x * y).toInt = x.toInt * y.toInt := by
  have := c_imul x y; have := rng32 (x * y); omega
theorem own_lt32 {x y : Int32} : x < y ↔ x.toInt < y.toInt := Int32.lt_iff_toInt_lt
theorem own_lt64 {x y : Int64} : x < y ↔ x.toInt < y.toInt := Int64.lt_iff_toInt_lt
theorem own_clamp (j : Int32) : j.toNatClampNeg = j.toInt.toNat := rfl
/-- 2^k ≤ n < 2^(k+1) -/
def own_Lg (k n : Nat) : Prop := 2 ^ k ≤ n ∧ n < 2 ^ (k + 1)
/-- i = n shifted right by k -/
def own_Sh (n k i : Nat) : Prop := i * 2 ^ k ≤ n ∧ n < (i + 1) * 2 ^ k
theorem own_Sh_step {n k i : Nat} (s : Nat) (h : own_Sh n k i) : own_Sh n (k + s) (i / 2 ^ s) := by
  obtain ⟨h1, h2⟩ := h
  have hp : 0 < 2 ^ s := Nat.pow_pos (by decide)
  have e : 2 ^ (k + s) = 2 ^ s * 2 ^ k := by rw [Nat.pow_add, Nat.mul_comm]
  constructor
  · rw [e, ← Nat.mul_assoc]
    exact Nat.le_trans (Nat.mul_le_mul_right _ (Nat.div_mul_le_self i (2 ^ s))) h1
  · rw [e, ← Nat.mul_assoc]
    have : i + 1 ≤ (i / 2 ^ s + 1) * 2 ^ s := by
      have := Nat.lt_mul_div_succ i hp
      rw [Nat.mul_comm] at this
      exact this
    exact Nat.lt_of_lt_of_le h2 (Nat.mul_le_mul_right _ this)
theorem own_Sh_end1 {n k : Nat} (h : own_Sh n k 1) : own_Lg k n := by
  obtain ⟨h1, h2⟩ := h
  refine ⟨by simpa using h1, ?_⟩
  rw [Nat.pow_succ, Nat.mul_comm]; exact h2
theorem own_Sh_end2 {n k i : Nat} (hi : i = 2 ∨ i = 3) (h : own_Sh n k i) : own_Lg (k + 1) n := by
  obtain ⟨h1, h2⟩ := h
  refine ⟨?_, ?_⟩
  · rw [Nat.pow_succ, Nat.mul_comm]
    exact Nat.le_trans (Nat.mul_le_mul_right _ (by omega)) h1
  · rw [show k + 1 + 1 = k + 2 from rfl, Nat.pow_add, Nat.mul_comm]
    exact Nat.lt_of_lt_of_le h2 (Nat.mul_le_mul_right _ (by omega))
def own_us (i : Int32) (s : Int32) : Int32 := (i.toUInt32 >>> (s &&& 31).toUInt32).toInt32
theorem own_us_v {i : Int32} (s : Int32) (k : Nat) (hk : s.toBitVec.toNat % 32 = k) (h0 : 0 < k) (hi : 0 ≤ i.toInt) : 0 ≤ (own_us i s).toInt ∧ (own_us i s).toInt.toNat = i.toInt.toNat / 2 ^ k := by
  have h1 := c_iushr i s k hk h0
  have h2 : (own_us i s).toInt = (i.toInt % 4294967296) / (2 ^ k : Nat) := h1
  have h3 := rng32 i
  have h4 : i.toInt % 4294967296 = i.toInt := Int.emod_eq_of_lt hi (by omega)
  rw [h4] at h2
  obtain ⟨n, hn⟩ := Int.eq_ofNat_of_zero_le hi
  rw [hn] at h2 ⊢
  rw [h2, ← Int.natCast_ediv]
  exact ⟨Int.natCast_nonneg _, by rw [Int.toNat_natCast, Int.toNat_natCast]⟩
/-- what numberOfLeadingZeros(int) leaves -/
def own_Nlz (i r : Int32) : Prop := (i.toInt < 0 ∧ r = 0) ∨ (0 < i.toInt ∧ ∃ k : Nat, k ≤ 30 ∧ r.toInt = 31 - k ∧ own_Lg k i.toInt.toNat)
def own_QN (i : Int32) (h0 : Heap) (v : Option Value) (h : Heap) (L : List Loc) : Prop := ∃ r : Int32, v = some (.int r) ∧ own_Nlz i r ∧ h = h0 ∧ L = []
/-- the running state: i0 given, i = i0 >> k, n = 31 - k -/
def own_Run (i0 i n : Int32) (b : Int) (kb : Nat) : Prop := 0 < i0.toInt ∧ ∃ k : Nat, n.toInt = 31 - k ∧ k ≤ kb ∧ 0 < i.toInt ∧ i.toInt < b ∧ own_Sh i0.toInt.toNat k i.toInt.toNat
theorem own_Run_skip {i0 i n : Int32} {b b' : Int} {kb kb' : Nat} (h : own_Run i0 i n b kb) (q : i.toInt < b') (hk : kb ≤ kb') : own_Run i0 i n b' kb' := by
  obtain ⟨h1, k, h2, h3, h4, h5, h6⟩ := h
  exact ⟨h1, k, h2, Nat.le_trans h3 hk, h4, q, h6⟩
theorem own_Run_turn {i0 i n : Int32} {b : Int} {kb : Nat} (s : Nat) (si ci : Int32) (h : own_Run i0 i n b kb) (hs0 : 0 < s) (hsi : si.toBitVec.toNat % 32 = s) (hci : ci.toInt = -(s : Int)) (hkb : kb + s ≤ 30) (hlo : (2 ^ s : Nat) ≤ i.toInt.toNat) (b' : Nat) (hb : b ≤ ((b' * 2 ^ s : Nat) : Int)) : own_Run i0 (own_us i si) (n + ci) b' (kb + s) := by
  obtain ⟨h1, k, h2, h3, h4, h5, h6⟩ := h
  obtain ⟨q1, q2⟩ := own_us_v (i := i) si s hsi hs0 (by omega)
  have hp : 0 < 2 ^ s := Nat.pow_pos (by decide)
  have hn : (n + ci).toInt = n.toInt + ci.toInt := own_add32 (by omega) (by omega)
  refine ⟨h1, k + s, by omega, by omega, ?_, ?_, ?_⟩
  · have : 0 < i.toInt.toNat / 2 ^ s := Nat.div_pos hlo hp
    omega
  · have h7 : i.toInt.toNat < b' * 2 ^ s := by omega
    have : i.toInt.toNat / 2 ^ s < b' := (Nat.div_lt_iff_lt_mul hp).mpr h7
    omega
  · rw [q2]; exact own_Sh_step s h6
theorem own_Run_end {i0 i n : Int32} (h : own_Run i0 i n 4 30) : own_Nlz i0 (n - own_us i 1) := by
  obtain ⟨h1, k, h2, h3, h4, h5, h6⟩ := h
  obtain ⟨q1, q2⟩ := own_us_v (i := i) 1 1 (by decide) (by decide) (by omega)
  have hn : (n - own_us i 1).toInt = n.toInt - (own_us i 1).toInt := own_sub32 (by omega) (by omega)
  have r := rng32 i0
  have key : ∀ k', own_Lg k' i0.toInt.toNat → k' ≤ 30 := fun k' hk => by
    have a1 : 2 ^ k' ≤ i0.toInt.toNat := hk.1
    have a2 : i0.toInt.toNat < 2 ^ 31 := by omega
    have a3 : 2 ^ k' < 2 ^ 31 := Nat.lt_of_le_of_lt a1 a2
    have a4 := (Nat.pow_lt_pow_iff_right (by decide : 1 < 2)).mp a3
    omega
  rcases (by omega : i.toInt.toNat = 1 ∨ i.toInt.toNat = 2 ∨ i.toInt.toNat = 3) with e | e | e
  · rw [e] at h6 q2
    have hl := own_Sh_end1 h6
    exact Or.inr ⟨h1, k, key k hl, by omega, hl⟩
  · rw [e] at h6 q2
    have hl := own_Sh_end2 (Or.inl rfl) h6
    exact Or.inr ⟨h1, k + 1, key _ hl, by omega, hl⟩
  · rw [e] at h6 q2
    have hl := own_Sh_end2 (Or.inr rfl) h6
    exact Or.inr ⟨h1, k + 1, key _ hl, by omega, hl⟩
theorem own_Run_start {i : Int32} (h : 0 < i.toInt) : own_Run i i 31 2147483648 0 := ⟨h, 0, by decide, Nat.le_refl _, h, (rng32 i).2, by unfold own_Sh; omega⟩
set_option maxRecDepth 65536 in
set_option maxHeartbeats 40000000 in
theorem own_nz73 (l : Launch) (Z : State) (a0 : Array Value) (hw : ∀ d ∈ tables_1, d.before a0 Z = true) (h0 : Heap) (i0 : Int32) (p : Program) (e : Env) (s : State) (m : MethodId) (below : List Frame) (meth : Method) (c : Code) (s₁ : State) (Bd : BodyLoose p l own_inzN (head1 [Jvm.Cond.code own_inzN jdk_33_method_47_code 2 (some .int)] ({ frames := 0, cells := 0, slots := 0, locals := 0 } : Room)) jdk_33_method_47_code 2 (some .int) e s m #[(.int i0)] below meth c s₁) (hml : c.maxLocals = 2) (hZ : Z.Warmed39 s.vm) (e0 : s₁.heap = h0) (i n : Int32) (h : own_Run i0 i n 4 30) :
    own_Goes p e below (own_End s below ({ frames := 0, cells := 0, slots := 0, locals := 0 } : Room) (own_QN i0 h0)) (s₁.setTop (mkF m 73 #[.val (.int i), .val (.int n)] [])) := by
  have hx := Bd.exec
  have hby := Bd.bytes
  have hown : s.vm.findClass "java/lang/Integer" = some m.cls := findClass_of_methodNamed Bd.named
  have X0 : Stand p l e ({ frames := 0, cells := 0, slots := 0, locals := 0 } : Room) s m #[(.int i0)] below meth c s₁ [] 0 0 := Stand.of_body Bd
  show own_Goes p e below (own_End s below _ _) (s₁.setTop (mkF m 73 #[.val (.int i), .val (.int n)] []))
  refine own_go (fun _ own_k => XS.iloadN X0.here hx rfl (hb hby dN_73) rfl own_k) ?_
  show own_Goes p e below (own_End s below _ _) (s₁.setTop (mkF m 74 #[.val (.int i), .val (.int n)] [(.int n)]))
  refine own_go (fun _ own_k => XS.iloadN X0.here hx rfl (hb hby dN_74) rfl own_k) ?_
  show own_Goes p e below (own_End s below _ _) (s₁.setTop (mkF m 75 #[.val (.int i), .val (.int n)] [(.int i), (.int n)]))
  refine own_go (fun _ own_k => XS.iconst X0.here hx rfl (hb hby dN_75) own_k) ?_
  show own_Goes p e below (own_End s below _ _) (s₁.setTop (mkF m 76 #[.val (.int i), .val (.int n)] [(.int (1 : Int32)), (.int i), (.int n)]))
  refine own_go (fun _ own_k => XS.iushr X0.here hx rfl (hb hby dN_76) rfl own_k) ?_
  show own_Goes p e below (own_End s below _ _) (s₁.setTop (mkF m 77 #[.val (.int i), .val (.int n)] [(.int ((i.toUInt32 >>> ((1 : Int32) &&& 31).toUInt32).toInt32)), (.int n)]))
  refine own_go (fun _ own_k => XS.isub X0.here hx rfl (hb hby dN_77) rfl own_k) ?_
  show own_Goes p e below (own_End s below _ _) (s₁.setTop (mkF m 78 #[.val (.int i), .val (.int n)] [(.int (n - ((i.toUInt32 >>> ((1 : Int32) &&& 31).toUInt32).toInt32)))]))
  exact own_retI X0 hx Bd.notSynchronized Bd.returns (hb hby dN_78) ⟨_, rfl, own_Run_end h, e0, rfl⟩ (by decide) (by decide)
set_option maxRecDepth 65536 in
set_option maxHeartbeats 40000000 in
theorem own_nz61 (l : Launch) (Z : State) (a0 : Array Value) (hw : ∀ d ∈ tables_1, d.before a0 Z = true) (h0 : Heap) (i0 : Int32) (p : Program) (e : Env) (s : State) (m : MethodId) (below : List Frame) (meth : Method) (c : Code) (s₁ : State) (Bd : BodyLoose p l own_inzN (head1 [Jvm.Cond.code own_inzN jdk_33_method_47_code 2 (some .int)] ({ frames := 0, cells := 0, slots := 0, locals := 0 } : Room)) jdk_33_method_47_code 2 (some .int) e s m #[(.int i0)] below meth c s₁) (hml : c.maxLocals = 2) (hZ : Z.Warmed39 s.vm) (e0 : s₁.heap = h0) (i n : Int32) (h : own_Run i0 i n 16 28) :
    own_Goes p e below (own_End s below ({ frames := 0, cells := 0, slots := 0, locals := 0 } : Room) (own_QN i0 h0)) (s₁.setTop (mkF m 61 #[.val (.int i), .val (.int n)] [])) := by
  have hx := Bd.exec
  have hby := Bd.bytes
  have hown : s.vm.findClass "java/lang/Integer" = some m.cls := findClass_of_methodNamed Bd.named
  have X0 : Stand p l e ({ frames := 0, cells := 0, slots := 0, locals := 0 } : Room) s m #[(.int i0)] below meth c s₁ [] 0 0 := Stand.of_body Bd
  show own_Goes p e below (own_End s below _ _) (s₁.setTop (mkF m 61 #[.val (.int i), .val (.int n)] []))
  refine own_go (fun _ own_k => XS.iloadN X0.here hx rfl (hb hby dN_61) rfl own_k) ?_
  show own_Goes p e below (own_End s below _ _) (s₁.setTop (mkF m 62 #[.val (.int i), .val (.int n)] [(.int i)]))
  refine own_go (fun _ own_k => XS.iconst X0.here hx rfl (hb hby dN_62) own_k) ?_
  show own_Goes p e below (own_End s below _ _) (s₁.setTop (mkF m 63 #[.val (.int i), .val (.int n)] [(.int (4 : Int32)), (.int i)]))
  by_cases q : i < (4 : Int32)
  · refine own_go (fun _ own_k => XS.icmpYes X0.here hx rfl (pc0 := 63) (pc' := 73) rfl (hb hby dN_63) rfl (tlt q).1 (by decide) (by decide) own_k) ?_
    show own_Goes p e below (own_End s below _ _) (s₁.setTop (mkF m 73 #[.val (.int i), .val (.int n)] []))
    exact own_nz73 l Z a0 hw h0 i0 p e s m below meth c s₁ Bd hml hZ e0 i n (own_Run_skip h (by have := own_lt32.mp q; have e : (4 : Int32).toInt = 4 := (by decide); omega) (by decide))
  · refine own_go (fun _ own_k => XS.icmpNo X0.here hx rfl (hb hby dN_63) rfl (flt q).1 own_k) ?_
    show own_Goes p e below (own_End s below _ _) (s₁.setTop (mkF m 66 #[.val (.int i), .val (.int n)] []))
    refine own_go (fun _ own_k => XS.iinc X0.here hx rfl (hb hby dN_66) rfl (l' := #[.val (.int i), .val (.int (n + Int32.ofInt (-2)))]) rfl own_k) ?_
    show own_Goes p e below (own_End s below _ _) (s₁.setTop (mkF m 69 #[.val (.int i), .val (.int (n + Int32.ofInt (-2)))] []))
    refine own_go (fun _ own_k => XS.iloadN X0.here hx rfl (hb hby dN_69) rfl own_k) ?_
    show own_Goes p e below (own_End s below _ _) (s₁.setTop (mkF m 70 #[.val (.int i), .val (.int (n + Int32.ofInt (-2)))] [(.int i)]))
    refine own_go (fun _ own_k => XS.iconst X0.here hx rfl (hb hby dN_70) own_k) ?_
    show own_Goes p e below (own_End s below _ _) (s₁.setTop (mkF m 71 #[.val (.int i), .val (.int (n + Int32.ofInt (-2)))] [(.int (2 : Int32)), (.int i)]))
    refine own_go (fun _ own_k => XS.iushr X0.here hx rfl (hb hby dN_71) rfl own_k) ?_
    show own_Goes p e below (own_End s below _ _) (s₁.setTop (mkF m 72 #[.val (.int i), .val (.int (n + Int32.ofInt (-2)))] [(.int ((i.toUInt32 >>> ((2 : Int32) &&& 31).toUInt32).toInt32))]))
    refine own_go (fun _ own_k => XS.istoreN X0.here hx rfl (hb hby dN_72) rfl (l' := #[.val (.int ((i.toUInt32 >>> ((2 : Int32) &&& 31).toUInt32).toInt32)), .val (.int (n + Int32.ofInt (-2)))]) rfl own_k) ?_
    show own_Goes p e below (own_End s below _ _) (s₁.setTop (mkF m 73 #[.val (.int ((i.toUInt32 >>> ((2 : Int32) &&& 31).toUInt32).toInt32)), .val (.int (n + Int32.ofInt (-2)))] []))
    exact own_nz73 l Z a0 hw h0 i0 p e s m below meth c s₁ Bd hml hZ e0 (own_us i (2 : Int32)) (n + Int32.ofInt (-2)) (own_Run_turn 2 (2 : Int32) (Int32.ofInt (-2)) h (by decide) (by decide) (by decide) (by decide) (by have e : (4 : Int32).toInt = 4 := (by decide); have q1 : ¬ i.toInt < (4 : Int32).toInt := fun z => q (own_lt32.mpr z); omega) 4 (by decide))
set_option maxRecDepth 65536 in
set_option maxHeartbeats 40000000 in
theorem own_nz48 (l : Launch) (Z : State) (a0 : Array Value) (hw : ∀ d ∈ tables_1, d.before a0 Z = true) (h0 : Heap) (i0 : Int32) (p : Program) (e : Env) (s : State) (m : MethodId) (below : List Frame) (meth : Method) (c : Code) (s₁ : State) (Bd : BodyLoose p l own_inzN (head1 [Jvm.Cond.code own_inzN jdk_33_method_47_code 2 (some .int)] ({ frames := 0, cells := 0, slots := 0, locals := 0 } : Room)) jdk_33_method_47_code 2 (some .int) e s m #[(.int i0)] below meth c s₁) (hml : c.maxLocals = 2) (hZ : Z.Warmed39 s.vm) (e0 : s₁.heap = h0) (i n : Int32) (h : own_Run i0 i n 256 24) :
    own_Goes p e below (own_End s below ({ frames := 0, cells := 0, slots := 0, locals := 0 } : Room) (own_QN i0 h0)) (s₁.setTop (mkF m 48 #[.val (.int i), .val (.int n)] [])) := by
  have hx := Bd.exec
  have hby := Bd.bytes
  have hown : s.vm.findClass "java/lang/Integer" = some m.cls := findClass_of_methodNamed Bd.named
  have X0 : Stand p l e ({ frames := 0, cells := 0, slots := 0, locals := 0 } : Room) s m #[(.int i0)] below meth c s₁ [] 0 0 := Stand.of_body Bd
  show own_Goes p e below (own_End s below _ _) (s₁.setTop (mkF m 48 #[.val (.int i), .val (.int n)] []))
  refine own_go (fun _ own_k => XS.iloadN X0.here hx rfl (hb hby dN_48) rfl own_k) ?_
  show own_Goes p e below (own_End s below _ _) (s₁.setTop (mkF m 49 #[.val (.int i), .val (.int n)] [(.int i)]))
  refine own_go (fun _ own_k => XS.bipush X0.here hx rfl (hb hby dN_49) own_k) ?_
  show own_Goes p e below (own_End s below _ _) (s₁.setTop (mkF m 51 #[.val (.int i), .val (.int n)] [(.int (16 : Int32)), (.int i)]))
  by_cases q : i < (16 : Int32)
  · refine own_go (fun _ own_k => XS.icmpYes X0.here hx rfl (pc0 := 51) (pc' := 61) rfl (hb hby dN_51) rfl (tlt q).1 (by decide) (by decide) own_k) ?_
    show own_Goes p e below (own_End s below _ _) (s₁.setTop (mkF m 61 #[.val (.int i), .val (.int n)] []))
    exact own_nz61 l Z a0 hw h0 i0 p e s m below meth c s₁ Bd hml hZ e0 i n (own_Run_skip h (by have := own_lt32.mp q; have e : (16 : Int32).toInt = 16 := (by decide); omega) (by decide))
  · refine own_go (fun _ own_k => XS.icmpNo X0.here hx rfl (hb hby dN_51) rfl (flt q).1 own_k) ?_
    show own_Goes p e below (own_End s below _ _) (s₁.setTop (mkF m 54 #[.val (.int i), .val (.int n)] []))
    refine own_go (fun _ own_k => XS.iinc X0.here hx rfl (hb hby dN_54) rfl (l' := #[.val (.int i), .val (.int (n + Int32.ofInt (-4)))]) rfl own_k) ?_
    show own_Goes p e below (own_End s below _ _) (s₁.setTop (mkF m 57 #[.val (.int i), .val (.int (n + Int32.ofInt (-4)))] []))
    refine own_go (fun _ own_k => XS.iloadN X0.here hx rfl (hb hby dN_57) rfl own_k) ?_
    show own_Goes p e below (own_End s below _ _) (s₁.setTop (mkF m 58 #[.val (.int i), .val (.int (n + Int32.ofInt (-4)))] [(.int i)]))
    refine own_go (fun _ own_k => XS.iconst X0.here hx rfl (hb hby dN_58) own_k) ?_
    show own_Goes p e below (own_End s below _ _) (s₁.setTop (mkF m 59 #[.val (.int i), .val (.int (n + Int32.ofInt (-4)))] [(.int (4 : Int32)), (.int i)]))
    refine own_go (fun _ own_k => XS.iushr X0.here hx rfl (hb hby dN_59) rfl own_k) ?_
    show own_Goes p e below (own_End s below _ _) (s₁.setTop (mkF m 60 #[.val (.int i), .val (.int (n + Int32.ofInt (-4)))] [(.int ((i.toUInt32 >>> ((4 : Int32) &&& 31).toUInt32).toInt32))]))
    refine own_go (fun _ own_k => XS.istoreN X0.here hx rfl (hb hby dN_60) rfl (l' := #[.val (.int ((i.toUInt32 >>> ((4 : Int32) &&& 31).toUInt32).toInt32)), .val (.int (n + Int32.ofInt (-4)))]) rfl own_k) ?_
    show own_Goes p e below (own_End s below _ _) (s₁.setTop (mkF m 61 #[.val (.int ((i.toUInt32 >>> ((4 : Int32) &&& 31).toUInt32).toInt32)), .val (.int (n + Int32.ofInt (-4)))] []))
    exact own_nz61 l Z a0 hw h0 i0 p e s m below meth c s₁ Bd hml hZ e0 (own_us i (4 : Int32)) (n + Int32.ofInt (-4)) (own_Run_turn 4 (4 : Int32) (Int32.ofInt (-4)) h (by decide) (by decide) (by decide) (by decide) (by have e : (16 : Int32).toInt = 16 := (by decide); have q1 : ¬ i.toInt < (16 : Int32).toInt := fun z => q (own_lt32.mpr z); omega) 16 (by decide))
set_option maxRecDepth 65536 in
set_option maxHeartbeats 40000000 in
theorem own_nz33 (l : Launch) (Z : State) (a0 : Array Value) (hw : ∀ d ∈ tables_1, d.before a0 Z = true) (h0 : Heap) (i0 : Int32) (p : Program) (e : Env) (s : State) (m : MethodId) (below : List Frame) (meth : Method) (c : Code) (s₁ : State) (Bd : BodyLoose p l own_inzN (head1 [Jvm.Cond.code own_inzN jdk_33_method_47_code 2 (some .int)] ({ frames := 0, cells := 0, slots := 0, locals := 0 } : Room)) jdk_33_method_47_code 2 (some .int) e s m #[(.int i0)] below meth c s₁) (hml : c.maxLocals = 2) (hZ : Z.Warmed39 s.vm) (e0 : s₁.heap = h0) (i n : Int32) (h : own_Run i0 i n 65536 16) :
    own_Goes p e below (own_End s below ({ frames := 0, cells := 0, slots := 0, locals := 0 } : Room) (own_QN i0 h0)) (s₁.setTop (mkF m 33 #[.val (.int i), .val (.int n)] [])) := by
  have hx := Bd.exec
  have hby := Bd.bytes
  have hown : s.vm.findClass "java/lang/Integer" = some m.cls := findClass_of_methodNamed Bd.named
  have X0 : Stand p l e ({ frames := 0, cells := 0, slots := 0, locals := 0 } : Room) s m #[(.int i0)] below meth c s₁ [] 0 0 := Stand.of_body Bd
  show own_Goes p e below (own_End s below _ _) (s₁.setTop (mkF m 33 #[.val (.int i), .val (.int n)] []))
  refine own_go (fun _ own_k => XS.iloadN X0.here hx rfl (hb hby dN_33) rfl own_k) ?_
  show own_Goes p e below (own_End s below _ _) (s₁.setTop (mkF m 34 #[.val (.int i), .val (.int n)] [(.int i)]))
  refine own_go (fun _ own_k => XS.sipush X0.here hx rfl (hb hby dN_34) own_k) ?_
  show own_Goes p e below (own_End s below _ _) (s₁.setTop (mkF m 37 #[.val (.int i), .val (.int n)] [(.int (256 : Int32)), (.int i)]))
  by_cases q : i < (256 : Int32)
  · refine own_go (fun _ own_k => XS.icmpYes X0.here hx rfl (pc0 := 37) (pc' := 48) rfl (hb hby dN_37) rfl (tlt q).1 (by decide) (by decide) own_k) ?_
    show own_Goes p e below (own_End s below _ _) (s₁.setTop (mkF m 48 #[.val (.int i), .val (.int n)] []))
    exact own_nz48 l Z a0 hw h0 i0 p e s m below meth c s₁ Bd hml hZ e0 i n (own_Run_skip h (by have := own_lt32.mp q; have e : (256 : Int32).toInt = 256 := (by decide); omega) (by decide))
  · refine own_go (fun _ own_k => XS.icmpNo X0.here hx rfl (hb hby dN_37) rfl (flt q).1 own_k) ?_
    show own_Goes p e below (own_End s below _ _) (s₁.setTop (mkF m 40 #[.val (.int i), .val (.int n)] []))
    refine own_go (fun _ own_k => XS.iinc X0.here hx rfl (hb hby dN_40) rfl (l' := #[.val (.int i), .val (.int (n + Int32.ofInt (-8)))]) rfl own_k) ?_
    show own_Goes p e below (own_End s below _ _) (s₁.setTop (mkF m 43 #[.val (.int i), .val (.int (n + Int32.ofInt (-8)))] []))
    refine own_go (fun _ own_k => XS.iloadN X0.here hx rfl (hb hby dN_43) rfl own_k) ?_
    show own_Goes p e below (own_End s below _ _) (s₁.setTop (mkF m 44 #[.val (.int i), .val (.int (n + Int32.ofInt (-8)))] [(.int i)]))
    refine own_go (fun _ own_k => XS.bipush X0.here hx rfl (hb hby dN_44) own_k) ?_
    show own_Goes p e below (own_End s below _ _) (s₁.setTop (mkF m 46 #[.val (.int i), .val (.int (n + Int32.ofInt (-8)))] [(.int (8 : Int32)), (.int i)]))
    refine own_go (fun _ own_k => XS.iushr X0.here hx rfl (hb hby dN_46) rfl own_k) ?_
    show own_Goes p e below (own_End s below _ _) (s₁.setTop (mkF m 47 #[.val (.int i), .val (.int (n + Int32.ofInt (-8)))] [(.int ((i.toUInt32 >>> ((8 : Int32) &&& 31).toUInt32).toInt32))]))
    refine own_go (fun _ own_k => XS.istoreN X0.here hx rfl (hb hby dN_47) rfl (l' := #[.val (.int ((i.toUInt32 >>> ((8 : Int32) &&& 31).toUInt32).toInt32)), .val (.int (n + Int32.ofInt (-8)))]) rfl own_k) ?_
    show own_Goes p e below (own_End s below _ _) (s₁.setTop (mkF m 48 #[.val (.int ((i.toUInt32 >>> ((8 : Int32) &&& 31).toUInt32).toInt32)), .val (.int (n + Int32.ofInt (-8)))] []))
    exact own_nz48 l Z a0 hw h0 i0 p e s m below meth c s₁ Bd hml hZ e0 (own_us i (8 : Int32)) (n + Int32.ofInt (-8)) (own_Run_turn 8 (8 : Int32) (Int32.ofInt (-8)) h (by decide) (by decide) (by decide) (by decide) (by have e : (256 : Int32).toInt = 256 := (by decide); have q1 : ¬ i.toInt < (256 : Int32).toInt := fun z => q (own_lt32.mpr z); omega) 256 (by decide))
set_option maxRecDepth 65536 in
set_option maxHeartbeats 40000000 in
theorem own_nz18 (l : Launch) (Z : State) (a0 : Array Value) (hw : ∀ d ∈ tables_1, d.before a0 Z = true) (h0 : Heap) (i0 : Int32) (p : Program) (e : Env) (s : State) (m : MethodId) (below : List Frame) (meth : Method) (c : Code) (s₁ : State) (Bd : BodyLoose p l own_inzN (head1 [Jvm.Cond.code own_inzN jdk_33_method_47_code 2 (some .int)] ({ frames := 0, cells := 0, slots := 0, locals := 0 } : Room)) jdk_33_method_47_code 2 (some .int) e s m #[(.int i0)] below meth c s₁) (hml : c.maxLocals = 2) (hZ : Z.Warmed39 s.vm) (e0 : s₁.heap = h0) (i n : Int32) (h : own_Run i0 i n 2147483648 0) :
    own_Goes p e below (own_End s below ({ frames := 0, cells := 0, slots := 0, locals := 0 } : Room) (own_QN i0 h0)) (s₁.setTop (mkF m 18 #[.val (.int i), .val (.int n)] [])) := by
  have hx := Bd.exec
  have hby := Bd.bytes
  have hown : s.vm.findClass "java/lang/Integer" = some m.cls := findClass_of_methodNamed Bd.named
  have X0 : Stand p l e ({ frames := 0, cells := 0, slots := 0, locals := 0 } : Room) s m #[(.int i0)] below meth c s₁ [] 0 0 := Stand.of_body Bd
  show own_Goes p e below (own_End s below _ _) (s₁.setTop (mkF m 18 #[.val (.int i), .val (.int n)] []))
  refine own_go (fun _ own_k => XS.iloadN X0.here hx rfl (hb hby dN_18) rfl own_k) ?_
  show own_Goes p e below (own_End s below _ _) (s₁.setTop (mkF m 19 #[.val (.int i), .val (.int n)] [(.int i)]))
  refine own_go (fun _ own_k => Stand.ldcWI X0 hx hown (mvT hZ (hw _ (List.mem_of_getElem? (i := 83) rfl))) rfl (hb hby dN_19) own_k) ?_
  show own_Goes p e below (own_End s below _ _) (s₁.setTop (mkF m 22 #[.val (.int i), .val (.int n)] [(.int (65536 : Int32)), (.int i)]))
  by_cases q : i < (65536 : Int32)
  · refine own_go (fun _ own_k => XS.icmpYes X0.here hx rfl (pc0 := 22) (pc' := 33) rfl (hb hby dN_22) rfl (tlt q).1 (by decide) (by decide) own_k) ?_
    show own_Goes p e below (own_End s below _ _) (s₁.setTop (mkF m 33 #[.val (.int i), .val (.int n)] []))
    exact own_nz33 l Z a0 hw h0 i0 p e s m below meth c s₁ Bd hml hZ e0 i n (own_Run_skip h (by have := own_lt32.mp q; have e : (65536 : Int32).toInt = 65536 := (by decide); omega) (by decide))
  · refine own_go (fun _ own_k => XS.icmpNo X0.here hx rfl (hb hby dN_22) rfl (flt q).1 own_k) ?_
    show own_Goes p e below (own_End s below _ _) (s₁.setTop (mkF m 25 #[.val (.int i), .val (.int n)] []))
    refine own_go (fun _ own_k => XS.iinc X0.here hx rfl (hb hby dN_25) rfl (l' := #[.val (.int i), .val (.int (n + Int32.ofInt (-16)))]) rfl own_k) ?_
    show own_Goes p e below (own_End s below _ _) (s₁.setTop (mkF m 28 #[.val (.int i), .val (.int (n + Int32.ofInt (-16)))] []))
    refine own_go (fun _ own_k => XS.iloadN X0.here hx rfl (hb hby dN_28) rfl own_k) ?_
    show own_Goes p e below (own_End s below _ _) (s₁.setTop (mkF m 29 #[.val (.int i), .val (.int (n + Int32.ofInt (-16)))] [(.int i)]))
    refine own_go (fun _ own_k => XS.bipush X0.here hx rfl (hb hby dN_29) own_k) ?_
    show own_Goes p e below (own_End s below _ _) (s₁.setTop (mkF m 31 #[.val (.int i), .val (.int (n + Int32.ofInt (-16)))] [(.int (16 : Int32)), (.int i)]))
    refine own_go (fun _ own_k => XS.iushr X0.here hx rfl (hb hby dN_31) rfl own_k) ?_
    show own_Goes p e below (own_End s below _ _) (s₁.setTop (mkF m 32 #[.val (.int i), .val (.int (n + Int32.ofInt (-16)))] [(.int ((i.toUInt32 >>> ((16 : Int32) &&& 31).toUInt32).toInt32))]))
    refine own_go (fun _ own_k => XS.istoreN X0.here hx rfl (hb hby dN_32) rfl (l' := #[.val (.int ((i.toUInt32 >>> ((16 : Int32) &&& 31).toUInt32).toInt32)), .val (.int (n + Int32.ofInt (-16)))]) rfl own_k) ?_
    show own_Goes p e below (own_End s below _ _) (s₁.setTop (mkF m 33 #[.val (.int ((i.toUInt32 >>> ((16 : Int32) &&& 31).toUInt32).toInt32)), .val (.int (n + Int32.ofInt (-16)))] []))
    exact own_nz33 l Z a0 hw h0 i0 p e s m below meth c s₁ Bd hml hZ e0 (own_us i (16 : Int32)) (n + Int32.ofInt (-16)) (own_Run_turn 16 (16 : Int32) (Int32.ofInt (-16)) h (by decide) (by decide) (by decide) (by decide) (by have e : (65536 : Int32).toInt = 65536 := (by decide); have q1 : ¬ i.toInt < (65536 : Int32).toInt := fun z => q (own_lt32.mpr z); omega) 65536 (by decide))
set_option maxRecDepth 65536 in
set_option maxHeartbeats 40000000 in
theorem own_inz (l : Launch) (Z : State) (a0 : Array Value) (hw : ∀ d ∈ tables_1, d.before a0 Z = true) (h0 : Heap) (i0 : Int32) (hi : ¬ i0 = 0) : own_Met l Z own_inzN jdk_33_method_47_code 2 (some .int) ({ frames := 0, cells := 0, slots := 0, locals := 0 } : Room) [] #[(.int i0)] h0 (own_QN i0 h0) := by
  refine own_met (plainFor_of_name pn_N) ?_
  intro p e s m below meth c s₁ Bd hml hZ e0
  have hx := Bd.exec
  have hby := Bd.bytes
  have hown : s.vm.findClass "java/lang/Integer" = some m.cls := findClass_of_methodNamed Bd.named
  have hnm := (name_of_methodNamed Bd.named Bd.method).1
  have X0 : Stand p l e ({ frames := 0, cells := 0, slots := 0, locals := 0 } : Room) s m #[(.int i0)] below meth c s₁ [] 0 0 := Stand.of_body Bd
  rw [ef_N]
  show own_Goes p e below (own_End s below _ _) (s₁.setTop (mkF m 0 #[.val (.int i0), .unset] []))
  refine own_go (fun _ own_k => XS.iloadN X0.here hx rfl (hb hby dN_0) rfl own_k) ?_
  show own_Goes p e below (own_End s below _ _) (s₁.setTop (mkF m 1 #[.val (.int i0), .unset] [(.int i0)]))
  by_cases q : 0 < i0.toInt
  · refine own_go (fun _ own_k => XS.ifYes X0.here hx rfl (pc0 := 1) (pc' := 15) rfl (hb hby dN_1) rfl (by rw [if0]; exact (tlt (x := 0) (own_lt32.mpr q)).2.2.1) (by decide) (by decide) own_k) ?_
    show own_Goes p e below (own_End s below _ _) (s₁.setTop (mkF m 15 #[.val (.int i0), .unset] []))
    refine own_go (fun _ own_k => XS.bipush X0.here hx rfl (hb hby dN_15) own_k) ?_
    show own_Goes p e below (own_End s below _ _) (s₁.setTop (mkF m 17 #[.val (.int i0), .unset] [(.int (31 : Int32))]))
    refine own_go (fun _ own_k => XS.istoreN X0.here hx rfl (hb hby dN_17) rfl (l' := #[.val (.int i0), .val (.int (31 : Int32))]) rfl own_k) ?_
    show own_Goes p e below (own_End s below _ _) (s₁.setTop (mkF m 18 #[.val (.int i0), .val (.int (31 : Int32))] []))
    exact own_nz18 l Z a0 hw h0 i0 p e s m below meth c s₁ Bd hml hZ e0 i0 31 (own_Run_start q)
  · refine own_go (fun _ own_k => XS.ifNo X0.here hx rfl (hb hby dN_1) rfl (by rw [if0]; exact (flt (x := 0) (fun z => q (own_lt32.mp z))).2.2.1) own_k) ?_
    show own_Goes p e below (own_End s below _ _) (s₁.setTop (mkF m 4 #[.val (.int i0), .unset] []))
    refine own_go (fun _ own_k => XS.iloadN X0.here hx rfl (hb hby dN_4) rfl own_k) ?_
    show own_Goes p e below (own_End s below _ _) (s₁.setTop (mkF m 5 #[.val (.int i0), .unset] [(.int i0)]))
    refine own_go (fun _ own_k => XS.ifYes X0.here hx rfl (pc0 := 5) (pc' := 13) rfl (hb hby dN_5) rfl (by rw [if0]; exact (feq hi).2) (by decide) (by decide) own_k) ?_
    show own_Goes p e below (own_End s below _ _) (s₁.setTop (mkF m 13 #[.val (.int i0), .unset] []))
    refine own_go (fun _ own_k => XS.iconst X0.here hx rfl (hb hby dN_13) own_k) ?_
    show own_Goes p e below (own_End s below _ _) (s₁.setTop (mkF m 14 #[.val (.int i0), .unset] [(.int (0 : Int32))]))
    exact own_retI X0 hx Bd.notSynchronized Bd.returns (hb hby dN_14) ⟨_, rfl, Or.inl ⟨by have : i0.toInt ≠ 0 := fun z => hi (Int32.toInt_inj.mp z); omega, rfl⟩, e0, rfl⟩ (by decide) (by decide)
def own_QL (t : Int64) (h0 : Heap) (v : Option Value) (h : Heap) (L : List Loc) : Prop := ∃ r : Int32, v = some (.int r) ∧ (∃ k : Nat, k ≤ 62 ∧ r.toInt = 63 - k ∧ own_Lg k t.toInt.toNat) ∧ h = h0 ∧ L = []
def own_ul (t : Int64) (s : Int32) : Int64 := (t.toUInt64 >>> (s &&& 0x3f).toInt64.toUInt64).toInt64
theorem own_ul_v {t : Int64} (s : Int32) (k : Nat) (hk : s.toBitVec.toNat % 64 = k) (h0 : 0 < k) (ht : 0 ≤ t.toInt) : 0 ≤ (own_ul t s).toInt ∧ (own_ul t s).toInt.toNat = t.toInt.toNat / 2 ^ k := by
  have h1 := c_lushr t s k hk h0
  have h2 : (own_ul t s).toInt = (t.toInt % 18446744073709551616) / (2 ^ k : Nat) := h1
  have h3 := rng64 t
  have h4 : t.toInt % 18446744073709551616 = t.toInt := Int.emod_eq_of_lt ht (by omega)
  rw [h4] at h2
  obtain ⟨n, hn⟩ := Int.eq_ofNat_of_zero_le ht
  rw [hn] at h2 ⊢
  rw [h2, ← Int.natCast_ediv]
  exact ⟨Int.natCast_nonneg _, by rw [Int.toNat_natCast, Int.toNat_natCast]⟩
theorem own_l2i_v {t : Int64} (h1 : -2147483648 ≤ t.toInt) (h2 : t.toInt < 2147483648) : (t.toInt32).toInt = t.toInt := by
  have := c_l2i t; have := rng32 t.toInt32; omega
theorem own_Lg_up {k n m : Nat} (h : own_Lg k (n / 2 ^ 32)) (e : m = k + 32) : own_Lg m n := by
  subst e
  obtain ⟨h1, h2⟩ := h
  constructor
  · rw [Nat.pow_add]; exact (Nat.le_div_iff_mul_le (by decide)).mp h1
  · rw [show k + 32 + 1 = (k + 1) + 32 from by omega, Nat.pow_add]
    exact (Nat.div_lt_iff_lt_mul (by decide)).mp h2
theorem own_lnz_hi {t : Int64} {r : Int32} (ht : 0 < t.toInt) (hx : ¬ (own_ul t 32).toInt32 = 0) (h : own_Nlz (own_ul t 32).toInt32 r) : ∃ k : Nat, k ≤ 62 ∧ r.toInt = 63 - k ∧ own_Lg k t.toInt.toNat := by
  obtain ⟨q1, q2⟩ := own_ul_v (t := t) 32 32 (by decide) (by decide) (by omega)
  have r1 := rng64 t
  have q3 : ((own_ul t 32).toInt32).toInt = (own_ul t 32).toInt := own_l2i_v (by omega) (by omega)
  rcases h with ⟨h1, h2⟩ | ⟨h1, k, h2, h3, h4⟩
  · omega
  · refine ⟨k + 32, by omega, by omega, ?_⟩
    rw [q3, q2] at h4
    exact own_Lg_up h4 rfl
theorem own_lnz_lo {t : Int64} {r : Int32} (ht : 0 < t.toInt) (hx : (own_ul t 32).toInt32 = 0) (h : own_Nlz t.toInt32 r) : ∃ k : Nat, k ≤ 62 ∧ ((32 : Int32) + r).toInt = 63 - k ∧ own_Lg k t.toInt.toNat := by
  obtain ⟨q1, q2⟩ := own_ul_v (t := t) 32 32 (by decide) (by decide) (by omega)
  have r1 := rng64 t
  have q3 : ((own_ul t 32).toInt32).toInt = (own_ul t 32).toInt := own_l2i_v (by omega) (by omega)
  have q4 : ((own_ul t 32).toInt32).toInt = 0 := by rw [hx]; decide
  have q5 := c_l2i t
  have q6 := rng32 t.toInt32
  have e32 : (32 : Int32).toInt = 32 := by decide
  rcases h with ⟨h1, h2⟩ | ⟨h1, k, h2, h3, h4⟩
  · subst h2
    refine ⟨31, by decide, by decide, ?_, ?_⟩ <;> omega
  · have : ((32 : Int32) + r).toInt = (32 : Int32).toInt + r.toInt := own_add32 (by omega) (by omega)
    refine ⟨k, by omega, by omega, ?_⟩
    have e : t.toInt32.toInt = t.toInt := by omega
    rw [e] at h4; exact h4
theorem own_lo_ne {t : Int64} (ht : 0 < t.toInt) (hx : (own_ul t 32).toInt32 = 0) : ¬ t.toInt32 = 0 := by
  intro hz
  obtain ⟨q1, q2⟩ := own_ul_v (t := t) 32 32 (by decide) (by decide) (by omega)
  have r1 := rng64 t
  have q3 : ((own_ul t 32).toInt32).toInt = (own_ul t 32).toInt := own_l2i_v (by omega) (by omega)
  have q4 : ((own_ul t 32).toInt32).toInt = 0 := by rw [hx]; decide
  have q5 := c_l2i t
  have q6 : t.toInt32.toInt = 0 := by rw [hz]; decide
  omega
set_option maxRecDepth 65536 in
set_option maxHeartbeats 40000000 in
theorem own_lnz (l : Launch) (Z : State) (a0 : Array Value) (hw : ∀ d ∈ tables_1, d.before a0 Z = true) (h0 : Heap) (t : Int64) (ht : 0 < t.toInt) : own_Met l Z own_lnzN jdk_35_method_48_code 3 (some .int) ({ frames := 1, cells := 0, slots := 0, locals := 14 } : Room) [] #[(.long t)] h0 (own_QL t h0) := by
  refine own_met (plainFor_of_name pn_L) ?_
  intro p e s m below meth c s₁ Bd hml hZ e0
  have hx := Bd.exec
  have hby := Bd.bytes
  have hown : s.vm.findClass "java/lang/Long" = some m.cls := findClass_of_methodNamed Bd.named
  have hnm := (name_of_methodNamed Bd.named Bd.method).1
  have X0 : Stand p l e ({ frames := 1, cells := 0, slots := 0, locals := 14 } : Room) s m #[(.long t)] below meth c s₁ [] 0 0 := Stand.of_body Bd
  rw [ef_L]
  show own_Goes p e below (own_End s below _ _) (s₁.setTop (mkF m 0 #[.val (.long t), .second, .unset] []))
  refine own_go (fun _ own_k => XS.lloadN X0.here hx rfl (hb hby dL_0) rfl own_k) ?_
  show own_Goes p e below (own_End s below _ _) (s₁.setTop (mkF m 1 #[.val (.long t), .second, .unset] [(.long t)]))
  refine own_go (fun _ own_k => XS.bipush X0.here hx rfl (hb hby dL_1) own_k) ?_
  show own_Goes p e below (own_End s below _ _) (s₁.setTop (mkF m 3 #[.val (.long t), .second, .unset] [(.int (32 : Int32)), (.long t)]))
  refine own_go (fun _ own_k => XS.lushr X0.here hx rfl (hb hby dL_3) rfl own_k) ?_
  show own_Goes p e below (own_End s below _ _) (s₁.setTop (mkF m 4 #[.val (.long t), .second, .unset] [(.long ((t.toUInt64 >>> ((32 : Int32) &&& 0x3f).toInt64.toUInt64).toInt64))]))
  refine own_go (fun _ own_k => XS.l2i X0.here hx rfl (hb hby dL_4) rfl own_k) ?_
  show own_Goes p e below (own_End s below _ _) (s₁.setTop (mkF m 5 #[.val (.long t), .second, .unset] [(.int (((t.toUInt64 >>> ((32 : Int32) &&& 0x3f).toInt64.toUInt64).toInt64).toInt32))]))
  refine own_go (fun _ own_k => XS.istoreN X0.here hx rfl (hb hby dL_5) rfl (l' := #[.val (.long t), .second, .val (.int (((t.toUInt64 >>> ((32 : Int32) &&& 0x3f).toInt64.toUInt64).toInt64).toInt32))]) rfl own_k) ?_
  show own_Goes p e below (own_End s below _ _) (s₁.setTop (mkF m 6 #[.val (.long t), .second, .val (.int (((t.toUInt64 >>> ((32 : Int32) &&& 0x3f).toInt64.toUInt64).toInt64).toInt32))] []))
  show own_Goes p e below (own_End s below _ _) (s₁.setTop (mkF m 6 #[.val (.long t), .second, .val (.int ((own_ul t (32 : Int32)).toInt32))] []))
  refine own_go (fun _ own_k => XS.iloadN X0.here hx rfl (hb hby dL_6) rfl own_k) ?_
  show own_Goes p e below (own_End s below _ _) (s₁.setTop (mkF m 7 #[.val (.long t), .second, .val (.int ((own_ul t (32 : Int32)).toInt32))] [(.int ((own_ul t (32 : Int32)).toInt32))]))
  by_cases q : (own_ul t (32 : Int32)).toInt32 = 0
  · refine own_go (fun _ own_k => XS.ifNo X0.here hx rfl (hb hby dL_7) rfl (by rw [if0]; exact (teq q).2) own_k) ?_
    show own_Goes p e below (own_End s below _ _) (s₁.setTop (mkF m 10 #[.val (.long t), .second, .val (.int ((own_ul t (32 : Int32)).toInt32))] []))
    refine own_go (fun _ own_k => XS.bipush X0.here hx rfl (hb hby dL_10) own_k) ?_
    show own_Goes p e below (own_End s below _ _) (s₁.setTop (mkF m 12 #[.val (.long t), .second, .val (.int ((own_ul t (32 : Int32)).toInt32))] [(.int (32 : Int32))]))
    refine own_go (fun _ own_k => XS.lloadN X0.here hx rfl (hb hby dL_12) rfl own_k) ?_
    show own_Goes p e below (own_End s below _ _) (s₁.setTop (mkF m 13 #[.val (.long t), .second, .val (.int ((own_ul t (32 : Int32)).toInt32))] [(.long t), (.int (32 : Int32))]))
    refine own_go (fun _ own_k => XS.l2i X0.here hx rfl (hb hby dL_13) rfl own_k) ?_
    show own_Goes p e below (own_End s below _ _) (s₁.setTop (mkF m 14 #[.val (.long t), .second, .val (.int ((own_ul t (32 : Int32)).toInt32))] [(.int (t.toInt32)), (.int (32 : Int32))]))
    obtain ⟨vT1, T1, LT1, X1, hQT1, st1⟩ := own_callS X0 hx hZ (y := own_inzN) hown (hw _ (List.mem_of_getElem? (i := 79) rfl)) (hw _ (List.mem_of_getElem? (i := 80) rfl)) (hw _ (List.mem_of_getElem? (i := 81) rfl)) (hw _ (List.mem_of_getElem? (i := 82) rfl)) (by decide) (own_inz l Z a0 hw h0 _ (own_lo_ne ht q)) e0 (W := 1) (by decide) (by decide) (g := (mkF m 14 #[.val (.long t), .second, .val (.int ((own_ul t (32 : Int32)).toInt32))] [(.int (t.toInt32)), (.int (32 : Int32))])) rfl (by rw [hml]; rfl) (argsL := [(.int (t.toInt32))]) (rest := [(.int (32 : Int32))]) pd_II rfl rfl (by show 2 * 0 + _ ≤ _; exact Nat.le_of_eq rfl) (hb hby dL_14) rfl (by decide) (by decide)
    obtain ⟨r, rfl, hr, eT1, rfl⟩ := hQT1
    rw [List.append_nil] at X1
    refine own_go st1 ?_
    show own_Goes p e below (own_End s below _ _) (T1.setTop (mkF m 17 #[.val (.long t), .second, .val (.int ((own_ul t (32 : Int32)).toInt32))] [(.int r), (.int (32 : Int32))]))
    refine own_go (fun _ own_k => XS.iadd X1.here hx rfl (hb hby dL_17) rfl own_k) ?_
    show own_Goes p e below (own_End s below _ _) (T1.setTop (mkF m 18 #[.val (.long t), .second, .val (.int ((own_ul t (32 : Int32)).toInt32))] [(.int ((32 : Int32) + r))]))
    refine own_go (fun _ own_k => XS.goto X1.here hx rfl (pc0 := 18) (pc' := 25) rfl (hb hby dL_18) (by decide) (by decide) own_k) ?_
    show own_Goes p e below (own_End s below _ _) (T1.setTop (mkF m 25 #[.val (.long t), .second, .val (.int ((own_ul t (32 : Int32)).toInt32))] [(.int ((32 : Int32) + r))]))
    exact own_retI X1 hx Bd.notSynchronized Bd.returns (hb hby dL_25) ⟨_, rfl, own_lnz_lo ht q hr, eT1, rfl⟩ (by decide) (by decide)
  · refine own_go (fun _ own_k => XS.ifYes X0.here hx rfl (pc0 := 7) (pc' := 21) rfl (hb hby dL_7) rfl (by rw [if0]; exact (feq q).2) (by decide) (by decide) own_k) ?_
    show own_Goes p e below (own_End s below _ _) (s₁.setTop (mkF m 21 #[.val (.long t), .second, .val (.int ((own_ul t (32 : Int32)).toInt32))] []))
    refine own_go (fun _ own_k => XS.iloadN X0.here hx rfl (hb hby dL_21) rfl own_k) ?_
    show own_Goes p e below (own_End s below _ _) (s₁.setTop (mkF m 22 #[.val (.long t), .second, .val (.int ((own_ul t (32 : Int32)).toInt32))] [(.int ((own_ul t (32 : Int32)).toInt32))]))
    obtain ⟨vT1, T1, LT1, X1, hQT1, st1⟩ := own_callS X0 hx hZ (y := own_inzN) hown (hw _ (List.mem_of_getElem? (i := 79) rfl)) (hw _ (List.mem_of_getElem? (i := 80) rfl)) (hw _ (List.mem_of_getElem? (i := 81) rfl)) (hw _ (List.mem_of_getElem? (i := 82) rfl)) (by decide) (own_inz l Z a0 hw h0 _ q) e0 (W := 0) (by decide) (by decide) (g := (mkF m 22 #[.val (.long t), .second, .val (.int ((own_ul t (32 : Int32)).toInt32))] [(.int ((own_ul t (32 : Int32)).toInt32))])) rfl (by rw [hml]; rfl) (argsL := [(.int ((own_ul t (32 : Int32)).toInt32))]) (rest := []) pd_II rfl rfl (by show 2 * 0 + _ ≤ _; exact Nat.le_of_eq rfl) (hb hby dL_22) rfl (by decide) (by decide)
    obtain ⟨r, rfl, hr, eT1, rfl⟩ := hQT1
    rw [List.append_nil] at X1
    refine own_go st1 ?_
    show own_Goes p e below (own_End s below _ _) (T1.setTop (mkF m 25 #[.val (.long t), .second, .val (.int ((own_ul t (32 : Int32)).toInt32))] [(.int r)]))
    exact own_retI X1 hx Bd.notSynchronized Bd.returns (hb hby dL_25) ⟨_, rfl, own_lnz_hi ht q hr, eT1, rfl⟩ (by decide) (by decide)
def own_maxJ (x y : Int64) : Int64 := if x < y then y else x
set_option maxRecDepth 65536 in
set_option maxHeartbeats 40000000 in
theorem own_max (l : Launch) (Z : State) (a0 : Array Value) (hw : ∀ d ∈ tables_1, d.before a0 Z = true) (h0 : Heap) (x y : Int64) : own_Met l Z own_maxN jdk_29_method_66_code 4 (some .long) ({ frames := 0, cells := 0, slots := 0, locals := 0 } : Room) [] #[(.long x), (.long y)] h0 (own_Pure (some (.long (own_maxJ x y))) h0) := by
  refine own_met (by decide +kernel) ?_
  intro p e s m below meth c s₁ Bd hml hZ e0
  have hx := Bd.exec
  have hby := Bd.bytes
  have hown : s.vm.findClass "java/lang/Math" = some m.cls := findClass_of_methodNamed Bd.named
  have hnm := (name_of_methodNamed Bd.named Bd.method).1
  have X0 : Stand p l e ({ frames := 0, cells := 0, slots := 0, locals := 0 } : Room) s m #[(.long x), (.long y)] below meth c s₁ [] 0 0 := Stand.of_body Bd
  rw [ef_M]
  show own_Goes p e below (own_End s below _ _) (s₁.setTop (mkF m 0 #[.val (.long x), .second, .val (.long y), .second] []))
  refine own_go (fun _ own_k => XS.lloadN X0.here hx rfl (hb hby dM_0) rfl own_k) ?_
  show own_Goes p e below (own_End s below _ _) (s₁.setTop (mkF m 1 #[.val (.long x), .second, .val (.long y), .second] [(.long x)]))
  refine own_go (fun _ own_k => XS.lloadN X0.here hx rfl (hb hby dM_1) rfl own_k) ?_
  show own_Goes p e below (own_End s below _ _) (s₁.setTop (mkF m 2 #[.val (.long x), .second, .val (.long y), .second] [(.long y), (.long x)]))
  refine own_go (fun _ own_k => XS.lcmp X0.here hx rfl (hb hby dM_2) rfl own_k) ?_
  show own_Goes p e below (own_End s below _ _) (s₁.setTop (mkF m 3 #[.val (.long x), .second, .val (.long y), .second] [(.int (lcmpW x y))]))
  by_cases q : x < y
  · refine own_go (fun _ own_k => XS.ifYes X0.here hx rfl (pc0 := 3) (pc' := 10) rfl (hb hby dM_3) rfl (by rw [if0]; exact (tlt ((lw_lt x y).mpr q)).1) (by decide) (by decide) own_k) ?_
    show own_Goes p e below (own_End s below _ _) (s₁.setTop (mkF m 10 #[.val (.long x), .second, .val (.long y), .second] []))
    refine own_go (fun _ own_k => XS.lloadN X0.here hx rfl (hb hby dM_10) rfl own_k) ?_
    show own_Goes p e below (own_End s below _ _) (s₁.setTop (mkF m 11 #[.val (.long x), .second, .val (.long y), .second] [(.long y)]))
    exact own_retJ X0 hx Bd.notSynchronized Bd.returns (hb hby dM_11) ⟨by rw [own_maxJ, if_pos q], e0, rfl⟩ (by decide) (by decide)
  · refine own_go (fun _ own_k => XS.ifNo X0.here hx rfl (hb hby dM_3) rfl (by rw [if0]; exact (flt (fun z => q ((lw_lt x y).mp z))).1) own_k) ?_
    show own_Goes p e below (own_End s below _ _) (s₁.setTop (mkF m 6 #[.val (.long x), .second, .val (.long y), .second] []))
    refine own_go (fun _ own_k => XS.lloadN X0.here hx rfl (hb hby dM_6) rfl own_k) ?_
    show own_Goes p e below (own_End s below _ _) (s₁.setTop (mkF m 7 #[.val (.long x), .second, .val (.long y), .second] [(.long x)]))
    refine own_go (fun _ own_k => XS.goto X0.here hx rfl (pc0 := 7) (pc' := 11) rfl (hb hby dM_7) (by decide) (by decide) own_k) ?_
    show own_Goes p e below (own_End s below _ _) (s₁.setTop (mkF m 11 #[.val (.long x), .second, .val (.long y), .second] [(.long x)]))
    exact own_retJ X0 hx Bd.notSynchronized Bd.returns (hb hby dM_11) ⟨by rw [own_maxJ, if_neg q], e0, rfl⟩ (by decide) (by decide)
def own_QB (h0 : Heap) (v : Option Value) (h : Heap) (L : List Loc) : Prop := ∃ k : Int32, v = some (.int k) ∧ (0 ≤ k.toInt ∧ k.toInt < 14336) ∧ h = h0 ∧ L = []
theorem own_Lg_shift {k n : Nat} (h : own_Lg k n) (hk : 8 ≤ k) : 256 ≤ n / 2 ^ (k - 8) ∧ n / 2 ^ (k - 8) < 512 := by
  obtain ⟨h1, h2⟩ := h
  have hp : 0 < 2 ^ (k - 8) := Nat.pow_pos (by decide)
  have e0 := Nat.pow_add 2 8 (k - 8)
  rw [show 8 + (k - 8) = k from by omega] at e0
  have e1 : 2 ^ k = 256 * 2 ^ (k - 8) := e0
  have e2 : 2 ^ (k + 1) = 512 * 2 ^ (k - 8) := by rw [Nat.pow_succ, e1]; omega
  exact ⟨(Nat.le_div_iff_mul_le hp).mpr (by omega), (Nat.div_lt_iff_lt_mul hp).mpr (by omega)⟩
theorem own_Lg_ge {k n : Nat} (h : own_Lg k n) (hn : 512 ≤ n) : 9 ≤ k := by
  have h2 := h.2
  have h3 : 2 ^ 9 < 2 ^ (k + 1) := Nat.lt_of_le_of_lt hn h2
  have := (Nat.pow_lt_pow_iff_right (by decide : 1 < 2)).mp h3
  omega
def own_bk (t : Int64) (r : Int32) : Int32 := (512 : Int32) + ((63 - r) - 9) * 256 + ((own_ul t ((63 - r) - 8)).toInt32 - 256)
theorem own_bk_b {t : Int64} {r : Int32} (ht : 512 ≤ t.toInt) (h : ∃ k : Nat, k ≤ 62 ∧ r.toInt = 63 - k ∧ own_Lg k t.toInt.toNat) : 0 ≤ (own_bk t r).toInt ∧ (own_bk t r).toInt < 14336 := by
  obtain ⟨k, h1, h2, h3⟩ := h
  have h4 := own_Lg_ge h3 (by omega)
  obtain ⟨h5, h6⟩ := own_Lg_shift h3 (by omega)
  have c63 : (63 : Int32).toInt = 63 := by decide
  have c9 : (9 : Int32).toInt = 9 := by decide
  have c8 : (8 : Int32).toInt = 8 := by decide
  have c256 : (256 : Int32).toInt = 256 := by decide
  have c512 : (512 : Int32).toInt = 512 := by decide
  have a1 : ((63 : Int32) - r).toInt = k := by rw [own_sub32 (by omega) (by omega)]; omega
  have a2 : (((63 : Int32) - r) - 9).toInt = k - 9 := by rw [own_sub32 (by omega) (by omega)]; omega
  have a3 : (((63 : Int32) - r) - 8).toInt = k - 8 := by rw [own_sub32 (by omega) (by omega)]; omega
  have a4 : ((((63 : Int32) - r) - 9) * 256).toInt = (k - 9) * 256 := by rw [own_mul32 (by rw [a2, c256]; omega) (by rw [a2, c256]; omega), a2, c256]
  have a5 : (((63 : Int32) - r) - 8).toBitVec.toNat % 64 = k - 8 := by
    have e : (((63 : Int32) - r) - 8).toInt = (((63 : Int32) - r) - 8).toBitVec.toInt := rfl
    rw [a3, BitVec.toInt_eq_toNat_cond] at e
    have := (((63 : Int32) - r) - 8).toBitVec.isLt
    split at e <;> omega
  obtain ⟨b1, b2⟩ := own_ul_v (t := t) (((63 : Int32) - r) - 8) (k - 8) a5 (by omega) (by omega)
  have b3 : ((own_ul t (((63 : Int32) - r) - 8)).toInt32).toInt = (own_ul t (((63 : Int32) - r) - 8)).toInt := own_l2i_v (by omega) (by omega)
  have b4 : ((own_ul t (((63 : Int32) - r) - 8)).toInt32 - 256).toInt = (own_ul t (((63 : Int32) - r) - 8)).toInt - 256 := by rw [own_sub32 (by omega) (by omega)]; omega
  have b5 : ((512 : Int32) + (((63 : Int32) - r) - 9) * 256).toInt = 512 + (k - 9) * 256 := by rw [own_add32 (by omega) (by omega)]; omega
  have b6 : (own_bk t r).toInt = 512 + (k - 9) * 256 + ((own_ul t (((63 : Int32) - r) - 8)).toInt - 256) := by
    unfold own_bk
    rw [own_add32 (by omega) (by omega), b5, b4]
  omega
set_option maxRecDepth 65536 in
set_option maxHeartbeats 40000000 in
theorem own_buc (l : Launch) (Z : State) (a0 : Array Value) (hw : ∀ d ∈ tables_1, d.before a0 Z = true) (h0 : Heap) (t : Int64) (ht : 0 ≤ t.toInt) : own_Met l Z own_bucN prog_36_method_6_code 5 (some .int) ({ frames := 2, cells := 0, slots := 0, locals := 29 } : Room) [] #[(.long t)] h0 (own_QB h0) := by
  refine own_met (plainFor_of_name pn_H) ?_
  intro p e s m below meth c s₁ Bd hml hZ e0
  have hx := Bd.exec
  have hby := Bd.bytes
  have hown : s.vm.findClass "com/example/holdfast/holdfast/cli/LatencyHistogram" = some m.cls := findClass_of_methodNamed Bd.named
  have hnm := (name_of_methodNamed Bd.named Bd.method).1
  have X0 : Stand p l e ({ frames := 2, cells := 0, slots := 0, locals := 29 } : Room) s m #[(.long t)] below meth c s₁ [] 0 0 := Stand.of_body Bd
  rw [ef_B]
  show own_Goes p e below (own_End s below _ _) (s₁.setTop (mkF m 0 #[.val (.long t), .second, .unset, .unset, .unset] []))
  refine own_go (fun _ own_k => XS.lloadN X0.here hx rfl (hb hby dB_0) rfl own_k) ?_
  show own_Goes p e below (own_End s below _ _) (s₁.setTop (mkF m 1 #[.val (.long t), .second, .unset, .unset, .unset] [(.long t)]))
  refine own_go (fun _ own_k => Stand.ldc2J X0 hx hown (mvT hZ (hw _ (List.mem_of_getElem? (i := 67) rfl))) rfl (hb hby dB_1) own_k) ?_
  show own_Goes p e below (own_End s below _ _) (s₁.setTop (mkF m 4 #[.val (.long t), .second, .unset, .unset, .unset] [(.long (512 : Int64)), (.long t)]))
  refine own_go (fun _ own_k => XS.lcmp X0.here hx rfl (hb hby dB_4) rfl own_k) ?_
  show own_Goes p e below (own_End s below _ _) (s₁.setTop (mkF m 5 #[.val (.long t), .second, .unset, .unset, .unset] [(.int (lcmpW t (512 : Int64)))]))
  have c512 : (512 : Int64).toInt = 512 := by decide
  by_cases q : t < (512 : Int64)
  · refine own_go (fun _ own_k => XS.ifNo X0.here hx rfl (hb hby dB_5) rfl (by rw [if0]; exact (tlt ((lw_lt _ _).mpr q)).2.1) own_k) ?_
    show own_Goes p e below (own_End s below _ _) (s₁.setTop (mkF m 8 #[.val (.long t), .second, .unset, .unset, .unset] []))
    refine own_go (fun _ own_k => XS.lloadN X0.here hx rfl (hb hby dB_8) rfl own_k) ?_
    show own_Goes p e below (own_End s below _ _) (s₁.setTop (mkF m 9 #[.val (.long t), .second, .unset, .unset, .unset] [(.long t)]))
    refine own_go (fun _ own_k => XS.l2i X0.here hx rfl (hb hby dB_9) rfl own_k) ?_
    show own_Goes p e below (own_End s below _ _) (s₁.setTop (mkF m 10 #[.val (.long t), .second, .unset, .unset, .unset] [(.int (t.toInt32))]))
    have q' := own_lt64.mp q
    exact own_retI X0 hx Bd.notSynchronized Bd.returns (hb hby dB_10) ⟨_, rfl, by rw [own_l2i_v (by omega) (by omega)]; omega, e0, rfl⟩ (by decide) (by decide)
  · refine own_go (fun _ own_k => XS.ifYes X0.here hx rfl (pc0 := 5) (pc' := 11) rfl (hb hby dB_5) rfl (by rw [if0]; exact (flt (fun z => q ((lw_lt _ _).mp z))).2.1) (by decide) (by decide) own_k) ?_
    show own_Goes p e below (own_End s below _ _) (s₁.setTop (mkF m 11 #[.val (.long t), .second, .unset, .unset, .unset] []))
    refine own_go (fun _ own_k => XS.bipush X0.here hx rfl (hb hby dB_11) own_k) ?_
    show own_Goes p e below (own_End s below _ _) (s₁.setTop (mkF m 13 #[.val (.long t), .second, .unset, .unset, .unset] [(.int (63 : Int32))]))
    refine own_go (fun _ own_k => XS.lloadN X0.here hx rfl (hb hby dB_13) rfl own_k) ?_
    show own_Goes p e below (own_End s below _ _) (s₁.setTop (mkF m 14 #[.val (.long t), .second, .unset, .unset, .unset] [(.long t), (.int (63 : Int32))]))
    have q' : 512 ≤ t.toInt := by have : ¬ t.toInt < (512 : Int64).toInt := fun z => q (own_lt64.mpr z)
                                  omega
    obtain ⟨vT1, T1, LT1, X1, hQT1, st1⟩ := own_callS X0 hx hZ (y := own_lnzN) hown (hw _ (List.mem_of_getElem? (i := 75) rfl)) (hw _ (List.mem_of_getElem? (i := 76) rfl)) (hw _ (List.mem_of_getElem? (i := 77) rfl)) (hw _ (List.mem_of_getElem? (i := 78) rfl)) (by decide) (own_lnz l Z a0 hw h0 t (by omega)) e0 (W := 1) (by decide) (by decide) (g := (mkF m 14 #[.val (.long t), .second, .unset, .unset, .unset] [(.long t), (.int (63 : Int32))])) rfl (by rw [hml]; rfl) (argsL := [(.long t)]) (rest := [(.int (63 : Int32))]) pd_JI rfl rfl (by show 2 * 0 + _ ≤ _; exact Nat.le_of_eq rfl) (hb hby dB_14) rfl (by decide) (by decide)
    obtain ⟨r, rfl, hr, eT1, rfl⟩ := hQT1
    rw [List.append_nil] at X1
    refine own_go st1 ?_
    show own_Goes p e below (own_End s below _ _) (T1.setTop (mkF m 17 #[.val (.long t), .second, .unset, .unset, .unset] [(.int r), (.int (63 : Int32))]))
    refine own_go (fun _ own_k => XS.isub X1.here hx rfl (hb hby dB_17) rfl own_k) ?_
    show own_Goes p e below (own_End s below _ _) (T1.setTop (mkF m 18 #[.val (.long t), .second, .unset, .unset, .unset] [(.int ((63 : Int32) - r))]))
    refine own_go (fun _ own_k => XS.istoreN X1.here hx rfl (hb hby dB_18) rfl (l' := #[.val (.long t), .second, .val (.int ((63 : Int32) - r)), .unset, .unset]) rfl own_k) ?_
    show own_Goes p e below (own_End s below _ _) (T1.setTop (mkF m 19 #[.val (.long t), .second, .val (.int ((63 : Int32) - r)), .unset, .unset] []))
    refine own_go (fun _ own_k => XS.iloadN X1.here hx rfl (hb hby dB_19) rfl own_k) ?_
    show own_Goes p e below (own_End s below _ _) (T1.setTop (mkF m 20 #[.val (.long t), .second, .val (.int ((63 : Int32) - r)), .unset, .unset] [(.int ((63 : Int32) - r))]))
    refine own_go (fun _ own_k => XS.bipush X1.here hx rfl (hb hby dB_20) own_k) ?_
    show own_Goes p e below (own_End s below _ _) (T1.setTop (mkF m 22 #[.val (.long t), .second, .val (.int ((63 : Int32) - r)), .unset, .unset] [(.int (8 : Int32)), (.int ((63 : Int32) - r))]))
    refine own_go (fun _ own_k => XS.isub X1.here hx rfl (hb hby dB_22) rfl own_k) ?_
    show own_Goes p e below (own_End s below _ _) (T1.setTop (mkF m 23 #[.val (.long t), .second, .val (.int ((63 : Int32) - r)), .unset, .unset] [(.int (((63 : Int32) - r) - (8 : Int32)))]))
    refine own_go (fun _ own_k => XS.istoreN X1.here hx rfl (hb hby dB_23) rfl (l' := #[.val (.long t), .second, .val (.int ((63 : Int32) - r)), .val (.int (((63 : Int32) - r) - (8 : Int32))), .unset]) rfl own_k) ?_
    show own_Goes p e below (own_End s below _ _) (T1.setTop (mkF m 24 #[.val (.long t), .second, .val (.int ((63 : Int32) - r)), .val (.int (((63 : Int32) - r) - (8 : Int32))), .unset] []))
    refine own_go (fun _ own_k => XS.lloadN X1.here hx rfl (hb hby dB_24) rfl own_k) ?_
    show own_Goes p e below (own_End s below _ _) (T1.setTop (mkF m 25 #[.val (.long t), .second, .val (.int ((63 : Int32) - r)), .val (.int (((63 : Int32) - r) - (8 : Int32))), .unset] [(.long t)]))
    refine own_go (fun _ own_k => XS.iloadN X1.here hx rfl (hb hby dB_25) rfl own_k) ?_
    show own_Goes p e below (own_End s below _ _) (T1.setTop (mkF m 26 #[.val (.long t), .second, .val (.int ((63 : Int32) - r)), .val (.int (((63 : Int32) - r) - (8 : Int32))), .unset] [(.int (((63 : Int32) - r) - (8 : Int32))), (.long t)]))
    refine own_go (fun _ own_k => XS.lushr X1.here hx rfl (hb hby dB_26) rfl own_k) ?_
    show own_Goes p e below (own_End s below _ _) (T1.setTop (mkF m 27 #[.val (.long t), .second, .val (.int ((63 : Int32) - r)), .val (.int (((63 : Int32) - r) - (8 : Int32))), .unset] [(.long ((t.toUInt64 >>> ((((63 : Int32) - r) - (8 : Int32)) &&& 0x3f).toInt64.toUInt64).toInt64))]))
    refine own_go (fun _ own_k => XS.l2i X1.here hx rfl (hb hby dB_27) rfl own_k) ?_
    show own_Goes p e below (own_End s below _ _) (T1.setTop (mkF m 28 #[.val (.long t), .second, .val (.int ((63 : Int32) - r)), .val (.int (((63 : Int32) - r) - (8 : Int32))), .unset] [(.int (((t.toUInt64 >>> ((((63 : Int32) - r) - (8 : Int32)) &&& 0x3f).toInt64.toUInt64).toInt64).toInt32))]))
    refine own_go (fun _ own_k => XS.sipush X1.here hx rfl (hb hby dB_28) own_k) ?_
    show own_Goes p e below (own_End s below _ _) (T1.setTop (mkF m 31 #[.val (.long t), .second, .val (.int ((63 : Int32) - r)), .val (.int (((63 : Int32) - r) - (8 : Int32))), .unset] [(.int (256 : Int32)), (.int (((t.toUInt64 >>> ((((63 : Int32) - r) - (8 : Int32)) &&& 0x3f).toInt64.toUInt64).toInt64).toInt32))]))
    refine own_go (fun _ own_k => XS.isub X1.here hx rfl (hb hby dB_31) rfl own_k) ?_
    show own_Goes p e below (own_End s below _ _) (T1.setTop (mkF m 32 #[.val (.long t), .second, .val (.int ((63 : Int32) - r)), .val (.int (((63 : Int32) - r) - (8 : Int32))), .unset] [(.int ((((t.toUInt64 >>> ((((63 : Int32) - r) - (8 : Int32)) &&& 0x3f).toInt64.toUInt64).toInt64).toInt32) - (256 : Int32)))]))
    refine own_go (fun _ own_k => XS.istore X1.here hx rfl (hb hby dB_32) rfl (l' := #[.val (.long t), .second, .val (.int ((63 : Int32) - r)), .val (.int (((63 : Int32) - r) - (8 : Int32))), .val (.int ((((t.toUInt64 >>> ((((63 : Int32) - r) - (8 : Int32)) &&& 0x3f).toInt64.toUInt64).toInt64).toInt32) - (256 : Int32)))]) rfl own_k) ?_
    show own_Goes p e below (own_End s below _ _) (T1.setTop (mkF m 34 #[.val (.long t), .second, .val (.int ((63 : Int32) - r)), .val (.int (((63 : Int32) - r) - (8 : Int32))), .val (.int ((((t.toUInt64 >>> ((((63 : Int32) - r) - (8 : Int32)) &&& 0x3f).toInt64.toUInt64).toInt64).toInt32) - (256 : Int32)))] []))
    refine own_go (fun _ own_k => XS.sipush X1.here hx rfl (hb hby dB_34) own_k) ?_
    show own_Goes p e below (own_End s below _ _) (T1.setTop (mkF m 37 #[.val (.long t), .second, .val (.int ((63 : Int32) - r)), .val (.int (((63 : Int32) - r) - (8 : Int32))), .val (.int ((((t.toUInt64 >>> ((((63 : Int32) - r) - (8 : Int32)) &&& 0x3f).toInt64.toUInt64).toInt64).toInt32) - (256 : Int32)))] [(.int (512 : Int32))]))
    refine own_go (fun _ own_k => XS.iloadN X1.here hx rfl (hb hby dB_37) rfl own_k) ?_
    show own_Goes p e below (own_End s below _ _) (T1.setTop (mkF m 38 #[.val (.long t), .second, .val (.int ((63 : Int32) - r)), .val (.int (((63 : Int32) - r) - (8 : Int32))), .val (.int ((((t.toUInt64 >>> ((((63 : Int32) - r) - (8 : Int32)) &&& 0x3f).toInt64.toUInt64).toInt64).toInt32) - (256 : Int32)))] [(.int ((63 : Int32) - r)), (.int (512 : Int32))]))
    refine own_go (fun _ own_k => XS.bipush X1.here hx rfl (hb hby dB_38) own_k) ?_
    show own_Goes p e below (own_End s below _ _) (T1.setTop (mkF m 40 #[.val (.long t), .second, .val (.int ((63 : Int32) - r)), .val (.int (((63 : Int32) - r) - (8 : Int32))), .val (.int ((((t.toUInt64 >>> ((((63 : Int32) - r) - (8 : Int32)) &&& 0x3f).toInt64.toUInt64).toInt64).toInt32) - (256 : Int32)))] [(.int (9 : Int32)), (.int ((63 : Int32) - r)), (.int (512 : Int32))]))
    refine own_go (fun _ own_k => XS.isub X1.here hx rfl (hb hby dB_40) rfl own_k) ?_
    show own_Goes p e below (own_End s below _ _) (T1.setTop (mkF m 41 #[.val (.long t), .second, .val (.int ((63 : Int32) - r)), .val (.int (((63 : Int32) - r) - (8 : Int32))), .val (.int ((((t.toUInt64 >>> ((((63 : Int32) - r) - (8 : Int32)) &&& 0x3f).toInt64.toUInt64).toInt64).toInt32) - (256 : Int32)))] [(.int (((63 : Int32) - r) - (9 : Int32))), (.int (512 : Int32))]))
    refine own_go (fun _ own_k => XS.sipush X1.here hx rfl (hb hby dB_41) own_k) ?_
    show own_Goes p e below (own_End s below _ _) (T1.setTop (mkF m 44 #[.val (.long t), .second, .val (.int ((63 : Int32) - r)), .val (.int (((63 : Int32) - r) - (8 : Int32))), .val (.int ((((t.toUInt64 >>> ((((63 : Int32) - r) - (8 : Int32)) &&& 0x3f).toInt64.toUInt64).toInt64).toInt32) - (256 : Int32)))] [(.int (256 : Int32)), (.int (((63 : Int32) - r) - (9 : Int32))), (.int (512 : Int32))]))
    refine own_go (fun _ own_k => XS.imul X1.here hx rfl (hb hby dB_44) rfl own_k) ?_
    show own_Goes p e below (own_End s below _ _) (T1.setTop (mkF m 45 #[.val (.long t), .second, .val (.int ((63 : Int32) - r)), .val (.int (((63 : Int32) - r) - (8 : Int32))), .val (.int ((((t.toUInt64 >>> ((((63 : Int32) - r) - (8 : Int32)) &&& 0x3f).toInt64.toUInt64).toInt64).toInt32) - (256 : Int32)))] [(.int ((((63 : Int32) - r) - (9 : Int32)) * (256 : Int32))), (.int (512 : Int32))]))
    refine own_go (fun _ own_k => XS.iadd X1.here hx rfl (hb hby dB_45) rfl own_k) ?_
    show own_Goes p e below (own_End s below _ _) (T1.setTop (mkF m 46 #[.val (.long t), .second, .val (.int ((63 : Int32) - r)), .val (.int (((63 : Int32) - r) - (8 : Int32))), .val (.int ((((t.toUInt64 >>> ((((63 : Int32) - r) - (8 : Int32)) &&& 0x3f).toInt64.toUInt64).toInt64).toInt32) - (256 : Int32)))] [(.int ((512 : Int32) + ((((63 : Int32) - r) - (9 : Int32)) * (256 : Int32))))]))
    refine own_go (fun _ own_k => XS.iload X1.here hx rfl (hb hby dB_46) rfl own_k) ?_
    show own_Goes p e below (own_End s below _ _) (T1.setTop (mkF m 48 #[.val (.long t), .second, .val (.int ((63 : Int32) - r)), .val (.int (((63 : Int32) - r) - (8 : Int32))), .val (.int ((((t.toUInt64 >>> ((((63 : Int32) - r) - (8 : Int32)) &&& 0x3f).toInt64.toUInt64).toInt64).toInt32) - (256 : Int32)))] [(.int ((((t.toUInt64 >>> ((((63 : Int32) - r) - (8 : Int32)) &&& 0x3f).toInt64.toUInt64).toInt64).toInt32) - (256 : Int32))), (.int ((512 : Int32) + ((((63 : Int32) - r) - (9 : Int32)) * (256 : Int32))))]))
    refine own_go (fun _ own_k => XS.iadd X1.here hx rfl (hb hby dB_48) rfl own_k) ?_
    show own_Goes p e below (own_End s below _ _) (T1.setTop (mkF m 49 #[.val (.long t), .second, .val (.int ((63 : Int32) - r)), .val (.int (((63 : Int32) - r) - (8 : Int32))), .val (.int ((((t.toUInt64 >>> ((((63 : Int32) - r) - (8 : Int32)) &&& 0x3f).toInt64.toUInt64).toInt64).toInt32) - (256 : Int32)))] [(.int (((512 : Int32) + ((((63 : Int32) - r) - (9 : Int32)) * (256 : Int32))) + ((((t.toUInt64 >>> ((((63 : Int32) - r) - (8 : Int32)) &&& 0x3f).toInt64.toUInt64).toInt64).toInt32) - (256 : Int32))))]))
    exact own_retI X1 hx Bd.notSynchronized Bd.returns (hb hby dB_49) ⟨own_bk t r, rfl, own_bk_b q' hr, eT1, rfl⟩ (by decide) (by decide)
def own_H (Z : State) (h : Heap) (a b : Addr) (f : Nat → Int64) (cnt sm : Int64) : Prop :=
  Exa Z h a "com/example/holdfast/holdfast/cli/LatencyHistogram" ∧ Fld Z h a "com/example/holdfast/holdfast/cli/LatencyHistogram" "counts" "[J" (.ref b) ∧ (∃ cl : Cell, Arr Z h b cl .long ∧ cl.slots.size = 14336 ∧ ∀ i, i < 14336 → cl.slots[i]? = some (.long (f i))) ∧ Fld Z h a "com/example/holdfast/holdfast/cli/LatencyHistogram" "count" "J" (.long cnt) ∧ Fld Z h a "com/example/holdfast/holdfast/cli/LatencyHistogram" "sum" "J" (.long sm)
section OwnH
variable {Z : State} {h h' : Heap} {a b : Addr} {f : Nat → Int64} {cnt sm : Int64} {a0 : Array Value} {ws : List Addr}
theorem own_H_ne (hw : ∀ d ∈ tables_1, d.before a0 Z = true) (H : own_H Z h a b f cnt sm) : a ≠ b := by
  obtain ⟨E, -, ⟨cl, A, -⟩, -⟩ := H
  exact ne_arr E (hw _ (List.mem_of_getElem? (i := 1) rfl)) A
theorem own_H_lt (H : own_H Z h a b f cnt sm) : a < h.size ∧ b < h.size := by
  obtain ⟨E, -, ⟨cl, A, -⟩, -⟩ := H
  exact ⟨E.lt, A.lt⟩
theorem own_H_keep (H : own_H Z h a b f cnt sm) (K : Keep h h' ws) (qa : a ∉ ws) (qb : b ∉ ws) : own_H Z h' a b f cnt sm := by
  obtain ⟨E, F, ⟨cl, A, r⟩, G, I⟩ := H
  exact ⟨E.keep K, F.keep K qa, ⟨cl, ⟨K.2.1 b cl A.1 qb, A.2⟩, r⟩, G.keep K qa, I.keep K qa⟩
theorem own_H_arr (hw : ∀ d ∈ tables_1, d.before a0 Z = true) (H : own_H Z h a b f cnt sm) {j : Nat} {v : Int64} (hj : j < 14336) (W : Wr h h' b j (.long v)) : own_H Z h' a b (fun i => if i = j then v else f i) cnt sm := by
  have ne := own_H_ne hw H
  obtain ⟨E, F, ⟨cl, A, S, V⟩, G, I⟩ := H
  refine ⟨E.wr W, F.other W (Or.inl ne), ⟨_, A.same W, by rw [sz_set]; exact S, fun i hi => ?_⟩, G.other W (Or.inl ne), I.other W (Or.inl ne)⟩
  rw [own_set_get (by omega)]
  show _ = some (Value.long (if i = j then v else f i))
  by_cases q : i = j
  · rw [if_pos q, if_pos q]
  · rw [if_neg q, if_neg q]; exact V i hi
theorem own_H_cnt (hw : ∀ d ∈ tables_1, d.before a0 Z = true) (H : own_H Z h a b f cnt sm) {v : Int64} (W : Wr h h' a (Jvm.RoadKit.slotOf Z "com/example/holdfast/holdfast/cli/LatencyHistogram" "count" "J") (.long v)) : own_H Z h' a b f v sm := by
  have ne := own_H_ne hw H
  obtain ⟨E, F, ⟨cl, A, S, V⟩, G, I⟩ := H
  exact ⟨E.wr W, F.other W (Or.inr (Jvm.RoadKit.slot_ne (C := "com/example/holdfast/holdfast/cli/LatencyHistogram") (Or.inr (hw _ (List.mem_of_getElem? (i := 11) rfl))) (Or.inl (hw _ (List.mem_of_getElem? (i := 18) rfl))) (by decide) (t := .array .long) (t' := .long) (by decide) (by decide))), ⟨cl, A.other W ne.symm, S, V⟩, G.same W, I.other W (Or.inr (Jvm.RoadKit.slot_ne (C := "com/example/holdfast/holdfast/cli/LatencyHistogram") (Or.inl (hw _ (List.mem_of_getElem? (i := 54) rfl))) (Or.inl (hw _ (List.mem_of_getElem? (i := 18) rfl))) (by decide) (t := .long) (t' := .long) (by decide) (by decide)))⟩
theorem own_H_sum (hw : ∀ d ∈ tables_1, d.before a0 Z = true) (H : own_H Z h a b f cnt sm) {v : Int64} (W : Wr h h' a (Jvm.RoadKit.slotOf Z "com/example/holdfast/holdfast/cli/LatencyHistogram" "sum" "J") (.long v)) : own_H Z h' a b f cnt v := by
  have ne := own_H_ne hw H
  obtain ⟨E, F, ⟨cl, A, S, V⟩, G, I⟩ := H
  exact ⟨E.wr W, F.other W (Or.inr (Jvm.RoadKit.slot_ne (C := "com/example/holdfast/holdfast/cli/LatencyHistogram") (Or.inr (hw _ (List.mem_of_getElem? (i := 11) rfl))) (Or.inl (hw _ (List.mem_of_getElem? (i := 54) rfl))) (by decide) (t := .array .long) (t' := .long) (by decide) (by decide))), ⟨cl, A.other W ne.symm, S, V⟩, G.other W (Or.inr (Jvm.RoadKit.slot_ne (C := "com/example/holdfast/holdfast/cli/LatencyHistogram") (Or.inl (hw _ (List.mem_of_getElem? (i := 18) rfl))) (Or.inl (hw _ (List.mem_of_getElem? (i := 54) rfl))) (by decide) (t := .long) (t' := .long) (by decide) (by decide))), I.same W⟩
end OwnH
def own_QI (Z : State) (h0 : Heap) (n0 : Nat) (a : Addr) (v : Option Value) (h : Heap) (L : List Loc) : Prop := v = none ∧ Fr n0 L ∧ Keep h0 h [a] ∧ ∃ b, h0.size ≤ b ∧ own_H Z h a b (fun _ => 0) 0 0
theorem own_new_get (cA : ClassId) {i : Nat} (hi : i < 14336) : (newA cA .long (14336 : Int32)).slots[i]? = some (.long 0) := by
  have e : (14336 : Int32).toNatClampNeg = 14336 := by decide
  simp only [newA, e]
  rw [Array.getElem?_replicate, if_pos hi] <;> rfl
set_option maxRecDepth 65536 in
set_option maxHeartbeats 40000000 in
theorem own_ini (l : Launch) (Z : State) (a0 : Array Value) (hw : ∀ d ∈ tables_1, d.before a0 Z = true) (h0 : Heap) (n0 : Nat) (a : Addr) (Z0 : n0 ≤ h0.size) (ga : n0 ≤ a) (EE : Exa Z h0 a "com/example/holdfast/holdfast/cli/LatencyHistogram") (F0 : Fld Z h0 a "com/example/holdfast/holdfast/cli/LatencyHistogram" "counts" "[J" .null) (F1 : Fld Z h0 a "com/example/holdfast/holdfast/cli/LatencyHistogram" "count" "J" (.long 0)) (F2 : Fld Z h0 a "com/example/holdfast/holdfast/cli/LatencyHistogram" "sum" "J" (.long 0)) : own_Met l Z own_iniN prog_36_method_1_code 1 none ({ frames := 1, cells := 1, slots := 14336, locals := 12 } : Room) [] #[(.ref a)] h0 (own_QI Z h0 n0 a) := by
  refine own_met (plainFor_of_name pn_H) ?_
  intro p e s m below meth c s₁ Bd hml hZ e0
  have hx := Bd.exec
  have hby := Bd.bytes
  have hown : s.vm.findClass "com/example/holdfast/holdfast/cli/LatencyHistogram" = some m.cls := findClass_of_methodNamed Bd.named
  have hnm := (name_of_methodNamed Bd.named Bd.method).1
  have X0 : Stand p l e ({ frames := 1, cells := 1, slots := 14336, locals := 12 } : Room) s m #[(.ref a)] below meth c s₁ [] 0 0 := Stand.of_body Bd
  rw [ef_I]
  show own_Goes p e below (own_End s below _ _) (s₁.setTop (mkF m 0 #[.val (.ref a)] []))
  refine own_go (fun _ own_k => XS.aloadN X0.here hx rfl (hb hby dI_0) rfl rfl own_k) ?_
  show own_Goes p e below (own_End s below _ _) (s₁.setTop (mkF m 1 #[.val (.ref a)] [(.ref a)]))
  obtain ⟨T1, X1, e1, st1⟩ := initO X0 hx hZ hown (hw _ (List.mem_of_getElem? (i := 6) rfl)) (hw _ (List.mem_of_getElem? (i := 7) rfl)) (hw _ (List.mem_of_getElem? (i := 8) rfl)) e0 (g := (mkF m 1 #[.val (.ref a)] [(.ref a)])) rfl (by rw [hml]; rfl) rfl (hb hby dI_1) (by decide) (W := 0) (by show 2 * 0 + _ ≤ _; exact Nat.le_of_eq rfl) (by decide)
  refine own_go st1 ?_
  show own_Goes p e below (own_End s below _ _) (T1.setTop (mkF m 4 #[.val (.ref a)] []))
  refine own_go (fun _ own_k => XS.aloadN X1.here hx rfl (hb hby dI_4) rfl rfl own_k) ?_
  show own_Goes p e below (own_End s below _ _) (T1.setTop (mkF m 5 #[.val (.ref a)] [(.ref a)]))
  refine own_go (fun _ own_k => XS.sipush X1.here hx rfl (hb hby dI_5) own_k) ?_
  show own_Goes p e below (own_End s below _ _) (T1.setTop (mkF m 8 #[.val (.ref a)] [(.int (14336 : Int32)), (.ref a)]))
  obtain ⟨T2, h2, cA, X2, e2, E2, A2, st2⟩ := newP (aty := .long) X1 hx hZ (hw _ (List.mem_of_getElem? (i := 9) rfl)) e1 (g := (mkF m 8 #[.val (.ref a)] [(.int (14336 : Int32)), (.ref a)])) rfl (hb hby dI_8) rfl (by decide) (cap := 14336) (by decide) (by decide) (by decide) (by decide)
  obtain ⟨b, gb⟩ : ∃ z, z = h0.size := ⟨_, rfl⟩
  rw [← gb] at A2 st2
  have B2 : Arr Z h2 b (newA cA .long (14336 : Int32)) .long := A2
  refine own_go st2 ?_
  show own_Goes p e below (own_End s below _ _) (T2.setTop (mkF m 10 #[.val (.ref a)] [(.ref b), (.ref a)]))
  obtain ⟨T3, h3, X3, e3, W3, st3⟩ := putF X2 hx hZ hown (host := "") (Or.inl (hw _ (List.mem_of_getElem? (i := 10) rfl))) Via.refl e2 (F0.ext E2) (EE.ext E2) (Or.inr ⟨(hw _ (List.mem_of_getElem? (i := 11) rfl)), rfl, hnm⟩) (hw _ (List.mem_of_getElem? (i := 1) rfl)) (ty := .array .long) (by decide) rfl rfl (g := (mkF m 10 #[.val (.ref a)] [(.ref b), (.ref a)])) rfl rfl (hb hby dI_10)
  have N3 := Fr.snoc X3 (Fr.nil n0) ga
  refine own_go st3 ?_
  show own_Goes p e below (own_End s below _ _) (T3.setTop (mkF m 13 #[.val (.ref a)] []))
  have ne : a ≠ b := ne_arr (EE.ext E2) (hw _ (List.mem_of_getElem? (i := 1) rfl)) B2
  have K3 : Keep h0 h3 [a] := ((Keep.refl h0 [a]).ext E2).wr W3 (Or.inl (List.mem_of_getElem? (i := 0) rfl))
  have H3 : own_H Z h3 a b (fun _ => 0) 0 0 := ⟨(EE.ext E2).wr W3, (F0.ext E2).same W3, ⟨_, B2.other W3 ne.symm, by rw [sz_new]; decide, fun i hi => own_new_get cA hi⟩, (F1.ext E2).other W3 (Or.inr (Jvm.RoadKit.slot_ne (C := "com/example/holdfast/holdfast/cli/LatencyHistogram") (Or.inl (hw _ (List.mem_of_getElem? (i := 18) rfl))) (Or.inr (hw _ (List.mem_of_getElem? (i := 11) rfl))) (by decide) (t := .long) (t' := .array .long) (by decide) (by decide))), (F2.ext E2).other W3 (Or.inr (Jvm.RoadKit.slot_ne (C := "com/example/holdfast/holdfast/cli/LatencyHistogram") (Or.inl (hw _ (List.mem_of_getElem? (i := 54) rfl))) (Or.inr (hw _ (List.mem_of_getElem? (i := 11) rfl))) (by decide) (t := .long) (t' := .array .long) (by decide) (by decide)))⟩
  exact own_retV X3 hx Bd.notSynchronized Bd.returns (hb hby dI_13) (by rw [e3]; exact ⟨rfl, N3, K3, b, Nat.le_of_eq gb.symm, H3⟩) (by decide) (by decide)
def own_QR (Z : State) (h0 : Heap) (n0 : Nat) (a b : Addr) (f : Nat → Int64) (cnt sm x : Int64) (v : Option Value) (h : Heap) (L : List Loc) : Prop := v = none ∧ Fr n0 L ∧ Keep h0 h [a, b] ∧ ∃ k, k < 14336 ∧ own_H Z h a b (fun i => if i = k then f k + 1 else f i) (cnt + 1) (sm + own_maxJ 0 x)
theorem own_max_nn (x : Int64) : 0 ≤ (own_maxJ 0 x).toInt := by
  unfold own_maxJ
  by_cases q : (0 : Int64) < x
  · rw [if_pos q]; have := own_lt64.mp q; have e : (0 : Int64).toInt = 0 := by decide
    omega
  · rw [if_neg q]; decide
theorem own_inb {k : Int32} {n : Nat} (h : 0 ≤ k.toInt ∧ k.toInt < n) : ¬ (k < 0 ∨ n ≤ k.toNatClampNeg) := by
  have e : (0 : Int32).toInt = 0 := by decide
  rintro (q | q)
  · have := own_lt32.mp q; omega
  · rw [own_clamp] at q; omega
set_option maxRecDepth 65536 in
set_option maxHeartbeats 40000000 in
theorem own_rec (l : Launch) (Z : State) (a0 : Array Value) (hw : ∀ d ∈ tables_1, d.before a0 Z = true) (h0 : Heap) (n0 : Nat) (a b : Addr) (f : Nat → Int64) (cnt sm x : Int64) (ga : n0 ≤ a) (gb : n0 ≤ b) (H : own_H Z h0 a b f cnt sm) : own_Met l Z own_recN prog_36_method_2_code 5 none ({ frames := 3, cells := 0, slots := 0, locals := 46 } : Room) [] #[(.ref a), (.long x)] h0 (own_QR Z h0 n0 a b f cnt sm x) := by
  refine own_met (plainFor_of_name pn_H) ?_
  intro p e s m below meth c s₁ Bd hml hZ e0
  have hx := Bd.exec
  have hby := Bd.bytes
  have hown : s.vm.findClass "com/example/holdfast/holdfast/cli/LatencyHistogram" = some m.cls := findClass_of_methodNamed Bd.named
  have hnm := (name_of_methodNamed Bd.named Bd.method).1
  have X0 : Stand p l e ({ frames := 3, cells := 0, slots := 0, locals := 46 } : Room) s m #[(.ref a), (.long x)] below meth c s₁ [] 0 0 := Stand.of_body Bd
  rw [ef_R]
  show own_Goes p e below (own_End s below _ _) (s₁.setTop (mkF m 0 #[.val (.ref a), .val (.long x), .second, .unset, .unset] []))
  refine own_go (fun _ own_k => XS.lconst X0.here hx rfl (hb hby dR_0) own_k) ?_
  show own_Goes p e below (own_End s below _ _) (s₁.setTop (mkF m 1 #[.val (.ref a), .val (.long x), .second, .unset, .unset] [(.long (0 : Int64))]))
  refine own_go (fun _ own_k => XS.lloadN X0.here hx rfl (hb hby dR_1) rfl own_k) ?_
  show own_Goes p e below (own_End s below _ _) (s₁.setTop (mkF m 2 #[.val (.ref a), .val (.long x), .second, .unset, .unset] [(.long x), (.long (0 : Int64))]))
  obtain ⟨T1, X1, e1, st1⟩ := own_callP X0 hx hZ (y := own_maxN) hown (hw _ (List.mem_of_getElem? (i := 61) rfl)) (hw _ (List.mem_of_getElem? (i := 62) rfl)) (hw _ (List.mem_of_getElem? (i := 21) rfl)) (hw _ (List.mem_of_getElem? (i := 63) rfl)) (by decide) (own_max l Z a0 hw h0 0 x) e0 (W := 0) (by decide) (by decide) (g := (mkF m 2 #[.val (.ref a), .val (.long x), .second, .unset, .unset] [(.long x), (.long (0 : Int64))])) rfl (by rw [hml]; rfl) (argsL := [(.long (0 : Int64)), (.long x)]) (rest := []) pd_JJJ rfl rfl (by show 2 * 0 + _ ≤ _; exact Nat.le_of_eq rfl) (hb hby dR_2) rfl (by decide) (by decide)
  refine own_go st1 ?_
  show own_Goes p e below (own_End s below _ _) (T1.setTop (mkF m 5 #[.val (.ref a), .val (.long x), .second, .unset, .unset] [(.long (own_maxJ (0 : Int64) x))]))
  refine own_go (fun _ own_k => XS.lstoreN X1.here hx rfl (hb hby dR_5) rfl (l' := #[.val (.ref a), .val (.long x), .second, .val (.long (own_maxJ (0 : Int64) x)), .second]) rfl own_k) ?_
  show own_Goes p e below (own_End s below _ _) (T1.setTop (mkF m 6 #[.val (.ref a), .val (.long x), .second, .val (.long (own_maxJ (0 : Int64) x)), .second] []))
  refine own_go (fun _ own_k => XS.aloadN X1.here hx rfl (hb hby dR_6) rfl rfl own_k) ?_
  show own_Goes p e below (own_End s below _ _) (T1.setTop (mkF m 7 #[.val (.ref a), .val (.long x), .second, .val (.long (own_maxJ (0 : Int64) x)), .second] [(.ref a)]))
  obtain ⟨E0, F0, ⟨cl, A0, S0, V0⟩, F1, F2⟩ := id H
  obtain ⟨T2, X2, e2, st2⟩ := getF X1 hx hZ hown (host := "") (Or.inl (hw _ (List.mem_of_getElem? (i := 10) rfl))) Via.refl e1 F0 (g := (mkF m 7 #[.val (.ref a), .val (.long x), .second, .val (.long (own_maxJ (0 : Int64) x)), .second] [(.ref a)])) rfl rfl (hb hby dR_7)
  refine own_go st2 ?_
  show own_Goes p e below (own_End s below _ _) (T2.setTop (mkF m 10 #[.val (.ref a), .val (.long x), .second, .val (.long (own_maxJ (0 : Int64) x)), .second] [(.ref b)]))
  refine own_go (fun _ own_k => XS.lloadN X2.here hx rfl (hb hby dR_10) rfl own_k) ?_
  show own_Goes p e below (own_End s below _ _) (T2.setTop (mkF m 11 #[.val (.ref a), .val (.long x), .second, .val (.long (own_maxJ (0 : Int64) x)), .second] [(.long (own_maxJ (0 : Int64) x)), (.ref b)]))
  obtain ⟨vT3, T3, LT3, X3, hQT3, st3⟩ := own_callS X2 hx hZ (y := own_bucN) hown (hw _ (List.mem_of_getElem? (i := 64) rfl)) (hw _ (List.mem_of_getElem? (i := 65) rfl)) (hw _ (List.mem_of_getElem? (i := 2) rfl)) (hw _ (List.mem_of_getElem? (i := 66) rfl)) (by decide) (own_buc l Z a0 hw h0 _ (own_max_nn x)) e2 (W := 1) (by decide) (by decide) (g := (mkF m 11 #[.val (.ref a), .val (.long x), .second, .val (.long (own_maxJ (0 : Int64) x)), .second] [(.long (own_maxJ (0 : Int64) x)), (.ref b)])) rfl (by rw [hml]; rfl) (argsL := [(.long (own_maxJ (0 : Int64) x))]) (rest := [(.ref b)]) pd_JI rfl rfl (by show 2 * 0 + _ ≤ _; exact Nat.le_of_eq rfl) (hb hby dR_11) rfl (by decide) (by decide)
  obtain ⟨k, rfl, hk, e3, rfl⟩ := hQT3
  rw [List.append_nil] at X3
  have hk' : k.toNatClampNeg < 14336 := by rw [own_clamp]; omega
  have hin : ¬ (k < 0 ∨ cl.slots.size ≤ k.toNatClampNeg) := by rw [S0]; exact own_inb hk
  refine own_go st3 ?_
  show own_Goes p e below (own_End s below _ _) (T3.setTop (mkF m 14 #[.val (.ref a), .val (.long x), .second, .val (.long (own_maxJ (0 : Int64) x)), .second] [(.int k), (.ref b)]))
  refine own_go (fun _ own_k => XT.dup2 X3.here hx rfl (hb hby dR_14) rfl rfl rfl own_k) ?_
  show own_Goes p e below (own_End s below _ _) (T3.setTop (mkF m 15 #[.val (.ref a), .val (.long x), .second, .val (.long (own_maxJ (0 : Int64) x)), .second] [(.int k), (.ref b), (.int k), (.ref b)]))
  refine own_go (own_lal X3 hx hZ e3 A0 hin (V0 _ hk') (g := (mkF m 15 #[.val (.ref a), .val (.long x), .second, .val (.long (own_maxJ (0 : Int64) x)), .second] [(.int k), (.ref b), (.int k), (.ref b)])) rfl rfl (hb hby dR_15)) ?_
  show own_Goes p e below (own_End s below _ _) (T3.setTop (mkF m 16 #[.val (.ref a), .val (.long x), .second, .val (.long (own_maxJ (0 : Int64) x)), .second] [(.long (f k.toNatClampNeg)), (.int k), (.ref b)]))
  refine own_go (fun _ own_k => XS.lconst X3.here hx rfl (hb hby dR_16) own_k) ?_
  show own_Goes p e below (own_End s below _ _) (T3.setTop (mkF m 17 #[.val (.ref a), .val (.long x), .second, .val (.long (own_maxJ (0 : Int64) x)), .second] [(.long (1 : Int64)), (.long (f k.toNatClampNeg)), (.int k), (.ref b)]))
  refine own_go (fun _ own_k => XS.ladd X3.here hx rfl (hb hby dR_17) rfl own_k) ?_
  show own_Goes p e below (own_End s below _ _) (T3.setTop (mkF m 18 #[.val (.ref a), .val (.long x), .second, .val (.long (own_maxJ (0 : Int64) x)), .second] [(.long ((f k.toNatClampNeg) + (1 : Int64))), (.int k), (.ref b)]))
  obtain ⟨T4, h4, X4, e4, W4, st4⟩ := stJ X3 hx hZ e3 A0 hin (g := (mkF m 18 #[.val (.ref a), .val (.long x), .second, .val (.long (own_maxJ (0 : Int64) x)), .second] [(.long ((f k.toNatClampNeg) + (1 : Int64))), (.int k), (.ref b)])) rfl rfl (hb hby dR_18)
  have N4 := Fr.snoc X4 (Fr.nil n0) gb
  have H4 := own_H_arr hw H hk' W4
  have K4 : Keep h0 h4 [a, b] := (Keep.refl h0 [a, b]).wr W4 (Or.inl (List.mem_of_getElem? (i := 1) rfl))
  refine own_go st4 ?_
  show own_Goes p e below (own_End s below _ _) (T4.setTop (mkF m 19 #[.val (.ref a), .val (.long x), .second, .val (.long (own_maxJ (0 : Int64) x)), .second] []))
  refine own_go (fun _ own_k => XS.aloadN X4.here hx rfl (hb hby dR_19) rfl rfl own_k) ?_
  show own_Goes p e below (own_End s below _ _) (T4.setTop (mkF m 20 #[.val (.ref a), .val (.long x), .second, .val (.long (own_maxJ (0 : Int64) x)), .second] [(.ref a)]))
  refine own_go (fun _ own_k => XS.dup X4.here hx rfl (hb hby dR_20) rfl rfl own_k) ?_
  show own_Goes p e below (own_End s below _ _) (T4.setTop (mkF m 21 #[.val (.ref a), .val (.long x), .second, .val (.long (own_maxJ (0 : Int64) x)), .second] [(.ref a), (.ref a)]))
  obtain ⟨T5, X5, e5, st5⟩ := getF X4 hx hZ hown (host := "") (Or.inl (hw _ (List.mem_of_getElem? (i := 17) rfl))) Via.refl e4 H4.2.2.2.1 (g := (mkF m 21 #[.val (.ref a), .val (.long x), .second, .val (.long (own_maxJ (0 : Int64) x)), .second] [(.ref a), (.ref a)])) rfl rfl (hb hby dR_21)
  refine own_go st5 ?_
  show own_Goes p e below (own_End s below _ _) (T5.setTop (mkF m 24 #[.val (.ref a), .val (.long x), .second, .val (.long (own_maxJ (0 : Int64) x)), .second] [(.long cnt), (.ref a)]))
  refine own_go (fun _ own_k => XS.lconst X5.here hx rfl (hb hby dR_24) own_k) ?_
  show own_Goes p e below (own_End s below _ _) (T5.setTop (mkF m 25 #[.val (.ref a), .val (.long x), .second, .val (.long (own_maxJ (0 : Int64) x)), .second] [(.long (1 : Int64)), (.long cnt), (.ref a)]))
  refine own_go (fun _ own_k => XS.ladd X5.here hx rfl (hb hby dR_25) rfl own_k) ?_
  show own_Goes p e below (own_End s below _ _) (T5.setTop (mkF m 26 #[.val (.ref a), .val (.long x), .second, .val (.long (own_maxJ (0 : Int64) x)), .second] [(.long (cnt + (1 : Int64))), (.ref a)]))
  obtain ⟨T6, h6, X6, e6, W6, st6⟩ := putF X5 hx hZ hown (host := "") (Or.inl (hw _ (List.mem_of_getElem? (i := 17) rfl))) Via.refl e5 H4.2.2.2.1 H4.1 (Or.inl (hw _ (List.mem_of_getElem? (i := 18) rfl))) (hw _ (List.mem_of_getElem? (i := 1) rfl)) (ty := .long) (by decide) rfl rfl (g := (mkF m 26 #[.val (.ref a), .val (.long x), .second, .val (.long (own_maxJ (0 : Int64) x)), .second] [(.long (cnt + (1 : Int64))), (.ref a)])) rfl rfl (hb hby dR_26)
  have H6 := own_H_cnt hw H4 W6
  refine own_go st6 ?_
  show own_Goes p e below (own_End s below _ _) (T6.setTop (mkF m 29 #[.val (.ref a), .val (.long x), .second, .val (.long (own_maxJ (0 : Int64) x)), .second] []))
  have N6 := Fr.snoc X6 N4 ga
  have K6 := K4.wr W6 (Or.inl (List.mem_of_getElem? (i := 0) rfl))
  refine own_go (fun _ own_k => XS.aloadN X6.here hx rfl (hb hby dR_29) rfl rfl own_k) ?_
  show own_Goes p e below (own_End s below _ _) (T6.setTop (mkF m 30 #[.val (.ref a), .val (.long x), .second, .val (.long (own_maxJ (0 : Int64) x)), .second] [(.ref a)]))
  refine own_go (fun _ own_k => XS.dup X6.here hx rfl (hb hby dR_30) rfl rfl own_k) ?_
  show own_Goes p e below (own_End s below _ _) (T6.setTop (mkF m 31 #[.val (.ref a), .val (.long x), .second, .val (.long (own_maxJ (0 : Int64) x)), .second] [(.ref a), (.ref a)]))
  obtain ⟨T7, X7, e7, st7⟩ := getF X6 hx hZ hown (host := "") (Or.inl (hw _ (List.mem_of_getElem? (i := 53) rfl))) Via.refl e6 H6.2.2.2.2 (g := (mkF m 31 #[.val (.ref a), .val (.long x), .second, .val (.long (own_maxJ (0 : Int64) x)), .second] [(.ref a), (.ref a)])) rfl rfl (hb hby dR_31)
  refine own_go st7 ?_
  show own_Goes p e below (own_End s below _ _) (T7.setTop (mkF m 34 #[.val (.ref a), .val (.long x), .second, .val (.long (own_maxJ (0 : Int64) x)), .second] [(.long sm), (.ref a)]))
  refine own_go (fun _ own_k => XS.lloadN X7.here hx rfl (hb hby dR_34) rfl own_k) ?_
  show own_Goes p e below (own_End s below _ _) (T7.setTop (mkF m 35 #[.val (.ref a), .val (.long x), .second, .val (.long (own_maxJ (0 : Int64) x)), .second] [(.long (own_maxJ (0 : Int64) x)), (.long sm), (.ref a)]))
  refine own_go (fun _ own_k => XS.ladd X7.here hx rfl (hb hby dR_35) rfl own_k) ?_
  show own_Goes p e below (own_End s below _ _) (T7.setTop (mkF m 36 #[.val (.ref a), .val (.long x), .second, .val (.long (own_maxJ (0 : Int64) x)), .second] [(.long (sm + (own_maxJ (0 : Int64) x))), (.ref a)]))
  obtain ⟨T8, h8, X8, e8, W8, st8⟩ := putF X7 hx hZ hown (host := "") (Or.inl (hw _ (List.mem_of_getElem? (i := 53) rfl))) Via.refl e7 H6.2.2.2.2 H6.1 (Or.inl (hw _ (List.mem_of_getElem? (i := 54) rfl))) (hw _ (List.mem_of_getElem? (i := 1) rfl)) (ty := .long) (by decide) rfl rfl (g := (mkF m 36 #[.val (.ref a), .val (.long x), .second, .val (.long (own_maxJ (0 : Int64) x)), .second] [(.long (sm + (own_maxJ (0 : Int64) x))), (.ref a)])) rfl rfl (hb hby dR_36)
  have H8 := own_H_sum hw H6 W8
  refine own_go st8 ?_
  show own_Goes p e below (own_End s below _ _) (T8.setTop (mkF m 39 #[.val (.ref a), .val (.long x), .second, .val (.long (own_maxJ (0 : Int64) x)), .second] []))
  have N8 := Fr.snoc X8 N6 ga
  have K8 := K6.wr W8 (Or.inl (List.mem_of_getElem? (i := 0) rfl))
  exact own_retV X8 hx Bd.notSynchronized Bd.returns (hb hby dR_39) (by rw [e8]; exact ⟨rfl, N8, K8, _, hk', H8⟩) (by decide) (by decide)
def own_mean (cnt sm : Int64) : UInt64 := if cnt = 0 then FP.dconst0 else FP.ddiv (FP.l2d sm) (FP.l2d cnt)
theorem own_l2d_nz {v : Int64} (h : v ≠ 0) : Nz64 (FP.l2d v) := by
  have := l2d_big h
  rw [nz64_iff]
  unfold Big64 at this
  omega
theorem own_div_nn (s : Int64) {v : Int64} (h : v ≠ 0) : NoNaN64 (FP.ddiv (FP.l2d s) (FP.l2d v)) := ddiv_out (l2d_fin s).noNaN (l2d_fin v) (own_l2d_nz h)
set_option maxRecDepth 65536 in
set_option maxHeartbeats 40000000 in
theorem own_mea (l : Launch) (Z : State) (a0 : Array Value) (hw : ∀ d ∈ tables_1, d.before a0 Z = true) (h0 : Heap) (a b : Addr) (f : Nat → Int64) (cnt sm : Int64) (H : own_H Z h0 a b f cnt sm) : own_Met l Z own_meaN prog_36_method_4_code 1 (some .double) ({ frames := 0, cells := 0, slots := 0, locals := 0 } : Room) [] #[(.ref a)] h0 (own_Pure (some (.double (own_mean cnt sm))) h0) := by
  refine own_met (plainFor_of_name pn_H) ?_
  intro p e s m below meth c s₁ Bd hml hZ e0
  have hx := Bd.exec
  have hby := Bd.bytes
  have hown : s.vm.findClass "com/example/holdfast/holdfast/cli/LatencyHistogram" = some m.cls := findClass_of_methodNamed Bd.named
  have hnm := (name_of_methodNamed Bd.named Bd.method).1
  have X0 : Stand p l e ({ frames := 0, cells := 0, slots := 0, locals := 0 } : Room) s m #[(.ref a)] below meth c s₁ [] 0 0 := Stand.of_body Bd
  rw [ef_I]
  show own_Goes p e below (own_End s below _ _) (s₁.setTop (mkF m 0 #[.val (.ref a)] []))
  refine own_go (fun _ own_k => XS.aloadN X0.here hx rfl (hb hby dE_0) rfl rfl own_k) ?_
  show own_Goes p e below (own_End s below _ _) (s₁.setTop (mkF m 1 #[.val (.ref a)] [(.ref a)]))
  obtain ⟨T1, X1, e1, st1⟩ := getF X0 hx hZ hown (host := "") (Or.inl (hw _ (List.mem_of_getElem? (i := 17) rfl))) Via.refl e0 H.2.2.2.1 (g := (mkF m 1 #[.val (.ref a)] [(.ref a)])) rfl rfl (hb hby dE_1)
  refine own_go st1 ?_
  show own_Goes p e below (own_End s below _ _) (T1.setTop (mkF m 4 #[.val (.ref a)] [(.long cnt)]))
  refine own_go (fun _ own_k => XS.lconst X1.here hx rfl (hb hby dE_4) own_k) ?_
  show own_Goes p e below (own_End s below _ _) (T1.setTop (mkF m 5 #[.val (.ref a)] [(.long (0 : Int64)), (.long cnt)]))
  refine own_go (fun _ own_k => XS.lcmp X1.here hx rfl (hb hby dE_5) rfl own_k) ?_
  show own_Goes p e below (own_End s below _ _) (T1.setTop (mkF m 6 #[.val (.ref a)] [(.int (lcmpW cnt (0 : Int64)))]))
  by_cases q : cnt = 0
  · refine own_go (fun _ own_k => XS.ifNo X1.here hx rfl (hb hby dE_6) rfl (by rw [if0]; exact (teq ((lw_eq _ _).mpr q)).2) own_k) ?_
    show own_Goes p e below (own_End s below _ _) (T1.setTop (mkF m 9 #[.val (.ref a)] []))
    refine own_go (fun _ own_k => XS.dconst0 X1.here hx rfl (hb hby dE_9) rfl own_k) ?_
    show own_Goes p e below (own_End s below _ _) (T1.setTop (mkF m 10 #[.val (.ref a)] [(.double FP.dconst0)]))
    refine own_go (fun _ own_k => XS.goto X1.here hx rfl (pc0 := 10) (pc' := 24) rfl (hb hby dE_10) (by decide) (by decide) own_k) ?_
    show own_Goes p e below (own_End s below _ _) (T1.setTop (mkF m 24 #[.val (.ref a)] [(.double FP.dconst0)]))
    exact own_retD X1 hx Bd.notSynchronized Bd.returns (hb hby dE_24) ⟨by rw [own_mean, if_pos q], e1, rfl⟩ (by decide) (by decide)
  · refine own_go (fun _ own_k => XS.ifYes X1.here hx rfl (pc0 := 6) (pc' := 13) rfl (hb hby dE_6) rfl (by rw [if0]; exact (feq (fun z => q ((lw_eq _ _).mp z))).2) (by decide) (by decide) own_k) ?_
    show own_Goes p e below (own_End s below _ _) (T1.setTop (mkF m 13 #[.val (.ref a)] []))
    refine own_go (fun _ own_k => XS.aloadN X1.here hx rfl (hb hby dE_13) rfl rfl own_k) ?_
    show own_Goes p e below (own_End s below _ _) (T1.setTop (mkF m 14 #[.val (.ref a)] [(.ref a)]))
    obtain ⟨T2, X2, e2, st2⟩ := getF X1 hx hZ hown (host := "") (Or.inl (hw _ (List.mem_of_getElem? (i := 53) rfl))) Via.refl e1 H.2.2.2.2 (g := (mkF m 14 #[.val (.ref a)] [(.ref a)])) rfl rfl (hb hby dE_14)
    refine own_go st2 ?_
    show own_Goes p e below (own_End s below _ _) (T2.setTop (mkF m 17 #[.val (.ref a)] [(.long sm)]))
    refine own_go (fun _ own_k => XS.l2dS X2.here hx rfl (hb hby dE_17) rfl rfl own_k) ?_
    show own_Goes p e below (own_End s below _ _) (T2.setTop (mkF m 18 #[.val (.ref a)] [(.double (FP.l2d sm))]))
    refine own_go (fun _ own_k => XS.aloadN X2.here hx rfl (hb hby dE_18) rfl rfl own_k) ?_
    show own_Goes p e below (own_End s below _ _) (T2.setTop (mkF m 19 #[.val (.ref a)] [(.ref a), (.double (FP.l2d sm))]))
    obtain ⟨T3, X3, e3, st3⟩ := getF X2 hx hZ hown (host := "") (Or.inl (hw _ (List.mem_of_getElem? (i := 17) rfl))) Via.refl e2 H.2.2.2.1 (g := (mkF m 19 #[.val (.ref a)] [(.ref a), (.double (FP.l2d sm))])) rfl rfl (hb hby dE_19)
    refine own_go st3 ?_
    show own_Goes p e below (own_End s below _ _) (T3.setTop (mkF m 22 #[.val (.ref a)] [(.long cnt), (.double (FP.l2d sm))]))
    refine own_go (fun _ own_k => XS.l2dS X3.here hx rfl (hb hby dE_22) rfl rfl own_k) ?_
    show own_Goes p e below (own_End s below _ _) (T3.setTop (mkF m 23 #[.val (.ref a)] [(.double (FP.l2d cnt)), (.double (FP.l2d sm))]))
    refine own_go (fun _ own_k => XS.ddivS X3.here hx rfl (hb hby dE_23) rfl (own_div_nn sm q) rfl own_k) ?_
    show own_Goes p e below (own_End s below _ _) (T3.setTop (mkF m 24 #[.val (.ref a)] [(.double (FP.ddiv (FP.l2d sm) (FP.l2d cnt)))]))
    exact own_retD X3 hx Bd.notSynchronized Bd.returns (hb hby dE_24) ⟨by rw [own_mean, if_neg q], e3, rfl⟩ (by decide) (by decide)
theorem dP_0 : decode prog_36_method_5_code 0 = .ok (.dload_n 1, 1) := by decide +kernel
theorem dP_1 : decode prog_36_method_5_code 1 = .ok (.aload_n 0, 1) := by decide +kernel
theorem dP_2 : decode prog_36_method_5_code 2 = .ok (.getfield 25, 3) := by decide +kernel
theorem dP_5 : decode prog_36_method_5_code 5 = .ok (.l2d, 1) := by decide +kernel
theorem dP_6 : decode prog_36_method_5_code 6 = .ok (.dmul, 1) := by decide +kernel
theorem dP_7 : decode prog_36_method_5_code 7 = .ok (.invokestatic 32, 3) := by decide +kernel
theorem dP_10 : decode prog_36_method_5_code 10 = .ok (.d2l, 1) := by decide +kernel
theorem dP_11 : decode prog_36_method_5_code 11 = .ok (.lstore_n 3, 1) := by decide +kernel
theorem dP_12 : decode prog_36_method_5_code 12 = .ok (.lconst 0, 1) := by decide +kernel
theorem dP_13 : decode prog_36_method_5_code 13 = .ok (.lstore 5, 2) := by decide +kernel
theorem dP_15 : decode prog_36_method_5_code 15 = .ok (.iconst 0, 1) := by decide +kernel
theorem dP_16 : decode prog_36_method_5_code 16 = .ok (.istore 7, 2) := by decide +kernel
theorem dP_18 : decode prog_36_method_5_code 18 = .ok (.iload 7, 2) := by decide +kernel
theorem dP_20 : decode prog_36_method_5_code 20 = .ok (.aload_n 0, 1) := by decide +kernel
theorem dP_21 : decode prog_36_method_5_code 21 = .ok (.getfield 11, 3) := by decide +kernel
theorem dP_24 : decode prog_36_method_5_code 24 = .ok (.arraylength, 1) := by decide +kernel
theorem dP_25 : decode prog_36_method_5_code 25 = .ok (.if_icmp .ge 34, 3) := by decide +kernel
theorem dP_28 : decode prog_36_method_5_code 28 = .ok (.lload 5, 2) := by decide +kernel
theorem dP_30 : decode prog_36_method_5_code 30 = .ok (.aload_n 0, 1) := by decide +kernel
theorem dP_31 : decode prog_36_method_5_code 31 = .ok (.getfield 11, 3) := by decide +kernel
theorem dP_34 : decode prog_36_method_5_code 34 = .ok (.iload 7, 2) := by decide +kernel
theorem dP_36 : decode prog_36_method_5_code 36 = .ok (.laload, 1) := by decide +kernel
theorem dP_37 : decode prog_36_method_5_code 37 = .ok (.ladd, 1) := by decide +kernel
theorem dP_38 : decode prog_36_method_5_code 38 = .ok (.lstore 5, 2) := by decide +kernel
theorem dP_40 : decode prog_36_method_5_code 40 = .ok (.lload 5, 2) := by decide +kernel
theorem dP_42 : decode prog_36_method_5_code 42 = .ok (.lload_n 3, 1) := by decide +kernel
theorem dP_43 : decode prog_36_method_5_code 43 = .ok (.lcmp, 1) := by decide +kernel
theorem dP_44 : decode prog_36_method_5_code 44 = .ok (.ifCond .lt 9, 3) := by decide +kernel
theorem dP_47 : decode prog_36_method_5_code 47 = .ok (.iload 7, 2) := by decide +kernel
theorem dP_49 : decode prog_36_method_5_code 49 = .ok (.invokestatic 36, 3) := by decide +kernel
theorem dP_52 : decode prog_36_method_5_code 52 = .ok (.lreturn, 1) := by decide +kernel
theorem dP_53 : decode prog_36_method_5_code 53 = .ok (.iinc 7 1, 3) := by decide +kernel
theorem dP_56 : decode prog_36_method_5_code 56 = .ok (.goto (-38), 3) := by decide +kernel
theorem dP_59 : decode prog_36_method_5_code 59 = .ok (.lconst 0, 1) := by decide +kernel
theorem dP_60 : decode prog_36_method_5_code 60 = .ok (.lreturn, 1) := by decide +kernel
theorem dS_0 : decode jdk_128_method_16_code 0 = .ok (.dload_n 0, 1) := by decide +kernel
theorem dS_1 : decode jdk_128_method_16_code 1 = .ok (.ldc2_w 58, 3) := by decide +kernel
theorem dS_4 : decode jdk_128_method_16_code 4 = .ok (.dconst 1, 1) := by decide +kernel
theorem dS_5 : decode jdk_128_method_16_code 5 = .ok (.dconst 1, 1) := by decide +kernel
theorem dS_6 : decode jdk_128_method_16_code 6 = .ok (.invokestatic 60, 3) := by decide +kernel
theorem dS_9 : decode jdk_128_method_16_code 9 = .ok (.dreturn, 1) := by decide +kernel
theorem dF_0 : decode jdk_128_method_18_code 0 = .ok (.dload_n 0, 1) := by decide +kernel
theorem dF_1 : decode jdk_128_method_18_code 1 = .ok (.invokestatic 66, 3) := by decide +kernel
theorem dF_4 : decode jdk_128_method_18_code 4 = .ok (.istore 8, 2) := by decide +kernel
theorem dF_6 : decode jdk_128_method_18_code 6 = .ok (.iload 8, 2) := by decide +kernel
theorem dF_8 : decode jdk_128_method_18_code 8 = .ok (.ifCond .ge 26, 3) := by decide +kernel
theorem dF_11 : decode jdk_128_method_18_code 11 = .ok (.dload_n 0, 1) := by decide +kernel
theorem dF_12 : decode jdk_128_method_18_code 12 = .ok (.dconst 0, 1) := by decide +kernel
theorem dF_13 : decode jdk_128_method_18_code 13 = .ok (.dcmp .l, 1) := by decide +kernel
theorem dF_14 : decode jdk_128_method_18_code 14 = .ok (.ifCond .ne 7, 3) := by decide +kernel
theorem dF_17 : decode jdk_128_method_18_code 17 = .ok (.dload_n 0, 1) := by decide +kernel
theorem dF_18 : decode jdk_128_method_18_code 18 = .ok (.goto 15, 3) := by decide +kernel
theorem dF_21 : decode jdk_128_method_18_code 21 = .ok (.dload_n 0, 1) := by decide +kernel
theorem dF_22 : decode jdk_128_method_18_code 22 = .ok (.dconst 0, 1) := by decide +kernel
theorem dF_23 : decode jdk_128_method_18_code 23 = .ok (.dcmp .g, 1) := by decide +kernel
theorem dF_24 : decode jdk_128_method_18_code 24 = .ok (.ifCond .ge 7, 3) := by decide +kernel
theorem dF_27 : decode jdk_128_method_18_code 27 = .ok (.dload_n 2, 1) := by decide +kernel
theorem dF_28 : decode jdk_128_method_18_code 28 = .ok (.goto 5, 3) := by decide +kernel
theorem dF_31 : decode jdk_128_method_18_code 31 = .ok (.dload 4, 2) := by decide +kernel
theorem dF_33 : decode jdk_128_method_18_code 33 = .ok (.dreturn, 1) := by decide +kernel
theorem dF_34 : decode jdk_128_method_18_code 34 = .ok (.iload 8, 2) := by decide +kernel
theorem dF_36 : decode jdk_128_method_18_code 36 = .ok (.bipush 52, 2) := by decide +kernel
theorem dF_38 : decode jdk_128_method_18_code 38 = .ok (.if_icmp .lt 5, 3) := by decide +kernel
theorem dF_41 : decode jdk_128_method_18_code 41 = .ok (.dload_n 0, 1) := by decide +kernel
theorem dF_42 : decode jdk_128_method_18_code 42 = .ok (.dreturn, 1) := by decide +kernel
theorem dF_43 : decode jdk_128_method_18_code 43 = .ok (.getstatic 70, 3) := by decide +kernel
theorem dF_46 : decode jdk_128_method_18_code 46 = .ok (.ifCond .ne 23, 3) := by decide +kernel
theorem dF_49 : decode jdk_128_method_18_code 49 = .ok (.iload 8, 2) := by decide +kernel
theorem dF_51 : decode jdk_128_method_18_code 51 = .ok (.ifCond .lt 10, 3) := by decide +kernel
theorem dF_54 : decode jdk_128_method_18_code 54 = .ok (.iload 8, 2) := by decide +kernel
theorem dF_56 : decode jdk_128_method_18_code 56 = .ok (.bipush 51, 2) := by decide +kernel
theorem dF_58 : decode jdk_128_method_18_code 58 = .ok (.if_icmp .le 11, 3) := by decide +kernel
theorem dF_61 : decode jdk_128_method_18_code 61 = .ok (.new 74, 3) := by decide +kernel
theorem dF_64 : decode jdk_128_method_18_code 64 = .ok (.dup, 1) := by decide +kernel
theorem dF_65 : decode jdk_128_method_18_code 65 = .ok (.invokespecial 76, 3) := by decide +kernel
theorem dF_68 : decode jdk_128_method_18_code 68 = .ok (.athrow, 1) := by decide +kernel
theorem dF_69 : decode jdk_128_method_18_code 69 = .ok (.dload_n 0, 1) := by decide +kernel
theorem dF_70 : decode jdk_128_method_18_code 70 = .ok (.invokestatic 77, 3) := by decide +kernel
theorem dF_73 : decode jdk_128_method_18_code 73 = .ok (.lstore 9, 2) := by decide +kernel
theorem dF_75 : decode jdk_128_method_18_code 75 = .ok (.ldc2_w 85, 3) := by decide +kernel
theorem dF_78 : decode jdk_128_method_18_code 78 = .ok (.iload 8, 2) := by decide +kernel
theorem dF_80 : decode jdk_128_method_18_code 80 = .ok (.lshr, 1) := by decide +kernel
theorem dF_81 : decode jdk_128_method_18_code 81 = .ok (.lstore 11, 2) := by decide +kernel
theorem dF_83 : decode jdk_128_method_18_code 83 = .ok (.lload 11, 2) := by decide +kernel
theorem dF_85 : decode jdk_128_method_18_code 85 = .ok (.lload 9, 2) := by decide +kernel
theorem dF_87 : decode jdk_128_method_18_code 87 = .ok (.land, 1) := by decide +kernel
theorem dF_88 : decode jdk_128_method_18_code 88 = .ok (.lconst 0, 1) := by decide +kernel
theorem dF_89 : decode jdk_128_method_18_code 89 = .ok (.lcmp, 1) := by decide +kernel
theorem dF_90 : decode jdk_128_method_18_code 90 = .ok (.ifCond .ne 5, 3) := by decide +kernel
theorem dF_93 : decode jdk_128_method_18_code 93 = .ok (.dload_n 0, 1) := by decide +kernel
theorem dF_94 : decode jdk_128_method_18_code 94 = .ok (.dreturn, 1) := by decide +kernel
theorem dF_95 : decode jdk_128_method_18_code 95 = .ok (.lload 9, 2) := by decide +kernel
theorem dF_97 : decode jdk_128_method_18_code 97 = .ok (.lload 11, 2) := by decide +kernel
theorem dF_99 : decode jdk_128_method_18_code 99 = .ok (.ldc2_w 87, 3) := by decide +kernel
theorem dF_102 : decode jdk_128_method_18_code 102 = .ok (.lxor, 1) := by decide +kernel
theorem dF_103 : decode jdk_128_method_18_code 103 = .ok (.land, 1) := by decide +kernel
theorem dF_104 : decode jdk_128_method_18_code 104 = .ok (.invokestatic 89, 3) := by decide +kernel
theorem dF_107 : decode jdk_128_method_18_code 107 = .ok (.dstore 13, 2) := by decide +kernel
theorem dF_109 : decode jdk_128_method_18_code 109 = .ok (.dload 6, 2) := by decide +kernel
theorem dF_111 : decode jdk_128_method_18_code 111 = .ok (.dload_n 0, 1) := by decide +kernel
theorem dF_112 : decode jdk_128_method_18_code 112 = .ok (.dmul, 1) := by decide +kernel
theorem dF_113 : decode jdk_128_method_18_code 113 = .ok (.dconst 0, 1) := by decide +kernel
theorem dF_114 : decode jdk_128_method_18_code 114 = .ok (.dcmp .l, 1) := by decide +kernel
theorem dF_115 : decode jdk_128_method_18_code 115 = .ok (.ifCond .le 10, 3) := by decide +kernel
theorem dF_118 : decode jdk_128_method_18_code 118 = .ok (.dload 13, 2) := by decide +kernel
theorem dF_120 : decode jdk_128_method_18_code 120 = .ok (.dload 6, 2) := by decide +kernel
theorem dF_122 : decode jdk_128_method_18_code 122 = .ok (.dadd, 1) := by decide +kernel
theorem dF_123 : decode jdk_128_method_18_code 123 = .ok (.dstore 13, 2) := by decide +kernel
theorem dF_125 : decode jdk_128_method_18_code 125 = .ok (.dload 13, 2) := by decide +kernel
theorem dF_127 : decode jdk_128_method_18_code 127 = .ok (.dreturn, 1) := by decide +kernel
theorem dG_0 : decode jdk_29_method_92_code 0 = .ok (.dload_n 0, 1) := by decide +kernel
theorem dG_1 : decode jdk_29_method_92_code 1 = .ok (.invokestatic 79, 3) := by decide +kernel
theorem dG_4 : decode jdk_29_method_92_code 4 = .ok (.ldc2_w 87, 3) := by decide +kernel
theorem dG_7 : decode jdk_29_method_92_code 7 = .ok (.land, 1) := by decide +kernel
theorem dG_8 : decode jdk_29_method_92_code 8 = .ok (.bipush 52, 2) := by decide +kernel
theorem dG_10 : decode jdk_29_method_92_code 10 = .ok (.lshr, 1) := by decide +kernel
theorem dG_11 : decode jdk_29_method_92_code 11 = .ok (.ldc2_w 322, 3) := by decide +kernel
theorem dG_14 : decode jdk_29_method_92_code 14 = .ok (.lsub, 1) := by decide +kernel
theorem dG_15 : decode jdk_29_method_92_code 15 = .ok (.l2i, 1) := by decide +kernel
theorem dG_16 : decode jdk_29_method_92_code 16 = .ok (.ireturn, 1) := by decide +kernel
theorem dH_0 : decode prog_36_method_7_code 0 = .ok (.iload_n 0, 1) := by decide +kernel
theorem dH_1 : decode prog_36_method_7_code 1 = .ok (.sipush 512, 3) := by decide +kernel
theorem dH_4 : decode prog_36_method_7_code 4 = .ok (.if_icmp .ge 6, 3) := by decide +kernel
theorem dH_7 : decode prog_36_method_7_code 7 = .ok (.iload_n 0, 1) := by decide +kernel
theorem dH_8 : decode prog_36_method_7_code 8 = .ok (.i2l, 1) := by decide +kernel
theorem dH_9 : decode prog_36_method_7_code 9 = .ok (.lreturn, 1) := by decide +kernel
theorem dH_10 : decode prog_36_method_7_code 10 = .ok (.bipush 9, 2) := by decide +kernel
theorem dH_12 : decode prog_36_method_7_code 12 = .ok (.iload_n 0, 1) := by decide +kernel
theorem dH_13 : decode prog_36_method_7_code 13 = .ok (.sipush 512, 3) := by decide +kernel
theorem dH_16 : decode prog_36_method_7_code 16 = .ok (.isub, 1) := by decide +kernel
theorem dH_17 : decode prog_36_method_7_code 17 = .ok (.sipush 256, 3) := by decide +kernel
theorem dH_20 : decode prog_36_method_7_code 20 = .ok (.idiv, 1) := by decide +kernel
theorem dH_21 : decode prog_36_method_7_code 21 = .ok (.iadd, 1) := by decide +kernel
theorem dH_22 : decode prog_36_method_7_code 22 = .ok (.istore_n 1, 1) := by decide +kernel
theorem dH_23 : decode prog_36_method_7_code 23 = .ok (.iload_n 0, 1) := by decide +kernel
theorem dH_24 : decode prog_36_method_7_code 24 = .ok (.sipush 512, 3) := by decide +kernel
theorem dH_27 : decode prog_36_method_7_code 27 = .ok (.isub, 1) := by decide +kernel
theorem dH_28 : decode prog_36_method_7_code 28 = .ok (.sipush 256, 3) := by decide +kernel
theorem dH_31 : decode prog_36_method_7_code 31 = .ok (.irem, 1) := by decide +kernel
theorem dH_32 : decode prog_36_method_7_code 32 = .ok (.istore_n 2, 1) := by decide +kernel
theorem dH_33 : decode prog_36_method_7_code 33 = .ok (.iload_n 1, 1) := by decide +kernel
theorem dH_34 : decode prog_36_method_7_code 34 = .ok (.bipush 8, 2) := by decide +kernel
theorem dH_36 : decode prog_36_method_7_code 36 = .ok (.isub, 1) := by decide +kernel
theorem dH_37 : decode prog_36_method_7_code 37 = .ok (.istore_n 3, 1) := by decide +kernel
theorem dH_38 : decode prog_36_method_7_code 38 = .ok (.sipush 256, 3) := by decide +kernel
theorem dH_41 : decode prog_36_method_7_code 41 = .ok (.iload_n 2, 1) := by decide +kernel
theorem dH_42 : decode prog_36_method_7_code 42 = .ok (.iadd, 1) := by decide +kernel
theorem dH_43 : decode prog_36_method_7_code 43 = .ok (.iconst 1, 1) := by decide +kernel
theorem dH_44 : decode prog_36_method_7_code 44 = .ok (.iadd, 1) := by decide +kernel
theorem dH_45 : decode prog_36_method_7_code 45 = .ok (.i2l, 1) := by decide +kernel
theorem dH_46 : decode prog_36_method_7_code 46 = .ok (.iload_n 3, 1) := by decide +kernel
theorem dH_47 : decode prog_36_method_7_code 47 = .ok (.lshl, 1) := by decide +kernel
theorem dH_48 : decode prog_36_method_7_code 48 = .ok (.lconst 1, 1) := by decide +kernel
theorem dH_49 : decode prog_36_method_7_code 49 = .ok (.lsub, 1) := by decide +kernel
theorem dH_50 : decode prog_36_method_7_code 50 = .ok (.lreturn, 1) := by decide +kernel
theorem dA_0 : decode prog_36_method_3_code 0 = .ok (.iconst 0, 1) := by decide +kernel
theorem dA_1 : decode prog_36_method_3_code 1 = .ok (.istore_n 2, 1) := by decide +kernel
theorem dA_2 : decode prog_36_method_3_code 2 = .ok (.iload_n 2, 1) := by decide +kernel
theorem dA_3 : decode prog_36_method_3_code 3 = .ok (.aload_n 0, 1) := by decide +kernel
theorem dA_4 : decode prog_36_method_3_code 4 = .ok (.getfield 11, 3) := by decide +kernel
theorem dA_7 : decode prog_36_method_3_code 7 = .ok (.arraylength, 1) := by decide +kernel
theorem dA_8 : decode prog_36_method_3_code 8 = .ok (.if_icmp .ge 24, 3) := by decide +kernel
theorem dA_11 : decode prog_36_method_3_code 11 = .ok (.aload_n 0, 1) := by decide +kernel
theorem dA_12 : decode prog_36_method_3_code 12 = .ok (.getfield 11, 3) := by decide +kernel
theorem dA_15 : decode prog_36_method_3_code 15 = .ok (.iload_n 2, 1) := by decide +kernel
theorem dA_16 : decode prog_36_method_3_code 16 = .ok (.dup2, 1) := by decide +kernel
theorem dA_17 : decode prog_36_method_3_code 17 = .ok (.laload, 1) := by decide +kernel
theorem dA_18 : decode prog_36_method_3_code 18 = .ok (.aload_n 1, 1) := by decide +kernel
theorem dA_19 : decode prog_36_method_3_code 19 = .ok (.getfield 11, 3) := by decide +kernel
theorem dA_22 : decode prog_36_method_3_code 22 = .ok (.iload_n 2, 1) := by decide +kernel
theorem dA_23 : decode prog_36_method_3_code 23 = .ok (.laload, 1) := by decide +kernel
theorem dA_24 : decode prog_36_method_3_code 24 = .ok (.ladd, 1) := by decide +kernel
theorem dA_25 : decode prog_36_method_3_code 25 = .ok (.lastore, 1) := by decide +kernel
theorem dA_26 : decode prog_36_method_3_code 26 = .ok (.iinc 2 1, 3) := by decide +kernel
theorem dA_29 : decode prog_36_method_3_code 29 = .ok (.goto (-27), 3) := by decide +kernel
theorem dA_32 : decode prog_36_method_3_code 32 = .ok (.aload_n 0, 1) := by decide +kernel
theorem dA_33 : decode prog_36_method_3_code 33 = .ok (.dup, 1) := by decide +kernel
theorem dA_34 : decode prog_36_method_3_code 34 = .ok (.getfield 25, 3) := by decide +kernel
theorem dA_37 : decode prog_36_method_3_code 37 = .ok (.aload_n 1, 1) := by decide +kernel
theorem dA_38 : decode prog_36_method_3_code 38 = .ok (.getfield 25, 3) := by decide +kernel
theorem dA_41 : decode prog_36_method_3_code 41 = .ok (.ladd, 1) := by decide +kernel
theorem dA_42 : decode prog_36_method_3_code 42 = .ok (.putfield 25, 3) := by decide +kernel
theorem dA_45 : decode prog_36_method_3_code 45 = .ok (.aload_n 0, 1) := by decide +kernel
theorem dA_46 : decode prog_36_method_3_code 46 = .ok (.dup, 1) := by decide +kernel
theorem dA_47 : decode prog_36_method_3_code 47 = .ok (.getfield 29, 3) := by decide +kernel
theorem dA_50 : decode prog_36_method_3_code 50 = .ok (.aload_n 1, 1) := by decide +kernel
theorem dA_51 : decode prog_36_method_3_code 51 = .ok (.getfield 29, 3) := by decide +kernel
theorem dA_54 : decode prog_36_method_3_code 54 = .ok (.ladd, 1) := by decide +kernel
theorem dA_55 : decode prog_36_method_3_code 55 = .ok (.putfield 29, 3) := by decide +kernel
theorem dA_58 : decode prog_36_method_3_code 58 = .ok (.return_, 1) := by decide +kernel
theorem dK_0 : decode jdk_29_method_70_code 0 = .ok (.lload_n 0, 1) := by decide +kernel
theorem dK_1 : decode jdk_29_method_70_code 1 = .ok (.lload_n 2, 1) := by decide +kernel
theorem dK_2 : decode jdk_29_method_70_code 2 = .ok (.lcmp, 1) := by decide +kernel
theorem dK_3 : decode jdk_29_method_70_code 3 = .ok (.ifCond .gt 7, 3) := by decide +kernel
theorem dK_6 : decode jdk_29_method_70_code 6 = .ok (.lload_n 0, 1) := by decide +kernel
theorem dK_7 : decode jdk_29_method_70_code 7 = .ok (.goto 4, 3) := by decide +kernel
theorem dK_10 : decode jdk_29_method_70_code 10 = .ok (.lload_n 2, 1) := by decide +kernel
theorem dK_11 : decode jdk_29_method_70_code 11 = .ok (.lreturn, 1) := by decide +kernel
theorem pn_0 : plainName "com/example/holdfast/holdfast/cli/LatencyHistogramAddPinLaw" = true := by first | (simp [plainName, overriddenIn]; done) | decide +kernel
theorem pd_DJ : parseMethodDescriptor "(D)J" = some ⟨[.double], some .long⟩ := by decide +kernel
theorem pd_DD : parseMethodDescriptor "(D)D" = some ⟨[.double], some .double⟩ := by decide +kernel
theorem pd_DI : parseMethodDescriptor "(D)I" = some ⟨[.double], some .int⟩ := by decide +kernel
theorem pd_4D : parseMethodDescriptor "(DDDD)D" = some ⟨[.double, .double, .double, .double], some .double⟩ := by decide +kernel
theorem pd_IJ : parseMethodDescriptor "(I)J" = some ⟨[.int], some .long⟩ := by decide +kernel
theorem pd_HV : parseMethodDescriptor "(Lcom/example/holdfast/holdfast/cli/LatencyHistogram;)V" = some ⟨[.object "com/example/holdfast/holdfast/cli/LatencyHistogram"], none⟩ := by decide +kernel
abbrev own_pctN : MethodName := ⟨"com/example/holdfast/holdfast/cli/LatencyHistogram", "percentile", "(D)J"⟩
abbrev own_mceN : MethodName := ⟨"java/lang/Math", "ceil", "(D)D"⟩
abbrev own_sceN : MethodName := ⟨"java/lang/StrictMath", "ceil", "(D)D"⟩
abbrev own_focN : MethodName := ⟨"java/lang/StrictMath", "floorOrCeil", "(DDDD)D"⟩
abbrev own_gexN : MethodName := ⟨"java/lang/Math", "getExponent", "(D)I"⟩
abbrev own_higN : MethodName := ⟨"com/example/holdfast/holdfast/cli/LatencyHistogram", "highest", "(I)J"⟩
abbrev own_addN : MethodName := ⟨"com/example/holdfast/holdfast/cli/LatencyHistogram", "add", "(Lcom/example/holdfast/holdfast/cli/LatencyHistogram;)V"⟩
abbrev own_minN : MethodName := ⟨"java/lang/Math", "min", "(JJ)J"⟩
theorem ef_P (m : MethodId) (x0 : Addr) (x1 : UInt64) : entryFrame m #[(.ref x0), (.double x1)] 8 = mkF m 0 #[.val (.ref x0), .val (.double x1), .second, .unset, .unset, .unset, .unset, .unset] [] := by first | (simp [entryFrame, mkF, argsToLocals, Value.category, maxLocals]; done) | rfl
theorem ef_Q (m : MethodId) (x0 : UInt64) : entryFrame m #[(.double x0)] 2 = mkF m 0 #[.val (.double x0), .second] [] := by first | (simp [entryFrame, mkF, argsToLocals, Value.category, maxLocals]; done) | rfl
theorem ef_F (m : MethodId) (x0 : UInt64) (x1 : UInt64) (x2 : UInt64) (x3 : UInt64) : entryFrame m #[(.double x0), (.double x1), (.double x2), (.double x3)] 15 = mkF m 0 #[.val (.double x0), .second, .val (.double x1), .second, .val (.double x2), .second, .val (.double x3), .second, .unset, .unset, .unset, .unset, .unset, .unset, .unset] [] := by first | (simp [entryFrame, mkF, argsToLocals, Value.category, maxLocals]; done) | rfl
theorem ef_H (m : MethodId) (x0 : Int32) : entryFrame m #[(.int x0)] 4 = mkF m 0 #[.val (.int x0), .unset, .unset, .unset] [] := by first | (simp [entryFrame, mkF, argsToLocals, Value.category, maxLocals]; done) | rfl
theorem ef_A (m : MethodId) (x0 : Addr) (x1 : Addr) : entryFrame m #[(.ref x0), (.ref x1)] 3 = mkF m 0 #[.val (.ref x0), .val (.ref x1), .unset] [] := by first | (simp [entryFrame, mkF, argsToLocals, Value.category, maxLocals]; done) | rfl
theorem ef_0 (m : MethodId) (x0 : Int64) (x1 : Int64) (x2 : Int32) : entryFrame m #[(.long x0), (.long x1), (.int x2)] maxLocals = mkF m 0 #[.val (.long x0), .second, .val (.long x1), .second, .val (.int x2), .unset, .unset, .unset, .unset, .unset, .unset, .unset, .unset, .unset, .unset, .unset, .unset, .unset, .unset, .unset, .unset, .unset, .unset, .unset, .unset, .unset, .unset] [] := by first | (simp [entryFrame, mkF, argsToLocals, Value.category, maxLocals]; done) | rfl
def own_minJ (x y : Int64) : Int64 := if y < x then y else x
set_option maxRecDepth 65536 in
set_option maxHeartbeats 40000000 in
theorem own_min (l : Launch) (Z : State) (a0 : Array Value) (hw : ∀ d ∈ tables_1, d.before a0 Z = true) (h0 : Heap) (x y : Int64) : own_Met l Z own_minN jdk_29_method_70_code 4 (some .long) ({ frames := 0, cells := 0, slots := 0, locals := 0 } : Room) [] #[(.long x), (.long y)] h0 (own_Pure (some (.long (own_minJ x y))) h0) := by
  refine own_met (by decide +kernel) ?_
  intro p e s m below meth c s₁ Bd hml hZ e0
  have hx := Bd.exec
  have hby := Bd.bytes
  have hown : s.vm.findClass "java/lang/Math" = some m.cls := findClass_of_methodNamed Bd.named
  have hnm := (name_of_methodNamed Bd.named Bd.method).1
  have X0 : Stand p l e ({ frames := 0, cells := 0, slots := 0, locals := 0 } : Room) s m #[(.long x), (.long y)] below meth c s₁ [] 0 0 := Stand.of_body Bd
  rw [ef_M]
  show own_Goes p e below (own_End s below _ _) (s₁.setTop (mkF m 0 #[.val (.long x), .second, .val (.long y), .second] []))
  refine own_go (fun _ own_k => XS.lloadN X0.here hx rfl (hb hby dK_0) rfl own_k) ?_
  show own_Goes p e below (own_End s below _ _) (s₁.setTop (mkF m 1 #[.val (.long x), .second, .val (.long y), .second] [(.long x)]))
  refine own_go (fun _ own_k => XS.lloadN X0.here hx rfl (hb hby dK_1) rfl own_k) ?_
  show own_Goes p e below (own_End s below _ _) (s₁.setTop (mkF m 2 #[.val (.long x), .second, .val (.long y), .second] [(.long y), (.long x)]))
  refine own_go (fun _ own_k => XS.lcmp X0.here hx rfl (hb hby dK_2) rfl own_k) ?_
  show own_Goes p e below (own_End s below _ _) (s₁.setTop (mkF m 3 #[.val (.long x), .second, .val (.long y), .second] [(.int (lcmpW x y))]))
  by_cases q : y < x
  · refine own_go (fun _ own_k => XS.ifYes X0.here hx rfl (pc0 := 3) (pc' := 10) rfl (hb hby dK_3) rfl (by rw [if0]; exact (tlt (x := 0) ((lw_gt x y).mpr q)).2.2.1) (by decide) (by decide) own_k) ?_
    show own_Goes p e below (own_End s below _ _) (s₁.setTop (mkF m 10 #[.val (.long x), .second, .val (.long y), .second] []))
    refine own_go (fun _ own_k => XS.lloadN X0.here hx rfl (hb hby dK_10) rfl own_k) ?_
    show own_Goes p e below (own_End s below _ _) (s₁.setTop (mkF m 11 #[.val (.long x), .second, .val (.long y), .second] [(.long y)]))
    exact own_retJ X0 hx Bd.notSynchronized Bd.returns (hb hby dK_11) ⟨by rw [own_minJ, if_pos q], e0, rfl⟩ (by decide) (by decide)
  · refine own_go (fun _ own_k => XS.ifNo X0.here hx rfl (hb hby dK_3) rfl (by rw [if0]; exact (flt (x := 0) (fun z => q ((lw_gt x y).mp z))).2.2.1) own_k) ?_
    show own_Goes p e below (own_End s below _ _) (s₁.setTop (mkF m 6 #[.val (.long x), .second, .val (.long y), .second] []))
    refine own_go (fun _ own_k => XS.lloadN X0.here hx rfl (hb hby dK_6) rfl own_k) ?_
    show own_Goes p e below (own_End s below _ _) (s₁.setTop (mkF m 7 #[.val (.long x), .second, .val (.long y), .second] [(.long x)]))
    refine own_go (fun _ own_k => XS.goto X0.here hx rfl (pc0 := 7) (pc' := 11) rfl (hb hby dK_7) (by decide) (by decide) own_k) ?_
    show own_Goes p e below (own_End s below _ _) (s₁.setTop (mkF m 11 #[.val (.long x), .second, .val (.long y), .second] [(.long x)]))
    exact own_retJ X0 hx Bd.notSynchronized Bd.returns (hb hby dK_11) ⟨by rw [own_minJ, if_neg q], e0, rfl⟩ (by decide) (by decide)
section OwnCeil
variable {p : Program} {l : Launch} {e : Env} {s : State} {below : List Frame} {args : Array Value}
theorem own_nopoly {k : Class} (h : k.name ≠ "java/lang/invoke/MethodHandle" ∧ k.name ≠ "java/lang/invoke/VarHandle") (y : Method) : signaturePolymorphic k y = false := by
  simp [signaturePolymorphic, h.1, h.2]
theorem own_noany {k : Class} (h : k.name ≠ "java/lang/invoke/MethodHandle" ∧ k.name ≠ "java/lang/invoke/VarHandle") (n : String) : (k.methods.any fun y => y.name == n && !y.isStatic && signaturePolymorphic k y) = false := by
  simp [own_nopoly h]
/-- what a static call's instruction comes to, at a state of which only its tables are known: the tables that it leaves don't hang on the operands -/
theorem own_wpS {T : State} {cid : ClassId} (hadm : l.admits e) (ht : T.topJava?.isSome) (hW : s.WarmedH T.vm) {own : String} {index : Nat} {x : MethodName} (hown : s.vm.findClass own = some cid) (hlink : (Jvm.Cond.methodLink own index x).before args s = true)
    {m' : MethodId} {meth' : Method} (hn : s.methodNamed? x = some m') (hm' : s.vm.method? m' = some meth') (hst : (Jvm.Cond.static x).before args s = true) (hin : (Jvm.Cond.initialized x.cls).before args s = true)
    (hx : x.cls ≠ "java/lang/invoke/MethodHandle" ∧ x.cls ≠ "java/lang/invoke/VarHandle") :
    ∃ v', s.WarmedH v' ∧ ∀ (g : JFrame) (argsL rest : List Value), g.method.cls = cid → argsL.length = meth'.sig.parameters.length → g.stack = argsL.reverse ++ rest → ∀ {Q : Unit → Pre} {E : CtlPost} {d : Bool} {acts : List Action},
      (wp (invokestatic.sem index) Q E e d acts (T.setTop g) ↔ E (.invoke m' argsL.toArray) (.initLock m'.cls false :: acts) ((T.setVm v').setTop { g with stack := rest })) := by
  have hpf := hadm.platform
  obtain ⟨kN, hkN, hname⟩ := className_of_methodNamed hn
  have hother : ∀ k, s.vm.classes[m'.cls]? = some k → k.name ≠ "java/lang/invoke/MethodHandle" ∧ k.name ≠ "java/lang/invoke/VarHandle" := fun k q => by
    obtain rfl : kN = k := Option.some.inj (hkN.symm.trans q)
    exact hname ▸ hx
  obtain ⟨ci, L, ok⟩ := Cond.methodLink_spec hown hn hlink e.platform (by rw [hpf])
  have M := State.methodEntry (e := e) hW L ok hother
  obtain ⟨kO, file, nt, nm, ds, via, -, -, o1, o2, o3, o4, -⟩ := L.here
  obtain ⟨kO', p1, p2⟩ := M.warmed.alike.2.2 _ _ o1
  obtain ⟨kN', r1, r2⟩ := M.warmed.alike.2.2 _ _ hkN
  have q0 := hother _ hkN
  have i0 : kN.init = .initialized := Cond.initialized_spec (findClass_of_methodNamed hn) hkN hin
  have hname' : kN'.name ≠ "java/lang/invoke/MethodHandle" ∧ kN'.name ≠ "java/lang/invoke/VarHandle" := by rw [r2]; exact q0
  have hinit' : kN'.init = .initialized := by rw [r2]; exact i0
  refine ⟨_, M.warmed, fun g argsL rest hc hlen hs Q E d acts => ?_⟩
  subst hc
  have hfile : kO'.cf = some file := by rw [p2]; exact o2
  have href : plainRef (T.setVm (T.vm.called g.method.cls ci index m')) e g.method.cls index := ⟨ci, nm, ds, via, _, kN', memberRef_ask_via p1 hfile o3 o4, M.classReady, r1, own_noany hname' _⟩
  exact (invokestatic.wp_cold ht (by rw [hpf]) hW M o1 o2 o3 o4 hkN (own_noany (hother _ hkN) _)).trans
    (invokestatic.wp_ready (s := T.setVm (T.vm.called g.method.cls ci index m')) ht href M.ready r1 ((M.warmed.alike.method? _).trans hm') (own_nopoly hname' _) (Cond.static_spec hn hm' hst) hinit' hlen hs)
/-- a static call, where nothing is known of the room -/
theorem own_invS {T : State} {m : MethodId} {c : Code} (hA : At T m c below) (hexec : p.tables.exec = Jvm.exec) (hadm : l.admits e) (hW : s.WarmedH T.vm)
    {own : String} {index : Nat} {x : MethodName} (hown : s.vm.findClass own = some m.cls) (hlink : (Jvm.Cond.methodLink own index x).before args s = true)
    {m' : MethodId} {meth' : Method} (hn : s.methodNamed? x = some m') (hm' : s.vm.method? m' = some meth') (hst : (Jvm.Cond.static x).before args s = true) (hin : (Jvm.Cond.initialized x.cls).before args s = true)
    (hx : x.cls ≠ "java/lang/invoke/MethodHandle" ∧ x.cls ≠ "java/lang/invoke/VarHandle")
    {g : JFrame} (hg : g.method = m) {argsL rest : List Value} (hlen : argsL.length = meth'.sig.parameters.length) (hstack : g.stack = argsL.reverse ++ rest)
    (hdg : decode c.code g.pc = .ok (.invokestatic index, 3)) :
    ∃ v', s.WarmedH v' ∧ ∀ target, (∀ acts, Steps p.tables e below (doInvoke e ((T.setVm v').setTop { g with stack := rest }) acts m' argsL.toArray).1 target) → Steps p.tables e below (T.setTop g) target := by
  obtain ⟨v', w, call⟩ := own_wpS (e := e) hadm hA.top hW hown hlink hn hm' hst hin hx
  refine ⟨v', w, fun target k => ?_⟩
  subst hg
  jvm_step hA [hexec, hdg, call g argsL rest rfl hlen hstack]
  exact fun _ => k _
/-- the base T with other tables and these frames -/
def own_I (T : State) (v : Vm) (fs : List Frame) : State := (T.setVm v).setFrames fs
theorem own_fr {T : State} (hc : T.cur < T.threads.size) (v : Vm) (fs : List Frame) : (own_I T v fs).frames = fs := State.frames_setFrames (s := T.setVm v) fs hc
theorem own_top {T : State} (hc : T.cur < T.threads.size) (v : Vm) (f0 f : JFrame) (G : List Frame) : (own_I T v (.java f0 :: G)).setTop f = own_I T v (.java f :: G) := by
  rw [State.setTop_of_frames f (own_fr hc v (.java f0 :: G))]
  exact State.setFrames_setFrames _ _ _
theorem own_vm (T : State) (v v' : Vm) (fs : List Frame) : (own_I T v fs).setVm v' = own_I T v' fs := rfl
theorem own_at {T : State} {m0 : MethodId} {c0 : Code} (h0 : At T m0 c0 below) {v : Vm} (hv : s.vm.Alike v) (f0 : JFrame) {G : List Frame} (hG : ∃ mid, G = mid ++ below) {y : MethodName} (hpf : plainFor y = true) {mk : MethodId} {mt : Method} {cm : Code} (hn : s.methodNamed? y = some mk) (hm : s.vm.method? mk = some mt) (hc : mt.code = some cm) :
    At (own_I T v (.java f0 :: G)) mk cm below := by
  have hcur : T.cur < T.threads.size := State.cur_lt_of_top h0.top
  have hf : ((T.setVm s.vm).setFrames (.java f0 :: G)).frames = .java f0 :: G := State.frames_setFrames (s := T.setVm s.vm) _ hcur
  have r1 : (T.setVm s.vm).curStatus? = some .runnable := h0.runnable
  have r2 : (T.setVm s.vm).alone = true := h0.alone
  have A1 : At ((T.setVm s.vm).setFrames (.java f0 :: G)) mk cm below :=
    ⟨by rw [State.topJava?_of_frames hf]; rfl, by rw [hf]; exact hG, h0.running, by simpa using r1, by simpa using r2, by rw [State.code?_eq]; simp [State.setFrames, State.setVm, hm, hc], State.plainMethod.of_named (s := s) hpf hn hm⟩
  exact A1.setVm hv
theorem own_lim (T : State) (v : Vm) (fs : List Frame) : e.platform.stackLimits (own_I T v fs).me = e.platform.stackLimits T.me := State.stackLimits_setFrames _ (T.setVm v) fs
/-- into a method that a static call names -/
theorem own_nest {T : State} (hc : T.cur < T.threads.size) (hexec : p.tables.exec = Jvm.exec) (hadm : l.admits e) {v : Vm} (hW : s.WarmedH v) {G : List Frame} {g : JFrame} {cg : Code} (hA : At (own_I T v (.java g :: G)) g.method cg below)
    {own : String} {index : Nat} {y : MethodName} {bytes : ByteArray} {maxL : Nat} {ret : Option FieldType} (hown : s.vm.findClass own = some g.method.cls) (w1 : (Jvm.Cond.methodLink own index y).before args s = true) (w2 : (Jvm.Cond.static y).before args s = true) (w3 : (Jvm.Cond.initialized y.cls).before args s = true) (w4 : (Jvm.Cond.code y bytes maxL ret).before args s = true)
    (hy : y.cls ≠ "java/lang/invoke/MethodHandle" ∧ y.cls ≠ "java/lang/invoke/VarHandle") {argsL rest : List Value} {ps : List FieldType} {r : Option FieldType} (hd : parseMethodDescriptor y.desc = some ⟨ps, r⟩) (hlen : argsL.length = ps.length) (hstack : g.stack = argsL.reverse ++ rest) (hdg : decode cg.code g.pc = .ok (.invokestatic index, 3))
    (l1 : (Frame.java { g with stack := rest } :: G).length < (e.platform.stackLimits T.me).1) (l2 : stackWeight (.java { g with stack := rest } :: G) + maxL + 11 ≤ (e.platform.stackLimits T.me).2) :
    ∃ (v' : Vm) (mk : MethodId) (mt : Method) (cm : Code), s.WarmedH v' ∧ s.methodNamed? y = some mk ∧ s.vm.method? mk = some mt ∧ mt.code = some cm ∧ cm.code = bytes ∧ cm.maxLocals = maxL ∧ mt.sig.returnType = ret ∧ mt.locks = false ∧
      ∀ target, Steps p.tables e below (own_I T v' (.java (entryFrame mk argsL.toArray maxL) :: .java { g with stack := rest } :: G)) target → Steps p.tables e below (own_I T v (.java g :: G)) target := by
  obtain ⟨mk, hnamed⟩ := Cond.code_named w4
  obtain ⟨mt, cm, hmt, hcm, hby, hml, hret, hlocks, -, hsig⟩ := Cond.code_spec hnamed w4
  obtain ⟨v', hW', st⟩ := own_invS (p := p) hA hexec hadm hW hown w1 hnamed hmt w2 w3 hy (g := g) rfl (argsL := argsL) (rest := rest) (lenOf hd hlen _ hsig) hstack hdg
  refine ⟨v', mk, mt, cm, hW', hnamed, hmt, hcm, hby, hml, hret, hlocks, fun target k => ?_⟩
  have k2 := st target (fun acts => ?_)
  · rw [own_top hc] at k2; exact k2
  · rw [own_vm, own_top hc]
    have hm' : (own_I T v' (.java { g with stack := rest } :: G)).vm.method? mk = some mt := by
      show v'.method? mk = some mt
      rw [hW'.alike.method?]; exact hmt
    have hfull : e.platform.stackFull (((own_I T v' (.java { g with stack := rest } :: G)).threads[(own_I T v' (.java { g with stack := rest } :: G)).cur]?).getD { frames := [] }) (own_I T v' (.java { g with stack := rest } :: G)).frames cm.maxLocals = false :=
      stackFull_of (own_fr hc v' _) (by rw [own_lim]; exact l1) (by rw [own_lim, hml]; exact l2)
    rw [(doInvoke_java (acts := acts) (args := argsL.toArray) hm' hcm hlocks hfull).1]
    show Steps p.tables e below ((own_I T v' (.java { g with stack := rest } :: G)).setFrames (_ :: (own_I T v' (.java { g with stack := rest } :: G)).frames)) target
    rw [own_fr hc, hml]
    have q : (own_I T v' (.java { g with stack := rest } :: G)).setFrames (.java (entryFrame mk argsL.toArray maxL) :: .java { g with stack := rest } :: G) = own_I T v' (.java (entryFrame mk argsL.toArray maxL) :: .java { g with stack := rest } :: G) := State.setFrames_setFrames _ _ _
    exact q ▸ k
/-- ireturn, dreturn: what is left is the machine's own return -/
theorem own_retI' {u S : State} {mk : MethodId} {cm : Code} {mt : Method} (hA : At u mk cm below) (hx : p.tables.exec = Jvm.exec) (hm : u.vm.method? mk = some mt) {pc : Nat} {Ls : Array Slot} {z : Int32} {rest : List Value} (hret : mt.sig.returnType = some .int) (hd : decode cm.code pc = .ok (.ireturn, 1))
    (hl : ∀ (f : JFrame) (acts : List Action), f.method = mk → f.locked = none → f.entered = [] → (doReturn e (u.setTop f) acts (some (.int z))).1 = S) : ∀ target, Steps p.tables e below S target → Steps p.tables e below (u.setTop (mkF mk pc Ls (.int z :: rest))) target := by
  intro target k
  have hn : narrow .int (.int z) = .int z := rfl
  show Steps p.tables e below (u.setTop { method := mk, pc := pc, locals := Ls, stack := _ :: rest, locked := none }) _
  jvm_step hA [hA.top, hx, hd, hm, hret, hn]
  first | (intro acts; rw [hl _ acts rfl rfl rfl]) | rw [hl _ _ rfl rfl rfl]
  exact k
theorem own_retD' {u S : State} {mk : MethodId} {cm : Code} {mt : Method} (hA : At u mk cm below) (hx : p.tables.exec = Jvm.exec) (hm : u.vm.method? mk = some mt) {pc : Nat} {Ls : Array Slot} {z : UInt64} {rest : List Value} (hret : mt.sig.returnType = some .double) (hd : decode cm.code pc = .ok (.dreturn, 1))
    (hl : ∀ (f : JFrame) (acts : List Action), f.method = mk → f.locked = none → f.entered = [] → (doReturn e (u.setTop f) acts (some (.double z))).1 = S) : ∀ target, Steps p.tables e below S target → Steps p.tables e below (u.setTop (mkF mk pc Ls (.double z :: rest))) target := by
  intro target k
  have hn : narrow .double (.double z) = .double z := rfl
  show Steps p.tables e below (u.setTop { method := mk, pc := pc, locals := Ls, stack := _ :: rest, locked := none }) _
  jvm_step hA [hA.top, hx, hd, hm, hret, hn]
  first | (intro acts; rw [hl _ acts rfl rfl rfl]) | rw [hl _ _ rfl rfl rfl]
  exact k
/-- the return into a method's frame -/
theorem own_leave {T : State} (hc : T.cur < T.threads.size) {v : Vm} (hv : s.vm.Alike v) {f0 g : JFrame} {G : List Frame} {mk : MethodId} {mt : Method} (hm : s.vm.method? mk = some mt) (hlocks : mt.locks = false) {cg : Code} {ig : Instr} {len : Nat} (hcg : s.code? g.method = some cg) (hdg : decode cg.code g.pc = .ok (ig, len)) {w : Value} (f : JFrame) (acts : List Action) (q1 : f.method = mk) (q2 : f.locked = none) (q3 : f.entered = []) :
    (doReturn e ((own_I T v (.java f0 :: .java g :: G)).setTop f) acts (some w)).1 = own_I T v (.java { g with pc := g.pc + len, stack := w :: g.stack } :: G) := by
  subst q1
  rw [doReturn_leave (u := own_I T v (.java f0 :: .java g :: G)) (f := f) (g := g) (r := G) (v := some w) acts (own_fr hc v _) (meth := mt) (by show v.method? f.method = some mt; rw [hv.method?]; exact hm) hlocks q2 q3 (cg := cg) (by rw [State.code?_eq] at hcg ⊢; show (v.method? g.method).bind _ = _; rw [hv.method?]; exact hcg) hdg]
  have q : (own_I T v (.java f0 :: .java g :: G)).setFrames (.java g :: G) = own_I T v (.java g :: G) := State.setFrames_setFrames _ _ _
  rw [q, own_top hc]
  rfl
theorem own_ldcD {T : State} {m : MethodId} {c : Code} (hA : At T m c below) (hexec : p.tables.exec = Jvm.exec) (hW : s.WarmedH T.vm) {own : String} {index : Nat} {b : UInt64} (hown : s.vm.findClass own = some m.cls) (hconst : (Jvm.Cond.constantDouble own index b).before args s = true) {g : JFrame} (hg : g.method = m) (hdg : decode c.code g.pc = .ok (.ldc2_w index, 3)) :
    ∀ target, Steps p.tables e below (T.setTop { g with pc := g.pc + 3, stack := .double b :: g.stack }) target → Steps p.tables e below (T.setTop g) target := by
  obtain ⟨k, cf, hk, hcf, hcp⟩ := Cond.constantDouble_spec hown hconst
  obtain ⟨k', hk', he⟩ := hW.alike.2.2 _ _ hk
  intro target hrest
  subst hg
  jvm_step hA [hexec, hdg, ldc2_w.wp_double (s := T) (f := g) hA.top hk' (by rw [he]; exact hcf) hcp]
  exact hrest
theorem own_ldcJ {T : State} {m : MethodId} {c : Code} (hA : At T m c below) (hexec : p.tables.exec = Jvm.exec) (hW : s.WarmedH T.vm) {own : String} {index : Nat} {b : Int64} (hown : s.vm.findClass own = some m.cls) (hconst : (Jvm.Cond.constantLong own index b).before args s = true) {g : JFrame} (hg : g.method = m) (hdg : decode c.code g.pc = .ok (.ldc2_w index, 3)) :
    ∀ target, Steps p.tables e below (T.setTop { g with pc := g.pc + 3, stack := .long b :: g.stack }) target → Steps p.tables e below (T.setTop g) target := by
  obtain ⟨k, cf, bytes, hk, hcf, hcp, hb⟩ := Cond.constantLong_spec hown hconst
  obtain ⟨k', hk', he⟩ := hW.alike.2.2 _ _ hk
  intro target hrest
  subst hg
  jvm_step hA [hexec, hdg, ldc2_w.wp_long (s := T) (f := g) hA.top hk' (by rw [he]; exact hcf) hcp, hb]
  exact hrest
theorem own_sget {T : State} (hc : T.cur < T.threads.size) (hexec : p.tables.exec = Jvm.exec) (hadm : l.admits e) {v : Vm} (hW : s.WarmedH v) {G : List Frame} {g : JFrame} {cg : Code} (hA : At (own_I T v (.java g :: G)) g.method cg below)
    {own ref name desc : String} {index : Nat} (hown : s.vm.findClass own = some g.method.cls) (hlink : (Jvm.Cond.fieldLink own index ref name desc).before args s = true) {Z : State} {h : Heap} (hZ : Z.Warmed39 s.vm) {w : Value} (F : Sta Z h ref name desc w) (eT : T.heap = h) (hdg : decode cg.code g.pc = .ok (.getstatic index, 3)) :
    ∃ v', s.WarmedH v' ∧ ∀ target, Steps p.tables e below (own_I T v' (.java { g with pc := g.pc + 3, stack := w :: g.stack } :: G)) target → Steps p.tables e below (own_I T v (.java g :: G)) target := by
  obtain ⟨cf, i, k, f, st, cell, h1, h2, h3, h4, h5, h6, h7⟩ := F
  obtain ⟨k', hi, ek⟩ := State.fieldFound?_setVm (s := Z) hZ.alike h1
  have hi2 : s.fieldFound? ref name desc = some (cf, k', i, f) := hi
  have hpl : e.platform.magicAccessors = ({} : Platform).magicAccessors := by rw [hadm.platform]
  obtain ⟨ci', cfl, k2, i', f', hi', hlinks, hright⟩ := Cond.fieldLink_spec hown hlink e.platform hpl
  cases hi2.symm.trans hi'
  obtain ⟨hk, hf⟩ := State.fieldFound?_spec hi2
  obtain ⟨v', hW', stp⟩ := Steps.getstaticCold (tb := p.tables) hA hexec hdg hW hlinks hright hk hf h2 (by rw [ek]; exact h3) (by rw [ek]; exact h4) (cell := cell) (by show T.heap[st]? = _; rw [eT]; exact h5) (fun q => by rw [q] at h6; cases h6) h7
  refine ⟨v', hW', fun target kk => ?_⟩
  have k2 := stp target (by rw [own_vm, own_top hc]; exact kk)
  rw [own_top hc] at k2; exact k2
theorem own_nat {T : State} (hc : T.cur < T.threads.size) (hexec : p.tables.exec = Jvm.exec) (hadm : l.admits e) {v : Vm} (hW : s.WarmedH v) {G : List Frame} {g : JFrame} {cg : Code} (hA : At (own_I T v (.java g :: G)) g.method cg below)
    {own : String} {index : Nat} (hown : s.vm.findClass own = some g.method.cls) (w1 : (Jvm.Cond.methodLink own index doubleToRawLongBitsName).before args s = true) (hnat : (Jvm.Cond.native doubleToRawLongBitsName).before args s = true) (hstat : (Jvm.Cond.static doubleToRawLongBitsName).before args s = true) (hinit : (Jvm.Cond.initialized "java/lang/Double").before args s = true)
    {b : UInt64} {rest : List Value} (hstack : g.stack = .double b :: rest) (hdg : decode cg.code g.pc = .ok (.invokestatic index, 3))
    (l1 : (Frame.java { g with stack := rest } :: G).length < (e.platform.stackLimits T.me).1) (l2 : stackWeight (.java { g with stack := rest } :: G) + 4 + 11 ≤ (e.platform.stackLimits T.me).2) :
    ∃ v', s.WarmedH v' ∧ ∀ target, Steps p.tables e below (own_I T v' (.java { g with pc := g.pc + 3, stack := .long b.toInt64 :: rest } :: G)) target → Steps p.tables e below (own_I T v (.java g :: G)) target := by
  obtain ⟨r, kS, methS, hnS, hmS, hkS, N⟩ := NativeOf.of_static hnat hstat (ps := [.double]) (ret := some .long) (by decide +kernel)
  obtain ⟨v', hW', st⟩ := own_invS (p := p) hA hexec hadm hW hown w1 hnS hmS hstat hinit (by decide) (g := g) rfl (argsL := [.double b]) (rest := rest) (by rw [N.sig]; rfl) hstack hdg
  refine ⟨v', hW', fun target kk => ?_⟩
  have k2 := st target (fun acts => ?_)
  · rw [own_top hc] at k2; exact k2
  · rw [own_vm]
    obtain ⟨kS', N'⟩ := N.alike hW'.alike
    have hA' : At (own_I T v' (.java g :: G)) g.method cg below := hA.setVm (hW.alike.symm.trans hW'.alike)
    have hnw : nativeFrameWords "java/lang/Double" "doubleToRawLongBits" 2 = 4 := by decide
    refine Steps.doubleToRawLongBitsOf (g := { g with stack := rest }) (ig := .invokestatic index) (len := 3) p hA' acts N' b ?_ hdg (by rw [own_top hc]; exact kk)
    rw [own_top hc, hnw]
    exact stackFull_of (own_fr hc v' _) (by rw [own_lim]; exact l1) (by rw [own_lim]; exact l2)
theorem own_wt (g : JFrame) (G : List Frame) : stackWeight (.java g :: G) = 11 + g.locals.size + 2 * g.monitorRoom + (g.stack.map fun v => v.category).sum + stackWeight G := by simp [stackWeight, Frame.weight]
end OwnCeil

def own_ex (b : UInt64) : Int32 := (((b.toInt64 &&& (9218868437227405312 : Int64)) >>> ((52 : Int32) &&& 0x3f).toInt64) - (1023 : Int64)).toInt32
theorem own_pfG : plainFor own_gexN = true := by decide +kernel
theorem own_pfF : plainFor own_focN = true := by decide +kernel
theorem own_pfS : plainFor own_sceN = true := by decide +kernel
set_option maxRecDepth 65536 in
set_option maxHeartbeats 40000000 in
theorem own_gexR {p : Program} {l : Launch} {e : Env} {s : State} {below : List Frame} {Z : State} {a0 : Array Value} (hw : ∀ d ∈ tables_1, d.before a0 Z = true) (hZ : Z.Warmed39 s.vm) (hx : p.tables.exec = Jvm.exec) (hadm : l.admits e) {T : State} {m0 : MethodId} {c0 : Code} (h0 : At T m0 c0 below) {v : Vm} (hW : s.WarmedH v) {G : List Frame} (hG : ∃ mid, G = mid ++ below) {g : JFrame} {cg : Code} (hA : At (own_I T v (.java g :: G)) g.method cg below) (hown : s.vm.findClass "java/lang/StrictMath" = some g.method.cls) (hcg : s.code? g.method = some cg) {rest : List Value} {b : UInt64} (hstack : g.stack = .double b :: rest) (hdg : decode cg.code g.pc = .ok (.invokestatic 66, 3)) (q1 : G.length + 4 ≤ (e.platform.stackLimits T.me).1) (q2 : stackWeight (.java { g with stack := rest } :: G) + 40 ≤ (e.platform.stackLimits T.me).2) :
    ∃ v', s.WarmedH v' ∧ ∀ target, Steps p.tables e below (own_I T v' (.java { g with pc := g.pc + 3, stack := .int (own_ex b) :: rest } :: G)) target → Steps p.tables e below (own_I T v (.java g :: G)) target := by
  have hc : T.cur < T.threads.size := State.cur_lt_of_top h0.top
  suffices H : own_Goes p e below (fun t => ∃ v', s.WarmedH v' ∧ t = own_I T v' (.java { g with pc := g.pc + 3, stack := .int (own_ex b) :: rest } :: G)) (own_I T v (.java g :: G)) by
    obtain ⟨t, h1, v', h2, rfl⟩ := H
    exact ⟨v', h2, fun target k => h1.trans k⟩
  obtain ⟨v1, mk, mt, cm, hW1, hn1, hm1, hc1, hby, hml, hret, hlk, st1⟩ := own_nest (args := #[]) (p := p) hc hx hadm hW hA (y := own_gexN) hown (mvT hZ (hw _ (List.mem_of_getElem? (i := 31) rfl))) (mvT hZ (hw _ (List.mem_of_getElem? (i := 32) rfl))) (mvT hZ (hw _ (List.mem_of_getElem? (i := 21) rfl))) (mvT hZ (hw _ (List.mem_of_getElem? (i := 33) rfl))) (by decide) (argsL := [.double b]) (rest := rest) pd_DI rfl hstack hdg (by simp only [List.length_cons]; omega) (by omega)
  obtain ⟨G1, hG1⟩ : ∃ z, z = (Frame.java { g with stack := rest } :: G) := ⟨_, rfl⟩
  have hG1' : ∃ mid, G1 = mid ++ below := by
    obtain ⟨mid, q⟩ := hG
    exact ⟨.java { g with stack := rest } :: mid, by rw [hG1, q]; rfl⟩
  have hlen1 : G1.length = G.length + 1 := by rw [hG1]; rfl
  rw [← hG1] at st1 q2
  have hown1 : s.vm.findClass "java/lang/Math" = some mk.cls := findClass_of_methodNamed hn1
  have hcm1 : s.code? mk = some cm := by rw [State.code?_eq, hm1]; exact hc1
  have A1 : ∀ (v : Vm) (hv : s.WarmedH v) (f0 : JFrame), At (own_I T v (.java f0 :: G1)) mk cm below := fun v hv f0 => own_at h0 hv.alike f0 hG1' own_pfG hn1 hm1 hc1
  refine own_go st1 ?_
  rw [show entryFrame mk [Value.double b].toArray 2 = (mkF mk 0 #[.val (.double b), .second] []) from ef_Q mk b]
  obtain ⟨U1, hU1⟩ : ∃ z, z = own_I T v1 (.java (mkF mk 0 #[] []) :: G1) := ⟨_, rfl⟩
  have B1 : At U1 mk cm below := by rw [hU1]; exact A1 v1 hW1 _
  have t1 : ∀ f, U1.setTop f = own_I T v1 (.java f :: G1) := fun f => by rw [hU1]; exact own_top hc _ _ _ _
  have V1 : s.WarmedH U1.vm := by rw [hU1]; exact hW1
  rw [← t1]
  show own_Goes p e below _ (U1.setTop (mkF mk 0 #[.val (.double b), .second] []))
  refine own_go (fun _ own_k => XS.dloadN B1 hx rfl (hb hby dG_0) rfl own_k) ?_
  show own_Goes p e below _ (U1.setTop (mkF mk 1 #[.val (.double b), .second] [(.double b)]))
  obtain ⟨v2, hW2, st2⟩ := own_nat (args := #[]) (p := p) hc hx hadm hW1 (g := (mkF mk 1 #[.val (.double b), .second] [(.double b)])) (A1 v1 hW1 _) hown1 (mvT hZ (hw _ (List.mem_of_getElem? (i := 34) rfl))) (mvT hZ (hw _ (List.mem_of_getElem? (i := 37) rfl))) (mvT hZ (hw _ (List.mem_of_getElem? (i := 35) rfl))) (mvT hZ (hw _ (List.mem_of_getElem? (i := 36) rfl))) (rest := []) rfl (hb hby dG_1) (by simp only [List.length_cons]; omega) (by rw [own_wt]; show 11 + 2 + 2 * 0 + 0 + stackWeight G1 + 4 + 11 ≤ _; omega)
  rw [t1]
  refine own_go st2 ?_
  show own_Goes p e below _ (own_I T v2 (.java (mkF mk 4 #[.val (.double b), .second] [(.long (b.toInt64))]) :: G1))
  obtain ⟨U2, hU2⟩ : ∃ z, z = own_I T v2 (.java (mkF mk 0 #[] []) :: G1) := ⟨_, rfl⟩
  have B2 : At U2 mk cm below := by rw [hU2]; exact A1 v2 hW2 _
  have t2 : ∀ f, U2.setTop f = own_I T v2 (.java f :: G1) := fun f => by rw [hU2]; exact own_top hc _ _ _ _
  have V2 : s.WarmedH U2.vm := by rw [hU2]; exact hW2
  rw [← t2]
  show own_Goes p e below _ (U2.setTop (mkF mk 4 #[.val (.double b), .second] [(.long (b.toInt64))]))
  refine own_go (own_ldcJ (args := #[]) B2 hx V2 hown1 (mvT hZ (hw _ (List.mem_of_getElem? (i := 38) rfl))) (g := (mkF mk 4 #[.val (.double b), .second] [(.long (b.toInt64))])) rfl (hb hby dG_4)) ?_
  show own_Goes p e below _ (U2.setTop (mkF mk 7 #[.val (.double b), .second] [(.long (9218868437227405312 : Int64)), (.long (b.toInt64))]))
  refine own_go (fun _ own_k => XS.land B2 hx rfl (hb hby dG_7) rfl own_k) ?_
  show own_Goes p e below _ (U2.setTop (mkF mk 8 #[.val (.double b), .second] [(.long ((b.toInt64) &&& (9218868437227405312 : Int64)))]))
  refine own_go (fun _ own_k => XS.bipush B2 hx rfl (hb hby dG_8) own_k) ?_
  show own_Goes p e below _ (U2.setTop (mkF mk 10 #[.val (.double b), .second] [(.int (52 : Int32)), (.long ((b.toInt64) &&& (9218868437227405312 : Int64)))]))
  refine own_go (fun _ own_k => XS.lshr B2 hx rfl (hb hby dG_10) rfl own_k) ?_
  show own_Goes p e below _ (U2.setTop (mkF mk 11 #[.val (.double b), .second] [(.long (((b.toInt64) &&& (9218868437227405312 : Int64)) >>> ((52 : Int32) &&& 0x3f).toInt64))]))
  refine own_go (own_ldcJ (args := #[]) B2 hx V2 hown1 (mvT hZ (hw _ (List.mem_of_getElem? (i := 39) rfl))) (g := (mkF mk 11 #[.val (.double b), .second] [(.long (((b.toInt64) &&& (9218868437227405312 : Int64)) >>> ((52 : Int32) &&& 0x3f).toInt64))])) rfl (hb hby dG_11)) ?_
  show own_Goes p e below _ (U2.setTop (mkF mk 14 #[.val (.double b), .second] [(.long (1023 : Int64)), (.long (((b.toInt64) &&& (9218868437227405312 : Int64)) >>> ((52 : Int32) &&& 0x3f).toInt64))]))
  refine own_go (fun _ own_k => XS.lsub B2 hx rfl (hb hby dG_14) rfl own_k) ?_
  show own_Goes p e below _ (U2.setTop (mkF mk 15 #[.val (.double b), .second] [(.long ((((b.toInt64) &&& (9218868437227405312 : Int64)) >>> ((52 : Int32) &&& 0x3f).toInt64) - (1023 : Int64)))]))
  refine own_go (fun _ own_k => XS.l2i B2 hx rfl (hb hby dG_15) rfl own_k) ?_
  show own_Goes p e below _ (U2.setTop (mkF mk 16 #[.val (.double b), .second] [(.int (((((b.toInt64) &&& (9218868437227405312 : Int64)) >>> ((52 : Int32) &&& 0x3f).toInt64) - (1023 : Int64)).toInt32))]))
  show own_Goes p e below _ (U2.setTop (mkF mk 16 #[.val (.double b), .second] [(.int (own_ex b))]))
  refine own_go (own_retI' (S := own_I T v2 (.java { g with pc := g.pc + 3, stack := .int (own_ex b) :: rest } :: G)) B2 hx (mt := mt) (by rw [hU2]; show v2.method? mk = some mt; rw [hW2.alike.method?]; exact hm1) hret (hb hby dG_16) (fun f acts h1 h2 h3 => by rw [hU2, hG1]; exact own_leave hc hW2.alike hm1 hlk (g := { g with stack := rest }) hcg hdg f acts h1 h2 h3)) ?_
  exact ⟨_, Steps.refl _, v2, hW2, rfl⟩
theorem own_ex0 : own_ex 0 = (-1023 : Int32) := by decide +kernel
theorem own_dl0 : cmpValue (FP.dcmp 0 FP.dconst0) .l = 0 := by decide +kernel
theorem own_dg0 : cmpValue (FP.dcmp 0 FP.dconst0) .g = 0 := by decide +kernel
set_option maxRecDepth 65536 in
set_option maxHeartbeats 40000000 in
theorem own_focR0 {p : Program} {l : Launch} {e : Env} {s : State} {below : List Frame} {Z : State} {a0 : Array Value} (hw : ∀ d ∈ tables_1, d.before a0 Z = true) (hZ : Z.Warmed39 s.vm) (hx : p.tables.exec = Jvm.exec) (hadm : l.admits e) {T : State} {m0 : MethodId} {c0 : Code} (h0 : At T m0 c0 below) {h : Heap} (SA : Sta Z h "java/lang/StrictMath" "$assertionsDisabled" "Z" (.int 1)) (eT : T.heap = h) {v : Vm} (hW : s.WarmedH v) {G : List Frame} (hG : ∃ mid, G = mid ++ below) {g : JFrame} {cg : Code} (hA : At (own_I T v (.java g :: G)) g.method cg below) (hown : s.vm.findClass "java/lang/StrictMath" = some g.method.cls) (hcg : s.code? g.method = some cg) {rest : List Value} (hstack : g.stack = .double FP.dconst1 :: .double FP.dconst1 :: .double 9223372036854775808 :: .double 0 :: rest) (hdg : decode cg.code g.pc = .ok (.invokestatic 60, 3)) (q1 : G.length + 5 ≤ (e.platform.stackLimits T.me).1) (q2 : stackWeight (.java { g with stack := rest } :: G) + 66 ≤ (e.platform.stackLimits T.me).2) :
    ∃ v', s.WarmedH v' ∧ ∀ target, Steps p.tables e below (own_I T v' (.java { g with pc := g.pc + 3, stack := .double 0 :: rest } :: G)) target → Steps p.tables e below (own_I T v (.java g :: G)) target := by
  have hc : T.cur < T.threads.size := State.cur_lt_of_top h0.top
  suffices H : own_Goes p e below (fun t => ∃ v', s.WarmedH v' ∧ t = own_I T v' (.java { g with pc := g.pc + 3, stack := .double 0 :: rest } :: G)) (own_I T v (.java g :: G)) by
    obtain ⟨t, h1, v', h2, rfl⟩ := H
    exact ⟨v', h2, fun target k => h1.trans k⟩
  obtain ⟨v1, mk, mt, cm, hW1, hn1, hm1, hc1, hby, hml, hret, hlk, st1⟩ := own_nest (args := #[]) (p := p) hc hx hadm hW hA (y := own_focN) hown (mvT hZ (hw _ (List.mem_of_getElem? (i := 28) rfl))) (mvT hZ (hw _ (List.mem_of_getElem? (i := 29) rfl))) (mvT hZ (hw _ (List.mem_of_getElem? (i := 25) rfl))) (mvT hZ (hw _ (List.mem_of_getElem? (i := 30) rfl))) (by decide) (argsL := [.double 0, .double 9223372036854775808, .double FP.dconst1, .double FP.dconst1]) (rest := rest) pd_4D rfl hstack hdg (by simp only [List.length_cons]; omega) (by omega)
  obtain ⟨G1, hG1⟩ : ∃ z, z = (Frame.java { g with stack := rest } :: G) := ⟨_, rfl⟩
  have hG1' : ∃ mid, G1 = mid ++ below := by
    obtain ⟨mid, q⟩ := hG
    exact ⟨.java { g with stack := rest } :: mid, by rw [hG1, q]; rfl⟩
  have hlen1 : G1.length = G.length + 1 := by rw [hG1]; rfl
  rw [← hG1] at st1 q2
  have hown1 : s.vm.findClass "java/lang/StrictMath" = some mk.cls := findClass_of_methodNamed hn1
  have hcm1 : s.code? mk = some cm := by rw [State.code?_eq, hm1]; exact hc1
  have A1 : ∀ (v : Vm) (hv : s.WarmedH v) (f0 : JFrame), At (own_I T v (.java f0 :: G1)) mk cm below := fun v hv f0 => own_at h0 hv.alike f0 hG1' own_pfF hn1 hm1 hc1
  refine own_go st1 ?_
  rw [show entryFrame mk [Value.double 0, Value.double 9223372036854775808, Value.double FP.dconst1, Value.double FP.dconst1].toArray 15 = (mkF mk 0 #[.val (.double 0), .second, .val (.double 9223372036854775808), .second, .val (.double FP.dconst1), .second, .val (.double FP.dconst1), .second, .unset, .unset, .unset, .unset, .unset, .unset, .unset] []) from ef_F mk 0 9223372036854775808 FP.dconst1 FP.dconst1]
  obtain ⟨U3, hU3⟩ : ∃ z, z = own_I T v1 (.java (mkF mk 0 #[] []) :: G1) := ⟨_, rfl⟩
  have B3 : At U3 mk cm below := by rw [hU3]; exact A1 v1 hW1 _
  have t3 : ∀ f, U3.setTop f = own_I T v1 (.java f :: G1) := fun f => by rw [hU3]; exact own_top hc _ _ _ _
  have V3 : s.WarmedH U3.vm := by rw [hU3]; exact hW1
  rw [← t3]
  show own_Goes p e below _ (U3.setTop (mkF mk 0 #[.val (.double 0), .second, .val (.double 9223372036854775808), .second, .val (.double FP.dconst1), .second, .val (.double FP.dconst1), .second, .unset, .unset, .unset, .unset, .unset, .unset, .unset] []))
  refine own_go (fun _ own_k => XS.dloadN B3 hx rfl (hb hby dF_0) rfl own_k) ?_
  show own_Goes p e below _ (U3.setTop (mkF mk 1 #[.val (.double 0), .second, .val (.double 9223372036854775808), .second, .val (.double FP.dconst1), .second, .val (.double FP.dconst1), .second, .unset, .unset, .unset, .unset, .unset, .unset, .unset] [(.double 0)]))
  obtain ⟨v2, hW2, st2⟩ := own_gexR hw hZ hx hadm h0 hW1 hG1' (g := (mkF mk 1 #[.val (.double 0), .second, .val (.double 9223372036854775808), .second, .val (.double FP.dconst1), .second, .val (.double FP.dconst1), .second, .unset, .unset, .unset, .unset, .unset, .unset, .unset] [(.double 0)])) (A1 v1 hW1 _) hown1 hcm1 (rest := []) rfl (hb hby dF_1) (by omega) (by rw [own_wt]; show 11 + 15 + 2 * 0 + 0 + stackWeight G1 + 40 ≤ _; omega)
  rw [t3]
  refine own_go st2 ?_
  rw [own_ex0]
  show own_Goes p e below _ (own_I T v2 (.java (mkF mk 4 #[.val (.double 0), .second, .val (.double 9223372036854775808), .second, .val (.double FP.dconst1), .second, .val (.double FP.dconst1), .second, .unset, .unset, .unset, .unset, .unset, .unset, .unset] [(.int (-1023 : Int32))]) :: G1))
  obtain ⟨U4, hU4⟩ : ∃ z, z = own_I T v2 (.java (mkF mk 0 #[] []) :: G1) := ⟨_, rfl⟩
  have B4 : At U4 mk cm below := by rw [hU4]; exact A1 v2 hW2 _
  have t4 : ∀ f, U4.setTop f = own_I T v2 (.java f :: G1) := fun f => by rw [hU4]; exact own_top hc _ _ _ _
  have V4 : s.WarmedH U4.vm := by rw [hU4]; exact hW2
  rw [← t4]
  show own_Goes p e below _ (U4.setTop (mkF mk 4 #[.val (.double 0), .second, .val (.double 9223372036854775808), .second, .val (.double FP.dconst1), .second, .val (.double FP.dconst1), .second, .unset, .unset, .unset, .unset, .unset, .unset, .unset] [(.int (-1023 : Int32))]))
  refine own_go (fun _ own_k => XS.istore B4 hx rfl (hb hby dF_4) rfl (l' := #[.val (.double 0), .second, .val (.double 9223372036854775808), .second, .val (.double FP.dconst1), .second, .val (.double FP.dconst1), .second, .val (.int (-1023 : Int32)), .unset, .unset, .unset, .unset, .unset, .unset]) rfl own_k) ?_
  show own_Goes p e below _ (U4.setTop (mkF mk 6 #[.val (.double 0), .second, .val (.double 9223372036854775808), .second, .val (.double FP.dconst1), .second, .val (.double FP.dconst1), .second, .val (.int (-1023 : Int32)), .unset, .unset, .unset, .unset, .unset, .unset] []))
  refine own_go (fun _ own_k => XS.iload B4 hx rfl (hb hby dF_6) rfl own_k) ?_
  show own_Goes p e below _ (U4.setTop (mkF mk 8 #[.val (.double 0), .second, .val (.double 9223372036854775808), .second, .val (.double FP.dconst1), .second, .val (.double FP.dconst1), .second, .val (.int (-1023 : Int32)), .unset, .unset, .unset, .unset, .unset, .unset] [(.int (-1023 : Int32))]))
  refine own_go (fun _ own_k => XS.ifNo B4 hx rfl (hb hby dF_8) rfl (by decide) own_k) ?_
  show own_Goes p e below _ (U4.setTop (mkF mk 11 #[.val (.double 0), .second, .val (.double 9223372036854775808), .second, .val (.double FP.dconst1), .second, .val (.double FP.dconst1), .second, .val (.int (-1023 : Int32)), .unset, .unset, .unset, .unset, .unset, .unset] []))
  refine own_go (fun _ own_k => XS.dloadN B4 hx rfl (hb hby dF_11) rfl own_k) ?_
  show own_Goes p e below _ (U4.setTop (mkF mk 12 #[.val (.double 0), .second, .val (.double 9223372036854775808), .second, .val (.double FP.dconst1), .second, .val (.double FP.dconst1), .second, .val (.int (-1023 : Int32)), .unset, .unset, .unset, .unset, .unset, .unset] [(.double 0)]))
  refine own_go (fun _ own_k => XS.dconst0 B4 hx rfl (hb hby dF_12) rfl own_k) ?_
  show own_Goes p e below _ (U4.setTop (mkF mk 13 #[.val (.double 0), .second, .val (.double 9223372036854775808), .second, .val (.double FP.dconst1), .second, .val (.double FP.dconst1), .second, .val (.int (-1023 : Int32)), .unset, .unset, .unset, .unset, .unset, .unset] [(.double FP.dconst0), (.double 0)]))
  refine own_go (fun _ own_k => XS.dcmpS B4 hx rfl (hb hby dF_13) rfl own_dl0 own_k) ?_
  show own_Goes p e below _ (U4.setTop (mkF mk 14 #[.val (.double 0), .second, .val (.double 9223372036854775808), .second, .val (.double FP.dconst1), .second, .val (.double FP.dconst1), .second, .val (.int (-1023 : Int32)), .unset, .unset, .unset, .unset, .unset, .unset] [(.int (0 : Int32))]))
  refine own_go (fun _ own_k => XS.ifNo B4 hx rfl (hb hby dF_14) rfl (by decide) own_k) ?_
  show own_Goes p e below _ (U4.setTop (mkF mk 17 #[.val (.double 0), .second, .val (.double 9223372036854775808), .second, .val (.double FP.dconst1), .second, .val (.double FP.dconst1), .second, .val (.int (-1023 : Int32)), .unset, .unset, .unset, .unset, .unset, .unset] []))
  refine own_go (fun _ own_k => XS.dloadN B4 hx rfl (hb hby dF_17) rfl own_k) ?_
  show own_Goes p e below _ (U4.setTop (mkF mk 18 #[.val (.double 0), .second, .val (.double 9223372036854775808), .second, .val (.double FP.dconst1), .second, .val (.double FP.dconst1), .second, .val (.int (-1023 : Int32)), .unset, .unset, .unset, .unset, .unset, .unset] [(.double 0)]))
  refine own_go (fun _ own_k => XS.goto B4 hx rfl (pc0 := 18) (pc' := 33) rfl (hb hby dF_18) (by decide) (by decide) own_k) ?_
  show own_Goes p e below _ (U4.setTop (mkF mk 33 #[.val (.double 0), .second, .val (.double 9223372036854775808), .second, .val (.double FP.dconst1), .second, .val (.double FP.dconst1), .second, .val (.int (-1023 : Int32)), .unset, .unset, .unset, .unset, .unset, .unset] [(.double 0)]))
  refine own_go (own_retD' (S := own_I T v2 (.java { g with pc := g.pc + 3, stack := .double 0 :: rest } :: G)) B4 hx (mt := mt) (by rw [hU4]; show v2.method? mk = some mt; rw [hW2.alike.method?]; exact hm1) hret (hb hby dF_33) (fun f acts h1 h2 h3 => by rw [hU4, hG1]; exact own_leave hc hW2.alike hm1 hlk (g := { g with stack := rest }) hcg hdg f acts h1 h2 h3)) ?_
  exact ⟨_, Steps.refl _, v2, hW2, rfl⟩
theorem own_exh : own_ex 4602678819172646912 = (-1 : Int32) := by decide +kernel
theorem own_dlh : cmpValue (FP.dcmp 4602678819172646912 FP.dconst0) .l = 1 := by decide +kernel
theorem own_dgh : cmpValue (FP.dcmp 4602678819172646912 FP.dconst0) .g = 1 := by decide +kernel
set_option maxRecDepth 65536 in
set_option maxHeartbeats 40000000 in
theorem own_focRh {p : Program} {l : Launch} {e : Env} {s : State} {below : List Frame} {Z : State} {a0 : Array Value} (hw : ∀ d ∈ tables_1, d.before a0 Z = true) (hZ : Z.Warmed39 s.vm) (hx : p.tables.exec = Jvm.exec) (hadm : l.admits e) {T : State} {m0 : MethodId} {c0 : Code} (h0 : At T m0 c0 below) {h : Heap} (SA : Sta Z h "java/lang/StrictMath" "$assertionsDisabled" "Z" (.int 1)) (eT : T.heap = h) {v : Vm} (hW : s.WarmedH v) {G : List Frame} (hG : ∃ mid, G = mid ++ below) {g : JFrame} {cg : Code} (hA : At (own_I T v (.java g :: G)) g.method cg below) (hown : s.vm.findClass "java/lang/StrictMath" = some g.method.cls) (hcg : s.code? g.method = some cg) {rest : List Value} (hstack : g.stack = .double FP.dconst1 :: .double FP.dconst1 :: .double 9223372036854775808 :: .double 4602678819172646912 :: rest) (hdg : decode cg.code g.pc = .ok (.invokestatic 60, 3)) (q1 : G.length + 5 ≤ (e.platform.stackLimits T.me).1) (q2 : stackWeight (.java { g with stack := rest } :: G) + 66 ≤ (e.platform.stackLimits T.me).2) :
    ∃ v', s.WarmedH v' ∧ ∀ target, Steps p.tables e below (own_I T v' (.java { g with pc := g.pc + 3, stack := .double 4607182418800017408 :: rest } :: G)) target → Steps p.tables e below (own_I T v (.java g :: G)) target := by
  have hc : T.cur < T.threads.size := State.cur_lt_of_top h0.top
  suffices H : own_Goes p e below (fun t => ∃ v', s.WarmedH v' ∧ t = own_I T v' (.java { g with pc := g.pc + 3, stack := .double 4607182418800017408 :: rest } :: G)) (own_I T v (.java g :: G)) by
    obtain ⟨t, h1, v', h2, rfl⟩ := H
    exact ⟨v', h2, fun target k => h1.trans k⟩
  obtain ⟨v1, mk, mt, cm, hW1, hn1, hm1, hc1, hby, hml, hret, hlk, st1⟩ := own_nest (args := #[]) (p := p) hc hx hadm hW hA (y := own_focN) hown (mvT hZ (hw _ (List.mem_of_getElem? (i := 28) rfl))) (mvT hZ (hw _ (List.mem_of_getElem? (i := 29) rfl))) (mvT hZ (hw _ (List.mem_of_getElem? (i := 25) rfl))) (mvT hZ (hw _ (List.mem_of_getElem? (i := 30) rfl))) (by decide) (argsL := [.double 4602678819172646912, .double 9223372036854775808, .double FP.dconst1, .double FP.dconst1]) (rest := rest) pd_4D rfl hstack hdg (by simp only [List.length_cons]; omega) (by omega)
  obtain ⟨G1, hG1⟩ : ∃ z, z = (Frame.java { g with stack := rest } :: G) := ⟨_, rfl⟩
  have hG1' : ∃ mid, G1 = mid ++ below := by
    obtain ⟨mid, q⟩ := hG
    exact ⟨.java { g with stack := rest } :: mid, by rw [hG1, q]; rfl⟩
  have hlen1 : G1.length = G.length + 1 := by rw [hG1]; rfl
  rw [← hG1] at st1 q2
  have hown1 : s.vm.findClass "java/lang/StrictMath" = some mk.cls := findClass_of_methodNamed hn1
  have hcm1 : s.code? mk = some cm := by rw [State.code?_eq, hm1]; exact hc1
  have A1 : ∀ (v : Vm) (hv : s.WarmedH v) (f0 : JFrame), At (own_I T v (.java f0 :: G1)) mk cm below := fun v hv f0 => own_at h0 hv.alike f0 hG1' own_pfF hn1 hm1 hc1
  refine own_go st1 ?_
  rw [show entryFrame mk [Value.double 4602678819172646912, Value.double 9223372036854775808, Value.double FP.dconst1, Value.double FP.dconst1].toArray 15 = (mkF mk 0 #[.val (.double 4602678819172646912), .second, .val (.double 9223372036854775808), .second, .val (.double FP.dconst1), .second, .val (.double FP.dconst1), .second, .unset, .unset, .unset, .unset, .unset, .unset, .unset] []) from ef_F mk 4602678819172646912 9223372036854775808 FP.dconst1 FP.dconst1]
  obtain ⟨U5, hU5⟩ : ∃ z, z = own_I T v1 (.java (mkF mk 0 #[] []) :: G1) := ⟨_, rfl⟩
  have B5 : At U5 mk cm below := by rw [hU5]; exact A1 v1 hW1 _
  have t5 : ∀ f, U5.setTop f = own_I T v1 (.java f :: G1) := fun f => by rw [hU5]; exact own_top hc _ _ _ _
  have V5 : s.WarmedH U5.vm := by rw [hU5]; exact hW1
  rw [← t5]
  show own_Goes p e below _ (U5.setTop (mkF mk 0 #[.val (.double 4602678819172646912), .second, .val (.double 9223372036854775808), .second, .val (.double FP.dconst1), .second, .val (.double FP.dconst1), .second, .unset, .unset, .unset, .unset, .unset, .unset, .unset] []))
  refine own_go (fun _ own_k => XS.dloadN B5 hx rfl (hb hby dF_0) rfl own_k) ?_
  show own_Goes p e below _ (U5.setTop (mkF mk 1 #[.val (.double 4602678819172646912), .second, .val (.double 9223372036854775808), .second, .val (.double FP.dconst1), .second, .val (.double FP.dconst1), .second, .unset, .unset, .unset, .unset, .unset, .unset, .unset] [(.double 4602678819172646912)]))
  obtain ⟨v2, hW2, st2⟩ := own_gexR hw hZ hx hadm h0 hW1 hG1' (g := (mkF mk 1 #[.val (.double 4602678819172646912), .second, .val (.double 9223372036854775808), .second, .val (.double FP.dconst1), .second, .val (.double FP.dconst1), .second, .unset, .unset, .unset, .unset, .unset, .unset, .unset] [(.double 4602678819172646912)])) (A1 v1 hW1 _) hown1 hcm1 (rest := []) rfl (hb hby dF_1) (by omega) (by rw [own_wt]; show 11 + 15 + 2 * 0 + 0 + stackWeight G1 + 40 ≤ _; omega)
  rw [t5]
  refine own_go st2 ?_
  rw [own_exh]
  show own_Goes p e below _ (own_I T v2 (.java (mkF mk 4 #[.val (.double 4602678819172646912), .second, .val (.double 9223372036854775808), .second, .val (.double FP.dconst1), .second, .val (.double FP.dconst1), .second, .unset, .unset, .unset, .unset, .unset, .unset, .unset] [(.int (-1 : Int32))]) :: G1))
  obtain ⟨U6, hU6⟩ : ∃ z, z = own_I T v2 (.java (mkF mk 0 #[] []) :: G1) := ⟨_, rfl⟩
  have B6 : At U6 mk cm below := by rw [hU6]; exact A1 v2 hW2 _
  have t6 : ∀ f, U6.setTop f = own_I T v2 (.java f :: G1) := fun f => by rw [hU6]; exact own_top hc _ _ _ _
  have V6 : s.WarmedH U6.vm := by rw [hU6]; exact hW2
  rw [← t6]
  show own_Goes p e below _ (U6.setTop (mkF mk 4 #[.val (.double 4602678819172646912), .second, .val (.double 9223372036854775808), .second, .val (.double FP.dconst1), .second, .val (.double FP.dconst1), .second, .unset, .unset, .unset, .unset, .unset, .unset, .unset] [(.int (-1 : Int32))]))
  refine own_go (fun _ own_k => XS.istore B6 hx rfl (hb hby dF_4) rfl (l' := #[.val (.double 4602678819172646912), .second, .val (.double 9223372036854775808), .second, .val (.double FP.dconst1), .second, .val (.double FP.dconst1), .second, .val (.int (-1 : Int32)), .unset, .unset, .unset, .unset, .unset, .unset]) rfl own_k) ?_
  show own_Goes p e below _ (U6.setTop (mkF mk 6 #[.val (.double 4602678819172646912), .second, .val (.double 9223372036854775808), .second, .val (.double FP.dconst1), .second, .val (.double FP.dconst1), .second, .val (.int (-1 : Int32)), .unset, .unset, .unset, .unset, .unset, .unset] []))
  refine own_go (fun _ own_k => XS.iload B6 hx rfl (hb hby dF_6) rfl own_k) ?_
  show own_Goes p e below _ (U6.setTop (mkF mk 8 #[.val (.double 4602678819172646912), .second, .val (.double 9223372036854775808), .second, .val (.double FP.dconst1), .second, .val (.double FP.dconst1), .second, .val (.int (-1 : Int32)), .unset, .unset, .unset, .unset, .unset, .unset] [(.int (-1 : Int32))]))
  refine own_go (fun _ own_k => XS.ifNo B6 hx rfl (hb hby dF_8) rfl (by decide) own_k) ?_
  show own_Goes p e below _ (U6.setTop (mkF mk 11 #[.val (.double 4602678819172646912), .second, .val (.double 9223372036854775808), .second, .val (.double FP.dconst1), .second, .val (.double FP.dconst1), .second, .val (.int (-1 : Int32)), .unset, .unset, .unset, .unset, .unset, .unset] []))
  refine own_go (fun _ own_k => XS.dloadN B6 hx rfl (hb hby dF_11) rfl own_k) ?_
  show own_Goes p e below _ (U6.setTop (mkF mk 12 #[.val (.double 4602678819172646912), .second, .val (.double 9223372036854775808), .second, .val (.double FP.dconst1), .second, .val (.double FP.dconst1), .second, .val (.int (-1 : Int32)), .unset, .unset, .unset, .unset, .unset, .unset] [(.double 4602678819172646912)]))
  refine own_go (fun _ own_k => XS.dconst0 B6 hx rfl (hb hby dF_12) rfl own_k) ?_
  show own_Goes p e below _ (U6.setTop (mkF mk 13 #[.val (.double 4602678819172646912), .second, .val (.double 9223372036854775808), .second, .val (.double FP.dconst1), .second, .val (.double FP.dconst1), .second, .val (.int (-1 : Int32)), .unset, .unset, .unset, .unset, .unset, .unset] [(.double FP.dconst0), (.double 4602678819172646912)]))
  refine own_go (fun _ own_k => XS.dcmpS B6 hx rfl (hb hby dF_13) rfl own_dlh own_k) ?_
  show own_Goes p e below _ (U6.setTop (mkF mk 14 #[.val (.double 4602678819172646912), .second, .val (.double 9223372036854775808), .second, .val (.double FP.dconst1), .second, .val (.double FP.dconst1), .second, .val (.int (-1 : Int32)), .unset, .unset, .unset, .unset, .unset, .unset] [(.int (1 : Int32))]))
  refine own_go (fun _ own_k => XS.ifYes B6 hx rfl (pc0 := 14) (pc' := 21) rfl (hb hby dF_14) rfl (by decide) (by decide) (by decide) own_k) ?_
  show own_Goes p e below _ (U6.setTop (mkF mk 21 #[.val (.double 4602678819172646912), .second, .val (.double 9223372036854775808), .second, .val (.double FP.dconst1), .second, .val (.double FP.dconst1), .second, .val (.int (-1 : Int32)), .unset, .unset, .unset, .unset, .unset, .unset] []))
  refine own_go (fun _ own_k => XS.dloadN B6 hx rfl (hb hby dF_21) rfl own_k) ?_
  show own_Goes p e below _ (U6.setTop (mkF mk 22 #[.val (.double 4602678819172646912), .second, .val (.double 9223372036854775808), .second, .val (.double FP.dconst1), .second, .val (.double FP.dconst1), .second, .val (.int (-1 : Int32)), .unset, .unset, .unset, .unset, .unset, .unset] [(.double 4602678819172646912)]))
  refine own_go (fun _ own_k => XS.dconst0 B6 hx rfl (hb hby dF_22) rfl own_k) ?_
  show own_Goes p e below _ (U6.setTop (mkF mk 23 #[.val (.double 4602678819172646912), .second, .val (.double 9223372036854775808), .second, .val (.double FP.dconst1), .second, .val (.double FP.dconst1), .second, .val (.int (-1 : Int32)), .unset, .unset, .unset, .unset, .unset, .unset] [(.double FP.dconst0), (.double 4602678819172646912)]))
  refine own_go (fun _ own_k => XS.dcmpS B6 hx rfl (hb hby dF_23) rfl own_dgh own_k) ?_
  show own_Goes p e below _ (U6.setTop (mkF mk 24 #[.val (.double 4602678819172646912), .second, .val (.double 9223372036854775808), .second, .val (.double FP.dconst1), .second, .val (.double FP.dconst1), .second, .val (.int (-1 : Int32)), .unset, .unset, .unset, .unset, .unset, .unset] [(.int (1 : Int32))]))
  refine own_go (fun _ own_k => XS.ifYes B6 hx rfl (pc0 := 24) (pc' := 31) rfl (hb hby dF_24) rfl (by decide) (by decide) (by decide) own_k) ?_
  show own_Goes p e below _ (U6.setTop (mkF mk 31 #[.val (.double 4602678819172646912), .second, .val (.double 9223372036854775808), .second, .val (.double FP.dconst1), .second, .val (.double FP.dconst1), .second, .val (.int (-1 : Int32)), .unset, .unset, .unset, .unset, .unset, .unset] []))
  refine own_go (fun _ own_k => XS.dload B6 hx rfl (hb hby dF_31) rfl own_k) ?_
  show own_Goes p e below _ (U6.setTop (mkF mk 33 #[.val (.double 4602678819172646912), .second, .val (.double 9223372036854775808), .second, .val (.double FP.dconst1), .second, .val (.double FP.dconst1), .second, .val (.int (-1 : Int32)), .unset, .unset, .unset, .unset, .unset, .unset] [(.double FP.dconst1)]))
  show own_Goes p e below _ (U6.setTop (mkF mk 33 #[.val (.double 4602678819172646912), .second, .val (.double 9223372036854775808), .second, .val (.double FP.dconst1), .second, .val (.double FP.dconst1), .second, .val (.int (-1 : Int32)), .unset, .unset, .unset, .unset, .unset, .unset] [(.double 4607182418800017408)]))
  refine own_go (own_retD' (S := own_I T v2 (.java { g with pc := g.pc + 3, stack := .double 4607182418800017408 :: rest } :: G)) B6 hx (mt := mt) (by rw [hU6]; show v2.method? mk = some mt; rw [hW2.alike.method?]; exact hm1) hret (hb hby dF_33) (fun f acts h1 h2 h3 => by rw [hU6, hG1]; exact own_leave hc hW2.alike hm1 hlk (g := { g with stack := rest }) hcg hdg f acts h1 h2 h3)) ?_
  exact ⟨_, Steps.refl _, v2, hW2, rfl⟩
theorem own_ex1 : own_ex 4607182418800017408 = (0 : Int32) := by decide +kernel
set_option maxRecDepth 65536 in
set_option maxHeartbeats 40000000 in
theorem own_focR1 {p : Program} {l : Launch} {e : Env} {s : State} {below : List Frame} {Z : State} {a0 : Array Value} (hw : ∀ d ∈ tables_1, d.before a0 Z = true) (hZ : Z.Warmed39 s.vm) (hx : p.tables.exec = Jvm.exec) (hadm : l.admits e) {T : State} {m0 : MethodId} {c0 : Code} (h0 : At T m0 c0 below) {h : Heap} (SA : Sta Z h "java/lang/StrictMath" "$assertionsDisabled" "Z" (.int 1)) (eT : T.heap = h) {v : Vm} (hW : s.WarmedH v) {G : List Frame} (hG : ∃ mid, G = mid ++ below) {g : JFrame} {cg : Code} (hA : At (own_I T v (.java g :: G)) g.method cg below) (hown : s.vm.findClass "java/lang/StrictMath" = some g.method.cls) (hcg : s.code? g.method = some cg) {rest : List Value} (hstack : g.stack = .double FP.dconst1 :: .double FP.dconst1 :: .double 9223372036854775808 :: .double 4607182418800017408 :: rest) (hdg : decode cg.code g.pc = .ok (.invokestatic 60, 3)) (q1 : G.length + 5 ≤ (e.platform.stackLimits T.me).1) (q2 : stackWeight (.java { g with stack := rest } :: G) + 66 ≤ (e.platform.stackLimits T.me).2) :
    ∃ v', s.WarmedH v' ∧ ∀ target, Steps p.tables e below (own_I T v' (.java { g with pc := g.pc + 3, stack := .double 4607182418800017408 :: rest } :: G)) target → Steps p.tables e below (own_I T v (.java g :: G)) target := by
  have hc : T.cur < T.threads.size := State.cur_lt_of_top h0.top
  suffices H : own_Goes p e below (fun t => ∃ v', s.WarmedH v' ∧ t = own_I T v' (.java { g with pc := g.pc + 3, stack := .double 4607182418800017408 :: rest } :: G)) (own_I T v (.java g :: G)) by
    obtain ⟨t, h1, v', h2, rfl⟩ := H
    exact ⟨v', h2, fun target k => h1.trans k⟩
  obtain ⟨v1, mk, mt, cm, hW1, hn1, hm1, hc1, hby, hml, hret, hlk, st1⟩ := own_nest (args := #[]) (p := p) hc hx hadm hW hA (y := own_focN) hown (mvT hZ (hw _ (List.mem_of_getElem? (i := 28) rfl))) (mvT hZ (hw _ (List.mem_of_getElem? (i := 29) rfl))) (mvT hZ (hw _ (List.mem_of_getElem? (i := 25) rfl))) (mvT hZ (hw _ (List.mem_of_getElem? (i := 30) rfl))) (by decide) (argsL := [.double 4607182418800017408, .double 9223372036854775808, .double FP.dconst1, .double FP.dconst1]) (rest := rest) pd_4D rfl hstack hdg (by simp only [List.length_cons]; omega) (by omega)
  obtain ⟨G1, hG1⟩ : ∃ z, z = (Frame.java { g with stack := rest } :: G) := ⟨_, rfl⟩
  have hG1' : ∃ mid, G1 = mid ++ below := by
    obtain ⟨mid, q⟩ := hG
    exact ⟨.java { g with stack := rest } :: mid, by rw [hG1, q]; rfl⟩
  have hlen1 : G1.length = G.length + 1 := by rw [hG1]; rfl
  rw [← hG1] at st1 q2
  have hown1 : s.vm.findClass "java/lang/StrictMath" = some mk.cls := findClass_of_methodNamed hn1
  have hcm1 : s.code? mk = some cm := by rw [State.code?_eq, hm1]; exact hc1
  have A1 : ∀ (v : Vm) (hv : s.WarmedH v) (f0 : JFrame), At (own_I T v (.java f0 :: G1)) mk cm below := fun v hv f0 => own_at h0 hv.alike f0 hG1' own_pfF hn1 hm1 hc1
  refine own_go st1 ?_
  rw [show entryFrame mk [Value.double 4607182418800017408, Value.double 9223372036854775808, Value.double FP.dconst1, Value.double FP.dconst1].toArray 15 = (mkF mk 0 #[.val (.double 4607182418800017408), .second, .val (.double 9223372036854775808), .second, .val (.double FP.dconst1), .second, .val (.double FP.dconst1), .second, .unset, .unset, .unset, .unset, .unset, .unset, .unset] []) from ef_F mk 4607182418800017408 9223372036854775808 FP.dconst1 FP.dconst1]
  obtain ⟨U7, hU7⟩ : ∃ z, z = own_I T v1 (.java (mkF mk 0 #[] []) :: G1) := ⟨_, rfl⟩
  have B7 : At U7 mk cm below := by rw [hU7]; exact A1 v1 hW1 _
  have t7 : ∀ f, U7.setTop f = own_I T v1 (.java f :: G1) := fun f => by rw [hU7]; exact own_top hc _ _ _ _
  have V7 : s.WarmedH U7.vm := by rw [hU7]; exact hW1
  rw [← t7]
  show own_Goes p e below _ (U7.setTop (mkF mk 0 #[.val (.double 4607182418800017408), .second, .val (.double 9223372036854775808), .second, .val (.double FP.dconst1), .second, .val (.double FP.dconst1), .second, .unset, .unset, .unset, .unset, .unset, .unset, .unset] []))
  refine own_go (fun _ own_k => XS.dloadN B7 hx rfl (hb hby dF_0) rfl own_k) ?_
  show own_Goes p e below _ (U7.setTop (mkF mk 1 #[.val (.double 4607182418800017408), .second, .val (.double 9223372036854775808), .second, .val (.double FP.dconst1), .second, .val (.double FP.dconst1), .second, .unset, .unset, .unset, .unset, .unset, .unset, .unset] [(.double 4607182418800017408)]))
  obtain ⟨v2, hW2, st2⟩ := own_gexR hw hZ hx hadm h0 hW1 hG1' (g := (mkF mk 1 #[.val (.double 4607182418800017408), .second, .val (.double 9223372036854775808), .second, .val (.double FP.dconst1), .second, .val (.double FP.dconst1), .second, .unset, .unset, .unset, .unset, .unset, .unset, .unset] [(.double 4607182418800017408)])) (A1 v1 hW1 _) hown1 hcm1 (rest := []) rfl (hb hby dF_1) (by omega) (by rw [own_wt]; show 11 + 15 + 2 * 0 + 0 + stackWeight G1 + 40 ≤ _; omega)
  rw [t7]
  refine own_go st2 ?_
  rw [own_ex1]
  show own_Goes p e below _ (own_I T v2 (.java (mkF mk 4 #[.val (.double 4607182418800017408), .second, .val (.double 9223372036854775808), .second, .val (.double FP.dconst1), .second, .val (.double FP.dconst1), .second, .unset, .unset, .unset, .unset, .unset, .unset, .unset] [(.int (0 : Int32))]) :: G1))
  obtain ⟨U8, hU8⟩ : ∃ z, z = own_I T v2 (.java (mkF mk 0 #[] []) :: G1) := ⟨_, rfl⟩
  have B8 : At U8 mk cm below := by rw [hU8]; exact A1 v2 hW2 _
  have t8 : ∀ f, U8.setTop f = own_I T v2 (.java f :: G1) := fun f => by rw [hU8]; exact own_top hc _ _ _ _
  have V8 : s.WarmedH U8.vm := by rw [hU8]; exact hW2
  rw [← t8]
  show own_Goes p e below _ (U8.setTop (mkF mk 4 #[.val (.double 4607182418800017408), .second, .val (.double 9223372036854775808), .second, .val (.double FP.dconst1), .second, .val (.double FP.dconst1), .second, .unset, .unset, .unset, .unset, .unset, .unset, .unset] [(.int (0 : Int32))]))
  refine own_go (fun _ own_k => XS.istore B8 hx rfl (hb hby dF_4) rfl (l' := #[.val (.double 4607182418800017408), .second, .val (.double 9223372036854775808), .second, .val (.double FP.dconst1), .second, .val (.double FP.dconst1), .second, .val (.int (0 : Int32)), .unset, .unset, .unset, .unset, .unset, .unset]) rfl own_k) ?_
  show own_Goes p e below _ (U8.setTop (mkF mk 6 #[.val (.double 4607182418800017408), .second, .val (.double 9223372036854775808), .second, .val (.double FP.dconst1), .second, .val (.double FP.dconst1), .second, .val (.int (0 : Int32)), .unset, .unset, .unset, .unset, .unset, .unset] []))
  refine own_go (fun _ own_k => XS.iload B8 hx rfl (hb hby dF_6) rfl own_k) ?_
  show own_Goes p e below _ (U8.setTop (mkF mk 8 #[.val (.double 4607182418800017408), .second, .val (.double 9223372036854775808), .second, .val (.double FP.dconst1), .second, .val (.double FP.dconst1), .second, .val (.int (0 : Int32)), .unset, .unset, .unset, .unset, .unset, .unset] [(.int (0 : Int32))]))
  refine own_go (fun _ own_k => XS.ifYes B8 hx rfl (pc0 := 8) (pc' := 34) rfl (hb hby dF_8) rfl (by decide) (by decide) (by decide) own_k) ?_
  show own_Goes p e below _ (U8.setTop (mkF mk 34 #[.val (.double 4607182418800017408), .second, .val (.double 9223372036854775808), .second, .val (.double FP.dconst1), .second, .val (.double FP.dconst1), .second, .val (.int (0 : Int32)), .unset, .unset, .unset, .unset, .unset, .unset] []))
  refine own_go (fun _ own_k => XS.iload B8 hx rfl (hb hby dF_34) rfl own_k) ?_
  show own_Goes p e below _ (U8.setTop (mkF mk 36 #[.val (.double 4607182418800017408), .second, .val (.double 9223372036854775808), .second, .val (.double FP.dconst1), .second, .val (.double FP.dconst1), .second, .val (.int (0 : Int32)), .unset, .unset, .unset, .unset, .unset, .unset] [(.int (0 : Int32))]))
  refine own_go (fun _ own_k => XS.bipush B8 hx rfl (hb hby dF_36) own_k) ?_
  show own_Goes p e below _ (U8.setTop (mkF mk 38 #[.val (.double 4607182418800017408), .second, .val (.double 9223372036854775808), .second, .val (.double FP.dconst1), .second, .val (.double FP.dconst1), .second, .val (.int (0 : Int32)), .unset, .unset, .unset, .unset, .unset, .unset] [(.int (52 : Int32)), (.int (0 : Int32))]))
  refine own_go (fun _ own_k => XS.icmpYes B8 hx rfl (pc0 := 38) (pc' := 43) rfl (hb hby dF_38) rfl (by decide) (by decide) (by decide) own_k) ?_
  show own_Goes p e below _ (U8.setTop (mkF mk 43 #[.val (.double 4607182418800017408), .second, .val (.double 9223372036854775808), .second, .val (.double FP.dconst1), .second, .val (.double FP.dconst1), .second, .val (.int (0 : Int32)), .unset, .unset, .unset, .unset, .unset, .unset] []))
  obtain ⟨v3, hW3, st3⟩ := own_sget (args := #[]) (p := p) hc hx hadm hW2 (g := (mkF mk 43 #[.val (.double 4607182418800017408), .second, .val (.double 9223372036854775808), .second, .val (.double FP.dconst1), .second, .val (.double FP.dconst1), .second, .val (.int (0 : Int32)), .unset, .unset, .unset, .unset, .unset, .unset] [])) (A1 v2 hW2 _) hown1 (mvT hZ (hw _ (List.mem_of_getElem? (i := 68) rfl))) hZ SA eT (hb hby dF_43)
  rw [t8]
  refine own_go st3 ?_
  show own_Goes p e below _ (own_I T v3 (.java (mkF mk 46 #[.val (.double 4607182418800017408), .second, .val (.double 9223372036854775808), .second, .val (.double FP.dconst1), .second, .val (.double FP.dconst1), .second, .val (.int (0 : Int32)), .unset, .unset, .unset, .unset, .unset, .unset] [(.int (1 : Int32))]) :: G1))
  obtain ⟨U9, hU9⟩ : ∃ z, z = own_I T v3 (.java (mkF mk 0 #[] []) :: G1) := ⟨_, rfl⟩
  have B9 : At U9 mk cm below := by rw [hU9]; exact A1 v3 hW3 _
  have t9 : ∀ f, U9.setTop f = own_I T v3 (.java f :: G1) := fun f => by rw [hU9]; exact own_top hc _ _ _ _
  have V9 : s.WarmedH U9.vm := by rw [hU9]; exact hW3
  rw [← t9]
  show own_Goes p e below _ (U9.setTop (mkF mk 46 #[.val (.double 4607182418800017408), .second, .val (.double 9223372036854775808), .second, .val (.double FP.dconst1), .second, .val (.double FP.dconst1), .second, .val (.int (0 : Int32)), .unset, .unset, .unset, .unset, .unset, .unset] [(.int (1 : Int32))]))
  refine own_go (fun _ own_k => XS.ifYes B9 hx rfl (pc0 := 46) (pc' := 69) rfl (hb hby dF_46) rfl (by decide) (by decide) (by decide) own_k) ?_
  show own_Goes p e below _ (U9.setTop (mkF mk 69 #[.val (.double 4607182418800017408), .second, .val (.double 9223372036854775808), .second, .val (.double FP.dconst1), .second, .val (.double FP.dconst1), .second, .val (.int (0 : Int32)), .unset, .unset, .unset, .unset, .unset, .unset] []))
  refine own_go (fun _ own_k => XS.dloadN B9 hx rfl (hb hby dF_69) rfl own_k) ?_
  show own_Goes p e below _ (U9.setTop (mkF mk 70 #[.val (.double 4607182418800017408), .second, .val (.double 9223372036854775808), .second, .val (.double FP.dconst1), .second, .val (.double FP.dconst1), .second, .val (.int (0 : Int32)), .unset, .unset, .unset, .unset, .unset, .unset] [(.double 4607182418800017408)]))
  obtain ⟨v4, hW4, st4⟩ := own_nat (args := #[]) (p := p) hc hx hadm hW3 (g := (mkF mk 70 #[.val (.double 4607182418800017408), .second, .val (.double 9223372036854775808), .second, .val (.double FP.dconst1), .second, .val (.double FP.dconst1), .second, .val (.int (0 : Int32)), .unset, .unset, .unset, .unset, .unset, .unset] [(.double 4607182418800017408)])) (A1 v3 hW3 _) hown1 (mvT hZ (hw _ (List.mem_of_getElem? (i := 69) rfl))) (mvT hZ (hw _ (List.mem_of_getElem? (i := 37) rfl))) (mvT hZ (hw _ (List.mem_of_getElem? (i := 35) rfl))) (mvT hZ (hw _ (List.mem_of_getElem? (i := 36) rfl))) (rest := []) rfl (hb hby dF_70) (by simp only [List.length_cons]; omega) (by rw [own_wt]; show 11 + 15 + 2 * 0 + 0 + stackWeight G1 + 4 + 11 ≤ _; omega)
  rw [t9]
  refine own_go st4 ?_
  show own_Goes p e below _ (own_I T v4 (.java (mkF mk 73 #[.val (.double 4607182418800017408), .second, .val (.double 9223372036854775808), .second, .val (.double FP.dconst1), .second, .val (.double FP.dconst1), .second, .val (.int (0 : Int32)), .unset, .unset, .unset, .unset, .unset, .unset] [(.long ((4607182418800017408 : UInt64).toInt64))]) :: G1))
  obtain ⟨U10, hU10⟩ : ∃ z, z = own_I T v4 (.java (mkF mk 0 #[] []) :: G1) := ⟨_, rfl⟩
  have B10 : At U10 mk cm below := by rw [hU10]; exact A1 v4 hW4 _
  have t10 : ∀ f, U10.setTop f = own_I T v4 (.java f :: G1) := fun f => by rw [hU10]; exact own_top hc _ _ _ _
  have V10 : s.WarmedH U10.vm := by rw [hU10]; exact hW4
  rw [← t10]
  show own_Goes p e below _ (U10.setTop (mkF mk 73 #[.val (.double 4607182418800017408), .second, .val (.double 9223372036854775808), .second, .val (.double FP.dconst1), .second, .val (.double FP.dconst1), .second, .val (.int (0 : Int32)), .unset, .unset, .unset, .unset, .unset, .unset] [(.long ((4607182418800017408 : UInt64).toInt64))]))
  refine own_go (fun _ own_k => XS.lstore B10 hx rfl (hb hby dF_73) rfl (l' := #[.val (.double 4607182418800017408), .second, .val (.double 9223372036854775808), .second, .val (.double FP.dconst1), .second, .val (.double FP.dconst1), .second, .val (.int (0 : Int32)), .val (.long ((4607182418800017408 : UInt64).toInt64)), .second, .unset, .unset, .unset, .unset]) rfl own_k) ?_
  show own_Goes p e below _ (U10.setTop (mkF mk 75 #[.val (.double 4607182418800017408), .second, .val (.double 9223372036854775808), .second, .val (.double FP.dconst1), .second, .val (.double FP.dconst1), .second, .val (.int (0 : Int32)), .val (.long ((4607182418800017408 : UInt64).toInt64)), .second, .unset, .unset, .unset, .unset] []))
  refine own_go (own_ldcJ (args := #[]) B10 hx V10 hown1 (mvT hZ (hw _ (List.mem_of_getElem? (i := 70) rfl))) (g := (mkF mk 75 #[.val (.double 4607182418800017408), .second, .val (.double 9223372036854775808), .second, .val (.double FP.dconst1), .second, .val (.double FP.dconst1), .second, .val (.int (0 : Int32)), .val (.long ((4607182418800017408 : UInt64).toInt64)), .second, .unset, .unset, .unset, .unset] [])) rfl (hb hby dF_75)) ?_
  show own_Goes p e below _ (U10.setTop (mkF mk 78 #[.val (.double 4607182418800017408), .second, .val (.double 9223372036854775808), .second, .val (.double FP.dconst1), .second, .val (.double FP.dconst1), .second, .val (.int (0 : Int32)), .val (.long ((4607182418800017408 : UInt64).toInt64)), .second, .unset, .unset, .unset, .unset] [(.long (4503599627370495 : Int64))]))
  refine own_go (fun _ own_k => XS.iload B10 hx rfl (hb hby dF_78) rfl own_k) ?_
  show own_Goes p e below _ (U10.setTop (mkF mk 80 #[.val (.double 4607182418800017408), .second, .val (.double 9223372036854775808), .second, .val (.double FP.dconst1), .second, .val (.double FP.dconst1), .second, .val (.int (0 : Int32)), .val (.long ((4607182418800017408 : UInt64).toInt64)), .second, .unset, .unset, .unset, .unset] [(.int (0 : Int32)), (.long (4503599627370495 : Int64))]))
  refine own_go (fun _ own_k => XS.lshr B10 hx rfl (hb hby dF_80) rfl own_k) ?_
  show own_Goes p e below _ (U10.setTop (mkF mk 81 #[.val (.double 4607182418800017408), .second, .val (.double 9223372036854775808), .second, .val (.double FP.dconst1), .second, .val (.double FP.dconst1), .second, .val (.int (0 : Int32)), .val (.long ((4607182418800017408 : UInt64).toInt64)), .second, .unset, .unset, .unset, .unset] [(.long ((4503599627370495 : Int64) >>> ((0 : Int32) &&& 0x3f).toInt64))]))
  refine own_go (fun _ own_k => XS.lstore B10 hx rfl (hb hby dF_81) rfl (l' := #[.val (.double 4607182418800017408), .second, .val (.double 9223372036854775808), .second, .val (.double FP.dconst1), .second, .val (.double FP.dconst1), .second, .val (.int (0 : Int32)), .val (.long ((4607182418800017408 : UInt64).toInt64)), .second, .val (.long ((4503599627370495 : Int64) >>> ((0 : Int32) &&& 0x3f).toInt64)), .second, .unset, .unset]) rfl own_k) ?_
  show own_Goes p e below _ (U10.setTop (mkF mk 83 #[.val (.double 4607182418800017408), .second, .val (.double 9223372036854775808), .second, .val (.double FP.dconst1), .second, .val (.double FP.dconst1), .second, .val (.int (0 : Int32)), .val (.long ((4607182418800017408 : UInt64).toInt64)), .second, .val (.long ((4503599627370495 : Int64) >>> ((0 : Int32) &&& 0x3f).toInt64)), .second, .unset, .unset] []))
  refine own_go (fun _ own_k => XS.lload B10 hx rfl (hb hby dF_83) rfl own_k) ?_
  show own_Goes p e below _ (U10.setTop (mkF mk 85 #[.val (.double 4607182418800017408), .second, .val (.double 9223372036854775808), .second, .val (.double FP.dconst1), .second, .val (.double FP.dconst1), .second, .val (.int (0 : Int32)), .val (.long ((4607182418800017408 : UInt64).toInt64)), .second, .val (.long ((4503599627370495 : Int64) >>> ((0 : Int32) &&& 0x3f).toInt64)), .second, .unset, .unset] [(.long ((4503599627370495 : Int64) >>> ((0 : Int32) &&& 0x3f).toInt64))]))
  refine own_go (fun _ own_k => XS.lload B10 hx rfl (hb hby dF_85) rfl own_k) ?_
  show own_Goes p e below _ (U10.setTop (mkF mk 87 #[.val (.double 4607182418800017408), .second, .val (.double 9223372036854775808), .second, .val (.double FP.dconst1), .second, .val (.double FP.dconst1), .second, .val (.int (0 : Int32)), .val (.long ((4607182418800017408 : UInt64).toInt64)), .second, .val (.long ((4503599627370495 : Int64) >>> ((0 : Int32) &&& 0x3f).toInt64)), .second, .unset, .unset] [(.long ((4607182418800017408 : UInt64).toInt64)), (.long ((4503599627370495 : Int64) >>> ((0 : Int32) &&& 0x3f).toInt64))]))
  refine own_go (fun _ own_k => XS.land B10 hx rfl (hb hby dF_87) rfl own_k) ?_
  show own_Goes p e below _ (U10.setTop (mkF mk 88 #[.val (.double 4607182418800017408), .second, .val (.double 9223372036854775808), .second, .val (.double FP.dconst1), .second, .val (.double FP.dconst1), .second, .val (.int (0 : Int32)), .val (.long ((4607182418800017408 : UInt64).toInt64)), .second, .val (.long ((4503599627370495 : Int64) >>> ((0 : Int32) &&& 0x3f).toInt64)), .second, .unset, .unset] [(.long (((4503599627370495 : Int64) >>> ((0 : Int32) &&& 0x3f).toInt64) &&& ((4607182418800017408 : UInt64).toInt64)))]))
  refine own_go (fun _ own_k => XS.lconst B10 hx rfl (hb hby dF_88) own_k) ?_
  show own_Goes p e below _ (U10.setTop (mkF mk 89 #[.val (.double 4607182418800017408), .second, .val (.double 9223372036854775808), .second, .val (.double FP.dconst1), .second, .val (.double FP.dconst1), .second, .val (.int (0 : Int32)), .val (.long ((4607182418800017408 : UInt64).toInt64)), .second, .val (.long ((4503599627370495 : Int64) >>> ((0 : Int32) &&& 0x3f).toInt64)), .second, .unset, .unset] [(.long (0 : Int64)), (.long (((4503599627370495 : Int64) >>> ((0 : Int32) &&& 0x3f).toInt64) &&& ((4607182418800017408 : UInt64).toInt64)))]))
  refine own_go (fun _ own_k => XS.lcmp B10 hx rfl (hb hby dF_89) rfl own_k) ?_
  show own_Goes p e below _ (U10.setTop (mkF mk 90 #[.val (.double 4607182418800017408), .second, .val (.double 9223372036854775808), .second, .val (.double FP.dconst1), .second, .val (.double FP.dconst1), .second, .val (.int (0 : Int32)), .val (.long ((4607182418800017408 : UInt64).toInt64)), .second, .val (.long ((4503599627370495 : Int64) >>> ((0 : Int32) &&& 0x3f).toInt64)), .second, .unset, .unset] [(.int (lcmpW (((4503599627370495 : Int64) >>> ((0 : Int32) &&& 0x3f).toInt64) &&& ((4607182418800017408 : UInt64).toInt64)) (0 : Int64)))]))
  refine own_go (fun _ own_k => XS.ifNo B10 hx rfl (hb hby dF_90) rfl (by decide +kernel) own_k) ?_
  show own_Goes p e below _ (U10.setTop (mkF mk 93 #[.val (.double 4607182418800017408), .second, .val (.double 9223372036854775808), .second, .val (.double FP.dconst1), .second, .val (.double FP.dconst1), .second, .val (.int (0 : Int32)), .val (.long ((4607182418800017408 : UInt64).toInt64)), .second, .val (.long ((4503599627370495 : Int64) >>> ((0 : Int32) &&& 0x3f).toInt64)), .second, .unset, .unset] []))
  refine own_go (fun _ own_k => XS.dloadN B10 hx rfl (hb hby dF_93) rfl own_k) ?_
  show own_Goes p e below _ (U10.setTop (mkF mk 94 #[.val (.double 4607182418800017408), .second, .val (.double 9223372036854775808), .second, .val (.double FP.dconst1), .second, .val (.double FP.dconst1), .second, .val (.int (0 : Int32)), .val (.long ((4607182418800017408 : UInt64).toInt64)), .second, .val (.long ((4503599627370495 : Int64) >>> ((0 : Int32) &&& 0x3f).toInt64)), .second, .unset, .unset] [(.double 4607182418800017408)]))
  refine own_go (own_retD' (S := own_I T v4 (.java { g with pc := g.pc + 3, stack := .double 4607182418800017408 :: rest } :: G)) B10 hx (mt := mt) (by rw [hU10]; show v4.method? mk = some mt; rw [hW4.alike.method?]; exact hm1) hret (hb hby dF_94) (fun f acts h1 h2 h3 => by rw [hU10, hG1]; exact own_leave hc hW4.alike hm1 hlk (g := { g with stack := rest }) hcg hdg f acts h1 h2 h3)) ?_
  exact ⟨_, Steps.refl _, v4, hW4, rfl⟩
theorem own_ex2 : own_ex 4611686018427387904 = (1 : Int32) := by decide +kernel
set_option maxRecDepth 65536 in
set_option maxHeartbeats 40000000 in
theorem own_focR2 {p : Program} {l : Launch} {e : Env} {s : State} {below : List Frame} {Z : State} {a0 : Array Value} (hw : ∀ d ∈ tables_1, d.before a0 Z = true) (hZ : Z.Warmed39 s.vm) (hx : p.tables.exec = Jvm.exec) (hadm : l.admits e) {T : State} {m0 : MethodId} {c0 : Code} (h0 : At T m0 c0 below) {h : Heap} (SA : Sta Z h "java/lang/StrictMath" "$assertionsDisabled" "Z" (.int 1)) (eT : T.heap = h) {v : Vm} (hW : s.WarmedH v) {G : List Frame} (hG : ∃ mid, G = mid ++ below) {g : JFrame} {cg : Code} (hA : At (own_I T v (.java g :: G)) g.method cg below) (hown : s.vm.findClass "java/lang/StrictMath" = some g.method.cls) (hcg : s.code? g.method = some cg) {rest : List Value} (hstack : g.stack = .double FP.dconst1 :: .double FP.dconst1 :: .double 9223372036854775808 :: .double 4611686018427387904 :: rest) (hdg : decode cg.code g.pc = .ok (.invokestatic 60, 3)) (q1 : G.length + 5 ≤ (e.platform.stackLimits T.me).1) (q2 : stackWeight (.java { g with stack := rest } :: G) + 66 ≤ (e.platform.stackLimits T.me).2) :
    ∃ v', s.WarmedH v' ∧ ∀ target, Steps p.tables e below (own_I T v' (.java { g with pc := g.pc + 3, stack := .double 4611686018427387904 :: rest } :: G)) target → Steps p.tables e below (own_I T v (.java g :: G)) target := by
  have hc : T.cur < T.threads.size := State.cur_lt_of_top h0.top
  suffices H : own_Goes p e below (fun t => ∃ v', s.WarmedH v' ∧ t = own_I T v' (.java { g with pc := g.pc + 3, stack := .double 4611686018427387904 :: rest } :: G)) (own_I T v (.java g :: G)) by
    obtain ⟨t, h1, v', h2, rfl⟩ := H
    exact ⟨v', h2, fun target k => h1.trans k⟩
  obtain ⟨v1, mk, mt, cm, hW1, hn1, hm1, hc1, hby, hml, hret, hlk, st1⟩ := own_nest (args := #[]) (p := p) hc hx hadm hW hA (y := own_focN) hown (mvT hZ (hw _ (List.mem_of_getElem? (i := 28) rfl))) (mvT hZ (hw _ (List.mem_of_getElem? (i := 29) rfl))) (mvT hZ (hw _ (List.mem_of_getElem? (i := 25) rfl))) (mvT hZ (hw _ (List.mem_of_getElem? (i := 30) rfl))) (by decide) (argsL := [.double 4611686018427387904, .double 9223372036854775808, .double FP.dconst1, .double FP.dconst1]) (rest := rest) pd_4D rfl hstack hdg (by simp only [List.length_cons]; omega) (by omega)
  obtain ⟨G1, hG1⟩ : ∃ z, z = (Frame.java { g with stack := rest } :: G) := ⟨_, rfl⟩
  have hG1' : ∃ mid, G1 = mid ++ below := by
    obtain ⟨mid, q⟩ := hG
    exact ⟨.java { g with stack := rest } :: mid, by rw [hG1, q]; rfl⟩
  have hlen1 : G1.length = G.length + 1 := by rw [hG1]; rfl
  rw [← hG1] at st1 q2
  have hown1 : s.vm.findClass "java/lang/StrictMath" = some mk.cls := findClass_of_methodNamed hn1
  have hcm1 : s.code? mk = some cm := by rw [State.code?_eq, hm1]; exact hc1
  have A1 : ∀ (v : Vm) (hv : s.WarmedH v) (f0 : JFrame), At (own_I T v (.java f0 :: G1)) mk cm below := fun v hv f0 => own_at h0 hv.alike f0 hG1' own_pfF hn1 hm1 hc1
  refine own_go st1 ?_
  rw [show entryFrame mk [Value.double 4611686018427387904, Value.double 9223372036854775808, Value.double FP.dconst1, Value.double FP.dconst1].toArray 15 = (mkF mk 0 #[.val (.double 4611686018427387904), .second, .val (.double 9223372036854775808), .second, .val (.double FP.dconst1), .second, .val (.double FP.dconst1), .second, .unset, .unset, .unset, .unset, .unset, .unset, .unset] []) from ef_F mk 4611686018427387904 9223372036854775808 FP.dconst1 FP.dconst1]
  obtain ⟨U11, hU11⟩ : ∃ z, z = own_I T v1 (.java (mkF mk 0 #[] []) :: G1) := ⟨_, rfl⟩
  have B11 : At U11 mk cm below := by rw [hU11]; exact A1 v1 hW1 _
  have t11 : ∀ f, U11.setTop f = own_I T v1 (.java f :: G1) := fun f => by rw [hU11]; exact own_top hc _ _ _ _
  have V11 : s.WarmedH U11.vm := by rw [hU11]; exact hW1
  rw [← t11]
  show own_Goes p e below _ (U11.setTop (mkF mk 0 #[.val (.double 4611686018427387904), .second, .val (.double 9223372036854775808), .second, .val (.double FP.dconst1), .second, .val (.double FP.dconst1), .second, .unset, .unset, .unset, .unset, .unset, .unset, .unset] []))
  refine own_go (fun _ own_k => XS.dloadN B11 hx rfl (hb hby dF_0) rfl own_k) ?_
  show own_Goes p e below _ (U11.setTop (mkF mk 1 #[.val (.double 4611686018427387904), .second, .val (.double 9223372036854775808), .second, .val (.double FP.dconst1), .second, .val (.double FP.dconst1), .second, .unset, .unset, .unset, .unset, .unset, .unset, .unset] [(.double 4611686018427387904)]))
  obtain ⟨v2, hW2, st2⟩ := own_gexR hw hZ hx hadm h0 hW1 hG1' (g := (mkF mk 1 #[.val (.double 4611686018427387904), .second, .val (.double 9223372036854775808), .second, .val (.double FP.dconst1), .second, .val (.double FP.dconst1), .second, .unset, .unset, .unset, .unset, .unset, .unset, .unset] [(.double 4611686018427387904)])) (A1 v1 hW1 _) hown1 hcm1 (rest := []) rfl (hb hby dF_1) (by omega) (by rw [own_wt]; show 11 + 15 + 2 * 0 + 0 + stackWeight G1 + 40 ≤ _; omega)
  rw [t11]
  refine own_go st2 ?_
  rw [own_ex2]
  show own_Goes p e below _ (own_I T v2 (.java (mkF mk 4 #[.val (.double 4611686018427387904), .second, .val (.double 9223372036854775808), .second, .val (.double FP.dconst1), .second, .val (.double FP.dconst1), .second, .unset, .unset, .unset, .unset, .unset, .unset, .unset] [(.int (1 : Int32))]) :: G1))
  obtain ⟨U12, hU12⟩ : ∃ z, z = own_I T v2 (.java (mkF mk 0 #[] []) :: G1) := ⟨_, rfl⟩
  have B12 : At U12 mk cm below := by rw [hU12]; exact A1 v2 hW2 _
  have t12 : ∀ f, U12.setTop f = own_I T v2 (.java f :: G1) := fun f => by rw [hU12]; exact own_top hc _ _ _ _
  have V12 : s.WarmedH U12.vm := by rw [hU12]; exact hW2
  rw [← t12]
  show own_Goes p e below _ (U12.setTop (mkF mk 4 #[.val (.double 4611686018427387904), .second, .val (.double 9223372036854775808), .second, .val (.double FP.dconst1), .second, .val (.double FP.dconst1), .second, .unset, .unset, .unset, .unset, .unset, .unset, .unset] [(.int (1 : Int32))]))
  refine own_go (fun _ own_k => XS.istore B12 hx rfl (hb hby dF_4) rfl (l' := #[.val (.double 4611686018427387904), .second, .val (.double 9223372036854775808), .second, .val (.double FP.dconst1), .second, .val (.double FP.dconst1), .second, .val (.int (1 : Int32)), .unset, .unset, .unset, .unset, .unset, .unset]) rfl own_k) ?_
  show own_Goes p e below _ (U12.setTop (mkF mk 6 #[.val (.double 4611686018427387904), .second, .val (.double 9223372036854775808), .second, .val (.double FP.dconst1), .second, .val (.double FP.dconst1), .second, .val (.int (1 : Int32)), .unset, .unset, .unset, .unset, .unset, .unset] []))
  refine own_go (fun _ own_k => XS.iload B12 hx rfl (hb hby dF_6) rfl own_k) ?_
  show own_Goes p e below _ (U12.setTop (mkF mk 8 #[.val (.double 4611686018427387904), .second, .val (.double 9223372036854775808), .second, .val (.double FP.dconst1), .second, .val (.double FP.dconst1), .second, .val (.int (1 : Int32)), .unset, .unset, .unset, .unset, .unset, .unset] [(.int (1 : Int32))]))
  refine own_go (fun _ own_k => XS.ifYes B12 hx rfl (pc0 := 8) (pc' := 34) rfl (hb hby dF_8) rfl (by decide) (by decide) (by decide) own_k) ?_
  show own_Goes p e below _ (U12.setTop (mkF mk 34 #[.val (.double 4611686018427387904), .second, .val (.double 9223372036854775808), .second, .val (.double FP.dconst1), .second, .val (.double FP.dconst1), .second, .val (.int (1 : Int32)), .unset, .unset, .unset, .unset, .unset, .unset] []))
  refine own_go (fun _ own_k => XS.iload B12 hx rfl (hb hby dF_34) rfl own_k) ?_
  show own_Goes p e below _ (U12.setTop (mkF mk 36 #[.val (.double 4611686018427387904), .second, .val (.double 9223372036854775808), .second, .val (.double FP.dconst1), .second, .val (.double FP.dconst1), .second, .val (.int (1 : Int32)), .unset, .unset, .unset, .unset, .unset, .unset] [(.int (1 : Int32))]))
  refine own_go (fun _ own_k => XS.bipush B12 hx rfl (hb hby dF_36) own_k) ?_
  show own_Goes p e below _ (U12.setTop (mkF mk 38 #[.val (.double 4611686018427387904), .second, .val (.double 9223372036854775808), .second, .val (.double FP.dconst1), .second, .val (.double FP.dconst1), .second, .val (.int (1 : Int32)), .unset, .unset, .unset, .unset, .unset, .unset] [(.int (52 : Int32)), (.int (1 : Int32))]))
  refine own_go (fun _ own_k => XS.icmpYes B12 hx rfl (pc0 := 38) (pc' := 43) rfl (hb hby dF_38) rfl (by decide) (by decide) (by decide) own_k) ?_
  show own_Goes p e below _ (U12.setTop (mkF mk 43 #[.val (.double 4611686018427387904), .second, .val (.double 9223372036854775808), .second, .val (.double FP.dconst1), .second, .val (.double FP.dconst1), .second, .val (.int (1 : Int32)), .unset, .unset, .unset, .unset, .unset, .unset] []))
  obtain ⟨v3, hW3, st3⟩ := own_sget (args := #[]) (p := p) hc hx hadm hW2 (g := (mkF mk 43 #[.val (.double 4611686018427387904), .second, .val (.double 9223372036854775808), .second, .val (.double FP.dconst1), .second, .val (.double FP.dconst1), .second, .val (.int (1 : Int32)), .unset, .unset, .unset, .unset, .unset, .unset] [])) (A1 v2 hW2 _) hown1 (mvT hZ (hw _ (List.mem_of_getElem? (i := 68) rfl))) hZ SA eT (hb hby dF_43)
  rw [t12]
  refine own_go st3 ?_
  show own_Goes p e below _ (own_I T v3 (.java (mkF mk 46 #[.val (.double 4611686018427387904), .second, .val (.double 9223372036854775808), .second, .val (.double FP.dconst1), .second, .val (.double FP.dconst1), .second, .val (.int (1 : Int32)), .unset, .unset, .unset, .unset, .unset, .unset] [(.int (1 : Int32))]) :: G1))
  obtain ⟨U13, hU13⟩ : ∃ z, z = own_I T v3 (.java (mkF mk 0 #[] []) :: G1) := ⟨_, rfl⟩
  have B13 : At U13 mk cm below := by rw [hU13]; exact A1 v3 hW3 _
  have t13 : ∀ f, U13.setTop f = own_I T v3 (.java f :: G1) := fun f => by rw [hU13]; exact own_top hc _ _ _ _
  have V13 : s.WarmedH U13.vm := by rw [hU13]; exact hW3
  rw [← t13]
  show own_Goes p e below _ (U13.setTop (mkF mk 46 #[.val (.double 4611686018427387904), .second, .val (.double 9223372036854775808), .second, .val (.double FP.dconst1), .second, .val (.double FP.dconst1), .second, .val (.int (1 : Int32)), .unset, .unset, .unset, .unset, .unset, .unset] [(.int (1 : Int32))]))
  refine own_go (fun _ own_k => XS.ifYes B13 hx rfl (pc0 := 46) (pc' := 69) rfl (hb hby dF_46) rfl (by decide) (by decide) (by decide) own_k) ?_
  show own_Goes p e below _ (U13.setTop (mkF mk 69 #[.val (.double 4611686018427387904), .second, .val (.double 9223372036854775808), .second, .val (.double FP.dconst1), .second, .val (.double FP.dconst1), .second, .val (.int (1 : Int32)), .unset, .unset, .unset, .unset, .unset, .unset] []))
  refine own_go (fun _ own_k => XS.dloadN B13 hx rfl (hb hby dF_69) rfl own_k) ?_
  show own_Goes p e below _ (U13.setTop (mkF mk 70 #[.val (.double 4611686018427387904), .second, .val (.double 9223372036854775808), .second, .val (.double FP.dconst1), .second, .val (.double FP.dconst1), .second, .val (.int (1 : Int32)), .unset, .unset, .unset, .unset, .unset, .unset] [(.double 4611686018427387904)]))
  obtain ⟨v4, hW4, st4⟩ := own_nat (args := #[]) (p := p) hc hx hadm hW3 (g := (mkF mk 70 #[.val (.double 4611686018427387904), .second, .val (.double 9223372036854775808), .second, .val (.double FP.dconst1), .second, .val (.double FP.dconst1), .second, .val (.int (1 : Int32)), .unset, .unset, .unset, .unset, .unset, .unset] [(.double 4611686018427387904)])) (A1 v3 hW3 _) hown1 (mvT hZ (hw _ (List.mem_of_getElem? (i := 69) rfl))) (mvT hZ (hw _ (List.mem_of_getElem? (i := 37) rfl))) (mvT hZ (hw _ (List.mem_of_getElem? (i := 35) rfl))) (mvT hZ (hw _ (List.mem_of_getElem? (i := 36) rfl))) (rest := []) rfl (hb hby dF_70) (by simp only [List.length_cons]; omega) (by rw [own_wt]; show 11 + 15 + 2 * 0 + 0 + stackWeight G1 + 4 + 11 ≤ _; omega)
  rw [t13]
  refine own_go st4 ?_
  show own_Goes p e below _ (own_I T v4 (.java (mkF mk 73 #[.val (.double 4611686018427387904), .second, .val (.double 9223372036854775808), .second, .val (.double FP.dconst1), .second, .val (.double FP.dconst1), .second, .val (.int (1 : Int32)), .unset, .unset, .unset, .unset, .unset, .unset] [(.long ((4611686018427387904 : UInt64).toInt64))]) :: G1))
  obtain ⟨U14, hU14⟩ : ∃ z, z = own_I T v4 (.java (mkF mk 0 #[] []) :: G1) := ⟨_, rfl⟩
  have B14 : At U14 mk cm below := by rw [hU14]; exact A1 v4 hW4 _
  have t14 : ∀ f, U14.setTop f = own_I T v4 (.java f :: G1) := fun f => by rw [hU14]; exact own_top hc _ _ _ _
  have V14 : s.WarmedH U14.vm := by rw [hU14]; exact hW4
  rw [← t14]
  show own_Goes p e below _ (U14.setTop (mkF mk 73 #[.val (.double 4611686018427387904), .second, .val (.double 9223372036854775808), .second, .val (.double FP.dconst1), .second, .val (.double FP.dconst1), .second, .val (.int (1 : Int32)), .unset, .unset, .unset, .unset, .unset, .unset] [(.long ((4611686018427387904 : UInt64).toInt64))]))
  refine own_go (fun _ own_k => XS.lstore B14 hx rfl (hb hby dF_73) rfl (l' := #[.val (.double 4611686018427387904), .second, .val (.double 9223372036854775808), .second, .val (.double FP.dconst1), .second, .val (.double FP.dconst1), .second, .val (.int (1 : Int32)), .val (.long ((4611686018427387904 : UInt64).toInt64)), .second, .unset, .unset, .unset, .unset]) rfl own_k) ?_
  show own_Goes p e below _ (U14.setTop (mkF mk 75 #[.val (.double 4611686018427387904), .second, .val (.double 9223372036854775808), .second, .val (.double FP.dconst1), .second, .val (.double FP.dconst1), .second, .val (.int (1 : Int32)), .val (.long ((4611686018427387904 : UInt64).toInt64)), .second, .unset, .unset, .unset, .unset] []))
  refine own_go (own_ldcJ (args := #[]) B14 hx V14 hown1 (mvT hZ (hw _ (List.mem_of_getElem? (i := 70) rfl))) (g := (mkF mk 75 #[.val (.double 4611686018427387904), .second, .val (.double 9223372036854775808), .second, .val (.double FP.dconst1), .second, .val (.double FP.dconst1), .second, .val (.int (1 : Int32)), .val (.long ((4611686018427387904 : UInt64).toInt64)), .second, .unset, .unset, .unset, .unset] [])) rfl (hb hby dF_75)) ?_
  show own_Goes p e below _ (U14.setTop (mkF mk 78 #[.val (.double 4611686018427387904), .second, .val (.double 9223372036854775808), .second, .val (.double FP.dconst1), .second, .val (.double FP.dconst1), .second, .val (.int (1 : Int32)), .val (.long ((4611686018427387904 : UInt64).toInt64)), .second, .unset, .unset, .unset, .unset] [(.long (4503599627370495 : Int64))]))
  refine own_go (fun _ own_k => XS.iload B14 hx rfl (hb hby dF_78) rfl own_k) ?_
  show own_Goes p e below _ (U14.setTop (mkF mk 80 #[.val (.double 4611686018427387904), .second, .val (.double 9223372036854775808), .second, .val (.double FP.dconst1), .second, .val (.double FP.dconst1), .second, .val (.int (1 : Int32)), .val (.long ((4611686018427387904 : UInt64).toInt64)), .second, .unset, .unset, .unset, .unset] [(.int (1 : Int32)), (.long (4503599627370495 : Int64))]))
  refine own_go (fun _ own_k => XS.lshr B14 hx rfl (hb hby dF_80) rfl own_k) ?_
  show own_Goes p e below _ (U14.setTop (mkF mk 81 #[.val (.double 4611686018427387904), .second, .val (.double 9223372036854775808), .second, .val (.double FP.dconst1), .second, .val (.double FP.dconst1), .second, .val (.int (1 : Int32)), .val (.long ((4611686018427387904 : UInt64).toInt64)), .second, .unset, .unset, .unset, .unset] [(.long ((4503599627370495 : Int64) >>> ((1 : Int32) &&& 0x3f).toInt64))]))
  refine own_go (fun _ own_k => XS.lstore B14 hx rfl (hb hby dF_81) rfl (l' := #[.val (.double 4611686018427387904), .second, .val (.double 9223372036854775808), .second, .val (.double FP.dconst1), .second, .val (.double FP.dconst1), .second, .val (.int (1 : Int32)), .val (.long ((4611686018427387904 : UInt64).toInt64)), .second, .val (.long ((4503599627370495 : Int64) >>> ((1 : Int32) &&& 0x3f).toInt64)), .second, .unset, .unset]) rfl own_k) ?_
  show own_Goes p e below _ (U14.setTop (mkF mk 83 #[.val (.double 4611686018427387904), .second, .val (.double 9223372036854775808), .second, .val (.double FP.dconst1), .second, .val (.double FP.dconst1), .second, .val (.int (1 : Int32)), .val (.long ((4611686018427387904 : UInt64).toInt64)), .second, .val (.long ((4503599627370495 : Int64) >>> ((1 : Int32) &&& 0x3f).toInt64)), .second, .unset, .unset] []))
  refine own_go (fun _ own_k => XS.lload B14 hx rfl (hb hby dF_83) rfl own_k) ?_
  show own_Goes p e below _ (U14.setTop (mkF mk 85 #[.val (.double 4611686018427387904), .second, .val (.double 9223372036854775808), .second, .val (.double FP.dconst1), .second, .val (.double FP.dconst1), .second, .val (.int (1 : Int32)), .val (.long ((4611686018427387904 : UInt64).toInt64)), .second, .val (.long ((4503599627370495 : Int64) >>> ((1 : Int32) &&& 0x3f).toInt64)), .second, .unset, .unset] [(.long ((4503599627370495 : Int64) >>> ((1 : Int32) &&& 0x3f).toInt64))]))
  refine own_go (fun _ own_k => XS.lload B14 hx rfl (hb hby dF_85) rfl own_k) ?_
  show own_Goes p e below _ (U14.setTop (mkF mk 87 #[.val (.double 4611686018427387904), .second, .val (.double 9223372036854775808), .second, .val (.double FP.dconst1), .second, .val (.double FP.dconst1), .second, .val (.int (1 : Int32)), .val (.long ((4611686018427387904 : UInt64).toInt64)), .second, .val (.long ((4503599627370495 : Int64) >>> ((1 : Int32) &&& 0x3f).toInt64)), .second, .unset, .unset] [(.long ((4611686018427387904 : UInt64).toInt64)), (.long ((4503599627370495 : Int64) >>> ((1 : Int32) &&& 0x3f).toInt64))]))
  refine own_go (fun _ own_k => XS.land B14 hx rfl (hb hby dF_87) rfl own_k) ?_
  show own_Goes p e below _ (U14.setTop (mkF mk 88 #[.val (.double 4611686018427387904), .second, .val (.double 9223372036854775808), .second, .val (.double FP.dconst1), .second, .val (.double FP.dconst1), .second, .val (.int (1 : Int32)), .val (.long ((4611686018427387904 : UInt64).toInt64)), .second, .val (.long ((4503599627370495 : Int64) >>> ((1 : Int32) &&& 0x3f).toInt64)), .second, .unset, .unset] [(.long (((4503599627370495 : Int64) >>> ((1 : Int32) &&& 0x3f).toInt64) &&& ((4611686018427387904 : UInt64).toInt64)))]))
  refine own_go (fun _ own_k => XS.lconst B14 hx rfl (hb hby dF_88) own_k) ?_
  show own_Goes p e below _ (U14.setTop (mkF mk 89 #[.val (.double 4611686018427387904), .second, .val (.double 9223372036854775808), .second, .val (.double FP.dconst1), .second, .val (.double FP.dconst1), .second, .val (.int (1 : Int32)), .val (.long ((4611686018427387904 : UInt64).toInt64)), .second, .val (.long ((4503599627370495 : Int64) >>> ((1 : Int32) &&& 0x3f).toInt64)), .second, .unset, .unset] [(.long (0 : Int64)), (.long (((4503599627370495 : Int64) >>> ((1 : Int32) &&& 0x3f).toInt64) &&& ((4611686018427387904 : UInt64).toInt64)))]))
  refine own_go (fun _ own_k => XS.lcmp B14 hx rfl (hb hby dF_89) rfl own_k) ?_
  show own_Goes p e below _ (U14.setTop (mkF mk 90 #[.val (.double 4611686018427387904), .second, .val (.double 9223372036854775808), .second, .val (.double FP.dconst1), .second, .val (.double FP.dconst1), .second, .val (.int (1 : Int32)), .val (.long ((4611686018427387904 : UInt64).toInt64)), .second, .val (.long ((4503599627370495 : Int64) >>> ((1 : Int32) &&& 0x3f).toInt64)), .second, .unset, .unset] [(.int (lcmpW (((4503599627370495 : Int64) >>> ((1 : Int32) &&& 0x3f).toInt64) &&& ((4611686018427387904 : UInt64).toInt64)) (0 : Int64)))]))
  refine own_go (fun _ own_k => XS.ifNo B14 hx rfl (hb hby dF_90) rfl (by decide +kernel) own_k) ?_
  show own_Goes p e below _ (U14.setTop (mkF mk 93 #[.val (.double 4611686018427387904), .second, .val (.double 9223372036854775808), .second, .val (.double FP.dconst1), .second, .val (.double FP.dconst1), .second, .val (.int (1 : Int32)), .val (.long ((4611686018427387904 : UInt64).toInt64)), .second, .val (.long ((4503599627370495 : Int64) >>> ((1 : Int32) &&& 0x3f).toInt64)), .second, .unset, .unset] []))
  refine own_go (fun _ own_k => XS.dloadN B14 hx rfl (hb hby dF_93) rfl own_k) ?_
  show own_Goes p e below _ (U14.setTop (mkF mk 94 #[.val (.double 4611686018427387904), .second, .val (.double 9223372036854775808), .second, .val (.double FP.dconst1), .second, .val (.double FP.dconst1), .second, .val (.int (1 : Int32)), .val (.long ((4611686018427387904 : UInt64).toInt64)), .second, .val (.long ((4503599627370495 : Int64) >>> ((1 : Int32) &&& 0x3f).toInt64)), .second, .unset, .unset] [(.double 4611686018427387904)]))
  refine own_go (own_retD' (S := own_I T v4 (.java { g with pc := g.pc + 3, stack := .double 4611686018427387904 :: rest } :: G)) B14 hx (mt := mt) (by rw [hU14]; show v4.method? mk = some mt; rw [hW4.alike.method?]; exact hm1) hret (hb hby dF_94) (fun f acts h1 h2 h3 => by rw [hU14, hG1]; exact own_leave hc hW4.alike hm1 hlk (g := { g with stack := rest }) hcg hdg f acts h1 h2 h3)) ?_
  exact ⟨_, Steps.refl _, v4, hW4, rfl⟩
def own_CE (b r : UInt64) : Prop := (b = 0 ∧ r = 0) ∨ (b = 4602678819172646912 ∧ r = 4607182418800017408) ∨ (b = 4607182418800017408 ∧ r = 4607182418800017408) ∨ (b = 4611686018427387904 ∧ r = 4611686018427387904)
theorem own_CE0 : own_CE 0 0 := Or.inl ⟨rfl, rfl⟩
theorem own_CEh : own_CE 4602678819172646912 4607182418800017408 := Or.inr (Or.inl ⟨rfl, rfl⟩)
theorem own_CE1 : own_CE 4607182418800017408 4607182418800017408 := Or.inr (Or.inr (Or.inl ⟨rfl, rfl⟩))
theorem own_CE2 : own_CE 4611686018427387904 4611686018427387904 := Or.inr (Or.inr (Or.inr ⟨rfl, rfl⟩))
theorem own_CE_nn {b r : UInt64} (h : own_CE b r) : NoNaN64 r := by
  rcases h with ⟨-, rfl⟩ | ⟨-, rfl⟩ | ⟨-, rfl⟩ | ⟨-, rfl⟩ <;> (unfold NoNaN64; decide)
set_option maxRecDepth 65536 in
set_option maxHeartbeats 40000000 in
theorem own_focR {p : Program} {l : Launch} {e : Env} {s : State} {below : List Frame} {Z : State} {a0 : Array Value} (hw : ∀ d ∈ tables_1, d.before a0 Z = true) (hZ : Z.Warmed39 s.vm) (hx : p.tables.exec = Jvm.exec) (hadm : l.admits e) {T : State} {m0 : MethodId} {c0 : Code} (h0 : At T m0 c0 below) {h : Heap} (SA : Sta Z h "java/lang/StrictMath" "$assertionsDisabled" "Z" (.int 1)) (eT : T.heap = h) {v : Vm} (hW : s.WarmedH v) {G : List Frame} (hG : ∃ mid, G = mid ++ below) {g : JFrame} {cg : Code} (hA : At (own_I T v (.java g :: G)) g.method cg below) (hown : s.vm.findClass "java/lang/StrictMath" = some g.method.cls) (hcg : s.code? g.method = some cg) {rest : List Value} {b r : UInt64} (hbr : own_CE b r) (hstack : g.stack = .double FP.dconst1 :: .double FP.dconst1 :: .double 9223372036854775808 :: .double b :: rest) (hdg : decode cg.code g.pc = .ok (.invokestatic 60, 3)) (q1 : G.length + 5 ≤ (e.platform.stackLimits T.me).1) (q2 : stackWeight (.java { g with stack := rest } :: G) + 66 ≤ (e.platform.stackLimits T.me).2) :
    ∃ v', s.WarmedH v' ∧ ∀ target, Steps p.tables e below (own_I T v' (.java { g with pc := g.pc + 3, stack := .double r :: rest } :: G)) target → Steps p.tables e below (own_I T v (.java g :: G)) target := by
  rcases hbr with ⟨rfl, rfl⟩ | ⟨rfl, rfl⟩ | ⟨rfl, rfl⟩ | ⟨rfl, rfl⟩
  · exact own_focR0 hw hZ hx hadm h0 SA eT hW hG hA hown hcg hstack hdg q1 q2
  · exact own_focRh hw hZ hx hadm h0 SA eT hW hG hA hown hcg hstack hdg q1 q2
  · exact own_focR1 hw hZ hx hadm h0 SA eT hW hG hA hown hcg hstack hdg q1 q2
  · exact own_focR2 hw hZ hx hadm h0 SA eT hW hG hA hown hcg hstack hdg q1 q2
theorem own_push {p : Program} {e : Env} {s : State} {below : List Frame} {T : State} (hc : T.cur < T.threads.size) {v : Vm} (hv : s.vm.Alike v) {F : List Frame} {mk : MethodId} {mt : Method} {cm : Code} {maxL : Nat} {as' : Array Value} (hm : s.vm.method? mk = some mt) (hcm : mt.code = some cm) (hml : cm.maxLocals = maxL) (hlk : mt.locks = false)
    (l1 : F.length < (e.platform.stackLimits T.me).1) (l2 : stackWeight F + maxL + 11 ≤ (e.platform.stackLimits T.me).2) (acts : List Action) :
    (doInvoke e (own_I T v F) acts mk as').1 = own_I T v (.java (entryFrame mk as' maxL) :: F) := by
  have hm' : (own_I T v F).vm.method? mk = some mt := by
    show v.method? mk = some mt
    rw [hv.method?]; exact hm
  have hfull : e.platform.stackFull (((own_I T v F).threads[(own_I T v F).cur]?).getD { frames := [] }) (own_I T v F).frames cm.maxLocals = false :=
    stackFull_of (own_fr hc v _) (by rw [own_lim]; exact l1) (by rw [own_lim, hml]; exact l2)
  rw [(doInvoke_java (acts := acts) (args := as') hm' hcm hlk hfull).1]
  show (own_I T v F).setFrames (_ :: (own_I T v F).frames) = _
  rw [own_fr hc, hml]
  exact State.setFrames_setFrames _ _ _
set_option maxRecDepth 65536 in
set_option maxHeartbeats 40000000 in
theorem own_sceR {p : Program} {l : Launch} {e : Env} {s : State} {below : List Frame} {Z : State} {a0 : Array Value} (hw : ∀ d ∈ tables_1, d.before a0 Z = true) (hZ : Z.Warmed39 s.vm) (hx : p.tables.exec = Jvm.exec) (hadm : l.admits e) {T : State} {m0 : MethodId} {c0 : Code} (h0 : At T m0 c0 below) {h : Heap} (SA : Sta Z h "java/lang/StrictMath" "$assertionsDisabled" "Z" (.int 1)) (eT : T.heap = h) {v : Vm} (hW : s.WarmedH v) {N : NFrame} {G0 : List Frame} (hG0 : ∃ mid, G0 = mid ++ below) {mk : MethodId} {mt : Method} {cm : Code} (hn1 : s.methodNamed? own_sceN = some mk) (hm1 : s.vm.method? mk = some mt) (hc1 : mt.code = some cm) (hby : cm.code = jdk_128_method_16_code) (hret : mt.sig.returnType = some .double) (hlk : mt.locks = false) {b r : UInt64} (hbr : own_CE b r) (q1 : G0.length + 6 ≤ (e.platform.stackLimits T.me).1) (q2 : stackWeight (.native N :: G0) + 79 ≤ (e.platform.stackLimits T.me).2) :
    ∃ v', s.WarmedH v' ∧ ∀ target, Steps p.tables e below (own_I T v' (.native { N with awaiting := false, answer := some (.returned (some (.double r))) } :: G0)) target → Steps p.tables e below (own_I T v (.java (entryFrame mk #[.double b] 2) :: .native N :: G0)) target := by
  have hc : T.cur < T.threads.size := State.cur_lt_of_top h0.top
  suffices H : own_Goes p e below (fun t => ∃ v', s.WarmedH v' ∧ t = own_I T v' (.native { N with awaiting := false, answer := some (.returned (some (.double r))) } :: G0)) (own_I T v (.java (entryFrame mk #[.double b] 2) :: .native N :: G0)) by
    obtain ⟨t, h1, v', h2, rfl⟩ := H
    exact ⟨v', h2, fun target k => h1.trans k⟩
  obtain ⟨G1, hG1⟩ : ∃ z, z = (Frame.native N :: G0) := ⟨_, rfl⟩
  have hG1' : ∃ mid, G1 = mid ++ below := by
    obtain ⟨mid, q⟩ := hG0
    exact ⟨.native N :: mid, by rw [hG1, q]; rfl⟩
  have hlen1 : G1.length = G0.length + 1 := by rw [hG1]; rfl
  rw [← hG1] at q2 ⊢
  have hown1 : s.vm.findClass "java/lang/StrictMath" = some mk.cls := findClass_of_methodNamed hn1
  have hcm1 : s.code? mk = some cm := by rw [State.code?_eq, hm1]; exact hc1
  have A1 : ∀ (v : Vm) (hv : s.WarmedH v) (f0 : JFrame), At (own_I T v (.java f0 :: G1)) mk cm below := fun v hv f0 => own_at h0 hv.alike f0 hG1' own_pfS hn1 hm1 hc1
  have X0 : True := trivial
  rw [show entryFrame mk #[Value.double b] 2 = (mkF mk 0 #[.val (.double b), .second] []) from ef_Q mk b]
  obtain ⟨U15, hU15⟩ : ∃ z, z = own_I T v (.java (mkF mk 0 #[] []) :: G1) := ⟨_, rfl⟩
  have B15 : At U15 mk cm below := by rw [hU15]; exact A1 v hW _
  have t15 : ∀ f, U15.setTop f = own_I T v (.java f :: G1) := fun f => by rw [hU15]; exact own_top hc _ _ _ _
  have V15 : s.WarmedH U15.vm := by rw [hU15]; exact hW
  rw [← t15]
  show own_Goes p e below _ (U15.setTop (mkF mk 0 #[.val (.double b), .second] []))
  refine own_go (fun _ own_k => XS.dloadN B15 hx rfl (hb hby dS_0) rfl own_k) ?_
  show own_Goes p e below _ (U15.setTop (mkF mk 1 #[.val (.double b), .second] [(.double b)]))
  refine own_go (own_ldcD (args := #[]) B15 hx V15 hown1 (mvT hZ (hw _ (List.mem_of_getElem? (i := 27) rfl))) (g := (mkF mk 1 #[.val (.double b), .second] [(.double b)])) rfl (hb hby dS_1)) ?_
  show own_Goes p e below _ (U15.setTop (mkF mk 4 #[.val (.double b), .second] [(.double 9223372036854775808), (.double b)]))
  refine own_go (fun _ own_k => XS.dconst1 B15 hx rfl (hb hby dS_4) rfl own_k) ?_
  show own_Goes p e below _ (U15.setTop (mkF mk 5 #[.val (.double b), .second] [(.double FP.dconst1), (.double 9223372036854775808), (.double b)]))
  refine own_go (fun _ own_k => XS.dconst1 B15 hx rfl (hb hby dS_5) rfl own_k) ?_
  show own_Goes p e below _ (U15.setTop (mkF mk 6 #[.val (.double b), .second] [(.double FP.dconst1), (.double FP.dconst1), (.double 9223372036854775808), (.double b)]))
  obtain ⟨v2, hW2, st2⟩ := own_focR hw hZ hx hadm h0 SA eT hW hG1' (g := (mkF mk 6 #[.val (.double b), .second] [(.double FP.dconst1), (.double FP.dconst1), (.double 9223372036854775808), (.double b)])) (A1 v hW _) hown1 hcm1 hbr (rest := []) rfl (hb hby dS_6) (by omega) (by rw [own_wt]; show 11 + 2 + 2 * 0 + 0 + stackWeight G1 + 66 ≤ _; omega)
  rw [t15]
  refine own_go st2 ?_
  show own_Goes p e below _ (own_I T v2 (.java (mkF mk 9 #[.val (.double b), .second] [(.double r)]) :: G1))
  obtain ⟨U16, hU16⟩ : ∃ z, z = own_I T v2 (.java (mkF mk 0 #[] []) :: G1) := ⟨_, rfl⟩
  have B16 : At U16 mk cm below := by rw [hU16]; exact A1 v2 hW2 _
  have t16 : ∀ f, U16.setTop f = own_I T v2 (.java f :: G1) := fun f => by rw [hU16]; exact own_top hc _ _ _ _
  have V16 : s.WarmedH U16.vm := by rw [hU16]; exact hW2
  rw [← t16]
  show own_Goes p e below _ (U16.setTop (mkF mk 9 #[.val (.double b), .second] [(.double r)]))
  refine own_go (own_retD' (S := own_I T v2 (.native { N with awaiting := false, answer := some (.returned (some (.double r))) } :: G0)) B16 hx (mt := mt) (by rw [hU16]; show v2.method? mk = some mt; rw [hW2.alike.method?]; exact hm1) hret (hb hby dS_9) (fun f acts h1 h2 h3 => by
    rw [hU16, hG1]
    subst h1
    rw [Jvm.ret_to (own_fr hc v2 _) (by show v2.method? f.method = some mt; rw [hW2.alike.method?]; exact hm1) hlk h2 h3 (fs := .native { N with awaiting := false, answer := some (.returned (some (.double r))) } :: G0) (by simp [handOver]) acts]
    exact State.setFrames_setFrames _ _ _)) ?_
  exact ⟨_, Steps.refl _, v2, hW2, rfl⟩
theorem own_ovStep {tb : Tables} {e : Env} {u : State} {f : JFrame} {F : List Frame} {row : NativeRow} (hF : u.frames = .java f :: F) (hr : overridden tb e u f = some row) {a : Array Value} (ha : (f.locals.toList.filterMap fun | .val v => some v | _ => none).toArray.extract 0 (argCount u f.method) = a) (hlk : f.locked = none) :
    stepThread tb e u = afterNative e { method := f.method, args := a } F ((row.sem a).run e (u.setFrames (.native { method := f.method, args := a } :: F))) := by
  subst ha
  simp only [stepThread, hF, hr, hlk]
  rfl
theorem own_argc {u : State} {mC : MethodId} {mt : Method} (hm : u.vm.method? mC = some mt) (hs : mt.isStatic = true) (hp : mt.sig.parameters.length = 1) : argCount u mC = 1 := by
  unfold Vm.method? at hm
  simp only [Option.bind_eq_bind] at hm
  simp [argCount, hm, hs, hp]
theorem own_words {u : State} {mC : MethodId} {k : Class} {mt : Method} (hk : u.vm.classes[mC.cls]? = some k) (hx : k.methods[mC.idx]? = some mt) (hz : upcallWords k.name mt.name = 0) : ((u.vm.classes[mC.cls]?).bind fun k => (k.methods[mC.idx]?).map fun n => upcallWords k.name n.name).getD 0 = 0 := by
  rw [hk, Option.bind_some, hx, Option.map_some, Option.getD_some, hz]
theorem own_upcall {e : Env} {u : State} {f : NFrame} {F F' : List Frame} {t : MethodId} {a sv : Array Value} {n : Nat} {acts : List Action} (hz : ((u.vm.classes[f.method.cls]?).bind fun k => (k.methods[f.method.idx]?).map fun n => upcallWords k.name n.name).getD 0 = 0) :
    afterNative e f F (.ctl (.call t a n sv) (u.setFrames F') acts) = doInvoke e (u.setFrames (.native { f with stage := n, saved := sv, awaiting := true, answer := none, words := 0 } :: F)) acts t a := by
  show doInvoke e ((u.setFrames F').setFrames (.native { f with stage := n, saved := sv, awaiting := true, answer := none, words := ((u.vm.classes[f.method.cls]?).bind fun k => (k.methods[f.method.idx]?).map fun n => upcallWords k.name n.name).getD 0 } :: F)) acts t a = _
  rw [hz, State.setFrames_setFrames]
set_option maxRecDepth 65536 in
set_option maxHeartbeats 40000000 in
theorem own_ovr (p : Program) {e : Env} {u : State} (hcur : u.cur < u.threads.size) {F : List Frame} {mC : MethodId} {mt : Method} {k : Class} {b : UInt64} (hm : u.vm.method? mC = some mt) (hst : mt.isStatic = true) (hk : u.vm.classes[mC.cls]? = some k) (hx : k.methods[mC.idx]? = some mt) (hboot : k.loader = none) (hkn : k.name = "java/lang/Math") (hmn : mt.name = "ceil") (hmd : mt.desc = "(D)D") (hpar : mt.sig.parameters.length = 1)
    {cS : ClassId} {kS : Class} {i : Nat} (hfS : u.vm.findClass "java/lang/StrictMath" = some cS) (hkS : u.vm.classes[cS]? = some kS) (hiS : kS.init = .initialized) (hmS : kS.findMethod "ceil" "(D)D" = some i) :
    ∃ acts, (stepThread p.tables e (u.setFrames (.java (entryFrame mC #[.double b] 2) :: F))).1 = (doInvoke e (u.setFrames (.native { method := mC, args := #[.double b], stage := 1, saved := #[], awaiting := true, answer := none, words := 0 } :: F)) acts ⟨cS, i⟩ #[.double b]).1 := by
  obtain ⟨acts, run⟩ := Jvm.Free.Hsc.ceil_run b e (u.setFrames (.native { method := mC, args := #[.double b] } :: F)) hfS hkS hiS hmS
  have row : overridden p.tables e (u.setFrames (.java (entryFrame mC #[.double b] 2) :: F)) (entryFrame mC #[.double b] 2) = some Jvm.Free.Hsc.ceilRow :=
    Jvm.Free.Fl.Abs.overridden_some rfl hk (by rw [hkn]; decide) hboot hx (by rw [hkn, hmn, hmd]; exact Jvm.Free.Hsc.ceil_row p)
  have one : argCount (u.setFrames (.java (entryFrame mC #[.double b] 2) :: F)) mC = 1 := own_argc hm hst hpar
  refine ⟨acts, congrArg Prod.fst ?_⟩
  rw [own_ovStep (a := #[.double b]) (State.frames_setFrames _ hcur) row (by rw [show (entryFrame mC #[.double b] 2).method = mC from rfl, one]; rfl) rfl, State.setFrames_setFrames]
  exact (congrArg _ run).trans (own_upcall (own_words hk hx (by rw [hkn, hmn]; decide)))
set_option maxRecDepth 65536 in
set_option maxHeartbeats 40000000 in
theorem own_ovs (p : Program) {e : Env} {u : State} (hcur : u.cur < u.threads.size) {g : JFrame} {F : List Frame} {mC : MethodId} {mt : Method} {k : Class} {c : Code} {b r : UInt64} (hk : u.vm.classes[mC.cls]? = some k) (hx : k.methods[mC.idx]? = some mt) (hboot : k.loader = none) (hkn : k.name = "java/lang/Math") (hmn : mt.name = "ceil") (hmd : mt.desc = "(D)D") (hn : NoNaN64 r) (hcode : u.code? g.method = some c) {ig : Instr} {len : Nat} (hdg : decode c.code g.pc = .ok (ig, len)) :
    (stepThread p.tables e (u.setFrames (.native { method := mC, args := #[.double b], stage := 1, saved := #[], awaiting := false, answer := some (.returned (some (.double r))), words := 0 } :: .java g :: F))).1 = u.setFrames (.java { g with pc := g.pc + len, stack := .double r :: g.stack } :: F) := by
  obtain ⟨N, hN⟩ : ∃ z : NFrame, z = { method := mC, args := #[.double b], stage := 1, saved := #[], awaiting := false, answer := some (.returned (some (.double r))), words := 0 } := ⟨_, rfl⟩
  obtain ⟨S, hS⟩ : ∃ z, z = u.setFrames (.native N :: .java g :: F) := ⟨_, rfl⟩
  have fr : S.frames = .native N :: .java g :: F := by rw [hS]; exact State.frames_setFrames _ hcur
  have sv : S.vm = u.vm := by rw [hS]; rfl
  have cd : S.code? g.method = some c := by rw [State.code?_eq, sv, ← State.code?_eq]; exact hcode
  have over : handOver S (some (.double r)) (.java g :: F) = some (.java { g with pc := g.pc + len, stack := .double r :: g.stack } :: F) := by
    simp only [handOver, cd, Option.bind_some, hdg]; rfl
  obtain ⟨acts, run⟩ := Jvm.Free.Hsc.ceil_resume hn e S
  rw [← hN, ← hS]
  calc (stepThread p.tables e S).1 = (afterNative e N (.java g :: F) ((Jvm.Free.Hsc.ceilRow.resume N.stage N.saved (.returned (some (.double r)))).run e S)).1 :=
        congrArg Prod.fst (Jvm.Free.Hsc.stepThread_resumed' fr (by rw [sv, hN]; exact hk) hboot (by rw [hN]; exact hx) (by rw [hkn, hmn, hmd]; exact Jvm.Free.Hsc.ceil_row p) (by rw [hN]))
    _ = (doReturn e S acts (some (.double r))).1 := by rw [show N.stage = 1 by rw [hN], show N.saved = #[] by rw [hN], run]; rfl
    _ = S.setFrames (.java { g with pc := g.pc + len, stack := .double r :: g.stack } :: F) := doReturn_native fr (by rw [hN]) over
    _ = _ := by rw [hS, State.setFrames_setFrames]
set_option maxRecDepth 65536 in
set_option maxHeartbeats 40000000 in
theorem own_ceil {p : Program} {l : Launch} {e : Env} {R : Room} {s : State} {m : MethodId} {args : Array Value} {below : List Frame} {meth : Method} {c : Code} {T : State} {locs : List Loc} {cells slots : Nat} {Z : State} {h : Heap} {a0 : Array Value}
    (X : Stand p l e R s m args below meth c T locs cells slots) (hx : p.tables.exec = Jvm.exec) (hZ : Z.Warmed39 s.vm) (hw : ∀ d ∈ tables_1, d.before a0 Z = true) (SA : Sta Z h "java/lang/StrictMath" "$assertionsDisabled" "Z" (.int 1)) (hown : s.vm.findClass "com/example/holdfast/holdfast/cli/LatencyHistogram" = some m.cls) (eT : T.heap = h) {b r : UInt64} (hbr : own_CE b r)
    {g : JFrame} (hg : g.method = m) (hsize : g.locals.size = c.maxLocals) (hs : g.stack = [.double b]) (hmr : g.monitorRoom = 0) (hd : decode c.code g.pc = .ok (.invokestatic 32, 3)) (hf : 6 ≤ R.frames) (hl : 90 ≤ R.locals) :
    ∃ T', Stand p l e R s m args below meth c T' locs cells slots ∧ T'.heap = h ∧ ∀ target, Steps p.tables e below (T'.setTop { g with pc := g.pc + 3, stack := [.double r] }) target → Steps p.tables e below (T.setTop g) target := by
  have hc : T.cur < T.threads.size := State.cur_lt_of_top X.here.top
  have hadm := X.admits
  obtain ⟨g₀, hfr⟩ := X.frames_eq
  have hgm : (({ g with stack := [] } : JFrame).monitorRoom) = 0 := hmr
  -- the room
  obtain ⟨-, r2, -, r4⟩ := State.hasRoom_stack X.room
  rw [State.localsInUse_invoking X.frames X.method X.code] at r4
  rw [X.frames, List.length_cons] at r2
  rw [← X.limits] at r2 r4
  have hvw : vmFrameWords = 1024 := rfl
  have hwg : stackWeight (.java { g with stack := [] } :: below) = 11 + c.maxLocals + stackWeight below := by
    rw [own_wt, hgm]; simp [hsize]
  -- who the two methods are
  have wC := mvT (args := args) hZ (hw _ (List.mem_of_getElem? (i := 22) rfl))
  obtain ⟨mC, hnC⟩ := Cond.code_named wC
  obtain ⟨mtC, cmC, hmC, hcC, -, hmlC, -, hlkC, -, hsigC⟩ := Cond.code_spec hnC wC
  obtain ⟨kC, hkC, hkn⟩ := className_of_methodNamed hnC
  obtain ⟨hmn, hmd⟩ := name_of_methodNamed hnC hmC
  have hstC : mtC.isStatic = true := Cond.static_spec hnC hmC (mvT (args := args) hZ (hw _ (List.mem_of_getElem? (i := 20) rfl)))
  have hxC : kC.methods[mC.idx]? = some mtC := by simpa [Vm.method?, hkC] using hmC
  have hboot : kC.loader = none := Vm.bootOf_findClass (findClass_of_methodNamed hnC) hkC
  have wS := mvT (args := args) hZ (hw _ (List.mem_of_getElem? (i := 26) rfl))
  obtain ⟨mS, hnS⟩ := Cond.code_named wS
  obtain ⟨mtS, cmS, hmS, hcS, hbyS, hmlS, hretS, hlkS, -, -⟩ := Cond.code_spec hnS wS
  obtain ⟨kS, hkS, -⟩ := className_of_methodNamed hnS
  have hfS : s.vm.findClass "java/lang/StrictMath" = some mS.cls := findClass_of_methodNamed hnS
  have hiS : kS.init = .initialized := Cond.initialized_spec hfS hkS (mvT (args := args) hZ (hw _ (List.mem_of_getElem? (i := 25) rfl)))
  have hfm : kS.findMethod "ceil" "(D)D" = some mS.idx := findMethod_of_methodNamed hnS hkS
  have hlenC : [Value.double b].length = mtC.sig.parameters.length := lenOf pd_DD rfl _ hsigC
  -- the invocation
  obtain ⟨v1, hW1, st1⟩ := own_invS (p := p) (args := args) X.here hx hadm X.warmed hown (mvT hZ (hw _ (List.mem_of_getElem? (i := 19) rfl))) hnC hmC (mvT (args := args) hZ (hw _ (List.mem_of_getElem? (i := 20) rfl))) (mvT (args := args) hZ (hw _ (List.mem_of_getElem? (i := 21) rfl))) (by decide) (g := g) hg (argsL := [.double b]) (rest := []) hlenC hs hd
  have e1 : (T.setVm v1).setTop { g with stack := [] } = own_I T v1 (.java { g with stack := [] } :: below) := State.setTop_of_frames (s := T.setVm v1) _ hfr
  -- her own frame, overridden
  obtain ⟨N, hN⟩ : ∃ z : NFrame, z = { method := mC, args := #[.double b], stage := 1, saved := #[], awaiting := true, answer := none, words := 0 } := ⟨_, rfl⟩
  have hwN : stackWeight (.native N :: .java { g with stack := [] } :: below) = stackWeight (.java { g with stack := [] } :: below) + 1024 := by
    rw [hN]; exact stackWeight_other _ _ (fun f h => by cases h)
  obtain ⟨kC1, hkC1, ekC⟩ := hW1.alike.2.2 _ _ hkC
  obtain ⟨kS1, hkS1, ekS⟩ := hW1.alike.2.2 _ _ hkS
  obtain ⟨acts2, hov⟩ := own_ovr p (e := e) (u := T.setVm v1) hc (F := .java { g with stack := [] } :: below) (mC := mC) (mt := mtC) (k := kC1) (b := b) ((hW1.alike.method? _).trans hmC) hstC hkC1 (by rw [ekC]; exact hxC) (by rw [ekC]; exact hboot) (by rw [ekC]; exact hkn) hmn hmd hlenC.symm (cS := mS.cls) (kS := kS1) (i := mS.idx) (by show v1.findClass _ = _; rw [hW1.alike.findClass]; exact hfS) hkS1 (by rw [ekS]; exact hiS) (by rw [ekS]; exact hfm)
  rw [← hN] at hov
  -- StrictMath.ceil above the native's frame
  obtain ⟨v2, hW2, st2⟩ := own_sceR hw hZ hx hadm X.here SA eT hW1 (N := N) (G0 := .java { g with stack := [] } :: below) ⟨[.java { g with stack := [] }], rfl⟩ hnS hmS hcS hbyS hretS hlkS hbr (by simp only [List.length_cons]; omega) (by rw [hwN, hwg]; omega)
  obtain ⟨kC2, hkC2, ekC2⟩ := hW2.alike.2.2 _ _ hkC
  have hovs := own_ovs p (e := e) (u := T.setVm v2) hc (g := { g with stack := [] }) (F := below) (mC := mC) (mt := mtC) (k := kC2) (c := c) (b := b) (r := r) hkC2 (by rw [ekC2]; exact hxC) (by rw [ekC2]; exact hboot) (by rw [ekC2]; exact hkn) hmn hmd (own_CE_nn hbr) (by show (T.setVm v2).code? g.method = _; rw [hg, (X.noted hW2).here.code]) (ig := .invokestatic 32) (len := 3) hd
  have hrn : ∀ v F, (own_I T v F).status = .running ∧ (own_I T v F).curStatus? = some .runnable ∧ (own_I T v F).alone = true := fun v F =>
    ⟨X.here.running, by have := X.here.runnable; simpa [own_I] using this, by have := X.here.alone; simpa [own_I] using this⟩
  refine ⟨T.setVm v2, X.noted hW2, eT, fun target k => st1 target (fun acts => ?_)⟩
  rw [e1, show ([Value.double b].toArray) = #[.double b] from rfl, own_push (p := p) (below := below) hc hW1.alike hmC hcC hmlC hlkC (by simp only [List.length_cons]; omega) (by rw [hwg]; omega) acts]
  refine Steps.head (hrn _ _) ⟨[.java (entryFrame mC #[.double b] 2), .java { g with stack := [] }], by rw [own_fr hc]; rfl, by simp, by simp⟩ ?_
  have hov' : (stepThread p.tables e (own_I T v1 (.java (entryFrame mC #[.double b] 2) :: .java { g with stack := [] } :: below))).1 = (doInvoke e (own_I T v1 (.native N :: .java { g with stack := [] } :: below)) acts2 mS #[.double b]).1 := hov
  rw [hov', own_push (p := p) (below := below) hc hW1.alike hmS hcS hmlS hlkS (by simp only [List.length_cons]; omega) (by rw [hwN, hwg]; omega) acts2]
  refine st2 target ?_
  rw [hN]
  refine Steps.head (hrn _ _) ⟨[.native _, .java { g with stack := [] }], by rw [own_fr hc]; rfl, by simp, by simp⟩ ?_
  have hovs' : (stepThread p.tables e (own_I T v2 (.native { method := mC, args := #[.double b], stage := 1, saved := #[], awaiting := false, answer := some (.returned (some (.double r))), words := 0 } :: .java { g with stack := [] } :: below))).1 = own_I T v2 (.java { g with pc := g.pc + 3, stack := [.double r] } :: below) := hovs
  rw [hovs']
  have e3 : (T.setVm v2).setTop { g with pc := g.pc + 3, stack := [.double r] } = own_I T v2 (.java { g with pc := g.pc + 3, stack := [.double r] } :: below) := State.setTop_of_frames (s := T.setVm v2) _ hfr
  rw [← e3]
  exact k
def own_hi (k : Int32) : Int64 := if k < (512 : Int32) then k.toInt64 else ((((256 : Int32) + (k - 512) % 256) + 1).toInt64 <<< (((((9 : Int32) + (k - 512) / 256) - 8) &&& 0x3f).toInt64)) - (1 : Int64)
set_option maxRecDepth 65536 in
set_option maxHeartbeats 40000000 in
theorem own_hig (l : Launch) (Z : State) (a0 : Array Value) (hw : ∀ d ∈ tables_1, d.before a0 Z = true) (h0 : Heap) (k : Int32) : own_Met l Z own_higN prog_36_method_7_code 4 (some .long) ({ frames := 0, cells := 0, slots := 0, locals := 0 } : Room) [] #[(.int k)] h0 (own_Pure (some (.long (own_hi k))) h0) := by
  refine own_met (plainFor_of_name pn_H) ?_
  intro p e s m below meth c s₁ Bd hml hZ e0
  have hx := Bd.exec
  have hby := Bd.bytes
  have hown : s.vm.findClass "com/example/holdfast/holdfast/cli/LatencyHistogram" = some m.cls := findClass_of_methodNamed Bd.named
  have hnm := (name_of_methodNamed Bd.named Bd.method).1
  have X0 : Stand p l e ({ frames := 0, cells := 0, slots := 0, locals := 0 } : Room) s m #[(.int k)] below meth c s₁ [] 0 0 := Stand.of_body Bd
  rw [ef_H]
  show own_Goes p e below (own_End s below _ _) (s₁.setTop (mkF m 0 #[.val (.int k), .unset, .unset, .unset] []))
  refine own_go (fun _ own_k => XS.iloadN X0.here hx rfl (hb hby dH_0) rfl own_k) ?_
  show own_Goes p e below (own_End s below _ _) (s₁.setTop (mkF m 1 #[.val (.int k), .unset, .unset, .unset] [(.int k)]))
  refine own_go (fun _ own_k => XS.sipush X0.here hx rfl (hb hby dH_1) own_k) ?_
  show own_Goes p e below (own_End s below _ _) (s₁.setTop (mkF m 4 #[.val (.int k), .unset, .unset, .unset] [(.int (512 : Int32)), (.int k)]))
  by_cases q : k < (512 : Int32)
  · refine own_go (fun _ own_k => XS.icmpNo X0.here hx rfl (hb hby dH_4) rfl (tlt q).2.1 own_k) ?_
    show own_Goes p e below (own_End s below _ _) (s₁.setTop (mkF m 7 #[.val (.int k), .unset, .unset, .unset] []))
    refine own_go (fun _ own_k => XS.iloadN X0.here hx rfl (hb hby dH_7) rfl own_k) ?_
    show own_Goes p e below (own_End s below _ _) (s₁.setTop (mkF m 8 #[.val (.int k), .unset, .unset, .unset] [(.int k)]))
    refine own_go (fun _ own_k => XS.i2l X0.here hx rfl (hb hby dH_8) rfl own_k) ?_
    show own_Goes p e below (own_End s below _ _) (s₁.setTop (mkF m 9 #[.val (.int k), .unset, .unset, .unset] [(.long (k.toInt64))]))
    exact own_retJ X0 hx Bd.notSynchronized Bd.returns (hb hby dH_9) ⟨by rw [own_hi, if_pos q], e0, rfl⟩ (by decide) (by decide)
  · refine own_go (fun _ own_k => XS.icmpYes X0.here hx rfl (pc0 := 4) (pc' := 10) rfl (hb hby dH_4) rfl (flt q).2.1 (by decide) (by decide) own_k) ?_
    show own_Goes p e below (own_End s below _ _) (s₁.setTop (mkF m 10 #[.val (.int k), .unset, .unset, .unset] []))
    refine own_go (fun _ own_k => XS.bipush X0.here hx rfl (hb hby dH_10) own_k) ?_
    show own_Goes p e below (own_End s below _ _) (s₁.setTop (mkF m 12 #[.val (.int k), .unset, .unset, .unset] [(.int (9 : Int32))]))
    refine own_go (fun _ own_k => XS.iloadN X0.here hx rfl (hb hby dH_12) rfl own_k) ?_
    show own_Goes p e below (own_End s below _ _) (s₁.setTop (mkF m 13 #[.val (.int k), .unset, .unset, .unset] [(.int k), (.int (9 : Int32))]))
    refine own_go (fun _ own_k => XS.sipush X0.here hx rfl (hb hby dH_13) own_k) ?_
    show own_Goes p e below (own_End s below _ _) (s₁.setTop (mkF m 16 #[.val (.int k), .unset, .unset, .unset] [(.int (512 : Int32)), (.int k), (.int (9 : Int32))]))
    refine own_go (fun _ own_k => XS.isub X0.here hx rfl (hb hby dH_16) rfl own_k) ?_
    show own_Goes p e below (own_End s below _ _) (s₁.setTop (mkF m 17 #[.val (.int k), .unset, .unset, .unset] [(.int (k - (512 : Int32))), (.int (9 : Int32))]))
    refine own_go (fun _ own_k => XS.sipush X0.here hx rfl (hb hby dH_17) own_k) ?_
    show own_Goes p e below (own_End s below _ _) (s₁.setTop (mkF m 20 #[.val (.int k), .unset, .unset, .unset] [(.int (256 : Int32)), (.int (k - (512 : Int32))), (.int (9 : Int32))]))
    refine own_go (fun _ own_k => XS.idiv X0.here hx rfl (hb hby dH_20) rfl (by decide) own_k) ?_
    show own_Goes p e below (own_End s below _ _) (s₁.setTop (mkF m 21 #[.val (.int k), .unset, .unset, .unset] [(.int ((k - (512 : Int32)) / (256 : Int32))), (.int (9 : Int32))]))
    refine own_go (fun _ own_k => XS.iadd X0.here hx rfl (hb hby dH_21) rfl own_k) ?_
    show own_Goes p e below (own_End s below _ _) (s₁.setTop (mkF m 22 #[.val (.int k), .unset, .unset, .unset] [(.int ((9 : Int32) + ((k - (512 : Int32)) / (256 : Int32))))]))
    refine own_go (fun _ own_k => XS.istoreN X0.here hx rfl (hb hby dH_22) rfl (l' := #[.val (.int k), .val (.int ((9 : Int32) + ((k - (512 : Int32)) / (256 : Int32)))), .unset, .unset]) rfl own_k) ?_
    show own_Goes p e below (own_End s below _ _) (s₁.setTop (mkF m 23 #[.val (.int k), .val (.int ((9 : Int32) + ((k - (512 : Int32)) / (256 : Int32)))), .unset, .unset] []))
    refine own_go (fun _ own_k => XS.iloadN X0.here hx rfl (hb hby dH_23) rfl own_k) ?_
    show own_Goes p e below (own_End s below _ _) (s₁.setTop (mkF m 24 #[.val (.int k), .val (.int ((9 : Int32) + ((k - (512 : Int32)) / (256 : Int32)))), .unset, .unset] [(.int k)]))
    refine own_go (fun _ own_k => XS.sipush X0.here hx rfl (hb hby dH_24) own_k) ?_
    show own_Goes p e below (own_End s below _ _) (s₁.setTop (mkF m 27 #[.val (.int k), .val (.int ((9 : Int32) + ((k - (512 : Int32)) / (256 : Int32)))), .unset, .unset] [(.int (512 : Int32)), (.int k)]))
    refine own_go (fun _ own_k => XS.isub X0.here hx rfl (hb hby dH_27) rfl own_k) ?_
    show own_Goes p e below (own_End s below _ _) (s₁.setTop (mkF m 28 #[.val (.int k), .val (.int ((9 : Int32) + ((k - (512 : Int32)) / (256 : Int32)))), .unset, .unset] [(.int (k - (512 : Int32)))]))
    refine own_go (fun _ own_k => XS.sipush X0.here hx rfl (hb hby dH_28) own_k) ?_
    show own_Goes p e below (own_End s below _ _) (s₁.setTop (mkF m 31 #[.val (.int k), .val (.int ((9 : Int32) + ((k - (512 : Int32)) / (256 : Int32)))), .unset, .unset] [(.int (256 : Int32)), (.int (k - (512 : Int32)))]))
    refine own_go (fun _ own_k => iremM X0 hx rfl (hb hby dH_31) rfl (by decide) own_k) ?_
    show own_Goes p e below (own_End s below _ _) (s₁.setTop (mkF m 32 #[.val (.int k), .val (.int ((9 : Int32) + ((k - (512 : Int32)) / (256 : Int32)))), .unset, .unset] [(.int ((k - (512 : Int32)) % (256 : Int32)))]))
    refine own_go (fun _ own_k => XS.istoreN X0.here hx rfl (hb hby dH_32) rfl (l' := #[.val (.int k), .val (.int ((9 : Int32) + ((k - (512 : Int32)) / (256 : Int32)))), .val (.int ((k - (512 : Int32)) % (256 : Int32))), .unset]) rfl own_k) ?_
    show own_Goes p e below (own_End s below _ _) (s₁.setTop (mkF m 33 #[.val (.int k), .val (.int ((9 : Int32) + ((k - (512 : Int32)) / (256 : Int32)))), .val (.int ((k - (512 : Int32)) % (256 : Int32))), .unset] []))
    refine own_go (fun _ own_k => XS.iloadN X0.here hx rfl (hb hby dH_33) rfl own_k) ?_
    show own_Goes p e below (own_End s below _ _) (s₁.setTop (mkF m 34 #[.val (.int k), .val (.int ((9 : Int32) + ((k - (512 : Int32)) / (256 : Int32)))), .val (.int ((k - (512 : Int32)) % (256 : Int32))), .unset] [(.int ((9 : Int32) + ((k - (512 : Int32)) / (256 : Int32))))]))
    refine own_go (fun _ own_k => XS.bipush X0.here hx rfl (hb hby dH_34) own_k) ?_
    show own_Goes p e below (own_End s below _ _) (s₁.setTop (mkF m 36 #[.val (.int k), .val (.int ((9 : Int32) + ((k - (512 : Int32)) / (256 : Int32)))), .val (.int ((k - (512 : Int32)) % (256 : Int32))), .unset] [(.int (8 : Int32)), (.int ((9 : Int32) + ((k - (512 : Int32)) / (256 : Int32))))]))
    refine own_go (fun _ own_k => XS.isub X0.here hx rfl (hb hby dH_36) rfl own_k) ?_
    show own_Goes p e below (own_End s below _ _) (s₁.setTop (mkF m 37 #[.val (.int k), .val (.int ((9 : Int32) + ((k - (512 : Int32)) / (256 : Int32)))), .val (.int ((k - (512 : Int32)) % (256 : Int32))), .unset] [(.int (((9 : Int32) + ((k - (512 : Int32)) / (256 : Int32))) - (8 : Int32)))]))
    refine own_go (fun _ own_k => XS.istoreN X0.here hx rfl (hb hby dH_37) rfl (l' := #[.val (.int k), .val (.int ((9 : Int32) + ((k - (512 : Int32)) / (256 : Int32)))), .val (.int ((k - (512 : Int32)) % (256 : Int32))), .val (.int (((9 : Int32) + ((k - (512 : Int32)) / (256 : Int32))) - (8 : Int32)))]) rfl own_k) ?_
    show own_Goes p e below (own_End s below _ _) (s₁.setTop (mkF m 38 #[.val (.int k), .val (.int ((9 : Int32) + ((k - (512 : Int32)) / (256 : Int32)))), .val (.int ((k - (512 : Int32)) % (256 : Int32))), .val (.int (((9 : Int32) + ((k - (512 : Int32)) / (256 : Int32))) - (8 : Int32)))] []))
    refine own_go (fun _ own_k => XS.sipush X0.here hx rfl (hb hby dH_38) own_k) ?_
    show own_Goes p e below (own_End s below _ _) (s₁.setTop (mkF m 41 #[.val (.int k), .val (.int ((9 : Int32) + ((k - (512 : Int32)) / (256 : Int32)))), .val (.int ((k - (512 : Int32)) % (256 : Int32))), .val (.int (((9 : Int32) + ((k - (512 : Int32)) / (256 : Int32))) - (8 : Int32)))] [(.int (256 : Int32))]))
    refine own_go (fun _ own_k => XS.iloadN X0.here hx rfl (hb hby dH_41) rfl own_k) ?_
    show own_Goes p e below (own_End s below _ _) (s₁.setTop (mkF m 42 #[.val (.int k), .val (.int ((9 : Int32) + ((k - (512 : Int32)) / (256 : Int32)))), .val (.int ((k - (512 : Int32)) % (256 : Int32))), .val (.int (((9 : Int32) + ((k - (512 : Int32)) / (256 : Int32))) - (8 : Int32)))] [(.int ((k - (512 : Int32)) % (256 : Int32))), (.int (256 : Int32))]))
    refine own_go (fun _ own_k => XS.iadd X0.here hx rfl (hb hby dH_42) rfl own_k) ?_
    show own_Goes p e below (own_End s below _ _) (s₁.setTop (mkF m 43 #[.val (.int k), .val (.int ((9 : Int32) + ((k - (512 : Int32)) / (256 : Int32)))), .val (.int ((k - (512 : Int32)) % (256 : Int32))), .val (.int (((9 : Int32) + ((k - (512 : Int32)) / (256 : Int32))) - (8 : Int32)))] [(.int ((256 : Int32) + ((k - (512 : Int32)) % (256 : Int32))))]))
    refine own_go (fun _ own_k => XS.iconst X0.here hx rfl (hb hby dH_43) own_k) ?_
    show own_Goes p e below (own_End s below _ _) (s₁.setTop (mkF m 44 #[.val (.int k), .val (.int ((9 : Int32) + ((k - (512 : Int32)) / (256 : Int32)))), .val (.int ((k - (512 : Int32)) % (256 : Int32))), .val (.int (((9 : Int32) + ((k - (512 : Int32)) / (256 : Int32))) - (8 : Int32)))] [(.int (1 : Int32)), (.int ((256 : Int32) + ((k - (512 : Int32)) % (256 : Int32))))]))
    refine own_go (fun _ own_k => XS.iadd X0.here hx rfl (hb hby dH_44) rfl own_k) ?_
    show own_Goes p e below (own_End s below _ _) (s₁.setTop (mkF m 45 #[.val (.int k), .val (.int ((9 : Int32) + ((k - (512 : Int32)) / (256 : Int32)))), .val (.int ((k - (512 : Int32)) % (256 : Int32))), .val (.int (((9 : Int32) + ((k - (512 : Int32)) / (256 : Int32))) - (8 : Int32)))] [(.int (((256 : Int32) + ((k - (512 : Int32)) % (256 : Int32))) + (1 : Int32)))]))
    refine own_go (fun _ own_k => XS.i2l X0.here hx rfl (hb hby dH_45) rfl own_k) ?_
    show own_Goes p e below (own_End s below _ _) (s₁.setTop (mkF m 46 #[.val (.int k), .val (.int ((9 : Int32) + ((k - (512 : Int32)) / (256 : Int32)))), .val (.int ((k - (512 : Int32)) % (256 : Int32))), .val (.int (((9 : Int32) + ((k - (512 : Int32)) / (256 : Int32))) - (8 : Int32)))] [(.long ((((256 : Int32) + ((k - (512 : Int32)) % (256 : Int32))) + (1 : Int32)).toInt64))]))
    refine own_go (fun _ own_k => XS.iloadN X0.here hx rfl (hb hby dH_46) rfl own_k) ?_
    show own_Goes p e below (own_End s below _ _) (s₁.setTop (mkF m 47 #[.val (.int k), .val (.int ((9 : Int32) + ((k - (512 : Int32)) / (256 : Int32)))), .val (.int ((k - (512 : Int32)) % (256 : Int32))), .val (.int (((9 : Int32) + ((k - (512 : Int32)) / (256 : Int32))) - (8 : Int32)))] [(.int (((9 : Int32) + ((k - (512 : Int32)) / (256 : Int32))) - (8 : Int32))), (.long ((((256 : Int32) + ((k - (512 : Int32)) % (256 : Int32))) + (1 : Int32)).toInt64))]))
    refine own_go (fun _ own_k => XS.lshl X0.here hx rfl (hb hby dH_47) rfl own_k) ?_
    show own_Goes p e below (own_End s below _ _) (s₁.setTop (mkF m 48 #[.val (.int k), .val (.int ((9 : Int32) + ((k - (512 : Int32)) / (256 : Int32)))), .val (.int ((k - (512 : Int32)) % (256 : Int32))), .val (.int (((9 : Int32) + ((k - (512 : Int32)) / (256 : Int32))) - (8 : Int32)))] [(.long (((((256 : Int32) + ((k - (512 : Int32)) % (256 : Int32))) + (1 : Int32)).toInt64) <<< ((((9 : Int32) + ((k - (512 : Int32)) / (256 : Int32))) - (8 : Int32)) &&& 0x3f).toInt64))]))
    refine own_go (fun _ own_k => XS.lconst X0.here hx rfl (hb hby dH_48) own_k) ?_
    show own_Goes p e below (own_End s below _ _) (s₁.setTop (mkF m 49 #[.val (.int k), .val (.int ((9 : Int32) + ((k - (512 : Int32)) / (256 : Int32)))), .val (.int ((k - (512 : Int32)) % (256 : Int32))), .val (.int (((9 : Int32) + ((k - (512 : Int32)) / (256 : Int32))) - (8 : Int32)))] [(.long (1 : Int64)), (.long (((((256 : Int32) + ((k - (512 : Int32)) % (256 : Int32))) + (1 : Int32)).toInt64) <<< ((((9 : Int32) + ((k - (512 : Int32)) / (256 : Int32))) - (8 : Int32)) &&& 0x3f).toInt64))]))
    refine own_go (fun _ own_k => XS.lsub X0.here hx rfl (hb hby dH_49) rfl own_k) ?_
    show own_Goes p e below (own_End s below _ _) (s₁.setTop (mkF m 50 #[.val (.int k), .val (.int ((9 : Int32) + ((k - (512 : Int32)) / (256 : Int32)))), .val (.int ((k - (512 : Int32)) % (256 : Int32))), .val (.int (((9 : Int32) + ((k - (512 : Int32)) / (256 : Int32))) - (8 : Int32)))] [(.long ((((((256 : Int32) + ((k - (512 : Int32)) % (256 : Int32))) + (1 : Int32)).toInt64) <<< ((((9 : Int32) + ((k - (512 : Int32)) / (256 : Int32))) - (8 : Int32)) &&& 0x3f).toInt64) - (1 : Int64)))]))
    exact own_retJ X0 hx Bd.notSynchronized Bd.returns (hb hby dH_50) ⟨by rw [own_hi, if_neg q], e0, rfl⟩ (by decide) (by decide)
def own_hiN (k : Nat) : Nat := if k < 512 then k else (257 + (k - 512) % 256) * 2 ^ ((k - 512) / 256 + 1) - 1
theorem own_hi_v {k : Int32} (h0 : 0 ≤ k.toInt) (h1 : k.toInt < 14336) : (own_hi k).toInt = own_hiN k.toInt.toNat := by
  have c512 : (512 : Int32).toInt = 512 := by decide
  have c256 : (256 : Int32).toInt = 256 := by decide
  have c9 : (9 : Int32).toInt = 9 := by decide
  have c8 : (8 : Int32).toInt = 8 := by decide
  have c1 : (1 : Int32).toInt = 1 := by decide
  have d1 : (1 : Int64).toInt = 1 := by decide
  by_cases q : k < (512 : Int32)
  · have q' := own_lt32.mp q
    rw [own_hi, if_pos q, c_i2l, own_hiN, if_pos (by omega)]; omega
  · have q' : ¬ k.toInt < (512 : Int32).toInt := fun z => q (own_lt32.mpr z)
    rw [own_hi, if_neg q, own_hiN, if_neg (by omega)]
    have a1 : (k - 512).toInt = k.toInt - 512 := by rw [own_sub32 (by omega) (by omega)]; omega
    have a2 := (c_irem (k - 512) 256 256 (by decide)).1 (by omega)
    have a3 := (c_idiv (k - 512) 256 256 (by decide) (by decide)).1 (by omega)
    have a4 : ((256 : Int32) + (k - 512) % 256).toInt = 256 + (k.toInt - 512) % 256 := by rw [own_add32 (by omega) (by omega)]; omega
    have a5 : (((256 : Int32) + (k - 512) % 256) + 1).toInt = 257 + (k.toInt - 512) % 256 := by rw [own_add32 (by omega) (by omega)]; omega
    have a6 : ((9 : Int32) + (k - 512) / 256).toInt = 9 + (k.toInt - 512) / 256 := by rw [own_add32 (by omega) (by omega)]; omega
    have a7 : (((9 : Int32) + (k - 512) / 256) - 8).toInt = 1 + (k.toInt - 512) / 256 := by rw [own_sub32 (by omega) (by omega)]; omega
    have a8 : (((9 : Int32) + (k - 512) / 256) - 8).toBitVec.toNat % 64 = (k.toInt.toNat - 512) / 256 + 1 := by
      have e : (((9 : Int32) + (k - 512) / 256) - 8).toInt = (((9 : Int32) + (k - 512) / 256) - 8).toBitVec.toInt := rfl
      rw [a7, BitVec.toInt_eq_toNat_cond] at e
      have := (((9 : Int32) + (k - 512) / 256) - 8).toBitVec.isLt
      split at e <;> omega
    have b1 := c_lshl (((256 : Int32) + (k - 512) % 256) + 1).toInt64 (((9 : Int32) + (k - 512) / 256) - 8) _ a8
    rw [c_i2l, a5] at b1
    have b2 := c_lsub ((((256 : Int32) + (k - 512) % 256) + 1).toInt64 <<< (((((9 : Int32) + (k - 512) / 256) - 8) &&& 0x3f).toInt64)) (1 : Int64)
    have b3 := rng64 (((((256 : Int32) + (k - 512) % 256) + 1).toInt64 <<< (((((9 : Int32) + (k - 512) / 256) - 8) &&& 0x3f).toInt64)) - (1 : Int64))
    have e1 : (257 + (k.toInt - 512) % 256) = ((257 + (k.toInt.toNat - 512) % 256 : Nat) : Int) := by omega
    rw [e1, ← Int.natCast_mul] at b1
    have hp : 0 < 2 ^ ((k.toInt.toNat - 512) / 256 + 1) := Nat.pow_pos (by decide)
    have hP : 2 ^ ((k.toInt.toNat - 512) / 256 + 1) ≤ 2 ^ 54 := Nat.pow_le_pow_right (by decide) (by omega)
    have hM : (257 + (k.toInt.toNat - 512) % 256) * 2 ^ ((k.toInt.toNat - 512) / 256 + 1) ≤ 512 * 2 ^ 54 := Nat.mul_le_mul (by omega) hP
    have hM0 : 0 < (257 + (k.toInt.toNat - 512) % 256) * 2 ^ ((k.toInt.toNat - 512) / 256 + 1) := Nat.mul_pos (by omega) hp
    generalize (257 + (k.toInt.toNat - 512) % 256) * 2 ^ ((k.toInt.toNat - 512) / 256 + 1) = M at b1 hM hM0 ⊢
    omega
theorem own_hiN_mono {i j : Nat} (h : i ≤ j) : own_hiN i ≤ own_hiN j := by
  unfold own_hiN
  by_cases qi : i < 512
  · rw [if_pos qi]
    by_cases qj : j < 512
    · rw [if_pos qj]; exact h
    · rw [if_neg qj]
      have hp : 2 ^ 1 ≤ 2 ^ ((j - 512) / 256 + 1) := Nat.pow_le_pow_right (by decide) (by omega)
      have : 257 * 2 ^ 1 ≤ (257 + (j - 512) % 256) * 2 ^ ((j - 512) / 256 + 1) := Nat.mul_le_mul (by omega) hp
      omega
  · rw [if_neg qi, if_neg (by omega)]
    apply Nat.sub_le_sub_right
    rcases Nat.lt_or_ge ((i - 512) / 256) ((j - 512) / 256) with q | q
    · have hp : 2 ^ ((i - 512) / 256 + 2) ≤ 2 ^ ((j - 512) / 256 + 1) := Nat.pow_le_pow_right (by decide) (by omega)
      have h1 : (257 + (i - 512) % 256) * 2 ^ ((i - 512) / 256 + 1) ≤ 512 * 2 ^ ((i - 512) / 256 + 1) := Nat.mul_le_mul_right _ (by omega)
      have h2 : 512 * 2 ^ ((i - 512) / 256 + 1) = 256 * 2 ^ ((i - 512) / 256 + 2) := by
        rw [show (i - 512) / 256 + 2 = ((i - 512) / 256 + 1) + 1 from rfl]
        omega
      have h3 : 256 * 2 ^ ((i - 512) / 256 + 2) ≤ (257 + (j - 512) % 256) * 2 ^ ((j - 512) / 256 + 1) := Nat.mul_le_mul (by omega) hp
      exact Nat.le_trans h1 (Nat.le_trans (Nat.le_of_eq h2) h3)
    · have e : (i - 512) / 256 = (j - 512) / 256 := by omega
      rw [e]
      exact Nat.mul_le_mul_right _ (by omega)
theorem own_ofInt {i : Int32} {k : Nat} (h : i.toInt = k) : i = Int32.ofInt k := by rw [← h, Int32.ofInt_toInt]
theorem own_toInt {k : Nat} (h : k < 14336) : (Int32.ofInt (k : Int)).toInt = k := by
  rw [Int32.toInt_ofInt]
  have e : Int32.size = 4294967296 := rfl
  rw [Int.bmod_eq_of_le (by omega) (by omega)]
/-- the value of bucket k -/
def own_h (k : Nat) : Int64 := own_hi (Int32.ofInt (k : Int))
theorem own_h_v {k : Nat} (h : k < 14336) : (own_h k).toInt = own_hiN k := by
  have e := own_toInt h
  have := own_hi_v (k := Int32.ofInt (k : Int)) (by omega) (by omega)
  rw [e] at this
  exact this
theorem own_h_max {i j : Nat} (hi : i < 14336) (hj : j < 14336) : own_h (max i j) = own_maxJ (own_h i) (own_h j) := by
  have vi := own_h_v hi
  have vj := own_h_v hj
  unfold own_maxJ
  rcases Nat.le_total i j with q | q
  · have m := own_hiN_mono q
    rw [Nat.max_eq_right q]
    by_cases z : own_h i < own_h j
    · rw [if_pos z]
    · rw [if_neg z]
      have z' : ¬ (own_h i).toInt < (own_h j).toInt := fun y => z (own_lt64.mpr y)
      exact Int64.toInt_inj.mp (by omega)
  · have m := own_hiN_mono q
    rw [Nat.max_eq_left q, if_neg (fun y => by have := own_lt64.mp y; omega)]
theorem own_h_min {i j : Nat} (hi : i < 14336) (hj : j < 14336) : own_h (min i j) = own_minJ (own_h i) (own_h j) := by
  have vi := own_h_v hi
  have vj := own_h_v hj
  unfold own_minJ
  rcases Nat.le_total i j with q | q
  · have m := own_hiN_mono q
    rw [Nat.min_eq_left q, if_neg (fun y => by have := own_lt64.mp y; omega)]
  · have m := own_hiN_mono q
    rw [Nat.min_eq_right q]
    by_cases z : own_h j < own_h i
    · rw [if_pos z]
    · rw [if_neg z]
      have z' : ¬ (own_h j).toInt < (own_h i).toInt := fun y => z (own_lt64.mpr y)
      exact Int64.toInt_inj.mp (by omega)
/-- the running sum of the counts -/
def own_S (f : Nat → Int64) : Nat → Int64
  | 0 => 0
  | j + 1 => own_S f j + f j
def own_dl (k : Nat) : Nat → Int64 := fun i => if i = k then 1 else 0
def own_zr : Nat → Int64 := fun _ => 0
theorem own_S_zr (j : Nat) : own_S own_zr j = 0 := by
  induction j with
  | zero => rfl
  | succ j ih => rw [own_S, ih]; rfl
theorem own_S_dl (k j : Nat) : own_S (own_dl k) j = if k < j then 1 else 0 := by
  induction j with
  | zero => rfl
  | succ j ih =>
    rw [own_S, ih, own_dl]
    by_cases q : k < j
    · rw [if_pos q, if_neg (by omega), if_pos (by omega)]; rfl
    · rw [if_neg q]
      by_cases r : j = k
      · rw [if_pos r, if_pos (by omega)]; rfl
      · rw [if_neg r, if_neg (by omega)]; rfl
theorem own_S_add (f g : Nat → Int64) (j : Nat) : own_S (fun t => f t + g t) j = own_S f j + own_S g j := by
  induction j with
  | zero => rfl
  | succ j ih => rw [own_S, own_S, own_S, ih, Int64.add_assoc, Int64.add_assoc, ← Int64.add_assoc (own_S g j), Int64.add_comm (own_S g j), Int64.add_assoc (f j)]
/-- bucket K is the first at which r are seen -/
def own_At (f : Nat → Int64) (r : Int64) (K : Nat) : Prop := K < 14336 ∧ (∀ j, j < K → own_S f (j + 1) < r) ∧ ¬ own_S f (K + 1) < r
theorem own_At_zr : own_At own_zr 0 0 := ⟨by decide, fun j h => absurd h (by omega), by rw [own_S_zr]; decide⟩
theorem own_At_dl {k : Nat} (h : k < 14336) : own_At (own_dl k) 1 k := ⟨h, fun j q => by rw [own_S_dl, if_neg (by omega)]; decide, by rw [own_S_dl, if_pos (by omega)]; decide⟩
theorem own_At_zz : own_At (fun t => own_zr t + own_zr t) 0 0 := ⟨by decide, fun j h => absurd h (by omega), by rw [own_S_add, own_S_zr]; decide⟩
theorem own_At_dz {k : Nat} (h : k < 14336) : own_At (fun t => own_dl k t + own_zr t) 1 k := ⟨h, fun j q => by rw [own_S_add, own_S_zr, own_S_dl, if_neg (by omega)]; decide, by rw [own_S_add, own_S_zr, own_S_dl, if_pos (by omega)]; decide⟩
theorem own_At_zd {k : Nat} (h : k < 14336) : own_At (fun t => own_zr t + own_dl k t) 1 k := ⟨h, fun j q => by rw [own_S_add, own_S_zr, own_S_dl, if_neg (by omega)]; decide, by rw [own_S_add, own_S_zr, own_S_dl, if_pos (by omega)]; decide⟩
theorem own_At_max {i k : Nat} (hi : i < 14336) (hk : k < 14336) : own_At (fun t => own_dl i t + own_dl k t) 2 (max i k) := by
  refine ⟨by omega, fun j q => ?_, ?_⟩
  · rw [own_S_add, own_S_dl, own_S_dl]
    by_cases a : i < j + 1
    · rw [if_pos a, if_neg (by omega)]; decide
    · rw [if_neg a]
      by_cases b : k < j + 1
      · rw [if_pos b]; decide
      · rw [if_neg b]; decide
  · rw [own_S_add, own_S_dl, own_S_dl, if_pos (by omega), if_pos (by omega)]; decide
theorem own_At_min {i k : Nat} (hi : i < 14336) (hk : k < 14336) : own_At (fun t => own_dl i t + own_dl k t) 1 (min i k) := by
  refine ⟨by omega, fun j q => ?_, ?_⟩
  · rw [own_S_add, own_S_dl, own_S_dl, if_neg (by omega), if_neg (by omega)]; decide
  · rw [own_S_add, own_S_dl, own_S_dl]
    by_cases a : i < min i k + 1
    · rw [if_pos a]
      by_cases b : k < min i k + 1
      · rw [if_pos b]; decide
      · rw [if_neg b]; decide
    · rw [if_neg a, if_pos (by omega)]; decide
theorem own_H_congr {Z : State} {h : Heap} {a b : Addr} {f f' : Nat → Int64} {cnt sm : Int64} (H : own_H Z h a b f cnt sm) (e : ∀ t, t < 14336 → f t = f' t) : own_H Z h a b f' cnt sm := by
  obtain ⟨E, F, ⟨cl, A, S, V⟩, G, I⟩ := H
  exact ⟨E, F, ⟨cl, A, S, fun i hi => by rw [← e i hi]; exact V i hi⟩, G, I⟩
set_option maxRecDepth 65536 in
set_option maxHeartbeats 40000000 in
theorem own_pl (l : Launch) (Z : State) (a0 : Array Value) (hw : ∀ d ∈ tables_1, d.before a0 Z = true) (h0 : Heap) (a b : Addr) (f : Nat → Int64) (cnt sm : Int64) (qf : UInt64) (H : own_H Z h0 a b f cnt sm) (r : Int64) (K : Nat) (hA : own_At f r K) (p : Program) (e : Env) (s : State) (m : MethodId) (below : List Frame) (meth : Method) (c : Code) (s₁ : State) (Bd : BodyLoose p l own_pctN (head1 [Jvm.Cond.code own_pctN prog_36_method_5_code 8 (some .long)] ({ frames := 6, cells := 0, slots := 0, locals := 100 } : Room)) prog_36_method_5_code 8 (some .long) e s m #[(.ref a), (.double qf)] below meth c s₁) (hml : c.maxLocals = 8) (hZ : Z.Warmed39 s.vm) :
    ∀ (n j : Nat) (i : Int32) (sn : Int64) (T : State), Stand p l e ({ frames := 6, cells := 0, slots := 0, locals := 100 } : Room) s m #[(.ref a), (.double qf)] below meth c T [] 0 0 → T.heap = h0 → i.toInt = j → j + n = K → sn = own_S f j → own_Goes p e below (own_End s below ({ frames := 6, cells := 0, slots := 0, locals := 100 } : Room) (own_Pure (some (.long (own_h K))) h0)) (T.setTop (mkF m 18 #[.val (.ref a), .val (.double qf), .second, .val (.long r), .second, .val (.long sn), .second, .val (.int i)] [])) := by
  have hx := Bd.exec
  have hby := Bd.bytes
  have hown : s.vm.findClass "com/example/holdfast/holdfast/cli/LatencyHistogram" = some m.cls := findClass_of_methodNamed Bd.named
  obtain ⟨hK, hlt, hge⟩ := hA
  obtain ⟨E0, F0, ⟨cl, A0, S0, V0⟩, F1, F2⟩ := id H
  have c0 : (14336 : Int32).toInt = 14336 := by decide
  have c1 : (Int32.ofInt 1).toInt = 1 := by decide
  intro n
  induction n with
  | zero =>
    intro j i sn T X eT hi hj hs
    have hji : i.toNatClampNeg = j := by rw [own_clamp]; omega
    have hin : ¬ (i < 0 ∨ cl.slots.size ≤ i.toNatClampNeg) := by rw [S0]; exact own_inb ⟨by omega, by omega⟩
    have hv : cl.slots[i.toNatClampNeg]? = some (.long (f j)) := by rw [hji]; exact V0 j (by omega)
    show own_Goes p e below (own_End s below _ _) (T.setTop (mkF m 18 #[.val (.ref a), .val (.double qf), .second, .val (.long r), .second, .val (.long sn), .second, .val (.int i)] []))
    refine own_go (fun _ own_k => XS.iload X.here hx rfl (hb hby dP_18) rfl own_k) ?_
    show own_Goes p e below (own_End s below _ _) (T.setTop (mkF m 20 #[.val (.ref a), .val (.double qf), .second, .val (.long r), .second, .val (.long sn), .second, .val (.int i)] [(.int i)]))
    refine own_go (fun _ own_k => XS.aloadN X.here hx rfl (hb hby dP_20) rfl rfl own_k) ?_
    show own_Goes p e below (own_End s below _ _) (T.setTop (mkF m 21 #[.val (.ref a), .val (.double qf), .second, .val (.long r), .second, .val (.long sn), .second, .val (.int i)] [(.ref a), (.int i)]))
    obtain ⟨T1, X1, e1, st1⟩ := getF X hx hZ hown (host := "") (Or.inl (hw _ (List.mem_of_getElem? (i := 10) rfl))) Via.refl eT F0 (g := (mkF m 21 #[.val (.ref a), .val (.double qf), .second, .val (.long r), .second, .val (.long sn), .second, .val (.int i)] [(.ref a), (.int i)])) rfl rfl (hb hby dP_21)
    refine own_go st1 ?_
    show own_Goes p e below (own_End s below _ _) (T1.setTop (mkF m 24 #[.val (.ref a), .val (.double qf), .second, .val (.long r), .second, .val (.long sn), .second, .val (.int i)] [(.ref b), (.int i)]))
    refine own_go (own_len X1 hx hZ e1 A0 (z := (14336 : Int32)) (by rw [S0]; decide) (by decide) (g := (mkF m 24 #[.val (.ref a), .val (.double qf), .second, .val (.long r), .second, .val (.long sn), .second, .val (.int i)] [(.ref b), (.int i)])) rfl rfl (hb hby dP_24)) ?_
    show own_Goes p e below (own_End s below _ _) (T1.setTop (mkF m 25 #[.val (.ref a), .val (.double qf), .second, .val (.long r), .second, .val (.long sn), .second, .val (.int i)] [(.int (14336 : Int32)), (.int i)]))
    refine own_go (fun _ own_k => XS.icmpNo X1.here hx rfl (hb hby dP_25) rfl (tlt (own_lt32.mpr (by omega))).2.1 own_k) ?_
    show own_Goes p e below (own_End s below _ _) (T1.setTop (mkF m 28 #[.val (.ref a), .val (.double qf), .second, .val (.long r), .second, .val (.long sn), .second, .val (.int i)] []))
    refine own_go (fun _ own_k => XS.lload X1.here hx rfl (hb hby dP_28) rfl own_k) ?_
    show own_Goes p e below (own_End s below _ _) (T1.setTop (mkF m 30 #[.val (.ref a), .val (.double qf), .second, .val (.long r), .second, .val (.long sn), .second, .val (.int i)] [(.long sn)]))
    refine own_go (fun _ own_k => XS.aloadN X1.here hx rfl (hb hby dP_30) rfl rfl own_k) ?_
    show own_Goes p e below (own_End s below _ _) (T1.setTop (mkF m 31 #[.val (.ref a), .val (.double qf), .second, .val (.long r), .second, .val (.long sn), .second, .val (.int i)] [(.ref a), (.long sn)]))
    obtain ⟨T2, X2, e2, st2⟩ := getF X1 hx hZ hown (host := "") (Or.inl (hw _ (List.mem_of_getElem? (i := 10) rfl))) Via.refl e1 F0 (g := (mkF m 31 #[.val (.ref a), .val (.double qf), .second, .val (.long r), .second, .val (.long sn), .second, .val (.int i)] [(.ref a), (.long sn)])) rfl rfl (hb hby dP_31)
    refine own_go st2 ?_
    show own_Goes p e below (own_End s below _ _) (T2.setTop (mkF m 34 #[.val (.ref a), .val (.double qf), .second, .val (.long r), .second, .val (.long sn), .second, .val (.int i)] [(.ref b), (.long sn)]))
    refine own_go (fun _ own_k => XS.iload X2.here hx rfl (hb hby dP_34) rfl own_k) ?_
    show own_Goes p e below (own_End s below _ _) (T2.setTop (mkF m 36 #[.val (.ref a), .val (.double qf), .second, .val (.long r), .second, .val (.long sn), .second, .val (.int i)] [(.int i), (.ref b), (.long sn)]))
    refine own_go (own_lal X2 hx hZ e2 A0 hin hv (g := (mkF m 36 #[.val (.ref a), .val (.double qf), .second, .val (.long r), .second, .val (.long sn), .second, .val (.int i)] [(.int i), (.ref b), (.long sn)])) rfl rfl (hb hby dP_36)) ?_
    show own_Goes p e below (own_End s below _ _) (T2.setTop (mkF m 37 #[.val (.ref a), .val (.double qf), .second, .val (.long r), .second, .val (.long sn), .second, .val (.int i)] [(.long (f j)), (.long sn)]))
    have hS : sn + f j = own_S f (j + 1) := by rw [hs]; rfl
    refine own_go (fun _ own_k => XS.ladd X2.here hx rfl (hb hby dP_37) rfl own_k) ?_
    show own_Goes p e below (own_End s below _ _) (T2.setTop (mkF m 38 #[.val (.ref a), .val (.double qf), .second, .val (.long r), .second, .val (.long sn), .second, .val (.int i)] [(.long (sn + (f j)))]))
    refine own_go (fun _ own_k => XS.lstore X2.here hx rfl (hb hby dP_38) rfl (l' := #[.val (.ref a), .val (.double qf), .second, .val (.long r), .second, .val (.long (sn + (f j))), .second, .val (.int i)]) rfl own_k) ?_
    show own_Goes p e below (own_End s below _ _) (T2.setTop (mkF m 40 #[.val (.ref a), .val (.double qf), .second, .val (.long r), .second, .val (.long (sn + (f j))), .second, .val (.int i)] []))
    refine own_go (fun _ own_k => XS.lload X2.here hx rfl (hb hby dP_40) rfl own_k) ?_
    show own_Goes p e below (own_End s below _ _) (T2.setTop (mkF m 42 #[.val (.ref a), .val (.double qf), .second, .val (.long r), .second, .val (.long (sn + (f j))), .second, .val (.int i)] [(.long (sn + (f j)))]))
    refine own_go (fun _ own_k => XS.lloadN X2.here hx rfl (hb hby dP_42) rfl own_k) ?_
    show own_Goes p e below (own_End s below _ _) (T2.setTop (mkF m 43 #[.val (.ref a), .val (.double qf), .second, .val (.long r), .second, .val (.long (sn + (f j))), .second, .val (.int i)] [(.long r), (.long (sn + (f j)))]))
    refine own_go (fun _ own_k => XS.lcmp X2.here hx rfl (hb hby dP_43) rfl own_k) ?_
    show own_Goes p e below (own_End s below _ _) (T2.setTop (mkF m 44 #[.val (.ref a), .val (.double qf), .second, .val (.long r), .second, .val (.long (sn + (f j))), .second, .val (.int i)] [(.int (lcmpW (sn + (f j)) r))]))
    obtain rfl : j = K := by omega
    refine own_go (fun _ own_k => XS.ifNo X2.here hx rfl (hb hby dP_44) rfl (by rw [if0, hS]; exact (flt (fun z => hge ((lw_lt _ _).mp z))).1) own_k) ?_
    show own_Goes p e below (own_End s below _ _) (T2.setTop (mkF m 47 #[.val (.ref a), .val (.double qf), .second, .val (.long r), .second, .val (.long (sn + (f j))), .second, .val (.int i)] []))
    refine own_go (fun _ own_k => XS.iload X2.here hx rfl (hb hby dP_47) rfl own_k) ?_
    show own_Goes p e below (own_End s below _ _) (T2.setTop (mkF m 49 #[.val (.ref a), .val (.double qf), .second, .val (.long r), .second, .val (.long (sn + (f j))), .second, .val (.int i)] [(.int i)]))
    obtain ⟨T3, X3, e3, st3⟩ := own_callP X2 hx hZ (y := own_higN) hown (hw _ (List.mem_of_getElem? (i := 40) rfl)) (hw _ (List.mem_of_getElem? (i := 41) rfl)) (hw _ (List.mem_of_getElem? (i := 2) rfl)) (hw _ (List.mem_of_getElem? (i := 42) rfl)) (by decide) (own_hig l Z a0 hw h0 i) e2 (W := 0) (by decide) (by decide) (g := (mkF m 49 #[.val (.ref a), .val (.double qf), .second, .val (.long r), .second, .val (.long (sn + (f j))), .second, .val (.int i)] [(.int i)])) rfl (by rw [hml]; rfl) (argsL := [(.int i)]) (rest := []) pd_IJ rfl rfl (by show 2 * 0 + _ ≤ _; exact Nat.le_of_eq rfl) (hb hby dP_49) rfl (by decide) (by decide)
    refine own_go st3 ?_
    show own_Goes p e below (own_End s below _ _) (T3.setTop (mkF m 52 #[.val (.ref a), .val (.double qf), .second, .val (.long r), .second, .val (.long (sn + (f j))), .second, .val (.int i)] [(.long (own_hi i))]))
    exact own_retJ X3 hx Bd.notSynchronized Bd.returns (hb hby dP_52) ⟨by rw [own_ofInt hi]; rfl, e3, rfl⟩ (by decide) (by decide)
  | succ n ih =>
    intro j i sn T X eT hi hj hs
    have hji : i.toNatClampNeg = j := by rw [own_clamp]; omega
    have hin : ¬ (i < 0 ∨ cl.slots.size ≤ i.toNatClampNeg) := by rw [S0]; exact own_inb ⟨by omega, by omega⟩
    have hv : cl.slots[i.toNatClampNeg]? = some (.long (f j)) := by rw [hji]; exact V0 j (by omega)
    show own_Goes p e below (own_End s below _ _) (T.setTop (mkF m 18 #[.val (.ref a), .val (.double qf), .second, .val (.long r), .second, .val (.long sn), .second, .val (.int i)] []))
    refine own_go (fun _ own_k => XS.iload X.here hx rfl (hb hby dP_18) rfl own_k) ?_
    show own_Goes p e below (own_End s below _ _) (T.setTop (mkF m 20 #[.val (.ref a), .val (.double qf), .second, .val (.long r), .second, .val (.long sn), .second, .val (.int i)] [(.int i)]))
    refine own_go (fun _ own_k => XS.aloadN X.here hx rfl (hb hby dP_20) rfl rfl own_k) ?_
    show own_Goes p e below (own_End s below _ _) (T.setTop (mkF m 21 #[.val (.ref a), .val (.double qf), .second, .val (.long r), .second, .val (.long sn), .second, .val (.int i)] [(.ref a), (.int i)]))
    obtain ⟨T1, X1, e1, st1⟩ := getF X hx hZ hown (host := "") (Or.inl (hw _ (List.mem_of_getElem? (i := 10) rfl))) Via.refl eT F0 (g := (mkF m 21 #[.val (.ref a), .val (.double qf), .second, .val (.long r), .second, .val (.long sn), .second, .val (.int i)] [(.ref a), (.int i)])) rfl rfl (hb hby dP_21)
    refine own_go st1 ?_
    show own_Goes p e below (own_End s below _ _) (T1.setTop (mkF m 24 #[.val (.ref a), .val (.double qf), .second, .val (.long r), .second, .val (.long sn), .second, .val (.int i)] [(.ref b), (.int i)]))
    refine own_go (own_len X1 hx hZ e1 A0 (z := (14336 : Int32)) (by rw [S0]; decide) (by decide) (g := (mkF m 24 #[.val (.ref a), .val (.double qf), .second, .val (.long r), .second, .val (.long sn), .second, .val (.int i)] [(.ref b), (.int i)])) rfl rfl (hb hby dP_24)) ?_
    show own_Goes p e below (own_End s below _ _) (T1.setTop (mkF m 25 #[.val (.ref a), .val (.double qf), .second, .val (.long r), .second, .val (.long sn), .second, .val (.int i)] [(.int (14336 : Int32)), (.int i)]))
    refine own_go (fun _ own_k => XS.icmpNo X1.here hx rfl (hb hby dP_25) rfl (tlt (own_lt32.mpr (by omega))).2.1 own_k) ?_
    show own_Goes p e below (own_End s below _ _) (T1.setTop (mkF m 28 #[.val (.ref a), .val (.double qf), .second, .val (.long r), .second, .val (.long sn), .second, .val (.int i)] []))
    refine own_go (fun _ own_k => XS.lload X1.here hx rfl (hb hby dP_28) rfl own_k) ?_
    show own_Goes p e below (own_End s below _ _) (T1.setTop (mkF m 30 #[.val (.ref a), .val (.double qf), .second, .val (.long r), .second, .val (.long sn), .second, .val (.int i)] [(.long sn)]))
    refine own_go (fun _ own_k => XS.aloadN X1.here hx rfl (hb hby dP_30) rfl rfl own_k) ?_
    show own_Goes p e below (own_End s below _ _) (T1.setTop (mkF m 31 #[.val (.ref a), .val (.double qf), .second, .val (.long r), .second, .val (.long sn), .second, .val (.int i)] [(.ref a), (.long sn)]))
    obtain ⟨T2, X2, e2, st2⟩ := getF X1 hx hZ hown (host := "") (Or.inl (hw _ (List.mem_of_getElem? (i := 10) rfl))) Via.refl e1 F0 (g := (mkF m 31 #[.val (.ref a), .val (.double qf), .second, .val (.long r), .second, .val (.long sn), .second, .val (.int i)] [(.ref a), (.long sn)])) rfl rfl (hb hby dP_31)
    refine own_go st2 ?_
    show own_Goes p e below (own_End s below _ _) (T2.setTop (mkF m 34 #[.val (.ref a), .val (.double qf), .second, .val (.long r), .second, .val (.long sn), .second, .val (.int i)] [(.ref b), (.long sn)]))
    refine own_go (fun _ own_k => XS.iload X2.here hx rfl (hb hby dP_34) rfl own_k) ?_
    show own_Goes p e below (own_End s below _ _) (T2.setTop (mkF m 36 #[.val (.ref a), .val (.double qf), .second, .val (.long r), .second, .val (.long sn), .second, .val (.int i)] [(.int i), (.ref b), (.long sn)]))
    refine own_go (own_lal X2 hx hZ e2 A0 hin hv (g := (mkF m 36 #[.val (.ref a), .val (.double qf), .second, .val (.long r), .second, .val (.long sn), .second, .val (.int i)] [(.int i), (.ref b), (.long sn)])) rfl rfl (hb hby dP_36)) ?_
    show own_Goes p e below (own_End s below _ _) (T2.setTop (mkF m 37 #[.val (.ref a), .val (.double qf), .second, .val (.long r), .second, .val (.long sn), .second, .val (.int i)] [(.long (f j)), (.long sn)]))
    have hS : sn + f j = own_S f (j + 1) := by rw [hs]; rfl
    refine own_go (fun _ own_k => XS.ladd X2.here hx rfl (hb hby dP_37) rfl own_k) ?_
    show own_Goes p e below (own_End s below _ _) (T2.setTop (mkF m 38 #[.val (.ref a), .val (.double qf), .second, .val (.long r), .second, .val (.long sn), .second, .val (.int i)] [(.long (sn + (f j)))]))
    refine own_go (fun _ own_k => XS.lstore X2.here hx rfl (hb hby dP_38) rfl (l' := #[.val (.ref a), .val (.double qf), .second, .val (.long r), .second, .val (.long (sn + (f j))), .second, .val (.int i)]) rfl own_k) ?_
    show own_Goes p e below (own_End s below _ _) (T2.setTop (mkF m 40 #[.val (.ref a), .val (.double qf), .second, .val (.long r), .second, .val (.long (sn + (f j))), .second, .val (.int i)] []))
    refine own_go (fun _ own_k => XS.lload X2.here hx rfl (hb hby dP_40) rfl own_k) ?_
    show own_Goes p e below (own_End s below _ _) (T2.setTop (mkF m 42 #[.val (.ref a), .val (.double qf), .second, .val (.long r), .second, .val (.long (sn + (f j))), .second, .val (.int i)] [(.long (sn + (f j)))]))
    refine own_go (fun _ own_k => XS.lloadN X2.here hx rfl (hb hby dP_42) rfl own_k) ?_
    show own_Goes p e below (own_End s below _ _) (T2.setTop (mkF m 43 #[.val (.ref a), .val (.double qf), .second, .val (.long r), .second, .val (.long (sn + (f j))), .second, .val (.int i)] [(.long r), (.long (sn + (f j)))]))
    refine own_go (fun _ own_k => XS.lcmp X2.here hx rfl (hb hby dP_43) rfl own_k) ?_
    show own_Goes p e below (own_End s below _ _) (T2.setTop (mkF m 44 #[.val (.ref a), .val (.double qf), .second, .val (.long r), .second, .val (.long (sn + (f j))), .second, .val (.int i)] [(.int (lcmpW (sn + (f j)) r))]))
    refine own_go (fun _ own_k => XS.ifYes X2.here hx rfl (pc0 := 44) (pc' := 53) rfl (hb hby dP_44) rfl (by rw [if0, hS]; exact (tlt ((lw_lt _ _).mpr (hlt j (by omega)))).1) (by decide) (by decide) own_k) ?_
    show own_Goes p e below (own_End s below _ _) (T2.setTop (mkF m 53 #[.val (.ref a), .val (.double qf), .second, .val (.long r), .second, .val (.long (sn + (f j))), .second, .val (.int i)] []))
    refine own_go (fun _ own_k => XS.iinc X2.here hx rfl (hb hby dP_53) rfl (l' := #[.val (.ref a), .val (.double qf), .second, .val (.long r), .second, .val (.long (sn + (f j))), .second, .val (.int (i + Int32.ofInt (1)))]) rfl own_k) ?_
    show own_Goes p e below (own_End s below _ _) (T2.setTop (mkF m 56 #[.val (.ref a), .val (.double qf), .second, .val (.long r), .second, .val (.long (sn + (f j))), .second, .val (.int (i + Int32.ofInt (1)))] []))
    refine own_go (fun _ own_k => XS.goto X2.here hx rfl (pc0 := 56) (pc' := 18) rfl (hb hby dP_56) (by decide) (by decide) own_k) ?_
    show own_Goes p e below (own_End s below _ _) (T2.setTop (mkF m 18 #[.val (.ref a), .val (.double qf), .second, .val (.long r), .second, .val (.long (sn + (f j))), .second, .val (.int (i + Int32.ofInt (1)))] []))
    exact ih (j + 1) _ _ T2 X2 e2 (by rw [own_add32 (by omega) (by omega)]; omega) (by omega) hS
set_option maxRecDepth 65536 in
set_option maxHeartbeats 40000000 in
theorem own_pct (l : Launch) (Z : State) (a0 : Array Value) (hw : ∀ d ∈ tables_1, d.before a0 Z = true) (h0 : Heap) (a b : Addr) (f : Nat → Int64) (cnt sm : Int64) (qf pr ce : UInt64) (r : Int64) (K : Nat) (H : own_H Z h0 a b f cnt sm) (hA : own_At f r K) (hp : FP.dmul qf (FP.l2d cnt) = pr) (hn : NoNaN64 pr) (SA : Sta Z h0 "java/lang/StrictMath" "$assertionsDisabled" "Z" (.int 1)) (hc : own_CE pr ce) (hr : FP.d2l ce = r) :
    own_Met l Z own_pctN prog_36_method_5_code 8 (some .long) ({ frames := 6, cells := 0, slots := 0, locals := 100 } : Room) [] #[(.ref a), (.double qf)] h0 (own_Pure (some (.long (own_h K))) h0) := by
  refine own_met (plainFor_of_name pn_H) ?_
  intro p e s m below meth c s₁ Bd hml hZ e0
  have hx := Bd.exec
  have hby := Bd.bytes
  have hown : s.vm.findClass "com/example/holdfast/holdfast/cli/LatencyHistogram" = some m.cls := findClass_of_methodNamed Bd.named
  have hnm := (name_of_methodNamed Bd.named Bd.method).1
  have X0 : Stand p l e ({ frames := 6, cells := 0, slots := 0, locals := 100 } : Room) s m #[(.ref a), (.double qf)] below meth c s₁ [] 0 0 := Stand.of_body Bd
  rw [ef_P]
  show own_Goes p e below (own_End s below _ _) (s₁.setTop (mkF m 0 #[.val (.ref a), .val (.double qf), .second, .unset, .unset, .unset, .unset, .unset] []))
  refine own_go (fun _ own_k => XS.dloadN X0.here hx rfl (hb hby dP_0) rfl own_k) ?_
  show own_Goes p e below (own_End s below _ _) (s₁.setTop (mkF m 1 #[.val (.ref a), .val (.double qf), .second, .unset, .unset, .unset, .unset, .unset] [(.double qf)]))
  refine own_go (fun _ own_k => XS.aloadN X0.here hx rfl (hb hby dP_1) rfl rfl own_k) ?_
  show own_Goes p e below (own_End s below _ _) (s₁.setTop (mkF m 2 #[.val (.ref a), .val (.double qf), .second, .unset, .unset, .unset, .unset, .unset] [(.ref a), (.double qf)]))
  obtain ⟨T1, X1, e1, st1⟩ := getF X0 hx hZ hown (host := "") (Or.inl (hw _ (List.mem_of_getElem? (i := 17) rfl))) Via.refl e0 H.2.2.2.1 (g := (mkF m 2 #[.val (.ref a), .val (.double qf), .second, .unset, .unset, .unset, .unset, .unset] [(.ref a), (.double qf)])) rfl rfl (hb hby dP_2)
  refine own_go st1 ?_
  show own_Goes p e below (own_End s below _ _) (T1.setTop (mkF m 5 #[.val (.ref a), .val (.double qf), .second, .unset, .unset, .unset, .unset, .unset] [(.long cnt), (.double qf)]))
  refine own_go (fun _ own_k => XS.l2dS X1.here hx rfl (hb hby dP_5) rfl rfl own_k) ?_
  show own_Goes p e below (own_End s below _ _) (T1.setTop (mkF m 6 #[.val (.ref a), .val (.double qf), .second, .unset, .unset, .unset, .unset, .unset] [(.double (FP.l2d cnt)), (.double qf)]))
  refine own_go (fun _ own_k => XS.dmulS X1.here hx rfl (hb hby dP_6) rfl (by rw [hp]; exact hn) hp own_k) ?_
  show own_Goes p e below (own_End s below _ _) (T1.setTop (mkF m 7 #[.val (.ref a), .val (.double qf), .second, .unset, .unset, .unset, .unset, .unset] [(.double pr)]))
  obtain ⟨T2, X2, e2, st2⟩ := own_ceil X1 hx hZ hw SA hown e1 hc (g := (mkF m 7 #[.val (.ref a), .val (.double qf), .second, .unset, .unset, .unset, .unset, .unset] [(.double pr)])) rfl (by rw [hml]; rfl) rfl rfl (hb hby dP_7) (by decide) (by decide)
  refine own_go st2 ?_
  show own_Goes p e below (own_End s below _ _) (T2.setTop (mkF m 10 #[.val (.ref a), .val (.double qf), .second, .unset, .unset, .unset, .unset, .unset] [(.double ce)]))
  refine own_go (fun _ own_k => XS.d2lS X2.here hx rfl (hb hby dP_10) rfl hr own_k) ?_
  show own_Goes p e below (own_End s below _ _) (T2.setTop (mkF m 11 #[.val (.ref a), .val (.double qf), .second, .unset, .unset, .unset, .unset, .unset] [(.long r)]))
  refine own_go (fun _ own_k => XS.lstoreN X2.here hx rfl (hb hby dP_11) rfl (l' := #[.val (.ref a), .val (.double qf), .second, .val (.long r), .second, .unset, .unset, .unset]) rfl own_k) ?_
  show own_Goes p e below (own_End s below _ _) (T2.setTop (mkF m 12 #[.val (.ref a), .val (.double qf), .second, .val (.long r), .second, .unset, .unset, .unset] []))
  refine own_go (fun _ own_k => XS.lconst X2.here hx rfl (hb hby dP_12) own_k) ?_
  show own_Goes p e below (own_End s below _ _) (T2.setTop (mkF m 13 #[.val (.ref a), .val (.double qf), .second, .val (.long r), .second, .unset, .unset, .unset] [(.long (0 : Int64))]))
  refine own_go (fun _ own_k => XS.lstore X2.here hx rfl (hb hby dP_13) rfl (l' := #[.val (.ref a), .val (.double qf), .second, .val (.long r), .second, .val (.long (0 : Int64)), .second, .unset]) rfl own_k) ?_
  show own_Goes p e below (own_End s below _ _) (T2.setTop (mkF m 15 #[.val (.ref a), .val (.double qf), .second, .val (.long r), .second, .val (.long (0 : Int64)), .second, .unset] []))
  refine own_go (fun _ own_k => XS.iconst X2.here hx rfl (hb hby dP_15) own_k) ?_
  show own_Goes p e below (own_End s below _ _) (T2.setTop (mkF m 16 #[.val (.ref a), .val (.double qf), .second, .val (.long r), .second, .val (.long (0 : Int64)), .second, .unset] [(.int (0 : Int32))]))
  refine own_go (fun _ own_k => XS.istore X2.here hx rfl (hb hby dP_16) rfl (l' := #[.val (.ref a), .val (.double qf), .second, .val (.long r), .second, .val (.long (0 : Int64)), .second, .val (.int (0 : Int32))]) rfl own_k) ?_
  show own_Goes p e below (own_End s below _ _) (T2.setTop (mkF m 18 #[.val (.ref a), .val (.double qf), .second, .val (.long r), .second, .val (.long (0 : Int64)), .second, .val (.int (0 : Int32))] []))
  exact own_pl l Z a0 hw h0 a b f cnt sm qf H r K hA p e s m below meth c s₁ Bd hml hZ K 0 0 0 T2 X2 e2 (by decide) (by omega) rfl
def own_QA (Z : State) (h0 : Heap) (n0 : Nat) (a b : Addr) (f g : Nat → Int64) (c1 s1 c2 s2 : Int64) (v : Option Value) (h : Heap) (L : List Loc) : Prop := v = none ∧ Fr n0 L ∧ Keep h0 h [a, b] ∧ own_H Z h a b (fun t => f t + g t) (c1 + c2) (s1 + s2)
theorem own_step (f g : Nat → Int64) (t j : Nat) : (if t = j then f j + g j else if t < j then f t + g t else f t) = if t < j + 1 then f t + g t else f t := by
  by_cases q : t = j
  · subst q; rw [if_pos rfl, if_pos (Nat.lt_succ_self t)]
  · rw [if_neg q]
    by_cases r : t < j
    · rw [if_pos r, if_pos (by omega)]
    · rw [if_neg r, if_neg (by omega)]
set_option maxRecDepth 65536 in
set_option maxHeartbeats 40000000 in
theorem own_al (l : Launch) (Z : State) (a0 : Array Value) (hw : ∀ d ∈ tables_1, d.before a0 Z = true) (h0 : Heap) (n0 : Nat) (a b a2 b2 : Addr) (f g : Nat → Int64) (c1 s1 c2 s2 : Int64) (ga : n0 ≤ a) (gb : n0 ≤ b) (q1 : a2 ∉ [a, b]) (q2 : b2 ∉ [a, b]) (p : Program) (e : Env) (s : State) (m : MethodId) (below : List Frame) (meth : Method) (c : Code) (s₁ : State) (Bd : BodyLoose p l own_addN (head1 [Jvm.Cond.code own_addN prog_36_method_3_code 3 none] ({ frames := 0, cells := 0, slots := 0, locals := 0 } : Room)) prog_36_method_3_code 3 none e s m #[(.ref a), (.ref a2)] below meth c s₁) (hml : c.maxLocals = 3) (hZ : Z.Warmed39 s.vm) :
    ∀ (n j : Nat) (i : Int32) (T : State) (locs : List Loc) (h : Heap), Stand p l e ({ frames := 0, cells := 0, slots := 0, locals := 0 } : Room) s m #[(.ref a), (.ref a2)] below meth c T locs 0 0 → Fr n0 locs → T.heap = h → Keep h0 h [a, b] → own_H Z h a b (fun t => if t < j then f t + g t else f t) c1 s1 → own_H Z h a2 b2 g c2 s2 → i.toInt = j → j + n = 14336 →
      own_Goes p e below (own_End s below ({ frames := 0, cells := 0, slots := 0, locals := 0 } : Room) (own_QA Z h0 n0 a b f g c1 s1 c2 s2)) (T.setTop (mkF m 2 #[.val (.ref a), .val (.ref a2), .val (.int i)] [])) := by
  have hx := Bd.exec
  have hby := Bd.bytes
  have hown : s.vm.findClass "com/example/holdfast/holdfast/cli/LatencyHistogram" = some m.cls := findClass_of_methodNamed Bd.named
  have c0 : (14336 : Int32).toInt = 14336 := by decide
  have c1' : (Int32.ofInt 1).toInt = 1 := by decide
  intro n
  induction n with
  | zero =>
    intro j i T locs h X N eT K H H2 hi hj
    obtain ⟨E0, F0, ⟨cl, A0, S0, V0⟩, F1, F2⟩ := id H
    obtain ⟨E0', F0', ⟨cl', A0', S0', V0'⟩, F1', F2'⟩ := id H2
    show own_Goes p e below (own_End s below _ _) (T.setTop (mkF m 2 #[.val (.ref a), .val (.ref a2), .val (.int i)] []))
    refine own_go (fun _ own_k => XS.iloadN X.here hx rfl (hb hby dA_2) rfl own_k) ?_
    show own_Goes p e below (own_End s below _ _) (T.setTop (mkF m 3 #[.val (.ref a), .val (.ref a2), .val (.int i)] [(.int i)]))
    refine own_go (fun _ own_k => XS.aloadN X.here hx rfl (hb hby dA_3) rfl rfl own_k) ?_
    show own_Goes p e below (own_End s below _ _) (T.setTop (mkF m 4 #[.val (.ref a), .val (.ref a2), .val (.int i)] [(.ref a), (.int i)]))
    obtain ⟨T1, X1, e1, st1⟩ := getF X hx hZ hown (host := "") (Or.inl (hw _ (List.mem_of_getElem? (i := 10) rfl))) Via.refl eT F0 (g := (mkF m 4 #[.val (.ref a), .val (.ref a2), .val (.int i)] [(.ref a), (.int i)])) rfl rfl (hb hby dA_4)
    refine own_go st1 ?_
    show own_Goes p e below (own_End s below _ _) (T1.setTop (mkF m 7 #[.val (.ref a), .val (.ref a2), .val (.int i)] [(.ref b), (.int i)]))
    refine own_go (own_len X1 hx hZ e1 A0 (z := (14336 : Int32)) (by rw [S0]; decide) (by decide) (g := (mkF m 7 #[.val (.ref a), .val (.ref a2), .val (.int i)] [(.ref b), (.int i)])) rfl rfl (hb hby dA_7)) ?_
    show own_Goes p e below (own_End s below _ _) (T1.setTop (mkF m 8 #[.val (.ref a), .val (.ref a2), .val (.int i)] [(.int (14336 : Int32)), (.int i)]))
    refine own_go (fun _ own_k => XS.icmpYes X1.here hx rfl (pc0 := 8) (pc' := 32) rfl (hb hby dA_8) rfl (flt (fun z => by have := own_lt32.mp z; omega)).2.1 (by decide) (by decide) own_k) ?_
    show own_Goes p e below (own_End s below _ _) (T1.setTop (mkF m 32 #[.val (.ref a), .val (.ref a2), .val (.int i)] []))
    have H0 : own_H Z h a b (fun t => f t + g t) c1 s1 := own_H_congr H (fun t ht => if_pos (by omega))
    refine own_go (fun _ own_k => XS.aloadN X1.here hx rfl (hb hby dA_32) rfl rfl own_k) ?_
    show own_Goes p e below (own_End s below _ _) (T1.setTop (mkF m 33 #[.val (.ref a), .val (.ref a2), .val (.int i)] [(.ref a)]))
    refine own_go (fun _ own_k => XS.dup X1.here hx rfl (hb hby dA_33) rfl rfl own_k) ?_
    show own_Goes p e below (own_End s below _ _) (T1.setTop (mkF m 34 #[.val (.ref a), .val (.ref a2), .val (.int i)] [(.ref a), (.ref a)]))
    obtain ⟨T2, X2, e2, st2⟩ := getF X1 hx hZ hown (host := "") (Or.inl (hw _ (List.mem_of_getElem? (i := 17) rfl))) Via.refl e1 H0.2.2.2.1 (g := (mkF m 34 #[.val (.ref a), .val (.ref a2), .val (.int i)] [(.ref a), (.ref a)])) rfl rfl (hb hby dA_34)
    refine own_go st2 ?_
    show own_Goes p e below (own_End s below _ _) (T2.setTop (mkF m 37 #[.val (.ref a), .val (.ref a2), .val (.int i)] [(.long c1), (.ref a)]))
    refine own_go (fun _ own_k => XS.aloadN X2.here hx rfl (hb hby dA_37) rfl rfl own_k) ?_
    show own_Goes p e below (own_End s below _ _) (T2.setTop (mkF m 38 #[.val (.ref a), .val (.ref a2), .val (.int i)] [(.ref a2), (.long c1), (.ref a)]))
    obtain ⟨T3, X3, e3, st3⟩ := getF X2 hx hZ hown (host := "") (Or.inl (hw _ (List.mem_of_getElem? (i := 17) rfl))) Via.refl e2 H2.2.2.2.1 (g := (mkF m 38 #[.val (.ref a), .val (.ref a2), .val (.int i)] [(.ref a2), (.long c1), (.ref a)])) rfl rfl (hb hby dA_38)
    refine own_go st3 ?_
    show own_Goes p e below (own_End s below _ _) (T3.setTop (mkF m 41 #[.val (.ref a), .val (.ref a2), .val (.int i)] [(.long c2), (.long c1), (.ref a)]))
    refine own_go (fun _ own_k => XS.ladd X3.here hx rfl (hb hby dA_41) rfl own_k) ?_
    show own_Goes p e below (own_End s below _ _) (T3.setTop (mkF m 42 #[.val (.ref a), .val (.ref a2), .val (.int i)] [(.long (c1 + c2)), (.ref a)]))
    obtain ⟨T4, h4, X4, e4, W4, st4⟩ := putF X3 hx hZ hown (host := "") (Or.inl (hw _ (List.mem_of_getElem? (i := 17) rfl))) Via.refl e3 H0.2.2.2.1 H0.1 (Or.inl (hw _ (List.mem_of_getElem? (i := 18) rfl))) (hw _ (List.mem_of_getElem? (i := 1) rfl)) (ty := .long) (by decide) rfl rfl (g := (mkF m 42 #[.val (.ref a), .val (.ref a2), .val (.int i)] [(.long (c1 + c2)), (.ref a)])) rfl rfl (hb hby dA_42)
    have H5 := own_H_cnt hw H0 W4
    have H2' := own_H_keep H2 (Keep.of_wr W4) (ninS (fun z => q1 (by rw [z]; exact List.mem_of_getElem? (i := 0) rfl)) nin0) (ninS (fun z => q2 (by rw [z]; exact List.mem_of_getElem? (i := 0) rfl)) nin0)
    have N5 := Fr.snoc X4 N ga
    have K5 := K.wr W4 (Or.inl (List.mem_of_getElem? (i := 0) rfl))
    refine own_go st4 ?_
    show own_Goes p e below (own_End s below _ _) (T4.setTop (mkF m 45 #[.val (.ref a), .val (.ref a2), .val (.int i)] []))
    refine own_go (fun _ own_k => XS.aloadN X4.here hx rfl (hb hby dA_45) rfl rfl own_k) ?_
    show own_Goes p e below (own_End s below _ _) (T4.setTop (mkF m 46 #[.val (.ref a), .val (.ref a2), .val (.int i)] [(.ref a)]))
    refine own_go (fun _ own_k => XS.dup X4.here hx rfl (hb hby dA_46) rfl rfl own_k) ?_
    show own_Goes p e below (own_End s below _ _) (T4.setTop (mkF m 47 #[.val (.ref a), .val (.ref a2), .val (.int i)] [(.ref a), (.ref a)]))
    obtain ⟨T5, X5, e5, st5⟩ := getF X4 hx hZ hown (host := "") (Or.inl (hw _ (List.mem_of_getElem? (i := 53) rfl))) Via.refl e4 H5.2.2.2.2 (g := (mkF m 47 #[.val (.ref a), .val (.ref a2), .val (.int i)] [(.ref a), (.ref a)])) rfl rfl (hb hby dA_47)
    refine own_go st5 ?_
    show own_Goes p e below (own_End s below _ _) (T5.setTop (mkF m 50 #[.val (.ref a), .val (.ref a2), .val (.int i)] [(.long s1), (.ref a)]))
    refine own_go (fun _ own_k => XS.aloadN X5.here hx rfl (hb hby dA_50) rfl rfl own_k) ?_
    show own_Goes p e below (own_End s below _ _) (T5.setTop (mkF m 51 #[.val (.ref a), .val (.ref a2), .val (.int i)] [(.ref a2), (.long s1), (.ref a)]))
    obtain ⟨T6, X6, e6, st6⟩ := getF X5 hx hZ hown (host := "") (Or.inl (hw _ (List.mem_of_getElem? (i := 53) rfl))) Via.refl e5 H2'.2.2.2.2 (g := (mkF m 51 #[.val (.ref a), .val (.ref a2), .val (.int i)] [(.ref a2), (.long s1), (.ref a)])) rfl rfl (hb hby dA_51)
    refine own_go st6 ?_
    show own_Goes p e below (own_End s below _ _) (T6.setTop (mkF m 54 #[.val (.ref a), .val (.ref a2), .val (.int i)] [(.long s2), (.long s1), (.ref a)]))
    refine own_go (fun _ own_k => XS.ladd X6.here hx rfl (hb hby dA_54) rfl own_k) ?_
    show own_Goes p e below (own_End s below _ _) (T6.setTop (mkF m 55 #[.val (.ref a), .val (.ref a2), .val (.int i)] [(.long (s1 + s2)), (.ref a)]))
    obtain ⟨T7, h7, X7, e7, W7, st7⟩ := putF X6 hx hZ hown (host := "") (Or.inl (hw _ (List.mem_of_getElem? (i := 53) rfl))) Via.refl e6 H5.2.2.2.2 H5.1 (Or.inl (hw _ (List.mem_of_getElem? (i := 54) rfl))) (hw _ (List.mem_of_getElem? (i := 1) rfl)) (ty := .long) (by decide) rfl rfl (g := (mkF m 55 #[.val (.ref a), .val (.ref a2), .val (.int i)] [(.long (s1 + s2)), (.ref a)])) rfl rfl (hb hby dA_55)
    have H8 := own_H_sum hw H5 W7
    have H2'' := own_H_keep H2' (Keep.of_wr W7) (ninS (fun z => q1 (by rw [z]; exact List.mem_of_getElem? (i := 0) rfl)) nin0) (ninS (fun z => q2 (by rw [z]; exact List.mem_of_getElem? (i := 0) rfl)) nin0)
    have N8 := Fr.snoc X7 N5 ga
    have K8 := K5.wr W7 (Or.inl (List.mem_of_getElem? (i := 0) rfl))
    refine own_go st7 ?_
    show own_Goes p e below (own_End s below _ _) (T7.setTop (mkF m 58 #[.val (.ref a), .val (.ref a2), .val (.int i)] []))
    exact own_retV X7 hx Bd.notSynchronized Bd.returns (hb hby dA_58) (by rw [e7]; exact ⟨rfl, N8, K8, H8⟩) (by decide) (by decide)
  | succ n ih =>
    intro j i T locs h X N eT K H H2 hi hj
    obtain ⟨E0, F0, ⟨cl, A0, S0, V0⟩, F1, F2⟩ := id H
    obtain ⟨E0', F0', ⟨cl', A0', S0', V0'⟩, F1', F2'⟩ := id H2
    show own_Goes p e below (own_End s below _ _) (T.setTop (mkF m 2 #[.val (.ref a), .val (.ref a2), .val (.int i)] []))
    refine own_go (fun _ own_k => XS.iloadN X.here hx rfl (hb hby dA_2) rfl own_k) ?_
    show own_Goes p e below (own_End s below _ _) (T.setTop (mkF m 3 #[.val (.ref a), .val (.ref a2), .val (.int i)] [(.int i)]))
    refine own_go (fun _ own_k => XS.aloadN X.here hx rfl (hb hby dA_3) rfl rfl own_k) ?_
    show own_Goes p e below (own_End s below _ _) (T.setTop (mkF m 4 #[.val (.ref a), .val (.ref a2), .val (.int i)] [(.ref a), (.int i)]))
    obtain ⟨T1, X1, e1, st1⟩ := getF X hx hZ hown (host := "") (Or.inl (hw _ (List.mem_of_getElem? (i := 10) rfl))) Via.refl eT F0 (g := (mkF m 4 #[.val (.ref a), .val (.ref a2), .val (.int i)] [(.ref a), (.int i)])) rfl rfl (hb hby dA_4)
    refine own_go st1 ?_
    show own_Goes p e below (own_End s below _ _) (T1.setTop (mkF m 7 #[.val (.ref a), .val (.ref a2), .val (.int i)] [(.ref b), (.int i)]))
    refine own_go (own_len X1 hx hZ e1 A0 (z := (14336 : Int32)) (by rw [S0]; decide) (by decide) (g := (mkF m 7 #[.val (.ref a), .val (.ref a2), .val (.int i)] [(.ref b), (.int i)])) rfl rfl (hb hby dA_7)) ?_
    show own_Goes p e below (own_End s below _ _) (T1.setTop (mkF m 8 #[.val (.ref a), .val (.ref a2), .val (.int i)] [(.int (14336 : Int32)), (.int i)]))
    have hji : i.toNatClampNeg = j := by rw [own_clamp]; omega
    have hin : ¬ (i < 0 ∨ cl.slots.size ≤ i.toNatClampNeg) := by rw [S0]; exact own_inb ⟨by omega, by omega⟩
    have hin' : ¬ (i < 0 ∨ cl'.slots.size ≤ i.toNatClampNeg) := by rw [S0']; exact own_inb ⟨by omega, by omega⟩
    have hv : cl.slots[i.toNatClampNeg]? = some (.long (f j)) := by
      rw [hji, V0 j (by omega)]
      show some (Value.long (if j < j then f j + g j else f j)) = _
      rw [if_neg (Nat.lt_irrefl j)]
    have hv' : cl'.slots[i.toNatClampNeg]? = some (.long (g j)) := by rw [hji]; exact V0' j (by omega)
    refine own_go (fun _ own_k => XS.icmpNo X1.here hx rfl (hb hby dA_8) rfl (tlt (own_lt32.mpr (by omega))).2.1 own_k) ?_
    show own_Goes p e below (own_End s below _ _) (T1.setTop (mkF m 11 #[.val (.ref a), .val (.ref a2), .val (.int i)] []))
    refine own_go (fun _ own_k => XS.aloadN X1.here hx rfl (hb hby dA_11) rfl rfl own_k) ?_
    show own_Goes p e below (own_End s below _ _) (T1.setTop (mkF m 12 #[.val (.ref a), .val (.ref a2), .val (.int i)] [(.ref a)]))
    obtain ⟨T2, X2, e2, st2⟩ := getF X1 hx hZ hown (host := "") (Or.inl (hw _ (List.mem_of_getElem? (i := 10) rfl))) Via.refl e1 F0 (g := (mkF m 12 #[.val (.ref a), .val (.ref a2), .val (.int i)] [(.ref a)])) rfl rfl (hb hby dA_12)
    refine own_go st2 ?_
    show own_Goes p e below (own_End s below _ _) (T2.setTop (mkF m 15 #[.val (.ref a), .val (.ref a2), .val (.int i)] [(.ref b)]))
    refine own_go (fun _ own_k => XS.iloadN X2.here hx rfl (hb hby dA_15) rfl own_k) ?_
    show own_Goes p e below (own_End s below _ _) (T2.setTop (mkF m 16 #[.val (.ref a), .val (.ref a2), .val (.int i)] [(.int i), (.ref b)]))
    refine own_go (fun _ own_k => XT.dup2 X2.here hx rfl (hb hby dA_16) rfl rfl rfl own_k) ?_
    show own_Goes p e below (own_End s below _ _) (T2.setTop (mkF m 17 #[.val (.ref a), .val (.ref a2), .val (.int i)] [(.int i), (.ref b), (.int i), (.ref b)]))
    refine own_go (own_lal X2 hx hZ e2 A0 hin hv (g := (mkF m 17 #[.val (.ref a), .val (.ref a2), .val (.int i)] [(.int i), (.ref b), (.int i), (.ref b)])) rfl rfl (hb hby dA_17)) ?_
    show own_Goes p e below (own_End s below _ _) (T2.setTop (mkF m 18 #[.val (.ref a), .val (.ref a2), .val (.int i)] [(.long (f j)), (.int i), (.ref b)]))
    refine own_go (fun _ own_k => XS.aloadN X2.here hx rfl (hb hby dA_18) rfl rfl own_k) ?_
    show own_Goes p e below (own_End s below _ _) (T2.setTop (mkF m 19 #[.val (.ref a), .val (.ref a2), .val (.int i)] [(.ref a2), (.long (f j)), (.int i), (.ref b)]))
    obtain ⟨T3, X3, e3, st3⟩ := getF X2 hx hZ hown (host := "") (Or.inl (hw _ (List.mem_of_getElem? (i := 10) rfl))) Via.refl e2 F0' (g := (mkF m 19 #[.val (.ref a), .val (.ref a2), .val (.int i)] [(.ref a2), (.long (f j)), (.int i), (.ref b)])) rfl rfl (hb hby dA_19)
    refine own_go st3 ?_
    show own_Goes p e below (own_End s below _ _) (T3.setTop (mkF m 22 #[.val (.ref a), .val (.ref a2), .val (.int i)] [(.ref b2), (.long (f j)), (.int i), (.ref b)]))
    refine own_go (fun _ own_k => XS.iloadN X3.here hx rfl (hb hby dA_22) rfl own_k) ?_
    show own_Goes p e below (own_End s below _ _) (T3.setTop (mkF m 23 #[.val (.ref a), .val (.ref a2), .val (.int i)] [(.int i), (.ref b2), (.long (f j)), (.int i), (.ref b)]))
    refine own_go (own_lal X3 hx hZ e3 A0' hin' hv' (g := (mkF m 23 #[.val (.ref a), .val (.ref a2), .val (.int i)] [(.int i), (.ref b2), (.long (f j)), (.int i), (.ref b)])) rfl rfl (hb hby dA_23)) ?_
    show own_Goes p e below (own_End s below _ _) (T3.setTop (mkF m 24 #[.val (.ref a), .val (.ref a2), .val (.int i)] [(.long (g j)), (.long (f j)), (.int i), (.ref b)]))
    refine own_go (fun _ own_k => XS.ladd X3.here hx rfl (hb hby dA_24) rfl own_k) ?_
    show own_Goes p e below (own_End s below _ _) (T3.setTop (mkF m 25 #[.val (.ref a), .val (.ref a2), .val (.int i)] [(.long ((f j) + (g j))), (.int i), (.ref b)]))
    obtain ⟨T4, h4, X4, e4, W4, st4⟩ := stJ X3 hx hZ e3 A0 hin (g := (mkF m 25 #[.val (.ref a), .val (.ref a2), .val (.int i)] [(.long ((f j) + (g j))), (.int i), (.ref b)])) rfl rfl (hb hby dA_25)
    rw [hji] at W4
    have N4 := Fr.snoc (by rw [hji] at X4; exact X4) N gb
    have H4 : own_H Z h4 a b (fun t => if t < j + 1 then f t + g t else f t) c1 s1 := own_H_congr (own_H_arr hw H (by omega) W4) (fun t ht => own_step f g t j)
    have H4' := own_H_keep H2 (Keep.of_wr W4) (ninS (fun z => q1 (by rw [z]; exact List.mem_of_getElem? (i := 1) rfl)) nin0) (ninS (fun z => q2 (by rw [z]; exact List.mem_of_getElem? (i := 1) rfl)) nin0)
    refine own_go st4 ?_
    show own_Goes p e below (own_End s below _ _) (T4.setTop (mkF m 26 #[.val (.ref a), .val (.ref a2), .val (.int i)] []))
    refine own_go (fun _ own_k => XS.iinc X4.here hx rfl (hb hby dA_26) rfl (l' := #[.val (.ref a), .val (.ref a2), .val (.int (i + Int32.ofInt (1)))]) rfl own_k) ?_
    show own_Goes p e below (own_End s below _ _) (T4.setTop (mkF m 29 #[.val (.ref a), .val (.ref a2), .val (.int (i + Int32.ofInt (1)))] []))
    refine own_go (fun _ own_k => XS.goto X4.here hx rfl (pc0 := 29) (pc' := 2) rfl (hb hby dA_29) (by decide) (by decide) own_k) ?_
    show own_Goes p e below (own_End s below _ _) (T4.setTop (mkF m 2 #[.val (.ref a), .val (.ref a2), .val (.int (i + Int32.ofInt (1)))] []))
    rw [hji] at X4
    exact ih (j + 1) _ T4 _ h4 X4 N4 e4 (K.wr W4 (Or.inl (List.mem_of_getElem? (i := 1) rfl))) H4 H4' (by rw [own_add32 (by omega) (by omega)]; omega) (by omega)
set_option maxRecDepth 65536 in
set_option maxHeartbeats 40000000 in
theorem own_add (l : Launch) (Z : State) (a0 : Array Value) (hw : ∀ d ∈ tables_1, d.before a0 Z = true) (h0 : Heap) (n0 : Nat) (a b a2 b2 : Addr) (f g : Nat → Int64) (c1 s1 c2 s2 : Int64) (ga : n0 ≤ a) (gb : n0 ≤ b) (q1 : a2 ∉ [a, b]) (q2 : b2 ∉ [a, b]) (H : own_H Z h0 a b f c1 s1) (H2 : own_H Z h0 a2 b2 g c2 s2) :
    own_Met l Z own_addN prog_36_method_3_code 3 none ({ frames := 0, cells := 0, slots := 0, locals := 0 } : Room) [] #[(.ref a), (.ref a2)] h0 (own_QA Z h0 n0 a b f g c1 s1 c2 s2) := by
  refine own_met (plainFor_of_name pn_H) ?_
  intro p e s m below meth c s₁ Bd hml hZ e0
  have hx := Bd.exec
  have hby := Bd.bytes
  have hown : s.vm.findClass "com/example/holdfast/holdfast/cli/LatencyHistogram" = some m.cls := findClass_of_methodNamed Bd.named
  have hnm := (name_of_methodNamed Bd.named Bd.method).1
  have X0 : Stand p l e ({ frames := 0, cells := 0, slots := 0, locals := 0 } : Room) s m #[(.ref a), (.ref a2)] below meth c s₁ [] 0 0 := Stand.of_body Bd
  rw [ef_A]
  show own_Goes p e below (own_End s below _ _) (s₁.setTop (mkF m 0 #[.val (.ref a), .val (.ref a2), .unset] []))
  refine own_go (fun _ own_k => XS.iconst X0.here hx rfl (hb hby dA_0) own_k) ?_
  show own_Goes p e below (own_End s below _ _) (s₁.setTop (mkF m 1 #[.val (.ref a), .val (.ref a2), .unset] [(.int (0 : Int32))]))
  refine own_go (fun _ own_k => XS.istoreN X0.here hx rfl (hb hby dA_1) rfl (l' := #[.val (.ref a), .val (.ref a2), .val (.int (0 : Int32))]) rfl own_k) ?_
  show own_Goes p e below (own_End s below _ _) (s₁.setTop (mkF m 2 #[.val (.ref a), .val (.ref a2), .val (.int (0 : Int32))] []))
  exact own_al l Z a0 hw h0 n0 a b a2 b2 f g c1 s1 c2 s2 ga gb q1 q2 p e s m below meth c s₁ Bd hml hZ 14336 0 0 s₁ [] h0 X0 (Fr.nil n0) e0 (Keep.refl h0 _) (own_H_congr H (fun t ht => (if_neg (Nat.not_lt_zero t)).symm)) H2 (by decide) (by omega)
def own_Q (n0 : Nat) (v : Option Value) (h : Heap) (L : List Loc) : Prop := v = some (.int 1) ∧ Fr n0 L
theorem own_z_nn : NoNaN64 FP.dconst0 := by unfold NoNaN64; decide +kernel
theorem own_mean_nn (c s : Int64) : NoNaN64 (own_mean c s) := by
  unfold own_mean
  by_cases q : c = 0
  · rw [if_pos q]; exact own_z_nn
  · rw [if_neg q]; exact own_div_nn s q
theorem own_dl_of (k : Nat) (t : Nat) : (if t = k then own_zr k + 1 else own_zr t) = own_dl k t := by
  unfold own_dl own_zr
  by_cases q : t = k
  · rw [if_pos q, if_pos q]; rfl
  · rw [if_neg q, if_neg q]
theorem own_zadd (x : Int64) : (0 : Int64) + x = x := Int64.zero_add x
theorem own_lit_nn0 : NoNaN64 0 := by unfold NoNaN64; decide
theorem own_lit_nnh : NoNaN64 4602678819172646912 := by unfold NoNaN64; decide
theorem own_lit_nn1 : NoNaN64 4607182418800017408 := by unfold NoNaN64; decide
theorem own_lit_nn2 : NoNaN64 4611686018427387904 := by unfold NoNaN64; decide
theorem own_mean_eq (sa sb xa yb c n : Int64) (hc : c = n) (hn : c ≠ 0) (ea : sa = xa) (eb : sb = yb) : own_mean c (sa + sb) = FP.ddiv (FP.l2d (xa + yb)) (FP.l2d n) := by
  rw [own_mean, if_neg hn, ea, eb, hc]
set_option maxRecDepth 65536 in
set_option maxHeartbeats 40000000 in
theorem own_case00 (l : Launch) (Z : State) (a0 : Array Value) (hw : ∀ d ∈ tables_1, d.before a0 Z = true) (ws : List Jvm.Cond) (p1 p2 : Int64) (p3 : Int32) (h0 : Heap) (n0 : Nat) (Z0 : n0 ≤ h0.size) (SA : Sta Z Z.heap "java/lang/StrictMath" "$assertionsDisabled" "Z" (.int 1)) (O0 : Old Z n0 h0) (p : Program) (e : Env) (s : State) (m : MethodId) (below : List Frame) (meth : Method) (c : Code) (s₁ : State)
    (Bd : BodyLoose p l x (head1 (Jvm.Cond.code x code maxLocals ret :: ws) room_1) code maxLocals ret e s m #[(.long p1), (.long p2), (.int p3)] below meth c s₁) (hml : c.maxLocals = maxLocals) (hZ : Z.Warmed39 s.vm) (e0 : s₁.heap = h0) :
    own_Goes p e below (own_End s below room_1 (own_Q n0)) (s₁.setTop (mkF m 28 #[.val (.long p1), .second, .val (.long p2), .second, .val (.int p3), .val (.int (0 : Int32)), .val (.int (0 : Int32)), .unset, .unset, .unset, .unset, .unset, .unset, .unset, .unset, .unset, .unset, .unset, .unset, .unset, .unset, .unset, .unset, .unset, .unset, .unset, .unset] [])) := by
  have hx := Bd.exec
  have hby := Bd.bytes
  have hown : s.vm.findClass "com/example/holdfast/holdfast/cli/LatencyHistogramAddPinLaw" = some m.cls := findClass_of_methodNamed Bd.named
  have X0 : Stand p l e room_1 s m #[(.long p1), (.long p2), (.int p3)] below meth c s₁ [] 0 0 := Stand.of_body Bd
  show own_Goes p e below (own_End s below _ _) (s₁.setTop (mkF m 28 #[.val (.long p1), .second, .val (.long p2), .second, .val (.int p3), .val (.int (0 : Int32)), .val (.int (0 : Int32)), .unset, .unset, .unset, .unset, .unset, .unset, .unset, .unset, .unset, .unset, .unset, .unset, .unset, .unset, .unset, .unset, .unset, .unset, .unset, .unset] []))
  have Zp1 := Z0
  obtain ⟨T1, h1, X1, e1, E1, A1, D1, -, st1⟩ := newO X0 hx hZ hown (hw _ (List.mem_of_getElem? (i := 0) rfl)) (hw _ (List.mem_of_getElem? (i := 1) rfl)) (hw _ (List.mem_of_getElem? (i := 2) rfl)) e0 (g := (mkF m 28 #[.val (.long p1), .second, .val (.long p2), .second, .val (.int p3), .val (.int (0 : Int32)), .val (.int (0 : Int32)), .unset, .unset, .unset, .unset, .unset, .unset, .unset, .unset, .unset, .unset, .unset, .unset, .unset, .unset, .unset, .unset, .unset, .unset, .unset, .unset] [])) rfl (hb hby at_28) (by decide) (by decide)
  obtain ⟨a, ga⟩ : ∃ z, z = h0.size := ⟨_, rfl⟩
  rw [← ga] at A1 D1 st1
  have na : n0 ≤ a := by rw [ga]; exact Zp1
  have Zp2 : n0 ≤ h1.size := Nat.le_trans Zp1 E1.1
  refine own_go st1 ?_
  show own_Goes p e below (own_End s below _ _) (T1.setTop (mkF m 31 #[.val (.long p1), .second, .val (.long p2), .second, .val (.int p3), .val (.int (0 : Int32)), .val (.int (0 : Int32)), .unset, .unset, .unset, .unset, .unset, .unset, .unset, .unset, .unset, .unset, .unset, .unset, .unset, .unset, .unset, .unset, .unset, .unset, .unset, .unset] [(.ref a)]))
  refine own_go (fun _ own_k => XS.dup X1.here hx rfl (hb hby at_31) rfl rfl own_k) ?_
  show own_Goes p e below (own_End s below _ _) (T1.setTop (mkF m 32 #[.val (.long p1), .second, .val (.long p2), .second, .val (.int p3), .val (.int (0 : Int32)), .val (.int (0 : Int32)), .unset, .unset, .unset, .unset, .unset, .unset, .unset, .unset, .unset, .unset, .unset, .unset, .unset, .unset, .unset, .unset, .unset, .unset, .unset, .unset] [(.ref a), (.ref a)]))
  obtain ⟨v2, T2, L2, X2, ⟨u2, M2, K2, b, gb, Ha⟩, st2⟩ := own_callI X1 hx hZ (y := own_iniN) rfl hown (hw _ (List.mem_of_getElem? (i := 3) rfl)) (hw _ (List.mem_of_getElem? (i := 4) rfl)) (hw _ (List.mem_of_getElem? (i := 2) rfl)) (hw _ (List.mem_of_getElem? (i := 5) rfl)) (by decide) (own_ini l Z a0 hw h1 n0 a Zp2 na A1 (D1 (Or.inr (hw _ (List.mem_of_getElem? (i := 11) rfl))) (ty := .array .long) (by decide)) (D1 (Or.inl (hw _ (List.mem_of_getElem? (i := 18) rfl))) (ty := .long) (by decide)) (D1 (Or.inl (hw _ (List.mem_of_getElem? (i := 54) rfl))) (ty := .long) (by decide))) e1 (W := 1) (by decide) (by decide) (g := (mkF m 32 #[.val (.long p1), .second, .val (.long p2), .second, .val (.int p3), .val (.int (0 : Int32)), .val (.int (0 : Int32)), .unset, .unset, .unset, .unset, .unset, .unset, .unset, .unset, .unset, .unset, .unset, .unset, .unset, .unset, .unset, .unset, .unset, .unset, .unset, .unset] [(.ref a), (.ref a)])) rfl (by rw [hml]; rfl) (a := a) (argsL := []) (rest := [(.ref a)]) pd_V rfl rfl (by show 2 * 0 + _ ≤ _; exact Nat.le_of_eq rfl) (hb hby at_32) rfl (by decide) (by decide)
  subst u2
  have N2 := Fr.app (Fr.nil n0) M2
  have nb : n0 ≤ b := Nat.le_trans Zp2 gb
  have Y2 := (O0.ext E1).keep K2 (allS na all0)
  have Zp3 : n0 ≤ T2.heap.size := Nat.le_trans Zp2 K2.1
  refine own_go st2 ?_
  show own_Goes p e below (own_End s below _ _) (T2.setTop (mkF m 35 #[.val (.long p1), .second, .val (.long p2), .second, .val (.int p3), .val (.int (0 : Int32)), .val (.int (0 : Int32)), .unset, .unset, .unset, .unset, .unset, .unset, .unset, .unset, .unset, .unset, .unset, .unset, .unset, .unset, .unset, .unset, .unset, .unset, .unset, .unset] [(.ref a)]))
  refine own_go (fun _ own_k => XS.astore X2.here hx rfl (hb hby at_35) rfl rfl (l' := #[.val (.long p1), .second, .val (.long p2), .second, .val (.int p3), .val (.int (0 : Int32)), .val (.int (0 : Int32)), .val (.ref a), .unset, .unset, .unset, .unset, .unset, .unset, .unset, .unset, .unset, .unset, .unset, .unset, .unset, .unset, .unset, .unset, .unset, .unset, .unset]) rfl own_k) ?_
  show own_Goes p e below (own_End s below _ _) (T2.setTop (mkF m 37 #[.val (.long p1), .second, .val (.long p2), .second, .val (.int p3), .val (.int (0 : Int32)), .val (.int (0 : Int32)), .val (.ref a), .unset, .unset, .unset, .unset, .unset, .unset, .unset, .unset, .unset, .unset, .unset, .unset, .unset, .unset, .unset, .unset, .unset, .unset, .unset] []))
  have lt1 := own_H_lt Ha
  obtain ⟨T3, h3, X3, e3, E3, A3, D3, -, st3⟩ := newO X2 hx hZ hown (hw _ (List.mem_of_getElem? (i := 0) rfl)) (hw _ (List.mem_of_getElem? (i := 1) rfl)) (hw _ (List.mem_of_getElem? (i := 2) rfl)) rfl (g := (mkF m 37 #[.val (.long p1), .second, .val (.long p2), .second, .val (.int p3), .val (.int (0 : Int32)), .val (.int (0 : Int32)), .val (.ref a), .unset, .unset, .unset, .unset, .unset, .unset, .unset, .unset, .unset, .unset, .unset, .unset, .unset, .unset, .unset, .unset, .unset, .unset, .unset] [])) rfl (hb hby at_37) (by decide) (by decide)
  obtain ⟨a2, ga2⟩ : ∃ z, z = T2.heap.size := ⟨_, rfl⟩
  rw [← ga2] at A3 D3 st3
  have na2 : n0 ≤ a2 := by rw [ga2]; exact Zp3
  have Zp4 : n0 ≤ h3.size := Nat.le_trans Zp3 E3.1
  refine own_go st3 ?_
  show own_Goes p e below (own_End s below _ _) (T3.setTop (mkF m 40 #[.val (.long p1), .second, .val (.long p2), .second, .val (.int p3), .val (.int (0 : Int32)), .val (.int (0 : Int32)), .val (.ref a), .unset, .unset, .unset, .unset, .unset, .unset, .unset, .unset, .unset, .unset, .unset, .unset, .unset, .unset, .unset, .unset, .unset, .unset, .unset] [(.ref a2)]))
  refine own_go (fun _ own_k => XS.dup X3.here hx rfl (hb hby at_40) rfl rfl own_k) ?_
  show own_Goes p e below (own_End s below _ _) (T3.setTop (mkF m 41 #[.val (.long p1), .second, .val (.long p2), .second, .val (.int p3), .val (.int (0 : Int32)), .val (.int (0 : Int32)), .val (.ref a), .unset, .unset, .unset, .unset, .unset, .unset, .unset, .unset, .unset, .unset, .unset, .unset, .unset, .unset, .unset, .unset, .unset, .unset, .unset] [(.ref a2), (.ref a2)]))
  obtain ⟨v4, T4, L4, X4, ⟨u4, M4, K4, b2, gb2, Hb⟩, st4⟩ := own_callI X3 hx hZ (y := own_iniN) rfl hown (hw _ (List.mem_of_getElem? (i := 3) rfl)) (hw _ (List.mem_of_getElem? (i := 4) rfl)) (hw _ (List.mem_of_getElem? (i := 2) rfl)) (hw _ (List.mem_of_getElem? (i := 5) rfl)) (by decide) (own_ini l Z a0 hw h3 n0 a2 Zp4 na2 A3 (D3 (Or.inr (hw _ (List.mem_of_getElem? (i := 11) rfl))) (ty := .array .long) (by decide)) (D3 (Or.inl (hw _ (List.mem_of_getElem? (i := 18) rfl))) (ty := .long) (by decide)) (D3 (Or.inl (hw _ (List.mem_of_getElem? (i := 54) rfl))) (ty := .long) (by decide))) e3 (W := 1) (by decide) (by decide) (g := (mkF m 41 #[.val (.long p1), .second, .val (.long p2), .second, .val (.int p3), .val (.int (0 : Int32)), .val (.int (0 : Int32)), .val (.ref a), .unset, .unset, .unset, .unset, .unset, .unset, .unset, .unset, .unset, .unset, .unset, .unset, .unset, .unset, .unset, .unset, .unset, .unset, .unset] [(.ref a2), (.ref a2)])) rfl (by rw [hml]; rfl) (a := a2) (argsL := []) (rest := [(.ref a2)]) pd_V rfl rfl (by show 2 * 0 + _ ≤ _; exact Nat.le_of_eq rfl) (hb hby at_41) rfl (by decide) (by decide)
  subst u4
  have N4 := Fr.app N2 M4
  have nb2 : n0 ≤ b2 := Nat.le_trans Zp4 gb2
  have Y4 := (Y2.ext E3).keep K4 (allS na2 all0)
  have Zp5 : n0 ≤ T4.heap.size := Nat.le_trans Zp4 K4.1
  refine own_go st4 ?_
  show own_Goes p e below (own_End s below _ _) (T4.setTop (mkF m 44 #[.val (.long p1), .second, .val (.long p2), .second, .val (.int p3), .val (.int (0 : Int32)), .val (.int (0 : Int32)), .val (.ref a), .unset, .unset, .unset, .unset, .unset, .unset, .unset, .unset, .unset, .unset, .unset, .unset, .unset, .unset, .unset, .unset, .unset, .unset, .unset] [(.ref a2)]))
  have nea : a ∉ [a2] ∧ b ∉ [a2] := ⟨ninS (by rw [ga2]; exact Nat.ne_of_lt lt1.1) nin0, ninS (by rw [ga2]; exact Nat.ne_of_lt lt1.2) nin0⟩
  have Ha3 : own_H Z h3 a b (fun _ => 0) 0 0 := own_H_keep Ha ((Keep.refl _ ([] : List Addr)).ext E3) nin0 nin0
  have Ha4 : own_H Z T4.heap a b (fun _ => 0) 0 0 := own_H_keep Ha3 K4 nea.1 nea.2
  have lt3 := own_H_lt Ha3
  have q1 : a2 ∉ [a, b] := ninS (by rw [ga2]; exact (Nat.ne_of_lt lt1.1).symm) (ninS (by rw [ga2]; exact (Nat.ne_of_lt lt1.2).symm) nin0)
  have q2 : b2 ∉ [a, b] := ninS (Nat.ne_of_gt (Nat.lt_of_lt_of_le lt3.1 gb2)) (ninS (Nat.ne_of_gt (Nat.lt_of_lt_of_le lt3.2 gb2)) nin0)
  have q3 : a ∉ [a2, b2] := ninS (by rw [ga2]; exact Nat.ne_of_lt lt1.1) (ninS (Nat.ne_of_lt (Nat.lt_of_lt_of_le lt3.1 gb2)) nin0)
  have q4 : b ∉ [a2, b2] := ninS (by rw [ga2]; exact Nat.ne_of_lt lt1.2) (ninS (Nat.ne_of_lt (Nat.lt_of_lt_of_le lt3.2 gb2)) nin0)
  refine own_go (fun _ own_k => XS.astore X4.here hx rfl (hb hby at_44) rfl rfl (l' := #[.val (.long p1), .second, .val (.long p2), .second, .val (.int p3), .val (.int (0 : Int32)), .val (.int (0 : Int32)), .val (.ref a), .val (.ref a2), .unset, .unset, .unset, .unset, .unset, .unset, .unset, .unset, .unset, .unset, .unset, .unset, .unset, .unset, .unset, .unset, .unset, .unset]) rfl own_k) ?_
  show own_Goes p e below (own_End s below _ _) (T4.setTop (mkF m 46 #[.val (.long p1), .second, .val (.long p2), .second, .val (.int p3), .val (.int (0 : Int32)), .val (.int (0 : Int32)), .val (.ref a), .val (.ref a2), .unset, .unset, .unset, .unset, .unset, .unset, .unset, .unset, .unset, .unset, .unset, .unset, .unset, .unset, .unset, .unset, .unset, .unset] []))
  refine own_go (fun _ own_k => XS.iload X4.here hx rfl (hb hby at_46) rfl own_k) ?_
  show own_Goes p e below (own_End s below _ _) (T4.setTop (mkF m 48 #[.val (.long p1), .second, .val (.long p2), .second, .val (.int p3), .val (.int (0 : Int32)), .val (.int (0 : Int32)), .val (.ref a), .val (.ref a2), .unset, .unset, .unset, .unset, .unset, .unset, .unset, .unset, .unset, .unset, .unset, .unset, .unset, .unset, .unset, .unset, .unset, .unset] [(.int (0 : Int32))]))
  refine own_go (fun _ own_k => XS.ifYes X4.here hx rfl (pc0 := 48) (pc' := 57) rfl (hb hby at_48) rfl (by decide) (by decide) (by decide) own_k) ?_
  show own_Goes p e below (own_End s below _ _) (T4.setTop (mkF m 57 #[.val (.long p1), .second, .val (.long p2), .second, .val (.int p3), .val (.int (0 : Int32)), .val (.int (0 : Int32)), .val (.ref a), .val (.ref a2), .unset, .unset, .unset, .unset, .unset, .unset, .unset, .unset, .unset, .unset, .unset, .unset, .unset, .unset, .unset, .unset, .unset, .unset] []))
  refine own_go (fun _ own_k => XS.iload X4.here hx rfl (hb hby at_57) rfl own_k) ?_
  show own_Goes p e below (own_End s below _ _) (T4.setTop (mkF m 59 #[.val (.long p1), .second, .val (.long p2), .second, .val (.int p3), .val (.int (0 : Int32)), .val (.int (0 : Int32)), .val (.ref a), .val (.ref a2), .unset, .unset, .unset, .unset, .unset, .unset, .unset, .unset, .unset, .unset, .unset, .unset, .unset, .unset, .unset, .unset, .unset, .unset] [(.int (0 : Int32))]))
  refine own_go (fun _ own_k => XS.ifYes X4.here hx rfl (pc0 := 59) (pc' := 68) rfl (hb hby at_59) rfl (by decide) (by decide) (by decide) own_k) ?_
  show own_Goes p e below (own_End s below _ _) (T4.setTop (mkF m 68 #[.val (.long p1), .second, .val (.long p2), .second, .val (.int p3), .val (.int (0 : Int32)), .val (.int (0 : Int32)), .val (.ref a), .val (.ref a2), .unset, .unset, .unset, .unset, .unset, .unset, .unset, .unset, .unset, .unset, .unset, .unset, .unset, .unset, .unset, .unset, .unset, .unset] []))
  have Ua : own_H Z T4.heap a b own_zr (0 : Int64) (0 : Int64) := Ha4
  have Ub : own_H Z T4.heap a2 b2 own_zr (0 : Int64) (0 : Int64) := Hb
  refine own_go (fun _ own_k => XS.aload X4.here hx rfl (hb hby at_68) rfl rfl own_k) ?_
  show own_Goes p e below (own_End s below _ _) (T4.setTop (mkF m 70 #[.val (.long p1), .second, .val (.long p2), .second, .val (.int p3), .val (.int (0 : Int32)), .val (.int (0 : Int32)), .val (.ref a), .val (.ref a2), .unset, .unset, .unset, .unset, .unset, .unset, .unset, .unset, .unset, .unset, .unset, .unset, .unset, .unset, .unset, .unset, .unset, .unset] [(.ref a)]))
  refine own_go (fun _ own_k => XS.dconst1 X4.here hx rfl (hb hby at_70) rfl own_k) ?_
  show own_Goes p e below (own_End s below _ _) (T4.setTop (mkF m 71 #[.val (.long p1), .second, .val (.long p2), .second, .val (.int p3), .val (.int (0 : Int32)), .val (.int (0 : Int32)), .val (.ref a), .val (.ref a2), .unset, .unset, .unset, .unset, .unset, .unset, .unset, .unset, .unset, .unset, .unset, .unset, .unset, .unset, .unset, .unset, .unset, .unset] [(.double FP.dconst1), (.ref a)]))
  obtain ⟨v7, T7, L7, X7, ⟨u7, e7, d7⟩, st7⟩ := own_callV X4 hx hZ (y := own_pctN) (z := own_pctN) hown (hw _ (List.mem_of_getElem? (i := 12) rfl)) (hw _ (List.mem_of_getElem? (i := 13) rfl)) (hw _ (List.mem_of_getElem? (i := 15) rfl)) (hw _ (List.mem_of_getElem? (i := 14) rfl)) (hw _ (List.mem_of_getElem? (i := 2) rfl)) (hw _ (List.mem_of_getElem? (i := 16) rfl)) (notFace_of_selects (args := #[]) (mvT hZ (hw _ (List.mem_of_getElem? (i := 15) rfl)))) (by decide) (own_pct l Z a0 hw _ a b _ _ _ FP.dconst1 0 0 0 0 Ua own_At_zr (by decide +kernel) own_lit_nn0 (SA.ext Y4.2) own_CE0 (by decide +kernel)) rfl Ua.1 (W := 0) (by decide) (by decide) (g := (mkF m 71 #[.val (.long p1), .second, .val (.long p2), .second, .val (.int p3), .val (.int (0 : Int32)), .val (.int (0 : Int32)), .val (.ref a), .val (.ref a2), .unset, .unset, .unset, .unset, .unset, .unset, .unset, .unset, .unset, .unset, .unset, .unset, .unset, .unset, .unset, .unset, .unset, .unset] [(.double FP.dconst1), (.ref a)])) rfl (by rw [hml]; rfl) (argsL := [(.double FP.dconst1)]) (rest := []) pd_DJ rfl rfl (by show 2 * 0 + _ ≤ _; exact Nat.le_of_eq rfl) (hb hby at_71) rfl (by decide) (by decide)
  subst u7 d7
  rw [List.append_nil] at X7
  refine own_go st7 ?_
  show own_Goes p e below (own_End s below _ _) (T7.setTop (mkF m 74 #[.val (.long p1), .second, .val (.long p2), .second, .val (.int p3), .val (.int (0 : Int32)), .val (.int (0 : Int32)), .val (.ref a), .val (.ref a2), .unset, .unset, .unset, .unset, .unset, .unset, .unset, .unset, .unset, .unset, .unset, .unset, .unset, .unset, .unset, .unset, .unset, .unset] [(.long (own_h 0))]))
  rw [← e7] at Ua Ub Y4
  refine own_go (fun _ own_k => XS.lstore X7.here hx rfl (hb hby at_74) rfl (l' := #[.val (.long p1), .second, .val (.long p2), .second, .val (.int p3), .val (.int (0 : Int32)), .val (.int (0 : Int32)), .val (.ref a), .val (.ref a2), .val (.long (own_h 0)), .second, .unset, .unset, .unset, .unset, .unset, .unset, .unset, .unset, .unset, .unset, .unset, .unset, .unset, .unset, .unset, .unset]) rfl own_k) ?_
  show own_Goes p e below (own_End s below _ _) (T7.setTop (mkF m 76 #[.val (.long p1), .second, .val (.long p2), .second, .val (.int p3), .val (.int (0 : Int32)), .val (.int (0 : Int32)), .val (.ref a), .val (.ref a2), .val (.long (own_h 0)), .second, .unset, .unset, .unset, .unset, .unset, .unset, .unset, .unset, .unset, .unset, .unset, .unset, .unset, .unset, .unset, .unset] []))
  refine own_go (fun _ own_k => XS.aload X7.here hx rfl (hb hby at_76) rfl rfl own_k) ?_
  show own_Goes p e below (own_End s below _ _) (T7.setTop (mkF m 78 #[.val (.long p1), .second, .val (.long p2), .second, .val (.int p3), .val (.int (0 : Int32)), .val (.int (0 : Int32)), .val (.ref a), .val (.ref a2), .val (.long (own_h 0)), .second, .unset, .unset, .unset, .unset, .unset, .unset, .unset, .unset, .unset, .unset, .unset, .unset, .unset, .unset, .unset, .unset] [(.ref a2)]))
  refine own_go (fun _ own_k => XS.dconst1 X7.here hx rfl (hb hby at_78) rfl own_k) ?_
  show own_Goes p e below (own_End s below _ _) (T7.setTop (mkF m 79 #[.val (.long p1), .second, .val (.long p2), .second, .val (.int p3), .val (.int (0 : Int32)), .val (.int (0 : Int32)), .val (.ref a), .val (.ref a2), .val (.long (own_h 0)), .second, .unset, .unset, .unset, .unset, .unset, .unset, .unset, .unset, .unset, .unset, .unset, .unset, .unset, .unset, .unset, .unset] [(.double FP.dconst1), (.ref a2)]))
  obtain ⟨v8, T8, L8, X8, ⟨u8, e8, d8⟩, st8⟩ := own_callV X7 hx hZ (y := own_pctN) (z := own_pctN) hown (hw _ (List.mem_of_getElem? (i := 12) rfl)) (hw _ (List.mem_of_getElem? (i := 13) rfl)) (hw _ (List.mem_of_getElem? (i := 15) rfl)) (hw _ (List.mem_of_getElem? (i := 14) rfl)) (hw _ (List.mem_of_getElem? (i := 2) rfl)) (hw _ (List.mem_of_getElem? (i := 16) rfl)) (notFace_of_selects (args := #[]) (mvT hZ (hw _ (List.mem_of_getElem? (i := 15) rfl)))) (by decide) (own_pct l Z a0 hw _ a2 b2 _ _ _ FP.dconst1 0 0 0 0 Ub own_At_zr (by decide +kernel) own_lit_nn0 (SA.ext Y4.2) own_CE0 (by decide +kernel)) rfl Ub.1 (W := 0) (by decide) (by decide) (g := (mkF m 79 #[.val (.long p1), .second, .val (.long p2), .second, .val (.int p3), .val (.int (0 : Int32)), .val (.int (0 : Int32)), .val (.ref a), .val (.ref a2), .val (.long (own_h 0)), .second, .unset, .unset, .unset, .unset, .unset, .unset, .unset, .unset, .unset, .unset, .unset, .unset, .unset, .unset, .unset, .unset] [(.double FP.dconst1), (.ref a2)])) rfl (by rw [hml]; rfl) (argsL := [(.double FP.dconst1)]) (rest := []) pd_DJ rfl rfl (by show 2 * 0 + _ ≤ _; exact Nat.le_of_eq rfl) (hb hby at_79) rfl (by decide) (by decide)
  subst u8 d8
  rw [List.append_nil] at X8
  refine own_go st8 ?_
  show own_Goes p e below (own_End s below _ _) (T8.setTop (mkF m 82 #[.val (.long p1), .second, .val (.long p2), .second, .val (.int p3), .val (.int (0 : Int32)), .val (.int (0 : Int32)), .val (.ref a), .val (.ref a2), .val (.long (own_h 0)), .second, .unset, .unset, .unset, .unset, .unset, .unset, .unset, .unset, .unset, .unset, .unset, .unset, .unset, .unset, .unset, .unset] [(.long (own_h 0))]))
  rw [← e8] at Ua Ub Y4
  refine own_go (fun _ own_k => XS.lstore X8.here hx rfl (hb hby at_82) rfl (l' := #[.val (.long p1), .second, .val (.long p2), .second, .val (.int p3), .val (.int (0 : Int32)), .val (.int (0 : Int32)), .val (.ref a), .val (.ref a2), .val (.long (own_h 0)), .second, .val (.long (own_h 0)), .second, .unset, .unset, .unset, .unset, .unset, .unset, .unset, .unset, .unset, .unset, .unset, .unset, .unset, .unset]) rfl own_k) ?_
  show own_Goes p e below (own_End s below _ _) (T8.setTop (mkF m 84 #[.val (.long p1), .second, .val (.long p2), .second, .val (.int p3), .val (.int (0 : Int32)), .val (.int (0 : Int32)), .val (.ref a), .val (.ref a2), .val (.long (own_h 0)), .second, .val (.long (own_h 0)), .second, .unset, .unset, .unset, .unset, .unset, .unset, .unset, .unset, .unset, .unset, .unset, .unset, .unset, .unset] []))
  refine own_go (fun _ own_k => XS.aload X8.here hx rfl (hb hby at_84) rfl rfl own_k) ?_
  show own_Goes p e below (own_End s below _ _) (T8.setTop (mkF m 86 #[.val (.long p1), .second, .val (.long p2), .second, .val (.int p3), .val (.int (0 : Int32)), .val (.int (0 : Int32)), .val (.ref a), .val (.ref a2), .val (.long (own_h 0)), .second, .val (.long (own_h 0)), .second, .unset, .unset, .unset, .unset, .unset, .unset, .unset, .unset, .unset, .unset, .unset, .unset, .unset, .unset] [(.ref a2)]))
  obtain ⟨v9, T9, L9, X9, ⟨u9, e9, d9⟩, st9⟩ := own_callV X8 hx hZ (y := own_meaN) (z := own_meaN) hown (hw _ (List.mem_of_getElem? (i := 43) rfl)) (hw _ (List.mem_of_getElem? (i := 44) rfl)) (hw _ (List.mem_of_getElem? (i := 46) rfl)) (hw _ (List.mem_of_getElem? (i := 45) rfl)) (hw _ (List.mem_of_getElem? (i := 2) rfl)) (hw _ (List.mem_of_getElem? (i := 47) rfl)) (notFace_of_selects (args := #[]) (mvT hZ (hw _ (List.mem_of_getElem? (i := 46) rfl)))) (by decide) (own_mea l Z a0 hw _ a2 b2 _ _ _ Ub) rfl Ub.1 (W := 0) (by decide) (by decide) (g := (mkF m 86 #[.val (.long p1), .second, .val (.long p2), .second, .val (.int p3), .val (.int (0 : Int32)), .val (.int (0 : Int32)), .val (.ref a), .val (.ref a2), .val (.long (own_h 0)), .second, .val (.long (own_h 0)), .second, .unset, .unset, .unset, .unset, .unset, .unset, .unset, .unset, .unset, .unset, .unset, .unset, .unset, .unset] [(.ref a2)])) rfl (by rw [hml]; rfl) (argsL := []) (rest := []) pd_D rfl rfl (by show 2 * 0 + _ ≤ _; exact Nat.le_of_eq rfl) (hb hby at_86) rfl (by decide) (by decide)
  subst u9 d9
  rw [List.append_nil] at X9
  refine own_go st9 ?_
  show own_Goes p e below (own_End s below _ _) (T9.setTop (mkF m 89 #[.val (.long p1), .second, .val (.long p2), .second, .val (.int p3), .val (.int (0 : Int32)), .val (.int (0 : Int32)), .val (.ref a), .val (.ref a2), .val (.long (own_h 0)), .second, .val (.long (own_h 0)), .second, .unset, .unset, .unset, .unset, .unset, .unset, .unset, .unset, .unset, .unset, .unset, .unset, .unset, .unset] [(.double (own_mean (0 : Int64) (0 : Int64)))]))
  rw [← e9] at Ua Ub Y4
  refine own_go (fun _ own_k => XS.dstore X9.here hx rfl (hb hby at_89) rfl (l' := #[.val (.long p1), .second, .val (.long p2), .second, .val (.int p3), .val (.int (0 : Int32)), .val (.int (0 : Int32)), .val (.ref a), .val (.ref a2), .val (.long (own_h 0)), .second, .val (.long (own_h 0)), .second, .val (.double (own_mean (0 : Int64) (0 : Int64))), .second, .unset, .unset, .unset, .unset, .unset, .unset, .unset, .unset, .unset, .unset, .unset, .unset]) rfl own_k) ?_
  show own_Goes p e below (own_End s below _ _) (T9.setTop (mkF m 91 #[.val (.long p1), .second, .val (.long p2), .second, .val (.int p3), .val (.int (0 : Int32)), .val (.int (0 : Int32)), .val (.ref a), .val (.ref a2), .val (.long (own_h 0)), .second, .val (.long (own_h 0)), .second, .val (.double (own_mean (0 : Int64) (0 : Int64))), .second, .unset, .unset, .unset, .unset, .unset, .unset, .unset, .unset, .unset, .unset, .unset, .unset] []))
  refine own_go (fun _ own_k => XS.aload X9.here hx rfl (hb hby at_91) rfl rfl own_k) ?_
  show own_Goes p e below (own_End s below _ _) (T9.setTop (mkF m 93 #[.val (.long p1), .second, .val (.long p2), .second, .val (.int p3), .val (.int (0 : Int32)), .val (.int (0 : Int32)), .val (.ref a), .val (.ref a2), .val (.long (own_h 0)), .second, .val (.long (own_h 0)), .second, .val (.double (own_mean (0 : Int64) (0 : Int64))), .second, .unset, .unset, .unset, .unset, .unset, .unset, .unset, .unset, .unset, .unset, .unset, .unset] [(.ref a)]))
  refine own_go (fun _ own_k => XS.aload X9.here hx rfl (hb hby at_93) rfl rfl own_k) ?_
  show own_Goes p e below (own_End s below _ _) (T9.setTop (mkF m 95 #[.val (.long p1), .second, .val (.long p2), .second, .val (.int p3), .val (.int (0 : Int32)), .val (.int (0 : Int32)), .val (.ref a), .val (.ref a2), .val (.long (own_h 0)), .second, .val (.long (own_h 0)), .second, .val (.double (own_mean (0 : Int64) (0 : Int64))), .second, .unset, .unset, .unset, .unset, .unset, .unset, .unset, .unset, .unset, .unset, .unset, .unset] [(.ref a2), (.ref a)]))
  obtain ⟨v10, T10, L10, X10, ⟨u10, M10, K10, V10⟩, st10⟩ := own_callV X9 hx hZ (y := own_addN) (z := own_addN) hown (hw _ (List.mem_of_getElem? (i := 48) rfl)) (hw _ (List.mem_of_getElem? (i := 49) rfl)) (hw _ (List.mem_of_getElem? (i := 51) rfl)) (hw _ (List.mem_of_getElem? (i := 50) rfl)) (hw _ (List.mem_of_getElem? (i := 2) rfl)) (hw _ (List.mem_of_getElem? (i := 52) rfl)) (notFace_of_selects (args := #[]) (mvT hZ (hw _ (List.mem_of_getElem? (i := 51) rfl)))) (by decide) (own_add l Z a0 hw _ n0 a b a2 b2 _ _ _ _ _ _ na nb q1 q2 Ua Ub) rfl Ua.1 (W := 0) (by decide) (by decide) (g := (mkF m 95 #[.val (.long p1), .second, .val (.long p2), .second, .val (.int p3), .val (.int (0 : Int32)), .val (.int (0 : Int32)), .val (.ref a), .val (.ref a2), .val (.long (own_h 0)), .second, .val (.long (own_h 0)), .second, .val (.double (own_mean (0 : Int64) (0 : Int64))), .second, .unset, .unset, .unset, .unset, .unset, .unset, .unset, .unset, .unset, .unset, .unset, .unset] [(.ref a2), (.ref a)])) rfl (by rw [hml]; rfl) (argsL := [(.ref a2)]) (rest := []) pd_HV rfl rfl (by show 2 * 0 + _ ≤ _; exact Nat.le_of_eq rfl) (hb hby at_95) rfl (by decide) (by decide)
  subst u10
  have N10 := Fr.app N4 M10
  have Y10 := Y4.keep K10 (allS na (allS nb all0))
  have W10 := own_H_keep Ub K10 q1 q2
  refine own_go st10 ?_
  show own_Goes p e below (own_End s below _ _) (T10.setTop (mkF m 98 #[.val (.long p1), .second, .val (.long p2), .second, .val (.int p3), .val (.int (0 : Int32)), .val (.int (0 : Int32)), .val (.ref a), .val (.ref a2), .val (.long (own_h 0)), .second, .val (.long (own_h 0)), .second, .val (.double (own_mean (0 : Int64) (0 : Int64))), .second, .unset, .unset, .unset, .unset, .unset, .unset, .unset, .unset, .unset, .unset, .unset, .unset] []))
  refine own_go (fun _ own_k => XS.iload X10.here hx rfl (hb hby at_98) rfl own_k) ?_
  show own_Goes p e below (own_End s below _ _) (T10.setTop (mkF m 100 #[.val (.long p1), .second, .val (.long p2), .second, .val (.int p3), .val (.int (0 : Int32)), .val (.int (0 : Int32)), .val (.ref a), .val (.ref a2), .val (.long (own_h 0)), .second, .val (.long (own_h 0)), .second, .val (.double (own_mean (0 : Int64) (0 : Int64))), .second, .unset, .unset, .unset, .unset, .unset, .unset, .unset, .unset, .unset, .unset, .unset, .unset] [(.int (0 : Int32))]))
  refine own_go (fun _ own_k => XS.ifYes X10.here hx rfl (pc0 := 100) (pc' := 111) rfl (hb hby at_100) rfl (by decide) (by decide) (by decide) own_k) ?_
  show own_Goes p e below (own_End s below _ _) (T10.setTop (mkF m 111 #[.val (.long p1), .second, .val (.long p2), .second, .val (.int p3), .val (.int (0 : Int32)), .val (.int (0 : Int32)), .val (.ref a), .val (.ref a2), .val (.long (own_h 0)), .second, .val (.long (own_h 0)), .second, .val (.double (own_mean (0 : Int64) (0 : Int64))), .second, .unset, .unset, .unset, .unset, .unset, .unset, .unset, .unset, .unset, .unset, .unset, .unset] []))
  refine own_go (fun _ own_k => XS.lconst X10.here hx rfl (hb hby at_111) own_k) ?_
  show own_Goes p e below (own_End s below _ _) (T10.setTop (mkF m 112 #[.val (.long p1), .second, .val (.long p2), .second, .val (.int p3), .val (.int (0 : Int32)), .val (.int (0 : Int32)), .val (.ref a), .val (.ref a2), .val (.long (own_h 0)), .second, .val (.long (own_h 0)), .second, .val (.double (own_mean (0 : Int64) (0 : Int64))), .second, .unset, .unset, .unset, .unset, .unset, .unset, .unset, .unset, .unset, .unset, .unset, .unset] [(.long (0 : Int64))]))
  refine own_go (fun _ own_k => XS.lstore X10.here hx rfl (hb hby at_112) rfl (l' := #[.val (.long p1), .second, .val (.long p2), .second, .val (.int p3), .val (.int (0 : Int32)), .val (.int (0 : Int32)), .val (.ref a), .val (.ref a2), .val (.long (own_h 0)), .second, .val (.long (own_h 0)), .second, .val (.double (own_mean (0 : Int64) (0 : Int64))), .second, .val (.long (0 : Int64)), .second, .unset, .unset, .unset, .unset, .unset, .unset, .unset, .unset, .unset, .unset]) rfl own_k) ?_
  show own_Goes p e below (own_End s below _ _) (T10.setTop (mkF m 114 #[.val (.long p1), .second, .val (.long p2), .second, .val (.int p3), .val (.int (0 : Int32)), .val (.int (0 : Int32)), .val (.ref a), .val (.ref a2), .val (.long (own_h 0)), .second, .val (.long (own_h 0)), .second, .val (.double (own_mean (0 : Int64) (0 : Int64))), .second, .val (.long (0 : Int64)), .second, .unset, .unset, .unset, .unset, .unset, .unset, .unset, .unset, .unset, .unset] []))
  refine own_go (fun _ own_k => XS.iload X10.here hx rfl (hb hby at_114) rfl own_k) ?_
  show own_Goes p e below (own_End s below _ _) (T10.setTop (mkF m 116 #[.val (.long p1), .second, .val (.long p2), .second, .val (.int p3), .val (.int (0 : Int32)), .val (.int (0 : Int32)), .val (.ref a), .val (.ref a2), .val (.long (own_h 0)), .second, .val (.long (own_h 0)), .second, .val (.double (own_mean (0 : Int64) (0 : Int64))), .second, .val (.long (0 : Int64)), .second, .unset, .unset, .unset, .unset, .unset, .unset, .unset, .unset, .unset, .unset] [(.int (0 : Int32))]))
  refine own_go (fun _ own_k => XS.ifYes X10.here hx rfl (pc0 := 116) (pc' := 127) rfl (hb hby at_116) rfl (by decide) (by decide) (by decide) own_k) ?_
  show own_Goes p e below (own_End s below _ _) (T10.setTop (mkF m 127 #[.val (.long p1), .second, .val (.long p2), .second, .val (.int p3), .val (.int (0 : Int32)), .val (.int (0 : Int32)), .val (.ref a), .val (.ref a2), .val (.long (own_h 0)), .second, .val (.long (own_h 0)), .second, .val (.double (own_mean (0 : Int64) (0 : Int64))), .second, .val (.long (0 : Int64)), .second, .unset, .unset, .unset, .unset, .unset, .unset, .unset, .unset, .unset, .unset] []))
  refine own_go (fun _ own_k => XS.lconst X10.here hx rfl (hb hby at_127) own_k) ?_
  show own_Goes p e below (own_End s below _ _) (T10.setTop (mkF m 128 #[.val (.long p1), .second, .val (.long p2), .second, .val (.int p3), .val (.int (0 : Int32)), .val (.int (0 : Int32)), .val (.ref a), .val (.ref a2), .val (.long (own_h 0)), .second, .val (.long (own_h 0)), .second, .val (.double (own_mean (0 : Int64) (0 : Int64))), .second, .val (.long (0 : Int64)), .second, .unset, .unset, .unset, .unset, .unset, .unset, .unset, .unset, .unset, .unset] [(.long (0 : Int64))]))
  refine own_go (fun _ own_k => XS.lstore X10.here hx rfl (hb hby at_128) rfl (l' := #[.val (.long p1), .second, .val (.long p2), .second, .val (.int p3), .val (.int (0 : Int32)), .val (.int (0 : Int32)), .val (.ref a), .val (.ref a2), .val (.long (own_h 0)), .second, .val (.long (own_h 0)), .second, .val (.double (own_mean (0 : Int64) (0 : Int64))), .second, .val (.long (0 : Int64)), .second, .val (.long (0 : Int64)), .second, .unset, .unset, .unset, .unset, .unset, .unset, .unset, .unset]) rfl own_k) ?_
  show own_Goes p e below (own_End s below _ _) (T10.setTop (mkF m 130 #[.val (.long p1), .second, .val (.long p2), .second, .val (.int p3), .val (.int (0 : Int32)), .val (.int (0 : Int32)), .val (.ref a), .val (.ref a2), .val (.long (own_h 0)), .second, .val (.long (own_h 0)), .second, .val (.double (own_mean (0 : Int64) (0 : Int64))), .second, .val (.long (0 : Int64)), .second, .val (.long (0 : Int64)), .second, .unset, .unset, .unset, .unset, .unset, .unset, .unset, .unset] []))
  refine own_go (fun _ own_k => XS.iload X10.here hx rfl (hb hby at_130) rfl own_k) ?_
  show own_Goes p e below (own_End s below _ _) (T10.setTop (mkF m 132 #[.val (.long p1), .second, .val (.long p2), .second, .val (.int p3), .val (.int (0 : Int32)), .val (.int (0 : Int32)), .val (.ref a), .val (.ref a2), .val (.long (own_h 0)), .second, .val (.long (own_h 0)), .second, .val (.double (own_mean (0 : Int64) (0 : Int64))), .second, .val (.long (0 : Int64)), .second, .val (.long (0 : Int64)), .second, .unset, .unset, .unset, .unset, .unset, .unset, .unset, .unset] [(.int (0 : Int32))]))
  refine own_go (fun _ own_k => XS.ifYes X10.here hx rfl (pc0 := 132) (pc' := 139) rfl (hb hby at_132) rfl (by decide) (by decide) (by decide) own_k) ?_
  show own_Goes p e below (own_End s below _ _) (T10.setTop (mkF m 139 #[.val (.long p1), .second, .val (.long p2), .second, .val (.int p3), .val (.int (0 : Int32)), .val (.int (0 : Int32)), .val (.ref a), .val (.ref a2), .val (.long (own_h 0)), .second, .val (.long (own_h 0)), .second, .val (.double (own_mean (0 : Int64) (0 : Int64))), .second, .val (.long (0 : Int64)), .second, .val (.long (0 : Int64)), .second, .unset, .unset, .unset, .unset, .unset, .unset, .unset, .unset] []))
  refine own_go (fun _ own_k => XS.lconst X10.here hx rfl (hb hby at_139) own_k) ?_
  show own_Goes p e below (own_End s below _ _) (T10.setTop (mkF m 140 #[.val (.long p1), .second, .val (.long p2), .second, .val (.int p3), .val (.int (0 : Int32)), .val (.int (0 : Int32)), .val (.ref a), .val (.ref a2), .val (.long (own_h 0)), .second, .val (.long (own_h 0)), .second, .val (.double (own_mean (0 : Int64) (0 : Int64))), .second, .val (.long (0 : Int64)), .second, .val (.long (0 : Int64)), .second, .unset, .unset, .unset, .unset, .unset, .unset, .unset, .unset] [(.long (0 : Int64))]))
  refine own_go (fun _ own_k => XS.iload X10.here hx rfl (hb hby at_140) rfl own_k) ?_
  show own_Goes p e below (own_End s below _ _) (T10.setTop (mkF m 142 #[.val (.long p1), .second, .val (.long p2), .second, .val (.int p3), .val (.int (0 : Int32)), .val (.int (0 : Int32)), .val (.ref a), .val (.ref a2), .val (.long (own_h 0)), .second, .val (.long (own_h 0)), .second, .val (.double (own_mean (0 : Int64) (0 : Int64))), .second, .val (.long (0 : Int64)), .second, .val (.long (0 : Int64)), .second, .unset, .unset, .unset, .unset, .unset, .unset, .unset, .unset] [(.int (0 : Int32)), (.long (0 : Int64))]))
  refine own_go (fun _ own_k => XS.ifYes X10.here hx rfl (pc0 := 142) (pc' := 149) rfl (hb hby at_142) rfl (by decide) (by decide) (by decide) own_k) ?_
  show own_Goes p e below (own_End s below _ _) (T10.setTop (mkF m 149 #[.val (.long p1), .second, .val (.long p2), .second, .val (.int p3), .val (.int (0 : Int32)), .val (.int (0 : Int32)), .val (.ref a), .val (.ref a2), .val (.long (own_h 0)), .second, .val (.long (own_h 0)), .second, .val (.double (own_mean (0 : Int64) (0 : Int64))), .second, .val (.long (0 : Int64)), .second, .val (.long (0 : Int64)), .second, .unset, .unset, .unset, .unset, .unset, .unset, .unset, .unset] [(.long (0 : Int64))]))
  refine own_go (fun _ own_k => XS.lconst X10.here hx rfl (hb hby at_149) own_k) ?_
  show own_Goes p e below (own_End s below _ _) (T10.setTop (mkF m 150 #[.val (.long p1), .second, .val (.long p2), .second, .val (.int p3), .val (.int (0 : Int32)), .val (.int (0 : Int32)), .val (.ref a), .val (.ref a2), .val (.long (own_h 0)), .second, .val (.long (own_h 0)), .second, .val (.double (own_mean (0 : Int64) (0 : Int64))), .second, .val (.long (0 : Int64)), .second, .val (.long (0 : Int64)), .second, .unset, .unset, .unset, .unset, .unset, .unset, .unset, .unset] [(.long (0 : Int64)), (.long (0 : Int64))]))
  refine own_go (fun _ own_k => XS.ladd X10.here hx rfl (hb hby at_150) rfl own_k) ?_
  show own_Goes p e below (own_End s below _ _) (T10.setTop (mkF m 151 #[.val (.long p1), .second, .val (.long p2), .second, .val (.int p3), .val (.int (0 : Int32)), .val (.int (0 : Int32)), .val (.ref a), .val (.ref a2), .val (.long (own_h 0)), .second, .val (.long (own_h 0)), .second, .val (.double (own_mean (0 : Int64) (0 : Int64))), .second, .val (.long (0 : Int64)), .second, .val (.long (0 : Int64)), .second, .unset, .unset, .unset, .unset, .unset, .unset, .unset, .unset] [(.long ((0 : Int64) + (0 : Int64)))]))
  refine own_go (fun _ own_k => XS.lstore X10.here hx rfl (hb hby at_151) rfl (l' := #[.val (.long p1), .second, .val (.long p2), .second, .val (.int p3), .val (.int (0 : Int32)), .val (.int (0 : Int32)), .val (.ref a), .val (.ref a2), .val (.long (own_h 0)), .second, .val (.long (own_h 0)), .second, .val (.double (own_mean (0 : Int64) (0 : Int64))), .second, .val (.long (0 : Int64)), .second, .val (.long (0 : Int64)), .second, .val (.long ((0 : Int64) + (0 : Int64))), .second, .unset, .unset, .unset, .unset, .unset, .unset]) rfl own_k) ?_
  show own_Goes p e below (own_End s below _ _) (T10.setTop (mkF m 153 #[.val (.long p1), .second, .val (.long p2), .second, .val (.int p3), .val (.int (0 : Int32)), .val (.int (0 : Int32)), .val (.ref a), .val (.ref a2), .val (.long (own_h 0)), .second, .val (.long (own_h 0)), .second, .val (.double (own_mean (0 : Int64) (0 : Int64))), .second, .val (.long (0 : Int64)), .second, .val (.long (0 : Int64)), .second, .val (.long ((0 : Int64) + (0 : Int64))), .second, .unset, .unset, .unset, .unset, .unset, .unset] []))
  refine own_go (fun _ own_k => XS.lload X10.here hx rfl (hb hby at_153) rfl own_k) ?_
  show own_Goes p e below (own_End s below _ _) (T10.setTop (mkF m 155 #[.val (.long p1), .second, .val (.long p2), .second, .val (.int p3), .val (.int (0 : Int32)), .val (.int (0 : Int32)), .val (.ref a), .val (.ref a2), .val (.long (own_h 0)), .second, .val (.long (own_h 0)), .second, .val (.double (own_mean (0 : Int64) (0 : Int64))), .second, .val (.long (0 : Int64)), .second, .val (.long (0 : Int64)), .second, .val (.long ((0 : Int64) + (0 : Int64))), .second, .unset, .unset, .unset, .unset, .unset, .unset] [(.long ((0 : Int64) + (0 : Int64)))]))
  refine own_go (fun _ own_k => XS.lconst X10.here hx rfl (hb hby at_155) own_k) ?_
  show own_Goes p e below (own_End s below _ _) (T10.setTop (mkF m 156 #[.val (.long p1), .second, .val (.long p2), .second, .val (.int p3), .val (.int (0 : Int32)), .val (.int (0 : Int32)), .val (.ref a), .val (.ref a2), .val (.long (own_h 0)), .second, .val (.long (own_h 0)), .second, .val (.double (own_mean (0 : Int64) (0 : Int64))), .second, .val (.long (0 : Int64)), .second, .val (.long (0 : Int64)), .second, .val (.long ((0 : Int64) + (0 : Int64))), .second, .unset, .unset, .unset, .unset, .unset, .unset] [(.long (0 : Int64)), (.long ((0 : Int64) + (0 : Int64)))]))
  refine own_go (fun _ own_k => XS.lcmp X10.here hx rfl (hb hby at_156) rfl own_k) ?_
  show own_Goes p e below (own_End s below _ _) (T10.setTop (mkF m 157 #[.val (.long p1), .second, .val (.long p2), .second, .val (.int p3), .val (.int (0 : Int32)), .val (.int (0 : Int32)), .val (.ref a), .val (.ref a2), .val (.long (own_h 0)), .second, .val (.long (own_h 0)), .second, .val (.double (own_mean (0 : Int64) (0 : Int64))), .second, .val (.long (0 : Int64)), .second, .val (.long (0 : Int64)), .second, .val (.long ((0 : Int64) + (0 : Int64))), .second, .unset, .unset, .unset, .unset, .unset, .unset] [(.int (lcmpW ((0 : Int64) + (0 : Int64)) (0 : Int64)))]))
  refine own_go (fun _ own_k => XS.ifNo X10.here hx rfl (hb hby at_157) rfl (by decide) own_k) ?_
  show own_Goes p e below (own_End s below _ _) (T10.setTop (mkF m 160 #[.val (.long p1), .second, .val (.long p2), .second, .val (.int p3), .val (.int (0 : Int32)), .val (.int (0 : Int32)), .val (.ref a), .val (.ref a2), .val (.long (own_h 0)), .second, .val (.long (own_h 0)), .second, .val (.double (own_mean (0 : Int64) (0 : Int64))), .second, .val (.long (0 : Int64)), .second, .val (.long (0 : Int64)), .second, .val (.long ((0 : Int64) + (0 : Int64))), .second, .unset, .unset, .unset, .unset, .unset, .unset] []))
  refine own_go (fun _ own_k => XS.dconst0 X10.here hx rfl (hb hby at_160) rfl own_k) ?_
  show own_Goes p e below (own_End s below _ _) (T10.setTop (mkF m 161 #[.val (.long p1), .second, .val (.long p2), .second, .val (.int p3), .val (.int (0 : Int32)), .val (.int (0 : Int32)), .val (.ref a), .val (.ref a2), .val (.long (own_h 0)), .second, .val (.long (own_h 0)), .second, .val (.double (own_mean (0 : Int64) (0 : Int64))), .second, .val (.long (0 : Int64)), .second, .val (.long (0 : Int64)), .second, .val (.long ((0 : Int64) + (0 : Int64))), .second, .unset, .unset, .unset, .unset, .unset, .unset] [(.double FP.dconst0)]))
  refine own_go (fun _ own_k => XS.goto X10.here hx rfl (pc0 := 161) (pc' := 174) rfl (hb hby at_161) (by decide) (by decide) own_k) ?_
  show own_Goes p e below (own_End s below _ _) (T10.setTop (mkF m 174 #[.val (.long p1), .second, .val (.long p2), .second, .val (.int p3), .val (.int (0 : Int32)), .val (.int (0 : Int32)), .val (.ref a), .val (.ref a2), .val (.long (own_h 0)), .second, .val (.long (own_h 0)), .second, .val (.double (own_mean (0 : Int64) (0 : Int64))), .second, .val (.long (0 : Int64)), .second, .val (.long (0 : Int64)), .second, .val (.long ((0 : Int64) + (0 : Int64))), .second, .unset, .unset, .unset, .unset, .unset, .unset] [(.double FP.dconst0)]))
  refine own_go (fun _ own_k => XS.dstore X10.here hx rfl (hb hby at_174) rfl (l' := #[.val (.long p1), .second, .val (.long p2), .second, .val (.int p3), .val (.int (0 : Int32)), .val (.int (0 : Int32)), .val (.ref a), .val (.ref a2), .val (.long (own_h 0)), .second, .val (.long (own_h 0)), .second, .val (.double (own_mean (0 : Int64) (0 : Int64))), .second, .val (.long (0 : Int64)), .second, .val (.long (0 : Int64)), .second, .val (.long ((0 : Int64) + (0 : Int64))), .second, .val (.double FP.dconst0), .second, .unset, .unset, .unset, .unset]) rfl own_k) ?_
  show own_Goes p e below (own_End s below _ _) (T10.setTop (mkF m 176 #[.val (.long p1), .second, .val (.long p2), .second, .val (.int p3), .val (.int (0 : Int32)), .val (.int (0 : Int32)), .val (.ref a), .val (.ref a2), .val (.long (own_h 0)), .second, .val (.long (own_h 0)), .second, .val (.double (own_mean (0 : Int64) (0 : Int64))), .second, .val (.long (0 : Int64)), .second, .val (.long (0 : Int64)), .second, .val (.long ((0 : Int64) + (0 : Int64))), .second, .val (.double FP.dconst0), .second, .unset, .unset, .unset, .unset] []))
  refine own_go (fun _ own_k => XS.iload X10.here hx rfl (hb hby at_176) rfl own_k) ?_
  show own_Goes p e below (own_End s below _ _) (T10.setTop (mkF m 178 #[.val (.long p1), .second, .val (.long p2), .second, .val (.int p3), .val (.int (0 : Int32)), .val (.int (0 : Int32)), .val (.ref a), .val (.ref a2), .val (.long (own_h 0)), .second, .val (.long (own_h 0)), .second, .val (.double (own_mean (0 : Int64) (0 : Int64))), .second, .val (.long (0 : Int64)), .second, .val (.long (0 : Int64)), .second, .val (.long ((0 : Int64) + (0 : Int64))), .second, .val (.double FP.dconst0), .second, .unset, .unset, .unset, .unset] [(.int (0 : Int32))]))
  refine own_go (fun _ own_k => XS.ifYes X10.here hx rfl (pc0 := 178) (pc' := 207) rfl (hb hby at_178) rfl (by decide) (by decide) (by decide) own_k) ?_
  show own_Goes p e below (own_End s below _ _) (T10.setTop (mkF m 207 #[.val (.long p1), .second, .val (.long p2), .second, .val (.int p3), .val (.int (0 : Int32)), .val (.int (0 : Int32)), .val (.ref a), .val (.ref a2), .val (.long (own_h 0)), .second, .val (.long (own_h 0)), .second, .val (.double (own_mean (0 : Int64) (0 : Int64))), .second, .val (.long (0 : Int64)), .second, .val (.long (0 : Int64)), .second, .val (.long ((0 : Int64) + (0 : Int64))), .second, .val (.double FP.dconst0), .second, .unset, .unset, .unset, .unset] []))
  refine own_go (fun _ own_k => XS.iload X10.here hx rfl (hb hby at_207) rfl own_k) ?_
  show own_Goes p e below (own_End s below _ _) (T10.setTop (mkF m 209 #[.val (.long p1), .second, .val (.long p2), .second, .val (.int p3), .val (.int (0 : Int32)), .val (.int (0 : Int32)), .val (.ref a), .val (.ref a2), .val (.long (own_h 0)), .second, .val (.long (own_h 0)), .second, .val (.double (own_mean (0 : Int64) (0 : Int64))), .second, .val (.long (0 : Int64)), .second, .val (.long (0 : Int64)), .second, .val (.long ((0 : Int64) + (0 : Int64))), .second, .val (.double FP.dconst0), .second, .unset, .unset, .unset, .unset] [(.int (0 : Int32))]))
  refine own_go (fun _ own_k => XS.ifYes X10.here hx rfl (pc0 := 209) (pc' := 223) rfl (hb hby at_209) rfl (by decide) (by decide) (by decide) own_k) ?_
  show own_Goes p e below (own_End s below _ _) (T10.setTop (mkF m 223 #[.val (.long p1), .second, .val (.long p2), .second, .val (.int p3), .val (.int (0 : Int32)), .val (.int (0 : Int32)), .val (.ref a), .val (.ref a2), .val (.long (own_h 0)), .second, .val (.long (own_h 0)), .second, .val (.double (own_mean (0 : Int64) (0 : Int64))), .second, .val (.long (0 : Int64)), .second, .val (.long (0 : Int64)), .second, .val (.long ((0 : Int64) + (0 : Int64))), .second, .val (.double FP.dconst0), .second, .unset, .unset, .unset, .unset] []))
  refine own_go (fun _ own_k => XS.iload X10.here hx rfl (hb hby at_223) rfl own_k) ?_
  show own_Goes p e below (own_End s below _ _) (T10.setTop (mkF m 225 #[.val (.long p1), .second, .val (.long p2), .second, .val (.int p3), .val (.int (0 : Int32)), .val (.int (0 : Int32)), .val (.ref a), .val (.ref a2), .val (.long (own_h 0)), .second, .val (.long (own_h 0)), .second, .val (.double (own_mean (0 : Int64) (0 : Int64))), .second, .val (.long (0 : Int64)), .second, .val (.long (0 : Int64)), .second, .val (.long ((0 : Int64) + (0 : Int64))), .second, .val (.double FP.dconst0), .second, .unset, .unset, .unset, .unset] [(.int (0 : Int32))]))
  refine own_go (fun _ own_k => XS.ifYes X10.here hx rfl (pc0 := 225) (pc' := 239) rfl (hb hby at_225) rfl (by decide) (by decide) (by decide) own_k) ?_
  show own_Goes p e below (own_End s below _ _) (T10.setTop (mkF m 239 #[.val (.long p1), .second, .val (.long p2), .second, .val (.int p3), .val (.int (0 : Int32)), .val (.int (0 : Int32)), .val (.ref a), .val (.ref a2), .val (.long (own_h 0)), .second, .val (.long (own_h 0)), .second, .val (.double (own_mean (0 : Int64) (0 : Int64))), .second, .val (.long (0 : Int64)), .second, .val (.long (0 : Int64)), .second, .val (.long ((0 : Int64) + (0 : Int64))), .second, .val (.double FP.dconst0), .second, .unset, .unset, .unset, .unset] []))
  refine own_go (fun _ own_k => XS.lconst X10.here hx rfl (hb hby at_239) own_k) ?_
  show own_Goes p e below (own_End s below _ _) (T10.setTop (mkF m 240 #[.val (.long p1), .second, .val (.long p2), .second, .val (.int p3), .val (.int (0 : Int32)), .val (.int (0 : Int32)), .val (.ref a), .val (.ref a2), .val (.long (own_h 0)), .second, .val (.long (own_h 0)), .second, .val (.double (own_mean (0 : Int64) (0 : Int64))), .second, .val (.long (0 : Int64)), .second, .val (.long (0 : Int64)), .second, .val (.long ((0 : Int64) + (0 : Int64))), .second, .val (.double FP.dconst0), .second, .unset, .unset, .unset, .unset] [(.long (0 : Int64))]))
  refine own_go (fun _ own_k => XS.lstore X10.here hx rfl (hb hby at_240) rfl (l' := #[.val (.long p1), .second, .val (.long p2), .second, .val (.int p3), .val (.int (0 : Int32)), .val (.int (0 : Int32)), .val (.ref a), .val (.ref a2), .val (.long (own_h 0)), .second, .val (.long (own_h 0)), .second, .val (.double (own_mean (0 : Int64) (0 : Int64))), .second, .val (.long (0 : Int64)), .second, .val (.long (0 : Int64)), .second, .val (.long ((0 : Int64) + (0 : Int64))), .second, .val (.double FP.dconst0), .second, .val (.long (0 : Int64)), .second, .unset, .unset]) rfl own_k) ?_
  show own_Goes p e below (own_End s below _ _) (T10.setTop (mkF m 242 #[.val (.long p1), .second, .val (.long p2), .second, .val (.int p3), .val (.int (0 : Int32)), .val (.int (0 : Int32)), .val (.ref a), .val (.ref a2), .val (.long (own_h 0)), .second, .val (.long (own_h 0)), .second, .val (.double (own_mean (0 : Int64) (0 : Int64))), .second, .val (.long (0 : Int64)), .second, .val (.long (0 : Int64)), .second, .val (.long ((0 : Int64) + (0 : Int64))), .second, .val (.double FP.dconst0), .second, .val (.long (0 : Int64)), .second, .unset, .unset] []))
  refine own_go (fun _ own_k => XS.lconst X10.here hx rfl (hb hby at_242) own_k) ?_
  show own_Goes p e below (own_End s below _ _) (T10.setTop (mkF m 243 #[.val (.long p1), .second, .val (.long p2), .second, .val (.int p3), .val (.int (0 : Int32)), .val (.int (0 : Int32)), .val (.ref a), .val (.ref a2), .val (.long (own_h 0)), .second, .val (.long (own_h 0)), .second, .val (.double (own_mean (0 : Int64) (0 : Int64))), .second, .val (.long (0 : Int64)), .second, .val (.long (0 : Int64)), .second, .val (.long ((0 : Int64) + (0 : Int64))), .second, .val (.double FP.dconst0), .second, .val (.long (0 : Int64)), .second, .unset, .unset] [(.long (0 : Int64))]))
  refine own_go (fun _ own_k => XS.lstore X10.here hx rfl (hb hby at_243) rfl (l' := #[.val (.long p1), .second, .val (.long p2), .second, .val (.int p3), .val (.int (0 : Int32)), .val (.int (0 : Int32)), .val (.ref a), .val (.ref a2), .val (.long (own_h 0)), .second, .val (.long (own_h 0)), .second, .val (.double (own_mean (0 : Int64) (0 : Int64))), .second, .val (.long (0 : Int64)), .second, .val (.long (0 : Int64)), .second, .val (.long ((0 : Int64) + (0 : Int64))), .second, .val (.double FP.dconst0), .second, .val (.long (0 : Int64)), .second, .val (.long (0 : Int64)), .second]) rfl own_k) ?_
  show own_Goes p e below (own_End s below _ _) (T10.setTop (mkF m 245 #[.val (.long p1), .second, .val (.long p2), .second, .val (.int p3), .val (.int (0 : Int32)), .val (.int (0 : Int32)), .val (.ref a), .val (.ref a2), .val (.long (own_h 0)), .second, .val (.long (own_h 0)), .second, .val (.double (own_mean (0 : Int64) (0 : Int64))), .second, .val (.long (0 : Int64)), .second, .val (.long (0 : Int64)), .second, .val (.long ((0 : Int64) + (0 : Int64))), .second, .val (.double FP.dconst0), .second, .val (.long (0 : Int64)), .second, .val (.long (0 : Int64)), .second] []))
  refine own_go (fun _ own_k => XS.aload X10.here hx rfl (hb hby at_245) rfl rfl own_k) ?_
  show own_Goes p e below (own_End s below _ _) (T10.setTop (mkF m 247 #[.val (.long p1), .second, .val (.long p2), .second, .val (.int p3), .val (.int (0 : Int32)), .val (.int (0 : Int32)), .val (.ref a), .val (.ref a2), .val (.long (own_h 0)), .second, .val (.long (own_h 0)), .second, .val (.double (own_mean (0 : Int64) (0 : Int64))), .second, .val (.long (0 : Int64)), .second, .val (.long (0 : Int64)), .second, .val (.long ((0 : Int64) + (0 : Int64))), .second, .val (.double FP.dconst0), .second, .val (.long (0 : Int64)), .second, .val (.long (0 : Int64)), .second] [(.ref a)]))
  obtain ⟨v15, T15, L15, X15, ⟨u15, e15, d15⟩, st15⟩ := own_callV X10 hx hZ (y := own_meaN) (z := own_meaN) hown (hw _ (List.mem_of_getElem? (i := 43) rfl)) (hw _ (List.mem_of_getElem? (i := 44) rfl)) (hw _ (List.mem_of_getElem? (i := 46) rfl)) (hw _ (List.mem_of_getElem? (i := 45) rfl)) (hw _ (List.mem_of_getElem? (i := 2) rfl)) (hw _ (List.mem_of_getElem? (i := 47) rfl)) (notFace_of_selects (args := #[]) (mvT hZ (hw _ (List.mem_of_getElem? (i := 46) rfl)))) (by decide) (own_mea l Z a0 hw _ a b _ _ _ V10) rfl V10.1 (W := 0) (by decide) (by decide) (g := (mkF m 247 #[.val (.long p1), .second, .val (.long p2), .second, .val (.int p3), .val (.int (0 : Int32)), .val (.int (0 : Int32)), .val (.ref a), .val (.ref a2), .val (.long (own_h 0)), .second, .val (.long (own_h 0)), .second, .val (.double (own_mean (0 : Int64) (0 : Int64))), .second, .val (.long (0 : Int64)), .second, .val (.long (0 : Int64)), .second, .val (.long ((0 : Int64) + (0 : Int64))), .second, .val (.double FP.dconst0), .second, .val (.long (0 : Int64)), .second, .val (.long (0 : Int64)), .second] [(.ref a)])) rfl (by rw [hml]; rfl) (argsL := []) (rest := []) pd_D rfl rfl (by show 2 * 0 + _ ≤ _; exact Nat.le_of_eq rfl) (hb hby at_247) rfl (by decide) (by decide)
  subst u15 d15
  rw [List.append_nil] at X15
  refine own_go st15 ?_
  show own_Goes p e below (own_End s below _ _) (T15.setTop (mkF m 250 #[.val (.long p1), .second, .val (.long p2), .second, .val (.int p3), .val (.int (0 : Int32)), .val (.int (0 : Int32)), .val (.ref a), .val (.ref a2), .val (.long (own_h 0)), .second, .val (.long (own_h 0)), .second, .val (.double (own_mean (0 : Int64) (0 : Int64))), .second, .val (.long (0 : Int64)), .second, .val (.long (0 : Int64)), .second, .val (.long ((0 : Int64) + (0 : Int64))), .second, .val (.double FP.dconst0), .second, .val (.long (0 : Int64)), .second, .val (.long (0 : Int64)), .second] [(.double (own_mean ((0 : Int64) + (0 : Int64)) ((0 : Int64) + (0 : Int64))))]))
  rw [← e15] at V10 W10 Y10
  refine own_go (fun _ own_k => XS.dload X15.here hx rfl (hb hby at_250) rfl own_k) ?_
  show own_Goes p e below (own_End s below _ _) (T15.setTop (mkF m 252 #[.val (.long p1), .second, .val (.long p2), .second, .val (.int p3), .val (.int (0 : Int32)), .val (.int (0 : Int32)), .val (.ref a), .val (.ref a2), .val (.long (own_h 0)), .second, .val (.long (own_h 0)), .second, .val (.double (own_mean (0 : Int64) (0 : Int64))), .second, .val (.long (0 : Int64)), .second, .val (.long (0 : Int64)), .second, .val (.long ((0 : Int64) + (0 : Int64))), .second, .val (.double FP.dconst0), .second, .val (.long (0 : Int64)), .second, .val (.long (0 : Int64)), .second] [(.double FP.dconst0), (.double (own_mean ((0 : Int64) + (0 : Int64)) ((0 : Int64) + (0 : Int64))))]))
  refine own_go (fun _ own_k => XS.dcmpS X15.here hx rfl (hb hby at_252) rfl (dcmpV_eq (by rw [own_mean, if_pos (by decide)]) (own_mean_nn _ _) .l) own_k) ?_
  show own_Goes p e below (own_End s below _ _) (T15.setTop (mkF m 253 #[.val (.long p1), .second, .val (.long p2), .second, .val (.int p3), .val (.int (0 : Int32)), .val (.int (0 : Int32)), .val (.ref a), .val (.ref a2), .val (.long (own_h 0)), .second, .val (.long (own_h 0)), .second, .val (.double (own_mean (0 : Int64) (0 : Int64))), .second, .val (.long (0 : Int64)), .second, .val (.long (0 : Int64)), .second, .val (.long ((0 : Int64) + (0 : Int64))), .second, .val (.double FP.dconst0), .second, .val (.long (0 : Int64)), .second, .val (.long (0 : Int64)), .second] [(.int (0 : Int32))]))
  refine own_go (fun _ own_k => XS.ifNo X15.here hx rfl (hb hby at_253) rfl (by decide) own_k) ?_
  show own_Goes p e below (own_End s below _ _) (T15.setTop (mkF m 256 #[.val (.long p1), .second, .val (.long p2), .second, .val (.int p3), .val (.int (0 : Int32)), .val (.int (0 : Int32)), .val (.ref a), .val (.ref a2), .val (.long (own_h 0)), .second, .val (.long (own_h 0)), .second, .val (.double (own_mean (0 : Int64) (0 : Int64))), .second, .val (.long (0 : Int64)), .second, .val (.long (0 : Int64)), .second, .val (.long ((0 : Int64) + (0 : Int64))), .second, .val (.double FP.dconst0), .second, .val (.long (0 : Int64)), .second, .val (.long (0 : Int64)), .second] []))
  refine own_go (fun _ own_k => XS.aload X15.here hx rfl (hb hby at_256) rfl rfl own_k) ?_
  show own_Goes p e below (own_End s below _ _) (T15.setTop (mkF m 258 #[.val (.long p1), .second, .val (.long p2), .second, .val (.int p3), .val (.int (0 : Int32)), .val (.int (0 : Int32)), .val (.ref a), .val (.ref a2), .val (.long (own_h 0)), .second, .val (.long (own_h 0)), .second, .val (.double (own_mean (0 : Int64) (0 : Int64))), .second, .val (.long (0 : Int64)), .second, .val (.long (0 : Int64)), .second, .val (.long ((0 : Int64) + (0 : Int64))), .second, .val (.double FP.dconst0), .second, .val (.long (0 : Int64)), .second, .val (.long (0 : Int64)), .second] [(.ref a)]))
  refine own_go (fun _ own_k => XS.dconst1 X15.here hx rfl (hb hby at_258) rfl own_k) ?_
  show own_Goes p e below (own_End s below _ _) (T15.setTop (mkF m 259 #[.val (.long p1), .second, .val (.long p2), .second, .val (.int p3), .val (.int (0 : Int32)), .val (.int (0 : Int32)), .val (.ref a), .val (.ref a2), .val (.long (own_h 0)), .second, .val (.long (own_h 0)), .second, .val (.double (own_mean (0 : Int64) (0 : Int64))), .second, .val (.long (0 : Int64)), .second, .val (.long (0 : Int64)), .second, .val (.long ((0 : Int64) + (0 : Int64))), .second, .val (.double FP.dconst0), .second, .val (.long (0 : Int64)), .second, .val (.long (0 : Int64)), .second] [(.double FP.dconst1), (.ref a)]))
  obtain ⟨v16, T16, L16, X16, ⟨u16, e16, d16⟩, st16⟩ := own_callV X15 hx hZ (y := own_pctN) (z := own_pctN) hown (hw _ (List.mem_of_getElem? (i := 12) rfl)) (hw _ (List.mem_of_getElem? (i := 13) rfl)) (hw _ (List.mem_of_getElem? (i := 15) rfl)) (hw _ (List.mem_of_getElem? (i := 14) rfl)) (hw _ (List.mem_of_getElem? (i := 2) rfl)) (hw _ (List.mem_of_getElem? (i := 16) rfl)) (notFace_of_selects (args := #[]) (mvT hZ (hw _ (List.mem_of_getElem? (i := 15) rfl)))) (by decide) (own_pct l Z a0 hw _ a b _ _ _ FP.dconst1 0 0 0 0 V10 own_At_zz (by decide +kernel) own_lit_nn0 (SA.ext Y10.2) own_CE0 (by decide +kernel)) rfl V10.1 (W := 0) (by decide) (by decide) (g := (mkF m 259 #[.val (.long p1), .second, .val (.long p2), .second, .val (.int p3), .val (.int (0 : Int32)), .val (.int (0 : Int32)), .val (.ref a), .val (.ref a2), .val (.long (own_h 0)), .second, .val (.long (own_h 0)), .second, .val (.double (own_mean (0 : Int64) (0 : Int64))), .second, .val (.long (0 : Int64)), .second, .val (.long (0 : Int64)), .second, .val (.long ((0 : Int64) + (0 : Int64))), .second, .val (.double FP.dconst0), .second, .val (.long (0 : Int64)), .second, .val (.long (0 : Int64)), .second] [(.double FP.dconst1), (.ref a)])) rfl (by rw [hml]; rfl) (argsL := [(.double FP.dconst1)]) (rest := []) pd_DJ rfl rfl (by show 2 * 0 + _ ≤ _; exact Nat.le_of_eq rfl) (hb hby at_259) rfl (by decide) (by decide)
  subst u16 d16
  rw [List.append_nil] at X16
  refine own_go st16 ?_
  show own_Goes p e below (own_End s below _ _) (T16.setTop (mkF m 262 #[.val (.long p1), .second, .val (.long p2), .second, .val (.int p3), .val (.int (0 : Int32)), .val (.int (0 : Int32)), .val (.ref a), .val (.ref a2), .val (.long (own_h 0)), .second, .val (.long (own_h 0)), .second, .val (.double (own_mean (0 : Int64) (0 : Int64))), .second, .val (.long (0 : Int64)), .second, .val (.long (0 : Int64)), .second, .val (.long ((0 : Int64) + (0 : Int64))), .second, .val (.double FP.dconst0), .second, .val (.long (0 : Int64)), .second, .val (.long (0 : Int64)), .second] [(.long (own_h 0))]))
  rw [← e16] at V10 W10 Y10
  refine own_go (fun _ own_k => XS.lload X16.here hx rfl (hb hby at_262) rfl own_k) ?_
  show own_Goes p e below (own_End s below _ _) (T16.setTop (mkF m 264 #[.val (.long p1), .second, .val (.long p2), .second, .val (.int p3), .val (.int (0 : Int32)), .val (.int (0 : Int32)), .val (.ref a), .val (.ref a2), .val (.long (own_h 0)), .second, .val (.long (own_h 0)), .second, .val (.double (own_mean (0 : Int64) (0 : Int64))), .second, .val (.long (0 : Int64)), .second, .val (.long (0 : Int64)), .second, .val (.long ((0 : Int64) + (0 : Int64))), .second, .val (.double FP.dconst0), .second, .val (.long (0 : Int64)), .second, .val (.long (0 : Int64)), .second] [(.long (0 : Int64)), (.long (own_h 0))]))
  refine own_go (fun _ own_k => XS.lcmp X16.here hx rfl (hb hby at_264) rfl own_k) ?_
  show own_Goes p e below (own_End s below _ _) (T16.setTop (mkF m 265 #[.val (.long p1), .second, .val (.long p2), .second, .val (.int p3), .val (.int (0 : Int32)), .val (.int (0 : Int32)), .val (.ref a), .val (.ref a2), .val (.long (own_h 0)), .second, .val (.long (own_h 0)), .second, .val (.double (own_mean (0 : Int64) (0 : Int64))), .second, .val (.long (0 : Int64)), .second, .val (.long (0 : Int64)), .second, .val (.long ((0 : Int64) + (0 : Int64))), .second, .val (.double FP.dconst0), .second, .val (.long (0 : Int64)), .second, .val (.long (0 : Int64)), .second] [(.int (lcmpW (own_h 0) (0 : Int64)))]))
  refine own_go (fun _ own_k => XS.ifNo X16.here hx rfl (hb hby at_265) rfl (by rw [if0]; exact (teq ((lw_eq _ _).mpr (by decide +kernel))).2) own_k) ?_
  show own_Goes p e below (own_End s below _ _) (T16.setTop (mkF m 268 #[.val (.long p1), .second, .val (.long p2), .second, .val (.int p3), .val (.int (0 : Int32)), .val (.int (0 : Int32)), .val (.ref a), .val (.ref a2), .val (.long (own_h 0)), .second, .val (.long (own_h 0)), .second, .val (.double (own_mean (0 : Int64) (0 : Int64))), .second, .val (.long (0 : Int64)), .second, .val (.long (0 : Int64)), .second, .val (.long ((0 : Int64) + (0 : Int64))), .second, .val (.double FP.dconst0), .second, .val (.long (0 : Int64)), .second, .val (.long (0 : Int64)), .second] []))
  refine own_go (fun _ own_k => XS.aload X16.here hx rfl (hb hby at_268) rfl rfl own_k) ?_
  show own_Goes p e below (own_End s below _ _) (T16.setTop (mkF m 270 #[.val (.long p1), .second, .val (.long p2), .second, .val (.int p3), .val (.int (0 : Int32)), .val (.int (0 : Int32)), .val (.ref a), .val (.ref a2), .val (.long (own_h 0)), .second, .val (.long (own_h 0)), .second, .val (.double (own_mean (0 : Int64) (0 : Int64))), .second, .val (.long (0 : Int64)), .second, .val (.long (0 : Int64)), .second, .val (.long ((0 : Int64) + (0 : Int64))), .second, .val (.double FP.dconst0), .second, .val (.long (0 : Int64)), .second, .val (.long (0 : Int64)), .second] [(.ref a)]))
  refine own_go (Stand.ldc2DoubleC X16 hx hown (mvT hZ (hw _ (List.mem_of_getElem? (i := 55) rfl))) (g := (mkF m 270 #[.val (.long p1), .second, .val (.long p2), .second, .val (.int p3), .val (.int (0 : Int32)), .val (.int (0 : Int32)), .val (.ref a), .val (.ref a2), .val (.long (own_h 0)), .second, .val (.long (own_h 0)), .second, .val (.double (own_mean (0 : Int64) (0 : Int64))), .second, .val (.long (0 : Int64)), .second, .val (.long (0 : Int64)), .second, .val (.long ((0 : Int64) + (0 : Int64))), .second, .val (.double FP.dconst0), .second, .val (.long (0 : Int64)), .second, .val (.long (0 : Int64)), .second] [(.ref a)])) rfl (hb hby at_270)) ?_
  show own_Goes p e below (own_End s below _ _) (T16.setTop (mkF m 273 #[.val (.long p1), .second, .val (.long p2), .second, .val (.int p3), .val (.int (0 : Int32)), .val (.int (0 : Int32)), .val (.ref a), .val (.ref a2), .val (.long (own_h 0)), .second, .val (.long (own_h 0)), .second, .val (.double (own_mean (0 : Int64) (0 : Int64))), .second, .val (.long (0 : Int64)), .second, .val (.long (0 : Int64)), .second, .val (.long ((0 : Int64) + (0 : Int64))), .second, .val (.double FP.dconst0), .second, .val (.long (0 : Int64)), .second, .val (.long (0 : Int64)), .second] [(.double 4602678819172646912), (.ref a)]))
  obtain ⟨v17, T17, L17, X17, ⟨u17, e17, d17⟩, st17⟩ := own_callV X16 hx hZ (y := own_pctN) (z := own_pctN) hown (hw _ (List.mem_of_getElem? (i := 12) rfl)) (hw _ (List.mem_of_getElem? (i := 13) rfl)) (hw _ (List.mem_of_getElem? (i := 15) rfl)) (hw _ (List.mem_of_getElem? (i := 14) rfl)) (hw _ (List.mem_of_getElem? (i := 2) rfl)) (hw _ (List.mem_of_getElem? (i := 16) rfl)) (notFace_of_selects (args := #[]) (mvT hZ (hw _ (List.mem_of_getElem? (i := 15) rfl)))) (by decide) (own_pct l Z a0 hw _ a b _ _ _ 4602678819172646912 0 0 0 0 V10 own_At_zz (by decide +kernel) own_lit_nn0 (SA.ext Y10.2) own_CE0 (by decide +kernel)) rfl V10.1 (W := 0) (by decide) (by decide) (g := (mkF m 273 #[.val (.long p1), .second, .val (.long p2), .second, .val (.int p3), .val (.int (0 : Int32)), .val (.int (0 : Int32)), .val (.ref a), .val (.ref a2), .val (.long (own_h 0)), .second, .val (.long (own_h 0)), .second, .val (.double (own_mean (0 : Int64) (0 : Int64))), .second, .val (.long (0 : Int64)), .second, .val (.long (0 : Int64)), .second, .val (.long ((0 : Int64) + (0 : Int64))), .second, .val (.double FP.dconst0), .second, .val (.long (0 : Int64)), .second, .val (.long (0 : Int64)), .second] [(.double 4602678819172646912), (.ref a)])) rfl (by rw [hml]; rfl) (argsL := [(.double 4602678819172646912)]) (rest := []) pd_DJ rfl rfl (by show 2 * 0 + _ ≤ _; exact Nat.le_of_eq rfl) (hb hby at_273) rfl (by decide) (by decide)
  subst u17 d17
  rw [List.append_nil] at X17
  refine own_go st17 ?_
  show own_Goes p e below (own_End s below _ _) (T17.setTop (mkF m 276 #[.val (.long p1), .second, .val (.long p2), .second, .val (.int p3), .val (.int (0 : Int32)), .val (.int (0 : Int32)), .val (.ref a), .val (.ref a2), .val (.long (own_h 0)), .second, .val (.long (own_h 0)), .second, .val (.double (own_mean (0 : Int64) (0 : Int64))), .second, .val (.long (0 : Int64)), .second, .val (.long (0 : Int64)), .second, .val (.long ((0 : Int64) + (0 : Int64))), .second, .val (.double FP.dconst0), .second, .val (.long (0 : Int64)), .second, .val (.long (0 : Int64)), .second] [(.long (own_h 0))]))
  rw [← e17] at V10 W10 Y10
  refine own_go (fun _ own_k => XS.lload X17.here hx rfl (hb hby at_276) rfl own_k) ?_
  show own_Goes p e below (own_End s below _ _) (T17.setTop (mkF m 278 #[.val (.long p1), .second, .val (.long p2), .second, .val (.int p3), .val (.int (0 : Int32)), .val (.int (0 : Int32)), .val (.ref a), .val (.ref a2), .val (.long (own_h 0)), .second, .val (.long (own_h 0)), .second, .val (.double (own_mean (0 : Int64) (0 : Int64))), .second, .val (.long (0 : Int64)), .second, .val (.long (0 : Int64)), .second, .val (.long ((0 : Int64) + (0 : Int64))), .second, .val (.double FP.dconst0), .second, .val (.long (0 : Int64)), .second, .val (.long (0 : Int64)), .second] [(.long (0 : Int64)), (.long (own_h 0))]))
  refine own_go (fun _ own_k => XS.lcmp X17.here hx rfl (hb hby at_278) rfl own_k) ?_
  show own_Goes p e below (own_End s below _ _) (T17.setTop (mkF m 279 #[.val (.long p1), .second, .val (.long p2), .second, .val (.int p3), .val (.int (0 : Int32)), .val (.int (0 : Int32)), .val (.ref a), .val (.ref a2), .val (.long (own_h 0)), .second, .val (.long (own_h 0)), .second, .val (.double (own_mean (0 : Int64) (0 : Int64))), .second, .val (.long (0 : Int64)), .second, .val (.long (0 : Int64)), .second, .val (.long ((0 : Int64) + (0 : Int64))), .second, .val (.double FP.dconst0), .second, .val (.long (0 : Int64)), .second, .val (.long (0 : Int64)), .second] [(.int (lcmpW (own_h 0) (0 : Int64)))]))
  refine own_go (fun _ own_k => XS.ifNo X17.here hx rfl (hb hby at_279) rfl (by rw [if0]; exact (teq ((lw_eq _ _).mpr (by decide +kernel))).2) own_k) ?_
  show own_Goes p e below (own_End s below _ _) (T17.setTop (mkF m 282 #[.val (.long p1), .second, .val (.long p2), .second, .val (.int p3), .val (.int (0 : Int32)), .val (.int (0 : Int32)), .val (.ref a), .val (.ref a2), .val (.long (own_h 0)), .second, .val (.long (own_h 0)), .second, .val (.double (own_mean (0 : Int64) (0 : Int64))), .second, .val (.long (0 : Int64)), .second, .val (.long (0 : Int64)), .second, .val (.long ((0 : Int64) + (0 : Int64))), .second, .val (.double FP.dconst0), .second, .val (.long (0 : Int64)), .second, .val (.long (0 : Int64)), .second] []))
  refine own_go (fun _ own_k => XS.aload X17.here hx rfl (hb hby at_282) rfl rfl own_k) ?_
  show own_Goes p e below (own_End s below _ _) (T17.setTop (mkF m 284 #[.val (.long p1), .second, .val (.long p2), .second, .val (.int p3), .val (.int (0 : Int32)), .val (.int (0 : Int32)), .val (.ref a), .val (.ref a2), .val (.long (own_h 0)), .second, .val (.long (own_h 0)), .second, .val (.double (own_mean (0 : Int64) (0 : Int64))), .second, .val (.long (0 : Int64)), .second, .val (.long (0 : Int64)), .second, .val (.long ((0 : Int64) + (0 : Int64))), .second, .val (.double FP.dconst0), .second, .val (.long (0 : Int64)), .second, .val (.long (0 : Int64)), .second] [(.ref a2)]))
  obtain ⟨v18, T18, L18, X18, ⟨u18, e18, d18⟩, st18⟩ := own_callV X17 hx hZ (y := own_meaN) (z := own_meaN) hown (hw _ (List.mem_of_getElem? (i := 43) rfl)) (hw _ (List.mem_of_getElem? (i := 44) rfl)) (hw _ (List.mem_of_getElem? (i := 46) rfl)) (hw _ (List.mem_of_getElem? (i := 45) rfl)) (hw _ (List.mem_of_getElem? (i := 2) rfl)) (hw _ (List.mem_of_getElem? (i := 47) rfl)) (notFace_of_selects (args := #[]) (mvT hZ (hw _ (List.mem_of_getElem? (i := 46) rfl)))) (by decide) (own_mea l Z a0 hw _ a2 b2 _ _ _ W10) rfl W10.1 (W := 0) (by decide) (by decide) (g := (mkF m 284 #[.val (.long p1), .second, .val (.long p2), .second, .val (.int p3), .val (.int (0 : Int32)), .val (.int (0 : Int32)), .val (.ref a), .val (.ref a2), .val (.long (own_h 0)), .second, .val (.long (own_h 0)), .second, .val (.double (own_mean (0 : Int64) (0 : Int64))), .second, .val (.long (0 : Int64)), .second, .val (.long (0 : Int64)), .second, .val (.long ((0 : Int64) + (0 : Int64))), .second, .val (.double FP.dconst0), .second, .val (.long (0 : Int64)), .second, .val (.long (0 : Int64)), .second] [(.ref a2)])) rfl (by rw [hml]; rfl) (argsL := []) (rest := []) pd_D rfl rfl (by show 2 * 0 + _ ≤ _; exact Nat.le_of_eq rfl) (hb hby at_284) rfl (by decide) (by decide)
  subst u18 d18
  rw [List.append_nil] at X18
  refine own_go st18 ?_
  show own_Goes p e below (own_End s below _ _) (T18.setTop (mkF m 287 #[.val (.long p1), .second, .val (.long p2), .second, .val (.int p3), .val (.int (0 : Int32)), .val (.int (0 : Int32)), .val (.ref a), .val (.ref a2), .val (.long (own_h 0)), .second, .val (.long (own_h 0)), .second, .val (.double (own_mean (0 : Int64) (0 : Int64))), .second, .val (.long (0 : Int64)), .second, .val (.long (0 : Int64)), .second, .val (.long ((0 : Int64) + (0 : Int64))), .second, .val (.double FP.dconst0), .second, .val (.long (0 : Int64)), .second, .val (.long (0 : Int64)), .second] [(.double (own_mean (0 : Int64) (0 : Int64)))]))
  rw [← e18] at V10 W10 Y10
  refine own_go (fun _ own_k => XS.dload X18.here hx rfl (hb hby at_287) rfl own_k) ?_
  show own_Goes p e below (own_End s below _ _) (T18.setTop (mkF m 289 #[.val (.long p1), .second, .val (.long p2), .second, .val (.int p3), .val (.int (0 : Int32)), .val (.int (0 : Int32)), .val (.ref a), .val (.ref a2), .val (.long (own_h 0)), .second, .val (.long (own_h 0)), .second, .val (.double (own_mean (0 : Int64) (0 : Int64))), .second, .val (.long (0 : Int64)), .second, .val (.long (0 : Int64)), .second, .val (.long ((0 : Int64) + (0 : Int64))), .second, .val (.double FP.dconst0), .second, .val (.long (0 : Int64)), .second, .val (.long (0 : Int64)), .second] [(.double (own_mean (0 : Int64) (0 : Int64))), (.double (own_mean (0 : Int64) (0 : Int64)))]))
  refine own_go (fun _ own_k => XS.dcmpS X18.here hx rfl (hb hby at_289) rfl (dcmpV_eq rfl (own_mean_nn _ _) .l) own_k) ?_
  show own_Goes p e below (own_End s below _ _) (T18.setTop (mkF m 290 #[.val (.long p1), .second, .val (.long p2), .second, .val (.int p3), .val (.int (0 : Int32)), .val (.int (0 : Int32)), .val (.ref a), .val (.ref a2), .val (.long (own_h 0)), .second, .val (.long (own_h 0)), .second, .val (.double (own_mean (0 : Int64) (0 : Int64))), .second, .val (.long (0 : Int64)), .second, .val (.long (0 : Int64)), .second, .val (.long ((0 : Int64) + (0 : Int64))), .second, .val (.double FP.dconst0), .second, .val (.long (0 : Int64)), .second, .val (.long (0 : Int64)), .second] [(.int (0 : Int32))]))
  refine own_go (fun _ own_k => XS.ifNo X18.here hx rfl (hb hby at_290) rfl (by decide) own_k) ?_
  show own_Goes p e below (own_End s below _ _) (T18.setTop (mkF m 293 #[.val (.long p1), .second, .val (.long p2), .second, .val (.int p3), .val (.int (0 : Int32)), .val (.int (0 : Int32)), .val (.ref a), .val (.ref a2), .val (.long (own_h 0)), .second, .val (.long (own_h 0)), .second, .val (.double (own_mean (0 : Int64) (0 : Int64))), .second, .val (.long (0 : Int64)), .second, .val (.long (0 : Int64)), .second, .val (.long ((0 : Int64) + (0 : Int64))), .second, .val (.double FP.dconst0), .second, .val (.long (0 : Int64)), .second, .val (.long (0 : Int64)), .second] []))
  refine own_go (fun _ own_k => XS.aload X18.here hx rfl (hb hby at_293) rfl rfl own_k) ?_
  show own_Goes p e below (own_End s below _ _) (T18.setTop (mkF m 295 #[.val (.long p1), .second, .val (.long p2), .second, .val (.int p3), .val (.int (0 : Int32)), .val (.int (0 : Int32)), .val (.ref a), .val (.ref a2), .val (.long (own_h 0)), .second, .val (.long (own_h 0)), .second, .val (.double (own_mean (0 : Int64) (0 : Int64))), .second, .val (.long (0 : Int64)), .second, .val (.long (0 : Int64)), .second, .val (.long ((0 : Int64) + (0 : Int64))), .second, .val (.double FP.dconst0), .second, .val (.long (0 : Int64)), .second, .val (.long (0 : Int64)), .second] [(.ref a2)]))
  refine own_go (fun _ own_k => XS.dconst1 X18.here hx rfl (hb hby at_295) rfl own_k) ?_
  show own_Goes p e below (own_End s below _ _) (T18.setTop (mkF m 296 #[.val (.long p1), .second, .val (.long p2), .second, .val (.int p3), .val (.int (0 : Int32)), .val (.int (0 : Int32)), .val (.ref a), .val (.ref a2), .val (.long (own_h 0)), .second, .val (.long (own_h 0)), .second, .val (.double (own_mean (0 : Int64) (0 : Int64))), .second, .val (.long (0 : Int64)), .second, .val (.long (0 : Int64)), .second, .val (.long ((0 : Int64) + (0 : Int64))), .second, .val (.double FP.dconst0), .second, .val (.long (0 : Int64)), .second, .val (.long (0 : Int64)), .second] [(.double FP.dconst1), (.ref a2)]))
  obtain ⟨v19, T19, L19, X19, ⟨u19, e19, d19⟩, st19⟩ := own_callV X18 hx hZ (y := own_pctN) (z := own_pctN) hown (hw _ (List.mem_of_getElem? (i := 12) rfl)) (hw _ (List.mem_of_getElem? (i := 13) rfl)) (hw _ (List.mem_of_getElem? (i := 15) rfl)) (hw _ (List.mem_of_getElem? (i := 14) rfl)) (hw _ (List.mem_of_getElem? (i := 2) rfl)) (hw _ (List.mem_of_getElem? (i := 16) rfl)) (notFace_of_selects (args := #[]) (mvT hZ (hw _ (List.mem_of_getElem? (i := 15) rfl)))) (by decide) (own_pct l Z a0 hw _ a2 b2 _ _ _ FP.dconst1 0 0 0 0 W10 own_At_zr (by decide +kernel) own_lit_nn0 (SA.ext Y10.2) own_CE0 (by decide +kernel)) rfl W10.1 (W := 0) (by decide) (by decide) (g := (mkF m 296 #[.val (.long p1), .second, .val (.long p2), .second, .val (.int p3), .val (.int (0 : Int32)), .val (.int (0 : Int32)), .val (.ref a), .val (.ref a2), .val (.long (own_h 0)), .second, .val (.long (own_h 0)), .second, .val (.double (own_mean (0 : Int64) (0 : Int64))), .second, .val (.long (0 : Int64)), .second, .val (.long (0 : Int64)), .second, .val (.long ((0 : Int64) + (0 : Int64))), .second, .val (.double FP.dconst0), .second, .val (.long (0 : Int64)), .second, .val (.long (0 : Int64)), .second] [(.double FP.dconst1), (.ref a2)])) rfl (by rw [hml]; rfl) (argsL := [(.double FP.dconst1)]) (rest := []) pd_DJ rfl rfl (by show 2 * 0 + _ ≤ _; exact Nat.le_of_eq rfl) (hb hby at_296) rfl (by decide) (by decide)
  subst u19 d19
  rw [List.append_nil] at X19
  refine own_go st19 ?_
  show own_Goes p e below (own_End s below _ _) (T19.setTop (mkF m 299 #[.val (.long p1), .second, .val (.long p2), .second, .val (.int p3), .val (.int (0 : Int32)), .val (.int (0 : Int32)), .val (.ref a), .val (.ref a2), .val (.long (own_h 0)), .second, .val (.long (own_h 0)), .second, .val (.double (own_mean (0 : Int64) (0 : Int64))), .second, .val (.long (0 : Int64)), .second, .val (.long (0 : Int64)), .second, .val (.long ((0 : Int64) + (0 : Int64))), .second, .val (.double FP.dconst0), .second, .val (.long (0 : Int64)), .second, .val (.long (0 : Int64)), .second] [(.long (own_h 0))]))
  refine own_go (fun _ own_k => XS.lload X19.here hx rfl (hb hby at_299) rfl own_k) ?_
  show own_Goes p e below (own_End s below _ _) (T19.setTop (mkF m 301 #[.val (.long p1), .second, .val (.long p2), .second, .val (.int p3), .val (.int (0 : Int32)), .val (.int (0 : Int32)), .val (.ref a), .val (.ref a2), .val (.long (own_h 0)), .second, .val (.long (own_h 0)), .second, .val (.double (own_mean (0 : Int64) (0 : Int64))), .second, .val (.long (0 : Int64)), .second, .val (.long (0 : Int64)), .second, .val (.long ((0 : Int64) + (0 : Int64))), .second, .val (.double FP.dconst0), .second, .val (.long (0 : Int64)), .second, .val (.long (0 : Int64)), .second] [(.long (own_h 0)), (.long (own_h 0))]))
  refine own_go (fun _ own_k => XS.lcmp X19.here hx rfl (hb hby at_301) rfl own_k) ?_
  show own_Goes p e below (own_End s below _ _) (T19.setTop (mkF m 302 #[.val (.long p1), .second, .val (.long p2), .second, .val (.int p3), .val (.int (0 : Int32)), .val (.int (0 : Int32)), .val (.ref a), .val (.ref a2), .val (.long (own_h 0)), .second, .val (.long (own_h 0)), .second, .val (.double (own_mean (0 : Int64) (0 : Int64))), .second, .val (.long (0 : Int64)), .second, .val (.long (0 : Int64)), .second, .val (.long ((0 : Int64) + (0 : Int64))), .second, .val (.double FP.dconst0), .second, .val (.long (0 : Int64)), .second, .val (.long (0 : Int64)), .second] [(.int (lcmpW (own_h 0) (own_h 0)))]))
  refine own_go (fun _ own_k => XS.ifNo X19.here hx rfl (hb hby at_302) rfl (by rw [if0]; exact (teq ((lw_eq _ _).mpr rfl)).2) own_k) ?_
  show own_Goes p e below (own_End s below _ _) (T19.setTop (mkF m 305 #[.val (.long p1), .second, .val (.long p2), .second, .val (.int p3), .val (.int (0 : Int32)), .val (.int (0 : Int32)), .val (.ref a), .val (.ref a2), .val (.long (own_h 0)), .second, .val (.long (own_h 0)), .second, .val (.double (own_mean (0 : Int64) (0 : Int64))), .second, .val (.long (0 : Int64)), .second, .val (.long (0 : Int64)), .second, .val (.long ((0 : Int64) + (0 : Int64))), .second, .val (.double FP.dconst0), .second, .val (.long (0 : Int64)), .second, .val (.long (0 : Int64)), .second] []))
  refine own_go (fun _ own_k => XS.iconst X19.here hx rfl (hb hby at_305) own_k) ?_
  show own_Goes p e below (own_End s below _ _) (T19.setTop (mkF m 306 #[.val (.long p1), .second, .val (.long p2), .second, .val (.int p3), .val (.int (0 : Int32)), .val (.int (0 : Int32)), .val (.ref a), .val (.ref a2), .val (.long (own_h 0)), .second, .val (.long (own_h 0)), .second, .val (.double (own_mean (0 : Int64) (0 : Int64))), .second, .val (.long (0 : Int64)), .second, .val (.long (0 : Int64)), .second, .val (.long ((0 : Int64) + (0 : Int64))), .second, .val (.double FP.dconst0), .second, .val (.long (0 : Int64)), .second, .val (.long (0 : Int64)), .second] [(.int (1 : Int32))]))
  refine own_go (fun _ own_k => XS.goto X19.here hx rfl (pc0 := 306) (pc' := 310) rfl (hb hby at_306) (by decide) (by decide) own_k) ?_
  show own_Goes p e below (own_End s below _ _) (T19.setTop (mkF m 310 #[.val (.long p1), .second, .val (.long p2), .second, .val (.int p3), .val (.int (0 : Int32)), .val (.int (0 : Int32)), .val (.ref a), .val (.ref a2), .val (.long (own_h 0)), .second, .val (.long (own_h 0)), .second, .val (.double (own_mean (0 : Int64) (0 : Int64))), .second, .val (.long (0 : Int64)), .second, .val (.long (0 : Int64)), .second, .val (.long ((0 : Int64) + (0 : Int64))), .second, .val (.double FP.dconst0), .second, .val (.long (0 : Int64)), .second, .val (.long (0 : Int64)), .second] [(.int (1 : Int32))]))
  exact own_retZ X19 hx Bd.notSynchronized Bd.returns rfl (hb hby at_310) ⟨rfl, N10⟩ (by decide) (by decide)
set_option maxRecDepth 65536 in
set_option maxHeartbeats 40000000 in
theorem own_case01 (l : Launch) (Z : State) (a0 : Array Value) (hw : ∀ d ∈ tables_1, d.before a0 Z = true) (ws : List Jvm.Cond) (p1 p2 : Int64) (p3 : Int32) (h0 : Heap) (n0 : Nat) (Z0 : n0 ≤ h0.size) (SA : Sta Z Z.heap "java/lang/StrictMath" "$assertionsDisabled" "Z" (.int 1)) (O0 : Old Z n0 h0) (p : Program) (e : Env) (s : State) (m : MethodId) (below : List Frame) (meth : Method) (c : Code) (s₁ : State)
    (Bd : BodyLoose p l x (head1 (Jvm.Cond.code x code maxLocals ret :: ws) room_1) code maxLocals ret e s m #[(.long p1), (.long p2), (.int p3)] below meth c s₁) (hml : c.maxLocals = maxLocals) (hZ : Z.Warmed39 s.vm) (e0 : s₁.heap = h0) :
    own_Goes p e below (own_End s below room_1 (own_Q n0)) (s₁.setTop (mkF m 28 #[.val (.long p1), .second, .val (.long p2), .second, .val (.int p3), .val (.int (0 : Int32)), .val (.int (1 : Int32)), .unset, .unset, .unset, .unset, .unset, .unset, .unset, .unset, .unset, .unset, .unset, .unset, .unset, .unset, .unset, .unset, .unset, .unset, .unset, .unset] [])) := by
  have hx := Bd.exec
  have hby := Bd.bytes
  have hown : s.vm.findClass "com/example/holdfast/holdfast/cli/LatencyHistogramAddPinLaw" = some m.cls := findClass_of_methodNamed Bd.named
  have X0 : Stand p l e room_1 s m #[(.long p1), (.long p2), (.int p3)] below meth c s₁ [] 0 0 := Stand.of_body Bd
  show own_Goes p e below (own_End s below _ _) (s₁.setTop (mkF m 28 #[.val (.long p1), .second, .val (.long p2), .second, .val (.int p3), .val (.int (0 : Int32)), .val (.int (1 : Int32)), .unset, .unset, .unset, .unset, .unset, .unset, .unset, .unset, .unset, .unset, .unset, .unset, .unset, .unset, .unset, .unset, .unset, .unset, .unset, .unset] []))
  have Zp1 := Z0
  obtain ⟨T1, h1, X1, e1, E1, A1, D1, -, st1⟩ := newO X0 hx hZ hown (hw _ (List.mem_of_getElem? (i := 0) rfl)) (hw _ (List.mem_of_getElem? (i := 1) rfl)) (hw _ (List.mem_of_getElem? (i := 2) rfl)) e0 (g := (mkF m 28 #[.val (.long p1), .second, .val (.long p2), .second, .val (.int p3), .val (.int (0 : Int32)), .val (.int (1 : Int32)), .unset, .unset, .unset, .unset, .unset, .unset, .unset, .unset, .unset, .unset, .unset, .unset, .unset, .unset, .unset, .unset, .unset, .unset, .unset, .unset] [])) rfl (hb hby at_28) (by decide) (by decide)
  obtain ⟨a, ga⟩ : ∃ z, z = h0.size := ⟨_, rfl⟩
  rw [← ga] at A1 D1 st1
  have na : n0 ≤ a := by rw [ga]; exact Zp1
  have Zp2 : n0 ≤ h1.size := Nat.le_trans Zp1 E1.1
  refine own_go st1 ?_
  show own_Goes p e below (own_End s below _ _) (T1.setTop (mkF m 31 #[.val (.long p1), .second, .val (.long p2), .second, .val (.int p3), .val (.int (0 : Int32)), .val (.int (1 : Int32)), .unset, .unset, .unset, .unset, .unset, .unset, .unset, .unset, .unset, .unset, .unset, .unset, .unset, .unset, .unset, .unset, .unset, .unset, .unset, .unset] [(.ref a)]))
  refine own_go (fun _ own_k => XS.dup X1.here hx rfl (hb hby at_31) rfl rfl own_k) ?_
  show own_Goes p e below (own_End s below _ _) (T1.setTop (mkF m 32 #[.val (.long p1), .second, .val (.long p2), .second, .val (.int p3), .val (.int (0 : Int32)), .val (.int (1 : Int32)), .unset, .unset, .unset, .unset, .unset, .unset, .unset, .unset, .unset, .unset, .unset, .unset, .unset, .unset, .unset, .unset, .unset, .unset, .unset, .unset] [(.ref a), (.ref a)]))
  obtain ⟨v2, T2, L2, X2, ⟨u2, M2, K2, b, gb, Ha⟩, st2⟩ := own_callI X1 hx hZ (y := own_iniN) rfl hown (hw _ (List.mem_of_getElem? (i := 3) rfl)) (hw _ (List.mem_of_getElem? (i := 4) rfl)) (hw _ (List.mem_of_getElem? (i := 2) rfl)) (hw _ (List.mem_of_getElem? (i := 5) rfl)) (by decide) (own_ini l Z a0 hw h1 n0 a Zp2 na A1 (D1 (Or.inr (hw _ (List.mem_of_getElem? (i := 11) rfl))) (ty := .array .long) (by decide)) (D1 (Or.inl (hw _ (List.mem_of_getElem? (i := 18) rfl))) (ty := .long) (by decide)) (D1 (Or.inl (hw _ (List.mem_of_getElem? (i := 54) rfl))) (ty := .long) (by decide))) e1 (W := 1) (by decide) (by decide) (g := (mkF m 32 #[.val (.long p1), .second, .val (.long p2), .second, .val (.int p3), .val (.int (0 : Int32)), .val (.int (1 : Int32)), .unset, .unset, .unset, .unset, .unset, .unset, .unset, .unset, .unset, .unset, .unset, .unset, .unset, .unset, .unset, .unset, .unset, .unset, .unset, .unset] [(.ref a), (.ref a)])) rfl (by rw [hml]; rfl) (a := a) (argsL := []) (rest := [(.ref a)]) pd_V rfl rfl (by show 2 * 0 + _ ≤ _; exact Nat.le_of_eq rfl) (hb hby at_32) rfl (by decide) (by decide)
  subst u2
  have N2 := Fr.app (Fr.nil n0) M2
  have nb : n0 ≤ b := Nat.le_trans Zp2 gb
  have Y2 := (O0.ext E1).keep K2 (allS na all0)
  have Zp3 : n0 ≤ T2.heap.size := Nat.le_trans Zp2 K2.1
  refine own_go st2 ?_
  show own_Goes p e below (own_End s below _ _) (T2.setTop (mkF m 35 #[.val (.long p1), .second, .val (.long p2), .second, .val (.int p3), .val (.int (0 : Int32)), .val (.int (1 : Int32)), .unset, .unset, .unset, .unset, .unset, .unset, .unset, .unset, .unset, .unset, .unset, .unset, .unset, .unset, .unset, .unset, .unset, .unset, .unset, .unset] [(.ref a)]))
  refine own_go (fun _ own_k => XS.astore X2.here hx rfl (hb hby at_35) rfl rfl (l' := #[.val (.long p1), .second, .val (.long p2), .second, .val (.int p3), .val (.int (0 : Int32)), .val (.int (1 : Int32)), .val (.ref a), .unset, .unset, .unset, .unset, .unset, .unset, .unset, .unset, .unset, .unset, .unset, .unset, .unset, .unset, .unset, .unset, .unset, .unset, .unset]) rfl own_k) ?_
  show own_Goes p e below (own_End s below _ _) (T2.setTop (mkF m 37 #[.val (.long p1), .second, .val (.long p2), .second, .val (.int p3), .val (.int (0 : Int32)), .val (.int (1 : Int32)), .val (.ref a), .unset, .unset, .unset, .unset, .unset, .unset, .unset, .unset, .unset, .unset, .unset, .unset, .unset, .unset, .unset, .unset, .unset, .unset, .unset] []))
  have lt1 := own_H_lt Ha
  obtain ⟨T3, h3, X3, e3, E3, A3, D3, -, st3⟩ := newO X2 hx hZ hown (hw _ (List.mem_of_getElem? (i := 0) rfl)) (hw _ (List.mem_of_getElem? (i := 1) rfl)) (hw _ (List.mem_of_getElem? (i := 2) rfl)) rfl (g := (mkF m 37 #[.val (.long p1), .second, .val (.long p2), .second, .val (.int p3), .val (.int (0 : Int32)), .val (.int (1 : Int32)), .val (.ref a), .unset, .unset, .unset, .unset, .unset, .unset, .unset, .unset, .unset, .unset, .unset, .unset, .unset, .unset, .unset, .unset, .unset, .unset, .unset] [])) rfl (hb hby at_37) (by decide) (by decide)
  obtain ⟨a2, ga2⟩ : ∃ z, z = T2.heap.size := ⟨_, rfl⟩
  rw [← ga2] at A3 D3 st3
  have na2 : n0 ≤ a2 := by rw [ga2]; exact Zp3
  have Zp4 : n0 ≤ h3.size := Nat.le_trans Zp3 E3.1
  refine own_go st3 ?_
  show own_Goes p e below (own_End s below _ _) (T3.setTop (mkF m 40 #[.val (.long p1), .second, .val (.long p2), .second, .val (.int p3), .val (.int (0 : Int32)), .val (.int (1 : Int32)), .val (.ref a), .unset, .unset, .unset, .unset, .unset, .unset, .unset, .unset, .unset, .unset, .unset, .unset, .unset, .unset, .unset, .unset, .unset, .unset, .unset] [(.ref a2)]))
  refine own_go (fun _ own_k => XS.dup X3.here hx rfl (hb hby at_40) rfl rfl own_k) ?_
  show own_Goes p e below (own_End s below _ _) (T3.setTop (mkF m 41 #[.val (.long p1), .second, .val (.long p2), .second, .val (.int p3), .val (.int (0 : Int32)), .val (.int (1 : Int32)), .val (.ref a), .unset, .unset, .unset, .unset, .unset, .unset, .unset, .unset, .unset, .unset, .unset, .unset, .unset, .unset, .unset, .unset, .unset, .unset, .unset] [(.ref a2), (.ref a2)]))
  obtain ⟨v4, T4, L4, X4, ⟨u4, M4, K4, b2, gb2, Hb⟩, st4⟩ := own_callI X3 hx hZ (y := own_iniN) rfl hown (hw _ (List.mem_of_getElem? (i := 3) rfl)) (hw _ (List.mem_of_getElem? (i := 4) rfl)) (hw _ (List.mem_of_getElem? (i := 2) rfl)) (hw _ (List.mem_of_getElem? (i := 5) rfl)) (by decide) (own_ini l Z a0 hw h3 n0 a2 Zp4 na2 A3 (D3 (Or.inr (hw _ (List.mem_of_getElem? (i := 11) rfl))) (ty := .array .long) (by decide)) (D3 (Or.inl (hw _ (List.mem_of_getElem? (i := 18) rfl))) (ty := .long) (by decide)) (D3 (Or.inl (hw _ (List.mem_of_getElem? (i := 54) rfl))) (ty := .long) (by decide))) e3 (W := 1) (by decide) (by decide) (g := (mkF m 41 #[.val (.long p1), .second, .val (.long p2), .second, .val (.int p3), .val (.int (0 : Int32)), .val (.int (1 : Int32)), .val (.ref a), .unset, .unset, .unset, .unset, .unset, .unset, .unset, .unset, .unset, .unset, .unset, .unset, .unset, .unset, .unset, .unset, .unset, .unset, .unset] [(.ref a2), (.ref a2)])) rfl (by rw [hml]; rfl) (a := a2) (argsL := []) (rest := [(.ref a2)]) pd_V rfl rfl (by show 2 * 0 + _ ≤ _; exact Nat.le_of_eq rfl) (hb hby at_41) rfl (by decide) (by decide)
  subst u4
  have N4 := Fr.app N2 M4
  have nb2 : n0 ≤ b2 := Nat.le_trans Zp4 gb2
  have Y4 := (Y2.ext E3).keep K4 (allS na2 all0)
  have Zp5 : n0 ≤ T4.heap.size := Nat.le_trans Zp4 K4.1
  refine own_go st4 ?_
  show own_Goes p e below (own_End s below _ _) (T4.setTop (mkF m 44 #[.val (.long p1), .second, .val (.long p2), .second, .val (.int p3), .val (.int (0 : Int32)), .val (.int (1 : Int32)), .val (.ref a), .unset, .unset, .unset, .unset, .unset, .unset, .unset, .unset, .unset, .unset, .unset, .unset, .unset, .unset, .unset, .unset, .unset, .unset, .unset] [(.ref a2)]))
  have nea : a ∉ [a2] ∧ b ∉ [a2] := ⟨ninS (by rw [ga2]; exact Nat.ne_of_lt lt1.1) nin0, ninS (by rw [ga2]; exact Nat.ne_of_lt lt1.2) nin0⟩
  have Ha3 : own_H Z h3 a b (fun _ => 0) 0 0 := own_H_keep Ha ((Keep.refl _ ([] : List Addr)).ext E3) nin0 nin0
  have Ha4 : own_H Z T4.heap a b (fun _ => 0) 0 0 := own_H_keep Ha3 K4 nea.1 nea.2
  have lt3 := own_H_lt Ha3
  have q1 : a2 ∉ [a, b] := ninS (by rw [ga2]; exact (Nat.ne_of_lt lt1.1).symm) (ninS (by rw [ga2]; exact (Nat.ne_of_lt lt1.2).symm) nin0)
  have q2 : b2 ∉ [a, b] := ninS (Nat.ne_of_gt (Nat.lt_of_lt_of_le lt3.1 gb2)) (ninS (Nat.ne_of_gt (Nat.lt_of_lt_of_le lt3.2 gb2)) nin0)
  have q3 : a ∉ [a2, b2] := ninS (by rw [ga2]; exact Nat.ne_of_lt lt1.1) (ninS (Nat.ne_of_lt (Nat.lt_of_lt_of_le lt3.1 gb2)) nin0)
  have q4 : b ∉ [a2, b2] := ninS (by rw [ga2]; exact Nat.ne_of_lt lt1.2) (ninS (Nat.ne_of_lt (Nat.lt_of_lt_of_le lt3.2 gb2)) nin0)
  refine own_go (fun _ own_k => XS.astore X4.here hx rfl (hb hby at_44) rfl rfl (l' := #[.val (.long p1), .second, .val (.long p2), .second, .val (.int p3), .val (.int (0 : Int32)), .val (.int (1 : Int32)), .val (.ref a), .val (.ref a2), .unset, .unset, .unset, .unset, .unset, .unset, .unset, .unset, .unset, .unset, .unset, .unset, .unset, .unset, .unset, .unset, .unset, .unset]) rfl own_k) ?_
  show own_Goes p e below (own_End s below _ _) (T4.setTop (mkF m 46 #[.val (.long p1), .second, .val (.long p2), .second, .val (.int p3), .val (.int (0 : Int32)), .val (.int (1 : Int32)), .val (.ref a), .val (.ref a2), .unset, .unset, .unset, .unset, .unset, .unset, .unset, .unset, .unset, .unset, .unset, .unset, .unset, .unset, .unset, .unset, .unset, .unset] []))
  refine own_go (fun _ own_k => XS.iload X4.here hx rfl (hb hby at_46) rfl own_k) ?_
  show own_Goes p e below (own_End s below _ _) (T4.setTop (mkF m 48 #[.val (.long p1), .second, .val (.long p2), .second, .val (.int p3), .val (.int (0 : Int32)), .val (.int (1 : Int32)), .val (.ref a), .val (.ref a2), .unset, .unset, .unset, .unset, .unset, .unset, .unset, .unset, .unset, .unset, .unset, .unset, .unset, .unset, .unset, .unset, .unset, .unset] [(.int (0 : Int32))]))
  refine own_go (fun _ own_k => XS.ifYes X4.here hx rfl (pc0 := 48) (pc' := 57) rfl (hb hby at_48) rfl (by decide) (by decide) (by decide) own_k) ?_
  show own_Goes p e below (own_End s below _ _) (T4.setTop (mkF m 57 #[.val (.long p1), .second, .val (.long p2), .second, .val (.int p3), .val (.int (0 : Int32)), .val (.int (1 : Int32)), .val (.ref a), .val (.ref a2), .unset, .unset, .unset, .unset, .unset, .unset, .unset, .unset, .unset, .unset, .unset, .unset, .unset, .unset, .unset, .unset, .unset, .unset] []))
  refine own_go (fun _ own_k => XS.iload X4.here hx rfl (hb hby at_57) rfl own_k) ?_
  show own_Goes p e below (own_End s below _ _) (T4.setTop (mkF m 59 #[.val (.long p1), .second, .val (.long p2), .second, .val (.int p3), .val (.int (0 : Int32)), .val (.int (1 : Int32)), .val (.ref a), .val (.ref a2), .unset, .unset, .unset, .unset, .unset, .unset, .unset, .unset, .unset, .unset, .unset, .unset, .unset, .unset, .unset, .unset, .unset, .unset] [(.int (1 : Int32))]))
  refine own_go (fun _ own_k => XS.ifNo X4.here hx rfl (hb hby at_59) rfl (by decide) own_k) ?_
  show own_Goes p e below (own_End s below _ _) (T4.setTop (mkF m 62 #[.val (.long p1), .second, .val (.long p2), .second, .val (.int p3), .val (.int (0 : Int32)), .val (.int (1 : Int32)), .val (.ref a), .val (.ref a2), .unset, .unset, .unset, .unset, .unset, .unset, .unset, .unset, .unset, .unset, .unset, .unset, .unset, .unset, .unset, .unset, .unset, .unset] []))
  refine own_go (fun _ own_k => XS.aload X4.here hx rfl (hb hby at_62) rfl rfl own_k) ?_
  show own_Goes p e below (own_End s below _ _) (T4.setTop (mkF m 64 #[.val (.long p1), .second, .val (.long p2), .second, .val (.int p3), .val (.int (0 : Int32)), .val (.int (1 : Int32)), .val (.ref a), .val (.ref a2), .unset, .unset, .unset, .unset, .unset, .unset, .unset, .unset, .unset, .unset, .unset, .unset, .unset, .unset, .unset, .unset, .unset, .unset] [(.ref a2)]))
  refine own_go (fun _ own_k => XS.lloadN X4.here hx rfl (hb hby at_64) rfl own_k) ?_
  show own_Goes p e below (own_End s below _ _) (T4.setTop (mkF m 65 #[.val (.long p1), .second, .val (.long p2), .second, .val (.int p3), .val (.int (0 : Int32)), .val (.int (1 : Int32)), .val (.ref a), .val (.ref a2), .unset, .unset, .unset, .unset, .unset, .unset, .unset, .unset, .unset, .unset, .unset, .unset, .unset, .unset, .unset, .unset, .unset, .unset] [(.long p2), (.ref a2)]))
  obtain ⟨v6, T6, L6, X6, ⟨u6, M6, K6, kb, kbl, G6⟩, st6⟩ := own_callV X4 hx hZ (y := own_recN) (z := own_recN) hown (hw _ (List.mem_of_getElem? (i := 56) rfl)) (hw _ (List.mem_of_getElem? (i := 57) rfl)) (hw _ (List.mem_of_getElem? (i := 59) rfl)) (hw _ (List.mem_of_getElem? (i := 58) rfl)) (hw _ (List.mem_of_getElem? (i := 2) rfl)) (hw _ (List.mem_of_getElem? (i := 60) rfl)) (notFace_of_selects (args := #[]) (mvT hZ (hw _ (List.mem_of_getElem? (i := 59) rfl)))) (by decide) (own_rec l Z a0 hw _ n0 a2 b2 _ _ _ p2 na2 nb2 Hb) rfl Hb.1 (W := 0) (by decide) (by decide) (g := (mkF m 65 #[.val (.long p1), .second, .val (.long p2), .second, .val (.int p3), .val (.int (0 : Int32)), .val (.int (1 : Int32)), .val (.ref a), .val (.ref a2), .unset, .unset, .unset, .unset, .unset, .unset, .unset, .unset, .unset, .unset, .unset, .unset, .unset, .unset, .unset, .unset, .unset, .unset] [(.long p2), (.ref a2)])) rfl (by rw [hml]; rfl) (argsL := [(.long p2)]) (rest := []) pd_JV rfl rfl (by show 2 * 0 + _ ≤ _; exact Nat.le_of_eq rfl) (hb hby at_65) rfl (by decide) (by decide)
  subst u6
  have N6 := Fr.app N4 M6
  have Y6 := Y4.keep K6 (allS na2 (allS nb2 all0))
  have O6 := own_H_keep Ha4 K6 q3 q4
  have Q6 := own_H_congr G6 (f' := own_dl kb) (fun t _ => own_dl_of kb t)
  refine own_go st6 ?_
  show own_Goes p e below (own_End s below _ _) (T6.setTop (mkF m 68 #[.val (.long p1), .second, .val (.long p2), .second, .val (.int p3), .val (.int (0 : Int32)), .val (.int (1 : Int32)), .val (.ref a), .val (.ref a2), .unset, .unset, .unset, .unset, .unset, .unset, .unset, .unset, .unset, .unset, .unset, .unset, .unset, .unset, .unset, .unset, .unset, .unset] []))
  have Ua : own_H Z T6.heap a b own_zr (0 : Int64) (0 : Int64) := O6
  have Ub : own_H Z T6.heap a2 b2 (own_dl kb) ((0 : Int64) + 1) ((0 : Int64) + (own_maxJ (0 : Int64) p2)) := Q6
  refine own_go (fun _ own_k => XS.aload X6.here hx rfl (hb hby at_68) rfl rfl own_k) ?_
  show own_Goes p e below (own_End s below _ _) (T6.setTop (mkF m 70 #[.val (.long p1), .second, .val (.long p2), .second, .val (.int p3), .val (.int (0 : Int32)), .val (.int (1 : Int32)), .val (.ref a), .val (.ref a2), .unset, .unset, .unset, .unset, .unset, .unset, .unset, .unset, .unset, .unset, .unset, .unset, .unset, .unset, .unset, .unset, .unset, .unset] [(.ref a)]))
  refine own_go (fun _ own_k => XS.dconst1 X6.here hx rfl (hb hby at_70) rfl own_k) ?_
  show own_Goes p e below (own_End s below _ _) (T6.setTop (mkF m 71 #[.val (.long p1), .second, .val (.long p2), .second, .val (.int p3), .val (.int (0 : Int32)), .val (.int (1 : Int32)), .val (.ref a), .val (.ref a2), .unset, .unset, .unset, .unset, .unset, .unset, .unset, .unset, .unset, .unset, .unset, .unset, .unset, .unset, .unset, .unset, .unset, .unset] [(.double FP.dconst1), (.ref a)]))
  obtain ⟨v7, T7, L7, X7, ⟨u7, e7, d7⟩, st7⟩ := own_callV X6 hx hZ (y := own_pctN) (z := own_pctN) hown (hw _ (List.mem_of_getElem? (i := 12) rfl)) (hw _ (List.mem_of_getElem? (i := 13) rfl)) (hw _ (List.mem_of_getElem? (i := 15) rfl)) (hw _ (List.mem_of_getElem? (i := 14) rfl)) (hw _ (List.mem_of_getElem? (i := 2) rfl)) (hw _ (List.mem_of_getElem? (i := 16) rfl)) (notFace_of_selects (args := #[]) (mvT hZ (hw _ (List.mem_of_getElem? (i := 15) rfl)))) (by decide) (own_pct l Z a0 hw _ a b _ _ _ FP.dconst1 0 0 0 0 Ua own_At_zr (by decide +kernel) own_lit_nn0 (SA.ext Y6.2) own_CE0 (by decide +kernel)) rfl Ua.1 (W := 0) (by decide) (by decide) (g := (mkF m 71 #[.val (.long p1), .second, .val (.long p2), .second, .val (.int p3), .val (.int (0 : Int32)), .val (.int (1 : Int32)), .val (.ref a), .val (.ref a2), .unset, .unset, .unset, .unset, .unset, .unset, .unset, .unset, .unset, .unset, .unset, .unset, .unset, .unset, .unset, .unset, .unset, .unset] [(.double FP.dconst1), (.ref a)])) rfl (by rw [hml]; rfl) (argsL := [(.double FP.dconst1)]) (rest := []) pd_DJ rfl rfl (by show 2 * 0 + _ ≤ _; exact Nat.le_of_eq rfl) (hb hby at_71) rfl (by decide) (by decide)
  subst u7 d7
  rw [List.append_nil] at X7
  refine own_go st7 ?_
  show own_Goes p e below (own_End s below _ _) (T7.setTop (mkF m 74 #[.val (.long p1), .second, .val (.long p2), .second, .val (.int p3), .val (.int (0 : Int32)), .val (.int (1 : Int32)), .val (.ref a), .val (.ref a2), .unset, .unset, .unset, .unset, .unset, .unset, .unset, .unset, .unset, .unset, .unset, .unset, .unset, .unset, .unset, .unset, .unset, .unset] [(.long (own_h 0))]))
  rw [← e7] at Ua Ub Y6
  refine own_go (fun _ own_k => XS.lstore X7.here hx rfl (hb hby at_74) rfl (l' := #[.val (.long p1), .second, .val (.long p2), .second, .val (.int p3), .val (.int (0 : Int32)), .val (.int (1 : Int32)), .val (.ref a), .val (.ref a2), .val (.long (own_h 0)), .second, .unset, .unset, .unset, .unset, .unset, .unset, .unset, .unset, .unset, .unset, .unset, .unset, .unset, .unset, .unset, .unset]) rfl own_k) ?_
  show own_Goes p e below (own_End s below _ _) (T7.setTop (mkF m 76 #[.val (.long p1), .second, .val (.long p2), .second, .val (.int p3), .val (.int (0 : Int32)), .val (.int (1 : Int32)), .val (.ref a), .val (.ref a2), .val (.long (own_h 0)), .second, .unset, .unset, .unset, .unset, .unset, .unset, .unset, .unset, .unset, .unset, .unset, .unset, .unset, .unset, .unset, .unset] []))
  refine own_go (fun _ own_k => XS.aload X7.here hx rfl (hb hby at_76) rfl rfl own_k) ?_
  show own_Goes p e below (own_End s below _ _) (T7.setTop (mkF m 78 #[.val (.long p1), .second, .val (.long p2), .second, .val (.int p3), .val (.int (0 : Int32)), .val (.int (1 : Int32)), .val (.ref a), .val (.ref a2), .val (.long (own_h 0)), .second, .unset, .unset, .unset, .unset, .unset, .unset, .unset, .unset, .unset, .unset, .unset, .unset, .unset, .unset, .unset, .unset] [(.ref a2)]))
  refine own_go (fun _ own_k => XS.dconst1 X7.here hx rfl (hb hby at_78) rfl own_k) ?_
  show own_Goes p e below (own_End s below _ _) (T7.setTop (mkF m 79 #[.val (.long p1), .second, .val (.long p2), .second, .val (.int p3), .val (.int (0 : Int32)), .val (.int (1 : Int32)), .val (.ref a), .val (.ref a2), .val (.long (own_h 0)), .second, .unset, .unset, .unset, .unset, .unset, .unset, .unset, .unset, .unset, .unset, .unset, .unset, .unset, .unset, .unset, .unset] [(.double FP.dconst1), (.ref a2)]))
  obtain ⟨v8, T8, L8, X8, ⟨u8, e8, d8⟩, st8⟩ := own_callV X7 hx hZ (y := own_pctN) (z := own_pctN) hown (hw _ (List.mem_of_getElem? (i := 12) rfl)) (hw _ (List.mem_of_getElem? (i := 13) rfl)) (hw _ (List.mem_of_getElem? (i := 15) rfl)) (hw _ (List.mem_of_getElem? (i := 14) rfl)) (hw _ (List.mem_of_getElem? (i := 2) rfl)) (hw _ (List.mem_of_getElem? (i := 16) rfl)) (notFace_of_selects (args := #[]) (mvT hZ (hw _ (List.mem_of_getElem? (i := 15) rfl)))) (by decide) (own_pct l Z a0 hw _ a2 b2 _ _ _ FP.dconst1 4607182418800017408 4607182418800017408 1 kb Ub (own_At_dl kbl) (by decide +kernel) own_lit_nn1 (SA.ext Y6.2) own_CE1 (by decide +kernel)) rfl Ub.1 (W := 0) (by decide) (by decide) (g := (mkF m 79 #[.val (.long p1), .second, .val (.long p2), .second, .val (.int p3), .val (.int (0 : Int32)), .val (.int (1 : Int32)), .val (.ref a), .val (.ref a2), .val (.long (own_h 0)), .second, .unset, .unset, .unset, .unset, .unset, .unset, .unset, .unset, .unset, .unset, .unset, .unset, .unset, .unset, .unset, .unset] [(.double FP.dconst1), (.ref a2)])) rfl (by rw [hml]; rfl) (argsL := [(.double FP.dconst1)]) (rest := []) pd_DJ rfl rfl (by show 2 * 0 + _ ≤ _; exact Nat.le_of_eq rfl) (hb hby at_79) rfl (by decide) (by decide)
  subst u8 d8
  rw [List.append_nil] at X8
  refine own_go st8 ?_
  show own_Goes p e below (own_End s below _ _) (T8.setTop (mkF m 82 #[.val (.long p1), .second, .val (.long p2), .second, .val (.int p3), .val (.int (0 : Int32)), .val (.int (1 : Int32)), .val (.ref a), .val (.ref a2), .val (.long (own_h 0)), .second, .unset, .unset, .unset, .unset, .unset, .unset, .unset, .unset, .unset, .unset, .unset, .unset, .unset, .unset, .unset, .unset] [(.long (own_h kb))]))
  rw [← e8] at Ua Ub Y6
  refine own_go (fun _ own_k => XS.lstore X8.here hx rfl (hb hby at_82) rfl (l' := #[.val (.long p1), .second, .val (.long p2), .second, .val (.int p3), .val (.int (0 : Int32)), .val (.int (1 : Int32)), .val (.ref a), .val (.ref a2), .val (.long (own_h 0)), .second, .val (.long (own_h kb)), .second, .unset, .unset, .unset, .unset, .unset, .unset, .unset, .unset, .unset, .unset, .unset, .unset, .unset, .unset]) rfl own_k) ?_
  show own_Goes p e below (own_End s below _ _) (T8.setTop (mkF m 84 #[.val (.long p1), .second, .val (.long p2), .second, .val (.int p3), .val (.int (0 : Int32)), .val (.int (1 : Int32)), .val (.ref a), .val (.ref a2), .val (.long (own_h 0)), .second, .val (.long (own_h kb)), .second, .unset, .unset, .unset, .unset, .unset, .unset, .unset, .unset, .unset, .unset, .unset, .unset, .unset, .unset] []))
  refine own_go (fun _ own_k => XS.aload X8.here hx rfl (hb hby at_84) rfl rfl own_k) ?_
  show own_Goes p e below (own_End s below _ _) (T8.setTop (mkF m 86 #[.val (.long p1), .second, .val (.long p2), .second, .val (.int p3), .val (.int (0 : Int32)), .val (.int (1 : Int32)), .val (.ref a), .val (.ref a2), .val (.long (own_h 0)), .second, .val (.long (own_h kb)), .second, .unset, .unset, .unset, .unset, .unset, .unset, .unset, .unset, .unset, .unset, .unset, .unset, .unset, .unset] [(.ref a2)]))
  obtain ⟨v9, T9, L9, X9, ⟨u9, e9, d9⟩, st9⟩ := own_callV X8 hx hZ (y := own_meaN) (z := own_meaN) hown (hw _ (List.mem_of_getElem? (i := 43) rfl)) (hw _ (List.mem_of_getElem? (i := 44) rfl)) (hw _ (List.mem_of_getElem? (i := 46) rfl)) (hw _ (List.mem_of_getElem? (i := 45) rfl)) (hw _ (List.mem_of_getElem? (i := 2) rfl)) (hw _ (List.mem_of_getElem? (i := 47) rfl)) (notFace_of_selects (args := #[]) (mvT hZ (hw _ (List.mem_of_getElem? (i := 46) rfl)))) (by decide) (own_mea l Z a0 hw _ a2 b2 _ _ _ Ub) rfl Ub.1 (W := 0) (by decide) (by decide) (g := (mkF m 86 #[.val (.long p1), .second, .val (.long p2), .second, .val (.int p3), .val (.int (0 : Int32)), .val (.int (1 : Int32)), .val (.ref a), .val (.ref a2), .val (.long (own_h 0)), .second, .val (.long (own_h kb)), .second, .unset, .unset, .unset, .unset, .unset, .unset, .unset, .unset, .unset, .unset, .unset, .unset, .unset, .unset] [(.ref a2)])) rfl (by rw [hml]; rfl) (argsL := []) (rest := []) pd_D rfl rfl (by show 2 * 0 + _ ≤ _; exact Nat.le_of_eq rfl) (hb hby at_86) rfl (by decide) (by decide)
  subst u9 d9
  rw [List.append_nil] at X9
  refine own_go st9 ?_
  show own_Goes p e below (own_End s below _ _) (T9.setTop (mkF m 89 #[.val (.long p1), .second, .val (.long p2), .second, .val (.int p3), .val (.int (0 : Int32)), .val (.int (1 : Int32)), .val (.ref a), .val (.ref a2), .val (.long (own_h 0)), .second, .val (.long (own_h kb)), .second, .unset, .unset, .unset, .unset, .unset, .unset, .unset, .unset, .unset, .unset, .unset, .unset, .unset, .unset] [(.double (own_mean ((0 : Int64) + 1) ((0 : Int64) + (own_maxJ (0 : Int64) p2))))]))
  rw [← e9] at Ua Ub Y6
  refine own_go (fun _ own_k => XS.dstore X9.here hx rfl (hb hby at_89) rfl (l' := #[.val (.long p1), .second, .val (.long p2), .second, .val (.int p3), .val (.int (0 : Int32)), .val (.int (1 : Int32)), .val (.ref a), .val (.ref a2), .val (.long (own_h 0)), .second, .val (.long (own_h kb)), .second, .val (.double (own_mean ((0 : Int64) + 1) ((0 : Int64) + (own_maxJ (0 : Int64) p2)))), .second, .unset, .unset, .unset, .unset, .unset, .unset, .unset, .unset, .unset, .unset, .unset, .unset]) rfl own_k) ?_
  show own_Goes p e below (own_End s below _ _) (T9.setTop (mkF m 91 #[.val (.long p1), .second, .val (.long p2), .second, .val (.int p3), .val (.int (0 : Int32)), .val (.int (1 : Int32)), .val (.ref a), .val (.ref a2), .val (.long (own_h 0)), .second, .val (.long (own_h kb)), .second, .val (.double (own_mean ((0 : Int64) + 1) ((0 : Int64) + (own_maxJ (0 : Int64) p2)))), .second, .unset, .unset, .unset, .unset, .unset, .unset, .unset, .unset, .unset, .unset, .unset, .unset] []))
  refine own_go (fun _ own_k => XS.aload X9.here hx rfl (hb hby at_91) rfl rfl own_k) ?_
  show own_Goes p e below (own_End s below _ _) (T9.setTop (mkF m 93 #[.val (.long p1), .second, .val (.long p2), .second, .val (.int p3), .val (.int (0 : Int32)), .val (.int (1 : Int32)), .val (.ref a), .val (.ref a2), .val (.long (own_h 0)), .second, .val (.long (own_h kb)), .second, .val (.double (own_mean ((0 : Int64) + 1) ((0 : Int64) + (own_maxJ (0 : Int64) p2)))), .second, .unset, .unset, .unset, .unset, .unset, .unset, .unset, .unset, .unset, .unset, .unset, .unset] [(.ref a)]))
  refine own_go (fun _ own_k => XS.aload X9.here hx rfl (hb hby at_93) rfl rfl own_k) ?_
  show own_Goes p e below (own_End s below _ _) (T9.setTop (mkF m 95 #[.val (.long p1), .second, .val (.long p2), .second, .val (.int p3), .val (.int (0 : Int32)), .val (.int (1 : Int32)), .val (.ref a), .val (.ref a2), .val (.long (own_h 0)), .second, .val (.long (own_h kb)), .second, .val (.double (own_mean ((0 : Int64) + 1) ((0 : Int64) + (own_maxJ (0 : Int64) p2)))), .second, .unset, .unset, .unset, .unset, .unset, .unset, .unset, .unset, .unset, .unset, .unset, .unset] [(.ref a2), (.ref a)]))
  obtain ⟨v10, T10, L10, X10, ⟨u10, M10, K10, V10⟩, st10⟩ := own_callV X9 hx hZ (y := own_addN) (z := own_addN) hown (hw _ (List.mem_of_getElem? (i := 48) rfl)) (hw _ (List.mem_of_getElem? (i := 49) rfl)) (hw _ (List.mem_of_getElem? (i := 51) rfl)) (hw _ (List.mem_of_getElem? (i := 50) rfl)) (hw _ (List.mem_of_getElem? (i := 2) rfl)) (hw _ (List.mem_of_getElem? (i := 52) rfl)) (notFace_of_selects (args := #[]) (mvT hZ (hw _ (List.mem_of_getElem? (i := 51) rfl)))) (by decide) (own_add l Z a0 hw _ n0 a b a2 b2 _ _ _ _ _ _ na nb q1 q2 Ua Ub) rfl Ua.1 (W := 0) (by decide) (by decide) (g := (mkF m 95 #[.val (.long p1), .second, .val (.long p2), .second, .val (.int p3), .val (.int (0 : Int32)), .val (.int (1 : Int32)), .val (.ref a), .val (.ref a2), .val (.long (own_h 0)), .second, .val (.long (own_h kb)), .second, .val (.double (own_mean ((0 : Int64) + 1) ((0 : Int64) + (own_maxJ (0 : Int64) p2)))), .second, .unset, .unset, .unset, .unset, .unset, .unset, .unset, .unset, .unset, .unset, .unset, .unset] [(.ref a2), (.ref a)])) rfl (by rw [hml]; rfl) (argsL := [(.ref a2)]) (rest := []) pd_HV rfl rfl (by show 2 * 0 + _ ≤ _; exact Nat.le_of_eq rfl) (hb hby at_95) rfl (by decide) (by decide)
  subst u10
  have N10 := Fr.app N6 M10
  have Y10 := Y6.keep K10 (allS na (allS nb all0))
  have W10 := own_H_keep Ub K10 q1 q2
  refine own_go st10 ?_
  show own_Goes p e below (own_End s below _ _) (T10.setTop (mkF m 98 #[.val (.long p1), .second, .val (.long p2), .second, .val (.int p3), .val (.int (0 : Int32)), .val (.int (1 : Int32)), .val (.ref a), .val (.ref a2), .val (.long (own_h 0)), .second, .val (.long (own_h kb)), .second, .val (.double (own_mean ((0 : Int64) + 1) ((0 : Int64) + (own_maxJ (0 : Int64) p2)))), .second, .unset, .unset, .unset, .unset, .unset, .unset, .unset, .unset, .unset, .unset, .unset, .unset] []))
  refine own_go (fun _ own_k => XS.iload X10.here hx rfl (hb hby at_98) rfl own_k) ?_
  show own_Goes p e below (own_End s below _ _) (T10.setTop (mkF m 100 #[.val (.long p1), .second, .val (.long p2), .second, .val (.int p3), .val (.int (0 : Int32)), .val (.int (1 : Int32)), .val (.ref a), .val (.ref a2), .val (.long (own_h 0)), .second, .val (.long (own_h kb)), .second, .val (.double (own_mean ((0 : Int64) + 1) ((0 : Int64) + (own_maxJ (0 : Int64) p2)))), .second, .unset, .unset, .unset, .unset, .unset, .unset, .unset, .unset, .unset, .unset, .unset, .unset] [(.int (0 : Int32))]))
  refine own_go (fun _ own_k => XS.ifYes X10.here hx rfl (pc0 := 100) (pc' := 111) rfl (hb hby at_100) rfl (by decide) (by decide) (by decide) own_k) ?_
  show own_Goes p e below (own_End s below _ _) (T10.setTop (mkF m 111 #[.val (.long p1), .second, .val (.long p2), .second, .val (.int p3), .val (.int (0 : Int32)), .val (.int (1 : Int32)), .val (.ref a), .val (.ref a2), .val (.long (own_h 0)), .second, .val (.long (own_h kb)), .second, .val (.double (own_mean ((0 : Int64) + 1) ((0 : Int64) + (own_maxJ (0 : Int64) p2)))), .second, .unset, .unset, .unset, .unset, .unset, .unset, .unset, .unset, .unset, .unset, .unset, .unset] []))
  refine own_go (fun _ own_k => XS.lconst X10.here hx rfl (hb hby at_111) own_k) ?_
  show own_Goes p e below (own_End s below _ _) (T10.setTop (mkF m 112 #[.val (.long p1), .second, .val (.long p2), .second, .val (.int p3), .val (.int (0 : Int32)), .val (.int (1 : Int32)), .val (.ref a), .val (.ref a2), .val (.long (own_h 0)), .second, .val (.long (own_h kb)), .second, .val (.double (own_mean ((0 : Int64) + 1) ((0 : Int64) + (own_maxJ (0 : Int64) p2)))), .second, .unset, .unset, .unset, .unset, .unset, .unset, .unset, .unset, .unset, .unset, .unset, .unset] [(.long (0 : Int64))]))
  refine own_go (fun _ own_k => XS.lstore X10.here hx rfl (hb hby at_112) rfl (l' := #[.val (.long p1), .second, .val (.long p2), .second, .val (.int p3), .val (.int (0 : Int32)), .val (.int (1 : Int32)), .val (.ref a), .val (.ref a2), .val (.long (own_h 0)), .second, .val (.long (own_h kb)), .second, .val (.double (own_mean ((0 : Int64) + 1) ((0 : Int64) + (own_maxJ (0 : Int64) p2)))), .second, .val (.long (0 : Int64)), .second, .unset, .unset, .unset, .unset, .unset, .unset, .unset, .unset, .unset, .unset]) rfl own_k) ?_
  show own_Goes p e below (own_End s below _ _) (T10.setTop (mkF m 114 #[.val (.long p1), .second, .val (.long p2), .second, .val (.int p3), .val (.int (0 : Int32)), .val (.int (1 : Int32)), .val (.ref a), .val (.ref a2), .val (.long (own_h 0)), .second, .val (.long (own_h kb)), .second, .val (.double (own_mean ((0 : Int64) + 1) ((0 : Int64) + (own_maxJ (0 : Int64) p2)))), .second, .val (.long (0 : Int64)), .second, .unset, .unset, .unset, .unset, .unset, .unset, .unset, .unset, .unset, .unset] []))
  refine own_go (fun _ own_k => XS.iload X10.here hx rfl (hb hby at_114) rfl own_k) ?_
  show own_Goes p e below (own_End s below _ _) (T10.setTop (mkF m 116 #[.val (.long p1), .second, .val (.long p2), .second, .val (.int p3), .val (.int (0 : Int32)), .val (.int (1 : Int32)), .val (.ref a), .val (.ref a2), .val (.long (own_h 0)), .second, .val (.long (own_h kb)), .second, .val (.double (own_mean ((0 : Int64) + 1) ((0 : Int64) + (own_maxJ (0 : Int64) p2)))), .second, .val (.long (0 : Int64)), .second, .unset, .unset, .unset, .unset, .unset, .unset, .unset, .unset, .unset, .unset] [(.int (1 : Int32))]))
  refine own_go (fun _ own_k => XS.ifNo X10.here hx rfl (hb hby at_116) rfl (by decide) own_k) ?_
  show own_Goes p e below (own_End s below _ _) (T10.setTop (mkF m 119 #[.val (.long p1), .second, .val (.long p2), .second, .val (.int p3), .val (.int (0 : Int32)), .val (.int (1 : Int32)), .val (.ref a), .val (.ref a2), .val (.long (own_h 0)), .second, .val (.long (own_h kb)), .second, .val (.double (own_mean ((0 : Int64) + 1) ((0 : Int64) + (own_maxJ (0 : Int64) p2)))), .second, .val (.long (0 : Int64)), .second, .unset, .unset, .unset, .unset, .unset, .unset, .unset, .unset, .unset, .unset] []))
  refine own_go (fun _ own_k => XS.lconst X10.here hx rfl (hb hby at_119) own_k) ?_
  show own_Goes p e below (own_End s below _ _) (T10.setTop (mkF m 120 #[.val (.long p1), .second, .val (.long p2), .second, .val (.int p3), .val (.int (0 : Int32)), .val (.int (1 : Int32)), .val (.ref a), .val (.ref a2), .val (.long (own_h 0)), .second, .val (.long (own_h kb)), .second, .val (.double (own_mean ((0 : Int64) + 1) ((0 : Int64) + (own_maxJ (0 : Int64) p2)))), .second, .val (.long (0 : Int64)), .second, .unset, .unset, .unset, .unset, .unset, .unset, .unset, .unset, .unset, .unset] [(.long (0 : Int64))]))
  refine own_go (fun _ own_k => XS.lloadN X10.here hx rfl (hb hby at_120) rfl own_k) ?_
  show own_Goes p e below (own_End s below _ _) (T10.setTop (mkF m 121 #[.val (.long p1), .second, .val (.long p2), .second, .val (.int p3), .val (.int (0 : Int32)), .val (.int (1 : Int32)), .val (.ref a), .val (.ref a2), .val (.long (own_h 0)), .second, .val (.long (own_h kb)), .second, .val (.double (own_mean ((0 : Int64) + 1) ((0 : Int64) + (own_maxJ (0 : Int64) p2)))), .second, .val (.long (0 : Int64)), .second, .unset, .unset, .unset, .unset, .unset, .unset, .unset, .unset, .unset, .unset] [(.long p2), (.long (0 : Int64))]))
  obtain ⟨T12, X12, e12, st12⟩ := own_callP X10 hx hZ (y := own_maxN) hown (hw _ (List.mem_of_getElem? (i := 71) rfl)) (hw _ (List.mem_of_getElem? (i := 62) rfl)) (hw _ (List.mem_of_getElem? (i := 21) rfl)) (hw _ (List.mem_of_getElem? (i := 63) rfl)) (by decide) (own_max l Z a0 hw _ (0 : Int64) p2) rfl (W := 0) (by decide) (by decide) (g := (mkF m 121 #[.val (.long p1), .second, .val (.long p2), .second, .val (.int p3), .val (.int (0 : Int32)), .val (.int (1 : Int32)), .val (.ref a), .val (.ref a2), .val (.long (own_h 0)), .second, .val (.long (own_h kb)), .second, .val (.double (own_mean ((0 : Int64) + 1) ((0 : Int64) + (own_maxJ (0 : Int64) p2)))), .second, .val (.long (0 : Int64)), .second, .unset, .unset, .unset, .unset, .unset, .unset, .unset, .unset, .unset, .unset] [(.long p2), (.long (0 : Int64))])) rfl (by rw [hml]; rfl) (argsL := [(.long (0 : Int64)), (.long p2)]) (rest := []) pd_JJJ rfl rfl (by show 2 * 0 + _ ≤ _; exact Nat.le_of_eq rfl) (hb hby at_121) rfl (by decide) (by decide)
  rw [← e12] at V10 W10 Y10
  refine own_go st12 ?_
  show own_Goes p e below (own_End s below _ _) (T12.setTop (mkF m 124 #[.val (.long p1), .second, .val (.long p2), .second, .val (.int p3), .val (.int (0 : Int32)), .val (.int (1 : Int32)), .val (.ref a), .val (.ref a2), .val (.long (own_h 0)), .second, .val (.long (own_h kb)), .second, .val (.double (own_mean ((0 : Int64) + 1) ((0 : Int64) + (own_maxJ (0 : Int64) p2)))), .second, .val (.long (0 : Int64)), .second, .unset, .unset, .unset, .unset, .unset, .unset, .unset, .unset, .unset, .unset] [(.long (own_maxJ (0 : Int64) p2))]))
  refine own_go (fun _ own_k => XS.goto X12.here hx rfl (pc0 := 124) (pc' := 128) rfl (hb hby at_124) (by decide) (by decide) own_k) ?_
  show own_Goes p e below (own_End s below _ _) (T12.setTop (mkF m 128 #[.val (.long p1), .second, .val (.long p2), .second, .val (.int p3), .val (.int (0 : Int32)), .val (.int (1 : Int32)), .val (.ref a), .val (.ref a2), .val (.long (own_h 0)), .second, .val (.long (own_h kb)), .second, .val (.double (own_mean ((0 : Int64) + 1) ((0 : Int64) + (own_maxJ (0 : Int64) p2)))), .second, .val (.long (0 : Int64)), .second, .unset, .unset, .unset, .unset, .unset, .unset, .unset, .unset, .unset, .unset] [(.long (own_maxJ (0 : Int64) p2))]))
  refine own_go (fun _ own_k => XS.lstore X12.here hx rfl (hb hby at_128) rfl (l' := #[.val (.long p1), .second, .val (.long p2), .second, .val (.int p3), .val (.int (0 : Int32)), .val (.int (1 : Int32)), .val (.ref a), .val (.ref a2), .val (.long (own_h 0)), .second, .val (.long (own_h kb)), .second, .val (.double (own_mean ((0 : Int64) + 1) ((0 : Int64) + (own_maxJ (0 : Int64) p2)))), .second, .val (.long (0 : Int64)), .second, .val (.long (own_maxJ (0 : Int64) p2)), .second, .unset, .unset, .unset, .unset, .unset, .unset, .unset, .unset]) rfl own_k) ?_
  show own_Goes p e below (own_End s below _ _) (T12.setTop (mkF m 130 #[.val (.long p1), .second, .val (.long p2), .second, .val (.int p3), .val (.int (0 : Int32)), .val (.int (1 : Int32)), .val (.ref a), .val (.ref a2), .val (.long (own_h 0)), .second, .val (.long (own_h kb)), .second, .val (.double (own_mean ((0 : Int64) + 1) ((0 : Int64) + (own_maxJ (0 : Int64) p2)))), .second, .val (.long (0 : Int64)), .second, .val (.long (own_maxJ (0 : Int64) p2)), .second, .unset, .unset, .unset, .unset, .unset, .unset, .unset, .unset] []))
  refine own_go (fun _ own_k => XS.iload X12.here hx rfl (hb hby at_130) rfl own_k) ?_
  show own_Goes p e below (own_End s below _ _) (T12.setTop (mkF m 132 #[.val (.long p1), .second, .val (.long p2), .second, .val (.int p3), .val (.int (0 : Int32)), .val (.int (1 : Int32)), .val (.ref a), .val (.ref a2), .val (.long (own_h 0)), .second, .val (.long (own_h kb)), .second, .val (.double (own_mean ((0 : Int64) + 1) ((0 : Int64) + (own_maxJ (0 : Int64) p2)))), .second, .val (.long (0 : Int64)), .second, .val (.long (own_maxJ (0 : Int64) p2)), .second, .unset, .unset, .unset, .unset, .unset, .unset, .unset, .unset] [(.int (0 : Int32))]))
  refine own_go (fun _ own_k => XS.ifYes X12.here hx rfl (pc0 := 132) (pc' := 139) rfl (hb hby at_132) rfl (by decide) (by decide) (by decide) own_k) ?_
  show own_Goes p e below (own_End s below _ _) (T12.setTop (mkF m 139 #[.val (.long p1), .second, .val (.long p2), .second, .val (.int p3), .val (.int (0 : Int32)), .val (.int (1 : Int32)), .val (.ref a), .val (.ref a2), .val (.long (own_h 0)), .second, .val (.long (own_h kb)), .second, .val (.double (own_mean ((0 : Int64) + 1) ((0 : Int64) + (own_maxJ (0 : Int64) p2)))), .second, .val (.long (0 : Int64)), .second, .val (.long (own_maxJ (0 : Int64) p2)), .second, .unset, .unset, .unset, .unset, .unset, .unset, .unset, .unset] []))
  refine own_go (fun _ own_k => XS.lconst X12.here hx rfl (hb hby at_139) own_k) ?_
  show own_Goes p e below (own_End s below _ _) (T12.setTop (mkF m 140 #[.val (.long p1), .second, .val (.long p2), .second, .val (.int p3), .val (.int (0 : Int32)), .val (.int (1 : Int32)), .val (.ref a), .val (.ref a2), .val (.long (own_h 0)), .second, .val (.long (own_h kb)), .second, .val (.double (own_mean ((0 : Int64) + 1) ((0 : Int64) + (own_maxJ (0 : Int64) p2)))), .second, .val (.long (0 : Int64)), .second, .val (.long (own_maxJ (0 : Int64) p2)), .second, .unset, .unset, .unset, .unset, .unset, .unset, .unset, .unset] [(.long (0 : Int64))]))
  refine own_go (fun _ own_k => XS.iload X12.here hx rfl (hb hby at_140) rfl own_k) ?_
  show own_Goes p e below (own_End s below _ _) (T12.setTop (mkF m 142 #[.val (.long p1), .second, .val (.long p2), .second, .val (.int p3), .val (.int (0 : Int32)), .val (.int (1 : Int32)), .val (.ref a), .val (.ref a2), .val (.long (own_h 0)), .second, .val (.long (own_h kb)), .second, .val (.double (own_mean ((0 : Int64) + 1) ((0 : Int64) + (own_maxJ (0 : Int64) p2)))), .second, .val (.long (0 : Int64)), .second, .val (.long (own_maxJ (0 : Int64) p2)), .second, .unset, .unset, .unset, .unset, .unset, .unset, .unset, .unset] [(.int (1 : Int32)), (.long (0 : Int64))]))
  refine own_go (fun _ own_k => XS.ifNo X12.here hx rfl (hb hby at_142) rfl (by decide) own_k) ?_
  show own_Goes p e below (own_End s below _ _) (T12.setTop (mkF m 145 #[.val (.long p1), .second, .val (.long p2), .second, .val (.int p3), .val (.int (0 : Int32)), .val (.int (1 : Int32)), .val (.ref a), .val (.ref a2), .val (.long (own_h 0)), .second, .val (.long (own_h kb)), .second, .val (.double (own_mean ((0 : Int64) + 1) ((0 : Int64) + (own_maxJ (0 : Int64) p2)))), .second, .val (.long (0 : Int64)), .second, .val (.long (own_maxJ (0 : Int64) p2)), .second, .unset, .unset, .unset, .unset, .unset, .unset, .unset, .unset] [(.long (0 : Int64))]))
  refine own_go (fun _ own_k => XS.lconst X12.here hx rfl (hb hby at_145) own_k) ?_
  show own_Goes p e below (own_End s below _ _) (T12.setTop (mkF m 146 #[.val (.long p1), .second, .val (.long p2), .second, .val (.int p3), .val (.int (0 : Int32)), .val (.int (1 : Int32)), .val (.ref a), .val (.ref a2), .val (.long (own_h 0)), .second, .val (.long (own_h kb)), .second, .val (.double (own_mean ((0 : Int64) + 1) ((0 : Int64) + (own_maxJ (0 : Int64) p2)))), .second, .val (.long (0 : Int64)), .second, .val (.long (own_maxJ (0 : Int64) p2)), .second, .unset, .unset, .unset, .unset, .unset, .unset, .unset, .unset] [(.long (1 : Int64)), (.long (0 : Int64))]))
  refine own_go (fun _ own_k => XS.goto X12.here hx rfl (pc0 := 146) (pc' := 150) rfl (hb hby at_146) (by decide) (by decide) own_k) ?_
  show own_Goes p e below (own_End s below _ _) (T12.setTop (mkF m 150 #[.val (.long p1), .second, .val (.long p2), .second, .val (.int p3), .val (.int (0 : Int32)), .val (.int (1 : Int32)), .val (.ref a), .val (.ref a2), .val (.long (own_h 0)), .second, .val (.long (own_h kb)), .second, .val (.double (own_mean ((0 : Int64) + 1) ((0 : Int64) + (own_maxJ (0 : Int64) p2)))), .second, .val (.long (0 : Int64)), .second, .val (.long (own_maxJ (0 : Int64) p2)), .second, .unset, .unset, .unset, .unset, .unset, .unset, .unset, .unset] [(.long (1 : Int64)), (.long (0 : Int64))]))
  refine own_go (fun _ own_k => XS.ladd X12.here hx rfl (hb hby at_150) rfl own_k) ?_
  show own_Goes p e below (own_End s below _ _) (T12.setTop (mkF m 151 #[.val (.long p1), .second, .val (.long p2), .second, .val (.int p3), .val (.int (0 : Int32)), .val (.int (1 : Int32)), .val (.ref a), .val (.ref a2), .val (.long (own_h 0)), .second, .val (.long (own_h kb)), .second, .val (.double (own_mean ((0 : Int64) + 1) ((0 : Int64) + (own_maxJ (0 : Int64) p2)))), .second, .val (.long (0 : Int64)), .second, .val (.long (own_maxJ (0 : Int64) p2)), .second, .unset, .unset, .unset, .unset, .unset, .unset, .unset, .unset] [(.long ((0 : Int64) + (1 : Int64)))]))
  refine own_go (fun _ own_k => XS.lstore X12.here hx rfl (hb hby at_151) rfl (l' := #[.val (.long p1), .second, .val (.long p2), .second, .val (.int p3), .val (.int (0 : Int32)), .val (.int (1 : Int32)), .val (.ref a), .val (.ref a2), .val (.long (own_h 0)), .second, .val (.long (own_h kb)), .second, .val (.double (own_mean ((0 : Int64) + 1) ((0 : Int64) + (own_maxJ (0 : Int64) p2)))), .second, .val (.long (0 : Int64)), .second, .val (.long (own_maxJ (0 : Int64) p2)), .second, .val (.long ((0 : Int64) + (1 : Int64))), .second, .unset, .unset, .unset, .unset, .unset, .unset]) rfl own_k) ?_
  show own_Goes p e below (own_End s below _ _) (T12.setTop (mkF m 153 #[.val (.long p1), .second, .val (.long p2), .second, .val (.int p3), .val (.int (0 : Int32)), .val (.int (1 : Int32)), .val (.ref a), .val (.ref a2), .val (.long (own_h 0)), .second, .val (.long (own_h kb)), .second, .val (.double (own_mean ((0 : Int64) + 1) ((0 : Int64) + (own_maxJ (0 : Int64) p2)))), .second, .val (.long (0 : Int64)), .second, .val (.long (own_maxJ (0 : Int64) p2)), .second, .val (.long ((0 : Int64) + (1 : Int64))), .second, .unset, .unset, .unset, .unset, .unset, .unset] []))
  refine own_go (fun _ own_k => XS.lload X12.here hx rfl (hb hby at_153) rfl own_k) ?_
  show own_Goes p e below (own_End s below _ _) (T12.setTop (mkF m 155 #[.val (.long p1), .second, .val (.long p2), .second, .val (.int p3), .val (.int (0 : Int32)), .val (.int (1 : Int32)), .val (.ref a), .val (.ref a2), .val (.long (own_h 0)), .second, .val (.long (own_h kb)), .second, .val (.double (own_mean ((0 : Int64) + 1) ((0 : Int64) + (own_maxJ (0 : Int64) p2)))), .second, .val (.long (0 : Int64)), .second, .val (.long (own_maxJ (0 : Int64) p2)), .second, .val (.long ((0 : Int64) + (1 : Int64))), .second, .unset, .unset, .unset, .unset, .unset, .unset] [(.long ((0 : Int64) + (1 : Int64)))]))
  refine own_go (fun _ own_k => XS.lconst X12.here hx rfl (hb hby at_155) own_k) ?_
  show own_Goes p e below (own_End s below _ _) (T12.setTop (mkF m 156 #[.val (.long p1), .second, .val (.long p2), .second, .val (.int p3), .val (.int (0 : Int32)), .val (.int (1 : Int32)), .val (.ref a), .val (.ref a2), .val (.long (own_h 0)), .second, .val (.long (own_h kb)), .second, .val (.double (own_mean ((0 : Int64) + 1) ((0 : Int64) + (own_maxJ (0 : Int64) p2)))), .second, .val (.long (0 : Int64)), .second, .val (.long (own_maxJ (0 : Int64) p2)), .second, .val (.long ((0 : Int64) + (1 : Int64))), .second, .unset, .unset, .unset, .unset, .unset, .unset] [(.long (0 : Int64)), (.long ((0 : Int64) + (1 : Int64)))]))
  refine own_go (fun _ own_k => XS.lcmp X12.here hx rfl (hb hby at_156) rfl own_k) ?_
  show own_Goes p e below (own_End s below _ _) (T12.setTop (mkF m 157 #[.val (.long p1), .second, .val (.long p2), .second, .val (.int p3), .val (.int (0 : Int32)), .val (.int (1 : Int32)), .val (.ref a), .val (.ref a2), .val (.long (own_h 0)), .second, .val (.long (own_h kb)), .second, .val (.double (own_mean ((0 : Int64) + 1) ((0 : Int64) + (own_maxJ (0 : Int64) p2)))), .second, .val (.long (0 : Int64)), .second, .val (.long (own_maxJ (0 : Int64) p2)), .second, .val (.long ((0 : Int64) + (1 : Int64))), .second, .unset, .unset, .unset, .unset, .unset, .unset] [(.int (lcmpW ((0 : Int64) + (1 : Int64)) (0 : Int64)))]))
  refine own_go (fun _ own_k => XS.ifYes X12.here hx rfl (pc0 := 157) (pc' := 164) rfl (hb hby at_157) rfl (by decide) (by decide) (by decide) own_k) ?_
  show own_Goes p e below (own_End s below _ _) (T12.setTop (mkF m 164 #[.val (.long p1), .second, .val (.long p2), .second, .val (.int p3), .val (.int (0 : Int32)), .val (.int (1 : Int32)), .val (.ref a), .val (.ref a2), .val (.long (own_h 0)), .second, .val (.long (own_h kb)), .second, .val (.double (own_mean ((0 : Int64) + 1) ((0 : Int64) + (own_maxJ (0 : Int64) p2)))), .second, .val (.long (0 : Int64)), .second, .val (.long (own_maxJ (0 : Int64) p2)), .second, .val (.long ((0 : Int64) + (1 : Int64))), .second, .unset, .unset, .unset, .unset, .unset, .unset] []))
  refine own_go (fun _ own_k => XS.lload X12.here hx rfl (hb hby at_164) rfl own_k) ?_
  show own_Goes p e below (own_End s below _ _) (T12.setTop (mkF m 166 #[.val (.long p1), .second, .val (.long p2), .second, .val (.int p3), .val (.int (0 : Int32)), .val (.int (1 : Int32)), .val (.ref a), .val (.ref a2), .val (.long (own_h 0)), .second, .val (.long (own_h kb)), .second, .val (.double (own_mean ((0 : Int64) + 1) ((0 : Int64) + (own_maxJ (0 : Int64) p2)))), .second, .val (.long (0 : Int64)), .second, .val (.long (own_maxJ (0 : Int64) p2)), .second, .val (.long ((0 : Int64) + (1 : Int64))), .second, .unset, .unset, .unset, .unset, .unset, .unset] [(.long (0 : Int64))]))
  refine own_go (fun _ own_k => XS.lload X12.here hx rfl (hb hby at_166) rfl own_k) ?_
  show own_Goes p e below (own_End s below _ _) (T12.setTop (mkF m 168 #[.val (.long p1), .second, .val (.long p2), .second, .val (.int p3), .val (.int (0 : Int32)), .val (.int (1 : Int32)), .val (.ref a), .val (.ref a2), .val (.long (own_h 0)), .second, .val (.long (own_h kb)), .second, .val (.double (own_mean ((0 : Int64) + 1) ((0 : Int64) + (own_maxJ (0 : Int64) p2)))), .second, .val (.long (0 : Int64)), .second, .val (.long (own_maxJ (0 : Int64) p2)), .second, .val (.long ((0 : Int64) + (1 : Int64))), .second, .unset, .unset, .unset, .unset, .unset, .unset] [(.long (own_maxJ (0 : Int64) p2)), (.long (0 : Int64))]))
  refine own_go (fun _ own_k => XS.ladd X12.here hx rfl (hb hby at_168) rfl own_k) ?_
  show own_Goes p e below (own_End s below _ _) (T12.setTop (mkF m 169 #[.val (.long p1), .second, .val (.long p2), .second, .val (.int p3), .val (.int (0 : Int32)), .val (.int (1 : Int32)), .val (.ref a), .val (.ref a2), .val (.long (own_h 0)), .second, .val (.long (own_h kb)), .second, .val (.double (own_mean ((0 : Int64) + 1) ((0 : Int64) + (own_maxJ (0 : Int64) p2)))), .second, .val (.long (0 : Int64)), .second, .val (.long (own_maxJ (0 : Int64) p2)), .second, .val (.long ((0 : Int64) + (1 : Int64))), .second, .unset, .unset, .unset, .unset, .unset, .unset] [(.long ((0 : Int64) + (own_maxJ (0 : Int64) p2)))]))
  refine own_go (fun _ own_k => XS.l2dS X12.here hx rfl (hb hby at_169) rfl rfl own_k) ?_
  show own_Goes p e below (own_End s below _ _) (T12.setTop (mkF m 170 #[.val (.long p1), .second, .val (.long p2), .second, .val (.int p3), .val (.int (0 : Int32)), .val (.int (1 : Int32)), .val (.ref a), .val (.ref a2), .val (.long (own_h 0)), .second, .val (.long (own_h kb)), .second, .val (.double (own_mean ((0 : Int64) + 1) ((0 : Int64) + (own_maxJ (0 : Int64) p2)))), .second, .val (.long (0 : Int64)), .second, .val (.long (own_maxJ (0 : Int64) p2)), .second, .val (.long ((0 : Int64) + (1 : Int64))), .second, .unset, .unset, .unset, .unset, .unset, .unset] [(.double (FP.l2d ((0 : Int64) + (own_maxJ (0 : Int64) p2))))]))
  refine own_go (fun _ own_k => XS.lload X12.here hx rfl (hb hby at_170) rfl own_k) ?_
  show own_Goes p e below (own_End s below _ _) (T12.setTop (mkF m 172 #[.val (.long p1), .second, .val (.long p2), .second, .val (.int p3), .val (.int (0 : Int32)), .val (.int (1 : Int32)), .val (.ref a), .val (.ref a2), .val (.long (own_h 0)), .second, .val (.long (own_h kb)), .second, .val (.double (own_mean ((0 : Int64) + 1) ((0 : Int64) + (own_maxJ (0 : Int64) p2)))), .second, .val (.long (0 : Int64)), .second, .val (.long (own_maxJ (0 : Int64) p2)), .second, .val (.long ((0 : Int64) + (1 : Int64))), .second, .unset, .unset, .unset, .unset, .unset, .unset] [(.long ((0 : Int64) + (1 : Int64))), (.double (FP.l2d ((0 : Int64) + (own_maxJ (0 : Int64) p2))))]))
  refine own_go (fun _ own_k => XS.l2dS X12.here hx rfl (hb hby at_172) rfl rfl own_k) ?_
  show own_Goes p e below (own_End s below _ _) (T12.setTop (mkF m 173 #[.val (.long p1), .second, .val (.long p2), .second, .val (.int p3), .val (.int (0 : Int32)), .val (.int (1 : Int32)), .val (.ref a), .val (.ref a2), .val (.long (own_h 0)), .second, .val (.long (own_h kb)), .second, .val (.double (own_mean ((0 : Int64) + 1) ((0 : Int64) + (own_maxJ (0 : Int64) p2)))), .second, .val (.long (0 : Int64)), .second, .val (.long (own_maxJ (0 : Int64) p2)), .second, .val (.long ((0 : Int64) + (1 : Int64))), .second, .unset, .unset, .unset, .unset, .unset, .unset] [(.double (FP.l2d ((0 : Int64) + (1 : Int64)))), (.double (FP.l2d ((0 : Int64) + (own_maxJ (0 : Int64) p2))))]))
  refine own_go (fun _ own_k => XS.ddivS X12.here hx rfl (hb hby at_173) rfl (own_div_nn _ (by decide)) rfl own_k) ?_
  show own_Goes p e below (own_End s below _ _) (T12.setTop (mkF m 174 #[.val (.long p1), .second, .val (.long p2), .second, .val (.int p3), .val (.int (0 : Int32)), .val (.int (1 : Int32)), .val (.ref a), .val (.ref a2), .val (.long (own_h 0)), .second, .val (.long (own_h kb)), .second, .val (.double (own_mean ((0 : Int64) + 1) ((0 : Int64) + (own_maxJ (0 : Int64) p2)))), .second, .val (.long (0 : Int64)), .second, .val (.long (own_maxJ (0 : Int64) p2)), .second, .val (.long ((0 : Int64) + (1 : Int64))), .second, .unset, .unset, .unset, .unset, .unset, .unset] [(.double (FP.ddiv (FP.l2d ((0 : Int64) + (own_maxJ (0 : Int64) p2))) (FP.l2d ((0 : Int64) + (1 : Int64)))))]))
  refine own_go (fun _ own_k => XS.dstore X12.here hx rfl (hb hby at_174) rfl (l' := #[.val (.long p1), .second, .val (.long p2), .second, .val (.int p3), .val (.int (0 : Int32)), .val (.int (1 : Int32)), .val (.ref a), .val (.ref a2), .val (.long (own_h 0)), .second, .val (.long (own_h kb)), .second, .val (.double (own_mean ((0 : Int64) + 1) ((0 : Int64) + (own_maxJ (0 : Int64) p2)))), .second, .val (.long (0 : Int64)), .second, .val (.long (own_maxJ (0 : Int64) p2)), .second, .val (.long ((0 : Int64) + (1 : Int64))), .second, .val (.double (FP.ddiv (FP.l2d ((0 : Int64) + (own_maxJ (0 : Int64) p2))) (FP.l2d ((0 : Int64) + (1 : Int64))))), .second, .unset, .unset, .unset, .unset]) rfl own_k) ?_
  show own_Goes p e below (own_End s below _ _) (T12.setTop (mkF m 176 #[.val (.long p1), .second, .val (.long p2), .second, .val (.int p3), .val (.int (0 : Int32)), .val (.int (1 : Int32)), .val (.ref a), .val (.ref a2), .val (.long (own_h 0)), .second, .val (.long (own_h kb)), .second, .val (.double (own_mean ((0 : Int64) + 1) ((0 : Int64) + (own_maxJ (0 : Int64) p2)))), .second, .val (.long (0 : Int64)), .second, .val (.long (own_maxJ (0 : Int64) p2)), .second, .val (.long ((0 : Int64) + (1 : Int64))), .second, .val (.double (FP.ddiv (FP.l2d ((0 : Int64) + (own_maxJ (0 : Int64) p2))) (FP.l2d ((0 : Int64) + (1 : Int64))))), .second, .unset, .unset, .unset, .unset] []))
  refine own_go (fun _ own_k => XS.iload X12.here hx rfl (hb hby at_176) rfl own_k) ?_
  show own_Goes p e below (own_End s below _ _) (T12.setTop (mkF m 178 #[.val (.long p1), .second, .val (.long p2), .second, .val (.int p3), .val (.int (0 : Int32)), .val (.int (1 : Int32)), .val (.ref a), .val (.ref a2), .val (.long (own_h 0)), .second, .val (.long (own_h kb)), .second, .val (.double (own_mean ((0 : Int64) + 1) ((0 : Int64) + (own_maxJ (0 : Int64) p2)))), .second, .val (.long (0 : Int64)), .second, .val (.long (own_maxJ (0 : Int64) p2)), .second, .val (.long ((0 : Int64) + (1 : Int64))), .second, .val (.double (FP.ddiv (FP.l2d ((0 : Int64) + (own_maxJ (0 : Int64) p2))) (FP.l2d ((0 : Int64) + (1 : Int64))))), .second, .unset, .unset, .unset, .unset] [(.int (0 : Int32))]))
  refine own_go (fun _ own_k => XS.ifYes X12.here hx rfl (pc0 := 178) (pc' := 207) rfl (hb hby at_178) rfl (by decide) (by decide) (by decide) own_k) ?_
  show own_Goes p e below (own_End s below _ _) (T12.setTop (mkF m 207 #[.val (.long p1), .second, .val (.long p2), .second, .val (.int p3), .val (.int (0 : Int32)), .val (.int (1 : Int32)), .val (.ref a), .val (.ref a2), .val (.long (own_h 0)), .second, .val (.long (own_h kb)), .second, .val (.double (own_mean ((0 : Int64) + 1) ((0 : Int64) + (own_maxJ (0 : Int64) p2)))), .second, .val (.long (0 : Int64)), .second, .val (.long (own_maxJ (0 : Int64) p2)), .second, .val (.long ((0 : Int64) + (1 : Int64))), .second, .val (.double (FP.ddiv (FP.l2d ((0 : Int64) + (own_maxJ (0 : Int64) p2))) (FP.l2d ((0 : Int64) + (1 : Int64))))), .second, .unset, .unset, .unset, .unset] []))
  refine own_go (fun _ own_k => XS.iload X12.here hx rfl (hb hby at_207) rfl own_k) ?_
  show own_Goes p e below (own_End s below _ _) (T12.setTop (mkF m 209 #[.val (.long p1), .second, .val (.long p2), .second, .val (.int p3), .val (.int (0 : Int32)), .val (.int (1 : Int32)), .val (.ref a), .val (.ref a2), .val (.long (own_h 0)), .second, .val (.long (own_h kb)), .second, .val (.double (own_mean ((0 : Int64) + 1) ((0 : Int64) + (own_maxJ (0 : Int64) p2)))), .second, .val (.long (0 : Int64)), .second, .val (.long (own_maxJ (0 : Int64) p2)), .second, .val (.long ((0 : Int64) + (1 : Int64))), .second, .val (.double (FP.ddiv (FP.l2d ((0 : Int64) + (own_maxJ (0 : Int64) p2))) (FP.l2d ((0 : Int64) + (1 : Int64))))), .second, .unset, .unset, .unset, .unset] [(.int (0 : Int32))]))
  refine own_go (fun _ own_k => XS.ifYes X12.here hx rfl (pc0 := 209) (pc' := 223) rfl (hb hby at_209) rfl (by decide) (by decide) (by decide) own_k) ?_
  show own_Goes p e below (own_End s below _ _) (T12.setTop (mkF m 223 #[.val (.long p1), .second, .val (.long p2), .second, .val (.int p3), .val (.int (0 : Int32)), .val (.int (1 : Int32)), .val (.ref a), .val (.ref a2), .val (.long (own_h 0)), .second, .val (.long (own_h kb)), .second, .val (.double (own_mean ((0 : Int64) + 1) ((0 : Int64) + (own_maxJ (0 : Int64) p2)))), .second, .val (.long (0 : Int64)), .second, .val (.long (own_maxJ (0 : Int64) p2)), .second, .val (.long ((0 : Int64) + (1 : Int64))), .second, .val (.double (FP.ddiv (FP.l2d ((0 : Int64) + (own_maxJ (0 : Int64) p2))) (FP.l2d ((0 : Int64) + (1 : Int64))))), .second, .unset, .unset, .unset, .unset] []))
  refine own_go (fun _ own_k => XS.iload X12.here hx rfl (hb hby at_223) rfl own_k) ?_
  show own_Goes p e below (own_End s below _ _) (T12.setTop (mkF m 225 #[.val (.long p1), .second, .val (.long p2), .second, .val (.int p3), .val (.int (0 : Int32)), .val (.int (1 : Int32)), .val (.ref a), .val (.ref a2), .val (.long (own_h 0)), .second, .val (.long (own_h kb)), .second, .val (.double (own_mean ((0 : Int64) + 1) ((0 : Int64) + (own_maxJ (0 : Int64) p2)))), .second, .val (.long (0 : Int64)), .second, .val (.long (own_maxJ (0 : Int64) p2)), .second, .val (.long ((0 : Int64) + (1 : Int64))), .second, .val (.double (FP.ddiv (FP.l2d ((0 : Int64) + (own_maxJ (0 : Int64) p2))) (FP.l2d ((0 : Int64) + (1 : Int64))))), .second, .unset, .unset, .unset, .unset] [(.int (1 : Int32))]))
  refine own_go (fun _ own_k => XS.ifNo X12.here hx rfl (hb hby at_225) rfl (by decide) own_k) ?_
  show own_Goes p e below (own_End s below _ _) (T12.setTop (mkF m 228 #[.val (.long p1), .second, .val (.long p2), .second, .val (.int p3), .val (.int (0 : Int32)), .val (.int (1 : Int32)), .val (.ref a), .val (.ref a2), .val (.long (own_h 0)), .second, .val (.long (own_h kb)), .second, .val (.double (own_mean ((0 : Int64) + 1) ((0 : Int64) + (own_maxJ (0 : Int64) p2)))), .second, .val (.long (0 : Int64)), .second, .val (.long (own_maxJ (0 : Int64) p2)), .second, .val (.long ((0 : Int64) + (1 : Int64))), .second, .val (.double (FP.ddiv (FP.l2d ((0 : Int64) + (own_maxJ (0 : Int64) p2))) (FP.l2d ((0 : Int64) + (1 : Int64))))), .second, .unset, .unset, .unset, .unset] []))
  refine own_go (fun _ own_k => XS.lload X12.here hx rfl (hb hby at_228) rfl own_k) ?_
  show own_Goes p e below (own_End s below _ _) (T12.setTop (mkF m 230 #[.val (.long p1), .second, .val (.long p2), .second, .val (.int p3), .val (.int (0 : Int32)), .val (.int (1 : Int32)), .val (.ref a), .val (.ref a2), .val (.long (own_h 0)), .second, .val (.long (own_h kb)), .second, .val (.double (own_mean ((0 : Int64) + 1) ((0 : Int64) + (own_maxJ (0 : Int64) p2)))), .second, .val (.long (0 : Int64)), .second, .val (.long (own_maxJ (0 : Int64) p2)), .second, .val (.long ((0 : Int64) + (1 : Int64))), .second, .val (.double (FP.ddiv (FP.l2d ((0 : Int64) + (own_maxJ (0 : Int64) p2))) (FP.l2d ((0 : Int64) + (1 : Int64))))), .second, .unset, .unset, .unset, .unset] [(.long (own_h kb))]))
  refine own_go (fun _ own_k => XS.lstore X12.here hx rfl (hb hby at_230) rfl (l' := #[.val (.long p1), .second, .val (.long p2), .second, .val (.int p3), .val (.int (0 : Int32)), .val (.int (1 : Int32)), .val (.ref a), .val (.ref a2), .val (.long (own_h 0)), .second, .val (.long (own_h kb)), .second, .val (.double (own_mean ((0 : Int64) + 1) ((0 : Int64) + (own_maxJ (0 : Int64) p2)))), .second, .val (.long (0 : Int64)), .second, .val (.long (own_maxJ (0 : Int64) p2)), .second, .val (.long ((0 : Int64) + (1 : Int64))), .second, .val (.double (FP.ddiv (FP.l2d ((0 : Int64) + (own_maxJ (0 : Int64) p2))) (FP.l2d ((0 : Int64) + (1 : Int64))))), .second, .val (.long (own_h kb)), .second, .unset, .unset]) rfl own_k) ?_
  show own_Goes p e below (own_End s below _ _) (T12.setTop (mkF m 232 #[.val (.long p1), .second, .val (.long p2), .second, .val (.int p3), .val (.int (0 : Int32)), .val (.int (1 : Int32)), .val (.ref a), .val (.ref a2), .val (.long (own_h 0)), .second, .val (.long (own_h kb)), .second, .val (.double (own_mean ((0 : Int64) + 1) ((0 : Int64) + (own_maxJ (0 : Int64) p2)))), .second, .val (.long (0 : Int64)), .second, .val (.long (own_maxJ (0 : Int64) p2)), .second, .val (.long ((0 : Int64) + (1 : Int64))), .second, .val (.double (FP.ddiv (FP.l2d ((0 : Int64) + (own_maxJ (0 : Int64) p2))) (FP.l2d ((0 : Int64) + (1 : Int64))))), .second, .val (.long (own_h kb)), .second, .unset, .unset] []))
  refine own_go (fun _ own_k => XS.lload X12.here hx rfl (hb hby at_232) rfl own_k) ?_
  show own_Goes p e below (own_End s below _ _) (T12.setTop (mkF m 234 #[.val (.long p1), .second, .val (.long p2), .second, .val (.int p3), .val (.int (0 : Int32)), .val (.int (1 : Int32)), .val (.ref a), .val (.ref a2), .val (.long (own_h 0)), .second, .val (.long (own_h kb)), .second, .val (.double (own_mean ((0 : Int64) + 1) ((0 : Int64) + (own_maxJ (0 : Int64) p2)))), .second, .val (.long (0 : Int64)), .second, .val (.long (own_maxJ (0 : Int64) p2)), .second, .val (.long ((0 : Int64) + (1 : Int64))), .second, .val (.double (FP.ddiv (FP.l2d ((0 : Int64) + (own_maxJ (0 : Int64) p2))) (FP.l2d ((0 : Int64) + (1 : Int64))))), .second, .val (.long (own_h kb)), .second, .unset, .unset] [(.long (own_h kb))]))
  refine own_go (fun _ own_k => XS.lstore X12.here hx rfl (hb hby at_234) rfl (l' := #[.val (.long p1), .second, .val (.long p2), .second, .val (.int p3), .val (.int (0 : Int32)), .val (.int (1 : Int32)), .val (.ref a), .val (.ref a2), .val (.long (own_h 0)), .second, .val (.long (own_h kb)), .second, .val (.double (own_mean ((0 : Int64) + 1) ((0 : Int64) + (own_maxJ (0 : Int64) p2)))), .second, .val (.long (0 : Int64)), .second, .val (.long (own_maxJ (0 : Int64) p2)), .second, .val (.long ((0 : Int64) + (1 : Int64))), .second, .val (.double (FP.ddiv (FP.l2d ((0 : Int64) + (own_maxJ (0 : Int64) p2))) (FP.l2d ((0 : Int64) + (1 : Int64))))), .second, .val (.long (own_h kb)), .second, .val (.long (own_h kb)), .second]) rfl own_k) ?_
  show own_Goes p e below (own_End s below _ _) (T12.setTop (mkF m 236 #[.val (.long p1), .second, .val (.long p2), .second, .val (.int p3), .val (.int (0 : Int32)), .val (.int (1 : Int32)), .val (.ref a), .val (.ref a2), .val (.long (own_h 0)), .second, .val (.long (own_h kb)), .second, .val (.double (own_mean ((0 : Int64) + 1) ((0 : Int64) + (own_maxJ (0 : Int64) p2)))), .second, .val (.long (0 : Int64)), .second, .val (.long (own_maxJ (0 : Int64) p2)), .second, .val (.long ((0 : Int64) + (1 : Int64))), .second, .val (.double (FP.ddiv (FP.l2d ((0 : Int64) + (own_maxJ (0 : Int64) p2))) (FP.l2d ((0 : Int64) + (1 : Int64))))), .second, .val (.long (own_h kb)), .second, .val (.long (own_h kb)), .second] []))
  refine own_go (fun _ own_k => XS.goto X12.here hx rfl (pc0 := 236) (pc' := 245) rfl (hb hby at_236) (by decide) (by decide) own_k) ?_
  show own_Goes p e below (own_End s below _ _) (T12.setTop (mkF m 245 #[.val (.long p1), .second, .val (.long p2), .second, .val (.int p3), .val (.int (0 : Int32)), .val (.int (1 : Int32)), .val (.ref a), .val (.ref a2), .val (.long (own_h 0)), .second, .val (.long (own_h kb)), .second, .val (.double (own_mean ((0 : Int64) + 1) ((0 : Int64) + (own_maxJ (0 : Int64) p2)))), .second, .val (.long (0 : Int64)), .second, .val (.long (own_maxJ (0 : Int64) p2)), .second, .val (.long ((0 : Int64) + (1 : Int64))), .second, .val (.double (FP.ddiv (FP.l2d ((0 : Int64) + (own_maxJ (0 : Int64) p2))) (FP.l2d ((0 : Int64) + (1 : Int64))))), .second, .val (.long (own_h kb)), .second, .val (.long (own_h kb)), .second] []))
  refine own_go (fun _ own_k => XS.aload X12.here hx rfl (hb hby at_245) rfl rfl own_k) ?_
  show own_Goes p e below (own_End s below _ _) (T12.setTop (mkF m 247 #[.val (.long p1), .second, .val (.long p2), .second, .val (.int p3), .val (.int (0 : Int32)), .val (.int (1 : Int32)), .val (.ref a), .val (.ref a2), .val (.long (own_h 0)), .second, .val (.long (own_h kb)), .second, .val (.double (own_mean ((0 : Int64) + 1) ((0 : Int64) + (own_maxJ (0 : Int64) p2)))), .second, .val (.long (0 : Int64)), .second, .val (.long (own_maxJ (0 : Int64) p2)), .second, .val (.long ((0 : Int64) + (1 : Int64))), .second, .val (.double (FP.ddiv (FP.l2d ((0 : Int64) + (own_maxJ (0 : Int64) p2))) (FP.l2d ((0 : Int64) + (1 : Int64))))), .second, .val (.long (own_h kb)), .second, .val (.long (own_h kb)), .second] [(.ref a)]))
  obtain ⟨v15, T15, L15, X15, ⟨u15, e15, d15⟩, st15⟩ := own_callV X12 hx hZ (y := own_meaN) (z := own_meaN) hown (hw _ (List.mem_of_getElem? (i := 43) rfl)) (hw _ (List.mem_of_getElem? (i := 44) rfl)) (hw _ (List.mem_of_getElem? (i := 46) rfl)) (hw _ (List.mem_of_getElem? (i := 45) rfl)) (hw _ (List.mem_of_getElem? (i := 2) rfl)) (hw _ (List.mem_of_getElem? (i := 47) rfl)) (notFace_of_selects (args := #[]) (mvT hZ (hw _ (List.mem_of_getElem? (i := 46) rfl)))) (by decide) (own_mea l Z a0 hw _ a b _ _ _ V10) rfl V10.1 (W := 0) (by decide) (by decide) (g := (mkF m 247 #[.val (.long p1), .second, .val (.long p2), .second, .val (.int p3), .val (.int (0 : Int32)), .val (.int (1 : Int32)), .val (.ref a), .val (.ref a2), .val (.long (own_h 0)), .second, .val (.long (own_h kb)), .second, .val (.double (own_mean ((0 : Int64) + 1) ((0 : Int64) + (own_maxJ (0 : Int64) p2)))), .second, .val (.long (0 : Int64)), .second, .val (.long (own_maxJ (0 : Int64) p2)), .second, .val (.long ((0 : Int64) + (1 : Int64))), .second, .val (.double (FP.ddiv (FP.l2d ((0 : Int64) + (own_maxJ (0 : Int64) p2))) (FP.l2d ((0 : Int64) + (1 : Int64))))), .second, .val (.long (own_h kb)), .second, .val (.long (own_h kb)), .second] [(.ref a)])) rfl (by rw [hml]; rfl) (argsL := []) (rest := []) pd_D rfl rfl (by show 2 * 0 + _ ≤ _; exact Nat.le_of_eq rfl) (hb hby at_247) rfl (by decide) (by decide)
  subst u15 d15
  rw [List.append_nil] at X15
  refine own_go st15 ?_
  show own_Goes p e below (own_End s below _ _) (T15.setTop (mkF m 250 #[.val (.long p1), .second, .val (.long p2), .second, .val (.int p3), .val (.int (0 : Int32)), .val (.int (1 : Int32)), .val (.ref a), .val (.ref a2), .val (.long (own_h 0)), .second, .val (.long (own_h kb)), .second, .val (.double (own_mean ((0 : Int64) + 1) ((0 : Int64) + (own_maxJ (0 : Int64) p2)))), .second, .val (.long (0 : Int64)), .second, .val (.long (own_maxJ (0 : Int64) p2)), .second, .val (.long ((0 : Int64) + (1 : Int64))), .second, .val (.double (FP.ddiv (FP.l2d ((0 : Int64) + (own_maxJ (0 : Int64) p2))) (FP.l2d ((0 : Int64) + (1 : Int64))))), .second, .val (.long (own_h kb)), .second, .val (.long (own_h kb)), .second] [(.double (own_mean ((0 : Int64) + ((0 : Int64) + 1)) ((0 : Int64) + ((0 : Int64) + (own_maxJ (0 : Int64) p2)))))]))
  rw [← e15] at V10 W10 Y10
  refine own_go (fun _ own_k => XS.dload X15.here hx rfl (hb hby at_250) rfl own_k) ?_
  show own_Goes p e below (own_End s below _ _) (T15.setTop (mkF m 252 #[.val (.long p1), .second, .val (.long p2), .second, .val (.int p3), .val (.int (0 : Int32)), .val (.int (1 : Int32)), .val (.ref a), .val (.ref a2), .val (.long (own_h 0)), .second, .val (.long (own_h kb)), .second, .val (.double (own_mean ((0 : Int64) + 1) ((0 : Int64) + (own_maxJ (0 : Int64) p2)))), .second, .val (.long (0 : Int64)), .second, .val (.long (own_maxJ (0 : Int64) p2)), .second, .val (.long ((0 : Int64) + (1 : Int64))), .second, .val (.double (FP.ddiv (FP.l2d ((0 : Int64) + (own_maxJ (0 : Int64) p2))) (FP.l2d ((0 : Int64) + (1 : Int64))))), .second, .val (.long (own_h kb)), .second, .val (.long (own_h kb)), .second] [(.double (FP.ddiv (FP.l2d ((0 : Int64) + (own_maxJ (0 : Int64) p2))) (FP.l2d ((0 : Int64) + (1 : Int64))))), (.double (own_mean ((0 : Int64) + ((0 : Int64) + 1)) ((0 : Int64) + ((0 : Int64) + (own_maxJ (0 : Int64) p2)))))]))
  refine own_go (fun _ own_k => XS.dcmpS X15.here hx rfl (hb hby at_252) rfl (dcmpV_eq (own_mean_eq (0 : Int64) ((0 : Int64) + (own_maxJ (0 : Int64) p2)) (0 : Int64) (own_maxJ (0 : Int64) p2) ((0 : Int64) + ((0 : Int64) + 1)) ((0 : Int64) + (1 : Int64)) (by decide) (by decide) rfl (own_zadd _)) (own_mean_nn _ _) .l) own_k) ?_
  show own_Goes p e below (own_End s below _ _) (T15.setTop (mkF m 253 #[.val (.long p1), .second, .val (.long p2), .second, .val (.int p3), .val (.int (0 : Int32)), .val (.int (1 : Int32)), .val (.ref a), .val (.ref a2), .val (.long (own_h 0)), .second, .val (.long (own_h kb)), .second, .val (.double (own_mean ((0 : Int64) + 1) ((0 : Int64) + (own_maxJ (0 : Int64) p2)))), .second, .val (.long (0 : Int64)), .second, .val (.long (own_maxJ (0 : Int64) p2)), .second, .val (.long ((0 : Int64) + (1 : Int64))), .second, .val (.double (FP.ddiv (FP.l2d ((0 : Int64) + (own_maxJ (0 : Int64) p2))) (FP.l2d ((0 : Int64) + (1 : Int64))))), .second, .val (.long (own_h kb)), .second, .val (.long (own_h kb)), .second] [(.int (0 : Int32))]))
  refine own_go (fun _ own_k => XS.ifNo X15.here hx rfl (hb hby at_253) rfl (by decide) own_k) ?_
  show own_Goes p e below (own_End s below _ _) (T15.setTop (mkF m 256 #[.val (.long p1), .second, .val (.long p2), .second, .val (.int p3), .val (.int (0 : Int32)), .val (.int (1 : Int32)), .val (.ref a), .val (.ref a2), .val (.long (own_h 0)), .second, .val (.long (own_h kb)), .second, .val (.double (own_mean ((0 : Int64) + 1) ((0 : Int64) + (own_maxJ (0 : Int64) p2)))), .second, .val (.long (0 : Int64)), .second, .val (.long (own_maxJ (0 : Int64) p2)), .second, .val (.long ((0 : Int64) + (1 : Int64))), .second, .val (.double (FP.ddiv (FP.l2d ((0 : Int64) + (own_maxJ (0 : Int64) p2))) (FP.l2d ((0 : Int64) + (1 : Int64))))), .second, .val (.long (own_h kb)), .second, .val (.long (own_h kb)), .second] []))
  refine own_go (fun _ own_k => XS.aload X15.here hx rfl (hb hby at_256) rfl rfl own_k) ?_
  show own_Goes p e below (own_End s below _ _) (T15.setTop (mkF m 258 #[.val (.long p1), .second, .val (.long p2), .second, .val (.int p3), .val (.int (0 : Int32)), .val (.int (1 : Int32)), .val (.ref a), .val (.ref a2), .val (.long (own_h 0)), .second, .val (.long (own_h kb)), .second, .val (.double (own_mean ((0 : Int64) + 1) ((0 : Int64) + (own_maxJ (0 : Int64) p2)))), .second, .val (.long (0 : Int64)), .second, .val (.long (own_maxJ (0 : Int64) p2)), .second, .val (.long ((0 : Int64) + (1 : Int64))), .second, .val (.double (FP.ddiv (FP.l2d ((0 : Int64) + (own_maxJ (0 : Int64) p2))) (FP.l2d ((0 : Int64) + (1 : Int64))))), .second, .val (.long (own_h kb)), .second, .val (.long (own_h kb)), .second] [(.ref a)]))
  refine own_go (fun _ own_k => XS.dconst1 X15.here hx rfl (hb hby at_258) rfl own_k) ?_
  show own_Goes p e below (own_End s below _ _) (T15.setTop (mkF m 259 #[.val (.long p1), .second, .val (.long p2), .second, .val (.int p3), .val (.int (0 : Int32)), .val (.int (1 : Int32)), .val (.ref a), .val (.ref a2), .val (.long (own_h 0)), .second, .val (.long (own_h kb)), .second, .val (.double (own_mean ((0 : Int64) + 1) ((0 : Int64) + (own_maxJ (0 : Int64) p2)))), .second, .val (.long (0 : Int64)), .second, .val (.long (own_maxJ (0 : Int64) p2)), .second, .val (.long ((0 : Int64) + (1 : Int64))), .second, .val (.double (FP.ddiv (FP.l2d ((0 : Int64) + (own_maxJ (0 : Int64) p2))) (FP.l2d ((0 : Int64) + (1 : Int64))))), .second, .val (.long (own_h kb)), .second, .val (.long (own_h kb)), .second] [(.double FP.dconst1), (.ref a)]))
  obtain ⟨v16, T16, L16, X16, ⟨u16, e16, d16⟩, st16⟩ := own_callV X15 hx hZ (y := own_pctN) (z := own_pctN) hown (hw _ (List.mem_of_getElem? (i := 12) rfl)) (hw _ (List.mem_of_getElem? (i := 13) rfl)) (hw _ (List.mem_of_getElem? (i := 15) rfl)) (hw _ (List.mem_of_getElem? (i := 14) rfl)) (hw _ (List.mem_of_getElem? (i := 2) rfl)) (hw _ (List.mem_of_getElem? (i := 16) rfl)) (notFace_of_selects (args := #[]) (mvT hZ (hw _ (List.mem_of_getElem? (i := 15) rfl)))) (by decide) (own_pct l Z a0 hw _ a b _ _ _ FP.dconst1 4607182418800017408 4607182418800017408 1 kb V10 (own_At_zd kbl) (by decide +kernel) own_lit_nn1 (SA.ext Y10.2) own_CE1 (by decide +kernel)) rfl V10.1 (W := 0) (by decide) (by decide) (g := (mkF m 259 #[.val (.long p1), .second, .val (.long p2), .second, .val (.int p3), .val (.int (0 : Int32)), .val (.int (1 : Int32)), .val (.ref a), .val (.ref a2), .val (.long (own_h 0)), .second, .val (.long (own_h kb)), .second, .val (.double (own_mean ((0 : Int64) + 1) ((0 : Int64) + (own_maxJ (0 : Int64) p2)))), .second, .val (.long (0 : Int64)), .second, .val (.long (own_maxJ (0 : Int64) p2)), .second, .val (.long ((0 : Int64) + (1 : Int64))), .second, .val (.double (FP.ddiv (FP.l2d ((0 : Int64) + (own_maxJ (0 : Int64) p2))) (FP.l2d ((0 : Int64) + (1 : Int64))))), .second, .val (.long (own_h kb)), .second, .val (.long (own_h kb)), .second] [(.double FP.dconst1), (.ref a)])) rfl (by rw [hml]; rfl) (argsL := [(.double FP.dconst1)]) (rest := []) pd_DJ rfl rfl (by show 2 * 0 + _ ≤ _; exact Nat.le_of_eq rfl) (hb hby at_259) rfl (by decide) (by decide)
  subst u16 d16
  rw [List.append_nil] at X16
  refine own_go st16 ?_
  show own_Goes p e below (own_End s below _ _) (T16.setTop (mkF m 262 #[.val (.long p1), .second, .val (.long p2), .second, .val (.int p3), .val (.int (0 : Int32)), .val (.int (1 : Int32)), .val (.ref a), .val (.ref a2), .val (.long (own_h 0)), .second, .val (.long (own_h kb)), .second, .val (.double (own_mean ((0 : Int64) + 1) ((0 : Int64) + (own_maxJ (0 : Int64) p2)))), .second, .val (.long (0 : Int64)), .second, .val (.long (own_maxJ (0 : Int64) p2)), .second, .val (.long ((0 : Int64) + (1 : Int64))), .second, .val (.double (FP.ddiv (FP.l2d ((0 : Int64) + (own_maxJ (0 : Int64) p2))) (FP.l2d ((0 : Int64) + (1 : Int64))))), .second, .val (.long (own_h kb)), .second, .val (.long (own_h kb)), .second] [(.long (own_h kb))]))
  rw [← e16] at V10 W10 Y10
  refine own_go (fun _ own_k => XS.lload X16.here hx rfl (hb hby at_262) rfl own_k) ?_
  show own_Goes p e below (own_End s below _ _) (T16.setTop (mkF m 264 #[.val (.long p1), .second, .val (.long p2), .second, .val (.int p3), .val (.int (0 : Int32)), .val (.int (1 : Int32)), .val (.ref a), .val (.ref a2), .val (.long (own_h 0)), .second, .val (.long (own_h kb)), .second, .val (.double (own_mean ((0 : Int64) + 1) ((0 : Int64) + (own_maxJ (0 : Int64) p2)))), .second, .val (.long (0 : Int64)), .second, .val (.long (own_maxJ (0 : Int64) p2)), .second, .val (.long ((0 : Int64) + (1 : Int64))), .second, .val (.double (FP.ddiv (FP.l2d ((0 : Int64) + (own_maxJ (0 : Int64) p2))) (FP.l2d ((0 : Int64) + (1 : Int64))))), .second, .val (.long (own_h kb)), .second, .val (.long (own_h kb)), .second] [(.long (own_h kb)), (.long (own_h kb))]))
  refine own_go (fun _ own_k => XS.lcmp X16.here hx rfl (hb hby at_264) rfl own_k) ?_
  show own_Goes p e below (own_End s below _ _) (T16.setTop (mkF m 265 #[.val (.long p1), .second, .val (.long p2), .second, .val (.int p3), .val (.int (0 : Int32)), .val (.int (1 : Int32)), .val (.ref a), .val (.ref a2), .val (.long (own_h 0)), .second, .val (.long (own_h kb)), .second, .val (.double (own_mean ((0 : Int64) + 1) ((0 : Int64) + (own_maxJ (0 : Int64) p2)))), .second, .val (.long (0 : Int64)), .second, .val (.long (own_maxJ (0 : Int64) p2)), .second, .val (.long ((0 : Int64) + (1 : Int64))), .second, .val (.double (FP.ddiv (FP.l2d ((0 : Int64) + (own_maxJ (0 : Int64) p2))) (FP.l2d ((0 : Int64) + (1 : Int64))))), .second, .val (.long (own_h kb)), .second, .val (.long (own_h kb)), .second] [(.int (lcmpW (own_h kb) (own_h kb)))]))
  refine own_go (fun _ own_k => XS.ifNo X16.here hx rfl (hb hby at_265) rfl (by rw [if0]; exact (teq ((lw_eq _ _).mpr rfl)).2) own_k) ?_
  show own_Goes p e below (own_End s below _ _) (T16.setTop (mkF m 268 #[.val (.long p1), .second, .val (.long p2), .second, .val (.int p3), .val (.int (0 : Int32)), .val (.int (1 : Int32)), .val (.ref a), .val (.ref a2), .val (.long (own_h 0)), .second, .val (.long (own_h kb)), .second, .val (.double (own_mean ((0 : Int64) + 1) ((0 : Int64) + (own_maxJ (0 : Int64) p2)))), .second, .val (.long (0 : Int64)), .second, .val (.long (own_maxJ (0 : Int64) p2)), .second, .val (.long ((0 : Int64) + (1 : Int64))), .second, .val (.double (FP.ddiv (FP.l2d ((0 : Int64) + (own_maxJ (0 : Int64) p2))) (FP.l2d ((0 : Int64) + (1 : Int64))))), .second, .val (.long (own_h kb)), .second, .val (.long (own_h kb)), .second] []))
  refine own_go (fun _ own_k => XS.aload X16.here hx rfl (hb hby at_268) rfl rfl own_k) ?_
  show own_Goes p e below (own_End s below _ _) (T16.setTop (mkF m 270 #[.val (.long p1), .second, .val (.long p2), .second, .val (.int p3), .val (.int (0 : Int32)), .val (.int (1 : Int32)), .val (.ref a), .val (.ref a2), .val (.long (own_h 0)), .second, .val (.long (own_h kb)), .second, .val (.double (own_mean ((0 : Int64) + 1) ((0 : Int64) + (own_maxJ (0 : Int64) p2)))), .second, .val (.long (0 : Int64)), .second, .val (.long (own_maxJ (0 : Int64) p2)), .second, .val (.long ((0 : Int64) + (1 : Int64))), .second, .val (.double (FP.ddiv (FP.l2d ((0 : Int64) + (own_maxJ (0 : Int64) p2))) (FP.l2d ((0 : Int64) + (1 : Int64))))), .second, .val (.long (own_h kb)), .second, .val (.long (own_h kb)), .second] [(.ref a)]))
  refine own_go (Stand.ldc2DoubleC X16 hx hown (mvT hZ (hw _ (List.mem_of_getElem? (i := 55) rfl))) (g := (mkF m 270 #[.val (.long p1), .second, .val (.long p2), .second, .val (.int p3), .val (.int (0 : Int32)), .val (.int (1 : Int32)), .val (.ref a), .val (.ref a2), .val (.long (own_h 0)), .second, .val (.long (own_h kb)), .second, .val (.double (own_mean ((0 : Int64) + 1) ((0 : Int64) + (own_maxJ (0 : Int64) p2)))), .second, .val (.long (0 : Int64)), .second, .val (.long (own_maxJ (0 : Int64) p2)), .second, .val (.long ((0 : Int64) + (1 : Int64))), .second, .val (.double (FP.ddiv (FP.l2d ((0 : Int64) + (own_maxJ (0 : Int64) p2))) (FP.l2d ((0 : Int64) + (1 : Int64))))), .second, .val (.long (own_h kb)), .second, .val (.long (own_h kb)), .second] [(.ref a)])) rfl (hb hby at_270)) ?_
  show own_Goes p e below (own_End s below _ _) (T16.setTop (mkF m 273 #[.val (.long p1), .second, .val (.long p2), .second, .val (.int p3), .val (.int (0 : Int32)), .val (.int (1 : Int32)), .val (.ref a), .val (.ref a2), .val (.long (own_h 0)), .second, .val (.long (own_h kb)), .second, .val (.double (own_mean ((0 : Int64) + 1) ((0 : Int64) + (own_maxJ (0 : Int64) p2)))), .second, .val (.long (0 : Int64)), .second, .val (.long (own_maxJ (0 : Int64) p2)), .second, .val (.long ((0 : Int64) + (1 : Int64))), .second, .val (.double (FP.ddiv (FP.l2d ((0 : Int64) + (own_maxJ (0 : Int64) p2))) (FP.l2d ((0 : Int64) + (1 : Int64))))), .second, .val (.long (own_h kb)), .second, .val (.long (own_h kb)), .second] [(.double 4602678819172646912), (.ref a)]))
  obtain ⟨v17, T17, L17, X17, ⟨u17, e17, d17⟩, st17⟩ := own_callV X16 hx hZ (y := own_pctN) (z := own_pctN) hown (hw _ (List.mem_of_getElem? (i := 12) rfl)) (hw _ (List.mem_of_getElem? (i := 13) rfl)) (hw _ (List.mem_of_getElem? (i := 15) rfl)) (hw _ (List.mem_of_getElem? (i := 14) rfl)) (hw _ (List.mem_of_getElem? (i := 2) rfl)) (hw _ (List.mem_of_getElem? (i := 16) rfl)) (notFace_of_selects (args := #[]) (mvT hZ (hw _ (List.mem_of_getElem? (i := 15) rfl)))) (by decide) (own_pct l Z a0 hw _ a b _ _ _ 4602678819172646912 4602678819172646912 4607182418800017408 1 kb V10 (own_At_zd kbl) (by decide +kernel) own_lit_nnh (SA.ext Y10.2) own_CEh (by decide +kernel)) rfl V10.1 (W := 0) (by decide) (by decide) (g := (mkF m 273 #[.val (.long p1), .second, .val (.long p2), .second, .val (.int p3), .val (.int (0 : Int32)), .val (.int (1 : Int32)), .val (.ref a), .val (.ref a2), .val (.long (own_h 0)), .second, .val (.long (own_h kb)), .second, .val (.double (own_mean ((0 : Int64) + 1) ((0 : Int64) + (own_maxJ (0 : Int64) p2)))), .second, .val (.long (0 : Int64)), .second, .val (.long (own_maxJ (0 : Int64) p2)), .second, .val (.long ((0 : Int64) + (1 : Int64))), .second, .val (.double (FP.ddiv (FP.l2d ((0 : Int64) + (own_maxJ (0 : Int64) p2))) (FP.l2d ((0 : Int64) + (1 : Int64))))), .second, .val (.long (own_h kb)), .second, .val (.long (own_h kb)), .second] [(.double 4602678819172646912), (.ref a)])) rfl (by rw [hml]; rfl) (argsL := [(.double 4602678819172646912)]) (rest := []) pd_DJ rfl rfl (by show 2 * 0 + _ ≤ _; exact Nat.le_of_eq rfl) (hb hby at_273) rfl (by decide) (by decide)
  subst u17 d17
  rw [List.append_nil] at X17
  refine own_go st17 ?_
  show own_Goes p e below (own_End s below _ _) (T17.setTop (mkF m 276 #[.val (.long p1), .second, .val (.long p2), .second, .val (.int p3), .val (.int (0 : Int32)), .val (.int (1 : Int32)), .val (.ref a), .val (.ref a2), .val (.long (own_h 0)), .second, .val (.long (own_h kb)), .second, .val (.double (own_mean ((0 : Int64) + 1) ((0 : Int64) + (own_maxJ (0 : Int64) p2)))), .second, .val (.long (0 : Int64)), .second, .val (.long (own_maxJ (0 : Int64) p2)), .second, .val (.long ((0 : Int64) + (1 : Int64))), .second, .val (.double (FP.ddiv (FP.l2d ((0 : Int64) + (own_maxJ (0 : Int64) p2))) (FP.l2d ((0 : Int64) + (1 : Int64))))), .second, .val (.long (own_h kb)), .second, .val (.long (own_h kb)), .second] [(.long (own_h kb))]))
  rw [← e17] at V10 W10 Y10
  refine own_go (fun _ own_k => XS.lload X17.here hx rfl (hb hby at_276) rfl own_k) ?_
  show own_Goes p e below (own_End s below _ _) (T17.setTop (mkF m 278 #[.val (.long p1), .second, .val (.long p2), .second, .val (.int p3), .val (.int (0 : Int32)), .val (.int (1 : Int32)), .val (.ref a), .val (.ref a2), .val (.long (own_h 0)), .second, .val (.long (own_h kb)), .second, .val (.double (own_mean ((0 : Int64) + 1) ((0 : Int64) + (own_maxJ (0 : Int64) p2)))), .second, .val (.long (0 : Int64)), .second, .val (.long (own_maxJ (0 : Int64) p2)), .second, .val (.long ((0 : Int64) + (1 : Int64))), .second, .val (.double (FP.ddiv (FP.l2d ((0 : Int64) + (own_maxJ (0 : Int64) p2))) (FP.l2d ((0 : Int64) + (1 : Int64))))), .second, .val (.long (own_h kb)), .second, .val (.long (own_h kb)), .second] [(.long (own_h kb)), (.long (own_h kb))]))
  refine own_go (fun _ own_k => XS.lcmp X17.here hx rfl (hb hby at_278) rfl own_k) ?_
  show own_Goes p e below (own_End s below _ _) (T17.setTop (mkF m 279 #[.val (.long p1), .second, .val (.long p2), .second, .val (.int p3), .val (.int (0 : Int32)), .val (.int (1 : Int32)), .val (.ref a), .val (.ref a2), .val (.long (own_h 0)), .second, .val (.long (own_h kb)), .second, .val (.double (own_mean ((0 : Int64) + 1) ((0 : Int64) + (own_maxJ (0 : Int64) p2)))), .second, .val (.long (0 : Int64)), .second, .val (.long (own_maxJ (0 : Int64) p2)), .second, .val (.long ((0 : Int64) + (1 : Int64))), .second, .val (.double (FP.ddiv (FP.l2d ((0 : Int64) + (own_maxJ (0 : Int64) p2))) (FP.l2d ((0 : Int64) + (1 : Int64))))), .second, .val (.long (own_h kb)), .second, .val (.long (own_h kb)), .second] [(.int (lcmpW (own_h kb) (own_h kb)))]))
  refine own_go (fun _ own_k => XS.ifNo X17.here hx rfl (hb hby at_279) rfl (by rw [if0]; exact (teq ((lw_eq _ _).mpr rfl)).2) own_k) ?_
  show own_Goes p e below (own_End s below _ _) (T17.setTop (mkF m 282 #[.val (.long p1), .second, .val (.long p2), .second, .val (.int p3), .val (.int (0 : Int32)), .val (.int (1 : Int32)), .val (.ref a), .val (.ref a2), .val (.long (own_h 0)), .second, .val (.long (own_h kb)), .second, .val (.double (own_mean ((0 : Int64) + 1) ((0 : Int64) + (own_maxJ (0 : Int64) p2)))), .second, .val (.long (0 : Int64)), .second, .val (.long (own_maxJ (0 : Int64) p2)), .second, .val (.long ((0 : Int64) + (1 : Int64))), .second, .val (.double (FP.ddiv (FP.l2d ((0 : Int64) + (own_maxJ (0 : Int64) p2))) (FP.l2d ((0 : Int64) + (1 : Int64))))), .second, .val (.long (own_h kb)), .second, .val (.long (own_h kb)), .second] []))
  refine own_go (fun _ own_k => XS.aload X17.here hx rfl (hb hby at_282) rfl rfl own_k) ?_
  show own_Goes p e below (own_End s below _ _) (T17.setTop (mkF m 284 #[.val (.long p1), .second, .val (.long p2), .second, .val (.int p3), .val (.int (0 : Int32)), .val (.int (1 : Int32)), .val (.ref a), .val (.ref a2), .val (.long (own_h 0)), .second, .val (.long (own_h kb)), .second, .val (.double (own_mean ((0 : Int64) + 1) ((0 : Int64) + (own_maxJ (0 : Int64) p2)))), .second, .val (.long (0 : Int64)), .second, .val (.long (own_maxJ (0 : Int64) p2)), .second, .val (.long ((0 : Int64) + (1 : Int64))), .second, .val (.double (FP.ddiv (FP.l2d ((0 : Int64) + (own_maxJ (0 : Int64) p2))) (FP.l2d ((0 : Int64) + (1 : Int64))))), .second, .val (.long (own_h kb)), .second, .val (.long (own_h kb)), .second] [(.ref a2)]))
  obtain ⟨v18, T18, L18, X18, ⟨u18, e18, d18⟩, st18⟩ := own_callV X17 hx hZ (y := own_meaN) (z := own_meaN) hown (hw _ (List.mem_of_getElem? (i := 43) rfl)) (hw _ (List.mem_of_getElem? (i := 44) rfl)) (hw _ (List.mem_of_getElem? (i := 46) rfl)) (hw _ (List.mem_of_getElem? (i := 45) rfl)) (hw _ (List.mem_of_getElem? (i := 2) rfl)) (hw _ (List.mem_of_getElem? (i := 47) rfl)) (notFace_of_selects (args := #[]) (mvT hZ (hw _ (List.mem_of_getElem? (i := 46) rfl)))) (by decide) (own_mea l Z a0 hw _ a2 b2 _ _ _ W10) rfl W10.1 (W := 0) (by decide) (by decide) (g := (mkF m 284 #[.val (.long p1), .second, .val (.long p2), .second, .val (.int p3), .val (.int (0 : Int32)), .val (.int (1 : Int32)), .val (.ref a), .val (.ref a2), .val (.long (own_h 0)), .second, .val (.long (own_h kb)), .second, .val (.double (own_mean ((0 : Int64) + 1) ((0 : Int64) + (own_maxJ (0 : Int64) p2)))), .second, .val (.long (0 : Int64)), .second, .val (.long (own_maxJ (0 : Int64) p2)), .second, .val (.long ((0 : Int64) + (1 : Int64))), .second, .val (.double (FP.ddiv (FP.l2d ((0 : Int64) + (own_maxJ (0 : Int64) p2))) (FP.l2d ((0 : Int64) + (1 : Int64))))), .second, .val (.long (own_h kb)), .second, .val (.long (own_h kb)), .second] [(.ref a2)])) rfl (by rw [hml]; rfl) (argsL := []) (rest := []) pd_D rfl rfl (by show 2 * 0 + _ ≤ _; exact Nat.le_of_eq rfl) (hb hby at_284) rfl (by decide) (by decide)
  subst u18 d18
  rw [List.append_nil] at X18
  refine own_go st18 ?_
  show own_Goes p e below (own_End s below _ _) (T18.setTop (mkF m 287 #[.val (.long p1), .second, .val (.long p2), .second, .val (.int p3), .val (.int (0 : Int32)), .val (.int (1 : Int32)), .val (.ref a), .val (.ref a2), .val (.long (own_h 0)), .second, .val (.long (own_h kb)), .second, .val (.double (own_mean ((0 : Int64) + 1) ((0 : Int64) + (own_maxJ (0 : Int64) p2)))), .second, .val (.long (0 : Int64)), .second, .val (.long (own_maxJ (0 : Int64) p2)), .second, .val (.long ((0 : Int64) + (1 : Int64))), .second, .val (.double (FP.ddiv (FP.l2d ((0 : Int64) + (own_maxJ (0 : Int64) p2))) (FP.l2d ((0 : Int64) + (1 : Int64))))), .second, .val (.long (own_h kb)), .second, .val (.long (own_h kb)), .second] [(.double (own_mean ((0 : Int64) + 1) ((0 : Int64) + (own_maxJ (0 : Int64) p2))))]))
  rw [← e18] at V10 W10 Y10
  refine own_go (fun _ own_k => XS.dload X18.here hx rfl (hb hby at_287) rfl own_k) ?_
  show own_Goes p e below (own_End s below _ _) (T18.setTop (mkF m 289 #[.val (.long p1), .second, .val (.long p2), .second, .val (.int p3), .val (.int (0 : Int32)), .val (.int (1 : Int32)), .val (.ref a), .val (.ref a2), .val (.long (own_h 0)), .second, .val (.long (own_h kb)), .second, .val (.double (own_mean ((0 : Int64) + 1) ((0 : Int64) + (own_maxJ (0 : Int64) p2)))), .second, .val (.long (0 : Int64)), .second, .val (.long (own_maxJ (0 : Int64) p2)), .second, .val (.long ((0 : Int64) + (1 : Int64))), .second, .val (.double (FP.ddiv (FP.l2d ((0 : Int64) + (own_maxJ (0 : Int64) p2))) (FP.l2d ((0 : Int64) + (1 : Int64))))), .second, .val (.long (own_h kb)), .second, .val (.long (own_h kb)), .second] [(.double (own_mean ((0 : Int64) + 1) ((0 : Int64) + (own_maxJ (0 : Int64) p2)))), (.double (own_mean ((0 : Int64) + 1) ((0 : Int64) + (own_maxJ (0 : Int64) p2))))]))
  refine own_go (fun _ own_k => XS.dcmpS X18.here hx rfl (hb hby at_289) rfl (dcmpV_eq rfl (own_mean_nn _ _) .l) own_k) ?_
  show own_Goes p e below (own_End s below _ _) (T18.setTop (mkF m 290 #[.val (.long p1), .second, .val (.long p2), .second, .val (.int p3), .val (.int (0 : Int32)), .val (.int (1 : Int32)), .val (.ref a), .val (.ref a2), .val (.long (own_h 0)), .second, .val (.long (own_h kb)), .second, .val (.double (own_mean ((0 : Int64) + 1) ((0 : Int64) + (own_maxJ (0 : Int64) p2)))), .second, .val (.long (0 : Int64)), .second, .val (.long (own_maxJ (0 : Int64) p2)), .second, .val (.long ((0 : Int64) + (1 : Int64))), .second, .val (.double (FP.ddiv (FP.l2d ((0 : Int64) + (own_maxJ (0 : Int64) p2))) (FP.l2d ((0 : Int64) + (1 : Int64))))), .second, .val (.long (own_h kb)), .second, .val (.long (own_h kb)), .second] [(.int (0 : Int32))]))
  refine own_go (fun _ own_k => XS.ifNo X18.here hx rfl (hb hby at_290) rfl (by decide) own_k) ?_
  show own_Goes p e below (own_End s below _ _) (T18.setTop (mkF m 293 #[.val (.long p1), .second, .val (.long p2), .second, .val (.int p3), .val (.int (0 : Int32)), .val (.int (1 : Int32)), .val (.ref a), .val (.ref a2), .val (.long (own_h 0)), .second, .val (.long (own_h kb)), .second, .val (.double (own_mean ((0 : Int64) + 1) ((0 : Int64) + (own_maxJ (0 : Int64) p2)))), .second, .val (.long (0 : Int64)), .second, .val (.long (own_maxJ (0 : Int64) p2)), .second, .val (.long ((0 : Int64) + (1 : Int64))), .second, .val (.double (FP.ddiv (FP.l2d ((0 : Int64) + (own_maxJ (0 : Int64) p2))) (FP.l2d ((0 : Int64) + (1 : Int64))))), .second, .val (.long (own_h kb)), .second, .val (.long (own_h kb)), .second] []))
  refine own_go (fun _ own_k => XS.aload X18.here hx rfl (hb hby at_293) rfl rfl own_k) ?_
  show own_Goes p e below (own_End s below _ _) (T18.setTop (mkF m 295 #[.val (.long p1), .second, .val (.long p2), .second, .val (.int p3), .val (.int (0 : Int32)), .val (.int (1 : Int32)), .val (.ref a), .val (.ref a2), .val (.long (own_h 0)), .second, .val (.long (own_h kb)), .second, .val (.double (own_mean ((0 : Int64) + 1) ((0 : Int64) + (own_maxJ (0 : Int64) p2)))), .second, .val (.long (0 : Int64)), .second, .val (.long (own_maxJ (0 : Int64) p2)), .second, .val (.long ((0 : Int64) + (1 : Int64))), .second, .val (.double (FP.ddiv (FP.l2d ((0 : Int64) + (own_maxJ (0 : Int64) p2))) (FP.l2d ((0 : Int64) + (1 : Int64))))), .second, .val (.long (own_h kb)), .second, .val (.long (own_h kb)), .second] [(.ref a2)]))
  refine own_go (fun _ own_k => XS.dconst1 X18.here hx rfl (hb hby at_295) rfl own_k) ?_
  show own_Goes p e below (own_End s below _ _) (T18.setTop (mkF m 296 #[.val (.long p1), .second, .val (.long p2), .second, .val (.int p3), .val (.int (0 : Int32)), .val (.int (1 : Int32)), .val (.ref a), .val (.ref a2), .val (.long (own_h 0)), .second, .val (.long (own_h kb)), .second, .val (.double (own_mean ((0 : Int64) + 1) ((0 : Int64) + (own_maxJ (0 : Int64) p2)))), .second, .val (.long (0 : Int64)), .second, .val (.long (own_maxJ (0 : Int64) p2)), .second, .val (.long ((0 : Int64) + (1 : Int64))), .second, .val (.double (FP.ddiv (FP.l2d ((0 : Int64) + (own_maxJ (0 : Int64) p2))) (FP.l2d ((0 : Int64) + (1 : Int64))))), .second, .val (.long (own_h kb)), .second, .val (.long (own_h kb)), .second] [(.double FP.dconst1), (.ref a2)]))
  obtain ⟨v19, T19, L19, X19, ⟨u19, e19, d19⟩, st19⟩ := own_callV X18 hx hZ (y := own_pctN) (z := own_pctN) hown (hw _ (List.mem_of_getElem? (i := 12) rfl)) (hw _ (List.mem_of_getElem? (i := 13) rfl)) (hw _ (List.mem_of_getElem? (i := 15) rfl)) (hw _ (List.mem_of_getElem? (i := 14) rfl)) (hw _ (List.mem_of_getElem? (i := 2) rfl)) (hw _ (List.mem_of_getElem? (i := 16) rfl)) (notFace_of_selects (args := #[]) (mvT hZ (hw _ (List.mem_of_getElem? (i := 15) rfl)))) (by decide) (own_pct l Z a0 hw _ a2 b2 _ _ _ FP.dconst1 4607182418800017408 4607182418800017408 1 kb W10 (own_At_dl kbl) (by decide +kernel) own_lit_nn1 (SA.ext Y10.2) own_CE1 (by decide +kernel)) rfl W10.1 (W := 0) (by decide) (by decide) (g := (mkF m 296 #[.val (.long p1), .second, .val (.long p2), .second, .val (.int p3), .val (.int (0 : Int32)), .val (.int (1 : Int32)), .val (.ref a), .val (.ref a2), .val (.long (own_h 0)), .second, .val (.long (own_h kb)), .second, .val (.double (own_mean ((0 : Int64) + 1) ((0 : Int64) + (own_maxJ (0 : Int64) p2)))), .second, .val (.long (0 : Int64)), .second, .val (.long (own_maxJ (0 : Int64) p2)), .second, .val (.long ((0 : Int64) + (1 : Int64))), .second, .val (.double (FP.ddiv (FP.l2d ((0 : Int64) + (own_maxJ (0 : Int64) p2))) (FP.l2d ((0 : Int64) + (1 : Int64))))), .second, .val (.long (own_h kb)), .second, .val (.long (own_h kb)), .second] [(.double FP.dconst1), (.ref a2)])) rfl (by rw [hml]; rfl) (argsL := [(.double FP.dconst1)]) (rest := []) pd_DJ rfl rfl (by show 2 * 0 + _ ≤ _; exact Nat.le_of_eq rfl) (hb hby at_296) rfl (by decide) (by decide)
  subst u19 d19
  rw [List.append_nil] at X19
  refine own_go st19 ?_
  show own_Goes p e below (own_End s below _ _) (T19.setTop (mkF m 299 #[.val (.long p1), .second, .val (.long p2), .second, .val (.int p3), .val (.int (0 : Int32)), .val (.int (1 : Int32)), .val (.ref a), .val (.ref a2), .val (.long (own_h 0)), .second, .val (.long (own_h kb)), .second, .val (.double (own_mean ((0 : Int64) + 1) ((0 : Int64) + (own_maxJ (0 : Int64) p2)))), .second, .val (.long (0 : Int64)), .second, .val (.long (own_maxJ (0 : Int64) p2)), .second, .val (.long ((0 : Int64) + (1 : Int64))), .second, .val (.double (FP.ddiv (FP.l2d ((0 : Int64) + (own_maxJ (0 : Int64) p2))) (FP.l2d ((0 : Int64) + (1 : Int64))))), .second, .val (.long (own_h kb)), .second, .val (.long (own_h kb)), .second] [(.long (own_h kb))]))
  refine own_go (fun _ own_k => XS.lload X19.here hx rfl (hb hby at_299) rfl own_k) ?_
  show own_Goes p e below (own_End s below _ _) (T19.setTop (mkF m 301 #[.val (.long p1), .second, .val (.long p2), .second, .val (.int p3), .val (.int (0 : Int32)), .val (.int (1 : Int32)), .val (.ref a), .val (.ref a2), .val (.long (own_h 0)), .second, .val (.long (own_h kb)), .second, .val (.double (own_mean ((0 : Int64) + 1) ((0 : Int64) + (own_maxJ (0 : Int64) p2)))), .second, .val (.long (0 : Int64)), .second, .val (.long (own_maxJ (0 : Int64) p2)), .second, .val (.long ((0 : Int64) + (1 : Int64))), .second, .val (.double (FP.ddiv (FP.l2d ((0 : Int64) + (own_maxJ (0 : Int64) p2))) (FP.l2d ((0 : Int64) + (1 : Int64))))), .second, .val (.long (own_h kb)), .second, .val (.long (own_h kb)), .second] [(.long (own_h kb)), (.long (own_h kb))]))
  refine own_go (fun _ own_k => XS.lcmp X19.here hx rfl (hb hby at_301) rfl own_k) ?_
  show own_Goes p e below (own_End s below _ _) (T19.setTop (mkF m 302 #[.val (.long p1), .second, .val (.long p2), .second, .val (.int p3), .val (.int (0 : Int32)), .val (.int (1 : Int32)), .val (.ref a), .val (.ref a2), .val (.long (own_h 0)), .second, .val (.long (own_h kb)), .second, .val (.double (own_mean ((0 : Int64) + 1) ((0 : Int64) + (own_maxJ (0 : Int64) p2)))), .second, .val (.long (0 : Int64)), .second, .val (.long (own_maxJ (0 : Int64) p2)), .second, .val (.long ((0 : Int64) + (1 : Int64))), .second, .val (.double (FP.ddiv (FP.l2d ((0 : Int64) + (own_maxJ (0 : Int64) p2))) (FP.l2d ((0 : Int64) + (1 : Int64))))), .second, .val (.long (own_h kb)), .second, .val (.long (own_h kb)), .second] [(.int (lcmpW (own_h kb) (own_h kb)))]))
  refine own_go (fun _ own_k => XS.ifNo X19.here hx rfl (hb hby at_302) rfl (by rw [if0]; exact (teq ((lw_eq _ _).mpr rfl)).2) own_k) ?_
  show own_Goes p e below (own_End s below _ _) (T19.setTop (mkF m 305 #[.val (.long p1), .second, .val (.long p2), .second, .val (.int p3), .val (.int (0 : Int32)), .val (.int (1 : Int32)), .val (.ref a), .val (.ref a2), .val (.long (own_h 0)), .second, .val (.long (own_h kb)), .second, .val (.double (own_mean ((0 : Int64) + 1) ((0 : Int64) + (own_maxJ (0 : Int64) p2)))), .second, .val (.long (0 : Int64)), .second, .val (.long (own_maxJ (0 : Int64) p2)), .second, .val (.long ((0 : Int64) + (1 : Int64))), .second, .val (.double (FP.ddiv (FP.l2d ((0 : Int64) + (own_maxJ (0 : Int64) p2))) (FP.l2d ((0 : Int64) + (1 : Int64))))), .second, .val (.long (own_h kb)), .second, .val (.long (own_h kb)), .second] []))
  refine own_go (fun _ own_k => XS.iconst X19.here hx rfl (hb hby at_305) own_k) ?_
  show own_Goes p e below (own_End s below _ _) (T19.setTop (mkF m 306 #[.val (.long p1), .second, .val (.long p2), .second, .val (.int p3), .val (.int (0 : Int32)), .val (.int (1 : Int32)), .val (.ref a), .val (.ref a2), .val (.long (own_h 0)), .second, .val (.long (own_h kb)), .second, .val (.double (own_mean ((0 : Int64) + 1) ((0 : Int64) + (own_maxJ (0 : Int64) p2)))), .second, .val (.long (0 : Int64)), .second, .val (.long (own_maxJ (0 : Int64) p2)), .second, .val (.long ((0 : Int64) + (1 : Int64))), .second, .val (.double (FP.ddiv (FP.l2d ((0 : Int64) + (own_maxJ (0 : Int64) p2))) (FP.l2d ((0 : Int64) + (1 : Int64))))), .second, .val (.long (own_h kb)), .second, .val (.long (own_h kb)), .second] [(.int (1 : Int32))]))
  refine own_go (fun _ own_k => XS.goto X19.here hx rfl (pc0 := 306) (pc' := 310) rfl (hb hby at_306) (by decide) (by decide) own_k) ?_
  show own_Goes p e below (own_End s below _ _) (T19.setTop (mkF m 310 #[.val (.long p1), .second, .val (.long p2), .second, .val (.int p3), .val (.int (0 : Int32)), .val (.int (1 : Int32)), .val (.ref a), .val (.ref a2), .val (.long (own_h 0)), .second, .val (.long (own_h kb)), .second, .val (.double (own_mean ((0 : Int64) + 1) ((0 : Int64) + (own_maxJ (0 : Int64) p2)))), .second, .val (.long (0 : Int64)), .second, .val (.long (own_maxJ (0 : Int64) p2)), .second, .val (.long ((0 : Int64) + (1 : Int64))), .second, .val (.double (FP.ddiv (FP.l2d ((0 : Int64) + (own_maxJ (0 : Int64) p2))) (FP.l2d ((0 : Int64) + (1 : Int64))))), .second, .val (.long (own_h kb)), .second, .val (.long (own_h kb)), .second] [(.int (1 : Int32))]))
  exact own_retZ X19 hx Bd.notSynchronized Bd.returns rfl (hb hby at_310) ⟨rfl, N10⟩ (by decide) (by decide)
set_option maxRecDepth 65536 in
set_option maxHeartbeats 40000000 in
theorem own_case10 (l : Launch) (Z : State) (a0 : Array Value) (hw : ∀ d ∈ tables_1, d.before a0 Z = true) (ws : List Jvm.Cond) (p1 p2 : Int64) (p3 : Int32) (h0 : Heap) (n0 : Nat) (Z0 : n0 ≤ h0.size) (SA : Sta Z Z.heap "java/lang/StrictMath" "$assertionsDisabled" "Z" (.int 1)) (O0 : Old Z n0 h0) (p : Program) (e : Env) (s : State) (m : MethodId) (below : List Frame) (meth : Method) (c : Code) (s₁ : State)
    (Bd : BodyLoose p l x (head1 (Jvm.Cond.code x code maxLocals ret :: ws) room_1) code maxLocals ret e s m #[(.long p1), (.long p2), (.int p3)] below meth c s₁) (hml : c.maxLocals = maxLocals) (hZ : Z.Warmed39 s.vm) (e0 : s₁.heap = h0) :
    own_Goes p e below (own_End s below room_1 (own_Q n0)) (s₁.setTop (mkF m 28 #[.val (.long p1), .second, .val (.long p2), .second, .val (.int p3), .val (.int (1 : Int32)), .val (.int (0 : Int32)), .unset, .unset, .unset, .unset, .unset, .unset, .unset, .unset, .unset, .unset, .unset, .unset, .unset, .unset, .unset, .unset, .unset, .unset, .unset, .unset] [])) := by
  have hx := Bd.exec
  have hby := Bd.bytes
  have hown : s.vm.findClass "com/example/holdfast/holdfast/cli/LatencyHistogramAddPinLaw" = some m.cls := findClass_of_methodNamed Bd.named
  have X0 : Stand p l e room_1 s m #[(.long p1), (.long p2), (.int p3)] below meth c s₁ [] 0 0 := Stand.of_body Bd
  show own_Goes p e below (own_End s below _ _) (s₁.setTop (mkF m 28 #[.val (.long p1), .second, .val (.long p2), .second, .val (.int p3), .val (.int (1 : Int32)), .val (.int (0 : Int32)), .unset, .unset, .unset, .unset, .unset, .unset, .unset, .unset, .unset, .unset, .unset, .unset, .unset, .unset, .unset, .unset, .unset, .unset, .unset, .unset] []))
  have Zp1 := Z0
  obtain ⟨T1, h1, X1, e1, E1, A1, D1, -, st1⟩ := newO X0 hx hZ hown (hw _ (List.mem_of_getElem? (i := 0) rfl)) (hw _ (List.mem_of_getElem? (i := 1) rfl)) (hw _ (List.mem_of_getElem? (i := 2) rfl)) e0 (g := (mkF m 28 #[.val (.long p1), .second, .val (.long p2), .second, .val (.int p3), .val (.int (1 : Int32)), .val (.int (0 : Int32)), .unset, .unset, .unset, .unset, .unset, .unset, .unset, .unset, .unset, .unset, .unset, .unset, .unset, .unset, .unset, .unset, .unset, .unset, .unset, .unset] [])) rfl (hb hby at_28) (by decide) (by decide)
  obtain ⟨a, ga⟩ : ∃ z, z = h0.size := ⟨_, rfl⟩
  rw [← ga] at A1 D1 st1
  have na : n0 ≤ a := by rw [ga]; exact Zp1
  have Zp2 : n0 ≤ h1.size := Nat.le_trans Zp1 E1.1
  refine own_go st1 ?_
  show own_Goes p e below (own_End s below _ _) (T1.setTop (mkF m 31 #[.val (.long p1), .second, .val (.long p2), .second, .val (.int p3), .val (.int (1 : Int32)), .val (.int (0 : Int32)), .unset, .unset, .unset, .unset, .unset, .unset, .unset, .unset, .unset, .unset, .unset, .unset, .unset, .unset, .unset, .unset, .unset, .unset, .unset, .unset] [(.ref a)]))
  refine own_go (fun _ own_k => XS.dup X1.here hx rfl (hb hby at_31) rfl rfl own_k) ?_
  show own_Goes p e below (own_End s below _ _) (T1.setTop (mkF m 32 #[.val (.long p1), .second, .val (.long p2), .second, .val (.int p3), .val (.int (1 : Int32)), .val (.int (0 : Int32)), .unset, .unset, .unset, .unset, .unset, .unset, .unset, .unset, .unset, .unset, .unset, .unset, .unset, .unset, .unset, .unset, .unset, .unset, .unset, .unset] [(.ref a), (.ref a)]))
  obtain ⟨v2, T2, L2, X2, ⟨u2, M2, K2, b, gb, Ha⟩, st2⟩ := own_callI X1 hx hZ (y := own_iniN) rfl hown (hw _ (List.mem_of_getElem? (i := 3) rfl)) (hw _ (List.mem_of_getElem? (i := 4) rfl)) (hw _ (List.mem_of_getElem? (i := 2) rfl)) (hw _ (List.mem_of_getElem? (i := 5) rfl)) (by decide) (own_ini l Z a0 hw h1 n0 a Zp2 na A1 (D1 (Or.inr (hw _ (List.mem_of_getElem? (i := 11) rfl))) (ty := .array .long) (by decide)) (D1 (Or.inl (hw _ (List.mem_of_getElem? (i := 18) rfl))) (ty := .long) (by decide)) (D1 (Or.inl (hw _ (List.mem_of_getElem? (i := 54) rfl))) (ty := .long) (by decide))) e1 (W := 1) (by decide) (by decide) (g := (mkF m 32 #[.val (.long p1), .second, .val (.long p2), .second, .val (.int p3), .val (.int (1 : Int32)), .val (.int (0 : Int32)), .unset, .unset, .unset, .unset, .unset, .unset, .unset, .unset, .unset, .unset, .unset, .unset, .unset, .unset, .unset, .unset, .unset, .unset, .unset, .unset] [(.ref a), (.ref a)])) rfl (by rw [hml]; rfl) (a := a) (argsL := []) (rest := [(.ref a)]) pd_V rfl rfl (by show 2 * 0 + _ ≤ _; exact Nat.le_of_eq rfl) (hb hby at_32) rfl (by decide) (by decide)
  subst u2
  have N2 := Fr.app (Fr.nil n0) M2
  have nb : n0 ≤ b := Nat.le_trans Zp2 gb
  have Y2 := (O0.ext E1).keep K2 (allS na all0)
  have Zp3 : n0 ≤ T2.heap.size := Nat.le_trans Zp2 K2.1
  refine own_go st2 ?_
  show own_Goes p e below (own_End s below _ _) (T2.setTop (mkF m 35 #[.val (.long p1), .second, .val (.long p2), .second, .val (.int p3), .val (.int (1 : Int32)), .val (.int (0 : Int32)), .unset, .unset, .unset, .unset, .unset, .unset, .unset, .unset, .unset, .unset, .unset, .unset, .unset, .unset, .unset, .unset, .unset, .unset, .unset, .unset] [(.ref a)]))
  refine own_go (fun _ own_k => XS.astore X2.here hx rfl (hb hby at_35) rfl rfl (l' := #[.val (.long p1), .second, .val (.long p2), .second, .val (.int p3), .val (.int (1 : Int32)), .val (.int (0 : Int32)), .val (.ref a), .unset, .unset, .unset, .unset, .unset, .unset, .unset, .unset, .unset, .unset, .unset, .unset, .unset, .unset, .unset, .unset, .unset, .unset, .unset]) rfl own_k) ?_
  show own_Goes p e below (own_End s below _ _) (T2.setTop (mkF m 37 #[.val (.long p1), .second, .val (.long p2), .second, .val (.int p3), .val (.int (1 : Int32)), .val (.int (0 : Int32)), .val (.ref a), .unset, .unset, .unset, .unset, .unset, .unset, .unset, .unset, .unset, .unset, .unset, .unset, .unset, .unset, .unset, .unset, .unset, .unset, .unset] []))
  have lt1 := own_H_lt Ha
  obtain ⟨T3, h3, X3, e3, E3, A3, D3, -, st3⟩ := newO X2 hx hZ hown (hw _ (List.mem_of_getElem? (i := 0) rfl)) (hw _ (List.mem_of_getElem? (i := 1) rfl)) (hw _ (List.mem_of_getElem? (i := 2) rfl)) rfl (g := (mkF m 37 #[.val (.long p1), .second, .val (.long p2), .second, .val (.int p3), .val (.int (1 : Int32)), .val (.int (0 : Int32)), .val (.ref a), .unset, .unset, .unset, .unset, .unset, .unset, .unset, .unset, .unset, .unset, .unset, .unset, .unset, .unset, .unset, .unset, .unset, .unset, .unset] [])) rfl (hb hby at_37) (by decide) (by decide)
  obtain ⟨a2, ga2⟩ : ∃ z, z = T2.heap.size := ⟨_, rfl⟩
  rw [← ga2] at A3 D3 st3
  have na2 : n0 ≤ a2 := by rw [ga2]; exact Zp3
  have Zp4 : n0 ≤ h3.size := Nat.le_trans Zp3 E3.1
  refine own_go st3 ?_
  show own_Goes p e below (own_End s below _ _) (T3.setTop (mkF m 40 #[.val (.long p1), .second, .val (.long p2), .second, .val (.int p3), .val (.int (1 : Int32)), .val (.int (0 : Int32)), .val (.ref a), .unset, .unset, .unset, .unset, .unset, .unset, .unset, .unset, .unset, .unset, .unset, .unset, .unset, .unset, .unset, .unset, .unset, .unset, .unset] [(.ref a2)]))
  refine own_go (fun _ own_k => XS.dup X3.here hx rfl (hb hby at_40) rfl rfl own_k) ?_
  show own_Goes p e below (own_End s below _ _) (T3.setTop (mkF m 41 #[.val (.long p1), .second, .val (.long p2), .second, .val (.int p3), .val (.int (1 : Int32)), .val (.int (0 : Int32)), .val (.ref a), .unset, .unset, .unset, .unset, .unset, .unset, .unset, .unset, .unset, .unset, .unset, .unset, .unset, .unset, .unset, .unset, .unset, .unset, .unset] [(.ref a2), (.ref a2)]))
  obtain ⟨v4, T4, L4, X4, ⟨u4, M4, K4, b2, gb2, Hb⟩, st4⟩ := own_callI X3 hx hZ (y := own_iniN) rfl hown (hw _ (List.mem_of_getElem? (i := 3) rfl)) (hw _ (List.mem_of_getElem? (i := 4) rfl)) (hw _ (List.mem_of_getElem? (i := 2) rfl)) (hw _ (List.mem_of_getElem? (i := 5) rfl)) (by decide) (own_ini l Z a0 hw h3 n0 a2 Zp4 na2 A3 (D3 (Or.inr (hw _ (List.mem_of_getElem? (i := 11) rfl))) (ty := .array .long) (by decide)) (D3 (Or.inl (hw _ (List.mem_of_getElem? (i := 18) rfl))) (ty := .long) (by decide)) (D3 (Or.inl (hw _ (List.mem_of_getElem? (i := 54) rfl))) (ty := .long) (by decide))) e3 (W := 1) (by decide) (by decide) (g := (mkF m 41 #[.val (.long p1), .second, .val (.long p2), .second, .val (.int p3), .val (.int (1 : Int32)), .val (.int (0 : Int32)), .val (.ref a), .unset, .unset, .unset, .unset, .unset, .unset, .unset, .unset, .unset, .unset, .unset, .unset, .unset, .unset, .unset, .unset, .unset, .unset, .unset] [(.ref a2), (.ref a2)])) rfl (by rw [hml]; rfl) (a := a2) (argsL := []) (rest := [(.ref a2)]) pd_V rfl rfl (by show 2 * 0 + _ ≤ _; exact Nat.le_of_eq rfl) (hb hby at_41) rfl (by decide) (by decide)
  subst u4
  have N4 := Fr.app N2 M4
  have nb2 : n0 ≤ b2 := Nat.le_trans Zp4 gb2
  have Y4 := (Y2.ext E3).keep K4 (allS na2 all0)
  have Zp5 : n0 ≤ T4.heap.size := Nat.le_trans Zp4 K4.1
  refine own_go st4 ?_
  show own_Goes p e below (own_End s below _ _) (T4.setTop (mkF m 44 #[.val (.long p1), .second, .val (.long p2), .second, .val (.int p3), .val (.int (1 : Int32)), .val (.int (0 : Int32)), .val (.ref a), .unset, .unset, .unset, .unset, .unset, .unset, .unset, .unset, .unset, .unset, .unset, .unset, .unset, .unset, .unset, .unset, .unset, .unset, .unset] [(.ref a2)]))
  have nea : a ∉ [a2] ∧ b ∉ [a2] := ⟨ninS (by rw [ga2]; exact Nat.ne_of_lt lt1.1) nin0, ninS (by rw [ga2]; exact Nat.ne_of_lt lt1.2) nin0⟩
  have Ha3 : own_H Z h3 a b (fun _ => 0) 0 0 := own_H_keep Ha ((Keep.refl _ ([] : List Addr)).ext E3) nin0 nin0
  have Ha4 : own_H Z T4.heap a b (fun _ => 0) 0 0 := own_H_keep Ha3 K4 nea.1 nea.2
  have lt3 := own_H_lt Ha3
  have q1 : a2 ∉ [a, b] := ninS (by rw [ga2]; exact (Nat.ne_of_lt lt1.1).symm) (ninS (by rw [ga2]; exact (Nat.ne_of_lt lt1.2).symm) nin0)
  have q2 : b2 ∉ [a, b] := ninS (Nat.ne_of_gt (Nat.lt_of_lt_of_le lt3.1 gb2)) (ninS (Nat.ne_of_gt (Nat.lt_of_lt_of_le lt3.2 gb2)) nin0)
  have q3 : a ∉ [a2, b2] := ninS (by rw [ga2]; exact Nat.ne_of_lt lt1.1) (ninS (Nat.ne_of_lt (Nat.lt_of_lt_of_le lt3.1 gb2)) nin0)
  have q4 : b ∉ [a2, b2] := ninS (by rw [ga2]; exact Nat.ne_of_lt lt1.2) (ninS (Nat.ne_of_lt (Nat.lt_of_lt_of_le lt3.2 gb2)) nin0)
  refine own_go (fun _ own_k => XS.astore X4.here hx rfl (hb hby at_44) rfl rfl (l' := #[.val (.long p1), .second, .val (.long p2), .second, .val (.int p3), .val (.int (1 : Int32)), .val (.int (0 : Int32)), .val (.ref a), .val (.ref a2), .unset, .unset, .unset, .unset, .unset, .unset, .unset, .unset, .unset, .unset, .unset, .unset, .unset, .unset, .unset, .unset, .unset, .unset]) rfl own_k) ?_
  show own_Goes p e below (own_End s below _ _) (T4.setTop (mkF m 46 #[.val (.long p1), .second, .val (.long p2), .second, .val (.int p3), .val (.int (1 : Int32)), .val (.int (0 : Int32)), .val (.ref a), .val (.ref a2), .unset, .unset, .unset, .unset, .unset, .unset, .unset, .unset, .unset, .unset, .unset, .unset, .unset, .unset, .unset, .unset, .unset, .unset] []))
  refine own_go (fun _ own_k => XS.iload X4.here hx rfl (hb hby at_46) rfl own_k) ?_
  show own_Goes p e below (own_End s below _ _) (T4.setTop (mkF m 48 #[.val (.long p1), .second, .val (.long p2), .second, .val (.int p3), .val (.int (1 : Int32)), .val (.int (0 : Int32)), .val (.ref a), .val (.ref a2), .unset, .unset, .unset, .unset, .unset, .unset, .unset, .unset, .unset, .unset, .unset, .unset, .unset, .unset, .unset, .unset, .unset, .unset] [(.int (1 : Int32))]))
  refine own_go (fun _ own_k => XS.ifNo X4.here hx rfl (hb hby at_48) rfl (by decide) own_k) ?_
  show own_Goes p e below (own_End s below _ _) (T4.setTop (mkF m 51 #[.val (.long p1), .second, .val (.long p2), .second, .val (.int p3), .val (.int (1 : Int32)), .val (.int (0 : Int32)), .val (.ref a), .val (.ref a2), .unset, .unset, .unset, .unset, .unset, .unset, .unset, .unset, .unset, .unset, .unset, .unset, .unset, .unset, .unset, .unset, .unset, .unset] []))
  refine own_go (fun _ own_k => XS.aload X4.here hx rfl (hb hby at_51) rfl rfl own_k) ?_
  show own_Goes p e below (own_End s below _ _) (T4.setTop (mkF m 53 #[.val (.long p1), .second, .val (.long p2), .second, .val (.int p3), .val (.int (1 : Int32)), .val (.int (0 : Int32)), .val (.ref a), .val (.ref a2), .unset, .unset, .unset, .unset, .unset, .unset, .unset, .unset, .unset, .unset, .unset, .unset, .unset, .unset, .unset, .unset, .unset, .unset] [(.ref a)]))
  refine own_go (fun _ own_k => XS.lloadN X4.here hx rfl (hb hby at_53) rfl own_k) ?_
  show own_Goes p e below (own_End s below _ _) (T4.setTop (mkF m 54 #[.val (.long p1), .second, .val (.long p2), .second, .val (.int p3), .val (.int (1 : Int32)), .val (.int (0 : Int32)), .val (.ref a), .val (.ref a2), .unset, .unset, .unset, .unset, .unset, .unset, .unset, .unset, .unset, .unset, .unset, .unset, .unset, .unset, .unset, .unset, .unset, .unset] [(.long p1), (.ref a)]))
  obtain ⟨v5, T5, L5, X5, ⟨u5, M5, K5, ka, kal, G5⟩, st5⟩ := own_callV X4 hx hZ (y := own_recN) (z := own_recN) hown (hw _ (List.mem_of_getElem? (i := 56) rfl)) (hw _ (List.mem_of_getElem? (i := 57) rfl)) (hw _ (List.mem_of_getElem? (i := 59) rfl)) (hw _ (List.mem_of_getElem? (i := 58) rfl)) (hw _ (List.mem_of_getElem? (i := 2) rfl)) (hw _ (List.mem_of_getElem? (i := 60) rfl)) (notFace_of_selects (args := #[]) (mvT hZ (hw _ (List.mem_of_getElem? (i := 59) rfl)))) (by decide) (own_rec l Z a0 hw _ n0 a b _ _ _ p1 na nb Ha4) rfl Ha4.1 (W := 0) (by decide) (by decide) (g := (mkF m 54 #[.val (.long p1), .second, .val (.long p2), .second, .val (.int p3), .val (.int (1 : Int32)), .val (.int (0 : Int32)), .val (.ref a), .val (.ref a2), .unset, .unset, .unset, .unset, .unset, .unset, .unset, .unset, .unset, .unset, .unset, .unset, .unset, .unset, .unset, .unset, .unset, .unset] [(.long p1), (.ref a)])) rfl (by rw [hml]; rfl) (argsL := [(.long p1)]) (rest := []) pd_JV rfl rfl (by show 2 * 0 + _ ≤ _; exact Nat.le_of_eq rfl) (hb hby at_54) rfl (by decide) (by decide)
  subst u5
  have N5 := Fr.app N4 M5
  have Y5 := Y4.keep K5 (allS na (allS nb all0))
  have O5 := own_H_keep Hb K5 q1 q2
  have Q5 := own_H_congr G5 (f' := own_dl ka) (fun t _ => own_dl_of ka t)
  refine own_go st5 ?_
  show own_Goes p e below (own_End s below _ _) (T5.setTop (mkF m 57 #[.val (.long p1), .second, .val (.long p2), .second, .val (.int p3), .val (.int (1 : Int32)), .val (.int (0 : Int32)), .val (.ref a), .val (.ref a2), .unset, .unset, .unset, .unset, .unset, .unset, .unset, .unset, .unset, .unset, .unset, .unset, .unset, .unset, .unset, .unset, .unset, .unset] []))
  refine own_go (fun _ own_k => XS.iload X5.here hx rfl (hb hby at_57) rfl own_k) ?_
  show own_Goes p e below (own_End s below _ _) (T5.setTop (mkF m 59 #[.val (.long p1), .second, .val (.long p2), .second, .val (.int p3), .val (.int (1 : Int32)), .val (.int (0 : Int32)), .val (.ref a), .val (.ref a2), .unset, .unset, .unset, .unset, .unset, .unset, .unset, .unset, .unset, .unset, .unset, .unset, .unset, .unset, .unset, .unset, .unset, .unset] [(.int (0 : Int32))]))
  refine own_go (fun _ own_k => XS.ifYes X5.here hx rfl (pc0 := 59) (pc' := 68) rfl (hb hby at_59) rfl (by decide) (by decide) (by decide) own_k) ?_
  show own_Goes p e below (own_End s below _ _) (T5.setTop (mkF m 68 #[.val (.long p1), .second, .val (.long p2), .second, .val (.int p3), .val (.int (1 : Int32)), .val (.int (0 : Int32)), .val (.ref a), .val (.ref a2), .unset, .unset, .unset, .unset, .unset, .unset, .unset, .unset, .unset, .unset, .unset, .unset, .unset, .unset, .unset, .unset, .unset, .unset] []))
  have Ua : own_H Z T5.heap a b (own_dl ka) ((0 : Int64) + 1) ((0 : Int64) + (own_maxJ (0 : Int64) p1)) := Q5
  have Ub : own_H Z T5.heap a2 b2 own_zr (0 : Int64) (0 : Int64) := O5
  refine own_go (fun _ own_k => XS.aload X5.here hx rfl (hb hby at_68) rfl rfl own_k) ?_
  show own_Goes p e below (own_End s below _ _) (T5.setTop (mkF m 70 #[.val (.long p1), .second, .val (.long p2), .second, .val (.int p3), .val (.int (1 : Int32)), .val (.int (0 : Int32)), .val (.ref a), .val (.ref a2), .unset, .unset, .unset, .unset, .unset, .unset, .unset, .unset, .unset, .unset, .unset, .unset, .unset, .unset, .unset, .unset, .unset, .unset] [(.ref a)]))
  refine own_go (fun _ own_k => XS.dconst1 X5.here hx rfl (hb hby at_70) rfl own_k) ?_
  show own_Goes p e below (own_End s below _ _) (T5.setTop (mkF m 71 #[.val (.long p1), .second, .val (.long p2), .second, .val (.int p3), .val (.int (1 : Int32)), .val (.int (0 : Int32)), .val (.ref a), .val (.ref a2), .unset, .unset, .unset, .unset, .unset, .unset, .unset, .unset, .unset, .unset, .unset, .unset, .unset, .unset, .unset, .unset, .unset, .unset] [(.double FP.dconst1), (.ref a)]))
  obtain ⟨v7, T7, L7, X7, ⟨u7, e7, d7⟩, st7⟩ := own_callV X5 hx hZ (y := own_pctN) (z := own_pctN) hown (hw _ (List.mem_of_getElem? (i := 12) rfl)) (hw _ (List.mem_of_getElem? (i := 13) rfl)) (hw _ (List.mem_of_getElem? (i := 15) rfl)) (hw _ (List.mem_of_getElem? (i := 14) rfl)) (hw _ (List.mem_of_getElem? (i := 2) rfl)) (hw _ (List.mem_of_getElem? (i := 16) rfl)) (notFace_of_selects (args := #[]) (mvT hZ (hw _ (List.mem_of_getElem? (i := 15) rfl)))) (by decide) (own_pct l Z a0 hw _ a b _ _ _ FP.dconst1 4607182418800017408 4607182418800017408 1 ka Ua (own_At_dl kal) (by decide +kernel) own_lit_nn1 (SA.ext Y5.2) own_CE1 (by decide +kernel)) rfl Ua.1 (W := 0) (by decide) (by decide) (g := (mkF m 71 #[.val (.long p1), .second, .val (.long p2), .second, .val (.int p3), .val (.int (1 : Int32)), .val (.int (0 : Int32)), .val (.ref a), .val (.ref a2), .unset, .unset, .unset, .unset, .unset, .unset, .unset, .unset, .unset, .unset, .unset, .unset, .unset, .unset, .unset, .unset, .unset, .unset] [(.double FP.dconst1), (.ref a)])) rfl (by rw [hml]; rfl) (argsL := [(.double FP.dconst1)]) (rest := []) pd_DJ rfl rfl (by show 2 * 0 + _ ≤ _; exact Nat.le_of_eq rfl) (hb hby at_71) rfl (by decide) (by decide)
  subst u7 d7
  rw [List.append_nil] at X7
  refine own_go st7 ?_
  show own_Goes p e below (own_End s below _ _) (T7.setTop (mkF m 74 #[.val (.long p1), .second, .val (.long p2), .second, .val (.int p3), .val (.int (1 : Int32)), .val (.int (0 : Int32)), .val (.ref a), .val (.ref a2), .unset, .unset, .unset, .unset, .unset, .unset, .unset, .unset, .unset, .unset, .unset, .unset, .unset, .unset, .unset, .unset, .unset, .unset] [(.long (own_h ka))]))
  rw [← e7] at Ua Ub Y5
  refine own_go (fun _ own_k => XS.lstore X7.here hx rfl (hb hby at_74) rfl (l' := #[.val (.long p1), .second, .val (.long p2), .second, .val (.int p3), .val (.int (1 : Int32)), .val (.int (0 : Int32)), .val (.ref a), .val (.ref a2), .val (.long (own_h ka)), .second, .unset, .unset, .unset, .unset, .unset, .unset, .unset, .unset, .unset, .unset, .unset, .unset, .unset, .unset, .unset, .unset]) rfl own_k) ?_
  show own_Goes p e below (own_End s below _ _) (T7.setTop (mkF m 76 #[.val (.long p1), .second, .val (.long p2), .second, .val (.int p3), .val (.int (1 : Int32)), .val (.int (0 : Int32)), .val (.ref a), .val (.ref a2), .val (.long (own_h ka)), .second, .unset, .unset, .unset, .unset, .unset, .unset, .unset, .unset, .unset, .unset, .unset, .unset, .unset, .unset, .unset, .unset] []))
  refine own_go (fun _ own_k => XS.aload X7.here hx rfl (hb hby at_76) rfl rfl own_k) ?_
  show own_Goes p e below (own_End s below _ _) (T7.setTop (mkF m 78 #[.val (.long p1), .second, .val (.long p2), .second, .val (.int p3), .val (.int (1 : Int32)), .val (.int (0 : Int32)), .val (.ref a), .val (.ref a2), .val (.long (own_h ka)), .second, .unset, .unset, .unset, .unset, .unset, .unset, .unset, .unset, .unset, .unset, .unset, .unset, .unset, .unset, .unset, .unset] [(.ref a2)]))
  refine own_go (fun _ own_k => XS.dconst1 X7.here hx rfl (hb hby at_78) rfl own_k) ?_
  show own_Goes p e below (own_End s below _ _) (T7.setTop (mkF m 79 #[.val (.long p1), .second, .val (.long p2), .second, .val (.int p3), .val (.int (1 : Int32)), .val (.int (0 : Int32)), .val (.ref a), .val (.ref a2), .val (.long (own_h ka)), .second, .unset, .unset, .unset, .unset, .unset, .unset, .unset, .unset, .unset, .unset, .unset, .unset, .unset, .unset, .unset, .unset] [(.double FP.dconst1), (.ref a2)]))
  obtain ⟨v8, T8, L8, X8, ⟨u8, e8, d8⟩, st8⟩ := own_callV X7 hx hZ (y := own_pctN) (z := own_pctN) hown (hw _ (List.mem_of_getElem? (i := 12) rfl)) (hw _ (List.mem_of_getElem? (i := 13) rfl)) (hw _ (List.mem_of_getElem? (i := 15) rfl)) (hw _ (List.mem_of_getElem? (i := 14) rfl)) (hw _ (List.mem_of_getElem? (i := 2) rfl)) (hw _ (List.mem_of_getElem? (i := 16) rfl)) (notFace_of_selects (args := #[]) (mvT hZ (hw _ (List.mem_of_getElem? (i := 15) rfl)))) (by decide) (own_pct l Z a0 hw _ a2 b2 _ _ _ FP.dconst1 0 0 0 0 Ub own_At_zr (by decide +kernel) own_lit_nn0 (SA.ext Y5.2) own_CE0 (by decide +kernel)) rfl Ub.1 (W := 0) (by decide) (by decide) (g := (mkF m 79 #[.val (.long p1), .second, .val (.long p2), .second, .val (.int p3), .val (.int (1 : Int32)), .val (.int (0 : Int32)), .val (.ref a), .val (.ref a2), .val (.long (own_h ka)), .second, .unset, .unset, .unset, .unset, .unset, .unset, .unset, .unset, .unset, .unset, .unset, .unset, .unset, .unset, .unset, .unset] [(.double FP.dconst1), (.ref a2)])) rfl (by rw [hml]; rfl) (argsL := [(.double FP.dconst1)]) (rest := []) pd_DJ rfl rfl (by show 2 * 0 + _ ≤ _; exact Nat.le_of_eq rfl) (hb hby at_79) rfl (by decide) (by decide)
  subst u8 d8
  rw [List.append_nil] at X8
  refine own_go st8 ?_
  show own_Goes p e below (own_End s below _ _) (T8.setTop (mkF m 82 #[.val (.long p1), .second, .val (.long p2), .second, .val (.int p3), .val (.int (1 : Int32)), .val (.int (0 : Int32)), .val (.ref a), .val (.ref a2), .val (.long (own_h ka)), .second, .unset, .unset, .unset, .unset, .unset, .unset, .unset, .unset, .unset, .unset, .unset, .unset, .unset, .unset, .unset, .unset] [(.long (own_h 0))]))
  rw [← e8] at Ua Ub Y5
  refine own_go (fun _ own_k => XS.lstore X8.here hx rfl (hb hby at_82) rfl (l' := #[.val (.long p1), .second, .val (.long p2), .second, .val (.int p3), .val (.int (1 : Int32)), .val (.int (0 : Int32)), .val (.ref a), .val (.ref a2), .val (.long (own_h ka)), .second, .val (.long (own_h 0)), .second, .unset, .unset, .unset, .unset, .unset, .unset, .unset, .unset, .unset, .unset, .unset, .unset, .unset, .unset]) rfl own_k) ?_
  show own_Goes p e below (own_End s below _ _) (T8.setTop (mkF m 84 #[.val (.long p1), .second, .val (.long p2), .second, .val (.int p3), .val (.int (1 : Int32)), .val (.int (0 : Int32)), .val (.ref a), .val (.ref a2), .val (.long (own_h ka)), .second, .val (.long (own_h 0)), .second, .unset, .unset, .unset, .unset, .unset, .unset, .unset, .unset, .unset, .unset, .unset, .unset, .unset, .unset] []))
  refine own_go (fun _ own_k => XS.aload X8.here hx rfl (hb hby at_84) rfl rfl own_k) ?_
  show own_Goes p e below (own_End s below _ _) (T8.setTop (mkF m 86 #[.val (.long p1), .second, .val (.long p2), .second, .val (.int p3), .val (.int (1 : Int32)), .val (.int (0 : Int32)), .val (.ref a), .val (.ref a2), .val (.long (own_h ka)), .second, .val (.long (own_h 0)), .second, .unset, .unset, .unset, .unset, .unset, .unset, .unset, .unset, .unset, .unset, .unset, .unset, .unset, .unset] [(.ref a2)]))
  obtain ⟨v9, T9, L9, X9, ⟨u9, e9, d9⟩, st9⟩ := own_callV X8 hx hZ (y := own_meaN) (z := own_meaN) hown (hw _ (List.mem_of_getElem? (i := 43) rfl)) (hw _ (List.mem_of_getElem? (i := 44) rfl)) (hw _ (List.mem_of_getElem? (i := 46) rfl)) (hw _ (List.mem_of_getElem? (i := 45) rfl)) (hw _ (List.mem_of_getElem? (i := 2) rfl)) (hw _ (List.mem_of_getElem? (i := 47) rfl)) (notFace_of_selects (args := #[]) (mvT hZ (hw _ (List.mem_of_getElem? (i := 46) rfl)))) (by decide) (own_mea l Z a0 hw _ a2 b2 _ _ _ Ub) rfl Ub.1 (W := 0) (by decide) (by decide) (g := (mkF m 86 #[.val (.long p1), .second, .val (.long p2), .second, .val (.int p3), .val (.int (1 : Int32)), .val (.int (0 : Int32)), .val (.ref a), .val (.ref a2), .val (.long (own_h ka)), .second, .val (.long (own_h 0)), .second, .unset, .unset, .unset, .unset, .unset, .unset, .unset, .unset, .unset, .unset, .unset, .unset, .unset, .unset] [(.ref a2)])) rfl (by rw [hml]; rfl) (argsL := []) (rest := []) pd_D rfl rfl (by show 2 * 0 + _ ≤ _; exact Nat.le_of_eq rfl) (hb hby at_86) rfl (by decide) (by decide)
  subst u9 d9
  rw [List.append_nil] at X9
  refine own_go st9 ?_
  show own_Goes p e below (own_End s below _ _) (T9.setTop (mkF m 89 #[.val (.long p1), .second, .val (.long p2), .second, .val (.int p3), .val (.int (1 : Int32)), .val (.int (0 : Int32)), .val (.ref a), .val (.ref a2), .val (.long (own_h ka)), .second, .val (.long (own_h 0)), .second, .unset, .unset, .unset, .unset, .unset, .unset, .unset, .unset, .unset, .unset, .unset, .unset, .unset, .unset] [(.double (own_mean (0 : Int64) (0 : Int64)))]))
  rw [← e9] at Ua Ub Y5
  refine own_go (fun _ own_k => XS.dstore X9.here hx rfl (hb hby at_89) rfl (l' := #[.val (.long p1), .second, .val (.long p2), .second, .val (.int p3), .val (.int (1 : Int32)), .val (.int (0 : Int32)), .val (.ref a), .val (.ref a2), .val (.long (own_h ka)), .second, .val (.long (own_h 0)), .second, .val (.double (own_mean (0 : Int64) (0 : Int64))), .second, .unset, .unset, .unset, .unset, .unset, .unset, .unset, .unset, .unset, .unset, .unset, .unset]) rfl own_k) ?_
  show own_Goes p e below (own_End s below _ _) (T9.setTop (mkF m 91 #[.val (.long p1), .second, .val (.long p2), .second, .val (.int p3), .val (.int (1 : Int32)), .val (.int (0 : Int32)), .val (.ref a), .val (.ref a2), .val (.long (own_h ka)), .second, .val (.long (own_h 0)), .second, .val (.double (own_mean (0 : Int64) (0 : Int64))), .second, .unset, .unset, .unset, .unset, .unset, .unset, .unset, .unset, .unset, .unset, .unset, .unset] []))
  refine own_go (fun _ own_k => XS.aload X9.here hx rfl (hb hby at_91) rfl rfl own_k) ?_
  show own_Goes p e below (own_End s below _ _) (T9.setTop (mkF m 93 #[.val (.long p1), .second, .val (.long p2), .second, .val (.int p3), .val (.int (1 : Int32)), .val (.int (0 : Int32)), .val (.ref a), .val (.ref a2), .val (.long (own_h ka)), .second, .val (.long (own_h 0)), .second, .val (.double (own_mean (0 : Int64) (0 : Int64))), .second, .unset, .unset, .unset, .unset, .unset, .unset, .unset, .unset, .unset, .unset, .unset, .unset] [(.ref a)]))
  refine own_go (fun _ own_k => XS.aload X9.here hx rfl (hb hby at_93) rfl rfl own_k) ?_
  show own_Goes p e below (own_End s below _ _) (T9.setTop (mkF m 95 #[.val (.long p1), .second, .val (.long p2), .second, .val (.int p3), .val (.int (1 : Int32)), .val (.int (0 : Int32)), .val (.ref a), .val (.ref a2), .val (.long (own_h ka)), .second, .val (.long (own_h 0)), .second, .val (.double (own_mean (0 : Int64) (0 : Int64))), .second, .unset, .unset, .unset, .unset, .unset, .unset, .unset, .unset, .unset, .unset, .unset, .unset] [(.ref a2), (.ref a)]))
  obtain ⟨v10, T10, L10, X10, ⟨u10, M10, K10, V10⟩, st10⟩ := own_callV X9 hx hZ (y := own_addN) (z := own_addN) hown (hw _ (List.mem_of_getElem? (i := 48) rfl)) (hw _ (List.mem_of_getElem? (i := 49) rfl)) (hw _ (List.mem_of_getElem? (i := 51) rfl)) (hw _ (List.mem_of_getElem? (i := 50) rfl)) (hw _ (List.mem_of_getElem? (i := 2) rfl)) (hw _ (List.mem_of_getElem? (i := 52) rfl)) (notFace_of_selects (args := #[]) (mvT hZ (hw _ (List.mem_of_getElem? (i := 51) rfl)))) (by decide) (own_add l Z a0 hw _ n0 a b a2 b2 _ _ _ _ _ _ na nb q1 q2 Ua Ub) rfl Ua.1 (W := 0) (by decide) (by decide) (g := (mkF m 95 #[.val (.long p1), .second, .val (.long p2), .second, .val (.int p3), .val (.int (1 : Int32)), .val (.int (0 : Int32)), .val (.ref a), .val (.ref a2), .val (.long (own_h ka)), .second, .val (.long (own_h 0)), .second, .val (.double (own_mean (0 : Int64) (0 : Int64))), .second, .unset, .unset, .unset, .unset, .unset, .unset, .unset, .unset, .unset, .unset, .unset, .unset] [(.ref a2), (.ref a)])) rfl (by rw [hml]; rfl) (argsL := [(.ref a2)]) (rest := []) pd_HV rfl rfl (by show 2 * 0 + _ ≤ _; exact Nat.le_of_eq rfl) (hb hby at_95) rfl (by decide) (by decide)
  subst u10
  have N10 := Fr.app N5 M10
  have Y10 := Y5.keep K10 (allS na (allS nb all0))
  have W10 := own_H_keep Ub K10 q1 q2
  refine own_go st10 ?_
  show own_Goes p e below (own_End s below _ _) (T10.setTop (mkF m 98 #[.val (.long p1), .second, .val (.long p2), .second, .val (.int p3), .val (.int (1 : Int32)), .val (.int (0 : Int32)), .val (.ref a), .val (.ref a2), .val (.long (own_h ka)), .second, .val (.long (own_h 0)), .second, .val (.double (own_mean (0 : Int64) (0 : Int64))), .second, .unset, .unset, .unset, .unset, .unset, .unset, .unset, .unset, .unset, .unset, .unset, .unset] []))
  refine own_go (fun _ own_k => XS.iload X10.here hx rfl (hb hby at_98) rfl own_k) ?_
  show own_Goes p e below (own_End s below _ _) (T10.setTop (mkF m 100 #[.val (.long p1), .second, .val (.long p2), .second, .val (.int p3), .val (.int (1 : Int32)), .val (.int (0 : Int32)), .val (.ref a), .val (.ref a2), .val (.long (own_h ka)), .second, .val (.long (own_h 0)), .second, .val (.double (own_mean (0 : Int64) (0 : Int64))), .second, .unset, .unset, .unset, .unset, .unset, .unset, .unset, .unset, .unset, .unset, .unset, .unset] [(.int (1 : Int32))]))
  refine own_go (fun _ own_k => XS.ifNo X10.here hx rfl (hb hby at_100) rfl (by decide) own_k) ?_
  show own_Goes p e below (own_End s below _ _) (T10.setTop (mkF m 103 #[.val (.long p1), .second, .val (.long p2), .second, .val (.int p3), .val (.int (1 : Int32)), .val (.int (0 : Int32)), .val (.ref a), .val (.ref a2), .val (.long (own_h ka)), .second, .val (.long (own_h 0)), .second, .val (.double (own_mean (0 : Int64) (0 : Int64))), .second, .unset, .unset, .unset, .unset, .unset, .unset, .unset, .unset, .unset, .unset, .unset, .unset] []))
  refine own_go (fun _ own_k => XS.lconst X10.here hx rfl (hb hby at_103) own_k) ?_
  show own_Goes p e below (own_End s below _ _) (T10.setTop (mkF m 104 #[.val (.long p1), .second, .val (.long p2), .second, .val (.int p3), .val (.int (1 : Int32)), .val (.int (0 : Int32)), .val (.ref a), .val (.ref a2), .val (.long (own_h ka)), .second, .val (.long (own_h 0)), .second, .val (.double (own_mean (0 : Int64) (0 : Int64))), .second, .unset, .unset, .unset, .unset, .unset, .unset, .unset, .unset, .unset, .unset, .unset, .unset] [(.long (0 : Int64))]))
  refine own_go (fun _ own_k => XS.lloadN X10.here hx rfl (hb hby at_104) rfl own_k) ?_
  show own_Goes p e below (own_End s below _ _) (T10.setTop (mkF m 105 #[.val (.long p1), .second, .val (.long p2), .second, .val (.int p3), .val (.int (1 : Int32)), .val (.int (0 : Int32)), .val (.ref a), .val (.ref a2), .val (.long (own_h ka)), .second, .val (.long (own_h 0)), .second, .val (.double (own_mean (0 : Int64) (0 : Int64))), .second, .unset, .unset, .unset, .unset, .unset, .unset, .unset, .unset, .unset, .unset, .unset, .unset] [(.long p1), (.long (0 : Int64))]))
  obtain ⟨T11, X11, e11, st11⟩ := own_callP X10 hx hZ (y := own_maxN) hown (hw _ (List.mem_of_getElem? (i := 71) rfl)) (hw _ (List.mem_of_getElem? (i := 62) rfl)) (hw _ (List.mem_of_getElem? (i := 21) rfl)) (hw _ (List.mem_of_getElem? (i := 63) rfl)) (by decide) (own_max l Z a0 hw _ (0 : Int64) p1) rfl (W := 0) (by decide) (by decide) (g := (mkF m 105 #[.val (.long p1), .second, .val (.long p2), .second, .val (.int p3), .val (.int (1 : Int32)), .val (.int (0 : Int32)), .val (.ref a), .val (.ref a2), .val (.long (own_h ka)), .second, .val (.long (own_h 0)), .second, .val (.double (own_mean (0 : Int64) (0 : Int64))), .second, .unset, .unset, .unset, .unset, .unset, .unset, .unset, .unset, .unset, .unset, .unset, .unset] [(.long p1), (.long (0 : Int64))])) rfl (by rw [hml]; rfl) (argsL := [(.long (0 : Int64)), (.long p1)]) (rest := []) pd_JJJ rfl rfl (by show 2 * 0 + _ ≤ _; exact Nat.le_of_eq rfl) (hb hby at_105) rfl (by decide) (by decide)
  rw [← e11] at V10 W10 Y10
  refine own_go st11 ?_
  show own_Goes p e below (own_End s below _ _) (T11.setTop (mkF m 108 #[.val (.long p1), .second, .val (.long p2), .second, .val (.int p3), .val (.int (1 : Int32)), .val (.int (0 : Int32)), .val (.ref a), .val (.ref a2), .val (.long (own_h ka)), .second, .val (.long (own_h 0)), .second, .val (.double (own_mean (0 : Int64) (0 : Int64))), .second, .unset, .unset, .unset, .unset, .unset, .unset, .unset, .unset, .unset, .unset, .unset, .unset] [(.long (own_maxJ (0 : Int64) p1))]))
  refine own_go (fun _ own_k => XS.goto X11.here hx rfl (pc0 := 108) (pc' := 112) rfl (hb hby at_108) (by decide) (by decide) own_k) ?_
  show own_Goes p e below (own_End s below _ _) (T11.setTop (mkF m 112 #[.val (.long p1), .second, .val (.long p2), .second, .val (.int p3), .val (.int (1 : Int32)), .val (.int (0 : Int32)), .val (.ref a), .val (.ref a2), .val (.long (own_h ka)), .second, .val (.long (own_h 0)), .second, .val (.double (own_mean (0 : Int64) (0 : Int64))), .second, .unset, .unset, .unset, .unset, .unset, .unset, .unset, .unset, .unset, .unset, .unset, .unset] [(.long (own_maxJ (0 : Int64) p1))]))
  refine own_go (fun _ own_k => XS.lstore X11.here hx rfl (hb hby at_112) rfl (l' := #[.val (.long p1), .second, .val (.long p2), .second, .val (.int p3), .val (.int (1 : Int32)), .val (.int (0 : Int32)), .val (.ref a), .val (.ref a2), .val (.long (own_h ka)), .second, .val (.long (own_h 0)), .second, .val (.double (own_mean (0 : Int64) (0 : Int64))), .second, .val (.long (own_maxJ (0 : Int64) p1)), .second, .unset, .unset, .unset, .unset, .unset, .unset, .unset, .unset, .unset, .unset]) rfl own_k) ?_
  show own_Goes p e below (own_End s below _ _) (T11.setTop (mkF m 114 #[.val (.long p1), .second, .val (.long p2), .second, .val (.int p3), .val (.int (1 : Int32)), .val (.int (0 : Int32)), .val (.ref a), .val (.ref a2), .val (.long (own_h ka)), .second, .val (.long (own_h 0)), .second, .val (.double (own_mean (0 : Int64) (0 : Int64))), .second, .val (.long (own_maxJ (0 : Int64) p1)), .second, .unset, .unset, .unset, .unset, .unset, .unset, .unset, .unset, .unset, .unset] []))
  refine own_go (fun _ own_k => XS.iload X11.here hx rfl (hb hby at_114) rfl own_k) ?_
  show own_Goes p e below (own_End s below _ _) (T11.setTop (mkF m 116 #[.val (.long p1), .second, .val (.long p2), .second, .val (.int p3), .val (.int (1 : Int32)), .val (.int (0 : Int32)), .val (.ref a), .val (.ref a2), .val (.long (own_h ka)), .second, .val (.long (own_h 0)), .second, .val (.double (own_mean (0 : Int64) (0 : Int64))), .second, .val (.long (own_maxJ (0 : Int64) p1)), .second, .unset, .unset, .unset, .unset, .unset, .unset, .unset, .unset, .unset, .unset] [(.int (0 : Int32))]))
  refine own_go (fun _ own_k => XS.ifYes X11.here hx rfl (pc0 := 116) (pc' := 127) rfl (hb hby at_116) rfl (by decide) (by decide) (by decide) own_k) ?_
  show own_Goes p e below (own_End s below _ _) (T11.setTop (mkF m 127 #[.val (.long p1), .second, .val (.long p2), .second, .val (.int p3), .val (.int (1 : Int32)), .val (.int (0 : Int32)), .val (.ref a), .val (.ref a2), .val (.long (own_h ka)), .second, .val (.long (own_h 0)), .second, .val (.double (own_mean (0 : Int64) (0 : Int64))), .second, .val (.long (own_maxJ (0 : Int64) p1)), .second, .unset, .unset, .unset, .unset, .unset, .unset, .unset, .unset, .unset, .unset] []))
  refine own_go (fun _ own_k => XS.lconst X11.here hx rfl (hb hby at_127) own_k) ?_
  show own_Goes p e below (own_End s below _ _) (T11.setTop (mkF m 128 #[.val (.long p1), .second, .val (.long p2), .second, .val (.int p3), .val (.int (1 : Int32)), .val (.int (0 : Int32)), .val (.ref a), .val (.ref a2), .val (.long (own_h ka)), .second, .val (.long (own_h 0)), .second, .val (.double (own_mean (0 : Int64) (0 : Int64))), .second, .val (.long (own_maxJ (0 : Int64) p1)), .second, .unset, .unset, .unset, .unset, .unset, .unset, .unset, .unset, .unset, .unset] [(.long (0 : Int64))]))
  refine own_go (fun _ own_k => XS.lstore X11.here hx rfl (hb hby at_128) rfl (l' := #[.val (.long p1), .second, .val (.long p2), .second, .val (.int p3), .val (.int (1 : Int32)), .val (.int (0 : Int32)), .val (.ref a), .val (.ref a2), .val (.long (own_h ka)), .second, .val (.long (own_h 0)), .second, .val (.double (own_mean (0 : Int64) (0 : Int64))), .second, .val (.long (own_maxJ (0 : Int64) p1)), .second, .val (.long (0 : Int64)), .second, .unset, .unset, .unset, .unset, .unset, .unset, .unset, .unset]) rfl own_k) ?_
  show own_Goes p e below (own_End s below _ _) (T11.setTop (mkF m 130 #[.val (.long p1), .second, .val (.long p2), .second, .val (.int p3), .val (.int (1 : Int32)), .val (.int (0 : Int32)), .val (.ref a), .val (.ref a2), .val (.long (own_h ka)), .second, .val (.long (own_h 0)), .second, .val (.double (own_mean (0 : Int64) (0 : Int64))), .second, .val (.long (own_maxJ (0 : Int64) p1)), .second, .val (.long (0 : Int64)), .second, .unset, .unset, .unset, .unset, .unset, .unset, .unset, .unset] []))
  refine own_go (fun _ own_k => XS.iload X11.here hx rfl (hb hby at_130) rfl own_k) ?_
  show own_Goes p e below (own_End s below _ _) (T11.setTop (mkF m 132 #[.val (.long p1), .second, .val (.long p2), .second, .val (.int p3), .val (.int (1 : Int32)), .val (.int (0 : Int32)), .val (.ref a), .val (.ref a2), .val (.long (own_h ka)), .second, .val (.long (own_h 0)), .second, .val (.double (own_mean (0 : Int64) (0 : Int64))), .second, .val (.long (own_maxJ (0 : Int64) p1)), .second, .val (.long (0 : Int64)), .second, .unset, .unset, .unset, .unset, .unset, .unset, .unset, .unset] [(.int (1 : Int32))]))
  refine own_go (fun _ own_k => XS.ifNo X11.here hx rfl (hb hby at_132) rfl (by decide) own_k) ?_
  show own_Goes p e below (own_End s below _ _) (T11.setTop (mkF m 135 #[.val (.long p1), .second, .val (.long p2), .second, .val (.int p3), .val (.int (1 : Int32)), .val (.int (0 : Int32)), .val (.ref a), .val (.ref a2), .val (.long (own_h ka)), .second, .val (.long (own_h 0)), .second, .val (.double (own_mean (0 : Int64) (0 : Int64))), .second, .val (.long (own_maxJ (0 : Int64) p1)), .second, .val (.long (0 : Int64)), .second, .unset, .unset, .unset, .unset, .unset, .unset, .unset, .unset] []))
  refine own_go (fun _ own_k => XS.lconst X11.here hx rfl (hb hby at_135) own_k) ?_
  show own_Goes p e below (own_End s below _ _) (T11.setTop (mkF m 136 #[.val (.long p1), .second, .val (.long p2), .second, .val (.int p3), .val (.int (1 : Int32)), .val (.int (0 : Int32)), .val (.ref a), .val (.ref a2), .val (.long (own_h ka)), .second, .val (.long (own_h 0)), .second, .val (.double (own_mean (0 : Int64) (0 : Int64))), .second, .val (.long (own_maxJ (0 : Int64) p1)), .second, .val (.long (0 : Int64)), .second, .unset, .unset, .unset, .unset, .unset, .unset, .unset, .unset] [(.long (1 : Int64))]))
  refine own_go (fun _ own_k => XS.goto X11.here hx rfl (pc0 := 136) (pc' := 140) rfl (hb hby at_136) (by decide) (by decide) own_k) ?_
  show own_Goes p e below (own_End s below _ _) (T11.setTop (mkF m 140 #[.val (.long p1), .second, .val (.long p2), .second, .val (.int p3), .val (.int (1 : Int32)), .val (.int (0 : Int32)), .val (.ref a), .val (.ref a2), .val (.long (own_h ka)), .second, .val (.long (own_h 0)), .second, .val (.double (own_mean (0 : Int64) (0 : Int64))), .second, .val (.long (own_maxJ (0 : Int64) p1)), .second, .val (.long (0 : Int64)), .second, .unset, .unset, .unset, .unset, .unset, .unset, .unset, .unset] [(.long (1 : Int64))]))
  refine own_go (fun _ own_k => XS.iload X11.here hx rfl (hb hby at_140) rfl own_k) ?_
  show own_Goes p e below (own_End s below _ _) (T11.setTop (mkF m 142 #[.val (.long p1), .second, .val (.long p2), .second, .val (.int p3), .val (.int (1 : Int32)), .val (.int (0 : Int32)), .val (.ref a), .val (.ref a2), .val (.long (own_h ka)), .second, .val (.long (own_h 0)), .second, .val (.double (own_mean (0 : Int64) (0 : Int64))), .second, .val (.long (own_maxJ (0 : Int64) p1)), .second, .val (.long (0 : Int64)), .second, .unset, .unset, .unset, .unset, .unset, .unset, .unset, .unset] [(.int (0 : Int32)), (.long (1 : Int64))]))
  refine own_go (fun _ own_k => XS.ifYes X11.here hx rfl (pc0 := 142) (pc' := 149) rfl (hb hby at_142) rfl (by decide) (by decide) (by decide) own_k) ?_
  show own_Goes p e below (own_End s below _ _) (T11.setTop (mkF m 149 #[.val (.long p1), .second, .val (.long p2), .second, .val (.int p3), .val (.int (1 : Int32)), .val (.int (0 : Int32)), .val (.ref a), .val (.ref a2), .val (.long (own_h ka)), .second, .val (.long (own_h 0)), .second, .val (.double (own_mean (0 : Int64) (0 : Int64))), .second, .val (.long (own_maxJ (0 : Int64) p1)), .second, .val (.long (0 : Int64)), .second, .unset, .unset, .unset, .unset, .unset, .unset, .unset, .unset] [(.long (1 : Int64))]))
  refine own_go (fun _ own_k => XS.lconst X11.here hx rfl (hb hby at_149) own_k) ?_
  show own_Goes p e below (own_End s below _ _) (T11.setTop (mkF m 150 #[.val (.long p1), .second, .val (.long p2), .second, .val (.int p3), .val (.int (1 : Int32)), .val (.int (0 : Int32)), .val (.ref a), .val (.ref a2), .val (.long (own_h ka)), .second, .val (.long (own_h 0)), .second, .val (.double (own_mean (0 : Int64) (0 : Int64))), .second, .val (.long (own_maxJ (0 : Int64) p1)), .second, .val (.long (0 : Int64)), .second, .unset, .unset, .unset, .unset, .unset, .unset, .unset, .unset] [(.long (0 : Int64)), (.long (1 : Int64))]))
  refine own_go (fun _ own_k => XS.ladd X11.here hx rfl (hb hby at_150) rfl own_k) ?_
  show own_Goes p e below (own_End s below _ _) (T11.setTop (mkF m 151 #[.val (.long p1), .second, .val (.long p2), .second, .val (.int p3), .val (.int (1 : Int32)), .val (.int (0 : Int32)), .val (.ref a), .val (.ref a2), .val (.long (own_h ka)), .second, .val (.long (own_h 0)), .second, .val (.double (own_mean (0 : Int64) (0 : Int64))), .second, .val (.long (own_maxJ (0 : Int64) p1)), .second, .val (.long (0 : Int64)), .second, .unset, .unset, .unset, .unset, .unset, .unset, .unset, .unset] [(.long ((1 : Int64) + (0 : Int64)))]))
  refine own_go (fun _ own_k => XS.lstore X11.here hx rfl (hb hby at_151) rfl (l' := #[.val (.long p1), .second, .val (.long p2), .second, .val (.int p3), .val (.int (1 : Int32)), .val (.int (0 : Int32)), .val (.ref a), .val (.ref a2), .val (.long (own_h ka)), .second, .val (.long (own_h 0)), .second, .val (.double (own_mean (0 : Int64) (0 : Int64))), .second, .val (.long (own_maxJ (0 : Int64) p1)), .second, .val (.long (0 : Int64)), .second, .val (.long ((1 : Int64) + (0 : Int64))), .second, .unset, .unset, .unset, .unset, .unset, .unset]) rfl own_k) ?_
  show own_Goes p e below (own_End s below _ _) (T11.setTop (mkF m 153 #[.val (.long p1), .second, .val (.long p2), .second, .val (.int p3), .val (.int (1 : Int32)), .val (.int (0 : Int32)), .val (.ref a), .val (.ref a2), .val (.long (own_h ka)), .second, .val (.long (own_h 0)), .second, .val (.double (own_mean (0 : Int64) (0 : Int64))), .second, .val (.long (own_maxJ (0 : Int64) p1)), .second, .val (.long (0 : Int64)), .second, .val (.long ((1 : Int64) + (0 : Int64))), .second, .unset, .unset, .unset, .unset, .unset, .unset] []))
  refine own_go (fun _ own_k => XS.lload X11.here hx rfl (hb hby at_153) rfl own_k) ?_
  show own_Goes p e below (own_End s below _ _) (T11.setTop (mkF m 155 #[.val (.long p1), .second, .val (.long p2), .second, .val (.int p3), .val (.int (1 : Int32)), .val (.int (0 : Int32)), .val (.ref a), .val (.ref a2), .val (.long (own_h ka)), .second, .val (.long (own_h 0)), .second, .val (.double (own_mean (0 : Int64) (0 : Int64))), .second, .val (.long (own_maxJ (0 : Int64) p1)), .second, .val (.long (0 : Int64)), .second, .val (.long ((1 : Int64) + (0 : Int64))), .second, .unset, .unset, .unset, .unset, .unset, .unset] [(.long ((1 : Int64) + (0 : Int64)))]))
  refine own_go (fun _ own_k => XS.lconst X11.here hx rfl (hb hby at_155) own_k) ?_
  show own_Goes p e below (own_End s below _ _) (T11.setTop (mkF m 156 #[.val (.long p1), .second, .val (.long p2), .second, .val (.int p3), .val (.int (1 : Int32)), .val (.int (0 : Int32)), .val (.ref a), .val (.ref a2), .val (.long (own_h ka)), .second, .val (.long (own_h 0)), .second, .val (.double (own_mean (0 : Int64) (0 : Int64))), .second, .val (.long (own_maxJ (0 : Int64) p1)), .second, .val (.long (0 : Int64)), .second, .val (.long ((1 : Int64) + (0 : Int64))), .second, .unset, .unset, .unset, .unset, .unset, .unset] [(.long (0 : Int64)), (.long ((1 : Int64) + (0 : Int64)))]))
  refine own_go (fun _ own_k => XS.lcmp X11.here hx rfl (hb hby at_156) rfl own_k) ?_
  show own_Goes p e below (own_End s below _ _) (T11.setTop (mkF m 157 #[.val (.long p1), .second, .val (.long p2), .second, .val (.int p3), .val (.int (1 : Int32)), .val (.int (0 : Int32)), .val (.ref a), .val (.ref a2), .val (.long (own_h ka)), .second, .val (.long (own_h 0)), .second, .val (.double (own_mean (0 : Int64) (0 : Int64))), .second, .val (.long (own_maxJ (0 : Int64) p1)), .second, .val (.long (0 : Int64)), .second, .val (.long ((1 : Int64) + (0 : Int64))), .second, .unset, .unset, .unset, .unset, .unset, .unset] [(.int (lcmpW ((1 : Int64) + (0 : Int64)) (0 : Int64)))]))
  refine own_go (fun _ own_k => XS.ifYes X11.here hx rfl (pc0 := 157) (pc' := 164) rfl (hb hby at_157) rfl (by decide) (by decide) (by decide) own_k) ?_
  show own_Goes p e below (own_End s below _ _) (T11.setTop (mkF m 164 #[.val (.long p1), .second, .val (.long p2), .second, .val (.int p3), .val (.int (1 : Int32)), .val (.int (0 : Int32)), .val (.ref a), .val (.ref a2), .val (.long (own_h ka)), .second, .val (.long (own_h 0)), .second, .val (.double (own_mean (0 : Int64) (0 : Int64))), .second, .val (.long (own_maxJ (0 : Int64) p1)), .second, .val (.long (0 : Int64)), .second, .val (.long ((1 : Int64) + (0 : Int64))), .second, .unset, .unset, .unset, .unset, .unset, .unset] []))
  refine own_go (fun _ own_k => XS.lload X11.here hx rfl (hb hby at_164) rfl own_k) ?_
  show own_Goes p e below (own_End s below _ _) (T11.setTop (mkF m 166 #[.val (.long p1), .second, .val (.long p2), .second, .val (.int p3), .val (.int (1 : Int32)), .val (.int (0 : Int32)), .val (.ref a), .val (.ref a2), .val (.long (own_h ka)), .second, .val (.long (own_h 0)), .second, .val (.double (own_mean (0 : Int64) (0 : Int64))), .second, .val (.long (own_maxJ (0 : Int64) p1)), .second, .val (.long (0 : Int64)), .second, .val (.long ((1 : Int64) + (0 : Int64))), .second, .unset, .unset, .unset, .unset, .unset, .unset] [(.long (own_maxJ (0 : Int64) p1))]))
  refine own_go (fun _ own_k => XS.lload X11.here hx rfl (hb hby at_166) rfl own_k) ?_
  show own_Goes p e below (own_End s below _ _) (T11.setTop (mkF m 168 #[.val (.long p1), .second, .val (.long p2), .second, .val (.int p3), .val (.int (1 : Int32)), .val (.int (0 : Int32)), .val (.ref a), .val (.ref a2), .val (.long (own_h ka)), .second, .val (.long (own_h 0)), .second, .val (.double (own_mean (0 : Int64) (0 : Int64))), .second, .val (.long (own_maxJ (0 : Int64) p1)), .second, .val (.long (0 : Int64)), .second, .val (.long ((1 : Int64) + (0 : Int64))), .second, .unset, .unset, .unset, .unset, .unset, .unset] [(.long (0 : Int64)), (.long (own_maxJ (0 : Int64) p1))]))
  refine own_go (fun _ own_k => XS.ladd X11.here hx rfl (hb hby at_168) rfl own_k) ?_
  show own_Goes p e below (own_End s below _ _) (T11.setTop (mkF m 169 #[.val (.long p1), .second, .val (.long p2), .second, .val (.int p3), .val (.int (1 : Int32)), .val (.int (0 : Int32)), .val (.ref a), .val (.ref a2), .val (.long (own_h ka)), .second, .val (.long (own_h 0)), .second, .val (.double (own_mean (0 : Int64) (0 : Int64))), .second, .val (.long (own_maxJ (0 : Int64) p1)), .second, .val (.long (0 : Int64)), .second, .val (.long ((1 : Int64) + (0 : Int64))), .second, .unset, .unset, .unset, .unset, .unset, .unset] [(.long ((own_maxJ (0 : Int64) p1) + (0 : Int64)))]))
  refine own_go (fun _ own_k => XS.l2dS X11.here hx rfl (hb hby at_169) rfl rfl own_k) ?_
  show own_Goes p e below (own_End s below _ _) (T11.setTop (mkF m 170 #[.val (.long p1), .second, .val (.long p2), .second, .val (.int p3), .val (.int (1 : Int32)), .val (.int (0 : Int32)), .val (.ref a), .val (.ref a2), .val (.long (own_h ka)), .second, .val (.long (own_h 0)), .second, .val (.double (own_mean (0 : Int64) (0 : Int64))), .second, .val (.long (own_maxJ (0 : Int64) p1)), .second, .val (.long (0 : Int64)), .second, .val (.long ((1 : Int64) + (0 : Int64))), .second, .unset, .unset, .unset, .unset, .unset, .unset] [(.double (FP.l2d ((own_maxJ (0 : Int64) p1) + (0 : Int64))))]))
  refine own_go (fun _ own_k => XS.lload X11.here hx rfl (hb hby at_170) rfl own_k) ?_
  show own_Goes p e below (own_End s below _ _) (T11.setTop (mkF m 172 #[.val (.long p1), .second, .val (.long p2), .second, .val (.int p3), .val (.int (1 : Int32)), .val (.int (0 : Int32)), .val (.ref a), .val (.ref a2), .val (.long (own_h ka)), .second, .val (.long (own_h 0)), .second, .val (.double (own_mean (0 : Int64) (0 : Int64))), .second, .val (.long (own_maxJ (0 : Int64) p1)), .second, .val (.long (0 : Int64)), .second, .val (.long ((1 : Int64) + (0 : Int64))), .second, .unset, .unset, .unset, .unset, .unset, .unset] [(.long ((1 : Int64) + (0 : Int64))), (.double (FP.l2d ((own_maxJ (0 : Int64) p1) + (0 : Int64))))]))
  refine own_go (fun _ own_k => XS.l2dS X11.here hx rfl (hb hby at_172) rfl rfl own_k) ?_
  show own_Goes p e below (own_End s below _ _) (T11.setTop (mkF m 173 #[.val (.long p1), .second, .val (.long p2), .second, .val (.int p3), .val (.int (1 : Int32)), .val (.int (0 : Int32)), .val (.ref a), .val (.ref a2), .val (.long (own_h ka)), .second, .val (.long (own_h 0)), .second, .val (.double (own_mean (0 : Int64) (0 : Int64))), .second, .val (.long (own_maxJ (0 : Int64) p1)), .second, .val (.long (0 : Int64)), .second, .val (.long ((1 : Int64) + (0 : Int64))), .second, .unset, .unset, .unset, .unset, .unset, .unset] [(.double (FP.l2d ((1 : Int64) + (0 : Int64)))), (.double (FP.l2d ((own_maxJ (0 : Int64) p1) + (0 : Int64))))]))
  refine own_go (fun _ own_k => XS.ddivS X11.here hx rfl (hb hby at_173) rfl (own_div_nn _ (by decide)) rfl own_k) ?_
  show own_Goes p e below (own_End s below _ _) (T11.setTop (mkF m 174 #[.val (.long p1), .second, .val (.long p2), .second, .val (.int p3), .val (.int (1 : Int32)), .val (.int (0 : Int32)), .val (.ref a), .val (.ref a2), .val (.long (own_h ka)), .second, .val (.long (own_h 0)), .second, .val (.double (own_mean (0 : Int64) (0 : Int64))), .second, .val (.long (own_maxJ (0 : Int64) p1)), .second, .val (.long (0 : Int64)), .second, .val (.long ((1 : Int64) + (0 : Int64))), .second, .unset, .unset, .unset, .unset, .unset, .unset] [(.double (FP.ddiv (FP.l2d ((own_maxJ (0 : Int64) p1) + (0 : Int64))) (FP.l2d ((1 : Int64) + (0 : Int64)))))]))
  refine own_go (fun _ own_k => XS.dstore X11.here hx rfl (hb hby at_174) rfl (l' := #[.val (.long p1), .second, .val (.long p2), .second, .val (.int p3), .val (.int (1 : Int32)), .val (.int (0 : Int32)), .val (.ref a), .val (.ref a2), .val (.long (own_h ka)), .second, .val (.long (own_h 0)), .second, .val (.double (own_mean (0 : Int64) (0 : Int64))), .second, .val (.long (own_maxJ (0 : Int64) p1)), .second, .val (.long (0 : Int64)), .second, .val (.long ((1 : Int64) + (0 : Int64))), .second, .val (.double (FP.ddiv (FP.l2d ((own_maxJ (0 : Int64) p1) + (0 : Int64))) (FP.l2d ((1 : Int64) + (0 : Int64))))), .second, .unset, .unset, .unset, .unset]) rfl own_k) ?_
  show own_Goes p e below (own_End s below _ _) (T11.setTop (mkF m 176 #[.val (.long p1), .second, .val (.long p2), .second, .val (.int p3), .val (.int (1 : Int32)), .val (.int (0 : Int32)), .val (.ref a), .val (.ref a2), .val (.long (own_h ka)), .second, .val (.long (own_h 0)), .second, .val (.double (own_mean (0 : Int64) (0 : Int64))), .second, .val (.long (own_maxJ (0 : Int64) p1)), .second, .val (.long (0 : Int64)), .second, .val (.long ((1 : Int64) + (0 : Int64))), .second, .val (.double (FP.ddiv (FP.l2d ((own_maxJ (0 : Int64) p1) + (0 : Int64))) (FP.l2d ((1 : Int64) + (0 : Int64))))), .second, .unset, .unset, .unset, .unset] []))
  refine own_go (fun _ own_k => XS.iload X11.here hx rfl (hb hby at_176) rfl own_k) ?_
  show own_Goes p e below (own_End s below _ _) (T11.setTop (mkF m 178 #[.val (.long p1), .second, .val (.long p2), .second, .val (.int p3), .val (.int (1 : Int32)), .val (.int (0 : Int32)), .val (.ref a), .val (.ref a2), .val (.long (own_h ka)), .second, .val (.long (own_h 0)), .second, .val (.double (own_mean (0 : Int64) (0 : Int64))), .second, .val (.long (own_maxJ (0 : Int64) p1)), .second, .val (.long (0 : Int64)), .second, .val (.long ((1 : Int64) + (0 : Int64))), .second, .val (.double (FP.ddiv (FP.l2d ((own_maxJ (0 : Int64) p1) + (0 : Int64))) (FP.l2d ((1 : Int64) + (0 : Int64))))), .second, .unset, .unset, .unset, .unset] [(.int (1 : Int32))]))
  refine own_go (fun _ own_k => XS.ifNo X11.here hx rfl (hb hby at_178) rfl (by decide) own_k) ?_
  show own_Goes p e below (own_End s below _ _) (T11.setTop (mkF m 181 #[.val (.long p1), .second, .val (.long p2), .second, .val (.int p3), .val (.int (1 : Int32)), .val (.int (0 : Int32)), .val (.ref a), .val (.ref a2), .val (.long (own_h ka)), .second, .val (.long (own_h 0)), .second, .val (.double (own_mean (0 : Int64) (0 : Int64))), .second, .val (.long (own_maxJ (0 : Int64) p1)), .second, .val (.long (0 : Int64)), .second, .val (.long ((1 : Int64) + (0 : Int64))), .second, .val (.double (FP.ddiv (FP.l2d ((own_maxJ (0 : Int64) p1) + (0 : Int64))) (FP.l2d ((1 : Int64) + (0 : Int64))))), .second, .unset, .unset, .unset, .unset] []))
  refine own_go (fun _ own_k => XS.iload X11.here hx rfl (hb hby at_181) rfl own_k) ?_
  show own_Goes p e below (own_End s below _ _) (T11.setTop (mkF m 183 #[.val (.long p1), .second, .val (.long p2), .second, .val (.int p3), .val (.int (1 : Int32)), .val (.int (0 : Int32)), .val (.ref a), .val (.ref a2), .val (.long (own_h ka)), .second, .val (.long (own_h 0)), .second, .val (.double (own_mean (0 : Int64) (0 : Int64))), .second, .val (.long (own_maxJ (0 : Int64) p1)), .second, .val (.long (0 : Int64)), .second, .val (.long ((1 : Int64) + (0 : Int64))), .second, .val (.double (FP.ddiv (FP.l2d ((own_maxJ (0 : Int64) p1) + (0 : Int64))) (FP.l2d ((1 : Int64) + (0 : Int64))))), .second, .unset, .unset, .unset, .unset] [(.int (0 : Int32))]))
  refine own_go (fun _ own_k => XS.ifYes X11.here hx rfl (pc0 := 183) (pc' := 207) rfl (hb hby at_183) rfl (by decide) (by decide) (by decide) own_k) ?_
  show own_Goes p e below (own_End s below _ _) (T11.setTop (mkF m 207 #[.val (.long p1), .second, .val (.long p2), .second, .val (.int p3), .val (.int (1 : Int32)), .val (.int (0 : Int32)), .val (.ref a), .val (.ref a2), .val (.long (own_h ka)), .second, .val (.long (own_h 0)), .second, .val (.double (own_mean (0 : Int64) (0 : Int64))), .second, .val (.long (own_maxJ (0 : Int64) p1)), .second, .val (.long (0 : Int64)), .second, .val (.long ((1 : Int64) + (0 : Int64))), .second, .val (.double (FP.ddiv (FP.l2d ((own_maxJ (0 : Int64) p1) + (0 : Int64))) (FP.l2d ((1 : Int64) + (0 : Int64))))), .second, .unset, .unset, .unset, .unset] []))
  refine own_go (fun _ own_k => XS.iload X11.here hx rfl (hb hby at_207) rfl own_k) ?_
  show own_Goes p e below (own_End s below _ _) (T11.setTop (mkF m 209 #[.val (.long p1), .second, .val (.long p2), .second, .val (.int p3), .val (.int (1 : Int32)), .val (.int (0 : Int32)), .val (.ref a), .val (.ref a2), .val (.long (own_h ka)), .second, .val (.long (own_h 0)), .second, .val (.double (own_mean (0 : Int64) (0 : Int64))), .second, .val (.long (own_maxJ (0 : Int64) p1)), .second, .val (.long (0 : Int64)), .second, .val (.long ((1 : Int64) + (0 : Int64))), .second, .val (.double (FP.ddiv (FP.l2d ((own_maxJ (0 : Int64) p1) + (0 : Int64))) (FP.l2d ((1 : Int64) + (0 : Int64))))), .second, .unset, .unset, .unset, .unset] [(.int (1 : Int32))]))
  refine own_go (fun _ own_k => XS.ifNo X11.here hx rfl (hb hby at_209) rfl (by decide) own_k) ?_
  show own_Goes p e below (own_End s below _ _) (T11.setTop (mkF m 212 #[.val (.long p1), .second, .val (.long p2), .second, .val (.int p3), .val (.int (1 : Int32)), .val (.int (0 : Int32)), .val (.ref a), .val (.ref a2), .val (.long (own_h ka)), .second, .val (.long (own_h 0)), .second, .val (.double (own_mean (0 : Int64) (0 : Int64))), .second, .val (.long (own_maxJ (0 : Int64) p1)), .second, .val (.long (0 : Int64)), .second, .val (.long ((1 : Int64) + (0 : Int64))), .second, .val (.double (FP.ddiv (FP.l2d ((own_maxJ (0 : Int64) p1) + (0 : Int64))) (FP.l2d ((1 : Int64) + (0 : Int64))))), .second, .unset, .unset, .unset, .unset] []))
  refine own_go (fun _ own_k => XS.lload X11.here hx rfl (hb hby at_212) rfl own_k) ?_
  show own_Goes p e below (own_End s below _ _) (T11.setTop (mkF m 214 #[.val (.long p1), .second, .val (.long p2), .second, .val (.int p3), .val (.int (1 : Int32)), .val (.int (0 : Int32)), .val (.ref a), .val (.ref a2), .val (.long (own_h ka)), .second, .val (.long (own_h 0)), .second, .val (.double (own_mean (0 : Int64) (0 : Int64))), .second, .val (.long (own_maxJ (0 : Int64) p1)), .second, .val (.long (0 : Int64)), .second, .val (.long ((1 : Int64) + (0 : Int64))), .second, .val (.double (FP.ddiv (FP.l2d ((own_maxJ (0 : Int64) p1) + (0 : Int64))) (FP.l2d ((1 : Int64) + (0 : Int64))))), .second, .unset, .unset, .unset, .unset] [(.long (own_h ka))]))
  refine own_go (fun _ own_k => XS.lstore X11.here hx rfl (hb hby at_214) rfl (l' := #[.val (.long p1), .second, .val (.long p2), .second, .val (.int p3), .val (.int (1 : Int32)), .val (.int (0 : Int32)), .val (.ref a), .val (.ref a2), .val (.long (own_h ka)), .second, .val (.long (own_h 0)), .second, .val (.double (own_mean (0 : Int64) (0 : Int64))), .second, .val (.long (own_maxJ (0 : Int64) p1)), .second, .val (.long (0 : Int64)), .second, .val (.long ((1 : Int64) + (0 : Int64))), .second, .val (.double (FP.ddiv (FP.l2d ((own_maxJ (0 : Int64) p1) + (0 : Int64))) (FP.l2d ((1 : Int64) + (0 : Int64))))), .second, .val (.long (own_h ka)), .second, .unset, .unset]) rfl own_k) ?_
  show own_Goes p e below (own_End s below _ _) (T11.setTop (mkF m 216 #[.val (.long p1), .second, .val (.long p2), .second, .val (.int p3), .val (.int (1 : Int32)), .val (.int (0 : Int32)), .val (.ref a), .val (.ref a2), .val (.long (own_h ka)), .second, .val (.long (own_h 0)), .second, .val (.double (own_mean (0 : Int64) (0 : Int64))), .second, .val (.long (own_maxJ (0 : Int64) p1)), .second, .val (.long (0 : Int64)), .second, .val (.long ((1 : Int64) + (0 : Int64))), .second, .val (.double (FP.ddiv (FP.l2d ((own_maxJ (0 : Int64) p1) + (0 : Int64))) (FP.l2d ((1 : Int64) + (0 : Int64))))), .second, .val (.long (own_h ka)), .second, .unset, .unset] []))
  refine own_go (fun _ own_k => XS.lload X11.here hx rfl (hb hby at_216) rfl own_k) ?_
  show own_Goes p e below (own_End s below _ _) (T11.setTop (mkF m 218 #[.val (.long p1), .second, .val (.long p2), .second, .val (.int p3), .val (.int (1 : Int32)), .val (.int (0 : Int32)), .val (.ref a), .val (.ref a2), .val (.long (own_h ka)), .second, .val (.long (own_h 0)), .second, .val (.double (own_mean (0 : Int64) (0 : Int64))), .second, .val (.long (own_maxJ (0 : Int64) p1)), .second, .val (.long (0 : Int64)), .second, .val (.long ((1 : Int64) + (0 : Int64))), .second, .val (.double (FP.ddiv (FP.l2d ((own_maxJ (0 : Int64) p1) + (0 : Int64))) (FP.l2d ((1 : Int64) + (0 : Int64))))), .second, .val (.long (own_h ka)), .second, .unset, .unset] [(.long (own_h ka))]))
  refine own_go (fun _ own_k => XS.lstore X11.here hx rfl (hb hby at_218) rfl (l' := #[.val (.long p1), .second, .val (.long p2), .second, .val (.int p3), .val (.int (1 : Int32)), .val (.int (0 : Int32)), .val (.ref a), .val (.ref a2), .val (.long (own_h ka)), .second, .val (.long (own_h 0)), .second, .val (.double (own_mean (0 : Int64) (0 : Int64))), .second, .val (.long (own_maxJ (0 : Int64) p1)), .second, .val (.long (0 : Int64)), .second, .val (.long ((1 : Int64) + (0 : Int64))), .second, .val (.double (FP.ddiv (FP.l2d ((own_maxJ (0 : Int64) p1) + (0 : Int64))) (FP.l2d ((1 : Int64) + (0 : Int64))))), .second, .val (.long (own_h ka)), .second, .val (.long (own_h ka)), .second]) rfl own_k) ?_
  show own_Goes p e below (own_End s below _ _) (T11.setTop (mkF m 220 #[.val (.long p1), .second, .val (.long p2), .second, .val (.int p3), .val (.int (1 : Int32)), .val (.int (0 : Int32)), .val (.ref a), .val (.ref a2), .val (.long (own_h ka)), .second, .val (.long (own_h 0)), .second, .val (.double (own_mean (0 : Int64) (0 : Int64))), .second, .val (.long (own_maxJ (0 : Int64) p1)), .second, .val (.long (0 : Int64)), .second, .val (.long ((1 : Int64) + (0 : Int64))), .second, .val (.double (FP.ddiv (FP.l2d ((own_maxJ (0 : Int64) p1) + (0 : Int64))) (FP.l2d ((1 : Int64) + (0 : Int64))))), .second, .val (.long (own_h ka)), .second, .val (.long (own_h ka)), .second] []))
  refine own_go (fun _ own_k => XS.goto X11.here hx rfl (pc0 := 220) (pc' := 245) rfl (hb hby at_220) (by decide) (by decide) own_k) ?_
  show own_Goes p e below (own_End s below _ _) (T11.setTop (mkF m 245 #[.val (.long p1), .second, .val (.long p2), .second, .val (.int p3), .val (.int (1 : Int32)), .val (.int (0 : Int32)), .val (.ref a), .val (.ref a2), .val (.long (own_h ka)), .second, .val (.long (own_h 0)), .second, .val (.double (own_mean (0 : Int64) (0 : Int64))), .second, .val (.long (own_maxJ (0 : Int64) p1)), .second, .val (.long (0 : Int64)), .second, .val (.long ((1 : Int64) + (0 : Int64))), .second, .val (.double (FP.ddiv (FP.l2d ((own_maxJ (0 : Int64) p1) + (0 : Int64))) (FP.l2d ((1 : Int64) + (0 : Int64))))), .second, .val (.long (own_h ka)), .second, .val (.long (own_h ka)), .second] []))
  refine own_go (fun _ own_k => XS.aload X11.here hx rfl (hb hby at_245) rfl rfl own_k) ?_
  show own_Goes p e below (own_End s below _ _) (T11.setTop (mkF m 247 #[.val (.long p1), .second, .val (.long p2), .second, .val (.int p3), .val (.int (1 : Int32)), .val (.int (0 : Int32)), .val (.ref a), .val (.ref a2), .val (.long (own_h ka)), .second, .val (.long (own_h 0)), .second, .val (.double (own_mean (0 : Int64) (0 : Int64))), .second, .val (.long (own_maxJ (0 : Int64) p1)), .second, .val (.long (0 : Int64)), .second, .val (.long ((1 : Int64) + (0 : Int64))), .second, .val (.double (FP.ddiv (FP.l2d ((own_maxJ (0 : Int64) p1) + (0 : Int64))) (FP.l2d ((1 : Int64) + (0 : Int64))))), .second, .val (.long (own_h ka)), .second, .val (.long (own_h ka)), .second] [(.ref a)]))
  obtain ⟨v15, T15, L15, X15, ⟨u15, e15, d15⟩, st15⟩ := own_callV X11 hx hZ (y := own_meaN) (z := own_meaN) hown (hw _ (List.mem_of_getElem? (i := 43) rfl)) (hw _ (List.mem_of_getElem? (i := 44) rfl)) (hw _ (List.mem_of_getElem? (i := 46) rfl)) (hw _ (List.mem_of_getElem? (i := 45) rfl)) (hw _ (List.mem_of_getElem? (i := 2) rfl)) (hw _ (List.mem_of_getElem? (i := 47) rfl)) (notFace_of_selects (args := #[]) (mvT hZ (hw _ (List.mem_of_getElem? (i := 46) rfl)))) (by decide) (own_mea l Z a0 hw _ a b _ _ _ V10) rfl V10.1 (W := 0) (by decide) (by decide) (g := (mkF m 247 #[.val (.long p1), .second, .val (.long p2), .second, .val (.int p3), .val (.int (1 : Int32)), .val (.int (0 : Int32)), .val (.ref a), .val (.ref a2), .val (.long (own_h ka)), .second, .val (.long (own_h 0)), .second, .val (.double (own_mean (0 : Int64) (0 : Int64))), .second, .val (.long (own_maxJ (0 : Int64) p1)), .second, .val (.long (0 : Int64)), .second, .val (.long ((1 : Int64) + (0 : Int64))), .second, .val (.double (FP.ddiv (FP.l2d ((own_maxJ (0 : Int64) p1) + (0 : Int64))) (FP.l2d ((1 : Int64) + (0 : Int64))))), .second, .val (.long (own_h ka)), .second, .val (.long (own_h ka)), .second] [(.ref a)])) rfl (by rw [hml]; rfl) (argsL := []) (rest := []) pd_D rfl rfl (by show 2 * 0 + _ ≤ _; exact Nat.le_of_eq rfl) (hb hby at_247) rfl (by decide) (by decide)
  subst u15 d15
  rw [List.append_nil] at X15
  refine own_go st15 ?_
  show own_Goes p e below (own_End s below _ _) (T15.setTop (mkF m 250 #[.val (.long p1), .second, .val (.long p2), .second, .val (.int p3), .val (.int (1 : Int32)), .val (.int (0 : Int32)), .val (.ref a), .val (.ref a2), .val (.long (own_h ka)), .second, .val (.long (own_h 0)), .second, .val (.double (own_mean (0 : Int64) (0 : Int64))), .second, .val (.long (own_maxJ (0 : Int64) p1)), .second, .val (.long (0 : Int64)), .second, .val (.long ((1 : Int64) + (0 : Int64))), .second, .val (.double (FP.ddiv (FP.l2d ((own_maxJ (0 : Int64) p1) + (0 : Int64))) (FP.l2d ((1 : Int64) + (0 : Int64))))), .second, .val (.long (own_h ka)), .second, .val (.long (own_h ka)), .second] [(.double (own_mean (((0 : Int64) + 1) + (0 : Int64)) (((0 : Int64) + (own_maxJ (0 : Int64) p1)) + (0 : Int64))))]))
  rw [← e15] at V10 W10 Y10
  refine own_go (fun _ own_k => XS.dload X15.here hx rfl (hb hby at_250) rfl own_k) ?_
  show own_Goes p e below (own_End s below _ _) (T15.setTop (mkF m 252 #[.val (.long p1), .second, .val (.long p2), .second, .val (.int p3), .val (.int (1 : Int32)), .val (.int (0 : Int32)), .val (.ref a), .val (.ref a2), .val (.long (own_h ka)), .second, .val (.long (own_h 0)), .second, .val (.double (own_mean (0 : Int64) (0 : Int64))), .second, .val (.long (own_maxJ (0 : Int64) p1)), .second, .val (.long (0 : Int64)), .second, .val (.long ((1 : Int64) + (0 : Int64))), .second, .val (.double (FP.ddiv (FP.l2d ((own_maxJ (0 : Int64) p1) + (0 : Int64))) (FP.l2d ((1 : Int64) + (0 : Int64))))), .second, .val (.long (own_h ka)), .second, .val (.long (own_h ka)), .second] [(.double (FP.ddiv (FP.l2d ((own_maxJ (0 : Int64) p1) + (0 : Int64))) (FP.l2d ((1 : Int64) + (0 : Int64))))), (.double (own_mean (((0 : Int64) + 1) + (0 : Int64)) (((0 : Int64) + (own_maxJ (0 : Int64) p1)) + (0 : Int64))))]))
  refine own_go (fun _ own_k => XS.dcmpS X15.here hx rfl (hb hby at_252) rfl (dcmpV_eq (own_mean_eq ((0 : Int64) + (own_maxJ (0 : Int64) p1)) (0 : Int64) (own_maxJ (0 : Int64) p1) (0 : Int64) (((0 : Int64) + 1) + (0 : Int64)) ((1 : Int64) + (0 : Int64)) (by decide) (by decide) (own_zadd _) rfl) (own_mean_nn _ _) .l) own_k) ?_
  show own_Goes p e below (own_End s below _ _) (T15.setTop (mkF m 253 #[.val (.long p1), .second, .val (.long p2), .second, .val (.int p3), .val (.int (1 : Int32)), .val (.int (0 : Int32)), .val (.ref a), .val (.ref a2), .val (.long (own_h ka)), .second, .val (.long (own_h 0)), .second, .val (.double (own_mean (0 : Int64) (0 : Int64))), .second, .val (.long (own_maxJ (0 : Int64) p1)), .second, .val (.long (0 : Int64)), .second, .val (.long ((1 : Int64) + (0 : Int64))), .second, .val (.double (FP.ddiv (FP.l2d ((own_maxJ (0 : Int64) p1) + (0 : Int64))) (FP.l2d ((1 : Int64) + (0 : Int64))))), .second, .val (.long (own_h ka)), .second, .val (.long (own_h ka)), .second] [(.int (0 : Int32))]))
  refine own_go (fun _ own_k => XS.ifNo X15.here hx rfl (hb hby at_253) rfl (by decide) own_k) ?_
  show own_Goes p e below (own_End s below _ _) (T15.setTop (mkF m 256 #[.val (.long p1), .second, .val (.long p2), .second, .val (.int p3), .val (.int (1 : Int32)), .val (.int (0 : Int32)), .val (.ref a), .val (.ref a2), .val (.long (own_h ka)), .second, .val (.long (own_h 0)), .second, .val (.double (own_mean (0 : Int64) (0 : Int64))), .second, .val (.long (own_maxJ (0 : Int64) p1)), .second, .val (.long (0 : Int64)), .second, .val (.long ((1 : Int64) + (0 : Int64))), .second, .val (.double (FP.ddiv (FP.l2d ((own_maxJ (0 : Int64) p1) + (0 : Int64))) (FP.l2d ((1 : Int64) + (0 : Int64))))), .second, .val (.long (own_h ka)), .second, .val (.long (own_h ka)), .second] []))
  refine own_go (fun _ own_k => XS.aload X15.here hx rfl (hb hby at_256) rfl rfl own_k) ?_
  show own_Goes p e below (own_End s below _ _) (T15.setTop (mkF m 258 #[.val (.long p1), .second, .val (.long p2), .second, .val (.int p3), .val (.int (1 : Int32)), .val (.int (0 : Int32)), .val (.ref a), .val (.ref a2), .val (.long (own_h ka)), .second, .val (.long (own_h 0)), .second, .val (.double (own_mean (0 : Int64) (0 : Int64))), .second, .val (.long (own_maxJ (0 : Int64) p1)), .second, .val (.long (0 : Int64)), .second, .val (.long ((1 : Int64) + (0 : Int64))), .second, .val (.double (FP.ddiv (FP.l2d ((own_maxJ (0 : Int64) p1) + (0 : Int64))) (FP.l2d ((1 : Int64) + (0 : Int64))))), .second, .val (.long (own_h ka)), .second, .val (.long (own_h ka)), .second] [(.ref a)]))
  refine own_go (fun _ own_k => XS.dconst1 X15.here hx rfl (hb hby at_258) rfl own_k) ?_
  show own_Goes p e below (own_End s below _ _) (T15.setTop (mkF m 259 #[.val (.long p1), .second, .val (.long p2), .second, .val (.int p3), .val (.int (1 : Int32)), .val (.int (0 : Int32)), .val (.ref a), .val (.ref a2), .val (.long (own_h ka)), .second, .val (.long (own_h 0)), .second, .val (.double (own_mean (0 : Int64) (0 : Int64))), .second, .val (.long (own_maxJ (0 : Int64) p1)), .second, .val (.long (0 : Int64)), .second, .val (.long ((1 : Int64) + (0 : Int64))), .second, .val (.double (FP.ddiv (FP.l2d ((own_maxJ (0 : Int64) p1) + (0 : Int64))) (FP.l2d ((1 : Int64) + (0 : Int64))))), .second, .val (.long (own_h ka)), .second, .val (.long (own_h ka)), .second] [(.double FP.dconst1), (.ref a)]))
  obtain ⟨v16, T16, L16, X16, ⟨u16, e16, d16⟩, st16⟩ := own_callV X15 hx hZ (y := own_pctN) (z := own_pctN) hown (hw _ (List.mem_of_getElem? (i := 12) rfl)) (hw _ (List.mem_of_getElem? (i := 13) rfl)) (hw _ (List.mem_of_getElem? (i := 15) rfl)) (hw _ (List.mem_of_getElem? (i := 14) rfl)) (hw _ (List.mem_of_getElem? (i := 2) rfl)) (hw _ (List.mem_of_getElem? (i := 16) rfl)) (notFace_of_selects (args := #[]) (mvT hZ (hw _ (List.mem_of_getElem? (i := 15) rfl)))) (by decide) (own_pct l Z a0 hw _ a b _ _ _ FP.dconst1 4607182418800017408 4607182418800017408 1 ka V10 (own_At_dz kal) (by decide +kernel) own_lit_nn1 (SA.ext Y10.2) own_CE1 (by decide +kernel)) rfl V10.1 (W := 0) (by decide) (by decide) (g := (mkF m 259 #[.val (.long p1), .second, .val (.long p2), .second, .val (.int p3), .val (.int (1 : Int32)), .val (.int (0 : Int32)), .val (.ref a), .val (.ref a2), .val (.long (own_h ka)), .second, .val (.long (own_h 0)), .second, .val (.double (own_mean (0 : Int64) (0 : Int64))), .second, .val (.long (own_maxJ (0 : Int64) p1)), .second, .val (.long (0 : Int64)), .second, .val (.long ((1 : Int64) + (0 : Int64))), .second, .val (.double (FP.ddiv (FP.l2d ((own_maxJ (0 : Int64) p1) + (0 : Int64))) (FP.l2d ((1 : Int64) + (0 : Int64))))), .second, .val (.long (own_h ka)), .second, .val (.long (own_h ka)), .second] [(.double FP.dconst1), (.ref a)])) rfl (by rw [hml]; rfl) (argsL := [(.double FP.dconst1)]) (rest := []) pd_DJ rfl rfl (by show 2 * 0 + _ ≤ _; exact Nat.le_of_eq rfl) (hb hby at_259) rfl (by decide) (by decide)
  subst u16 d16
  rw [List.append_nil] at X16
  refine own_go st16 ?_
  show own_Goes p e below (own_End s below _ _) (T16.setTop (mkF m 262 #[.val (.long p1), .second, .val (.long p2), .second, .val (.int p3), .val (.int (1 : Int32)), .val (.int (0 : Int32)), .val (.ref a), .val (.ref a2), .val (.long (own_h ka)), .second, .val (.long (own_h 0)), .second, .val (.double (own_mean (0 : Int64) (0 : Int64))), .second, .val (.long (own_maxJ (0 : Int64) p1)), .second, .val (.long (0 : Int64)), .second, .val (.long ((1 : Int64) + (0 : Int64))), .second, .val (.double (FP.ddiv (FP.l2d ((own_maxJ (0 : Int64) p1) + (0 : Int64))) (FP.l2d ((1 : Int64) + (0 : Int64))))), .second, .val (.long (own_h ka)), .second, .val (.long (own_h ka)), .second] [(.long (own_h ka))]))
  rw [← e16] at V10 W10 Y10
  refine own_go (fun _ own_k => XS.lload X16.here hx rfl (hb hby at_262) rfl own_k) ?_
  show own_Goes p e below (own_End s below _ _) (T16.setTop (mkF m 264 #[.val (.long p1), .second, .val (.long p2), .second, .val (.int p3), .val (.int (1 : Int32)), .val (.int (0 : Int32)), .val (.ref a), .val (.ref a2), .val (.long (own_h ka)), .second, .val (.long (own_h 0)), .second, .val (.double (own_mean (0 : Int64) (0 : Int64))), .second, .val (.long (own_maxJ (0 : Int64) p1)), .second, .val (.long (0 : Int64)), .second, .val (.long ((1 : Int64) + (0 : Int64))), .second, .val (.double (FP.ddiv (FP.l2d ((own_maxJ (0 : Int64) p1) + (0 : Int64))) (FP.l2d ((1 : Int64) + (0 : Int64))))), .second, .val (.long (own_h ka)), .second, .val (.long (own_h ka)), .second] [(.long (own_h ka)), (.long (own_h ka))]))
  refine own_go (fun _ own_k => XS.lcmp X16.here hx rfl (hb hby at_264) rfl own_k) ?_
  show own_Goes p e below (own_End s below _ _) (T16.setTop (mkF m 265 #[.val (.long p1), .second, .val (.long p2), .second, .val (.int p3), .val (.int (1 : Int32)), .val (.int (0 : Int32)), .val (.ref a), .val (.ref a2), .val (.long (own_h ka)), .second, .val (.long (own_h 0)), .second, .val (.double (own_mean (0 : Int64) (0 : Int64))), .second, .val (.long (own_maxJ (0 : Int64) p1)), .second, .val (.long (0 : Int64)), .second, .val (.long ((1 : Int64) + (0 : Int64))), .second, .val (.double (FP.ddiv (FP.l2d ((own_maxJ (0 : Int64) p1) + (0 : Int64))) (FP.l2d ((1 : Int64) + (0 : Int64))))), .second, .val (.long (own_h ka)), .second, .val (.long (own_h ka)), .second] [(.int (lcmpW (own_h ka) (own_h ka)))]))
  refine own_go (fun _ own_k => XS.ifNo X16.here hx rfl (hb hby at_265) rfl (by rw [if0]; exact (teq ((lw_eq _ _).mpr rfl)).2) own_k) ?_
  show own_Goes p e below (own_End s below _ _) (T16.setTop (mkF m 268 #[.val (.long p1), .second, .val (.long p2), .second, .val (.int p3), .val (.int (1 : Int32)), .val (.int (0 : Int32)), .val (.ref a), .val (.ref a2), .val (.long (own_h ka)), .second, .val (.long (own_h 0)), .second, .val (.double (own_mean (0 : Int64) (0 : Int64))), .second, .val (.long (own_maxJ (0 : Int64) p1)), .second, .val (.long (0 : Int64)), .second, .val (.long ((1 : Int64) + (0 : Int64))), .second, .val (.double (FP.ddiv (FP.l2d ((own_maxJ (0 : Int64) p1) + (0 : Int64))) (FP.l2d ((1 : Int64) + (0 : Int64))))), .second, .val (.long (own_h ka)), .second, .val (.long (own_h ka)), .second] []))
  refine own_go (fun _ own_k => XS.aload X16.here hx rfl (hb hby at_268) rfl rfl own_k) ?_
  show own_Goes p e below (own_End s below _ _) (T16.setTop (mkF m 270 #[.val (.long p1), .second, .val (.long p2), .second, .val (.int p3), .val (.int (1 : Int32)), .val (.int (0 : Int32)), .val (.ref a), .val (.ref a2), .val (.long (own_h ka)), .second, .val (.long (own_h 0)), .second, .val (.double (own_mean (0 : Int64) (0 : Int64))), .second, .val (.long (own_maxJ (0 : Int64) p1)), .second, .val (.long (0 : Int64)), .second, .val (.long ((1 : Int64) + (0 : Int64))), .second, .val (.double (FP.ddiv (FP.l2d ((own_maxJ (0 : Int64) p1) + (0 : Int64))) (FP.l2d ((1 : Int64) + (0 : Int64))))), .second, .val (.long (own_h ka)), .second, .val (.long (own_h ka)), .second] [(.ref a)]))
  refine own_go (Stand.ldc2DoubleC X16 hx hown (mvT hZ (hw _ (List.mem_of_getElem? (i := 55) rfl))) (g := (mkF m 270 #[.val (.long p1), .second, .val (.long p2), .second, .val (.int p3), .val (.int (1 : Int32)), .val (.int (0 : Int32)), .val (.ref a), .val (.ref a2), .val (.long (own_h ka)), .second, .val (.long (own_h 0)), .second, .val (.double (own_mean (0 : Int64) (0 : Int64))), .second, .val (.long (own_maxJ (0 : Int64) p1)), .second, .val (.long (0 : Int64)), .second, .val (.long ((1 : Int64) + (0 : Int64))), .second, .val (.double (FP.ddiv (FP.l2d ((own_maxJ (0 : Int64) p1) + (0 : Int64))) (FP.l2d ((1 : Int64) + (0 : Int64))))), .second, .val (.long (own_h ka)), .second, .val (.long (own_h ka)), .second] [(.ref a)])) rfl (hb hby at_270)) ?_
  show own_Goes p e below (own_End s below _ _) (T16.setTop (mkF m 273 #[.val (.long p1), .second, .val (.long p2), .second, .val (.int p3), .val (.int (1 : Int32)), .val (.int (0 : Int32)), .val (.ref a), .val (.ref a2), .val (.long (own_h ka)), .second, .val (.long (own_h 0)), .second, .val (.double (own_mean (0 : Int64) (0 : Int64))), .second, .val (.long (own_maxJ (0 : Int64) p1)), .second, .val (.long (0 : Int64)), .second, .val (.long ((1 : Int64) + (0 : Int64))), .second, .val (.double (FP.ddiv (FP.l2d ((own_maxJ (0 : Int64) p1) + (0 : Int64))) (FP.l2d ((1 : Int64) + (0 : Int64))))), .second, .val (.long (own_h ka)), .second, .val (.long (own_h ka)), .second] [(.double 4602678819172646912), (.ref a)]))
  obtain ⟨v17, T17, L17, X17, ⟨u17, e17, d17⟩, st17⟩ := own_callV X16 hx hZ (y := own_pctN) (z := own_pctN) hown (hw _ (List.mem_of_getElem? (i := 12) rfl)) (hw _ (List.mem_of_getElem? (i := 13) rfl)) (hw _ (List.mem_of_getElem? (i := 15) rfl)) (hw _ (List.mem_of_getElem? (i := 14) rfl)) (hw _ (List.mem_of_getElem? (i := 2) rfl)) (hw _ (List.mem_of_getElem? (i := 16) rfl)) (notFace_of_selects (args := #[]) (mvT hZ (hw _ (List.mem_of_getElem? (i := 15) rfl)))) (by decide) (own_pct l Z a0 hw _ a b _ _ _ 4602678819172646912 4602678819172646912 4607182418800017408 1 ka V10 (own_At_dz kal) (by decide +kernel) own_lit_nnh (SA.ext Y10.2) own_CEh (by decide +kernel)) rfl V10.1 (W := 0) (by decide) (by decide) (g := (mkF m 273 #[.val (.long p1), .second, .val (.long p2), .second, .val (.int p3), .val (.int (1 : Int32)), .val (.int (0 : Int32)), .val (.ref a), .val (.ref a2), .val (.long (own_h ka)), .second, .val (.long (own_h 0)), .second, .val (.double (own_mean (0 : Int64) (0 : Int64))), .second, .val (.long (own_maxJ (0 : Int64) p1)), .second, .val (.long (0 : Int64)), .second, .val (.long ((1 : Int64) + (0 : Int64))), .second, .val (.double (FP.ddiv (FP.l2d ((own_maxJ (0 : Int64) p1) + (0 : Int64))) (FP.l2d ((1 : Int64) + (0 : Int64))))), .second, .val (.long (own_h ka)), .second, .val (.long (own_h ka)), .second] [(.double 4602678819172646912), (.ref a)])) rfl (by rw [hml]; rfl) (argsL := [(.double 4602678819172646912)]) (rest := []) pd_DJ rfl rfl (by show 2 * 0 + _ ≤ _; exact Nat.le_of_eq rfl) (hb hby at_273) rfl (by decide) (by decide)
  subst u17 d17
  rw [List.append_nil] at X17
  refine own_go st17 ?_
  show own_Goes p e below (own_End s below _ _) (T17.setTop (mkF m 276 #[.val (.long p1), .second, .val (.long p2), .second, .val (.int p3), .val (.int (1 : Int32)), .val (.int (0 : Int32)), .val (.ref a), .val (.ref a2), .val (.long (own_h ka)), .second, .val (.long (own_h 0)), .second, .val (.double (own_mean (0 : Int64) (0 : Int64))), .second, .val (.long (own_maxJ (0 : Int64) p1)), .second, .val (.long (0 : Int64)), .second, .val (.long ((1 : Int64) + (0 : Int64))), .second, .val (.double (FP.ddiv (FP.l2d ((own_maxJ (0 : Int64) p1) + (0 : Int64))) (FP.l2d ((1 : Int64) + (0 : Int64))))), .second, .val (.long (own_h ka)), .second, .val (.long (own_h ka)), .second] [(.long (own_h ka))]))
  rw [← e17] at V10 W10 Y10
  refine own_go (fun _ own_k => XS.lload X17.here hx rfl (hb hby at_276) rfl own_k) ?_
  show own_Goes p e below (own_End s below _ _) (T17.setTop (mkF m 278 #[.val (.long p1), .second, .val (.long p2), .second, .val (.int p3), .val (.int (1 : Int32)), .val (.int (0 : Int32)), .val (.ref a), .val (.ref a2), .val (.long (own_h ka)), .second, .val (.long (own_h 0)), .second, .val (.double (own_mean (0 : Int64) (0 : Int64))), .second, .val (.long (own_maxJ (0 : Int64) p1)), .second, .val (.long (0 : Int64)), .second, .val (.long ((1 : Int64) + (0 : Int64))), .second, .val (.double (FP.ddiv (FP.l2d ((own_maxJ (0 : Int64) p1) + (0 : Int64))) (FP.l2d ((1 : Int64) + (0 : Int64))))), .second, .val (.long (own_h ka)), .second, .val (.long (own_h ka)), .second] [(.long (own_h ka)), (.long (own_h ka))]))
  refine own_go (fun _ own_k => XS.lcmp X17.here hx rfl (hb hby at_278) rfl own_k) ?_
  show own_Goes p e below (own_End s below _ _) (T17.setTop (mkF m 279 #[.val (.long p1), .second, .val (.long p2), .second, .val (.int p3), .val (.int (1 : Int32)), .val (.int (0 : Int32)), .val (.ref a), .val (.ref a2), .val (.long (own_h ka)), .second, .val (.long (own_h 0)), .second, .val (.double (own_mean (0 : Int64) (0 : Int64))), .second, .val (.long (own_maxJ (0 : Int64) p1)), .second, .val (.long (0 : Int64)), .second, .val (.long ((1 : Int64) + (0 : Int64))), .second, .val (.double (FP.ddiv (FP.l2d ((own_maxJ (0 : Int64) p1) + (0 : Int64))) (FP.l2d ((1 : Int64) + (0 : Int64))))), .second, .val (.long (own_h ka)), .second, .val (.long (own_h ka)), .second] [(.int (lcmpW (own_h ka) (own_h ka)))]))
  refine own_go (fun _ own_k => XS.ifNo X17.here hx rfl (hb hby at_279) rfl (by rw [if0]; exact (teq ((lw_eq _ _).mpr rfl)).2) own_k) ?_
  show own_Goes p e below (own_End s below _ _) (T17.setTop (mkF m 282 #[.val (.long p1), .second, .val (.long p2), .second, .val (.int p3), .val (.int (1 : Int32)), .val (.int (0 : Int32)), .val (.ref a), .val (.ref a2), .val (.long (own_h ka)), .second, .val (.long (own_h 0)), .second, .val (.double (own_mean (0 : Int64) (0 : Int64))), .second, .val (.long (own_maxJ (0 : Int64) p1)), .second, .val (.long (0 : Int64)), .second, .val (.long ((1 : Int64) + (0 : Int64))), .second, .val (.double (FP.ddiv (FP.l2d ((own_maxJ (0 : Int64) p1) + (0 : Int64))) (FP.l2d ((1 : Int64) + (0 : Int64))))), .second, .val (.long (own_h ka)), .second, .val (.long (own_h ka)), .second] []))
  refine own_go (fun _ own_k => XS.aload X17.here hx rfl (hb hby at_282) rfl rfl own_k) ?_
  show own_Goes p e below (own_End s below _ _) (T17.setTop (mkF m 284 #[.val (.long p1), .second, .val (.long p2), .second, .val (.int p3), .val (.int (1 : Int32)), .val (.int (0 : Int32)), .val (.ref a), .val (.ref a2), .val (.long (own_h ka)), .second, .val (.long (own_h 0)), .second, .val (.double (own_mean (0 : Int64) (0 : Int64))), .second, .val (.long (own_maxJ (0 : Int64) p1)), .second, .val (.long (0 : Int64)), .second, .val (.long ((1 : Int64) + (0 : Int64))), .second, .val (.double (FP.ddiv (FP.l2d ((own_maxJ (0 : Int64) p1) + (0 : Int64))) (FP.l2d ((1 : Int64) + (0 : Int64))))), .second, .val (.long (own_h ka)), .second, .val (.long (own_h ka)), .second] [(.ref a2)]))
  obtain ⟨v18, T18, L18, X18, ⟨u18, e18, d18⟩, st18⟩ := own_callV X17 hx hZ (y := own_meaN) (z := own_meaN) hown (hw _ (List.mem_of_getElem? (i := 43) rfl)) (hw _ (List.mem_of_getElem? (i := 44) rfl)) (hw _ (List.mem_of_getElem? (i := 46) rfl)) (hw _ (List.mem_of_getElem? (i := 45) rfl)) (hw _ (List.mem_of_getElem? (i := 2) rfl)) (hw _ (List.mem_of_getElem? (i := 47) rfl)) (notFace_of_selects (args := #[]) (mvT hZ (hw _ (List.mem_of_getElem? (i := 46) rfl)))) (by decide) (own_mea l Z a0 hw _ a2 b2 _ _ _ W10) rfl W10.1 (W := 0) (by decide) (by decide) (g := (mkF m 284 #[.val (.long p1), .second, .val (.long p2), .second, .val (.int p3), .val (.int (1 : Int32)), .val (.int (0 : Int32)), .val (.ref a), .val (.ref a2), .val (.long (own_h ka)), .second, .val (.long (own_h 0)), .second, .val (.double (own_mean (0 : Int64) (0 : Int64))), .second, .val (.long (own_maxJ (0 : Int64) p1)), .second, .val (.long (0 : Int64)), .second, .val (.long ((1 : Int64) + (0 : Int64))), .second, .val (.double (FP.ddiv (FP.l2d ((own_maxJ (0 : Int64) p1) + (0 : Int64))) (FP.l2d ((1 : Int64) + (0 : Int64))))), .second, .val (.long (own_h ka)), .second, .val (.long (own_h ka)), .second] [(.ref a2)])) rfl (by rw [hml]; rfl) (argsL := []) (rest := []) pd_D rfl rfl (by show 2 * 0 + _ ≤ _; exact Nat.le_of_eq rfl) (hb hby at_284) rfl (by decide) (by decide)
  subst u18 d18
  rw [List.append_nil] at X18
  refine own_go st18 ?_
  show own_Goes p e below (own_End s below _ _) (T18.setTop (mkF m 287 #[.val (.long p1), .second, .val (.long p2), .second, .val (.int p3), .val (.int (1 : Int32)), .val (.int (0 : Int32)), .val (.ref a), .val (.ref a2), .val (.long (own_h ka)), .second, .val (.long (own_h 0)), .second, .val (.double (own_mean (0 : Int64) (0 : Int64))), .second, .val (.long (own_maxJ (0 : Int64) p1)), .second, .val (.long (0 : Int64)), .second, .val (.long ((1 : Int64) + (0 : Int64))), .second, .val (.double (FP.ddiv (FP.l2d ((own_maxJ (0 : Int64) p1) + (0 : Int64))) (FP.l2d ((1 : Int64) + (0 : Int64))))), .second, .val (.long (own_h ka)), .second, .val (.long (own_h ka)), .second] [(.double (own_mean (0 : Int64) (0 : Int64)))]))
  rw [← e18] at V10 W10 Y10
  refine own_go (fun _ own_k => XS.dload X18.here hx rfl (hb hby at_287) rfl own_k) ?_
  show own_Goes p e below (own_End s below _ _) (T18.setTop (mkF m 289 #[.val (.long p1), .second, .val (.long p2), .second, .val (.int p3), .val (.int (1 : Int32)), .val (.int (0 : Int32)), .val (.ref a), .val (.ref a2), .val (.long (own_h ka)), .second, .val (.long (own_h 0)), .second, .val (.double (own_mean (0 : Int64) (0 : Int64))), .second, .val (.long (own_maxJ (0 : Int64) p1)), .second, .val (.long (0 : Int64)), .second, .val (.long ((1 : Int64) + (0 : Int64))), .second, .val (.double (FP.ddiv (FP.l2d ((own_maxJ (0 : Int64) p1) + (0 : Int64))) (FP.l2d ((1 : Int64) + (0 : Int64))))), .second, .val (.long (own_h ka)), .second, .val (.long (own_h ka)), .second] [(.double (own_mean (0 : Int64) (0 : Int64))), (.double (own_mean (0 : Int64) (0 : Int64)))]))
  refine own_go (fun _ own_k => XS.dcmpS X18.here hx rfl (hb hby at_289) rfl (dcmpV_eq rfl (own_mean_nn _ _) .l) own_k) ?_
  show own_Goes p e below (own_End s below _ _) (T18.setTop (mkF m 290 #[.val (.long p1), .second, .val (.long p2), .second, .val (.int p3), .val (.int (1 : Int32)), .val (.int (0 : Int32)), .val (.ref a), .val (.ref a2), .val (.long (own_h ka)), .second, .val (.long (own_h 0)), .second, .val (.double (own_mean (0 : Int64) (0 : Int64))), .second, .val (.long (own_maxJ (0 : Int64) p1)), .second, .val (.long (0 : Int64)), .second, .val (.long ((1 : Int64) + (0 : Int64))), .second, .val (.double (FP.ddiv (FP.l2d ((own_maxJ (0 : Int64) p1) + (0 : Int64))) (FP.l2d ((1 : Int64) + (0 : Int64))))), .second, .val (.long (own_h ka)), .second, .val (.long (own_h ka)), .second] [(.int (0 : Int32))]))
  refine own_go (fun _ own_k => XS.ifNo X18.here hx rfl (hb hby at_290) rfl (by decide) own_k) ?_
  show own_Goes p e below (own_End s below _ _) (T18.setTop (mkF m 293 #[.val (.long p1), .second, .val (.long p2), .second, .val (.int p3), .val (.int (1 : Int32)), .val (.int (0 : Int32)), .val (.ref a), .val (.ref a2), .val (.long (own_h ka)), .second, .val (.long (own_h 0)), .second, .val (.double (own_mean (0 : Int64) (0 : Int64))), .second, .val (.long (own_maxJ (0 : Int64) p1)), .second, .val (.long (0 : Int64)), .second, .val (.long ((1 : Int64) + (0 : Int64))), .second, .val (.double (FP.ddiv (FP.l2d ((own_maxJ (0 : Int64) p1) + (0 : Int64))) (FP.l2d ((1 : Int64) + (0 : Int64))))), .second, .val (.long (own_h ka)), .second, .val (.long (own_h ka)), .second] []))
  refine own_go (fun _ own_k => XS.aload X18.here hx rfl (hb hby at_293) rfl rfl own_k) ?_
  show own_Goes p e below (own_End s below _ _) (T18.setTop (mkF m 295 #[.val (.long p1), .second, .val (.long p2), .second, .val (.int p3), .val (.int (1 : Int32)), .val (.int (0 : Int32)), .val (.ref a), .val (.ref a2), .val (.long (own_h ka)), .second, .val (.long (own_h 0)), .second, .val (.double (own_mean (0 : Int64) (0 : Int64))), .second, .val (.long (own_maxJ (0 : Int64) p1)), .second, .val (.long (0 : Int64)), .second, .val (.long ((1 : Int64) + (0 : Int64))), .second, .val (.double (FP.ddiv (FP.l2d ((own_maxJ (0 : Int64) p1) + (0 : Int64))) (FP.l2d ((1 : Int64) + (0 : Int64))))), .second, .val (.long (own_h ka)), .second, .val (.long (own_h ka)), .second] [(.ref a2)]))
  refine own_go (fun _ own_k => XS.dconst1 X18.here hx rfl (hb hby at_295) rfl own_k) ?_
  show own_Goes p e below (own_End s below _ _) (T18.setTop (mkF m 296 #[.val (.long p1), .second, .val (.long p2), .second, .val (.int p3), .val (.int (1 : Int32)), .val (.int (0 : Int32)), .val (.ref a), .val (.ref a2), .val (.long (own_h ka)), .second, .val (.long (own_h 0)), .second, .val (.double (own_mean (0 : Int64) (0 : Int64))), .second, .val (.long (own_maxJ (0 : Int64) p1)), .second, .val (.long (0 : Int64)), .second, .val (.long ((1 : Int64) + (0 : Int64))), .second, .val (.double (FP.ddiv (FP.l2d ((own_maxJ (0 : Int64) p1) + (0 : Int64))) (FP.l2d ((1 : Int64) + (0 : Int64))))), .second, .val (.long (own_h ka)), .second, .val (.long (own_h ka)), .second] [(.double FP.dconst1), (.ref a2)]))
  obtain ⟨v19, T19, L19, X19, ⟨u19, e19, d19⟩, st19⟩ := own_callV X18 hx hZ (y := own_pctN) (z := own_pctN) hown (hw _ (List.mem_of_getElem? (i := 12) rfl)) (hw _ (List.mem_of_getElem? (i := 13) rfl)) (hw _ (List.mem_of_getElem? (i := 15) rfl)) (hw _ (List.mem_of_getElem? (i := 14) rfl)) (hw _ (List.mem_of_getElem? (i := 2) rfl)) (hw _ (List.mem_of_getElem? (i := 16) rfl)) (notFace_of_selects (args := #[]) (mvT hZ (hw _ (List.mem_of_getElem? (i := 15) rfl)))) (by decide) (own_pct l Z a0 hw _ a2 b2 _ _ _ FP.dconst1 0 0 0 0 W10 own_At_zr (by decide +kernel) own_lit_nn0 (SA.ext Y10.2) own_CE0 (by decide +kernel)) rfl W10.1 (W := 0) (by decide) (by decide) (g := (mkF m 296 #[.val (.long p1), .second, .val (.long p2), .second, .val (.int p3), .val (.int (1 : Int32)), .val (.int (0 : Int32)), .val (.ref a), .val (.ref a2), .val (.long (own_h ka)), .second, .val (.long (own_h 0)), .second, .val (.double (own_mean (0 : Int64) (0 : Int64))), .second, .val (.long (own_maxJ (0 : Int64) p1)), .second, .val (.long (0 : Int64)), .second, .val (.long ((1 : Int64) + (0 : Int64))), .second, .val (.double (FP.ddiv (FP.l2d ((own_maxJ (0 : Int64) p1) + (0 : Int64))) (FP.l2d ((1 : Int64) + (0 : Int64))))), .second, .val (.long (own_h ka)), .second, .val (.long (own_h ka)), .second] [(.double FP.dconst1), (.ref a2)])) rfl (by rw [hml]; rfl) (argsL := [(.double FP.dconst1)]) (rest := []) pd_DJ rfl rfl (by show 2 * 0 + _ ≤ _; exact Nat.le_of_eq rfl) (hb hby at_296) rfl (by decide) (by decide)
  subst u19 d19
  rw [List.append_nil] at X19
  refine own_go st19 ?_
  show own_Goes p e below (own_End s below _ _) (T19.setTop (mkF m 299 #[.val (.long p1), .second, .val (.long p2), .second, .val (.int p3), .val (.int (1 : Int32)), .val (.int (0 : Int32)), .val (.ref a), .val (.ref a2), .val (.long (own_h ka)), .second, .val (.long (own_h 0)), .second, .val (.double (own_mean (0 : Int64) (0 : Int64))), .second, .val (.long (own_maxJ (0 : Int64) p1)), .second, .val (.long (0 : Int64)), .second, .val (.long ((1 : Int64) + (0 : Int64))), .second, .val (.double (FP.ddiv (FP.l2d ((own_maxJ (0 : Int64) p1) + (0 : Int64))) (FP.l2d ((1 : Int64) + (0 : Int64))))), .second, .val (.long (own_h ka)), .second, .val (.long (own_h ka)), .second] [(.long (own_h 0))]))
  refine own_go (fun _ own_k => XS.lload X19.here hx rfl (hb hby at_299) rfl own_k) ?_
  show own_Goes p e below (own_End s below _ _) (T19.setTop (mkF m 301 #[.val (.long p1), .second, .val (.long p2), .second, .val (.int p3), .val (.int (1 : Int32)), .val (.int (0 : Int32)), .val (.ref a), .val (.ref a2), .val (.long (own_h ka)), .second, .val (.long (own_h 0)), .second, .val (.double (own_mean (0 : Int64) (0 : Int64))), .second, .val (.long (own_maxJ (0 : Int64) p1)), .second, .val (.long (0 : Int64)), .second, .val (.long ((1 : Int64) + (0 : Int64))), .second, .val (.double (FP.ddiv (FP.l2d ((own_maxJ (0 : Int64) p1) + (0 : Int64))) (FP.l2d ((1 : Int64) + (0 : Int64))))), .second, .val (.long (own_h ka)), .second, .val (.long (own_h ka)), .second] [(.long (own_h 0)), (.long (own_h 0))]))
  refine own_go (fun _ own_k => XS.lcmp X19.here hx rfl (hb hby at_301) rfl own_k) ?_
  show own_Goes p e below (own_End s below _ _) (T19.setTop (mkF m 302 #[.val (.long p1), .second, .val (.long p2), .second, .val (.int p3), .val (.int (1 : Int32)), .val (.int (0 : Int32)), .val (.ref a), .val (.ref a2), .val (.long (own_h ka)), .second, .val (.long (own_h 0)), .second, .val (.double (own_mean (0 : Int64) (0 : Int64))), .second, .val (.long (own_maxJ (0 : Int64) p1)), .second, .val (.long (0 : Int64)), .second, .val (.long ((1 : Int64) + (0 : Int64))), .second, .val (.double (FP.ddiv (FP.l2d ((own_maxJ (0 : Int64) p1) + (0 : Int64))) (FP.l2d ((1 : Int64) + (0 : Int64))))), .second, .val (.long (own_h ka)), .second, .val (.long (own_h ka)), .second] [(.int (lcmpW (own_h 0) (own_h 0)))]))
  refine own_go (fun _ own_k => XS.ifNo X19.here hx rfl (hb hby at_302) rfl (by rw [if0]; exact (teq ((lw_eq _ _).mpr rfl)).2) own_k) ?_
  show own_Goes p e below (own_End s below _ _) (T19.setTop (mkF m 305 #[.val (.long p1), .second, .val (.long p2), .second, .val (.int p3), .val (.int (1 : Int32)), .val (.int (0 : Int32)), .val (.ref a), .val (.ref a2), .val (.long (own_h ka)), .second, .val (.long (own_h 0)), .second, .val (.double (own_mean (0 : Int64) (0 : Int64))), .second, .val (.long (own_maxJ (0 : Int64) p1)), .second, .val (.long (0 : Int64)), .second, .val (.long ((1 : Int64) + (0 : Int64))), .second, .val (.double (FP.ddiv (FP.l2d ((own_maxJ (0 : Int64) p1) + (0 : Int64))) (FP.l2d ((1 : Int64) + (0 : Int64))))), .second, .val (.long (own_h ka)), .second, .val (.long (own_h ka)), .second] []))
  refine own_go (fun _ own_k => XS.iconst X19.here hx rfl (hb hby at_305) own_k) ?_
  show own_Goes p e below (own_End s below _ _) (T19.setTop (mkF m 306 #[.val (.long p1), .second, .val (.long p2), .second, .val (.int p3), .val (.int (1 : Int32)), .val (.int (0 : Int32)), .val (.ref a), .val (.ref a2), .val (.long (own_h ka)), .second, .val (.long (own_h 0)), .second, .val (.double (own_mean (0 : Int64) (0 : Int64))), .second, .val (.long (own_maxJ (0 : Int64) p1)), .second, .val (.long (0 : Int64)), .second, .val (.long ((1 : Int64) + (0 : Int64))), .second, .val (.double (FP.ddiv (FP.l2d ((own_maxJ (0 : Int64) p1) + (0 : Int64))) (FP.l2d ((1 : Int64) + (0 : Int64))))), .second, .val (.long (own_h ka)), .second, .val (.long (own_h ka)), .second] [(.int (1 : Int32))]))
  refine own_go (fun _ own_k => XS.goto X19.here hx rfl (pc0 := 306) (pc' := 310) rfl (hb hby at_306) (by decide) (by decide) own_k) ?_
  show own_Goes p e below (own_End s below _ _) (T19.setTop (mkF m 310 #[.val (.long p1), .second, .val (.long p2), .second, .val (.int p3), .val (.int (1 : Int32)), .val (.int (0 : Int32)), .val (.ref a), .val (.ref a2), .val (.long (own_h ka)), .second, .val (.long (own_h 0)), .second, .val (.double (own_mean (0 : Int64) (0 : Int64))), .second, .val (.long (own_maxJ (0 : Int64) p1)), .second, .val (.long (0 : Int64)), .second, .val (.long ((1 : Int64) + (0 : Int64))), .second, .val (.double (FP.ddiv (FP.l2d ((own_maxJ (0 : Int64) p1) + (0 : Int64))) (FP.l2d ((1 : Int64) + (0 : Int64))))), .second, .val (.long (own_h ka)), .second, .val (.long (own_h ka)), .second] [(.int (1 : Int32))]))
  exact own_retZ X19 hx Bd.notSynchronized Bd.returns rfl (hb hby at_310) ⟨rfl, N10⟩ (by decide) (by decide)
set_option maxRecDepth 65536 in
set_option maxHeartbeats 40000000 in
theorem own_case11 (l : Launch) (Z : State) (a0 : Array Value) (hw : ∀ d ∈ tables_1, d.before a0 Z = true) (ws : List Jvm.Cond) (p1 p2 : Int64) (p3 : Int32) (h0 : Heap) (n0 : Nat) (Z0 : n0 ≤ h0.size) (SA : Sta Z Z.heap "java/lang/StrictMath" "$assertionsDisabled" "Z" (.int 1)) (O0 : Old Z n0 h0) (p : Program) (e : Env) (s : State) (m : MethodId) (below : List Frame) (meth : Method) (c : Code) (s₁ : State)
    (Bd : BodyLoose p l x (head1 (Jvm.Cond.code x code maxLocals ret :: ws) room_1) code maxLocals ret e s m #[(.long p1), (.long p2), (.int p3)] below meth c s₁) (hml : c.maxLocals = maxLocals) (hZ : Z.Warmed39 s.vm) (e0 : s₁.heap = h0) :
    own_Goes p e below (own_End s below room_1 (own_Q n0)) (s₁.setTop (mkF m 28 #[.val (.long p1), .second, .val (.long p2), .second, .val (.int p3), .val (.int (1 : Int32)), .val (.int (1 : Int32)), .unset, .unset, .unset, .unset, .unset, .unset, .unset, .unset, .unset, .unset, .unset, .unset, .unset, .unset, .unset, .unset, .unset, .unset, .unset, .unset] [])) := by
  have hx := Bd.exec
  have hby := Bd.bytes
  have hown : s.vm.findClass "com/example/holdfast/holdfast/cli/LatencyHistogramAddPinLaw" = some m.cls := findClass_of_methodNamed Bd.named
  have X0 : Stand p l e room_1 s m #[(.long p1), (.long p2), (.int p3)] below meth c s₁ [] 0 0 := Stand.of_body Bd
  show own_Goes p e below (own_End s below _ _) (s₁.setTop (mkF m 28 #[.val (.long p1), .second, .val (.long p2), .second, .val (.int p3), .val (.int (1 : Int32)), .val (.int (1 : Int32)), .unset, .unset, .unset, .unset, .unset, .unset, .unset, .unset, .unset, .unset, .unset, .unset, .unset, .unset, .unset, .unset, .unset, .unset, .unset, .unset] []))
  have Zp1 := Z0
  obtain ⟨T1, h1, X1, e1, E1, A1, D1, -, st1⟩ := newO X0 hx hZ hown (hw _ (List.mem_of_getElem? (i := 0) rfl)) (hw _ (List.mem_of_getElem? (i := 1) rfl)) (hw _ (List.mem_of_getElem? (i := 2) rfl)) e0 (g := (mkF m 28 #[.val (.long p1), .second, .val (.long p2), .second, .val (.int p3), .val (.int (1 : Int32)), .val (.int (1 : Int32)), .unset, .unset, .unset, .unset, .unset, .unset, .unset, .unset, .unset, .unset, .unset, .unset, .unset, .unset, .unset, .unset, .unset, .unset, .unset, .unset] [])) rfl (hb hby at_28) (by decide) (by decide)
  obtain ⟨a, ga⟩ : ∃ z, z = h0.size := ⟨_, rfl⟩
  rw [← ga] at A1 D1 st1
  have na : n0 ≤ a := by rw [ga]; exact Zp1
  have Zp2 : n0 ≤ h1.size := Nat.le_trans Zp1 E1.1
  refine own_go st1 ?_
  show own_Goes p e below (own_End s below _ _) (T1.setTop (mkF m 31 #[.val (.long p1), .second, .val (.long p2), .second, .val (.int p3), .val (.int (1 : Int32)), .val (.int (1 : Int32)), .unset, .unset, .unset, .unset, .unset, .unset, .unset, .unset, .unset, .unset, .unset, .unset, .unset, .unset, .unset, .unset, .unset, .unset, .unset, .unset] [(.ref a)]))
  refine own_go (fun _ own_k => XS.dup X1.here hx rfl (hb hby at_31) rfl rfl own_k) ?_
  show own_Goes p e below (own_End s below _ _) (T1.setTop (mkF m 32 #[.val (.long p1), .second, .val (.long p2), .second, .val (.int p3), .val (.int (1 : Int32)), .val (.int (1 : Int32)), .unset, .unset, .unset, .unset, .unset, .unset, .unset, .unset, .unset, .unset, .unset, .unset, .unset, .unset, .unset, .unset, .unset, .unset, .unset, .unset] [(.ref a), (.ref a)]))
  obtain ⟨v2, T2, L2, X2, ⟨u2, M2, K2, b, gb, Ha⟩, st2⟩ := own_callI X1 hx hZ (y := own_iniN) rfl hown (hw _ (List.mem_of_getElem? (i := 3) rfl)) (hw _ (List.mem_of_getElem? (i := 4) rfl)) (hw _ (List.mem_of_getElem? (i := 2) rfl)) (hw _ (List.mem_of_getElem? (i := 5) rfl)) (by decide) (own_ini l Z a0 hw h1 n0 a Zp2 na A1 (D1 (Or.inr (hw _ (List.mem_of_getElem? (i := 11) rfl))) (ty := .array .long) (by decide)) (D1 (Or.inl (hw _ (List.mem_of_getElem? (i := 18) rfl))) (ty := .long) (by decide)) (D1 (Or.inl (hw _ (List.mem_of_getElem? (i := 54) rfl))) (ty := .long) (by decide))) e1 (W := 1) (by decide) (by decide) (g := (mkF m 32 #[.val (.long p1), .second, .val (.long p2), .second, .val (.int p3), .val (.int (1 : Int32)), .val (.int (1 : Int32)), .unset, .unset, .unset, .unset, .unset, .unset, .unset, .unset, .unset, .unset, .unset, .unset, .unset, .unset, .unset, .unset, .unset, .unset, .unset, .unset] [(.ref a), (.ref a)])) rfl (by rw [hml]; rfl) (a := a) (argsL := []) (rest := [(.ref a)]) pd_V rfl rfl (by show 2 * 0 + _ ≤ _; exact Nat.le_of_eq rfl) (hb hby at_32) rfl (by decide) (by decide)
  subst u2
  have N2 := Fr.app (Fr.nil n0) M2
  have nb : n0 ≤ b := Nat.le_trans Zp2 gb
  have Y2 := (O0.ext E1).keep K2 (allS na all0)
  have Zp3 : n0 ≤ T2.heap.size := Nat.le_trans Zp2 K2.1
  refine own_go st2 ?_
  show own_Goes p e below (own_End s below _ _) (T2.setTop (mkF m 35 #[.val (.long p1), .second, .val (.long p2), .second, .val (.int p3), .val (.int (1 : Int32)), .val (.int (1 : Int32)), .unset, .unset, .unset, .unset, .unset, .unset, .unset, .unset, .unset, .unset, .unset, .unset, .unset, .unset, .unset, .unset, .unset, .unset, .unset, .unset] [(.ref a)]))
  refine own_go (fun _ own_k => XS.astore X2.here hx rfl (hb hby at_35) rfl rfl (l' := #[.val (.long p1), .second, .val (.long p2), .second, .val (.int p3), .val (.int (1 : Int32)), .val (.int (1 : Int32)), .val (.ref a), .unset, .unset, .unset, .unset, .unset, .unset, .unset, .unset, .unset, .unset, .unset, .unset, .unset, .unset, .unset, .unset, .unset, .unset, .unset]) rfl own_k) ?_
  show own_Goes p e below (own_End s below _ _) (T2.setTop (mkF m 37 #[.val (.long p1), .second, .val (.long p2), .second, .val (.int p3), .val (.int (1 : Int32)), .val (.int (1 : Int32)), .val (.ref a), .unset, .unset, .unset, .unset, .unset, .unset, .unset, .unset, .unset, .unset, .unset, .unset, .unset, .unset, .unset, .unset, .unset, .unset, .unset] []))
  have lt1 := own_H_lt Ha
  obtain ⟨T3, h3, X3, e3, E3, A3, D3, -, st3⟩ := newO X2 hx hZ hown (hw _ (List.mem_of_getElem? (i := 0) rfl)) (hw _ (List.mem_of_getElem? (i := 1) rfl)) (hw _ (List.mem_of_getElem? (i := 2) rfl)) rfl (g := (mkF m 37 #[.val (.long p1), .second, .val (.long p2), .second, .val (.int p3), .val (.int (1 : Int32)), .val (.int (1 : Int32)), .val (.ref a), .unset, .unset, .unset, .unset, .unset, .unset, .unset, .unset, .unset, .unset, .unset, .unset, .unset, .unset, .unset, .unset, .unset, .unset, .unset] [])) rfl (hb hby at_37) (by decide) (by decide)
  obtain ⟨a2, ga2⟩ : ∃ z, z = T2.heap.size := ⟨_, rfl⟩
  rw [← ga2] at A3 D3 st3
  have na2 : n0 ≤ a2 := by rw [ga2]; exact Zp3
  have Zp4 : n0 ≤ h3.size := Nat.le_trans Zp3 E3.1
  refine own_go st3 ?_
  show own_Goes p e below (own_End s below _ _) (T3.setTop (mkF m 40 #[.val (.long p1), .second, .val (.long p2), .second, .val (.int p3), .val (.int (1 : Int32)), .val (.int (1 : Int32)), .val (.ref a), .unset, .unset, .unset, .unset, .unset, .unset, .unset, .unset, .unset, .unset, .unset, .unset, .unset, .unset, .unset, .unset, .unset, .unset, .unset] [(.ref a2)]))
  refine own_go (fun _ own_k => XS.dup X3.here hx rfl (hb hby at_40) rfl rfl own_k) ?_
  show own_Goes p e below (own_End s below _ _) (T3.setTop (mkF m 41 #[.val (.long p1), .second, .val (.long p2), .second, .val (.int p3), .val (.int (1 : Int32)), .val (.int (1 : Int32)), .val (.ref a), .unset, .unset, .unset, .unset, .unset, .unset, .unset, .unset, .unset, .unset, .unset, .unset, .unset, .unset, .unset, .unset, .unset, .unset, .unset] [(.ref a2), (.ref a2)]))
  obtain ⟨v4, T4, L4, X4, ⟨u4, M4, K4, b2, gb2, Hb⟩, st4⟩ := own_callI X3 hx hZ (y := own_iniN) rfl hown (hw _ (List.mem_of_getElem? (i := 3) rfl)) (hw _ (List.mem_of_getElem? (i := 4) rfl)) (hw _ (List.mem_of_getElem? (i := 2) rfl)) (hw _ (List.mem_of_getElem? (i := 5) rfl)) (by decide) (own_ini l Z a0 hw h3 n0 a2 Zp4 na2 A3 (D3 (Or.inr (hw _ (List.mem_of_getElem? (i := 11) rfl))) (ty := .array .long) (by decide)) (D3 (Or.inl (hw _ (List.mem_of_getElem? (i := 18) rfl))) (ty := .long) (by decide)) (D3 (Or.inl (hw _ (List.mem_of_getElem? (i := 54) rfl))) (ty := .long) (by decide))) e3 (W := 1) (by decide) (by decide) (g := (mkF m 41 #[.val (.long p1), .second, .val (.long p2), .second, .val (.int p3), .val (.int (1 : Int32)), .val (.int (1 : Int32)), .val (.ref a), .unset, .unset, .unset, .unset, .unset, .unset, .unset, .unset, .unset, .unset, .unset, .unset, .unset, .unset, .unset, .unset, .unset, .unset, .unset] [(.ref a2), (.ref a2)])) rfl (by rw [hml]; rfl) (a := a2) (argsL := []) (rest := [(.ref a2)]) pd_V rfl rfl (by show 2 * 0 + _ ≤ _; exact Nat.le_of_eq rfl) (hb hby at_41) rfl (by decide) (by decide)
  subst u4
  have N4 := Fr.app N2 M4
  have nb2 : n0 ≤ b2 := Nat.le_trans Zp4 gb2
  have Y4 := (Y2.ext E3).keep K4 (allS na2 all0)
  have Zp5 : n0 ≤ T4.heap.size := Nat.le_trans Zp4 K4.1
  refine own_go st4 ?_
  show own_Goes p e below (own_End s below _ _) (T4.setTop (mkF m 44 #[.val (.long p1), .second, .val (.long p2), .second, .val (.int p3), .val (.int (1 : Int32)), .val (.int (1 : Int32)), .val (.ref a), .unset, .unset, .unset, .unset, .unset, .unset, .unset, .unset, .unset, .unset, .unset, .unset, .unset, .unset, .unset, .unset, .unset, .unset, .unset] [(.ref a2)]))
  have nea : a ∉ [a2] ∧ b ∉ [a2] := ⟨ninS (by rw [ga2]; exact Nat.ne_of_lt lt1.1) nin0, ninS (by rw [ga2]; exact Nat.ne_of_lt lt1.2) nin0⟩
  have Ha3 : own_H Z h3 a b (fun _ => 0) 0 0 := own_H_keep Ha ((Keep.refl _ ([] : List Addr)).ext E3) nin0 nin0
  have Ha4 : own_H Z T4.heap a b (fun _ => 0) 0 0 := own_H_keep Ha3 K4 nea.1 nea.2
  have lt3 := own_H_lt Ha3
  have q1 : a2 ∉ [a, b] := ninS (by rw [ga2]; exact (Nat.ne_of_lt lt1.1).symm) (ninS (by rw [ga2]; exact (Nat.ne_of_lt lt1.2).symm) nin0)
  have q2 : b2 ∉ [a, b] := ninS (Nat.ne_of_gt (Nat.lt_of_lt_of_le lt3.1 gb2)) (ninS (Nat.ne_of_gt (Nat.lt_of_lt_of_le lt3.2 gb2)) nin0)
  have q3 : a ∉ [a2, b2] := ninS (by rw [ga2]; exact Nat.ne_of_lt lt1.1) (ninS (Nat.ne_of_lt (Nat.lt_of_lt_of_le lt3.1 gb2)) nin0)
  have q4 : b ∉ [a2, b2] := ninS (by rw [ga2]; exact Nat.ne_of_lt lt1.2) (ninS (Nat.ne_of_lt (Nat.lt_of_lt_of_le lt3.2 gb2)) nin0)
  refine own_go (fun _ own_k => XS.astore X4.here hx rfl (hb hby at_44) rfl rfl (l' := #[.val (.long p1), .second, .val (.long p2), .second, .val (.int p3), .val (.int (1 : Int32)), .val (.int (1 : Int32)), .val (.ref a), .val (.ref a2), .unset, .unset, .unset, .unset, .unset, .unset, .unset, .unset, .unset, .unset, .unset, .unset, .unset, .unset, .unset, .unset, .unset, .unset]) rfl own_k) ?_
  show own_Goes p e below (own_End s below _ _) (T4.setTop (mkF m 46 #[.val (.long p1), .second, .val (.long p2), .second, .val (.int p3), .val (.int (1 : Int32)), .val (.int (1 : Int32)), .val (.ref a), .val (.ref a2), .unset, .unset, .unset, .unset, .unset, .unset, .unset, .unset, .unset, .unset, .unset, .unset, .unset, .unset, .unset, .unset, .unset, .unset] []))
  refine own_go (fun _ own_k => XS.iload X4.here hx rfl (hb hby at_46) rfl own_k) ?_
  show own_Goes p e below (own_End s below _ _) (T4.setTop (mkF m 48 #[.val (.long p1), .second, .val (.long p2), .second, .val (.int p3), .val (.int (1 : Int32)), .val (.int (1 : Int32)), .val (.ref a), .val (.ref a2), .unset, .unset, .unset, .unset, .unset, .unset, .unset, .unset, .unset, .unset, .unset, .unset, .unset, .unset, .unset, .unset, .unset, .unset] [(.int (1 : Int32))]))
  refine own_go (fun _ own_k => XS.ifNo X4.here hx rfl (hb hby at_48) rfl (by decide) own_k) ?_
  show own_Goes p e below (own_End s below _ _) (T4.setTop (mkF m 51 #[.val (.long p1), .second, .val (.long p2), .second, .val (.int p3), .val (.int (1 : Int32)), .val (.int (1 : Int32)), .val (.ref a), .val (.ref a2), .unset, .unset, .unset, .unset, .unset, .unset, .unset, .unset, .unset, .unset, .unset, .unset, .unset, .unset, .unset, .unset, .unset, .unset] []))
  refine own_go (fun _ own_k => XS.aload X4.here hx rfl (hb hby at_51) rfl rfl own_k) ?_
  show own_Goes p e below (own_End s below _ _) (T4.setTop (mkF m 53 #[.val (.long p1), .second, .val (.long p2), .second, .val (.int p3), .val (.int (1 : Int32)), .val (.int (1 : Int32)), .val (.ref a), .val (.ref a2), .unset, .unset, .unset, .unset, .unset, .unset, .unset, .unset, .unset, .unset, .unset, .unset, .unset, .unset, .unset, .unset, .unset, .unset] [(.ref a)]))
  refine own_go (fun _ own_k => XS.lloadN X4.here hx rfl (hb hby at_53) rfl own_k) ?_
  show own_Goes p e below (own_End s below _ _) (T4.setTop (mkF m 54 #[.val (.long p1), .second, .val (.long p2), .second, .val (.int p3), .val (.int (1 : Int32)), .val (.int (1 : Int32)), .val (.ref a), .val (.ref a2), .unset, .unset, .unset, .unset, .unset, .unset, .unset, .unset, .unset, .unset, .unset, .unset, .unset, .unset, .unset, .unset, .unset, .unset] [(.long p1), (.ref a)]))
  obtain ⟨v5, T5, L5, X5, ⟨u5, M5, K5, ka, kal, G5⟩, st5⟩ := own_callV X4 hx hZ (y := own_recN) (z := own_recN) hown (hw _ (List.mem_of_getElem? (i := 56) rfl)) (hw _ (List.mem_of_getElem? (i := 57) rfl)) (hw _ (List.mem_of_getElem? (i := 59) rfl)) (hw _ (List.mem_of_getElem? (i := 58) rfl)) (hw _ (List.mem_of_getElem? (i := 2) rfl)) (hw _ (List.mem_of_getElem? (i := 60) rfl)) (notFace_of_selects (args := #[]) (mvT hZ (hw _ (List.mem_of_getElem? (i := 59) rfl)))) (by decide) (own_rec l Z a0 hw _ n0 a b _ _ _ p1 na nb Ha4) rfl Ha4.1 (W := 0) (by decide) (by decide) (g := (mkF m 54 #[.val (.long p1), .second, .val (.long p2), .second, .val (.int p3), .val (.int (1 : Int32)), .val (.int (1 : Int32)), .val (.ref a), .val (.ref a2), .unset, .unset, .unset, .unset, .unset, .unset, .unset, .unset, .unset, .unset, .unset, .unset, .unset, .unset, .unset, .unset, .unset, .unset] [(.long p1), (.ref a)])) rfl (by rw [hml]; rfl) (argsL := [(.long p1)]) (rest := []) pd_JV rfl rfl (by show 2 * 0 + _ ≤ _; exact Nat.le_of_eq rfl) (hb hby at_54) rfl (by decide) (by decide)
  subst u5
  have N5 := Fr.app N4 M5
  have Y5 := Y4.keep K5 (allS na (allS nb all0))
  have O5 := own_H_keep Hb K5 q1 q2
  have Q5 := own_H_congr G5 (f' := own_dl ka) (fun t _ => own_dl_of ka t)
  refine own_go st5 ?_
  show own_Goes p e below (own_End s below _ _) (T5.setTop (mkF m 57 #[.val (.long p1), .second, .val (.long p2), .second, .val (.int p3), .val (.int (1 : Int32)), .val (.int (1 : Int32)), .val (.ref a), .val (.ref a2), .unset, .unset, .unset, .unset, .unset, .unset, .unset, .unset, .unset, .unset, .unset, .unset, .unset, .unset, .unset, .unset, .unset, .unset] []))
  refine own_go (fun _ own_k => XS.iload X5.here hx rfl (hb hby at_57) rfl own_k) ?_
  show own_Goes p e below (own_End s below _ _) (T5.setTop (mkF m 59 #[.val (.long p1), .second, .val (.long p2), .second, .val (.int p3), .val (.int (1 : Int32)), .val (.int (1 : Int32)), .val (.ref a), .val (.ref a2), .unset, .unset, .unset, .unset, .unset, .unset, .unset, .unset, .unset, .unset, .unset, .unset, .unset, .unset, .unset, .unset, .unset, .unset] [(.int (1 : Int32))]))
  refine own_go (fun _ own_k => XS.ifNo X5.here hx rfl (hb hby at_59) rfl (by decide) own_k) ?_
  show own_Goes p e below (own_End s below _ _) (T5.setTop (mkF m 62 #[.val (.long p1), .second, .val (.long p2), .second, .val (.int p3), .val (.int (1 : Int32)), .val (.int (1 : Int32)), .val (.ref a), .val (.ref a2), .unset, .unset, .unset, .unset, .unset, .unset, .unset, .unset, .unset, .unset, .unset, .unset, .unset, .unset, .unset, .unset, .unset, .unset] []))
  refine own_go (fun _ own_k => XS.aload X5.here hx rfl (hb hby at_62) rfl rfl own_k) ?_
  show own_Goes p e below (own_End s below _ _) (T5.setTop (mkF m 64 #[.val (.long p1), .second, .val (.long p2), .second, .val (.int p3), .val (.int (1 : Int32)), .val (.int (1 : Int32)), .val (.ref a), .val (.ref a2), .unset, .unset, .unset, .unset, .unset, .unset, .unset, .unset, .unset, .unset, .unset, .unset, .unset, .unset, .unset, .unset, .unset, .unset] [(.ref a2)]))
  refine own_go (fun _ own_k => XS.lloadN X5.here hx rfl (hb hby at_64) rfl own_k) ?_
  show own_Goes p e below (own_End s below _ _) (T5.setTop (mkF m 65 #[.val (.long p1), .second, .val (.long p2), .second, .val (.int p3), .val (.int (1 : Int32)), .val (.int (1 : Int32)), .val (.ref a), .val (.ref a2), .unset, .unset, .unset, .unset, .unset, .unset, .unset, .unset, .unset, .unset, .unset, .unset, .unset, .unset, .unset, .unset, .unset, .unset] [(.long p2), (.ref a2)]))
  obtain ⟨v6, T6, L6, X6, ⟨u6, M6, K6, kb, kbl, G6⟩, st6⟩ := own_callV X5 hx hZ (y := own_recN) (z := own_recN) hown (hw _ (List.mem_of_getElem? (i := 56) rfl)) (hw _ (List.mem_of_getElem? (i := 57) rfl)) (hw _ (List.mem_of_getElem? (i := 59) rfl)) (hw _ (List.mem_of_getElem? (i := 58) rfl)) (hw _ (List.mem_of_getElem? (i := 2) rfl)) (hw _ (List.mem_of_getElem? (i := 60) rfl)) (notFace_of_selects (args := #[]) (mvT hZ (hw _ (List.mem_of_getElem? (i := 59) rfl)))) (by decide) (own_rec l Z a0 hw _ n0 a2 b2 _ _ _ p2 na2 nb2 O5) rfl O5.1 (W := 0) (by decide) (by decide) (g := (mkF m 65 #[.val (.long p1), .second, .val (.long p2), .second, .val (.int p3), .val (.int (1 : Int32)), .val (.int (1 : Int32)), .val (.ref a), .val (.ref a2), .unset, .unset, .unset, .unset, .unset, .unset, .unset, .unset, .unset, .unset, .unset, .unset, .unset, .unset, .unset, .unset, .unset, .unset] [(.long p2), (.ref a2)])) rfl (by rw [hml]; rfl) (argsL := [(.long p2)]) (rest := []) pd_JV rfl rfl (by show 2 * 0 + _ ≤ _; exact Nat.le_of_eq rfl) (hb hby at_65) rfl (by decide) (by decide)
  subst u6
  have N6 := Fr.app N5 M6
  have Y6 := Y5.keep K6 (allS na2 (allS nb2 all0))
  have O6 := own_H_keep Q5 K6 q3 q4
  have Q6 := own_H_congr G6 (f' := own_dl kb) (fun t _ => own_dl_of kb t)
  refine own_go st6 ?_
  show own_Goes p e below (own_End s below _ _) (T6.setTop (mkF m 68 #[.val (.long p1), .second, .val (.long p2), .second, .val (.int p3), .val (.int (1 : Int32)), .val (.int (1 : Int32)), .val (.ref a), .val (.ref a2), .unset, .unset, .unset, .unset, .unset, .unset, .unset, .unset, .unset, .unset, .unset, .unset, .unset, .unset, .unset, .unset, .unset, .unset] []))
  have Ua : own_H Z T6.heap a b (own_dl ka) ((0 : Int64) + 1) ((0 : Int64) + (own_maxJ (0 : Int64) p1)) := O6
  have Ub : own_H Z T6.heap a2 b2 (own_dl kb) ((0 : Int64) + 1) ((0 : Int64) + (own_maxJ (0 : Int64) p2)) := Q6
  refine own_go (fun _ own_k => XS.aload X6.here hx rfl (hb hby at_68) rfl rfl own_k) ?_
  show own_Goes p e below (own_End s below _ _) (T6.setTop (mkF m 70 #[.val (.long p1), .second, .val (.long p2), .second, .val (.int p3), .val (.int (1 : Int32)), .val (.int (1 : Int32)), .val (.ref a), .val (.ref a2), .unset, .unset, .unset, .unset, .unset, .unset, .unset, .unset, .unset, .unset, .unset, .unset, .unset, .unset, .unset, .unset, .unset, .unset] [(.ref a)]))
  refine own_go (fun _ own_k => XS.dconst1 X6.here hx rfl (hb hby at_70) rfl own_k) ?_
  show own_Goes p e below (own_End s below _ _) (T6.setTop (mkF m 71 #[.val (.long p1), .second, .val (.long p2), .second, .val (.int p3), .val (.int (1 : Int32)), .val (.int (1 : Int32)), .val (.ref a), .val (.ref a2), .unset, .unset, .unset, .unset, .unset, .unset, .unset, .unset, .unset, .unset, .unset, .unset, .unset, .unset, .unset, .unset, .unset, .unset] [(.double FP.dconst1), (.ref a)]))
  obtain ⟨v7, T7, L7, X7, ⟨u7, e7, d7⟩, st7⟩ := own_callV X6 hx hZ (y := own_pctN) (z := own_pctN) hown (hw _ (List.mem_of_getElem? (i := 12) rfl)) (hw _ (List.mem_of_getElem? (i := 13) rfl)) (hw _ (List.mem_of_getElem? (i := 15) rfl)) (hw _ (List.mem_of_getElem? (i := 14) rfl)) (hw _ (List.mem_of_getElem? (i := 2) rfl)) (hw _ (List.mem_of_getElem? (i := 16) rfl)) (notFace_of_selects (args := #[]) (mvT hZ (hw _ (List.mem_of_getElem? (i := 15) rfl)))) (by decide) (own_pct l Z a0 hw _ a b _ _ _ FP.dconst1 4607182418800017408 4607182418800017408 1 ka Ua (own_At_dl kal) (by decide +kernel) own_lit_nn1 (SA.ext Y6.2) own_CE1 (by decide +kernel)) rfl Ua.1 (W := 0) (by decide) (by decide) (g := (mkF m 71 #[.val (.long p1), .second, .val (.long p2), .second, .val (.int p3), .val (.int (1 : Int32)), .val (.int (1 : Int32)), .val (.ref a), .val (.ref a2), .unset, .unset, .unset, .unset, .unset, .unset, .unset, .unset, .unset, .unset, .unset, .unset, .unset, .unset, .unset, .unset, .unset, .unset] [(.double FP.dconst1), (.ref a)])) rfl (by rw [hml]; rfl) (argsL := [(.double FP.dconst1)]) (rest := []) pd_DJ rfl rfl (by show 2 * 0 + _ ≤ _; exact Nat.le_of_eq rfl) (hb hby at_71) rfl (by decide) (by decide)
  subst u7 d7
  rw [List.append_nil] at X7
  refine own_go st7 ?_
  show own_Goes p e below (own_End s below _ _) (T7.setTop (mkF m 74 #[.val (.long p1), .second, .val (.long p2), .second, .val (.int p3), .val (.int (1 : Int32)), .val (.int (1 : Int32)), .val (.ref a), .val (.ref a2), .unset, .unset, .unset, .unset, .unset, .unset, .unset, .unset, .unset, .unset, .unset, .unset, .unset, .unset, .unset, .unset, .unset, .unset] [(.long (own_h ka))]))
  rw [← e7] at Ua Ub Y6
  refine own_go (fun _ own_k => XS.lstore X7.here hx rfl (hb hby at_74) rfl (l' := #[.val (.long p1), .second, .val (.long p2), .second, .val (.int p3), .val (.int (1 : Int32)), .val (.int (1 : Int32)), .val (.ref a), .val (.ref a2), .val (.long (own_h ka)), .second, .unset, .unset, .unset, .unset, .unset, .unset, .unset, .unset, .unset, .unset, .unset, .unset, .unset, .unset, .unset, .unset]) rfl own_k) ?_
  show own_Goes p e below (own_End s below _ _) (T7.setTop (mkF m 76 #[.val (.long p1), .second, .val (.long p2), .second, .val (.int p3), .val (.int (1 : Int32)), .val (.int (1 : Int32)), .val (.ref a), .val (.ref a2), .val (.long (own_h ka)), .second, .unset, .unset, .unset, .unset, .unset, .unset, .unset, .unset, .unset, .unset, .unset, .unset, .unset, .unset, .unset, .unset] []))
  refine own_go (fun _ own_k => XS.aload X7.here hx rfl (hb hby at_76) rfl rfl own_k) ?_
  show own_Goes p e below (own_End s below _ _) (T7.setTop (mkF m 78 #[.val (.long p1), .second, .val (.long p2), .second, .val (.int p3), .val (.int (1 : Int32)), .val (.int (1 : Int32)), .val (.ref a), .val (.ref a2), .val (.long (own_h ka)), .second, .unset, .unset, .unset, .unset, .unset, .unset, .unset, .unset, .unset, .unset, .unset, .unset, .unset, .unset, .unset, .unset] [(.ref a2)]))
  refine own_go (fun _ own_k => XS.dconst1 X7.here hx rfl (hb hby at_78) rfl own_k) ?_
  show own_Goes p e below (own_End s below _ _) (T7.setTop (mkF m 79 #[.val (.long p1), .second, .val (.long p2), .second, .val (.int p3), .val (.int (1 : Int32)), .val (.int (1 : Int32)), .val (.ref a), .val (.ref a2), .val (.long (own_h ka)), .second, .unset, .unset, .unset, .unset, .unset, .unset, .unset, .unset, .unset, .unset, .unset, .unset, .unset, .unset, .unset, .unset] [(.double FP.dconst1), (.ref a2)]))
  obtain ⟨v8, T8, L8, X8, ⟨u8, e8, d8⟩, st8⟩ := own_callV X7 hx hZ (y := own_pctN) (z := own_pctN) hown (hw _ (List.mem_of_getElem? (i := 12) rfl)) (hw _ (List.mem_of_getElem? (i := 13) rfl)) (hw _ (List.mem_of_getElem? (i := 15) rfl)) (hw _ (List.mem_of_getElem? (i := 14) rfl)) (hw _ (List.mem_of_getElem? (i := 2) rfl)) (hw _ (List.mem_of_getElem? (i := 16) rfl)) (notFace_of_selects (args := #[]) (mvT hZ (hw _ (List.mem_of_getElem? (i := 15) rfl)))) (by decide) (own_pct l Z a0 hw _ a2 b2 _ _ _ FP.dconst1 4607182418800017408 4607182418800017408 1 kb Ub (own_At_dl kbl) (by decide +kernel) own_lit_nn1 (SA.ext Y6.2) own_CE1 (by decide +kernel)) rfl Ub.1 (W := 0) (by decide) (by decide) (g := (mkF m 79 #[.val (.long p1), .second, .val (.long p2), .second, .val (.int p3), .val (.int (1 : Int32)), .val (.int (1 : Int32)), .val (.ref a), .val (.ref a2), .val (.long (own_h ka)), .second, .unset, .unset, .unset, .unset, .unset, .unset, .unset, .unset, .unset, .unset, .unset, .unset, .unset, .unset, .unset, .unset] [(.double FP.dconst1), (.ref a2)])) rfl (by rw [hml]; rfl) (argsL := [(.double FP.dconst1)]) (rest := []) pd_DJ rfl rfl (by show 2 * 0 + _ ≤ _; exact Nat.le_of_eq rfl) (hb hby at_79) rfl (by decide) (by decide)
  subst u8 d8
  rw [List.append_nil] at X8
  refine own_go st8 ?_
  show own_Goes p e below (own_End s below _ _) (T8.setTop (mkF m 82 #[.val (.long p1), .second, .val (.long p2), .second, .val (.int p3), .val (.int (1 : Int32)), .val (.int (1 : Int32)), .val (.ref a), .val (.ref a2), .val (.long (own_h ka)), .second, .unset, .unset, .unset, .unset, .unset, .unset, .unset, .unset, .unset, .unset, .unset, .unset, .unset, .unset, .unset, .unset] [(.long (own_h kb))]))
  rw [← e8] at Ua Ub Y6
  refine own_go (fun _ own_k => XS.lstore X8.here hx rfl (hb hby at_82) rfl (l' := #[.val (.long p1), .second, .val (.long p2), .second, .val (.int p3), .val (.int (1 : Int32)), .val (.int (1 : Int32)), .val (.ref a), .val (.ref a2), .val (.long (own_h ka)), .second, .val (.long (own_h kb)), .second, .unset, .unset, .unset, .unset, .unset, .unset, .unset, .unset, .unset, .unset, .unset, .unset, .unset, .unset]) rfl own_k) ?_
  show own_Goes p e below (own_End s below _ _) (T8.setTop (mkF m 84 #[.val (.long p1), .second, .val (.long p2), .second, .val (.int p3), .val (.int (1 : Int32)), .val (.int (1 : Int32)), .val (.ref a), .val (.ref a2), .val (.long (own_h ka)), .second, .val (.long (own_h kb)), .second, .unset, .unset, .unset, .unset, .unset, .unset, .unset, .unset, .unset, .unset, .unset, .unset, .unset, .unset] []))
  refine own_go (fun _ own_k => XS.aload X8.here hx rfl (hb hby at_84) rfl rfl own_k) ?_
  show own_Goes p e below (own_End s below _ _) (T8.setTop (mkF m 86 #[.val (.long p1), .second, .val (.long p2), .second, .val (.int p3), .val (.int (1 : Int32)), .val (.int (1 : Int32)), .val (.ref a), .val (.ref a2), .val (.long (own_h ka)), .second, .val (.long (own_h kb)), .second, .unset, .unset, .unset, .unset, .unset, .unset, .unset, .unset, .unset, .unset, .unset, .unset, .unset, .unset] [(.ref a2)]))
  obtain ⟨v9, T9, L9, X9, ⟨u9, e9, d9⟩, st9⟩ := own_callV X8 hx hZ (y := own_meaN) (z := own_meaN) hown (hw _ (List.mem_of_getElem? (i := 43) rfl)) (hw _ (List.mem_of_getElem? (i := 44) rfl)) (hw _ (List.mem_of_getElem? (i := 46) rfl)) (hw _ (List.mem_of_getElem? (i := 45) rfl)) (hw _ (List.mem_of_getElem? (i := 2) rfl)) (hw _ (List.mem_of_getElem? (i := 47) rfl)) (notFace_of_selects (args := #[]) (mvT hZ (hw _ (List.mem_of_getElem? (i := 46) rfl)))) (by decide) (own_mea l Z a0 hw _ a2 b2 _ _ _ Ub) rfl Ub.1 (W := 0) (by decide) (by decide) (g := (mkF m 86 #[.val (.long p1), .second, .val (.long p2), .second, .val (.int p3), .val (.int (1 : Int32)), .val (.int (1 : Int32)), .val (.ref a), .val (.ref a2), .val (.long (own_h ka)), .second, .val (.long (own_h kb)), .second, .unset, .unset, .unset, .unset, .unset, .unset, .unset, .unset, .unset, .unset, .unset, .unset, .unset, .unset] [(.ref a2)])) rfl (by rw [hml]; rfl) (argsL := []) (rest := []) pd_D rfl rfl (by show 2 * 0 + _ ≤ _; exact Nat.le_of_eq rfl) (hb hby at_86) rfl (by decide) (by decide)
  subst u9 d9
  rw [List.append_nil] at X9
  refine own_go st9 ?_
  show own_Goes p e below (own_End s below _ _) (T9.setTop (mkF m 89 #[.val (.long p1), .second, .val (.long p2), .second, .val (.int p3), .val (.int (1 : Int32)), .val (.int (1 : Int32)), .val (.ref a), .val (.ref a2), .val (.long (own_h ka)), .second, .val (.long (own_h kb)), .second, .unset, .unset, .unset, .unset, .unset, .unset, .unset, .unset, .unset, .unset, .unset, .unset, .unset, .unset] [(.double (own_mean ((0 : Int64) + 1) ((0 : Int64) + (own_maxJ (0 : Int64) p2))))]))
  rw [← e9] at Ua Ub Y6
  refine own_go (fun _ own_k => XS.dstore X9.here hx rfl (hb hby at_89) rfl (l' := #[.val (.long p1), .second, .val (.long p2), .second, .val (.int p3), .val (.int (1 : Int32)), .val (.int (1 : Int32)), .val (.ref a), .val (.ref a2), .val (.long (own_h ka)), .second, .val (.long (own_h kb)), .second, .val (.double (own_mean ((0 : Int64) + 1) ((0 : Int64) + (own_maxJ (0 : Int64) p2)))), .second, .unset, .unset, .unset, .unset, .unset, .unset, .unset, .unset, .unset, .unset, .unset, .unset]) rfl own_k) ?_
  show own_Goes p e below (own_End s below _ _) (T9.setTop (mkF m 91 #[.val (.long p1), .second, .val (.long p2), .second, .val (.int p3), .val (.int (1 : Int32)), .val (.int (1 : Int32)), .val (.ref a), .val (.ref a2), .val (.long (own_h ka)), .second, .val (.long (own_h kb)), .second, .val (.double (own_mean ((0 : Int64) + 1) ((0 : Int64) + (own_maxJ (0 : Int64) p2)))), .second, .unset, .unset, .unset, .unset, .unset, .unset, .unset, .unset, .unset, .unset, .unset, .unset] []))
  refine own_go (fun _ own_k => XS.aload X9.here hx rfl (hb hby at_91) rfl rfl own_k) ?_
  show own_Goes p e below (own_End s below _ _) (T9.setTop (mkF m 93 #[.val (.long p1), .second, .val (.long p2), .second, .val (.int p3), .val (.int (1 : Int32)), .val (.int (1 : Int32)), .val (.ref a), .val (.ref a2), .val (.long (own_h ka)), .second, .val (.long (own_h kb)), .second, .val (.double (own_mean ((0 : Int64) + 1) ((0 : Int64) + (own_maxJ (0 : Int64) p2)))), .second, .unset, .unset, .unset, .unset, .unset, .unset, .unset, .unset, .unset, .unset, .unset, .unset] [(.ref a)]))
  refine own_go (fun _ own_k => XS.aload X9.here hx rfl (hb hby at_93) rfl rfl own_k) ?_
  show own_Goes p e below (own_End s below _ _) (T9.setTop (mkF m 95 #[.val (.long p1), .second, .val (.long p2), .second, .val (.int p3), .val (.int (1 : Int32)), .val (.int (1 : Int32)), .val (.ref a), .val (.ref a2), .val (.long (own_h ka)), .second, .val (.long (own_h kb)), .second, .val (.double (own_mean ((0 : Int64) + 1) ((0 : Int64) + (own_maxJ (0 : Int64) p2)))), .second, .unset, .unset, .unset, .unset, .unset, .unset, .unset, .unset, .unset, .unset, .unset, .unset] [(.ref a2), (.ref a)]))
  obtain ⟨v10, T10, L10, X10, ⟨u10, M10, K10, V10⟩, st10⟩ := own_callV X9 hx hZ (y := own_addN) (z := own_addN) hown (hw _ (List.mem_of_getElem? (i := 48) rfl)) (hw _ (List.mem_of_getElem? (i := 49) rfl)) (hw _ (List.mem_of_getElem? (i := 51) rfl)) (hw _ (List.mem_of_getElem? (i := 50) rfl)) (hw _ (List.mem_of_getElem? (i := 2) rfl)) (hw _ (List.mem_of_getElem? (i := 52) rfl)) (notFace_of_selects (args := #[]) (mvT hZ (hw _ (List.mem_of_getElem? (i := 51) rfl)))) (by decide) (own_add l Z a0 hw _ n0 a b a2 b2 _ _ _ _ _ _ na nb q1 q2 Ua Ub) rfl Ua.1 (W := 0) (by decide) (by decide) (g := (mkF m 95 #[.val (.long p1), .second, .val (.long p2), .second, .val (.int p3), .val (.int (1 : Int32)), .val (.int (1 : Int32)), .val (.ref a), .val (.ref a2), .val (.long (own_h ka)), .second, .val (.long (own_h kb)), .second, .val (.double (own_mean ((0 : Int64) + 1) ((0 : Int64) + (own_maxJ (0 : Int64) p2)))), .second, .unset, .unset, .unset, .unset, .unset, .unset, .unset, .unset, .unset, .unset, .unset, .unset] [(.ref a2), (.ref a)])) rfl (by rw [hml]; rfl) (argsL := [(.ref a2)]) (rest := []) pd_HV rfl rfl (by show 2 * 0 + _ ≤ _; exact Nat.le_of_eq rfl) (hb hby at_95) rfl (by decide) (by decide)
  subst u10
  have N10 := Fr.app N6 M10
  have Y10 := Y6.keep K10 (allS na (allS nb all0))
  have W10 := own_H_keep Ub K10 q1 q2
  refine own_go st10 ?_
  show own_Goes p e below (own_End s below _ _) (T10.setTop (mkF m 98 #[.val (.long p1), .second, .val (.long p2), .second, .val (.int p3), .val (.int (1 : Int32)), .val (.int (1 : Int32)), .val (.ref a), .val (.ref a2), .val (.long (own_h ka)), .second, .val (.long (own_h kb)), .second, .val (.double (own_mean ((0 : Int64) + 1) ((0 : Int64) + (own_maxJ (0 : Int64) p2)))), .second, .unset, .unset, .unset, .unset, .unset, .unset, .unset, .unset, .unset, .unset, .unset, .unset] []))
  refine own_go (fun _ own_k => XS.iload X10.here hx rfl (hb hby at_98) rfl own_k) ?_
  show own_Goes p e below (own_End s below _ _) (T10.setTop (mkF m 100 #[.val (.long p1), .second, .val (.long p2), .second, .val (.int p3), .val (.int (1 : Int32)), .val (.int (1 : Int32)), .val (.ref a), .val (.ref a2), .val (.long (own_h ka)), .second, .val (.long (own_h kb)), .second, .val (.double (own_mean ((0 : Int64) + 1) ((0 : Int64) + (own_maxJ (0 : Int64) p2)))), .second, .unset, .unset, .unset, .unset, .unset, .unset, .unset, .unset, .unset, .unset, .unset, .unset] [(.int (1 : Int32))]))
  refine own_go (fun _ own_k => XS.ifNo X10.here hx rfl (hb hby at_100) rfl (by decide) own_k) ?_
  show own_Goes p e below (own_End s below _ _) (T10.setTop (mkF m 103 #[.val (.long p1), .second, .val (.long p2), .second, .val (.int p3), .val (.int (1 : Int32)), .val (.int (1 : Int32)), .val (.ref a), .val (.ref a2), .val (.long (own_h ka)), .second, .val (.long (own_h kb)), .second, .val (.double (own_mean ((0 : Int64) + 1) ((0 : Int64) + (own_maxJ (0 : Int64) p2)))), .second, .unset, .unset, .unset, .unset, .unset, .unset, .unset, .unset, .unset, .unset, .unset, .unset] []))
  refine own_go (fun _ own_k => XS.lconst X10.here hx rfl (hb hby at_103) own_k) ?_
  show own_Goes p e below (own_End s below _ _) (T10.setTop (mkF m 104 #[.val (.long p1), .second, .val (.long p2), .second, .val (.int p3), .val (.int (1 : Int32)), .val (.int (1 : Int32)), .val (.ref a), .val (.ref a2), .val (.long (own_h ka)), .second, .val (.long (own_h kb)), .second, .val (.double (own_mean ((0 : Int64) + 1) ((0 : Int64) + (own_maxJ (0 : Int64) p2)))), .second, .unset, .unset, .unset, .unset, .unset, .unset, .unset, .unset, .unset, .unset, .unset, .unset] [(.long (0 : Int64))]))
  refine own_go (fun _ own_k => XS.lloadN X10.here hx rfl (hb hby at_104) rfl own_k) ?_
  show own_Goes p e below (own_End s below _ _) (T10.setTop (mkF m 105 #[.val (.long p1), .second, .val (.long p2), .second, .val (.int p3), .val (.int (1 : Int32)), .val (.int (1 : Int32)), .val (.ref a), .val (.ref a2), .val (.long (own_h ka)), .second, .val (.long (own_h kb)), .second, .val (.double (own_mean ((0 : Int64) + 1) ((0 : Int64) + (own_maxJ (0 : Int64) p2)))), .second, .unset, .unset, .unset, .unset, .unset, .unset, .unset, .unset, .unset, .unset, .unset, .unset] [(.long p1), (.long (0 : Int64))]))
  obtain ⟨T11, X11, e11, st11⟩ := own_callP X10 hx hZ (y := own_maxN) hown (hw _ (List.mem_of_getElem? (i := 71) rfl)) (hw _ (List.mem_of_getElem? (i := 62) rfl)) (hw _ (List.mem_of_getElem? (i := 21) rfl)) (hw _ (List.mem_of_getElem? (i := 63) rfl)) (by decide) (own_max l Z a0 hw _ (0 : Int64) p1) rfl (W := 0) (by decide) (by decide) (g := (mkF m 105 #[.val (.long p1), .second, .val (.long p2), .second, .val (.int p3), .val (.int (1 : Int32)), .val (.int (1 : Int32)), .val (.ref a), .val (.ref a2), .val (.long (own_h ka)), .second, .val (.long (own_h kb)), .second, .val (.double (own_mean ((0 : Int64) + 1) ((0 : Int64) + (own_maxJ (0 : Int64) p2)))), .second, .unset, .unset, .unset, .unset, .unset, .unset, .unset, .unset, .unset, .unset, .unset, .unset] [(.long p1), (.long (0 : Int64))])) rfl (by rw [hml]; rfl) (argsL := [(.long (0 : Int64)), (.long p1)]) (rest := []) pd_JJJ rfl rfl (by show 2 * 0 + _ ≤ _; exact Nat.le_of_eq rfl) (hb hby at_105) rfl (by decide) (by decide)
  rw [← e11] at V10 W10 Y10
  refine own_go st11 ?_
  show own_Goes p e below (own_End s below _ _) (T11.setTop (mkF m 108 #[.val (.long p1), .second, .val (.long p2), .second, .val (.int p3), .val (.int (1 : Int32)), .val (.int (1 : Int32)), .val (.ref a), .val (.ref a2), .val (.long (own_h ka)), .second, .val (.long (own_h kb)), .second, .val (.double (own_mean ((0 : Int64) + 1) ((0 : Int64) + (own_maxJ (0 : Int64) p2)))), .second, .unset, .unset, .unset, .unset, .unset, .unset, .unset, .unset, .unset, .unset, .unset, .unset] [(.long (own_maxJ (0 : Int64) p1))]))
  refine own_go (fun _ own_k => XS.goto X11.here hx rfl (pc0 := 108) (pc' := 112) rfl (hb hby at_108) (by decide) (by decide) own_k) ?_
  show own_Goes p e below (own_End s below _ _) (T11.setTop (mkF m 112 #[.val (.long p1), .second, .val (.long p2), .second, .val (.int p3), .val (.int (1 : Int32)), .val (.int (1 : Int32)), .val (.ref a), .val (.ref a2), .val (.long (own_h ka)), .second, .val (.long (own_h kb)), .second, .val (.double (own_mean ((0 : Int64) + 1) ((0 : Int64) + (own_maxJ (0 : Int64) p2)))), .second, .unset, .unset, .unset, .unset, .unset, .unset, .unset, .unset, .unset, .unset, .unset, .unset] [(.long (own_maxJ (0 : Int64) p1))]))
  refine own_go (fun _ own_k => XS.lstore X11.here hx rfl (hb hby at_112) rfl (l' := #[.val (.long p1), .second, .val (.long p2), .second, .val (.int p3), .val (.int (1 : Int32)), .val (.int (1 : Int32)), .val (.ref a), .val (.ref a2), .val (.long (own_h ka)), .second, .val (.long (own_h kb)), .second, .val (.double (own_mean ((0 : Int64) + 1) ((0 : Int64) + (own_maxJ (0 : Int64) p2)))), .second, .val (.long (own_maxJ (0 : Int64) p1)), .second, .unset, .unset, .unset, .unset, .unset, .unset, .unset, .unset, .unset, .unset]) rfl own_k) ?_
  show own_Goes p e below (own_End s below _ _) (T11.setTop (mkF m 114 #[.val (.long p1), .second, .val (.long p2), .second, .val (.int p3), .val (.int (1 : Int32)), .val (.int (1 : Int32)), .val (.ref a), .val (.ref a2), .val (.long (own_h ka)), .second, .val (.long (own_h kb)), .second, .val (.double (own_mean ((0 : Int64) + 1) ((0 : Int64) + (own_maxJ (0 : Int64) p2)))), .second, .val (.long (own_maxJ (0 : Int64) p1)), .second, .unset, .unset, .unset, .unset, .unset, .unset, .unset, .unset, .unset, .unset] []))
  refine own_go (fun _ own_k => XS.iload X11.here hx rfl (hb hby at_114) rfl own_k) ?_
  show own_Goes p e below (own_End s below _ _) (T11.setTop (mkF m 116 #[.val (.long p1), .second, .val (.long p2), .second, .val (.int p3), .val (.int (1 : Int32)), .val (.int (1 : Int32)), .val (.ref a), .val (.ref a2), .val (.long (own_h ka)), .second, .val (.long (own_h kb)), .second, .val (.double (own_mean ((0 : Int64) + 1) ((0 : Int64) + (own_maxJ (0 : Int64) p2)))), .second, .val (.long (own_maxJ (0 : Int64) p1)), .second, .unset, .unset, .unset, .unset, .unset, .unset, .unset, .unset, .unset, .unset] [(.int (1 : Int32))]))
  refine own_go (fun _ own_k => XS.ifNo X11.here hx rfl (hb hby at_116) rfl (by decide) own_k) ?_
  show own_Goes p e below (own_End s below _ _) (T11.setTop (mkF m 119 #[.val (.long p1), .second, .val (.long p2), .second, .val (.int p3), .val (.int (1 : Int32)), .val (.int (1 : Int32)), .val (.ref a), .val (.ref a2), .val (.long (own_h ka)), .second, .val (.long (own_h kb)), .second, .val (.double (own_mean ((0 : Int64) + 1) ((0 : Int64) + (own_maxJ (0 : Int64) p2)))), .second, .val (.long (own_maxJ (0 : Int64) p1)), .second, .unset, .unset, .unset, .unset, .unset, .unset, .unset, .unset, .unset, .unset] []))
  refine own_go (fun _ own_k => XS.lconst X11.here hx rfl (hb hby at_119) own_k) ?_
  show own_Goes p e below (own_End s below _ _) (T11.setTop (mkF m 120 #[.val (.long p1), .second, .val (.long p2), .second, .val (.int p3), .val (.int (1 : Int32)), .val (.int (1 : Int32)), .val (.ref a), .val (.ref a2), .val (.long (own_h ka)), .second, .val (.long (own_h kb)), .second, .val (.double (own_mean ((0 : Int64) + 1) ((0 : Int64) + (own_maxJ (0 : Int64) p2)))), .second, .val (.long (own_maxJ (0 : Int64) p1)), .second, .unset, .unset, .unset, .unset, .unset, .unset, .unset, .unset, .unset, .unset] [(.long (0 : Int64))]))
  refine own_go (fun _ own_k => XS.lloadN X11.here hx rfl (hb hby at_120) rfl own_k) ?_
  show own_Goes p e below (own_End s below _ _) (T11.setTop (mkF m 121 #[.val (.long p1), .second, .val (.long p2), .second, .val (.int p3), .val (.int (1 : Int32)), .val (.int (1 : Int32)), .val (.ref a), .val (.ref a2), .val (.long (own_h ka)), .second, .val (.long (own_h kb)), .second, .val (.double (own_mean ((0 : Int64) + 1) ((0 : Int64) + (own_maxJ (0 : Int64) p2)))), .second, .val (.long (own_maxJ (0 : Int64) p1)), .second, .unset, .unset, .unset, .unset, .unset, .unset, .unset, .unset, .unset, .unset] [(.long p2), (.long (0 : Int64))]))
  obtain ⟨T12, X12, e12, st12⟩ := own_callP X11 hx hZ (y := own_maxN) hown (hw _ (List.mem_of_getElem? (i := 71) rfl)) (hw _ (List.mem_of_getElem? (i := 62) rfl)) (hw _ (List.mem_of_getElem? (i := 21) rfl)) (hw _ (List.mem_of_getElem? (i := 63) rfl)) (by decide) (own_max l Z a0 hw _ (0 : Int64) p2) rfl (W := 0) (by decide) (by decide) (g := (mkF m 121 #[.val (.long p1), .second, .val (.long p2), .second, .val (.int p3), .val (.int (1 : Int32)), .val (.int (1 : Int32)), .val (.ref a), .val (.ref a2), .val (.long (own_h ka)), .second, .val (.long (own_h kb)), .second, .val (.double (own_mean ((0 : Int64) + 1) ((0 : Int64) + (own_maxJ (0 : Int64) p2)))), .second, .val (.long (own_maxJ (0 : Int64) p1)), .second, .unset, .unset, .unset, .unset, .unset, .unset, .unset, .unset, .unset, .unset] [(.long p2), (.long (0 : Int64))])) rfl (by rw [hml]; rfl) (argsL := [(.long (0 : Int64)), (.long p2)]) (rest := []) pd_JJJ rfl rfl (by show 2 * 0 + _ ≤ _; exact Nat.le_of_eq rfl) (hb hby at_121) rfl (by decide) (by decide)
  rw [← e12] at V10 W10 Y10
  refine own_go st12 ?_
  show own_Goes p e below (own_End s below _ _) (T12.setTop (mkF m 124 #[.val (.long p1), .second, .val (.long p2), .second, .val (.int p3), .val (.int (1 : Int32)), .val (.int (1 : Int32)), .val (.ref a), .val (.ref a2), .val (.long (own_h ka)), .second, .val (.long (own_h kb)), .second, .val (.double (own_mean ((0 : Int64) + 1) ((0 : Int64) + (own_maxJ (0 : Int64) p2)))), .second, .val (.long (own_maxJ (0 : Int64) p1)), .second, .unset, .unset, .unset, .unset, .unset, .unset, .unset, .unset, .unset, .unset] [(.long (own_maxJ (0 : Int64) p2))]))
  refine own_go (fun _ own_k => XS.goto X12.here hx rfl (pc0 := 124) (pc' := 128) rfl (hb hby at_124) (by decide) (by decide) own_k) ?_
  show own_Goes p e below (own_End s below _ _) (T12.setTop (mkF m 128 #[.val (.long p1), .second, .val (.long p2), .second, .val (.int p3), .val (.int (1 : Int32)), .val (.int (1 : Int32)), .val (.ref a), .val (.ref a2), .val (.long (own_h ka)), .second, .val (.long (own_h kb)), .second, .val (.double (own_mean ((0 : Int64) + 1) ((0 : Int64) + (own_maxJ (0 : Int64) p2)))), .second, .val (.long (own_maxJ (0 : Int64) p1)), .second, .unset, .unset, .unset, .unset, .unset, .unset, .unset, .unset, .unset, .unset] [(.long (own_maxJ (0 : Int64) p2))]))
  refine own_go (fun _ own_k => XS.lstore X12.here hx rfl (hb hby at_128) rfl (l' := #[.val (.long p1), .second, .val (.long p2), .second, .val (.int p3), .val (.int (1 : Int32)), .val (.int (1 : Int32)), .val (.ref a), .val (.ref a2), .val (.long (own_h ka)), .second, .val (.long (own_h kb)), .second, .val (.double (own_mean ((0 : Int64) + 1) ((0 : Int64) + (own_maxJ (0 : Int64) p2)))), .second, .val (.long (own_maxJ (0 : Int64) p1)), .second, .val (.long (own_maxJ (0 : Int64) p2)), .second, .unset, .unset, .unset, .unset, .unset, .unset, .unset, .unset]) rfl own_k) ?_
  show own_Goes p e below (own_End s below _ _) (T12.setTop (mkF m 130 #[.val (.long p1), .second, .val (.long p2), .second, .val (.int p3), .val (.int (1 : Int32)), .val (.int (1 : Int32)), .val (.ref a), .val (.ref a2), .val (.long (own_h ka)), .second, .val (.long (own_h kb)), .second, .val (.double (own_mean ((0 : Int64) + 1) ((0 : Int64) + (own_maxJ (0 : Int64) p2)))), .second, .val (.long (own_maxJ (0 : Int64) p1)), .second, .val (.long (own_maxJ (0 : Int64) p2)), .second, .unset, .unset, .unset, .unset, .unset, .unset, .unset, .unset] []))
  refine own_go (fun _ own_k => XS.iload X12.here hx rfl (hb hby at_130) rfl own_k) ?_
  show own_Goes p e below (own_End s below _ _) (T12.setTop (mkF m 132 #[.val (.long p1), .second, .val (.long p2), .second, .val (.int p3), .val (.int (1 : Int32)), .val (.int (1 : Int32)), .val (.ref a), .val (.ref a2), .val (.long (own_h ka)), .second, .val (.long (own_h kb)), .second, .val (.double (own_mean ((0 : Int64) + 1) ((0 : Int64) + (own_maxJ (0 : Int64) p2)))), .second, .val (.long (own_maxJ (0 : Int64) p1)), .second, .val (.long (own_maxJ (0 : Int64) p2)), .second, .unset, .unset, .unset, .unset, .unset, .unset, .unset, .unset] [(.int (1 : Int32))]))
  refine own_go (fun _ own_k => XS.ifNo X12.here hx rfl (hb hby at_132) rfl (by decide) own_k) ?_
  show own_Goes p e below (own_End s below _ _) (T12.setTop (mkF m 135 #[.val (.long p1), .second, .val (.long p2), .second, .val (.int p3), .val (.int (1 : Int32)), .val (.int (1 : Int32)), .val (.ref a), .val (.ref a2), .val (.long (own_h ka)), .second, .val (.long (own_h kb)), .second, .val (.double (own_mean ((0 : Int64) + 1) ((0 : Int64) + (own_maxJ (0 : Int64) p2)))), .second, .val (.long (own_maxJ (0 : Int64) p1)), .second, .val (.long (own_maxJ (0 : Int64) p2)), .second, .unset, .unset, .unset, .unset, .unset, .unset, .unset, .unset] []))
  refine own_go (fun _ own_k => XS.lconst X12.here hx rfl (hb hby at_135) own_k) ?_
  show own_Goes p e below (own_End s below _ _) (T12.setTop (mkF m 136 #[.val (.long p1), .second, .val (.long p2), .second, .val (.int p3), .val (.int (1 : Int32)), .val (.int (1 : Int32)), .val (.ref a), .val (.ref a2), .val (.long (own_h ka)), .second, .val (.long (own_h kb)), .second, .val (.double (own_mean ((0 : Int64) + 1) ((0 : Int64) + (own_maxJ (0 : Int64) p2)))), .second, .val (.long (own_maxJ (0 : Int64) p1)), .second, .val (.long (own_maxJ (0 : Int64) p2)), .second, .unset, .unset, .unset, .unset, .unset, .unset, .unset, .unset] [(.long (1 : Int64))]))
  refine own_go (fun _ own_k => XS.goto X12.here hx rfl (pc0 := 136) (pc' := 140) rfl (hb hby at_136) (by decide) (by decide) own_k) ?_
  show own_Goes p e below (own_End s below _ _) (T12.setTop (mkF m 140 #[.val (.long p1), .second, .val (.long p2), .second, .val (.int p3), .val (.int (1 : Int32)), .val (.int (1 : Int32)), .val (.ref a), .val (.ref a2), .val (.long (own_h ka)), .second, .val (.long (own_h kb)), .second, .val (.double (own_mean ((0 : Int64) + 1) ((0 : Int64) + (own_maxJ (0 : Int64) p2)))), .second, .val (.long (own_maxJ (0 : Int64) p1)), .second, .val (.long (own_maxJ (0 : Int64) p2)), .second, .unset, .unset, .unset, .unset, .unset, .unset, .unset, .unset] [(.long (1 : Int64))]))
  refine own_go (fun _ own_k => XS.iload X12.here hx rfl (hb hby at_140) rfl own_k) ?_
  show own_Goes p e below (own_End s below _ _) (T12.setTop (mkF m 142 #[.val (.long p1), .second, .val (.long p2), .second, .val (.int p3), .val (.int (1 : Int32)), .val (.int (1 : Int32)), .val (.ref a), .val (.ref a2), .val (.long (own_h ka)), .second, .val (.long (own_h kb)), .second, .val (.double (own_mean ((0 : Int64) + 1) ((0 : Int64) + (own_maxJ (0 : Int64) p2)))), .second, .val (.long (own_maxJ (0 : Int64) p1)), .second, .val (.long (own_maxJ (0 : Int64) p2)), .second, .unset, .unset, .unset, .unset, .unset, .unset, .unset, .unset] [(.int (1 : Int32)), (.long (1 : Int64))]))
  refine own_go (fun _ own_k => XS.ifNo X12.here hx rfl (hb hby at_142) rfl (by decide) own_k) ?_
  show own_Goes p e below (own_End s below _ _) (T12.setTop (mkF m 145 #[.val (.long p1), .second, .val (.long p2), .second, .val (.int p3), .val (.int (1 : Int32)), .val (.int (1 : Int32)), .val (.ref a), .val (.ref a2), .val (.long (own_h ka)), .second, .val (.long (own_h kb)), .second, .val (.double (own_mean ((0 : Int64) + 1) ((0 : Int64) + (own_maxJ (0 : Int64) p2)))), .second, .val (.long (own_maxJ (0 : Int64) p1)), .second, .val (.long (own_maxJ (0 : Int64) p2)), .second, .unset, .unset, .unset, .unset, .unset, .unset, .unset, .unset] [(.long (1 : Int64))]))
  refine own_go (fun _ own_k => XS.lconst X12.here hx rfl (hb hby at_145) own_k) ?_
  show own_Goes p e below (own_End s below _ _) (T12.setTop (mkF m 146 #[.val (.long p1), .second, .val (.long p2), .second, .val (.int p3), .val (.int (1 : Int32)), .val (.int (1 : Int32)), .val (.ref a), .val (.ref a2), .val (.long (own_h ka)), .second, .val (.long (own_h kb)), .second, .val (.double (own_mean ((0 : Int64) + 1) ((0 : Int64) + (own_maxJ (0 : Int64) p2)))), .second, .val (.long (own_maxJ (0 : Int64) p1)), .second, .val (.long (own_maxJ (0 : Int64) p2)), .second, .unset, .unset, .unset, .unset, .unset, .unset, .unset, .unset] [(.long (1 : Int64)), (.long (1 : Int64))]))
  refine own_go (fun _ own_k => XS.goto X12.here hx rfl (pc0 := 146) (pc' := 150) rfl (hb hby at_146) (by decide) (by decide) own_k) ?_
  show own_Goes p e below (own_End s below _ _) (T12.setTop (mkF m 150 #[.val (.long p1), .second, .val (.long p2), .second, .val (.int p3), .val (.int (1 : Int32)), .val (.int (1 : Int32)), .val (.ref a), .val (.ref a2), .val (.long (own_h ka)), .second, .val (.long (own_h kb)), .second, .val (.double (own_mean ((0 : Int64) + 1) ((0 : Int64) + (own_maxJ (0 : Int64) p2)))), .second, .val (.long (own_maxJ (0 : Int64) p1)), .second, .val (.long (own_maxJ (0 : Int64) p2)), .second, .unset, .unset, .unset, .unset, .unset, .unset, .unset, .unset] [(.long (1 : Int64)), (.long (1 : Int64))]))
  refine own_go (fun _ own_k => XS.ladd X12.here hx rfl (hb hby at_150) rfl own_k) ?_
  show own_Goes p e below (own_End s below _ _) (T12.setTop (mkF m 151 #[.val (.long p1), .second, .val (.long p2), .second, .val (.int p3), .val (.int (1 : Int32)), .val (.int (1 : Int32)), .val (.ref a), .val (.ref a2), .val (.long (own_h ka)), .second, .val (.long (own_h kb)), .second, .val (.double (own_mean ((0 : Int64) + 1) ((0 : Int64) + (own_maxJ (0 : Int64) p2)))), .second, .val (.long (own_maxJ (0 : Int64) p1)), .second, .val (.long (own_maxJ (0 : Int64) p2)), .second, .unset, .unset, .unset, .unset, .unset, .unset, .unset, .unset] [(.long ((1 : Int64) + (1 : Int64)))]))
  refine own_go (fun _ own_k => XS.lstore X12.here hx rfl (hb hby at_151) rfl (l' := #[.val (.long p1), .second, .val (.long p2), .second, .val (.int p3), .val (.int (1 : Int32)), .val (.int (1 : Int32)), .val (.ref a), .val (.ref a2), .val (.long (own_h ka)), .second, .val (.long (own_h kb)), .second, .val (.double (own_mean ((0 : Int64) + 1) ((0 : Int64) + (own_maxJ (0 : Int64) p2)))), .second, .val (.long (own_maxJ (0 : Int64) p1)), .second, .val (.long (own_maxJ (0 : Int64) p2)), .second, .val (.long ((1 : Int64) + (1 : Int64))), .second, .unset, .unset, .unset, .unset, .unset, .unset]) rfl own_k) ?_
  show own_Goes p e below (own_End s below _ _) (T12.setTop (mkF m 153 #[.val (.long p1), .second, .val (.long p2), .second, .val (.int p3), .val (.int (1 : Int32)), .val (.int (1 : Int32)), .val (.ref a), .val (.ref a2), .val (.long (own_h ka)), .second, .val (.long (own_h kb)), .second, .val (.double (own_mean ((0 : Int64) + 1) ((0 : Int64) + (own_maxJ (0 : Int64) p2)))), .second, .val (.long (own_maxJ (0 : Int64) p1)), .second, .val (.long (own_maxJ (0 : Int64) p2)), .second, .val (.long ((1 : Int64) + (1 : Int64))), .second, .unset, .unset, .unset, .unset, .unset, .unset] []))
  refine own_go (fun _ own_k => XS.lload X12.here hx rfl (hb hby at_153) rfl own_k) ?_
  show own_Goes p e below (own_End s below _ _) (T12.setTop (mkF m 155 #[.val (.long p1), .second, .val (.long p2), .second, .val (.int p3), .val (.int (1 : Int32)), .val (.int (1 : Int32)), .val (.ref a), .val (.ref a2), .val (.long (own_h ka)), .second, .val (.long (own_h kb)), .second, .val (.double (own_mean ((0 : Int64) + 1) ((0 : Int64) + (own_maxJ (0 : Int64) p2)))), .second, .val (.long (own_maxJ (0 : Int64) p1)), .second, .val (.long (own_maxJ (0 : Int64) p2)), .second, .val (.long ((1 : Int64) + (1 : Int64))), .second, .unset, .unset, .unset, .unset, .unset, .unset] [(.long ((1 : Int64) + (1 : Int64)))]))
  refine own_go (fun _ own_k => XS.lconst X12.here hx rfl (hb hby at_155) own_k) ?_
  show own_Goes p e below (own_End s below _ _) (T12.setTop (mkF m 156 #[.val (.long p1), .second, .val (.long p2), .second, .val (.int p3), .val (.int (1 : Int32)), .val (.int (1 : Int32)), .val (.ref a), .val (.ref a2), .val (.long (own_h ka)), .second, .val (.long (own_h kb)), .second, .val (.double (own_mean ((0 : Int64) + 1) ((0 : Int64) + (own_maxJ (0 : Int64) p2)))), .second, .val (.long (own_maxJ (0 : Int64) p1)), .second, .val (.long (own_maxJ (0 : Int64) p2)), .second, .val (.long ((1 : Int64) + (1 : Int64))), .second, .unset, .unset, .unset, .unset, .unset, .unset] [(.long (0 : Int64)), (.long ((1 : Int64) + (1 : Int64)))]))
  refine own_go (fun _ own_k => XS.lcmp X12.here hx rfl (hb hby at_156) rfl own_k) ?_
  show own_Goes p e below (own_End s below _ _) (T12.setTop (mkF m 157 #[.val (.long p1), .second, .val (.long p2), .second, .val (.int p3), .val (.int (1 : Int32)), .val (.int (1 : Int32)), .val (.ref a), .val (.ref a2), .val (.long (own_h ka)), .second, .val (.long (own_h kb)), .second, .val (.double (own_mean ((0 : Int64) + 1) ((0 : Int64) + (own_maxJ (0 : Int64) p2)))), .second, .val (.long (own_maxJ (0 : Int64) p1)), .second, .val (.long (own_maxJ (0 : Int64) p2)), .second, .val (.long ((1 : Int64) + (1 : Int64))), .second, .unset, .unset, .unset, .unset, .unset, .unset] [(.int (lcmpW ((1 : Int64) + (1 : Int64)) (0 : Int64)))]))
  refine own_go (fun _ own_k => XS.ifYes X12.here hx rfl (pc0 := 157) (pc' := 164) rfl (hb hby at_157) rfl (by decide) (by decide) (by decide) own_k) ?_
  show own_Goes p e below (own_End s below _ _) (T12.setTop (mkF m 164 #[.val (.long p1), .second, .val (.long p2), .second, .val (.int p3), .val (.int (1 : Int32)), .val (.int (1 : Int32)), .val (.ref a), .val (.ref a2), .val (.long (own_h ka)), .second, .val (.long (own_h kb)), .second, .val (.double (own_mean ((0 : Int64) + 1) ((0 : Int64) + (own_maxJ (0 : Int64) p2)))), .second, .val (.long (own_maxJ (0 : Int64) p1)), .second, .val (.long (own_maxJ (0 : Int64) p2)), .second, .val (.long ((1 : Int64) + (1 : Int64))), .second, .unset, .unset, .unset, .unset, .unset, .unset] []))
  refine own_go (fun _ own_k => XS.lload X12.here hx rfl (hb hby at_164) rfl own_k) ?_
  show own_Goes p e below (own_End s below _ _) (T12.setTop (mkF m 166 #[.val (.long p1), .second, .val (.long p2), .second, .val (.int p3), .val (.int (1 : Int32)), .val (.int (1 : Int32)), .val (.ref a), .val (.ref a2), .val (.long (own_h ka)), .second, .val (.long (own_h kb)), .second, .val (.double (own_mean ((0 : Int64) + 1) ((0 : Int64) + (own_maxJ (0 : Int64) p2)))), .second, .val (.long (own_maxJ (0 : Int64) p1)), .second, .val (.long (own_maxJ (0 : Int64) p2)), .second, .val (.long ((1 : Int64) + (1 : Int64))), .second, .unset, .unset, .unset, .unset, .unset, .unset] [(.long (own_maxJ (0 : Int64) p1))]))
  refine own_go (fun _ own_k => XS.lload X12.here hx rfl (hb hby at_166) rfl own_k) ?_
  show own_Goes p e below (own_End s below _ _) (T12.setTop (mkF m 168 #[.val (.long p1), .second, .val (.long p2), .second, .val (.int p3), .val (.int (1 : Int32)), .val (.int (1 : Int32)), .val (.ref a), .val (.ref a2), .val (.long (own_h ka)), .second, .val (.long (own_h kb)), .second, .val (.double (own_mean ((0 : Int64) + 1) ((0 : Int64) + (own_maxJ (0 : Int64) p2)))), .second, .val (.long (own_maxJ (0 : Int64) p1)), .second, .val (.long (own_maxJ (0 : Int64) p2)), .second, .val (.long ((1 : Int64) + (1 : Int64))), .second, .unset, .unset, .unset, .unset, .unset, .unset] [(.long (own_maxJ (0 : Int64) p2)), (.long (own_maxJ (0 : Int64) p1))]))
  refine own_go (fun _ own_k => XS.ladd X12.here hx rfl (hb hby at_168) rfl own_k) ?_
  show own_Goes p e below (own_End s below _ _) (T12.setTop (mkF m 169 #[.val (.long p1), .second, .val (.long p2), .second, .val (.int p3), .val (.int (1 : Int32)), .val (.int (1 : Int32)), .val (.ref a), .val (.ref a2), .val (.long (own_h ka)), .second, .val (.long (own_h kb)), .second, .val (.double (own_mean ((0 : Int64) + 1) ((0 : Int64) + (own_maxJ (0 : Int64) p2)))), .second, .val (.long (own_maxJ (0 : Int64) p1)), .second, .val (.long (own_maxJ (0 : Int64) p2)), .second, .val (.long ((1 : Int64) + (1 : Int64))), .second, .unset, .unset, .unset, .unset, .unset, .unset] [(.long ((own_maxJ (0 : Int64) p1) + (own_maxJ (0 : Int64) p2)))]))
  refine own_go (fun _ own_k => XS.l2dS X12.here hx rfl (hb hby at_169) rfl rfl own_k) ?_
  show own_Goes p e below (own_End s below _ _) (T12.setTop (mkF m 170 #[.val (.long p1), .second, .val (.long p2), .second, .val (.int p3), .val (.int (1 : Int32)), .val (.int (1 : Int32)), .val (.ref a), .val (.ref a2), .val (.long (own_h ka)), .second, .val (.long (own_h kb)), .second, .val (.double (own_mean ((0 : Int64) + 1) ((0 : Int64) + (own_maxJ (0 : Int64) p2)))), .second, .val (.long (own_maxJ (0 : Int64) p1)), .second, .val (.long (own_maxJ (0 : Int64) p2)), .second, .val (.long ((1 : Int64) + (1 : Int64))), .second, .unset, .unset, .unset, .unset, .unset, .unset] [(.double (FP.l2d ((own_maxJ (0 : Int64) p1) + (own_maxJ (0 : Int64) p2))))]))
  refine own_go (fun _ own_k => XS.lload X12.here hx rfl (hb hby at_170) rfl own_k) ?_
  show own_Goes p e below (own_End s below _ _) (T12.setTop (mkF m 172 #[.val (.long p1), .second, .val (.long p2), .second, .val (.int p3), .val (.int (1 : Int32)), .val (.int (1 : Int32)), .val (.ref a), .val (.ref a2), .val (.long (own_h ka)), .second, .val (.long (own_h kb)), .second, .val (.double (own_mean ((0 : Int64) + 1) ((0 : Int64) + (own_maxJ (0 : Int64) p2)))), .second, .val (.long (own_maxJ (0 : Int64) p1)), .second, .val (.long (own_maxJ (0 : Int64) p2)), .second, .val (.long ((1 : Int64) + (1 : Int64))), .second, .unset, .unset, .unset, .unset, .unset, .unset] [(.long ((1 : Int64) + (1 : Int64))), (.double (FP.l2d ((own_maxJ (0 : Int64) p1) + (own_maxJ (0 : Int64) p2))))]))
  refine own_go (fun _ own_k => XS.l2dS X12.here hx rfl (hb hby at_172) rfl rfl own_k) ?_
  show own_Goes p e below (own_End s below _ _) (T12.setTop (mkF m 173 #[.val (.long p1), .second, .val (.long p2), .second, .val (.int p3), .val (.int (1 : Int32)), .val (.int (1 : Int32)), .val (.ref a), .val (.ref a2), .val (.long (own_h ka)), .second, .val (.long (own_h kb)), .second, .val (.double (own_mean ((0 : Int64) + 1) ((0 : Int64) + (own_maxJ (0 : Int64) p2)))), .second, .val (.long (own_maxJ (0 : Int64) p1)), .second, .val (.long (own_maxJ (0 : Int64) p2)), .second, .val (.long ((1 : Int64) + (1 : Int64))), .second, .unset, .unset, .unset, .unset, .unset, .unset] [(.double (FP.l2d ((1 : Int64) + (1 : Int64)))), (.double (FP.l2d ((own_maxJ (0 : Int64) p1) + (own_maxJ (0 : Int64) p2))))]))
  refine own_go (fun _ own_k => XS.ddivS X12.here hx rfl (hb hby at_173) rfl (own_div_nn _ (by decide)) rfl own_k) ?_
  show own_Goes p e below (own_End s below _ _) (T12.setTop (mkF m 174 #[.val (.long p1), .second, .val (.long p2), .second, .val (.int p3), .val (.int (1 : Int32)), .val (.int (1 : Int32)), .val (.ref a), .val (.ref a2), .val (.long (own_h ka)), .second, .val (.long (own_h kb)), .second, .val (.double (own_mean ((0 : Int64) + 1) ((0 : Int64) + (own_maxJ (0 : Int64) p2)))), .second, .val (.long (own_maxJ (0 : Int64) p1)), .second, .val (.long (own_maxJ (0 : Int64) p2)), .second, .val (.long ((1 : Int64) + (1 : Int64))), .second, .unset, .unset, .unset, .unset, .unset, .unset] [(.double (FP.ddiv (FP.l2d ((own_maxJ (0 : Int64) p1) + (own_maxJ (0 : Int64) p2))) (FP.l2d ((1 : Int64) + (1 : Int64)))))]))
  refine own_go (fun _ own_k => XS.dstore X12.here hx rfl (hb hby at_174) rfl (l' := #[.val (.long p1), .second, .val (.long p2), .second, .val (.int p3), .val (.int (1 : Int32)), .val (.int (1 : Int32)), .val (.ref a), .val (.ref a2), .val (.long (own_h ka)), .second, .val (.long (own_h kb)), .second, .val (.double (own_mean ((0 : Int64) + 1) ((0 : Int64) + (own_maxJ (0 : Int64) p2)))), .second, .val (.long (own_maxJ (0 : Int64) p1)), .second, .val (.long (own_maxJ (0 : Int64) p2)), .second, .val (.long ((1 : Int64) + (1 : Int64))), .second, .val (.double (FP.ddiv (FP.l2d ((own_maxJ (0 : Int64) p1) + (own_maxJ (0 : Int64) p2))) (FP.l2d ((1 : Int64) + (1 : Int64))))), .second, .unset, .unset, .unset, .unset]) rfl own_k) ?_
  show own_Goes p e below (own_End s below _ _) (T12.setTop (mkF m 176 #[.val (.long p1), .second, .val (.long p2), .second, .val (.int p3), .val (.int (1 : Int32)), .val (.int (1 : Int32)), .val (.ref a), .val (.ref a2), .val (.long (own_h ka)), .second, .val (.long (own_h kb)), .second, .val (.double (own_mean ((0 : Int64) + 1) ((0 : Int64) + (own_maxJ (0 : Int64) p2)))), .second, .val (.long (own_maxJ (0 : Int64) p1)), .second, .val (.long (own_maxJ (0 : Int64) p2)), .second, .val (.long ((1 : Int64) + (1 : Int64))), .second, .val (.double (FP.ddiv (FP.l2d ((own_maxJ (0 : Int64) p1) + (own_maxJ (0 : Int64) p2))) (FP.l2d ((1 : Int64) + (1 : Int64))))), .second, .unset, .unset, .unset, .unset] []))
  refine own_go (fun _ own_k => XS.iload X12.here hx rfl (hb hby at_176) rfl own_k) ?_
  show own_Goes p e below (own_End s below _ _) (T12.setTop (mkF m 178 #[.val (.long p1), .second, .val (.long p2), .second, .val (.int p3), .val (.int (1 : Int32)), .val (.int (1 : Int32)), .val (.ref a), .val (.ref a2), .val (.long (own_h ka)), .second, .val (.long (own_h kb)), .second, .val (.double (own_mean ((0 : Int64) + 1) ((0 : Int64) + (own_maxJ (0 : Int64) p2)))), .second, .val (.long (own_maxJ (0 : Int64) p1)), .second, .val (.long (own_maxJ (0 : Int64) p2)), .second, .val (.long ((1 : Int64) + (1 : Int64))), .second, .val (.double (FP.ddiv (FP.l2d ((own_maxJ (0 : Int64) p1) + (own_maxJ (0 : Int64) p2))) (FP.l2d ((1 : Int64) + (1 : Int64))))), .second, .unset, .unset, .unset, .unset] [(.int (1 : Int32))]))
  refine own_go (fun _ own_k => XS.ifNo X12.here hx rfl (hb hby at_178) rfl (by decide) own_k) ?_
  show own_Goes p e below (own_End s below _ _) (T12.setTop (mkF m 181 #[.val (.long p1), .second, .val (.long p2), .second, .val (.int p3), .val (.int (1 : Int32)), .val (.int (1 : Int32)), .val (.ref a), .val (.ref a2), .val (.long (own_h ka)), .second, .val (.long (own_h kb)), .second, .val (.double (own_mean ((0 : Int64) + 1) ((0 : Int64) + (own_maxJ (0 : Int64) p2)))), .second, .val (.long (own_maxJ (0 : Int64) p1)), .second, .val (.long (own_maxJ (0 : Int64) p2)), .second, .val (.long ((1 : Int64) + (1 : Int64))), .second, .val (.double (FP.ddiv (FP.l2d ((own_maxJ (0 : Int64) p1) + (own_maxJ (0 : Int64) p2))) (FP.l2d ((1 : Int64) + (1 : Int64))))), .second, .unset, .unset, .unset, .unset] []))
  refine own_go (fun _ own_k => XS.iload X12.here hx rfl (hb hby at_181) rfl own_k) ?_
  show own_Goes p e below (own_End s below _ _) (T12.setTop (mkF m 183 #[.val (.long p1), .second, .val (.long p2), .second, .val (.int p3), .val (.int (1 : Int32)), .val (.int (1 : Int32)), .val (.ref a), .val (.ref a2), .val (.long (own_h ka)), .second, .val (.long (own_h kb)), .second, .val (.double (own_mean ((0 : Int64) + 1) ((0 : Int64) + (own_maxJ (0 : Int64) p2)))), .second, .val (.long (own_maxJ (0 : Int64) p1)), .second, .val (.long (own_maxJ (0 : Int64) p2)), .second, .val (.long ((1 : Int64) + (1 : Int64))), .second, .val (.double (FP.ddiv (FP.l2d ((own_maxJ (0 : Int64) p1) + (own_maxJ (0 : Int64) p2))) (FP.l2d ((1 : Int64) + (1 : Int64))))), .second, .unset, .unset, .unset, .unset] [(.int (1 : Int32))]))
  refine own_go (fun _ own_k => XS.ifNo X12.here hx rfl (hb hby at_183) rfl (by decide) own_k) ?_
  show own_Goes p e below (own_End s below _ _) (T12.setTop (mkF m 186 #[.val (.long p1), .second, .val (.long p2), .second, .val (.int p3), .val (.int (1 : Int32)), .val (.int (1 : Int32)), .val (.ref a), .val (.ref a2), .val (.long (own_h ka)), .second, .val (.long (own_h kb)), .second, .val (.double (own_mean ((0 : Int64) + 1) ((0 : Int64) + (own_maxJ (0 : Int64) p2)))), .second, .val (.long (own_maxJ (0 : Int64) p1)), .second, .val (.long (own_maxJ (0 : Int64) p2)), .second, .val (.long ((1 : Int64) + (1 : Int64))), .second, .val (.double (FP.ddiv (FP.l2d ((own_maxJ (0 : Int64) p1) + (own_maxJ (0 : Int64) p2))) (FP.l2d ((1 : Int64) + (1 : Int64))))), .second, .unset, .unset, .unset, .unset] []))
  refine own_go (fun _ own_k => XS.lload X12.here hx rfl (hb hby at_186) rfl own_k) ?_
  show own_Goes p e below (own_End s below _ _) (T12.setTop (mkF m 188 #[.val (.long p1), .second, .val (.long p2), .second, .val (.int p3), .val (.int (1 : Int32)), .val (.int (1 : Int32)), .val (.ref a), .val (.ref a2), .val (.long (own_h ka)), .second, .val (.long (own_h kb)), .second, .val (.double (own_mean ((0 : Int64) + 1) ((0 : Int64) + (own_maxJ (0 : Int64) p2)))), .second, .val (.long (own_maxJ (0 : Int64) p1)), .second, .val (.long (own_maxJ (0 : Int64) p2)), .second, .val (.long ((1 : Int64) + (1 : Int64))), .second, .val (.double (FP.ddiv (FP.l2d ((own_maxJ (0 : Int64) p1) + (own_maxJ (0 : Int64) p2))) (FP.l2d ((1 : Int64) + (1 : Int64))))), .second, .unset, .unset, .unset, .unset] [(.long (own_h ka))]))
  refine own_go (fun _ own_k => XS.lload X12.here hx rfl (hb hby at_188) rfl own_k) ?_
  show own_Goes p e below (own_End s below _ _) (T12.setTop (mkF m 190 #[.val (.long p1), .second, .val (.long p2), .second, .val (.int p3), .val (.int (1 : Int32)), .val (.int (1 : Int32)), .val (.ref a), .val (.ref a2), .val (.long (own_h ka)), .second, .val (.long (own_h kb)), .second, .val (.double (own_mean ((0 : Int64) + 1) ((0 : Int64) + (own_maxJ (0 : Int64) p2)))), .second, .val (.long (own_maxJ (0 : Int64) p1)), .second, .val (.long (own_maxJ (0 : Int64) p2)), .second, .val (.long ((1 : Int64) + (1 : Int64))), .second, .val (.double (FP.ddiv (FP.l2d ((own_maxJ (0 : Int64) p1) + (own_maxJ (0 : Int64) p2))) (FP.l2d ((1 : Int64) + (1 : Int64))))), .second, .unset, .unset, .unset, .unset] [(.long (own_h kb)), (.long (own_h ka))]))
  obtain ⟨T13, X13, e13, st13⟩ := own_callP X12 hx hZ (y := own_maxN) hown (hw _ (List.mem_of_getElem? (i := 71) rfl)) (hw _ (List.mem_of_getElem? (i := 62) rfl)) (hw _ (List.mem_of_getElem? (i := 21) rfl)) (hw _ (List.mem_of_getElem? (i := 63) rfl)) (by decide) (own_max l Z a0 hw _ (own_h ka) (own_h kb)) rfl (W := 0) (by decide) (by decide) (g := (mkF m 190 #[.val (.long p1), .second, .val (.long p2), .second, .val (.int p3), .val (.int (1 : Int32)), .val (.int (1 : Int32)), .val (.ref a), .val (.ref a2), .val (.long (own_h ka)), .second, .val (.long (own_h kb)), .second, .val (.double (own_mean ((0 : Int64) + 1) ((0 : Int64) + (own_maxJ (0 : Int64) p2)))), .second, .val (.long (own_maxJ (0 : Int64) p1)), .second, .val (.long (own_maxJ (0 : Int64) p2)), .second, .val (.long ((1 : Int64) + (1 : Int64))), .second, .val (.double (FP.ddiv (FP.l2d ((own_maxJ (0 : Int64) p1) + (own_maxJ (0 : Int64) p2))) (FP.l2d ((1 : Int64) + (1 : Int64))))), .second, .unset, .unset, .unset, .unset] [(.long (own_h kb)), (.long (own_h ka))])) rfl (by rw [hml]; rfl) (argsL := [(.long (own_h ka)), (.long (own_h kb))]) (rest := []) pd_JJJ rfl rfl (by show 2 * 0 + _ ≤ _; exact Nat.le_of_eq rfl) (hb hby at_190) rfl (by decide) (by decide)
  rw [← e13] at V10 W10 Y10
  refine own_go st13 ?_
  show own_Goes p e below (own_End s below _ _) (T13.setTop (mkF m 193 #[.val (.long p1), .second, .val (.long p2), .second, .val (.int p3), .val (.int (1 : Int32)), .val (.int (1 : Int32)), .val (.ref a), .val (.ref a2), .val (.long (own_h ka)), .second, .val (.long (own_h kb)), .second, .val (.double (own_mean ((0 : Int64) + 1) ((0 : Int64) + (own_maxJ (0 : Int64) p2)))), .second, .val (.long (own_maxJ (0 : Int64) p1)), .second, .val (.long (own_maxJ (0 : Int64) p2)), .second, .val (.long ((1 : Int64) + (1 : Int64))), .second, .val (.double (FP.ddiv (FP.l2d ((own_maxJ (0 : Int64) p1) + (own_maxJ (0 : Int64) p2))) (FP.l2d ((1 : Int64) + (1 : Int64))))), .second, .unset, .unset, .unset, .unset] [(.long (own_maxJ (own_h ka) (own_h kb)))]))
  refine own_go (fun _ own_k => XS.lstore X13.here hx rfl (hb hby at_193) rfl (l' := #[.val (.long p1), .second, .val (.long p2), .second, .val (.int p3), .val (.int (1 : Int32)), .val (.int (1 : Int32)), .val (.ref a), .val (.ref a2), .val (.long (own_h ka)), .second, .val (.long (own_h kb)), .second, .val (.double (own_mean ((0 : Int64) + 1) ((0 : Int64) + (own_maxJ (0 : Int64) p2)))), .second, .val (.long (own_maxJ (0 : Int64) p1)), .second, .val (.long (own_maxJ (0 : Int64) p2)), .second, .val (.long ((1 : Int64) + (1 : Int64))), .second, .val (.double (FP.ddiv (FP.l2d ((own_maxJ (0 : Int64) p1) + (own_maxJ (0 : Int64) p2))) (FP.l2d ((1 : Int64) + (1 : Int64))))), .second, .val (.long (own_maxJ (own_h ka) (own_h kb))), .second, .unset, .unset]) rfl own_k) ?_
  show own_Goes p e below (own_End s below _ _) (T13.setTop (mkF m 195 #[.val (.long p1), .second, .val (.long p2), .second, .val (.int p3), .val (.int (1 : Int32)), .val (.int (1 : Int32)), .val (.ref a), .val (.ref a2), .val (.long (own_h ka)), .second, .val (.long (own_h kb)), .second, .val (.double (own_mean ((0 : Int64) + 1) ((0 : Int64) + (own_maxJ (0 : Int64) p2)))), .second, .val (.long (own_maxJ (0 : Int64) p1)), .second, .val (.long (own_maxJ (0 : Int64) p2)), .second, .val (.long ((1 : Int64) + (1 : Int64))), .second, .val (.double (FP.ddiv (FP.l2d ((own_maxJ (0 : Int64) p1) + (own_maxJ (0 : Int64) p2))) (FP.l2d ((1 : Int64) + (1 : Int64))))), .second, .val (.long (own_maxJ (own_h ka) (own_h kb))), .second, .unset, .unset] []))
  refine own_go (fun _ own_k => XS.lload X13.here hx rfl (hb hby at_195) rfl own_k) ?_
  show own_Goes p e below (own_End s below _ _) (T13.setTop (mkF m 197 #[.val (.long p1), .second, .val (.long p2), .second, .val (.int p3), .val (.int (1 : Int32)), .val (.int (1 : Int32)), .val (.ref a), .val (.ref a2), .val (.long (own_h ka)), .second, .val (.long (own_h kb)), .second, .val (.double (own_mean ((0 : Int64) + 1) ((0 : Int64) + (own_maxJ (0 : Int64) p2)))), .second, .val (.long (own_maxJ (0 : Int64) p1)), .second, .val (.long (own_maxJ (0 : Int64) p2)), .second, .val (.long ((1 : Int64) + (1 : Int64))), .second, .val (.double (FP.ddiv (FP.l2d ((own_maxJ (0 : Int64) p1) + (own_maxJ (0 : Int64) p2))) (FP.l2d ((1 : Int64) + (1 : Int64))))), .second, .val (.long (own_maxJ (own_h ka) (own_h kb))), .second, .unset, .unset] [(.long (own_h ka))]))
  refine own_go (fun _ own_k => XS.lload X13.here hx rfl (hb hby at_197) rfl own_k) ?_
  show own_Goes p e below (own_End s below _ _) (T13.setTop (mkF m 199 #[.val (.long p1), .second, .val (.long p2), .second, .val (.int p3), .val (.int (1 : Int32)), .val (.int (1 : Int32)), .val (.ref a), .val (.ref a2), .val (.long (own_h ka)), .second, .val (.long (own_h kb)), .second, .val (.double (own_mean ((0 : Int64) + 1) ((0 : Int64) + (own_maxJ (0 : Int64) p2)))), .second, .val (.long (own_maxJ (0 : Int64) p1)), .second, .val (.long (own_maxJ (0 : Int64) p2)), .second, .val (.long ((1 : Int64) + (1 : Int64))), .second, .val (.double (FP.ddiv (FP.l2d ((own_maxJ (0 : Int64) p1) + (own_maxJ (0 : Int64) p2))) (FP.l2d ((1 : Int64) + (1 : Int64))))), .second, .val (.long (own_maxJ (own_h ka) (own_h kb))), .second, .unset, .unset] [(.long (own_h kb)), (.long (own_h ka))]))
  obtain ⟨T14, X14, e14, st14⟩ := own_callP X13 hx hZ (y := own_minN) hown (hw _ (List.mem_of_getElem? (i := 72) rfl)) (hw _ (List.mem_of_getElem? (i := 73) rfl)) (hw _ (List.mem_of_getElem? (i := 21) rfl)) (hw _ (List.mem_of_getElem? (i := 74) rfl)) (by decide) (own_min l Z a0 hw _ (own_h ka) (own_h kb)) rfl (W := 0) (by decide) (by decide) (g := (mkF m 199 #[.val (.long p1), .second, .val (.long p2), .second, .val (.int p3), .val (.int (1 : Int32)), .val (.int (1 : Int32)), .val (.ref a), .val (.ref a2), .val (.long (own_h ka)), .second, .val (.long (own_h kb)), .second, .val (.double (own_mean ((0 : Int64) + 1) ((0 : Int64) + (own_maxJ (0 : Int64) p2)))), .second, .val (.long (own_maxJ (0 : Int64) p1)), .second, .val (.long (own_maxJ (0 : Int64) p2)), .second, .val (.long ((1 : Int64) + (1 : Int64))), .second, .val (.double (FP.ddiv (FP.l2d ((own_maxJ (0 : Int64) p1) + (own_maxJ (0 : Int64) p2))) (FP.l2d ((1 : Int64) + (1 : Int64))))), .second, .val (.long (own_maxJ (own_h ka) (own_h kb))), .second, .unset, .unset] [(.long (own_h kb)), (.long (own_h ka))])) rfl (by rw [hml]; rfl) (argsL := [(.long (own_h ka)), (.long (own_h kb))]) (rest := []) pd_JJJ rfl rfl (by show 2 * 0 + _ ≤ _; exact Nat.le_of_eq rfl) (hb hby at_199) rfl (by decide) (by decide)
  rw [← e14] at V10 W10 Y10
  refine own_go st14 ?_
  show own_Goes p e below (own_End s below _ _) (T14.setTop (mkF m 202 #[.val (.long p1), .second, .val (.long p2), .second, .val (.int p3), .val (.int (1 : Int32)), .val (.int (1 : Int32)), .val (.ref a), .val (.ref a2), .val (.long (own_h ka)), .second, .val (.long (own_h kb)), .second, .val (.double (own_mean ((0 : Int64) + 1) ((0 : Int64) + (own_maxJ (0 : Int64) p2)))), .second, .val (.long (own_maxJ (0 : Int64) p1)), .second, .val (.long (own_maxJ (0 : Int64) p2)), .second, .val (.long ((1 : Int64) + (1 : Int64))), .second, .val (.double (FP.ddiv (FP.l2d ((own_maxJ (0 : Int64) p1) + (own_maxJ (0 : Int64) p2))) (FP.l2d ((1 : Int64) + (1 : Int64))))), .second, .val (.long (own_maxJ (own_h ka) (own_h kb))), .second, .unset, .unset] [(.long (own_minJ (own_h ka) (own_h kb)))]))
  refine own_go (fun _ own_k => XS.lstore X14.here hx rfl (hb hby at_202) rfl (l' := #[.val (.long p1), .second, .val (.long p2), .second, .val (.int p3), .val (.int (1 : Int32)), .val (.int (1 : Int32)), .val (.ref a), .val (.ref a2), .val (.long (own_h ka)), .second, .val (.long (own_h kb)), .second, .val (.double (own_mean ((0 : Int64) + 1) ((0 : Int64) + (own_maxJ (0 : Int64) p2)))), .second, .val (.long (own_maxJ (0 : Int64) p1)), .second, .val (.long (own_maxJ (0 : Int64) p2)), .second, .val (.long ((1 : Int64) + (1 : Int64))), .second, .val (.double (FP.ddiv (FP.l2d ((own_maxJ (0 : Int64) p1) + (own_maxJ (0 : Int64) p2))) (FP.l2d ((1 : Int64) + (1 : Int64))))), .second, .val (.long (own_maxJ (own_h ka) (own_h kb))), .second, .val (.long (own_minJ (own_h ka) (own_h kb))), .second]) rfl own_k) ?_
  show own_Goes p e below (own_End s below _ _) (T14.setTop (mkF m 204 #[.val (.long p1), .second, .val (.long p2), .second, .val (.int p3), .val (.int (1 : Int32)), .val (.int (1 : Int32)), .val (.ref a), .val (.ref a2), .val (.long (own_h ka)), .second, .val (.long (own_h kb)), .second, .val (.double (own_mean ((0 : Int64) + 1) ((0 : Int64) + (own_maxJ (0 : Int64) p2)))), .second, .val (.long (own_maxJ (0 : Int64) p1)), .second, .val (.long (own_maxJ (0 : Int64) p2)), .second, .val (.long ((1 : Int64) + (1 : Int64))), .second, .val (.double (FP.ddiv (FP.l2d ((own_maxJ (0 : Int64) p1) + (own_maxJ (0 : Int64) p2))) (FP.l2d ((1 : Int64) + (1 : Int64))))), .second, .val (.long (own_maxJ (own_h ka) (own_h kb))), .second, .val (.long (own_minJ (own_h ka) (own_h kb))), .second] []))
  refine own_go (fun _ own_k => XS.goto X14.here hx rfl (pc0 := 204) (pc' := 245) rfl (hb hby at_204) (by decide) (by decide) own_k) ?_
  show own_Goes p e below (own_End s below _ _) (T14.setTop (mkF m 245 #[.val (.long p1), .second, .val (.long p2), .second, .val (.int p3), .val (.int (1 : Int32)), .val (.int (1 : Int32)), .val (.ref a), .val (.ref a2), .val (.long (own_h ka)), .second, .val (.long (own_h kb)), .second, .val (.double (own_mean ((0 : Int64) + 1) ((0 : Int64) + (own_maxJ (0 : Int64) p2)))), .second, .val (.long (own_maxJ (0 : Int64) p1)), .second, .val (.long (own_maxJ (0 : Int64) p2)), .second, .val (.long ((1 : Int64) + (1 : Int64))), .second, .val (.double (FP.ddiv (FP.l2d ((own_maxJ (0 : Int64) p1) + (own_maxJ (0 : Int64) p2))) (FP.l2d ((1 : Int64) + (1 : Int64))))), .second, .val (.long (own_maxJ (own_h ka) (own_h kb))), .second, .val (.long (own_minJ (own_h ka) (own_h kb))), .second] []))
  refine own_go (fun _ own_k => XS.aload X14.here hx rfl (hb hby at_245) rfl rfl own_k) ?_
  show own_Goes p e below (own_End s below _ _) (T14.setTop (mkF m 247 #[.val (.long p1), .second, .val (.long p2), .second, .val (.int p3), .val (.int (1 : Int32)), .val (.int (1 : Int32)), .val (.ref a), .val (.ref a2), .val (.long (own_h ka)), .second, .val (.long (own_h kb)), .second, .val (.double (own_mean ((0 : Int64) + 1) ((0 : Int64) + (own_maxJ (0 : Int64) p2)))), .second, .val (.long (own_maxJ (0 : Int64) p1)), .second, .val (.long (own_maxJ (0 : Int64) p2)), .second, .val (.long ((1 : Int64) + (1 : Int64))), .second, .val (.double (FP.ddiv (FP.l2d ((own_maxJ (0 : Int64) p1) + (own_maxJ (0 : Int64) p2))) (FP.l2d ((1 : Int64) + (1 : Int64))))), .second, .val (.long (own_maxJ (own_h ka) (own_h kb))), .second, .val (.long (own_minJ (own_h ka) (own_h kb))), .second] [(.ref a)]))
  obtain ⟨v15, T15, L15, X15, ⟨u15, e15, d15⟩, st15⟩ := own_callV X14 hx hZ (y := own_meaN) (z := own_meaN) hown (hw _ (List.mem_of_getElem? (i := 43) rfl)) (hw _ (List.mem_of_getElem? (i := 44) rfl)) (hw _ (List.mem_of_getElem? (i := 46) rfl)) (hw _ (List.mem_of_getElem? (i := 45) rfl)) (hw _ (List.mem_of_getElem? (i := 2) rfl)) (hw _ (List.mem_of_getElem? (i := 47) rfl)) (notFace_of_selects (args := #[]) (mvT hZ (hw _ (List.mem_of_getElem? (i := 46) rfl)))) (by decide) (own_mea l Z a0 hw _ a b _ _ _ V10) rfl V10.1 (W := 0) (by decide) (by decide) (g := (mkF m 247 #[.val (.long p1), .second, .val (.long p2), .second, .val (.int p3), .val (.int (1 : Int32)), .val (.int (1 : Int32)), .val (.ref a), .val (.ref a2), .val (.long (own_h ka)), .second, .val (.long (own_h kb)), .second, .val (.double (own_mean ((0 : Int64) + 1) ((0 : Int64) + (own_maxJ (0 : Int64) p2)))), .second, .val (.long (own_maxJ (0 : Int64) p1)), .second, .val (.long (own_maxJ (0 : Int64) p2)), .second, .val (.long ((1 : Int64) + (1 : Int64))), .second, .val (.double (FP.ddiv (FP.l2d ((own_maxJ (0 : Int64) p1) + (own_maxJ (0 : Int64) p2))) (FP.l2d ((1 : Int64) + (1 : Int64))))), .second, .val (.long (own_maxJ (own_h ka) (own_h kb))), .second, .val (.long (own_minJ (own_h ka) (own_h kb))), .second] [(.ref a)])) rfl (by rw [hml]; rfl) (argsL := []) (rest := []) pd_D rfl rfl (by show 2 * 0 + _ ≤ _; exact Nat.le_of_eq rfl) (hb hby at_247) rfl (by decide) (by decide)
  subst u15 d15
  rw [List.append_nil] at X15
  refine own_go st15 ?_
  show own_Goes p e below (own_End s below _ _) (T15.setTop (mkF m 250 #[.val (.long p1), .second, .val (.long p2), .second, .val (.int p3), .val (.int (1 : Int32)), .val (.int (1 : Int32)), .val (.ref a), .val (.ref a2), .val (.long (own_h ka)), .second, .val (.long (own_h kb)), .second, .val (.double (own_mean ((0 : Int64) + 1) ((0 : Int64) + (own_maxJ (0 : Int64) p2)))), .second, .val (.long (own_maxJ (0 : Int64) p1)), .second, .val (.long (own_maxJ (0 : Int64) p2)), .second, .val (.long ((1 : Int64) + (1 : Int64))), .second, .val (.double (FP.ddiv (FP.l2d ((own_maxJ (0 : Int64) p1) + (own_maxJ (0 : Int64) p2))) (FP.l2d ((1 : Int64) + (1 : Int64))))), .second, .val (.long (own_maxJ (own_h ka) (own_h kb))), .second, .val (.long (own_minJ (own_h ka) (own_h kb))), .second] [(.double (own_mean (((0 : Int64) + 1) + ((0 : Int64) + 1)) (((0 : Int64) + (own_maxJ (0 : Int64) p1)) + ((0 : Int64) + (own_maxJ (0 : Int64) p2)))))]))
  rw [← e15] at V10 W10 Y10
  refine own_go (fun _ own_k => XS.dload X15.here hx rfl (hb hby at_250) rfl own_k) ?_
  show own_Goes p e below (own_End s below _ _) (T15.setTop (mkF m 252 #[.val (.long p1), .second, .val (.long p2), .second, .val (.int p3), .val (.int (1 : Int32)), .val (.int (1 : Int32)), .val (.ref a), .val (.ref a2), .val (.long (own_h ka)), .second, .val (.long (own_h kb)), .second, .val (.double (own_mean ((0 : Int64) + 1) ((0 : Int64) + (own_maxJ (0 : Int64) p2)))), .second, .val (.long (own_maxJ (0 : Int64) p1)), .second, .val (.long (own_maxJ (0 : Int64) p2)), .second, .val (.long ((1 : Int64) + (1 : Int64))), .second, .val (.double (FP.ddiv (FP.l2d ((own_maxJ (0 : Int64) p1) + (own_maxJ (0 : Int64) p2))) (FP.l2d ((1 : Int64) + (1 : Int64))))), .second, .val (.long (own_maxJ (own_h ka) (own_h kb))), .second, .val (.long (own_minJ (own_h ka) (own_h kb))), .second] [(.double (FP.ddiv (FP.l2d ((own_maxJ (0 : Int64) p1) + (own_maxJ (0 : Int64) p2))) (FP.l2d ((1 : Int64) + (1 : Int64))))), (.double (own_mean (((0 : Int64) + 1) + ((0 : Int64) + 1)) (((0 : Int64) + (own_maxJ (0 : Int64) p1)) + ((0 : Int64) + (own_maxJ (0 : Int64) p2)))))]))
  refine own_go (fun _ own_k => XS.dcmpS X15.here hx rfl (hb hby at_252) rfl (dcmpV_eq (own_mean_eq ((0 : Int64) + (own_maxJ (0 : Int64) p1)) ((0 : Int64) + (own_maxJ (0 : Int64) p2)) (own_maxJ (0 : Int64) p1) (own_maxJ (0 : Int64) p2) (((0 : Int64) + 1) + ((0 : Int64) + 1)) ((1 : Int64) + (1 : Int64)) (by decide) (by decide) (own_zadd _) (own_zadd _)) (own_mean_nn _ _) .l) own_k) ?_
  show own_Goes p e below (own_End s below _ _) (T15.setTop (mkF m 253 #[.val (.long p1), .second, .val (.long p2), .second, .val (.int p3), .val (.int (1 : Int32)), .val (.int (1 : Int32)), .val (.ref a), .val (.ref a2), .val (.long (own_h ka)), .second, .val (.long (own_h kb)), .second, .val (.double (own_mean ((0 : Int64) + 1) ((0 : Int64) + (own_maxJ (0 : Int64) p2)))), .second, .val (.long (own_maxJ (0 : Int64) p1)), .second, .val (.long (own_maxJ (0 : Int64) p2)), .second, .val (.long ((1 : Int64) + (1 : Int64))), .second, .val (.double (FP.ddiv (FP.l2d ((own_maxJ (0 : Int64) p1) + (own_maxJ (0 : Int64) p2))) (FP.l2d ((1 : Int64) + (1 : Int64))))), .second, .val (.long (own_maxJ (own_h ka) (own_h kb))), .second, .val (.long (own_minJ (own_h ka) (own_h kb))), .second] [(.int (0 : Int32))]))
  refine own_go (fun _ own_k => XS.ifNo X15.here hx rfl (hb hby at_253) rfl (by decide) own_k) ?_
  show own_Goes p e below (own_End s below _ _) (T15.setTop (mkF m 256 #[.val (.long p1), .second, .val (.long p2), .second, .val (.int p3), .val (.int (1 : Int32)), .val (.int (1 : Int32)), .val (.ref a), .val (.ref a2), .val (.long (own_h ka)), .second, .val (.long (own_h kb)), .second, .val (.double (own_mean ((0 : Int64) + 1) ((0 : Int64) + (own_maxJ (0 : Int64) p2)))), .second, .val (.long (own_maxJ (0 : Int64) p1)), .second, .val (.long (own_maxJ (0 : Int64) p2)), .second, .val (.long ((1 : Int64) + (1 : Int64))), .second, .val (.double (FP.ddiv (FP.l2d ((own_maxJ (0 : Int64) p1) + (own_maxJ (0 : Int64) p2))) (FP.l2d ((1 : Int64) + (1 : Int64))))), .second, .val (.long (own_maxJ (own_h ka) (own_h kb))), .second, .val (.long (own_minJ (own_h ka) (own_h kb))), .second] []))
  refine own_go (fun _ own_k => XS.aload X15.here hx rfl (hb hby at_256) rfl rfl own_k) ?_
  show own_Goes p e below (own_End s below _ _) (T15.setTop (mkF m 258 #[.val (.long p1), .second, .val (.long p2), .second, .val (.int p3), .val (.int (1 : Int32)), .val (.int (1 : Int32)), .val (.ref a), .val (.ref a2), .val (.long (own_h ka)), .second, .val (.long (own_h kb)), .second, .val (.double (own_mean ((0 : Int64) + 1) ((0 : Int64) + (own_maxJ (0 : Int64) p2)))), .second, .val (.long (own_maxJ (0 : Int64) p1)), .second, .val (.long (own_maxJ (0 : Int64) p2)), .second, .val (.long ((1 : Int64) + (1 : Int64))), .second, .val (.double (FP.ddiv (FP.l2d ((own_maxJ (0 : Int64) p1) + (own_maxJ (0 : Int64) p2))) (FP.l2d ((1 : Int64) + (1 : Int64))))), .second, .val (.long (own_maxJ (own_h ka) (own_h kb))), .second, .val (.long (own_minJ (own_h ka) (own_h kb))), .second] [(.ref a)]))
  refine own_go (fun _ own_k => XS.dconst1 X15.here hx rfl (hb hby at_258) rfl own_k) ?_
  show own_Goes p e below (own_End s below _ _) (T15.setTop (mkF m 259 #[.val (.long p1), .second, .val (.long p2), .second, .val (.int p3), .val (.int (1 : Int32)), .val (.int (1 : Int32)), .val (.ref a), .val (.ref a2), .val (.long (own_h ka)), .second, .val (.long (own_h kb)), .second, .val (.double (own_mean ((0 : Int64) + 1) ((0 : Int64) + (own_maxJ (0 : Int64) p2)))), .second, .val (.long (own_maxJ (0 : Int64) p1)), .second, .val (.long (own_maxJ (0 : Int64) p2)), .second, .val (.long ((1 : Int64) + (1 : Int64))), .second, .val (.double (FP.ddiv (FP.l2d ((own_maxJ (0 : Int64) p1) + (own_maxJ (0 : Int64) p2))) (FP.l2d ((1 : Int64) + (1 : Int64))))), .second, .val (.long (own_maxJ (own_h ka) (own_h kb))), .second, .val (.long (own_minJ (own_h ka) (own_h kb))), .second] [(.double FP.dconst1), (.ref a)]))
  obtain ⟨v16, T16, L16, X16, ⟨u16, e16, d16⟩, st16⟩ := own_callV X15 hx hZ (y := own_pctN) (z := own_pctN) hown (hw _ (List.mem_of_getElem? (i := 12) rfl)) (hw _ (List.mem_of_getElem? (i := 13) rfl)) (hw _ (List.mem_of_getElem? (i := 15) rfl)) (hw _ (List.mem_of_getElem? (i := 14) rfl)) (hw _ (List.mem_of_getElem? (i := 2) rfl)) (hw _ (List.mem_of_getElem? (i := 16) rfl)) (notFace_of_selects (args := #[]) (mvT hZ (hw _ (List.mem_of_getElem? (i := 15) rfl)))) (by decide) (own_pct l Z a0 hw _ a b _ _ _ FP.dconst1 4611686018427387904 4611686018427387904 2 (max ka kb) V10 (own_At_max kal kbl) (by decide +kernel) own_lit_nn2 (SA.ext Y10.2) own_CE2 (by decide +kernel)) rfl V10.1 (W := 0) (by decide) (by decide) (g := (mkF m 259 #[.val (.long p1), .second, .val (.long p2), .second, .val (.int p3), .val (.int (1 : Int32)), .val (.int (1 : Int32)), .val (.ref a), .val (.ref a2), .val (.long (own_h ka)), .second, .val (.long (own_h kb)), .second, .val (.double (own_mean ((0 : Int64) + 1) ((0 : Int64) + (own_maxJ (0 : Int64) p2)))), .second, .val (.long (own_maxJ (0 : Int64) p1)), .second, .val (.long (own_maxJ (0 : Int64) p2)), .second, .val (.long ((1 : Int64) + (1 : Int64))), .second, .val (.double (FP.ddiv (FP.l2d ((own_maxJ (0 : Int64) p1) + (own_maxJ (0 : Int64) p2))) (FP.l2d ((1 : Int64) + (1 : Int64))))), .second, .val (.long (own_maxJ (own_h ka) (own_h kb))), .second, .val (.long (own_minJ (own_h ka) (own_h kb))), .second] [(.double FP.dconst1), (.ref a)])) rfl (by rw [hml]; rfl) (argsL := [(.double FP.dconst1)]) (rest := []) pd_DJ rfl rfl (by show 2 * 0 + _ ≤ _; exact Nat.le_of_eq rfl) (hb hby at_259) rfl (by decide) (by decide)
  subst u16 d16
  rw [List.append_nil] at X16
  refine own_go st16 ?_
  show own_Goes p e below (own_End s below _ _) (T16.setTop (mkF m 262 #[.val (.long p1), .second, .val (.long p2), .second, .val (.int p3), .val (.int (1 : Int32)), .val (.int (1 : Int32)), .val (.ref a), .val (.ref a2), .val (.long (own_h ka)), .second, .val (.long (own_h kb)), .second, .val (.double (own_mean ((0 : Int64) + 1) ((0 : Int64) + (own_maxJ (0 : Int64) p2)))), .second, .val (.long (own_maxJ (0 : Int64) p1)), .second, .val (.long (own_maxJ (0 : Int64) p2)), .second, .val (.long ((1 : Int64) + (1 : Int64))), .second, .val (.double (FP.ddiv (FP.l2d ((own_maxJ (0 : Int64) p1) + (own_maxJ (0 : Int64) p2))) (FP.l2d ((1 : Int64) + (1 : Int64))))), .second, .val (.long (own_maxJ (own_h ka) (own_h kb))), .second, .val (.long (own_minJ (own_h ka) (own_h kb))), .second] [(.long (own_h (max ka kb)))]))
  rw [← e16] at V10 W10 Y10
  refine own_go (fun _ own_k => XS.lload X16.here hx rfl (hb hby at_262) rfl own_k) ?_
  show own_Goes p e below (own_End s below _ _) (T16.setTop (mkF m 264 #[.val (.long p1), .second, .val (.long p2), .second, .val (.int p3), .val (.int (1 : Int32)), .val (.int (1 : Int32)), .val (.ref a), .val (.ref a2), .val (.long (own_h ka)), .second, .val (.long (own_h kb)), .second, .val (.double (own_mean ((0 : Int64) + 1) ((0 : Int64) + (own_maxJ (0 : Int64) p2)))), .second, .val (.long (own_maxJ (0 : Int64) p1)), .second, .val (.long (own_maxJ (0 : Int64) p2)), .second, .val (.long ((1 : Int64) + (1 : Int64))), .second, .val (.double (FP.ddiv (FP.l2d ((own_maxJ (0 : Int64) p1) + (own_maxJ (0 : Int64) p2))) (FP.l2d ((1 : Int64) + (1 : Int64))))), .second, .val (.long (own_maxJ (own_h ka) (own_h kb))), .second, .val (.long (own_minJ (own_h ka) (own_h kb))), .second] [(.long (own_maxJ (own_h ka) (own_h kb))), (.long (own_h (max ka kb)))]))
  refine own_go (fun _ own_k => XS.lcmp X16.here hx rfl (hb hby at_264) rfl own_k) ?_
  show own_Goes p e below (own_End s below _ _) (T16.setTop (mkF m 265 #[.val (.long p1), .second, .val (.long p2), .second, .val (.int p3), .val (.int (1 : Int32)), .val (.int (1 : Int32)), .val (.ref a), .val (.ref a2), .val (.long (own_h ka)), .second, .val (.long (own_h kb)), .second, .val (.double (own_mean ((0 : Int64) + 1) ((0 : Int64) + (own_maxJ (0 : Int64) p2)))), .second, .val (.long (own_maxJ (0 : Int64) p1)), .second, .val (.long (own_maxJ (0 : Int64) p2)), .second, .val (.long ((1 : Int64) + (1 : Int64))), .second, .val (.double (FP.ddiv (FP.l2d ((own_maxJ (0 : Int64) p1) + (own_maxJ (0 : Int64) p2))) (FP.l2d ((1 : Int64) + (1 : Int64))))), .second, .val (.long (own_maxJ (own_h ka) (own_h kb))), .second, .val (.long (own_minJ (own_h ka) (own_h kb))), .second] [(.int (lcmpW (own_h (max ka kb)) (own_maxJ (own_h ka) (own_h kb))))]))
  refine own_go (fun _ own_k => XS.ifNo X16.here hx rfl (hb hby at_265) rfl (by rw [if0]; exact (teq ((lw_eq _ _).mpr (own_h_max kal kbl))).2) own_k) ?_
  show own_Goes p e below (own_End s below _ _) (T16.setTop (mkF m 268 #[.val (.long p1), .second, .val (.long p2), .second, .val (.int p3), .val (.int (1 : Int32)), .val (.int (1 : Int32)), .val (.ref a), .val (.ref a2), .val (.long (own_h ka)), .second, .val (.long (own_h kb)), .second, .val (.double (own_mean ((0 : Int64) + 1) ((0 : Int64) + (own_maxJ (0 : Int64) p2)))), .second, .val (.long (own_maxJ (0 : Int64) p1)), .second, .val (.long (own_maxJ (0 : Int64) p2)), .second, .val (.long ((1 : Int64) + (1 : Int64))), .second, .val (.double (FP.ddiv (FP.l2d ((own_maxJ (0 : Int64) p1) + (own_maxJ (0 : Int64) p2))) (FP.l2d ((1 : Int64) + (1 : Int64))))), .second, .val (.long (own_maxJ (own_h ka) (own_h kb))), .second, .val (.long (own_minJ (own_h ka) (own_h kb))), .second] []))
  refine own_go (fun _ own_k => XS.aload X16.here hx rfl (hb hby at_268) rfl rfl own_k) ?_
  show own_Goes p e below (own_End s below _ _) (T16.setTop (mkF m 270 #[.val (.long p1), .second, .val (.long p2), .second, .val (.int p3), .val (.int (1 : Int32)), .val (.int (1 : Int32)), .val (.ref a), .val (.ref a2), .val (.long (own_h ka)), .second, .val (.long (own_h kb)), .second, .val (.double (own_mean ((0 : Int64) + 1) ((0 : Int64) + (own_maxJ (0 : Int64) p2)))), .second, .val (.long (own_maxJ (0 : Int64) p1)), .second, .val (.long (own_maxJ (0 : Int64) p2)), .second, .val (.long ((1 : Int64) + (1 : Int64))), .second, .val (.double (FP.ddiv (FP.l2d ((own_maxJ (0 : Int64) p1) + (own_maxJ (0 : Int64) p2))) (FP.l2d ((1 : Int64) + (1 : Int64))))), .second, .val (.long (own_maxJ (own_h ka) (own_h kb))), .second, .val (.long (own_minJ (own_h ka) (own_h kb))), .second] [(.ref a)]))
  refine own_go (Stand.ldc2DoubleC X16 hx hown (mvT hZ (hw _ (List.mem_of_getElem? (i := 55) rfl))) (g := (mkF m 270 #[.val (.long p1), .second, .val (.long p2), .second, .val (.int p3), .val (.int (1 : Int32)), .val (.int (1 : Int32)), .val (.ref a), .val (.ref a2), .val (.long (own_h ka)), .second, .val (.long (own_h kb)), .second, .val (.double (own_mean ((0 : Int64) + 1) ((0 : Int64) + (own_maxJ (0 : Int64) p2)))), .second, .val (.long (own_maxJ (0 : Int64) p1)), .second, .val (.long (own_maxJ (0 : Int64) p2)), .second, .val (.long ((1 : Int64) + (1 : Int64))), .second, .val (.double (FP.ddiv (FP.l2d ((own_maxJ (0 : Int64) p1) + (own_maxJ (0 : Int64) p2))) (FP.l2d ((1 : Int64) + (1 : Int64))))), .second, .val (.long (own_maxJ (own_h ka) (own_h kb))), .second, .val (.long (own_minJ (own_h ka) (own_h kb))), .second] [(.ref a)])) rfl (hb hby at_270)) ?_
  show own_Goes p e below (own_End s below _ _) (T16.setTop (mkF m 273 #[.val (.long p1), .second, .val (.long p2), .second, .val (.int p3), .val (.int (1 : Int32)), .val (.int (1 : Int32)), .val (.ref a), .val (.ref a2), .val (.long (own_h ka)), .second, .val (.long (own_h kb)), .second, .val (.double (own_mean ((0 : Int64) + 1) ((0 : Int64) + (own_maxJ (0 : Int64) p2)))), .second, .val (.long (own_maxJ (0 : Int64) p1)), .second, .val (.long (own_maxJ (0 : Int64) p2)), .second, .val (.long ((1 : Int64) + (1 : Int64))), .second, .val (.double (FP.ddiv (FP.l2d ((own_maxJ (0 : Int64) p1) + (own_maxJ (0 : Int64) p2))) (FP.l2d ((1 : Int64) + (1 : Int64))))), .second, .val (.long (own_maxJ (own_h ka) (own_h kb))), .second, .val (.long (own_minJ (own_h ka) (own_h kb))), .second] [(.double 4602678819172646912), (.ref a)]))
  obtain ⟨v17, T17, L17, X17, ⟨u17, e17, d17⟩, st17⟩ := own_callV X16 hx hZ (y := own_pctN) (z := own_pctN) hown (hw _ (List.mem_of_getElem? (i := 12) rfl)) (hw _ (List.mem_of_getElem? (i := 13) rfl)) (hw _ (List.mem_of_getElem? (i := 15) rfl)) (hw _ (List.mem_of_getElem? (i := 14) rfl)) (hw _ (List.mem_of_getElem? (i := 2) rfl)) (hw _ (List.mem_of_getElem? (i := 16) rfl)) (notFace_of_selects (args := #[]) (mvT hZ (hw _ (List.mem_of_getElem? (i := 15) rfl)))) (by decide) (own_pct l Z a0 hw _ a b _ _ _ 4602678819172646912 4607182418800017408 4607182418800017408 1 (min ka kb) V10 (own_At_min kal kbl) (by decide +kernel) own_lit_nn1 (SA.ext Y10.2) own_CE1 (by decide +kernel)) rfl V10.1 (W := 0) (by decide) (by decide) (g := (mkF m 273 #[.val (.long p1), .second, .val (.long p2), .second, .val (.int p3), .val (.int (1 : Int32)), .val (.int (1 : Int32)), .val (.ref a), .val (.ref a2), .val (.long (own_h ka)), .second, .val (.long (own_h kb)), .second, .val (.double (own_mean ((0 : Int64) + 1) ((0 : Int64) + (own_maxJ (0 : Int64) p2)))), .second, .val (.long (own_maxJ (0 : Int64) p1)), .second, .val (.long (own_maxJ (0 : Int64) p2)), .second, .val (.long ((1 : Int64) + (1 : Int64))), .second, .val (.double (FP.ddiv (FP.l2d ((own_maxJ (0 : Int64) p1) + (own_maxJ (0 : Int64) p2))) (FP.l2d ((1 : Int64) + (1 : Int64))))), .second, .val (.long (own_maxJ (own_h ka) (own_h kb))), .second, .val (.long (own_minJ (own_h ka) (own_h kb))), .second] [(.double 4602678819172646912), (.ref a)])) rfl (by rw [hml]; rfl) (argsL := [(.double 4602678819172646912)]) (rest := []) pd_DJ rfl rfl (by show 2 * 0 + _ ≤ _; exact Nat.le_of_eq rfl) (hb hby at_273) rfl (by decide) (by decide)
  subst u17 d17
  rw [List.append_nil] at X17
  refine own_go st17 ?_
  show own_Goes p e below (own_End s below _ _) (T17.setTop (mkF m 276 #[.val (.long p1), .second, .val (.long p2), .second, .val (.int p3), .val (.int (1 : Int32)), .val (.int (1 : Int32)), .val (.ref a), .val (.ref a2), .val (.long (own_h ka)), .second, .val (.long (own_h kb)), .second, .val (.double (own_mean ((0 : Int64) + 1) ((0 : Int64) + (own_maxJ (0 : Int64) p2)))), .second, .val (.long (own_maxJ (0 : Int64) p1)), .second, .val (.long (own_maxJ (0 : Int64) p2)), .second, .val (.long ((1 : Int64) + (1 : Int64))), .second, .val (.double (FP.ddiv (FP.l2d ((own_maxJ (0 : Int64) p1) + (own_maxJ (0 : Int64) p2))) (FP.l2d ((1 : Int64) + (1 : Int64))))), .second, .val (.long (own_maxJ (own_h ka) (own_h kb))), .second, .val (.long (own_minJ (own_h ka) (own_h kb))), .second] [(.long (own_h (min ka kb)))]))
  rw [← e17] at V10 W10 Y10
  refine own_go (fun _ own_k => XS.lload X17.here hx rfl (hb hby at_276) rfl own_k) ?_
  show own_Goes p e below (own_End s below _ _) (T17.setTop (mkF m 278 #[.val (.long p1), .second, .val (.long p2), .second, .val (.int p3), .val (.int (1 : Int32)), .val (.int (1 : Int32)), .val (.ref a), .val (.ref a2), .val (.long (own_h ka)), .second, .val (.long (own_h kb)), .second, .val (.double (own_mean ((0 : Int64) + 1) ((0 : Int64) + (own_maxJ (0 : Int64) p2)))), .second, .val (.long (own_maxJ (0 : Int64) p1)), .second, .val (.long (own_maxJ (0 : Int64) p2)), .second, .val (.long ((1 : Int64) + (1 : Int64))), .second, .val (.double (FP.ddiv (FP.l2d ((own_maxJ (0 : Int64) p1) + (own_maxJ (0 : Int64) p2))) (FP.l2d ((1 : Int64) + (1 : Int64))))), .second, .val (.long (own_maxJ (own_h ka) (own_h kb))), .second, .val (.long (own_minJ (own_h ka) (own_h kb))), .second] [(.long (own_minJ (own_h ka) (own_h kb))), (.long (own_h (min ka kb)))]))
  refine own_go (fun _ own_k => XS.lcmp X17.here hx rfl (hb hby at_278) rfl own_k) ?_
  show own_Goes p e below (own_End s below _ _) (T17.setTop (mkF m 279 #[.val (.long p1), .second, .val (.long p2), .second, .val (.int p3), .val (.int (1 : Int32)), .val (.int (1 : Int32)), .val (.ref a), .val (.ref a2), .val (.long (own_h ka)), .second, .val (.long (own_h kb)), .second, .val (.double (own_mean ((0 : Int64) + 1) ((0 : Int64) + (own_maxJ (0 : Int64) p2)))), .second, .val (.long (own_maxJ (0 : Int64) p1)), .second, .val (.long (own_maxJ (0 : Int64) p2)), .second, .val (.long ((1 : Int64) + (1 : Int64))), .second, .val (.double (FP.ddiv (FP.l2d ((own_maxJ (0 : Int64) p1) + (own_maxJ (0 : Int64) p2))) (FP.l2d ((1 : Int64) + (1 : Int64))))), .second, .val (.long (own_maxJ (own_h ka) (own_h kb))), .second, .val (.long (own_minJ (own_h ka) (own_h kb))), .second] [(.int (lcmpW (own_h (min ka kb)) (own_minJ (own_h ka) (own_h kb))))]))
  refine own_go (fun _ own_k => XS.ifNo X17.here hx rfl (hb hby at_279) rfl (by rw [if0]; exact (teq ((lw_eq _ _).mpr (own_h_min kal kbl))).2) own_k) ?_
  show own_Goes p e below (own_End s below _ _) (T17.setTop (mkF m 282 #[.val (.long p1), .second, .val (.long p2), .second, .val (.int p3), .val (.int (1 : Int32)), .val (.int (1 : Int32)), .val (.ref a), .val (.ref a2), .val (.long (own_h ka)), .second, .val (.long (own_h kb)), .second, .val (.double (own_mean ((0 : Int64) + 1) ((0 : Int64) + (own_maxJ (0 : Int64) p2)))), .second, .val (.long (own_maxJ (0 : Int64) p1)), .second, .val (.long (own_maxJ (0 : Int64) p2)), .second, .val (.long ((1 : Int64) + (1 : Int64))), .second, .val (.double (FP.ddiv (FP.l2d ((own_maxJ (0 : Int64) p1) + (own_maxJ (0 : Int64) p2))) (FP.l2d ((1 : Int64) + (1 : Int64))))), .second, .val (.long (own_maxJ (own_h ka) (own_h kb))), .second, .val (.long (own_minJ (own_h ka) (own_h kb))), .second] []))
  refine own_go (fun _ own_k => XS.aload X17.here hx rfl (hb hby at_282) rfl rfl own_k) ?_
  show own_Goes p e below (own_End s below _ _) (T17.setTop (mkF m 284 #[.val (.long p1), .second, .val (.long p2), .second, .val (.int p3), .val (.int (1 : Int32)), .val (.int (1 : Int32)), .val (.ref a), .val (.ref a2), .val (.long (own_h ka)), .second, .val (.long (own_h kb)), .second, .val (.double (own_mean ((0 : Int64) + 1) ((0 : Int64) + (own_maxJ (0 : Int64) p2)))), .second, .val (.long (own_maxJ (0 : Int64) p1)), .second, .val (.long (own_maxJ (0 : Int64) p2)), .second, .val (.long ((1 : Int64) + (1 : Int64))), .second, .val (.double (FP.ddiv (FP.l2d ((own_maxJ (0 : Int64) p1) + (own_maxJ (0 : Int64) p2))) (FP.l2d ((1 : Int64) + (1 : Int64))))), .second, .val (.long (own_maxJ (own_h ka) (own_h kb))), .second, .val (.long (own_minJ (own_h ka) (own_h kb))), .second] [(.ref a2)]))
  obtain ⟨v18, T18, L18, X18, ⟨u18, e18, d18⟩, st18⟩ := own_callV X17 hx hZ (y := own_meaN) (z := own_meaN) hown (hw _ (List.mem_of_getElem? (i := 43) rfl)) (hw _ (List.mem_of_getElem? (i := 44) rfl)) (hw _ (List.mem_of_getElem? (i := 46) rfl)) (hw _ (List.mem_of_getElem? (i := 45) rfl)) (hw _ (List.mem_of_getElem? (i := 2) rfl)) (hw _ (List.mem_of_getElem? (i := 47) rfl)) (notFace_of_selects (args := #[]) (mvT hZ (hw _ (List.mem_of_getElem? (i := 46) rfl)))) (by decide) (own_mea l Z a0 hw _ a2 b2 _ _ _ W10) rfl W10.1 (W := 0) (by decide) (by decide) (g := (mkF m 284 #[.val (.long p1), .second, .val (.long p2), .second, .val (.int p3), .val (.int (1 : Int32)), .val (.int (1 : Int32)), .val (.ref a), .val (.ref a2), .val (.long (own_h ka)), .second, .val (.long (own_h kb)), .second, .val (.double (own_mean ((0 : Int64) + 1) ((0 : Int64) + (own_maxJ (0 : Int64) p2)))), .second, .val (.long (own_maxJ (0 : Int64) p1)), .second, .val (.long (own_maxJ (0 : Int64) p2)), .second, .val (.long ((1 : Int64) + (1 : Int64))), .second, .val (.double (FP.ddiv (FP.l2d ((own_maxJ (0 : Int64) p1) + (own_maxJ (0 : Int64) p2))) (FP.l2d ((1 : Int64) + (1 : Int64))))), .second, .val (.long (own_maxJ (own_h ka) (own_h kb))), .second, .val (.long (own_minJ (own_h ka) (own_h kb))), .second] [(.ref a2)])) rfl (by rw [hml]; rfl) (argsL := []) (rest := []) pd_D rfl rfl (by show 2 * 0 + _ ≤ _; exact Nat.le_of_eq rfl) (hb hby at_284) rfl (by decide) (by decide)
  subst u18 d18
  rw [List.append_nil] at X18
  refine own_go st18 ?_
  show own_Goes p e below (own_End s below _ _) (T18.setTop (mkF m 287 #[.val (.long p1), .second, .val (.long p2), .second, .val (.int p3), .val (.int (1 : Int32)), .val (.int (1 : Int32)), .val (.ref a), .val (.ref a2), .val (.long (own_h ka)), .second, .val (.long (own_h kb)), .second, .val (.double (own_mean ((0 : Int64) + 1) ((0 : Int64) + (own_maxJ (0 : Int64) p2)))), .second, .val (.long (own_maxJ (0 : Int64) p1)), .second, .val (.long (own_maxJ (0 : Int64) p2)), .second, .val (.long ((1 : Int64) + (1 : Int64))), .second, .val (.double (FP.ddiv (FP.l2d ((own_maxJ (0 : Int64) p1) + (own_maxJ (0 : Int64) p2))) (FP.l2d ((1 : Int64) + (1 : Int64))))), .second, .val (.long (own_maxJ (own_h ka) (own_h kb))), .second, .val (.long (own_minJ (own_h ka) (own_h kb))), .second] [(.double (own_mean ((0 : Int64) + 1) ((0 : Int64) + (own_maxJ (0 : Int64) p2))))]))
  rw [← e18] at V10 W10 Y10
  refine own_go (fun _ own_k => XS.dload X18.here hx rfl (hb hby at_287) rfl own_k) ?_
  show own_Goes p e below (own_End s below _ _) (T18.setTop (mkF m 289 #[.val (.long p1), .second, .val (.long p2), .second, .val (.int p3), .val (.int (1 : Int32)), .val (.int (1 : Int32)), .val (.ref a), .val (.ref a2), .val (.long (own_h ka)), .second, .val (.long (own_h kb)), .second, .val (.double (own_mean ((0 : Int64) + 1) ((0 : Int64) + (own_maxJ (0 : Int64) p2)))), .second, .val (.long (own_maxJ (0 : Int64) p1)), .second, .val (.long (own_maxJ (0 : Int64) p2)), .second, .val (.long ((1 : Int64) + (1 : Int64))), .second, .val (.double (FP.ddiv (FP.l2d ((own_maxJ (0 : Int64) p1) + (own_maxJ (0 : Int64) p2))) (FP.l2d ((1 : Int64) + (1 : Int64))))), .second, .val (.long (own_maxJ (own_h ka) (own_h kb))), .second, .val (.long (own_minJ (own_h ka) (own_h kb))), .second] [(.double (own_mean ((0 : Int64) + 1) ((0 : Int64) + (own_maxJ (0 : Int64) p2)))), (.double (own_mean ((0 : Int64) + 1) ((0 : Int64) + (own_maxJ (0 : Int64) p2))))]))
  refine own_go (fun _ own_k => XS.dcmpS X18.here hx rfl (hb hby at_289) rfl (dcmpV_eq rfl (own_mean_nn _ _) .l) own_k) ?_
  show own_Goes p e below (own_End s below _ _) (T18.setTop (mkF m 290 #[.val (.long p1), .second, .val (.long p2), .second, .val (.int p3), .val (.int (1 : Int32)), .val (.int (1 : Int32)), .val (.ref a), .val (.ref a2), .val (.long (own_h ka)), .second, .val (.long (own_h kb)), .second, .val (.double (own_mean ((0 : Int64) + 1) ((0 : Int64) + (own_maxJ (0 : Int64) p2)))), .second, .val (.long (own_maxJ (0 : Int64) p1)), .second, .val (.long (own_maxJ (0 : Int64) p2)), .second, .val (.long ((1 : Int64) + (1 : Int64))), .second, .val (.double (FP.ddiv (FP.l2d ((own_maxJ (0 : Int64) p1) + (own_maxJ (0 : Int64) p2))) (FP.l2d ((1 : Int64) + (1 : Int64))))), .second, .val (.long (own_maxJ (own_h ka) (own_h kb))), .second, .val (.long (own_minJ (own_h ka) (own_h kb))), .second] [(.int (0 : Int32))]))
  refine own_go (fun _ own_k => XS.ifNo X18.here hx rfl (hb hby at_290) rfl (by decide) own_k) ?_
  show own_Goes p e below (own_End s below _ _) (T18.setTop (mkF m 293 #[.val (.long p1), .second, .val (.long p2), .second, .val (.int p3), .val (.int (1 : Int32)), .val (.int (1 : Int32)), .val (.ref a), .val (.ref a2), .val (.long (own_h ka)), .second, .val (.long (own_h kb)), .second, .val (.double (own_mean ((0 : Int64) + 1) ((0 : Int64) + (own_maxJ (0 : Int64) p2)))), .second, .val (.long (own_maxJ (0 : Int64) p1)), .second, .val (.long (own_maxJ (0 : Int64) p2)), .second, .val (.long ((1 : Int64) + (1 : Int64))), .second, .val (.double (FP.ddiv (FP.l2d ((own_maxJ (0 : Int64) p1) + (own_maxJ (0 : Int64) p2))) (FP.l2d ((1 : Int64) + (1 : Int64))))), .second, .val (.long (own_maxJ (own_h ka) (own_h kb))), .second, .val (.long (own_minJ (own_h ka) (own_h kb))), .second] []))
  refine own_go (fun _ own_k => XS.aload X18.here hx rfl (hb hby at_293) rfl rfl own_k) ?_
  show own_Goes p e below (own_End s below _ _) (T18.setTop (mkF m 295 #[.val (.long p1), .second, .val (.long p2), .second, .val (.int p3), .val (.int (1 : Int32)), .val (.int (1 : Int32)), .val (.ref a), .val (.ref a2), .val (.long (own_h ka)), .second, .val (.long (own_h kb)), .second, .val (.double (own_mean ((0 : Int64) + 1) ((0 : Int64) + (own_maxJ (0 : Int64) p2)))), .second, .val (.long (own_maxJ (0 : Int64) p1)), .second, .val (.long (own_maxJ (0 : Int64) p2)), .second, .val (.long ((1 : Int64) + (1 : Int64))), .second, .val (.double (FP.ddiv (FP.l2d ((own_maxJ (0 : Int64) p1) + (own_maxJ (0 : Int64) p2))) (FP.l2d ((1 : Int64) + (1 : Int64))))), .second, .val (.long (own_maxJ (own_h ka) (own_h kb))), .second, .val (.long (own_minJ (own_h ka) (own_h kb))), .second] [(.ref a2)]))
  refine own_go (fun _ own_k => XS.dconst1 X18.here hx rfl (hb hby at_295) rfl own_k) ?_
  show own_Goes p e below (own_End s below _ _) (T18.setTop (mkF m 296 #[.val (.long p1), .second, .val (.long p2), .second, .val (.int p3), .val (.int (1 : Int32)), .val (.int (1 : Int32)), .val (.ref a), .val (.ref a2), .val (.long (own_h ka)), .second, .val (.long (own_h kb)), .second, .val (.double (own_mean ((0 : Int64) + 1) ((0 : Int64) + (own_maxJ (0 : Int64) p2)))), .second, .val (.long (own_maxJ (0 : Int64) p1)), .second, .val (.long (own_maxJ (0 : Int64) p2)), .second, .val (.long ((1 : Int64) + (1 : Int64))), .second, .val (.double (FP.ddiv (FP.l2d ((own_maxJ (0 : Int64) p1) + (own_maxJ (0 : Int64) p2))) (FP.l2d ((1 : Int64) + (1 : Int64))))), .second, .val (.long (own_maxJ (own_h ka) (own_h kb))), .second, .val (.long (own_minJ (own_h ka) (own_h kb))), .second] [(.double FP.dconst1), (.ref a2)]))
  obtain ⟨v19, T19, L19, X19, ⟨u19, e19, d19⟩, st19⟩ := own_callV X18 hx hZ (y := own_pctN) (z := own_pctN) hown (hw _ (List.mem_of_getElem? (i := 12) rfl)) (hw _ (List.mem_of_getElem? (i := 13) rfl)) (hw _ (List.mem_of_getElem? (i := 15) rfl)) (hw _ (List.mem_of_getElem? (i := 14) rfl)) (hw _ (List.mem_of_getElem? (i := 2) rfl)) (hw _ (List.mem_of_getElem? (i := 16) rfl)) (notFace_of_selects (args := #[]) (mvT hZ (hw _ (List.mem_of_getElem? (i := 15) rfl)))) (by decide) (own_pct l Z a0 hw _ a2 b2 _ _ _ FP.dconst1 4607182418800017408 4607182418800017408 1 kb W10 (own_At_dl kbl) (by decide +kernel) own_lit_nn1 (SA.ext Y10.2) own_CE1 (by decide +kernel)) rfl W10.1 (W := 0) (by decide) (by decide) (g := (mkF m 296 #[.val (.long p1), .second, .val (.long p2), .second, .val (.int p3), .val (.int (1 : Int32)), .val (.int (1 : Int32)), .val (.ref a), .val (.ref a2), .val (.long (own_h ka)), .second, .val (.long (own_h kb)), .second, .val (.double (own_mean ((0 : Int64) + 1) ((0 : Int64) + (own_maxJ (0 : Int64) p2)))), .second, .val (.long (own_maxJ (0 : Int64) p1)), .second, .val (.long (own_maxJ (0 : Int64) p2)), .second, .val (.long ((1 : Int64) + (1 : Int64))), .second, .val (.double (FP.ddiv (FP.l2d ((own_maxJ (0 : Int64) p1) + (own_maxJ (0 : Int64) p2))) (FP.l2d ((1 : Int64) + (1 : Int64))))), .second, .val (.long (own_maxJ (own_h ka) (own_h kb))), .second, .val (.long (own_minJ (own_h ka) (own_h kb))), .second] [(.double FP.dconst1), (.ref a2)])) rfl (by rw [hml]; rfl) (argsL := [(.double FP.dconst1)]) (rest := []) pd_DJ rfl rfl (by show 2 * 0 + _ ≤ _; exact Nat.le_of_eq rfl) (hb hby at_296) rfl (by decide) (by decide)
  subst u19 d19
  rw [List.append_nil] at X19
  refine own_go st19 ?_
  show own_Goes p e below (own_End s below _ _) (T19.setTop (mkF m 299 #[.val (.long p1), .second, .val (.long p2), .second, .val (.int p3), .val (.int (1 : Int32)), .val (.int (1 : Int32)), .val (.ref a), .val (.ref a2), .val (.long (own_h ka)), .second, .val (.long (own_h kb)), .second, .val (.double (own_mean ((0 : Int64) + 1) ((0 : Int64) + (own_maxJ (0 : Int64) p2)))), .second, .val (.long (own_maxJ (0 : Int64) p1)), .second, .val (.long (own_maxJ (0 : Int64) p2)), .second, .val (.long ((1 : Int64) + (1 : Int64))), .second, .val (.double (FP.ddiv (FP.l2d ((own_maxJ (0 : Int64) p1) + (own_maxJ (0 : Int64) p2))) (FP.l2d ((1 : Int64) + (1 : Int64))))), .second, .val (.long (own_maxJ (own_h ka) (own_h kb))), .second, .val (.long (own_minJ (own_h ka) (own_h kb))), .second] [(.long (own_h kb))]))
  refine own_go (fun _ own_k => XS.lload X19.here hx rfl (hb hby at_299) rfl own_k) ?_
  show own_Goes p e below (own_End s below _ _) (T19.setTop (mkF m 301 #[.val (.long p1), .second, .val (.long p2), .second, .val (.int p3), .val (.int (1 : Int32)), .val (.int (1 : Int32)), .val (.ref a), .val (.ref a2), .val (.long (own_h ka)), .second, .val (.long (own_h kb)), .second, .val (.double (own_mean ((0 : Int64) + 1) ((0 : Int64) + (own_maxJ (0 : Int64) p2)))), .second, .val (.long (own_maxJ (0 : Int64) p1)), .second, .val (.long (own_maxJ (0 : Int64) p2)), .second, .val (.long ((1 : Int64) + (1 : Int64))), .second, .val (.double (FP.ddiv (FP.l2d ((own_maxJ (0 : Int64) p1) + (own_maxJ (0 : Int64) p2))) (FP.l2d ((1 : Int64) + (1 : Int64))))), .second, .val (.long (own_maxJ (own_h ka) (own_h kb))), .second, .val (.long (own_minJ (own_h ka) (own_h kb))), .second] [(.long (own_h kb)), (.long (own_h kb))]))
  refine own_go (fun _ own_k => XS.lcmp X19.here hx rfl (hb hby at_301) rfl own_k) ?_
  show own_Goes p e below (own_End s below _ _) (T19.setTop (mkF m 302 #[.val (.long p1), .second, .val (.long p2), .second, .val (.int p3), .val (.int (1 : Int32)), .val (.int (1 : Int32)), .val (.ref a), .val (.ref a2), .val (.long (own_h ka)), .second, .val (.long (own_h kb)), .second, .val (.double (own_mean ((0 : Int64) + 1) ((0 : Int64) + (own_maxJ (0 : Int64) p2)))), .second, .val (.long (own_maxJ (0 : Int64) p1)), .second, .val (.long (own_maxJ (0 : Int64) p2)), .second, .val (.long ((1 : Int64) + (1 : Int64))), .second, .val (.double (FP.ddiv (FP.l2d ((own_maxJ (0 : Int64) p1) + (own_maxJ (0 : Int64) p2))) (FP.l2d ((1 : Int64) + (1 : Int64))))), .second, .val (.long (own_maxJ (own_h ka) (own_h kb))), .second, .val (.long (own_minJ (own_h ka) (own_h kb))), .second] [(.int (lcmpW (own_h kb) (own_h kb)))]))
  refine own_go (fun _ own_k => XS.ifNo X19.here hx rfl (hb hby at_302) rfl (by rw [if0]; exact (teq ((lw_eq _ _).mpr rfl)).2) own_k) ?_
  show own_Goes p e below (own_End s below _ _) (T19.setTop (mkF m 305 #[.val (.long p1), .second, .val (.long p2), .second, .val (.int p3), .val (.int (1 : Int32)), .val (.int (1 : Int32)), .val (.ref a), .val (.ref a2), .val (.long (own_h ka)), .second, .val (.long (own_h kb)), .second, .val (.double (own_mean ((0 : Int64) + 1) ((0 : Int64) + (own_maxJ (0 : Int64) p2)))), .second, .val (.long (own_maxJ (0 : Int64) p1)), .second, .val (.long (own_maxJ (0 : Int64) p2)), .second, .val (.long ((1 : Int64) + (1 : Int64))), .second, .val (.double (FP.ddiv (FP.l2d ((own_maxJ (0 : Int64) p1) + (own_maxJ (0 : Int64) p2))) (FP.l2d ((1 : Int64) + (1 : Int64))))), .second, .val (.long (own_maxJ (own_h ka) (own_h kb))), .second, .val (.long (own_minJ (own_h ka) (own_h kb))), .second] []))
  refine own_go (fun _ own_k => XS.iconst X19.here hx rfl (hb hby at_305) own_k) ?_
  show own_Goes p e below (own_End s below _ _) (T19.setTop (mkF m 306 #[.val (.long p1), .second, .val (.long p2), .second, .val (.int p3), .val (.int (1 : Int32)), .val (.int (1 : Int32)), .val (.ref a), .val (.ref a2), .val (.long (own_h ka)), .second, .val (.long (own_h kb)), .second, .val (.double (own_mean ((0 : Int64) + 1) ((0 : Int64) + (own_maxJ (0 : Int64) p2)))), .second, .val (.long (own_maxJ (0 : Int64) p1)), .second, .val (.long (own_maxJ (0 : Int64) p2)), .second, .val (.long ((1 : Int64) + (1 : Int64))), .second, .val (.double (FP.ddiv (FP.l2d ((own_maxJ (0 : Int64) p1) + (own_maxJ (0 : Int64) p2))) (FP.l2d ((1 : Int64) + (1 : Int64))))), .second, .val (.long (own_maxJ (own_h ka) (own_h kb))), .second, .val (.long (own_minJ (own_h ka) (own_h kb))), .second] [(.int (1 : Int32))]))
  refine own_go (fun _ own_k => XS.goto X19.here hx rfl (pc0 := 306) (pc' := 310) rfl (hb hby at_306) (by decide) (by decide) own_k) ?_
  show own_Goes p e below (own_End s below _ _) (T19.setTop (mkF m 310 #[.val (.long p1), .second, .val (.long p2), .second, .val (.int p3), .val (.int (1 : Int32)), .val (.int (1 : Int32)), .val (.ref a), .val (.ref a2), .val (.long (own_h ka)), .second, .val (.long (own_h kb)), .second, .val (.double (own_mean ((0 : Int64) + 1) ((0 : Int64) + (own_maxJ (0 : Int64) p2)))), .second, .val (.long (own_maxJ (0 : Int64) p1)), .second, .val (.long (own_maxJ (0 : Int64) p2)), .second, .val (.long ((1 : Int64) + (1 : Int64))), .second, .val (.double (FP.ddiv (FP.l2d ((own_maxJ (0 : Int64) p1) + (own_maxJ (0 : Int64) p2))) (FP.l2d ((1 : Int64) + (1 : Int64))))), .second, .val (.long (own_maxJ (own_h ka) (own_h kb))), .second, .val (.long (own_minJ (own_h ka) (own_h kb))), .second] [(.int (1 : Int32))]))
  exact own_retZ X19 hx Bd.notSynchronized Bd.returns rfl (hb hby at_310) ⟨rfl, N10⟩ (by decide) (by decide)
set_option maxRecDepth 65536 in
set_option maxHeartbeats 40000000 in
theorem own_law (l : Launch) (Z : State) (a0 : Array Value) (hw : ∀ d ∈ tables_1, d.before a0 Z = true) (ws : List Jvm.Cond) (p1 p2 : Int64) (p3 : Int32) (h0 : Heap) (n0 : Nat) (Z0 : n0 ≤ h0.size) (SA : Sta Z Z.heap "java/lang/StrictMath" "$assertionsDisabled" "Z" (.int 1)) (O0 : Old Z n0 h0) :
    own_Met l Z x code maxLocals ret room_1 ws #[(.long p1), (.long p2), (.int p3)] h0 (own_Q n0) := by
  refine own_met (plainFor_of_name pn_0) ?_
  intro p e s m below meth c s₁ Bd hml hZ e0
  have hx := Bd.exec
  have hby := Bd.bytes
  have hown : s.vm.findClass "com/example/holdfast/holdfast/cli/LatencyHistogramAddPinLaw" = some m.cls := findClass_of_methodNamed Bd.named
  have hnm := (name_of_methodNamed Bd.named Bd.method).1
  have X0 : Stand p l e room_1 s m #[(.long p1), (.long p2), (.int p3)] below meth c s₁ [] 0 0 := Stand.of_body Bd
  rw [ef_0]
  show own_Goes p e below (own_End s below _ _) (s₁.setTop (mkF m 0 #[.val (.long p1), .second, .val (.long p2), .second, .val (.int p3), .unset, .unset, .unset, .unset, .unset, .unset, .unset, .unset, .unset, .unset, .unset, .unset, .unset, .unset, .unset, .unset, .unset, .unset, .unset, .unset, .unset, .unset] []))
  refine own_go (fun _ own_k => XS.iload X0.here hx rfl (hb hby at_0) rfl own_k) ?_
  show own_Goes p e below (own_End s below _ _) (s₁.setTop (mkF m 2 #[.val (.long p1), .second, .val (.long p2), .second, .val (.int p3), .unset, .unset, .unset, .unset, .unset, .unset, .unset, .unset, .unset, .unset, .unset, .unset, .unset, .unset, .unset, .unset, .unset, .unset, .unset, .unset, .unset, .unset] [(.int p3)]))
  refine own_go (fun _ own_k => XS.iconst X0.here hx rfl (hb hby at_2) own_k) ?_
  show own_Goes p e below (own_End s below _ _) (s₁.setTop (mkF m 3 #[.val (.long p1), .second, .val (.long p2), .second, .val (.int p3), .unset, .unset, .unset, .unset, .unset, .unset, .unset, .unset, .unset, .unset, .unset, .unset, .unset, .unset, .unset, .unset, .unset, .unset, .unset, .unset, .unset, .unset] [(.int (1 : Int32)), (.int p3)]))
  refine own_go (fun _ own_k => XS.iand X0.here hx rfl (hb hby at_3) rfl own_k) ?_
  show own_Goes p e below (own_End s below _ _) (s₁.setTop (mkF m 4 #[.val (.long p1), .second, .val (.long p2), .second, .val (.int p3), .unset, .unset, .unset, .unset, .unset, .unset, .unset, .unset, .unset, .unset, .unset, .unset, .unset, .unset, .unset, .unset, .unset, .unset, .unset, .unset, .unset, .unset] [(.int (p3 &&& (1 : Int32)))]))
  by_cases qa : ifCond.holds .eq (p3 &&& (1 : Int32)) = true
  · refine own_go (fun _ own_k => XS.ifYes X0.here hx rfl (pc0 := 4) (pc' := 11) rfl (hb hby at_4) rfl qa (by decide) (by decide) own_k) ?_
    show own_Goes p e below (own_End s below _ _) (s₁.setTop (mkF m 11 #[.val (.long p1), .second, .val (.long p2), .second, .val (.int p3), .unset, .unset, .unset, .unset, .unset, .unset, .unset, .unset, .unset, .unset, .unset, .unset, .unset, .unset, .unset, .unset, .unset, .unset, .unset, .unset, .unset, .unset] []))
    refine own_go (fun _ own_k => XS.iconst X0.here hx rfl (hb hby at_11) own_k) ?_
    show own_Goes p e below (own_End s below _ _) (s₁.setTop (mkF m 12 #[.val (.long p1), .second, .val (.long p2), .second, .val (.int p3), .unset, .unset, .unset, .unset, .unset, .unset, .unset, .unset, .unset, .unset, .unset, .unset, .unset, .unset, .unset, .unset, .unset, .unset, .unset, .unset, .unset, .unset] [(.int (0 : Int32))]))
    refine own_go (fun _ own_k => XS.istore X0.here hx rfl (hb hby at_12) rfl (l' := #[.val (.long p1), .second, .val (.long p2), .second, .val (.int p3), .val (.int (0 : Int32)), .unset, .unset, .unset, .unset, .unset, .unset, .unset, .unset, .unset, .unset, .unset, .unset, .unset, .unset, .unset, .unset, .unset, .unset, .unset, .unset, .unset]) rfl own_k) ?_
    show own_Goes p e below (own_End s below _ _) (s₁.setTop (mkF m 14 #[.val (.long p1), .second, .val (.long p2), .second, .val (.int p3), .val (.int (0 : Int32)), .unset, .unset, .unset, .unset, .unset, .unset, .unset, .unset, .unset, .unset, .unset, .unset, .unset, .unset, .unset, .unset, .unset, .unset, .unset, .unset, .unset] []))
    refine own_go (fun _ own_k => XS.iload X0.here hx rfl (hb hby at_14) rfl own_k) ?_
    show own_Goes p e below (own_End s below _ _) (s₁.setTop (mkF m 16 #[.val (.long p1), .second, .val (.long p2), .second, .val (.int p3), .val (.int (0 : Int32)), .unset, .unset, .unset, .unset, .unset, .unset, .unset, .unset, .unset, .unset, .unset, .unset, .unset, .unset, .unset, .unset, .unset, .unset, .unset, .unset, .unset] [(.int p3)]))
    refine own_go (fun _ own_k => XS.iconst X0.here hx rfl (hb hby at_16) own_k) ?_
    show own_Goes p e below (own_End s below _ _) (s₁.setTop (mkF m 17 #[.val (.long p1), .second, .val (.long p2), .second, .val (.int p3), .val (.int (0 : Int32)), .unset, .unset, .unset, .unset, .unset, .unset, .unset, .unset, .unset, .unset, .unset, .unset, .unset, .unset, .unset, .unset, .unset, .unset, .unset, .unset, .unset] [(.int (2 : Int32)), (.int p3)]))
    refine own_go (fun _ own_k => XS.iand X0.here hx rfl (hb hby at_17) rfl own_k) ?_
    show own_Goes p e below (own_End s below _ _) (s₁.setTop (mkF m 18 #[.val (.long p1), .second, .val (.long p2), .second, .val (.int p3), .val (.int (0 : Int32)), .unset, .unset, .unset, .unset, .unset, .unset, .unset, .unset, .unset, .unset, .unset, .unset, .unset, .unset, .unset, .unset, .unset, .unset, .unset, .unset, .unset] [(.int (p3 &&& (2 : Int32)))]))
    by_cases qb : ifCond.holds .eq (p3 &&& (2 : Int32)) = true
    · refine own_go (fun _ own_k => XS.ifYes X0.here hx rfl (pc0 := 18) (pc' := 25) rfl (hb hby at_18) rfl qb (by decide) (by decide) own_k) ?_
      show own_Goes p e below (own_End s below _ _) (s₁.setTop (mkF m 25 #[.val (.long p1), .second, .val (.long p2), .second, .val (.int p3), .val (.int (0 : Int32)), .unset, .unset, .unset, .unset, .unset, .unset, .unset, .unset, .unset, .unset, .unset, .unset, .unset, .unset, .unset, .unset, .unset, .unset, .unset, .unset, .unset] []))
      refine own_go (fun _ own_k => XS.iconst X0.here hx rfl (hb hby at_25) own_k) ?_
      show own_Goes p e below (own_End s below _ _) (s₁.setTop (mkF m 26 #[.val (.long p1), .second, .val (.long p2), .second, .val (.int p3), .val (.int (0 : Int32)), .unset, .unset, .unset, .unset, .unset, .unset, .unset, .unset, .unset, .unset, .unset, .unset, .unset, .unset, .unset, .unset, .unset, .unset, .unset, .unset, .unset] [(.int (0 : Int32))]))
      refine own_go (fun _ own_k => XS.istore X0.here hx rfl (hb hby at_26) rfl (l' := #[.val (.long p1), .second, .val (.long p2), .second, .val (.int p3), .val (.int (0 : Int32)), .val (.int (0 : Int32)), .unset, .unset, .unset, .unset, .unset, .unset, .unset, .unset, .unset, .unset, .unset, .unset, .unset, .unset, .unset, .unset, .unset, .unset, .unset, .unset]) rfl own_k) ?_
      show own_Goes p e below (own_End s below _ _) (s₁.setTop (mkF m 28 #[.val (.long p1), .second, .val (.long p2), .second, .val (.int p3), .val (.int (0 : Int32)), .val (.int (0 : Int32)), .unset, .unset, .unset, .unset, .unset, .unset, .unset, .unset, .unset, .unset, .unset, .unset, .unset, .unset, .unset, .unset, .unset, .unset, .unset, .unset] []))
      exact own_case00 l Z a0 hw ws p1 p2 p3 h0 n0 Z0 SA O0 p e s m below meth c s₁ Bd hml hZ e0
    · refine own_go (fun _ own_k => XS.ifNo X0.here hx rfl (hb hby at_18) rfl (by simpa using qb) own_k) ?_
      show own_Goes p e below (own_End s below _ _) (s₁.setTop (mkF m 21 #[.val (.long p1), .second, .val (.long p2), .second, .val (.int p3), .val (.int (0 : Int32)), .unset, .unset, .unset, .unset, .unset, .unset, .unset, .unset, .unset, .unset, .unset, .unset, .unset, .unset, .unset, .unset, .unset, .unset, .unset, .unset, .unset] []))
      refine own_go (fun _ own_k => XS.iconst X0.here hx rfl (hb hby at_21) own_k) ?_
      show own_Goes p e below (own_End s below _ _) (s₁.setTop (mkF m 22 #[.val (.long p1), .second, .val (.long p2), .second, .val (.int p3), .val (.int (0 : Int32)), .unset, .unset, .unset, .unset, .unset, .unset, .unset, .unset, .unset, .unset, .unset, .unset, .unset, .unset, .unset, .unset, .unset, .unset, .unset, .unset, .unset] [(.int (1 : Int32))]))
      refine own_go (fun _ own_k => XS.goto X0.here hx rfl (pc0 := 22) (pc' := 26) rfl (hb hby at_22) (by decide) (by decide) own_k) ?_
      show own_Goes p e below (own_End s below _ _) (s₁.setTop (mkF m 26 #[.val (.long p1), .second, .val (.long p2), .second, .val (.int p3), .val (.int (0 : Int32)), .unset, .unset, .unset, .unset, .unset, .unset, .unset, .unset, .unset, .unset, .unset, .unset, .unset, .unset, .unset, .unset, .unset, .unset, .unset, .unset, .unset] [(.int (1 : Int32))]))
      refine own_go (fun _ own_k => XS.istore X0.here hx rfl (hb hby at_26) rfl (l' := #[.val (.long p1), .second, .val (.long p2), .second, .val (.int p3), .val (.int (0 : Int32)), .val (.int (1 : Int32)), .unset, .unset, .unset, .unset, .unset, .unset, .unset, .unset, .unset, .unset, .unset, .unset, .unset, .unset, .unset, .unset, .unset, .unset, .unset, .unset]) rfl own_k) ?_
      show own_Goes p e below (own_End s below _ _) (s₁.setTop (mkF m 28 #[.val (.long p1), .second, .val (.long p2), .second, .val (.int p3), .val (.int (0 : Int32)), .val (.int (1 : Int32)), .unset, .unset, .unset, .unset, .unset, .unset, .unset, .unset, .unset, .unset, .unset, .unset, .unset, .unset, .unset, .unset, .unset, .unset, .unset, .unset] []))
      exact own_case01 l Z a0 hw ws p1 p2 p3 h0 n0 Z0 SA O0 p e s m below meth c s₁ Bd hml hZ e0
  · refine own_go (fun _ own_k => XS.ifNo X0.here hx rfl (hb hby at_4) rfl (by simpa using qa) own_k) ?_
    show own_Goes p e below (own_End s below _ _) (s₁.setTop (mkF m 7 #[.val (.long p1), .second, .val (.long p2), .second, .val (.int p3), .unset, .unset, .unset, .unset, .unset, .unset, .unset, .unset, .unset, .unset, .unset, .unset, .unset, .unset, .unset, .unset, .unset, .unset, .unset, .unset, .unset, .unset] []))
    refine own_go (fun _ own_k => XS.iconst X0.here hx rfl (hb hby at_7) own_k) ?_
    show own_Goes p e below (own_End s below _ _) (s₁.setTop (mkF m 8 #[.val (.long p1), .second, .val (.long p2), .second, .val (.int p3), .unset, .unset, .unset, .unset, .unset, .unset, .unset, .unset, .unset, .unset, .unset, .unset, .unset, .unset, .unset, .unset, .unset, .unset, .unset, .unset, .unset, .unset] [(.int (1 : Int32))]))
    refine own_go (fun _ own_k => XS.goto X0.here hx rfl (pc0 := 8) (pc' := 12) rfl (hb hby at_8) (by decide) (by decide) own_k) ?_
    show own_Goes p e below (own_End s below _ _) (s₁.setTop (mkF m 12 #[.val (.long p1), .second, .val (.long p2), .second, .val (.int p3), .unset, .unset, .unset, .unset, .unset, .unset, .unset, .unset, .unset, .unset, .unset, .unset, .unset, .unset, .unset, .unset, .unset, .unset, .unset, .unset, .unset, .unset] [(.int (1 : Int32))]))
    refine own_go (fun _ own_k => XS.istore X0.here hx rfl (hb hby at_12) rfl (l' := #[.val (.long p1), .second, .val (.long p2), .second, .val (.int p3), .val (.int (1 : Int32)), .unset, .unset, .unset, .unset, .unset, .unset, .unset, .unset, .unset, .unset, .unset, .unset, .unset, .unset, .unset, .unset, .unset, .unset, .unset, .unset, .unset]) rfl own_k) ?_
    show own_Goes p e below (own_End s below _ _) (s₁.setTop (mkF m 14 #[.val (.long p1), .second, .val (.long p2), .second, .val (.int p3), .val (.int (1 : Int32)), .unset, .unset, .unset, .unset, .unset, .unset, .unset, .unset, .unset, .unset, .unset, .unset, .unset, .unset, .unset, .unset, .unset, .unset, .unset, .unset, .unset] []))
    refine own_go (fun _ own_k => XS.iload X0.here hx rfl (hb hby at_14) rfl own_k) ?_
    show own_Goes p e below (own_End s below _ _) (s₁.setTop (mkF m 16 #[.val (.long p1), .second, .val (.long p2), .second, .val (.int p3), .val (.int (1 : Int32)), .unset, .unset, .unset, .unset, .unset, .unset, .unset, .unset, .unset, .unset, .unset, .unset, .unset, .unset, .unset, .unset, .unset, .unset, .unset, .unset, .unset] [(.int p3)]))
    refine own_go (fun _ own_k => XS.iconst X0.here hx rfl (hb hby at_16) own_k) ?_
    show own_Goes p e below (own_End s below _ _) (s₁.setTop (mkF m 17 #[.val (.long p1), .second, .val (.long p2), .second, .val (.int p3), .val (.int (1 : Int32)), .unset, .unset, .unset, .unset, .unset, .unset, .unset, .unset, .unset, .unset, .unset, .unset, .unset, .unset, .unset, .unset, .unset, .unset, .unset, .unset, .unset] [(.int (2 : Int32)), (.int p3)]))
    refine own_go (fun _ own_k => XS.iand X0.here hx rfl (hb hby at_17) rfl own_k) ?_
    show own_Goes p e below (own_End s below _ _) (s₁.setTop (mkF m 18 #[.val (.long p1), .second, .val (.long p2), .second, .val (.int p3), .val (.int (1 : Int32)), .unset, .unset, .unset, .unset, .unset, .unset, .unset, .unset, .unset, .unset, .unset, .unset, .unset, .unset, .unset, .unset, .unset, .unset, .unset, .unset, .unset] [(.int (p3 &&& (2 : Int32)))]))
    by_cases qb : ifCond.holds .eq (p3 &&& (2 : Int32)) = true
    · refine own_go (fun _ own_k => XS.ifYes X0.here hx rfl (pc0 := 18) (pc' := 25) rfl (hb hby at_18) rfl qb (by decide) (by decide) own_k) ?_
      show own_Goes p e below (own_End s below _ _) (s₁.setTop (mkF m 25 #[.val (.long p1), .second, .val (.long p2), .second, .val (.int p3), .val (.int (1 : Int32)), .unset, .unset, .unset, .unset, .unset, .unset, .unset, .unset, .unset, .unset, .unset, .unset, .unset, .unset, .unset, .unset, .unset, .unset, .unset, .unset, .unset] []))
      refine own_go (fun _ own_k => XS.iconst X0.here hx rfl (hb hby at_25) own_k) ?_
      show own_Goes p e below (own_End s below _ _) (s₁.setTop (mkF m 26 #[.val (.long p1), .second, .val (.long p2), .second, .val (.int p3), .val (.int (1 : Int32)), .unset, .unset, .unset, .unset, .unset, .unset, .unset, .unset, .unset, .unset, .unset, .unset, .unset, .unset, .unset, .unset, .unset, .unset, .unset, .unset, .unset] [(.int (0 : Int32))]))
      refine own_go (fun _ own_k => XS.istore X0.here hx rfl (hb hby at_26) rfl (l' := #[.val (.long p1), .second, .val (.long p2), .second, .val (.int p3), .val (.int (1 : Int32)), .val (.int (0 : Int32)), .unset, .unset, .unset, .unset, .unset, .unset, .unset, .unset, .unset, .unset, .unset, .unset, .unset, .unset, .unset, .unset, .unset, .unset, .unset, .unset]) rfl own_k) ?_
      show own_Goes p e below (own_End s below _ _) (s₁.setTop (mkF m 28 #[.val (.long p1), .second, .val (.long p2), .second, .val (.int p3), .val (.int (1 : Int32)), .val (.int (0 : Int32)), .unset, .unset, .unset, .unset, .unset, .unset, .unset, .unset, .unset, .unset, .unset, .unset, .unset, .unset, .unset, .unset, .unset, .unset, .unset, .unset] []))
      exact own_case10 l Z a0 hw ws p1 p2 p3 h0 n0 Z0 SA O0 p e s m below meth c s₁ Bd hml hZ e0
    · refine own_go (fun _ own_k => XS.ifNo X0.here hx rfl (hb hby at_18) rfl (by simpa using qb) own_k) ?_
      show own_Goes p e below (own_End s below _ _) (s₁.setTop (mkF m 21 #[.val (.long p1), .second, .val (.long p2), .second, .val (.int p3), .val (.int (1 : Int32)), .unset, .unset, .unset, .unset, .unset, .unset, .unset, .unset, .unset, .unset, .unset, .unset, .unset, .unset, .unset, .unset, .unset, .unset, .unset, .unset, .unset] []))
      refine own_go (fun _ own_k => XS.iconst X0.here hx rfl (hb hby at_21) own_k) ?_
      show own_Goes p e below (own_End s below _ _) (s₁.setTop (mkF m 22 #[.val (.long p1), .second, .val (.long p2), .second, .val (.int p3), .val (.int (1 : Int32)), .unset, .unset, .unset, .unset, .unset, .unset, .unset, .unset, .unset, .unset, .unset, .unset, .unset, .unset, .unset, .unset, .unset, .unset, .unset, .unset, .unset] [(.int (1 : Int32))]))
      refine own_go (fun _ own_k => XS.goto X0.here hx rfl (pc0 := 22) (pc' := 26) rfl (hb hby at_22) (by decide) (by decide) own_k) ?_
      show own_Goes p e below (own_End s below _ _) (s₁.setTop (mkF m 26 #[.val (.long p1), .second, .val (.long p2), .second, .val (.int p3), .val (.int (1 : Int32)), .unset, .unset, .unset, .unset, .unset, .unset, .unset, .unset, .unset, .unset, .unset, .unset, .unset, .unset, .unset, .unset, .unset, .unset, .unset, .unset, .unset] [(.int (1 : Int32))]))
      refine own_go (fun _ own_k => XS.istore X0.here hx rfl (hb hby at_26) rfl (l' := #[.val (.long p1), .second, .val (.long p2), .second, .val (.int p3), .val (.int (1 : Int32)), .val (.int (1 : Int32)), .unset, .unset, .unset, .unset, .unset, .unset, .unset, .unset, .unset, .unset, .unset, .unset, .unset, .unset, .unset, .unset, .unset, .unset, .unset, .unset]) rfl own_k) ?_
      show own_Goes p e below (own_End s below _ _) (s₁.setTop (mkF m 28 #[.val (.long p1), .second, .val (.long p2), .second, .val (.int p3), .val (.int (1 : Int32)), .val (.int (1 : Int32)), .unset, .unset, .unset, .unset, .unset, .unset, .unset, .unset, .unset, .unset, .unset, .unset, .unset, .unset, .unset, .unset, .unset, .unset, .unset, .unset] []))
      exact own_case11 l Z a0 hw ws p1 p2 p3 h0 n0 Z0 SA O0 p e s m below meth c s₁ Bd hml hZ e0
theorem own_sta1 {args : Array Value} {s : State} {t : Term} {k : Int32} (q : (Jvm.Cond.eq t (Jvm.Term.int k)).value args s none s [] = some true) : t.eval args s none [] s = some (.int k) := by
  obtain ⟨u, v, h1, h2, k1, k2⟩ := cmp_v (Or.inl q)
  obtain rfl : v = .int k := Option.some.inj (h2.symm.trans (Term.int_eval k))
  obtain ⟨z, rfl⟩ : ∃ z, u = .int z := k2
  obtain rfl : z = k := gotT (Cond.eq_ints h1 h2) q
  exact h1
set_option maxRecDepth 65536 in
set_option maxHeartbeats 40000000 in
theorem comes_1 {Post : Tables → Env → Array Value → State → Outcome → State → Prop} (hpost : ∀ tb e args s v u, (limb_1_1.after args s (.returned v) u = true ∧ limb_1_2.after args s (.returned v) u = true ∧ True) → FrameEnd s (.returned v) u (Jvm.fieldLocs frame_1_writes args s ++ Jvm.arrayLocs frame_1_arrays args s ++ Jvm.staticLocs frame_1_statics s) room_1.cells room_1.slots → Post tb e args s (.returned v) u) :
    ArmFor flags0 classFile x code maxLocals ret World_1 tables_1 room_1 Calls_1 rest_1 Pre_1 Post := by
  intro l hfl _ _ p e ha hc hk s m args below hf hA hF happ hP
  obtain ⟨hcalls, hrest, hpre⟩ := hP
  obtain ⟨-, -, -, hnamed, -, -, -, hat⟩ := (Spec.applies_iff hf).mp happ
  obtain ⟨hg, hn⟩ := and_e (Cond.before_iff.mp (show (Jvm.Cond.and given_1 narrow_1).before args s = true from hpre))
  obtain ⟨g0, q0⟩ := and_e hg
  obtain ⟨g1, q1⟩ := and_e q0
  obtain ⟨g2, q2⟩ := and_e q1
  obtain ⟨w0, w1, w2, rfl⟩ : ∃ w0 w1 w2 : Value, args = #[w0, w1, w2] := by
    have hs : args.size = 3 := by simpa [Cond.value, given_1] using g0
    obtain ⟨L⟩ := args
    match L, hs with
    | [w0, w1, w2], _ => exact ⟨w0, w1, w2, rfl⟩
  have hw := fun d (hd : d ∈ tables_1) => atoms_spec (ws := Jvm.Cond.code x code maxLocals ret :: tables_1) hat d (List.mem_cons_of_mem _ hd)
  obtain ⟨i0, z0⟩ := isL_v g1
  obtain rfl : w0 = (.long i0) := Option.some.inj z0
  obtain ⟨i1, z1⟩ := isL_v g2
  obtain rfl : w1 = (.long i1) := Option.some.inj z1
  obtain ⟨i2, z2⟩ := is_v q2
  obtain rfl : w2 = (.int i2) := Option.some.inj z2
  obtain ⟨hsets, hown0⟩ := atoms_of _ (rest_1_c_eq ▸ (show rest_1_c.before _ s = true from hrest))
  have e9 : (Jvm.Term.static "java/lang/StrictMath" "$assertionsDisabled" "Z").eval _ s none [] s = some (.int 1) := own_sta1 (Cond.before_iff.mp (hsets _ (List.mem_of_getElem? (i := 2) rfl)))
  have SA : Sta s s.heap "java/lang/StrictMath" "$assertionsDisabled" "Z" (.int 1) := Sta.start e9 (Or.inl (hsets _ (List.mem_of_getElem? (i := 1) rfl)))
  obtain ⟨n, o, h1, h2, h3, _, L, rfl, ⟨rfl, N⟩, hq⟩ := own_law l s _ hw tables_1 i0 i1 i2 s.heap s.heap.size (Nat.le_refl _) SA (Old.start s) p e ha hc hk s m _ below hf ((Spec.applies_iff_loose hf).mp happ).1 ⟨rfl, State.Warmed39.refl s, rfl⟩ trivial
  refine ⟨n, _, h1, h2, h3, hpost _ _ _ _ _ _ ⟨Cond.after_iff.mpr rfl, Cond.after_iff.mpr (eq_i res_at (Term.int_eval (1)) rfl), trivial⟩ ⟨hq.1, hq.2.1, hq.2.2.sift fun y hy => Or.inr (N y hy)⟩⟩
theorem main_1_1 : Claimed_1_1 := comes_1 fun _ _ _ _ _ _ h hF => ⟨h.1, hF⟩
theorem main_1_2 : Claimed_1_2 := comes_1 fun _ _ _ _ _ _ h hF => ⟨h.2.1, hF⟩
end Jvm.Pilot.@@N@@
namespace Jvm.Pilot.@@N@@
open Jvm Jvm.ClassFile Sem Op Lib Jvm.Free Jvm.Stand Jvm.Pilot.@@N@@.Jvm.D
/-! MADE BY PROGRAM (witnessworld.py) out of the Statement's table words and the real class files: 20 classes; the members and pool entries that the words name. The judged class is class 1, her method 1. -/
namespace start1
open Jvm.ClassFile
def u (s : String) : CpInfo := .utf8 (stringToUtf16 s)
/-- a pool by its gaps: so many unusable entries, then the entry; so many at the end -/
def gap : Nat → List CpInfo → List CpInfo
  | 0, r => r
  | n + 1, r => .unusable :: gap n r
def poolList (es : List (Nat × CpInfo)) (last : Nat) : List CpInfo := es.foldr (fun e r => gap e.1 (e.2 :: r)) (gap last [])
def pool (es : List (Nat × CpInfo)) (last : Nat) : Array CpInfo := ⟨poolList es last⟩
def fileOf (pool : Array CpInfo) (this : Nat) (attrs : Array Attribute := #[]) (ms : Array MethodInfo := #[]) (fl : Nat := 33) (sup : Nat := 0) (ifs : Array Nat := #[]) (fds : Array FieldInfo := #[]) : ClassFile where
  minorVersion := 0
  majorVersion := 65
  constantPool := pool
  accessFlags := fl
  thisClass := this
  superClass := sup
  interfaces := ifs
  fields := fds
  methods := ms
  attributes := attrs
def plain (name : String) (sup : Option ClassId) : Class where
  name := name
  kind := .ordinary
  loader := none
  accessFlags := 33
  super := sup
  interfaces := #[]
  cf := none
  fields := #[]
  methods := #[]
  instanceTypes := #[]
  staticTypes := #[]
  resolved := #[]
  callSites := []
  init := .initialized
  statics := none
  mirror := none

def pool0 : Array CpInfo := pool [(5, u "<init>"), (0, u "()V"), (1, .class_ 10), (1, u "java/lang/Object")] 113

def k0c0 : Code := { maxStack := 0, maxLocals := 1, code := object_method_1_code, exceptionTable := #[], attributes := #[] }
def k0m0 : Method := { name := "<init>", desc := "()V", sig := { parameters := [], returnType := none }, accessFlags := 1, code := some k0c0 }
/-- java/lang/Object -/
def k0 : Class := { plain "java/lang/Object" none with
  accessFlags := 33
  interfaces := #[]
  cf := some (fileOf pool0 8 #[] #[{ accessFlags := 1, nameIndex := 5, descriptorIndex := 6, attributes := #[] }] 33 0 #[] #[])
  fields := #[]
  methods := #[k0m0]
  instanceTypes := #[]
  staticTypes := #[]
  resolved := Array.replicate 124 none
  statics := none }

def pool1 : Array CpInfo := pool [(2, .class_ 4), (0, .nameAndType 5 6), (0, u "java/lang/Object"), (0, u "<init>"), (0, u "()V"), (0, .class_ 8), (0, u "com/example/holdfast/holdfast/cli/LatencyHistogram"), (0, .methodref 7 3), (0, .methodref 7 11), (0, .nameAndType 12 13), (0, u "record"), (0, u "(J)V"), (0, .methodref 7 15), (0, .nameAndType 16 17), (0, u "percentile"), (0, u "(D)J"), (0, .methodref 7 19), (0, .nameAndType 20 21), (0, u "mean"), (0, u "()D"), (0, .methodref 7 23), (0, .nameAndType 24 25), (0, u "add"), (0, u "(Lcom/example/holdfast/holdfast/cli/LatencyHistogram;)V"), (0, .methodref 27 28), (0, .class_ 29), (0, .nameAndType 30 31), (0, u "java/lang/Math"), (0, u "max"), (0, u "(JJ)J"), (0, .methodref 27 33), (0, .nameAndType 34 31), (0, u "min"), (0, .double 4602678819172646912), (1, .class_ 38), (0, u "com/example/holdfast/holdfast/cli/LatencyHistogramAddPinLaw"), (2, u "law"), (0, u "(JJI)Z")] 3

def k1m0 : Method := { name := "<init>", desc := "()V", sig := { parameters := [], returnType := none }, accessFlags := 2, code := none }
def k1c1 : Code := { maxStack := 4, maxLocals := 27, code := code, exceptionTable := #[], attributes := #[] }
def k1m1 : Method := { name := "law", desc := "(JJI)Z", sig := { parameters := [.long, .long, .int], returnType := some .boolean }, accessFlags := 9, code := some k1c1 }
/-- com/example/holdfast/holdfast/cli/LatencyHistogramAddPinLaw -/
def k1 : Class := { plain "com/example/holdfast/holdfast/cli/LatencyHistogramAddPinLaw" (some 0) with
  accessFlags := 49
  interfaces := #[]
  cf := some (fileOf pool1 37 #[] #[{ accessFlags := 2, nameIndex := 5, descriptorIndex := 6, attributes := #[] }, { accessFlags := 9, nameIndex := 41, descriptorIndex := 42, attributes := #[] }] 49 2 #[] #[])
  fields := #[]
  methods := #[k1m0, k1m1]
  instanceTypes := #[]
  staticTypes := #[]
  resolved := Array.replicate 46 none
  statics := none }

def pool2 : Array CpInfo := pool [(1, .class_ 2), (0, u "com/example/holdfast/holdfast/cli/LatencyHistogram"), (0, .class_ 4), (0, u "java/lang/Long"), (0, .methodref 6 7), (0, .class_ 8), (0, .nameAndType 9 10), (0, u "java/lang/Object"), (0, u "<init>"), (0, u "()V"), (0, .fieldref 1 12), (0, .nameAndType 13 14), (0, u "counts"), (0, u "[J"), (0, .methodref 16 17), (0, .class_ 18), (0, .nameAndType 19 20), (0, u "java/lang/Math"), (0, u "max"), (0, u "(JJ)J"), (0, .methodref 1 22), (0, .nameAndType 23 24), (0, u "bucket"), (0, u "(J)I"), (0, .fieldref 1 26), (0, .nameAndType 27 28), (0, u "count"), (0, u "J"), (0, .fieldref 1 30), (0, .nameAndType 31 28), (0, u "sum"), (0, .methodref 16 33), (0, .nameAndType 34 35), (0, u "ceil"), (0, u "(D)D"), (0, .methodref 1 37), (0, .nameAndType 38 39), (0, u "highest"), (0, u "(I)J"), (0, .long 512), (1, .methodref 3 43), (0, .nameAndType 44 24), (0, u "numberOfLeadingZeros"), (0, u "EXACT_BITS"), (0, u "I"), (2, u "SPLIT_BITS"), (1, u "EXACT"), (1, u "SPLIT"), (1, u "DOUBLINGS"), (3, u "record"), (0, u "(J)V"), (0, u "add"), (0, u "(Lcom/example/holdfast/holdfast/cli/LatencyHistogram;)V"), (1, u "mean"), (0, u "()D"), (0, u "percentile"), (0, u "(D)J")] 2

def k2c0 : Code := { maxStack := 2, maxLocals := 1, code := prog_36_method_1_code, exceptionTable := #[], attributes := #[] }
def k2m0 : Method := { name := "<init>", desc := "()V", sig := { parameters := [], returnType := none }, accessFlags := 0, code := some k2c0 }
def k2c1 : Code := { maxStack := 6, maxLocals := 5, code := prog_36_method_2_code, exceptionTable := #[], attributes := #[] }
def k2m1 : Method := { name := "record", desc := "(J)V", sig := { parameters := [.long], returnType := none }, accessFlags := 0, code := some k2c1 }
def k2c2 : Code := { maxStack := 6, maxLocals := 3, code := prog_36_method_3_code, exceptionTable := #[], attributes := #[] }
def k2m2 : Method := { name := "add", desc := "(Lcom/example/holdfast/holdfast/cli/LatencyHistogram;)V", sig := { parameters := [(.object "com/example/holdfast/holdfast/cli/LatencyHistogram")], returnType := none }, accessFlags := 0, code := some k2c2 }
def k2c3 : Code := { maxStack := 4, maxLocals := 1, code := prog_36_method_4_code, exceptionTable := #[], attributes := #[] }
def k2m3 : Method := { name := "mean", desc := "()D", sig := { parameters := [], returnType := some .double }, accessFlags := 0, code := some k2c3 }
def k2c4 : Code := { maxStack := 4, maxLocals := 8, code := prog_36_method_5_code, exceptionTable := #[], attributes := #[] }
def k2m4 : Method := { name := "percentile", desc := "(D)J", sig := { parameters := [.double], returnType := some .long }, accessFlags := 0, code := some k2c4 }
def k2c5 : Code := { maxStack := 4, maxLocals := 5, code := prog_36_method_6_code, exceptionTable := #[], attributes := #[] }
def k2m5 : Method := { name := "bucket", desc := "(J)I", sig := { parameters := [.long], returnType := some .int }, accessFlags := 10, code := some k2c5 }
def k2c6 : Code := { maxStack := 4, maxLocals := 4, code := prog_36_method_7_code, exceptionTable := #[], attributes := #[] }
def k2m6 : Method := { name := "highest", desc := "(I)J", sig := { parameters := [.int], returnType := some .long }, accessFlags := 10, code := some k2c6 }
/-- com/example/holdfast/holdfast/cli/LatencyHistogram -/
def k2 : Class := { plain "com/example/holdfast/holdfast/cli/LatencyHistogram" (some 0) with
  accessFlags := 48
  interfaces := #[]
  cf := some (fileOf pool2 1 #[] #[{ accessFlags := 0, nameIndex := 9, descriptorIndex := 10, attributes := #[] }, { accessFlags := 0, nameIndex := 59, descriptorIndex := 60, attributes := #[] }, { accessFlags := 0, nameIndex := 61, descriptorIndex := 62, attributes := #[] }, { accessFlags := 0, nameIndex := 64, descriptorIndex := 65, attributes := #[] }, { accessFlags := 0, nameIndex := 66, descriptorIndex := 67, attributes := #[] }, { accessFlags := 10, nameIndex := 23, descriptorIndex := 24, attributes := #[] }, { accessFlags := 10, nameIndex := 38, descriptorIndex := 39, attributes := #[] }] 48 6 #[] #[{ accessFlags := 26, nameIndex := 45, descriptorIndex := 46, attributes := #[] }, { accessFlags := 26, nameIndex := 49, descriptorIndex := 46, attributes := #[] }, { accessFlags := 26, nameIndex := 51, descriptorIndex := 46, attributes := #[] }, { accessFlags := 26, nameIndex := 53, descriptorIndex := 46, attributes := #[] }, { accessFlags := 26, nameIndex := 55, descriptorIndex := 46, attributes := #[] }, { accessFlags := 18, nameIndex := 13, descriptorIndex := 14, attributes := #[] }, { accessFlags := 2, nameIndex := 27, descriptorIndex := 28, attributes := #[] }, { accessFlags := 2, nameIndex := 31, descriptorIndex := 28, attributes := #[] }])
  fields := #[{ name := "EXACT_BITS", type := .int, accessFlags := 26, slot := 0, constantValue := 0 }, { name := "SPLIT_BITS", type := .int, accessFlags := 26, slot := 1, constantValue := 0 }, { name := "EXACT", type := .int, accessFlags := 26, slot := 2, constantValue := 0 }, { name := "SPLIT", type := .int, accessFlags := 26, slot := 3, constantValue := 0 }, { name := "DOUBLINGS", type := .int, accessFlags := 26, slot := 4, constantValue := 0 }, { name := "counts", type := (.array .long), accessFlags := 18, slot := 0, constantValue := 0 }, { name := "count", type := .long, accessFlags := 2, slot := 1, constantValue := 0 }, { name := "sum", type := .long, accessFlags := 2, slot := 2, constantValue := 0 }]
  methods := #[k2m0, k2m1, k2m2, k2m3, k2m4, k2m5, k2m6]
  instanceTypes := #[(.array .long), .long, .long]
  staticTypes := #[.int, .int, .int, .int, .int]
  resolved := Array.replicate 70 none
  statics := none }

def pool3 : Array CpInfo := pool [(1, .class_ 2), (0, u "java/lang/Math"), (1, .class_ 6), (1, u "java/lang/Object"), (0, u "<init>"), (0, u "()V"), (1, .class_ 12), (1, u "java/lang/StrictMath"), (1, u "(D)D"), (38, .methodref 10 54), (0, .nameAndType 55 14), (0, u "ceil"), (23, .methodref 80 81), (0, .class_ 82), (0, .nameAndType 83 84), (0, u "java/lang/Double"), (0, u "doubleToRawLongBits"), (0, u "(D)J"), (2, .long 9218868437227405312), (10, .class_ 100), (1, u "java/lang/Math$RandomNumberGeneratorHolder"), (20, u "(JJ)J"), (50, u "negativeZeroFloatBits"), (0, u "J"), (2, u "negativeZeroDoubleBits"), (21, u "max"), (2, u "min"), (43, u "$assertionsDisabled"), (0, u "Z"), (33, u "getExponent"), (0, u "(D)I"), (40, .long 1023), (15, u "twoToTheDoubleScaleDown"), (0, u "D"), (4, u "twoToTheDoubleScaleUp"), (9, u "E"), (3, u "PI"), (2, u "TAU"), (2, u "DEGREES_TO_RADIANS"), (0, u "RADIANS_TO_DEGREES")] 94

def k3m0 : Method := { name := "<init>", desc := "()V", sig := { parameters := [], returnType := none }, accessFlags := 2, code := none }
def k3c1 : Code := { maxStack := 2, maxLocals := 2, code := jdk_29_method_16_code, exceptionTable := #[], attributes := #[] }
def k3m1 : Method := { name := "ceil", desc := "(D)D", sig := { parameters := [.double], returnType := some .double }, accessFlags := 9, code := some k3c1 }
def k3c2 : Code := { maxStack := 4, maxLocals := 4, code := jdk_29_method_66_code, exceptionTable := #[], attributes := #[] }
def k3m2 : Method := { name := "max", desc := "(JJ)J", sig := { parameters := [.long, .long], returnType := some .long }, accessFlags := 9, code := some k3c2 }
def k3c3 : Code := { maxStack := 4, maxLocals := 4, code := jdk_29_method_70_code, exceptionTable := #[], attributes := #[] }
def k3m3 : Method := { name := "min", desc := "(JJ)J", sig := { parameters := [.long, .long], returnType := some .long }, accessFlags := 9, code := some k3c3 }
def k3c4 : Code := { maxStack := 4, maxLocals := 2, code := jdk_29_method_92_code, exceptionTable := #[], attributes := #[] }
def k3m4 : Method := { name := "getExponent", desc := "(D)I", sig := { parameters := [.double], returnType := some .int }, accessFlags := 9, code := some k3c4 }
/-- java/lang/Math -/
def k3 : Class := { plain "java/lang/Math" (some 0) with
  accessFlags := 49
  interfaces := #[]
  cf := some (fileOf pool3 1 #[.nestMembers #[98]] #[{ accessFlags := 2, nameIndex := 7, descriptorIndex := 8, attributes := #[] }, { accessFlags := 9, nameIndex := 55, descriptorIndex := 14, attributes := #[] }, { accessFlags := 9, nameIndex := 198, descriptorIndex := 121, attributes := #[] }, { accessFlags := 9, nameIndex := 201, descriptorIndex := 121, attributes := #[] }, { accessFlags := 9, nameIndex := 280, descriptorIndex := 281, attributes := #[] }] 49 4 #[] #[{ accessFlags := 25, nameIndex := 354, descriptorIndex := 339, attributes := #[] }, { accessFlags := 25, nameIndex := 358, descriptorIndex := 339, attributes := #[] }, { accessFlags := 25, nameIndex := 361, descriptorIndex := 339, attributes := #[] }, { accessFlags := 26, nameIndex := 364, descriptorIndex := 339, attributes := #[] }, { accessFlags := 26, nameIndex := 365, descriptorIndex := 339, attributes := #[] }, { accessFlags := 26, nameIndex := 172, descriptorIndex := 173, attributes := #[] }, { accessFlags := 26, nameIndex := 176, descriptorIndex := 173, attributes := #[] }, { accessFlags := 8, nameIndex := 344, descriptorIndex := 339, attributes := #[] }, { accessFlags := 8, nameIndex := 338, descriptorIndex := 339, attributes := #[] }, { accessFlags := 4120, nameIndex := 245, descriptorIndex := 246, attributes := #[] }])
  fields := #[{ name := "E", type := .double, accessFlags := 25, slot := 0, constantValue := 0 }, { name := "PI", type := .double, accessFlags := 25, slot := 1, constantValue := 0 }, { name := "TAU", type := .double, accessFlags := 25, slot := 2, constantValue := 0 }, { name := "DEGREES_TO_RADIANS", type := .double, accessFlags := 26, slot := 3, constantValue := 0 }, { name := "RADIANS_TO_DEGREES", type := .double, accessFlags := 26, slot := 4, constantValue := 0 }, { name := "negativeZeroFloatBits", type := .long, accessFlags := 26, slot := 5, constantValue := 0 }, { name := "negativeZeroDoubleBits", type := .long, accessFlags := 26, slot := 6, constantValue := 0 }, { name := "twoToTheDoubleScaleUp", type := .double, accessFlags := 8, slot := 7, constantValue := 0 }, { name := "twoToTheDoubleScaleDown", type := .double, accessFlags := 8, slot := 8, constantValue := 0 }, { name := "$assertionsDisabled", type := .boolean, accessFlags := 4120, slot := 9, constantValue := 0 }]
  methods := #[k3m0, k3m1, k3m2, k3m3, k3m4]
  instanceTypes := #[]
  staticTypes := #[.double, .double, .double, .double, .double, .long, .long, .double, .double, .boolean]
  resolved := Array.replicate 460 none
  statics := none }

def pool4 : Array CpInfo := pool [(1, .class_ 2), (0, u "java/lang/StrictMath"), (1, .class_ 6), (1, u "java/lang/Object"), (0, u "<init>"), (0, u "()V"), (5, u "(D)D"), (16, .class_ 33), (1, u "java/lang/Math"), (24, .double 9223372036854775808), (1, .methodref 1 61), (0, .nameAndType 62 63), (0, u "floorOrCeil"), (0, u "(DDDD)D"), (2, .methodref 31 67), (0, .nameAndType 68 69), (0, u "getExponent"), (0, u "(D)I"), (0, .fieldref 1 71), (0, .nameAndType 72 73), (0, u "$assertionsDisabled"), (0, u "Z"), (3, .methodref 78 79), (0, .class_ 80), (0, .nameAndType 81 82), (0, u "java/lang/Double"), (0, u "doubleToRawLongBits"), (0, u "(D)J"), (2, .long 4503599627370495), (28, .class_ 116), (1, u "java/lang/StrictMath$RandomNumberGeneratorHolder"), (222, u "E"), (0, u "D"), (3, u "PI"), (2, u "TAU"), (26, u "ceil")] 61

def k4m0 : Method := { name := "<init>", desc := "()V", sig := { parameters := [], returnType := none }, accessFlags := 2, code := none }
def k4c1 : Code := { maxStack := 8, maxLocals := 2, code := jdk_128_method_16_code, exceptionTable := #[], attributes := #[] }
def k4m1 : Method := { name := "ceil", desc := "(D)D", sig := { parameters := [.double], returnType := some .double }, accessFlags := 9, code := some k4c1 }
def k4c2 : Code := { maxStack := 6, maxLocals := 15, code := jdk_128_method_18_code, exceptionTable := #[], attributes := #[] }
def k4m2 : Method := { name := "floorOrCeil", desc := "(DDDD)D", sig := { parameters := [.double, .double, .double, .double], returnType := some .double }, accessFlags := 10, code := some k4c2 }
/-- java/lang/StrictMath -/
def k4 : Class := { plain "java/lang/StrictMath" (some 0) with
  accessFlags := 49
  interfaces := #[]
  cf := some (fileOf pool4 1 #[.nestMembers #[114]] #[{ accessFlags := 2, nameIndex := 7, descriptorIndex := 8, attributes := #[] }, { accessFlags := 9, nameIndex := 374, descriptorIndex := 14, attributes := #[] }, { accessFlags := 10, nameIndex := 62, descriptorIndex := 63, attributes := #[] }] 49 4 #[] #[{ accessFlags := 25, nameIndex := 339, descriptorIndex := 340, attributes := #[] }, { accessFlags := 25, nameIndex := 344, descriptorIndex := 340, attributes := #[] }, { accessFlags := 25, nameIndex := 347, descriptorIndex := 340, attributes := #[] }, { accessFlags := 4120, nameIndex := 72, descriptorIndex := 73, attributes := #[] }])
  fields := #[{ name := "E", type := .double, accessFlags := 25, slot := 0, constantValue := 0 }, { name := "PI", type := .double, accessFlags := 25, slot := 1, constantValue := 0 }, { name := "TAU", type := .double, accessFlags := 25, slot := 2, constantValue := 0 }, { name := "$assertionsDisabled", type := .boolean, accessFlags := 4120, slot := 3, constantValue := 0 }]
  methods := #[k4m0, k4m1, k4m2]
  instanceTypes := #[]
  staticTypes := #[.double, .double, .double, .boolean]
  resolved := Array.replicate 436 none
  statics := some 0 }

def pool5 : Array CpInfo := pool [(1, .class_ 2), (0, u "java/io/Serializable"), (0, .class_ 4), (0, u "java/lang/Object")] 2

/-- java/io/Serializable -/
def k5 : Class := { plain "java/io/Serializable" (some 0) with
  accessFlags := 1537
  interfaces := #[]
  cf := some (fileOf pool5 1 #[] #[] 1537 3 #[] #[])
  fields := #[]
  methods := #[]
  instanceTypes := #[]
  staticTypes := #[]
  resolved := Array.replicate 7 none
  statics := none }

def pool6 : Array CpInfo := pool [(2, .class_ 4), (1, u "java/lang/Object"), (0, u "<init>"), (0, u "()V"), (1, .class_ 10), (1, u "java/lang/Number"), (2, .class_ 14), (0, u "java/io/Serializable"), (0, u "serialVersionUID"), (0, u "J")] 20

def k6m0 : Method := { name := "<init>", desc := "()V", sig := { parameters := [], returnType := none }, accessFlags := 1, code := none }
/-- java/lang/Number -/
def k6 : Class := { plain "java/lang/Number" (some 0) with
  accessFlags := 1057
  interfaces := #[5]
  cf := some (fileOf pool6 8 #[] #[{ accessFlags := 1, nameIndex := 5, descriptorIndex := 6, attributes := #[] }] 1057 2 #[13] #[{ accessFlags := 26, nameIndex := 15, descriptorIndex := 16, attributes := #[] }])
  fields := #[{ name := "serialVersionUID", type := .long, accessFlags := 26, slot := 0, constantValue := 0 }]
  methods := #[k6m0]
  instanceTypes := #[]
  staticTypes := #[.long]
  resolved := Array.replicate 37 none
  statics := none }

def pool7 : Array CpInfo := pool [(1, .class_ 2), (0, u "java/lang/Comparable"), (0, .class_ 4), (0, u "java/lang/Object")] 7

/-- java/lang/Comparable -/
def k7 : Class := { plain "java/lang/Comparable" (some 0) with
  accessFlags := 1537
  interfaces := #[]
  cf := some (fileOf pool7 1 #[] #[] 1537 3 #[] #[])
  fields := #[]
  methods := #[]
  instanceTypes := #[]
  staticTypes := #[]
  resolved := Array.replicate 12 none
  statics := none }

def pool8 : Array CpInfo := pool [(1, .class_ 2), (0, u "java/lang/constant/Constable"), (0, .class_ 4), (0, u "java/lang/Object")] 6

/-- java/lang/constant/Constable -/
def k8 : Class := { plain "java/lang/constant/Constable" (some 0) with
  accessFlags := 1537
  interfaces := #[]
  cf := some (fileOf pool8 1 #[] #[] 1537 3 #[] #[])
  fields := #[]
  methods := #[]
  instanceTypes := #[]
  staticTypes := #[]
  resolved := Array.replicate 11 none
  statics := none }

def pool9 : Array CpInfo := pool [(1, .class_ 2), (0, u "java/lang/constant/ConstantDesc"), (0, .class_ 4), (0, u "java/lang/Object")] 32

/-- java/lang/constant/ConstantDesc -/
def k9 : Class := { plain "java/lang/constant/ConstantDesc" (some 0) with
  accessFlags := 1537
  interfaces := #[]
  cf := some (fileOf pool9 1 #[] #[] 1537 3 #[] #[])
  fields := #[]
  methods := #[]
  instanceTypes := #[]
  staticTypes := #[]
  resolved := Array.replicate 37 none
  statics := none }

def pool10 : Array CpInfo := pool [(1, .class_ 2), (0, u "java/lang/Double"), (46, u "(D)J"), (64, .class_ 116), (1, u "java/lang/Number"), (3, u "value"), (0, u "D"), (14, u "doubleToRawLongBits"), (36, u "TYPE"), (0, u "Ljava/lang/Class;"), (0, .class_ 176), (0, u "java/lang/Comparable"), (0, .class_ 178), (0, u "java/lang/constant/Constable"), (0, .class_ 180), (0, u "java/lang/constant/ConstantDesc"), (0, u "POSITIVE_INFINITY"), (3, u "NEGATIVE_INFINITY"), (2, u "NaN"), (2, u "MAX_VALUE"), (0, u "MIN_NORMAL"), (0, u "MIN_VALUE"), (2, u "SIZE"), (0, u "I"), (1, u "PRECISION"), (1, u "MAX_EXPONENT"), (1, u "MIN_EXPONENT"), (1, u "BYTES"), (3, u "serialVersionUID"), (0, u "J")] 79

def k10m0 : Method := { name := "doubleToRawLongBits", desc := "(D)J", sig := { parameters := [.double], returnType := some .long }, accessFlags := 265, code := none }
/-- java/lang/Double -/
def k10 : Class := { plain "java/lang/Double" (some 6) with
  accessFlags := 49
  interfaces := #[7, 8, 9]
  cf := some (fileOf pool10 1 #[] #[{ accessFlags := 265, nameIndex := 136, descriptorIndex := 49, attributes := #[] }] 49 114 #[175, 177, 179] #[{ accessFlags := 25, nameIndex := 181, descriptorIndex := 121, attributes := #[] }, { accessFlags := 25, nameIndex := 185, descriptorIndex := 121, attributes := #[] }, { accessFlags := 25, nameIndex := 188, descriptorIndex := 121, attributes := #[] }, { accessFlags := 25, nameIndex := 191, descriptorIndex := 121, attributes := #[] }, { accessFlags := 25, nameIndex := 192, descriptorIndex := 121, attributes := #[] }, { accessFlags := 25, nameIndex := 193, descriptorIndex := 121, attributes := #[] }, { accessFlags := 25, nameIndex := 196, descriptorIndex := 197, attributes := #[] }, { accessFlags := 25, nameIndex := 199, descriptorIndex := 197, attributes := #[] }, { accessFlags := 25, nameIndex := 201, descriptorIndex := 197, attributes := #[] }, { accessFlags := 25, nameIndex := 203, descriptorIndex := 197, attributes := #[] }, { accessFlags := 25, nameIndex := 205, descriptorIndex := 197, attributes := #[] }, { accessFlags := 25, nameIndex := 173, descriptorIndex := 174, attributes := #[] }, { accessFlags := 18, nameIndex := 120, descriptorIndex := 121, attributes := #[] }, { accessFlags := 26, nameIndex := 209, descriptorIndex := 210, attributes := #[] }])
  fields := #[{ name := "POSITIVE_INFINITY", type := .double, accessFlags := 25, slot := 0, constantValue := 0 }, { name := "NEGATIVE_INFINITY", type := .double, accessFlags := 25, slot := 1, constantValue := 0 }, { name := "NaN", type := .double, accessFlags := 25, slot := 2, constantValue := 0 }, { name := "MAX_VALUE", type := .double, accessFlags := 25, slot := 3, constantValue := 0 }, { name := "MIN_NORMAL", type := .double, accessFlags := 25, slot := 4, constantValue := 0 }, { name := "MIN_VALUE", type := .double, accessFlags := 25, slot := 5, constantValue := 0 }, { name := "SIZE", type := .int, accessFlags := 25, slot := 6, constantValue := 0 }, { name := "PRECISION", type := .int, accessFlags := 25, slot := 7, constantValue := 0 }, { name := "MAX_EXPONENT", type := .int, accessFlags := 25, slot := 8, constantValue := 0 }, { name := "MIN_EXPONENT", type := .int, accessFlags := 25, slot := 9, constantValue := 0 }, { name := "BYTES", type := .int, accessFlags := 25, slot := 10, constantValue := 0 }, { name := "TYPE", type := (.object "java/lang/Class"), accessFlags := 25, slot := 11, constantValue := 0 }, { name := "value", type := .double, accessFlags := 18, slot := 0, constantValue := 0 }, { name := "serialVersionUID", type := .long, accessFlags := 26, slot := 12, constantValue := 0 }]
  methods := #[k10m0]
  instanceTypes := #[.double]
  staticTypes := #[.double, .double, .double, .double, .double, .double, .int, .int, .int, .int, .int, (.object "java/lang/Class"), .long]
  resolved := Array.replicate 290 none
  statics := none }

def pool11 : Array CpInfo := pool [(1, .class_ 2), (0, u "java/lang/Long"), (15, .class_ 20), (1, u "java/lang/Integer"), (79, u "numberOfLeadingZeros"), (0, u "(J)I"), (133, .class_ 237), (1, u "java/lang/Long$LongCache"), (33, .class_ 272), (0, u "java/lang/Number"), (2, u "value"), (0, u "J"), (31, .methodref 18 309), (0, .nameAndType 100 310), (0, u "(I)I"), (50, u "TYPE"), (0, u "Ljava/lang/Class;"), (0, .class_ 364), (0, u "java/lang/Comparable"), (0, .class_ 366), (0, u "java/lang/constant/Constable"), (0, .class_ 368), (0, u "java/lang/constant/ConstantDesc"), (0, u "MIN_VALUE"), (1, u "MAX_VALUE"), (4, u "SIZE"), (0, u "I"), (1, u "BYTES"), (1, u "serialVersionUID")] 142

def k11c0 : Code := { maxStack := 3, maxLocals := 3, code := jdk_35_method_48_code, exceptionTable := #[], attributes := #[] }
def k11m0 : Method := { name := "numberOfLeadingZeros", desc := "(J)I", sig := { parameters := [.long], returnType := some .int }, accessFlags := 9, code := some k11c0 }
/-- java/lang/Long -/
def k11 : Class := { plain "java/lang/Long" (some 6) with
  accessFlags := 49
  interfaces := #[7, 8, 9]
  cf := some (fileOf pool11 1 #[.nestMembers #[235]] #[{ accessFlags := 9, nameIndex := 100, descriptorIndex := 101, attributes := #[] }] 49 271 #[363, 365, 367] #[{ accessFlags := 25, nameIndex := 369, descriptorIndex := 276, attributes := #[] }, { accessFlags := 25, nameIndex := 371, descriptorIndex := 276, attributes := #[] }, { accessFlags := 25, nameIndex := 361, descriptorIndex := 362, attributes := #[] }, { accessFlags := 18, nameIndex := 275, descriptorIndex := 276, attributes := #[] }, { accessFlags := 25, nameIndex := 376, descriptorIndex := 377, attributes := #[] }, { accessFlags := 25, nameIndex := 379, descriptorIndex := 377, attributes := #[] }, { accessFlags := 26, nameIndex := 381, descriptorIndex := 276, attributes := #[] }])
  fields := #[{ name := "MIN_VALUE", type := .long, accessFlags := 25, slot := 0, constantValue := 0 }, { name := "MAX_VALUE", type := .long, accessFlags := 25, slot := 1, constantValue := 0 }, { name := "TYPE", type := (.object "java/lang/Class"), accessFlags := 25, slot := 2, constantValue := 0 }, { name := "value", type := .long, accessFlags := 18, slot := 0, constantValue := 0 }, { name := "SIZE", type := .int, accessFlags := 25, slot := 3, constantValue := 0 }, { name := "BYTES", type := .int, accessFlags := 25, slot := 4, constantValue := 0 }, { name := "serialVersionUID", type := .long, accessFlags := 26, slot := 5, constantValue := 0 }]
  methods := #[k11m0]
  instanceTypes := #[.long]
  staticTypes := #[.long, .long, (.object "java/lang/Class"), .int, .int, .long]
  resolved := Array.replicate 524 none
  statics := none }

def pool12 : Array CpInfo := pool [(1, .class_ 2), (0, u "java/lang/Integer"), (16, u "digits"), (0, u "[C"), (32, u "numberOfLeadingZeros"), (0, u "(I)I"), (30, u "DigitOnes"), (0, u "[B"), (2, u "DigitTens"), (99, .class_ 190), (0, u "java/lang/Integer$IntegerCache"), (3, u "I"), (8, .class_ 204), (0, u "java/lang/Number"), (2, u "value"), (56, .integer 65536), (37, u "TYPE"), (0, u "Ljava/lang/Class;"), (0, .class_ 305), (0, u "java/lang/Comparable"), (0, .class_ 307), (0, u "java/lang/constant/Constable"), (0, .class_ 309), (0, u "java/lang/constant/ConstantDesc"), (0, u "MIN_VALUE"), (1, u "MAX_VALUE"), (3, u "SIZE"), (1, u "BYTES"), (1, u "serialVersionUID"), (0, u "J")] 131

def k12c0 : Code := { maxStack := 3, maxLocals := 2, code := jdk_33_method_47_code, exceptionTable := #[], attributes := #[] }
def k12m0 : Method := { name := "numberOfLeadingZeros", desc := "(I)I", sig := { parameters := [.int], returnType := some .int }, accessFlags := 9, code := some k12c0 }
/-- java/lang/Integer -/
def k12 : Class := { plain "java/lang/Integer" (some 6) with
  accessFlags := 49
  interfaces := #[7, 8, 9]
  cf := some (fileOf pool12 1 #[.nestMembers #[189]] #[{ accessFlags := 9, nameIndex := 53, descriptorIndex := 54, attributes := #[] }] 49 203 #[304, 306, 308] #[{ accessFlags := 25, nameIndex := 310, descriptorIndex := 194, attributes := #[] }, { accessFlags := 25, nameIndex := 312, descriptorIndex := 194, attributes := #[] }, { accessFlags := 25, nameIndex := 302, descriptorIndex := 303, attributes := #[] }, { accessFlags := 24, nameIndex := 19, descriptorIndex := 20, attributes := #[] }, { accessFlags := 24, nameIndex := 89, descriptorIndex := 86, attributes := #[] }, { accessFlags := 24, nameIndex := 85, descriptorIndex := 86, attributes := #[] }, { accessFlags := 18, nameIndex := 207, descriptorIndex := 194, attributes := #[] }, { accessFlags := 25, nameIndex := 316, descriptorIndex := 194, attributes := #[] }, { accessFlags := 25, nameIndex := 318, descriptorIndex := 194, attributes := #[] }, { accessFlags := 26, nameIndex := 320, descriptorIndex := 321, attributes := #[] }])
  fields := #[{ name := "MIN_VALUE", type := .int, accessFlags := 25, slot := 0, constantValue := 0 }, { name := "MAX_VALUE", type := .int, accessFlags := 25, slot := 1, constantValue := 0 }, { name := "TYPE", type := (.object "java/lang/Class"), accessFlags := 25, slot := 2, constantValue := 0 }, { name := "digits", type := (.array .char), accessFlags := 24, slot := 3, constantValue := 0 }, { name := "DigitTens", type := (.array .byte), accessFlags := 24, slot := 4, constantValue := 0 }, { name := "DigitOnes", type := (.array .byte), accessFlags := 24, slot := 5, constantValue := 0 }, { name := "value", type := .int, accessFlags := 18, slot := 0, constantValue := 0 }, { name := "SIZE", type := .int, accessFlags := 25, slot := 6, constantValue := 0 }, { name := "BYTES", type := .int, accessFlags := 25, slot := 7, constantValue := 0 }, { name := "serialVersionUID", type := .long, accessFlags := 26, slot := 8, constantValue := 0 }]
  methods := #[k12m0]
  instanceTypes := #[.int]
  staticTypes := #[.int, .int, (.object "java/lang/Class"), (.array .char), (.array .byte), (.array .byte), .int, .int, .long]
  resolved := Array.replicate 453 none
  statics := none }

def pool13 : Array CpInfo := pool [(1, u "java/lang/Cloneable"), (0, .class_ 1), (0, u "java/lang/Object"), (0, .class_ 3)] 3

/-- java/lang/Cloneable -/
def k13 : Class := { plain "java/lang/Cloneable" (some 0) with
  accessFlags := 1537
  interfaces := #[]
  cf := some (fileOf pool13 2 #[] #[] 1537 4 #[] #[])
  fields := #[]
  methods := #[]
  instanceTypes := #[]
  staticTypes := #[]
  resolved := Array.replicate 8 none
  statics := none }

/-- the primitive byte -/
def k14 : Class := { plain "byte" none with kind := .primitive 'B', accessFlags := 0x411 }
/-- [B -/
def k15 : Class := { plain "[B" (some 0) with kind := .array 14 .byte, interfaces := #[13, 5], accessFlags := 1041 }

/-- the primitive int -/
def k16 : Class := { plain "int" none with kind := .primitive 'I', accessFlags := 0x411 }
/-- [I -/
def k17 : Class := { plain "[I" (some 0) with kind := .array 16 .int, interfaces := #[13, 5], accessFlags := 1041 }

/-- the primitive long -/
def k18 : Class := { plain "long" none with kind := .primitive 'J', accessFlags := 0x411 }
/-- [J -/
def k19 : Class := { plain "[J" (some 0) with kind := .array 18 .long, interfaces := #[13, 5], accessFlags := 1041 }

def heap : Heap := #[{ cls := 4, slots := #[.double 0, .double 0, .double 0, .int 1], vm := .statics 4 }]
def classes : Array Class := #[k0, k1, k2, k3, k4, k5, k6, k7, k8, k9, k10, k11, k12, k13, k14, k15, k16, k17, k18, k19]
def interned : List (Array UInt16 × Addr) := []
def slotsUsed : Nat := 4
def theMethod : MethodId := ⟨1, 1⟩
def args0 : Array Value := #[.long 5, .long 1, .int 3]
def aboutOver (below : List Frame) : State where
  vm := { classes := classes, interned := interned.toArray }
  heap := heap
  slotsUsed := slotsUsed
  threads := #[{ frames := .invoking theMethod args0 :: below }]
def below0 : List Frame := [.native { method := ⟨0, 0⟩, args := #[] }]
def about1 : State := aboutOver below0
def p0 : Program := .bare "" "" ""
def e0 : Env := launch0.env 0 0 0
theorem w_frames : about1.frames = Frame.invoking theMethod args0 :: below0 := rfl
set_option maxRecDepth 65536 in
theorem w_args : argsFit about1.vm theMethod args0 = true := by decide +kernel
set_option maxRecDepth 65536 in
theorem w_heap : heapFits about1 = true := by decide +kernel
set_option maxRecDepth 65536 in
theorem w_runnable : about1.curStatus? = some .runnable := by decide +kernel
set_option maxRecDepth 65536 in
theorem w_alone : about1.alone = true := by decide +kernel
set_option maxRecDepth 65536 in
theorem w_named : about1.methodNamed? x = some theMethod := by decide +kernel
set_option maxRecDepth 65536 in
theorem w_hears : about1.hears theMethod below0 = true := by decide +kernel
set_option maxRecDepth 65536 in
theorem w_ripe : about1.ripe theMethod args0 below0 = true := by decide +kernel
theorem w_running : about1.status = .running := rfl
set_option maxRecDepth 65536 in
theorem w_room : about1.hasRoom e0.platform room_1 = true :=
  launch0.hasRoom_least _ room_1 (by decide +kernel) (by decide +kernel) (by decide +kernel) (by decide +kernel) (by decide +kernel) (by decide +kernel)
theorem allAtoms_all (ts : List Jvm.Cond) (a : Array Jvm.Value) (st : Jvm.State) : (allAtoms ts).before a st = ts.all (fun c => c.before a st) := by
  induction ts with
  | nil => rfl
  | cons c t ih =>
    show (Jvm.Cond.and c (allAtoms t)).before a st = _
    rw [Jvm.Cond.before_and, ih, List.all_cons]
def words1 : List Jvm.Cond := Jvm.Cond.code x code maxLocals ret :: tables_1
/-- a 'code' word, met by the world's own term for the bytes: nothing is compared byte by byte -/
theorem code_word {y : MethodName} {bytes : ByteArray} {mx : Nat} {rt : Option FieldType} {a : Array Value} {s : State} {m : MethodId} {meth : Method} {c : Code} (h1 : s.methodNamed? y = some m) (h2 : s.vm.method? m = some meth) (h3 : meth.code = some c) (h4 : c.code = bytes)
    (h5 : (c.maxLocals == mx && c.exceptionTable.isEmpty && decide (c.maxStack ≤ mostOperands) && decide (meth.sig.returnType = rt) && !meth.locks && decide (parseMethodDescriptor y.desc = some meth.sig)) = true) : (Jvm.Cond.code y bytes mx rt).before a s = true := by
  simp only [Bool.and_eq_true, beq_iff_eq, Bool.not_eq_true', decide_eq_true_eq] at h5
  obtain ⟨⟨⟨⟨⟨g1, g2⟩, g3⟩, g4⟩, g5⟩, g6⟩ := h5
  simp [Cond.before, Cond.holds, Cond.value, h1, h2, h3, h4, g1, g2, g3, g4, g5, g6]
def isCode : Jvm.Cond → Bool
  | .code _ _ _ _ => true
  | _ => false
theorem all_split {L : List Jvm.Cond} {P : Jvm.Cond → Bool} (h1 : L.all (fun c => isCode c || P c) = true) (h2 : ∀ c ∈ L.filter isCode, P c = true) : L.all P = true := by
  refine List.all_eq_true.mpr fun c hc => ?_
  have h := List.all_eq_true.mp h1 c hc
  rcases Bool.eq_false_or_eq_true (isCode c) with hi | hi
  · exact h2 c (List.mem_filter.mpr ⟨hc, hi⟩)
  · simpa [hi] using h
set_option maxRecDepth 65536 in
theorem w_c0 : (Jvm.Cond.code x code maxLocals ret).before args0 about1 = true := code_word (m := ⟨1, 1⟩) (meth := k1m1) (c := k1c1) (by decide +kernel) rfl rfl rfl (by decide +kernel)
set_option maxRecDepth 65536 in
theorem w_c1 : (Jvm.Cond.code ({ cls := "com/example/holdfast/holdfast/cli/LatencyHistogram", name := "<init>", desc := "()V" } : Jvm.MethodName) prog_36_method_1_code (1 : Nat) (Option.none : Option Jvm.ClassFile.FieldType)).before args0 about1 = true := code_word (m := ⟨2, 0⟩) (meth := k2m0) (c := k2c0) (by decide +kernel) rfl rfl rfl (by decide +kernel)
set_option maxRecDepth 65536 in
theorem w_c2 : (Jvm.Cond.code ({ cls := "java/lang/Object", name := "<init>", desc := "()V" } : Jvm.MethodName) object_method_1_code (1 : Nat) (Option.none : Option Jvm.ClassFile.FieldType)).before args0 about1 = true := code_word (m := ⟨0, 0⟩) (meth := k0m0) (c := k0c0) (by decide +kernel) rfl rfl rfl (by decide +kernel)
set_option maxRecDepth 65536 in
theorem w_c3 : (Jvm.Cond.code ({ cls := "com/example/holdfast/holdfast/cli/LatencyHistogram", name := "percentile", desc := "(D)J" } : Jvm.MethodName) prog_36_method_5_code (8 : Nat) (Option.some Jvm.ClassFile.FieldType.long)).before args0 about1 = true := code_word (m := ⟨2, 4⟩) (meth := k2m4) (c := k2c4) (by decide +kernel) rfl rfl rfl (by decide +kernel)
set_option maxRecDepth 65536 in
theorem w_c4 : (Jvm.Cond.code ({ cls := "java/lang/Math", name := "ceil", desc := "(D)D" } : Jvm.MethodName) jdk_29_method_16_code (2 : Nat) (Option.some Jvm.ClassFile.FieldType.double)).before args0 about1 = true := code_word (m := ⟨3, 1⟩) (meth := k3m1) (c := k3c1) (by decide +kernel) rfl rfl rfl (by decide +kernel)
set_option maxRecDepth 65536 in
theorem w_c5 : (Jvm.Cond.code ({ cls := "java/lang/StrictMath", name := "ceil", desc := "(D)D" } : Jvm.MethodName) jdk_128_method_16_code (2 : Nat) (Option.some Jvm.ClassFile.FieldType.double)).before args0 about1 = true := code_word (m := ⟨4, 1⟩) (meth := k4m1) (c := k4c1) (by decide +kernel) rfl rfl rfl (by decide +kernel)
set_option maxRecDepth 65536 in
theorem w_c6 : (Jvm.Cond.code ({ cls := "java/lang/StrictMath", name := "floorOrCeil", desc := "(DDDD)D" } : Jvm.MethodName) jdk_128_method_18_code (15 : Nat) (Option.some Jvm.ClassFile.FieldType.double)).before args0 about1 = true := code_word (m := ⟨4, 2⟩) (meth := k4m2) (c := k4c2) (by decide +kernel) rfl rfl rfl (by decide +kernel)
set_option maxRecDepth 65536 in
theorem w_c7 : (Jvm.Cond.code ({ cls := "java/lang/Math", name := "getExponent", desc := "(D)I" } : Jvm.MethodName) jdk_29_method_92_code (2 : Nat) (Option.some Jvm.ClassFile.FieldType.int)).before args0 about1 = true := code_word (m := ⟨3, 4⟩) (meth := k3m4) (c := k3c4) (by decide +kernel) rfl rfl rfl (by decide +kernel)
set_option maxRecDepth 65536 in
theorem w_c8 : (Jvm.Cond.code ({ cls := "com/example/holdfast/holdfast/cli/LatencyHistogram", name := "highest", desc := "(I)J" } : Jvm.MethodName) prog_36_method_7_code (4 : Nat) (Option.some Jvm.ClassFile.FieldType.long)).before args0 about1 = true := code_word (m := ⟨2, 6⟩) (meth := k2m6) (c := k2c6) (by decide +kernel) rfl rfl rfl (by decide +kernel)
set_option maxRecDepth 65536 in
theorem w_c9 : (Jvm.Cond.code ({ cls := "com/example/holdfast/holdfast/cli/LatencyHistogram", name := "mean", desc := "()D" } : Jvm.MethodName) prog_36_method_4_code (1 : Nat) (Option.some Jvm.ClassFile.FieldType.double)).before args0 about1 = true := code_word (m := ⟨2, 3⟩) (meth := k2m3) (c := k2c3) (by decide +kernel) rfl rfl rfl (by decide +kernel)
set_option maxRecDepth 65536 in
theorem w_c10 : (Jvm.Cond.code ({ cls := "com/example/holdfast/holdfast/cli/LatencyHistogram", name := "add", desc := "(Lcom/example/holdfast/holdfast/cli/LatencyHistogram;)V" } : Jvm.MethodName) prog_36_method_3_code (3 : Nat) (Option.none : Option Jvm.ClassFile.FieldType)).before args0 about1 = true := code_word (m := ⟨2, 2⟩) (meth := k2m2) (c := k2c2) (by decide +kernel) rfl rfl rfl (by decide +kernel)
set_option maxRecDepth 65536 in
theorem w_c11 : (Jvm.Cond.code ({ cls := "com/example/holdfast/holdfast/cli/LatencyHistogram", name := "record", desc := "(J)V" } : Jvm.MethodName) prog_36_method_2_code (5 : Nat) (Option.none : Option Jvm.ClassFile.FieldType)).before args0 about1 = true := code_word (m := ⟨2, 1⟩) (meth := k2m1) (c := k2c1) (by decide +kernel) rfl rfl rfl (by decide +kernel)
set_option maxRecDepth 65536 in
theorem w_c12 : (Jvm.Cond.code ({ cls := "java/lang/Math", name := "max", desc := "(JJ)J" } : Jvm.MethodName) jdk_29_method_66_code (4 : Nat) (Option.some Jvm.ClassFile.FieldType.long)).before args0 about1 = true := code_word (m := ⟨3, 2⟩) (meth := k3m2) (c := k3c2) (by decide +kernel) rfl rfl rfl (by decide +kernel)
set_option maxRecDepth 65536 in
theorem w_c13 : (Jvm.Cond.code ({ cls := "com/example/holdfast/holdfast/cli/LatencyHistogram", name := "bucket", desc := "(J)I" } : Jvm.MethodName) prog_36_method_6_code (5 : Nat) (Option.some Jvm.ClassFile.FieldType.int)).before args0 about1 = true := code_word (m := ⟨2, 5⟩) (meth := k2m5) (c := k2c5) (by decide +kernel) rfl rfl rfl (by decide +kernel)
set_option maxRecDepth 65536 in
theorem w_c14 : (Jvm.Cond.code ({ cls := "java/lang/Math", name := "min", desc := "(JJ)J" } : Jvm.MethodName) jdk_29_method_70_code (4 : Nat) (Option.some Jvm.ClassFile.FieldType.long)).before args0 about1 = true := code_word (m := ⟨3, 3⟩) (meth := k3m3) (c := k3c3) (by decide +kernel) rfl rfl rfl (by decide +kernel)
set_option maxRecDepth 65536 in
theorem w_c15 : (Jvm.Cond.code ({ cls := "java/lang/Long", name := "numberOfLeadingZeros", desc := "(J)I" } : Jvm.MethodName) jdk_35_method_48_code (3 : Nat) (Option.some Jvm.ClassFile.FieldType.int)).before args0 about1 = true := code_word (m := ⟨11, 0⟩) (meth := k11m0) (c := k11c0) (by decide +kernel) rfl rfl rfl (by decide +kernel)
set_option maxRecDepth 65536 in
theorem w_c16 : (Jvm.Cond.code ({ cls := "java/lang/Integer", name := "numberOfLeadingZeros", desc := "(I)I" } : Jvm.MethodName) jdk_33_method_47_code (2 : Nat) (Option.some Jvm.ClassFile.FieldType.int)).before args0 about1 = true := code_word (m := ⟨12, 0⟩) (meth := k12m0) (c := k12c0) (by decide +kernel) rfl rfl rfl (by decide +kernel)
def codes1 : List Jvm.Cond := [Jvm.Cond.code x code maxLocals ret, Jvm.Cond.code ({ cls := "com/example/holdfast/holdfast/cli/LatencyHistogram", name := "<init>", desc := "()V" } : Jvm.MethodName) prog_36_method_1_code (1 : Nat) (Option.none : Option Jvm.ClassFile.FieldType), Jvm.Cond.code ({ cls := "java/lang/Object", name := "<init>", desc := "()V" } : Jvm.MethodName) object_method_1_code (1 : Nat) (Option.none : Option Jvm.ClassFile.FieldType), Jvm.Cond.code ({ cls := "com/example/holdfast/holdfast/cli/LatencyHistogram", name := "percentile", desc := "(D)J" } : Jvm.MethodName) prog_36_method_5_code (8 : Nat) (Option.some Jvm.ClassFile.FieldType.long), Jvm.Cond.code ({ cls := "java/lang/Math", name := "ceil", desc := "(D)D" } : Jvm.MethodName) jdk_29_method_16_code (2 : Nat) (Option.some Jvm.ClassFile.FieldType.double), Jvm.Cond.code ({ cls := "java/lang/StrictMath", name := "ceil", desc := "(D)D" } : Jvm.MethodName) jdk_128_method_16_code (2 : Nat) (Option.some Jvm.ClassFile.FieldType.double), Jvm.Cond.code ({ cls := "java/lang/StrictMath", name := "floorOrCeil", desc := "(DDDD)D" } : Jvm.MethodName) jdk_128_method_18_code (15 : Nat) (Option.some Jvm.ClassFile.FieldType.double), Jvm.Cond.code ({ cls := "java/lang/Math", name := "getExponent", desc := "(D)I" } : Jvm.MethodName) jdk_29_method_92_code (2 : Nat) (Option.some Jvm.ClassFile.FieldType.int), Jvm.Cond.code ({ cls := "com/example/holdfast/holdfast/cli/LatencyHistogram", name := "highest", desc := "(I)J" } : Jvm.MethodName) prog_36_method_7_code (4 : Nat) (Option.some Jvm.ClassFile.FieldType.long), Jvm.Cond.code ({ cls := "com/example/holdfast/holdfast/cli/LatencyHistogram", name := "mean", desc := "()D" } : Jvm.MethodName) prog_36_method_4_code (1 : Nat) (Option.some Jvm.ClassFile.FieldType.double), Jvm.Cond.code ({ cls := "com/example/holdfast/holdfast/cli/LatencyHistogram", name := "add", desc := "(Lcom/example/holdfast/holdfast/cli/LatencyHistogram;)V" } : Jvm.MethodName) prog_36_method_3_code (3 : Nat) (Option.none : Option Jvm.ClassFile.FieldType), Jvm.Cond.code ({ cls := "com/example/holdfast/holdfast/cli/LatencyHistogram", name := "record", desc := "(J)V" } : Jvm.MethodName) prog_36_method_2_code (5 : Nat) (Option.none : Option Jvm.ClassFile.FieldType), Jvm.Cond.code ({ cls := "java/lang/Math", name := "max", desc := "(JJ)J" } : Jvm.MethodName) jdk_29_method_66_code (4 : Nat) (Option.some Jvm.ClassFile.FieldType.long), Jvm.Cond.code ({ cls := "com/example/holdfast/holdfast/cli/LatencyHistogram", name := "bucket", desc := "(J)I" } : Jvm.MethodName) prog_36_method_6_code (5 : Nat) (Option.some Jvm.ClassFile.FieldType.int), Jvm.Cond.code ({ cls := "java/lang/Math", name := "min", desc := "(JJ)J" } : Jvm.MethodName) jdk_29_method_70_code (4 : Nat) (Option.some Jvm.ClassFile.FieldType.long), Jvm.Cond.code ({ cls := "java/lang/Long", name := "numberOfLeadingZeros", desc := "(J)I" } : Jvm.MethodName) jdk_35_method_48_code (3 : Nat) (Option.some Jvm.ClassFile.FieldType.int), Jvm.Cond.code ({ cls := "java/lang/Integer", name := "numberOfLeadingZeros", desc := "(I)I" } : Jvm.MethodName) jdk_33_method_47_code (2 : Nat) (Option.some Jvm.ClassFile.FieldType.int)]
set_option maxRecDepth 65536 in
theorem codes_eq : words1.filter isCode = codes1 := rfl
theorem w_codes : ∀ c ∈ words1.filter isCode, c.before args0 about1 = true := by
  rw [codes_eq]
  intro c hc
  simp only [codes1, List.mem_cons, List.not_mem_nil, or_false] at hc
  rcases hc with rfl | rfl | rfl | rfl | rfl | rfl | rfl | rfl | rfl | rfl | rfl | rfl | rfl | rfl | rfl | rfl | rfl
  · exact w_c0
  · exact w_c1
  · exact w_c2
  · exact w_c3
  · exact w_c4
  · exact w_c5
  · exact w_c6
  · exact w_c7
  · exact w_c8
  · exact w_c9
  · exact w_c10
  · exact w_c11
  · exact w_c12
  · exact w_c13
  · exact w_c14
  · exact w_c15
  · exact w_c16
set_option maxRecDepth 65536 in
theorem w_t1 : (words1.take 24).all (fun c => isCode c || c.before args0 about1) = true := by decide +kernel
set_option maxRecDepth 65536 in
theorem w_t2 : ((words1.drop 24).take 24).all (fun c => isCode c || c.before args0 about1) = true := by decide +kernel
set_option maxRecDepth 65536 in
theorem w_t3 : (((words1.drop 24).drop 24).take 24).all (fun c => isCode c || c.before args0 about1) = true := by decide +kernel
set_option maxRecDepth 65536 in
theorem w_t4 : (((words1.drop 24).drop 24).drop 24).all (fun c => isCode c || c.before args0 about1) = true := by decide +kernel
theorem w_tables : (allAtoms (Jvm.Cond.code x code maxLocals ret :: tables_1)).before args0 about1 = true := by
  rw [allAtoms_all]
  show words1.all (fun c => c.before args0 about1) = true
  refine all_split ?_ w_codes
  rw [← List.take_append_drop 24 words1, List.all_append, w_t1, ← List.take_append_drop 24 (words1.drop 24), List.all_append, w_t2, ← List.take_append_drop 24 ((words1.drop 24).drop 24), List.all_append, w_t3, w_t4]
  rfl
set_option maxRecDepth 65536 in
theorem w_rest : rest_1_c.before args0 about1 = true := by decide +kernel
set_option maxRecDepth 65536 in
theorem w_case : (Jvm.Cond.and given_1 narrow_1).before args0 about1 = true := by decide +kernel
theorem w_applies : (headSpec (Jvm.Cond.code x code maxLocals ret :: tables_1) room_1).applies x e0.platform about1 = true :=
  (Spec.applies_iff w_frames).mpr ⟨w_running, w_runnable, w_alone, w_named, w_hears, w_ripe, w_room, w_tables⟩
theorem atStart : AtStart classFile x code maxLocals ret World_1 tables_1 room_1 Calls_1 rest_1 Pre_1 launch0 p0 e0 about1 theMethod args0 below0 :=
  ⟨lists_1, trivial, launch0.admits_env _ _ _, launch0.least_env, fairChoices_fair.cas, fairChoices_fair.clock, w_frames, w_args, w_heap, w_applies, trivial, w_rest, w_case⟩
end start1
theorem witness_1 : WitnessClaimed_1 := ⟨start1.p0, start1.e0, start1.about1, start1.theMethod, start1.args0, start1.below0, start1.atStart⟩
end Jvm.Pilot.@@N@@
