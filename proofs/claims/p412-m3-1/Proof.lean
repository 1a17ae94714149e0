import JvmDerived
import JvmDerived.Pilot.@@N@@Statement
import JvmDerived.Pilot.@@N@@Code
set_option linter.unusedVariables false
set_option linter.unusedSimpArgs false
namespace Jvm.Pilot.@@N@@
open Jvm Jvm.ClassFile Sem Op Lib Jvm.Free Jvm.Stand Jvm.LawKit Jvm.RoadKit Bundle Jvm.Pilot.@@N@@.Jvm.D
open Jvm.Free.Fl
section OwnLayer
variable {p : Program} {l : Launch} {e : Env} {R : Room} {s : State} {m : MethodId} {args : Array Value} {below : List Frame} {meth : Method} {c : Code} {T : State} {locs : List Loc} {cells slots : Nat} {Z : State} {h h0 : Heap} {a : Addr} {a0 : Array Value}
/-- a walk's goal: from S the run comes to an end of which Q holds -/
def own_Goes (p : Program) (e : Env) (below : List Frame) (Q : State → Prop) (S : State) : Prop := ∃ t, Steps p.tables e below S t ∧ Q t
theorem own_go {Q : State → Prop} {S S' : State} (k : ∀ t, Steps p.tables e below S' t → Steps p.tables e below S t) (g : own_Goes p e below Q S') : own_Goes p e below Q S := by
  obtain ⟨t, h1, h2⟩ := g
  exact ⟨t, k t h1, h2⟩
def own_End (s : State) (below : List Frame) (rm : Room) (Q : Option Value → Heap → List Loc → Prop) (t : State) : Prop := t.status = .running ∧ ∃ v L, Ended t below (.returned v) ∧ Q v t.heap L ∧ FrameEnd s (.returned v) t L rm.cells rm.slots
/-- a method's contract at one start: arguments as', heap h0; what it leaves: Q -/
def own_Met (l : Launch) (Z : State) (y : MethodName) (bytes : ByteArray) (maxL : Nat) (ret : Option FieldType) (rm : Room) (ws : List Jvm.Cond) (as' : Array Value) (h0 : Heap) (Q : Option Value → Heap → List Loc → Prop) : Prop :=
  MetFree l y (head1 (Jvm.Cond.code y bytes maxL ret :: ws) rm) (fun a U => a = as' ∧ Z.Warmed39 U.vm ∧ U.heap = h0) (fun _ _ _ _ _ => True) (fun _ U o U' => ∃ v L, o = .returned v ∧ Q v U'.heap L ∧ FrameEnd U o U' L rm.cells rm.slots)
theorem own_met {y : MethodName} {bytes : ByteArray} {maxL : Nat} {ret : Option FieldType} {rm : Room} {ws : List Jvm.Cond} {as' : Array Value} {Q : Option Value → Heap → List Loc → Prop} (hp : plainFor y = true)
    (body : ∀ (p : Program) (e : Env) (s : State) (m : MethodId) (below : List Frame) (meth : Method) (c : Code) (s₁ : State), BodyLoose p l y (head1 (Jvm.Cond.code y bytes maxL ret :: ws) rm) bytes maxL ret e s m as' below meth c s₁ → c.maxLocals = maxL → Z.Warmed39 s.vm → s₁.heap = h0 → own_Goes p e below (own_End s below rm Q) (s₁.setTop (entryFrame m as' maxL))) :
    own_Met l Z y bytes maxL ret rm ws as' h0 Q := by
  refine MetFree.of_bodySF hp hisR ?_
  intro p e s m args below meth c s₁ Bd hml0 hP hK
  obtain ⟨rfl, hZ, hh⟩ := hP
  obtain ⟨t, h1, h2, v, L, h3, h4, h5⟩ := body p e s m below meth c s₁ Bd hml0 hZ (by rw [← hh, Bd.state]; rfl)
  exact ⟨t, _, h1, h2, h3, v, L, rfl, h4, h5⟩
/-- the end of a walk -/
theorem own_fin (X : Stand p l e R s m args below meth c T locs cells slots) (hlocks : meth.locks = false) {v : Option Value} (hv : meth.sig.returnType = none → v = none) {g : JFrame} {rm : Room} {Q : Option Value → Heap → List Loc → Prop}
    (st : ∀ fs, (∀ (f : JFrame) (acts : List Action), f.method = m → f.locked = none → f.entered = [] → (doReturn e (T.setTop f) acts v).1 = T.setFrames fs) → Steps p.tables e below (T.setTop g) (T.setFrames fs))
    (hQ : Q v T.heap locs) (hc : cells ≤ rm.cells) (hs : slots ≤ rm.slots) : own_Goes p e below (own_End s below rm Q) (T.setTop g) := by
  obtain ⟨fs, hr, hrun, hended, hW, hsame⟩ := X.leave (v := v) hv hlocks
  exact ⟨_, st fs hr, hrun, v, locs, hended, hQ, ⟨_, rfl⟩, hW, hsame.mono hc hs⟩
theorem own_notnone {t : FieldType} {v : Option Value} (q : meth.sig.returnType = some t) : meth.sig.returnType = none → v = none := fun h => by rw [q] at h; cases h
/-- nothing written, nothing made: the value alone -/
def own_Pure (v : Option Value) (h : Heap) (v' : Option Value) (h' : Heap) (L : List Loc) : Prop := v' = v ∧ h' = h ∧ L = []
theorem own_callS (X : Stand p l e R s m args below meth c T locs cells slots) (hx : p.tables.exec = Jvm.exec) (hZ : Z.Warmed39 s.vm) {own : String} {index : Nat} {y : MethodName} {bytes : ByteArray} {maxL : Nat} {ret : Option FieldType} {rm : Room} {as' : Array Value} {Q : Option Value → Heap → List Loc → Prop}
    (hown : s.vm.findClass own = some m.cls) (w1 : (Jvm.Cond.methodLink own index y).before a0 Z = true) (w2 : (Jvm.Cond.static y).before a0 Z = true) (w3 : (Jvm.Cond.initialized y.cls).before a0 Z = true) (w4 : (Jvm.Cond.code y bytes maxL ret).before a0 Z = true)
    (hy : y.cls ≠ "java/lang/invoke/MethodHandle" ∧ y.cls ≠ "java/lang/invoke/VarHandle") (hM : own_Met l Z y bytes maxL ret rm [] as' h Q) (eT : T.heap = h) {W : Nat} (hf : rm.frames + 1 ≤ R.frames) (hl : W + (maxL + 11) + rm.locals ≤ R.locals)
    {g : JFrame} (hg : g.method = m) (hsize : g.locals.size = c.maxLocals) {argsL rest : List Value} {ps : List FieldType} {r : Option FieldType} (hd : parseMethodDescriptor y.desc = some ⟨ps, r⟩) (hlen : argsL.length = ps.length)
    (hstack : g.stack = argsL.reverse ++ rest) (hW : 2 * g.monitorRoom + (rest.map fun v => v.category).sum ≤ W) (hdg : decode c.code g.pc = .ok (.invokestatic index, 3)) (has : argsL.toArray = as') (hc : cells + rm.cells ≤ R.cells) (hs : slots + rm.slots ≤ R.slots) :
    ∃ (v : Option Value) (T' : State) (L : List Loc), Stand p l e R s m args below meth c T' (locs ++ L) (cells + rm.cells) (slots + rm.slots) ∧ Q v T'.heap L ∧ ∀ target, Steps p.tables e below (T'.setTop { g with pc := g.pc + 3, stack := v.toList ++ rest }) target → Steps p.tables e below (T.setTop g) target := by
  obtain ⟨v, _, ⟨U, Ls, k, n⟩, -, X', ⟨Lc, hQ, l1, y1, z1⟩, st⟩ := Jvm.LawKit.callS X hx (y := y) hown (mvT hZ w1) (mvT hZ w2) (mvT hZ w3) (mvT hZ w4) hy (backOf (W := W) hM hZ w4 w3 hf hl) (g := g) hg hsize (argsL := argsL) (rest := rest) (lenOf hd hlen) hstack hW hdg (fun _ _ => ⟨has, eT, hc, hs⟩)
  dsimp only [Pt.U, Pt.locs, Pt.cells, Pt.slots] at X' l1 y1 z1 st hQ
  subst l1 y1 z1
  exact ⟨v, U, Lc, X', hQ, st⟩
theorem own_callP (X : Stand p l e R s m args below meth c T locs cells slots) (hx : p.tables.exec = Jvm.exec) (hZ : Z.Warmed39 s.vm) {own : String} {index : Nat} {y : MethodName} {bytes : ByteArray} {maxL : Nat} {ret : Option FieldType} {fr lo : Nat} {as' : Array Value} {v : Option Value}
    (hown : s.vm.findClass own = some m.cls) (w1 : (Jvm.Cond.methodLink own index y).before a0 Z = true) (w2 : (Jvm.Cond.static y).before a0 Z = true) (w3 : (Jvm.Cond.initialized y.cls).before a0 Z = true) (w4 : (Jvm.Cond.code y bytes maxL ret).before a0 Z = true)
    (hy : y.cls ≠ "java/lang/invoke/MethodHandle" ∧ y.cls ≠ "java/lang/invoke/VarHandle") (hM : own_Met l Z y bytes maxL ret ({ frames := fr, cells := 0, slots := 0, locals := lo } : Room) [] as' h (own_Pure v h)) (eT : T.heap = h) {W : Nat} (hf : fr + 1 ≤ R.frames) (hl : W + (maxL + 11) + lo ≤ R.locals)
    {g : JFrame} (hg : g.method = m) (hsize : g.locals.size = c.maxLocals) {argsL rest : List Value} {ps : List FieldType} {r : Option FieldType} (hd : parseMethodDescriptor y.desc = some ⟨ps, r⟩) (hlen : argsL.length = ps.length)
    (hstack : g.stack = argsL.reverse ++ rest) (hW : 2 * g.monitorRoom + (rest.map fun v => v.category).sum ≤ W) (hdg : decode c.code g.pc = .ok (.invokestatic index, 3)) (has : argsL.toArray = as') (hc : cells ≤ R.cells) (hs : slots ≤ R.slots) :
    ∃ T' : State, Stand p l e R s m args below meth c T' locs cells slots ∧ T'.heap = h ∧ ∀ target, Steps p.tables e below (T'.setTop { g with pc := g.pc + 3, stack := v.toList ++ rest }) target → Steps p.tables e below (T.setTop g) target := by
  obtain ⟨v', T', L, X', ⟨q1, q2, q3⟩, st⟩ := own_callS X hx hZ hown w1 w2 w3 w4 hy hM eT hf hl hg hsize hd hlen hstack hW hdg has hc hs
  subst q1 q3
  rw [List.append_nil] at X'
  exact ⟨T', X', q2, st⟩
theorem own_callV (X : Stand p l e R s m args below meth c T locs cells slots) (hx : p.tables.exec = Jvm.exec) (hZ : Z.Warmed39 s.vm) {own C : String} {index : Nat} {y z : MethodName} {bytes : ByteArray} {maxL : Nat} {ret : Option FieldType} {rm : Room} {as' : Array Value} {Q : Option Value → Heap → List Loc → Prop}
    (hown : s.vm.findClass own = some m.cls) (w1 : (Jvm.Cond.methodLink own index y).before a0 Z = true) (w2 : (Jvm.Cond.declares y).before a0 Z = true) (w3 : (Jvm.Cond.selects C y z).before a0 Z = true) (w5 : (Jvm.Cond.instanceMethod z).before a0 Z = true) (w6 : (Jvm.Cond.initialized z.cls).before a0 Z = true) (w4 : (Jvm.Cond.code z bytes maxL ret).before a0 Z = true) (hnf : NotFace s y)
    (hy : y.cls ≠ "java/lang/invoke/MethodHandle" ∧ y.cls ≠ "java/lang/invoke/VarHandle") (hM : own_Met l Z z bytes maxL ret rm [] as' h Q) (eT : T.heap = h) (E : Exa Z h a C) {W : Nat} (hf : rm.frames + 1 ≤ R.frames) (hl : W + (maxL + 11) + rm.locals ≤ R.locals)
    {g : JFrame} (hg : g.method = m) (hsize : g.locals.size = c.maxLocals) {argsL rest : List Value} {ps : List FieldType} {r : Option FieldType} (hd : parseMethodDescriptor y.desc = some ⟨ps, r⟩) (hlen : argsL.length = ps.length)
    (hstack : g.stack = argsL.reverse ++ .ref a :: rest) (hW : 2 * g.monitorRoom + (rest.map fun v => v.category).sum ≤ W) (hdg : decode c.code g.pc = .ok (.invokevirtual index, 3)) (has : (Value.ref a :: argsL).toArray = as') (hc : cells + rm.cells ≤ R.cells) (hs : slots + rm.slots ≤ R.slots) :
    ∃ (v : Option Value) (T' : State) (L : List Loc), Stand p l e R s m args below meth c T' (locs ++ L) (cells + rm.cells) (slots + rm.slots) ∧ Q v T'.heap L ∧ ∀ target, Steps p.tables e below (T'.setTop { g with pc := g.pc + 3, stack := v.toList ++ rest }) target → Steps p.tables e below (T.setTop g) target := by
  obtain ⟨cB, kB, b1, b2, b3⟩ := isOf (T := T) hZ eT E
  obtain ⟨v, _, ⟨U, Ls, k, n⟩, -, X', ⟨Lc, hQ, l1, y1, z1⟩, st⟩ := X.virtualBack hx (y := y) (z := z) hown (mvT hZ w1) (mvT hZ w2) hnf (mvT hZ w3) (mvT hZ w5) hy (backOf (W := W) hM hZ w4 w6 hf hl) b1 b3 (g := g) hg hsize (Steps.refl _) (argsL := argsL) (rest := rest) (lenOf hd hlen) hstack hW hdg (fun _ _ => ⟨has, eT, hc, hs⟩)
  dsimp only [Pt.U, Pt.locs, Pt.cells, Pt.slots] at X' l1 y1 z1 st hQ
  subst l1 y1 z1
  exact ⟨v, U, Lc, X', hQ, fun _ k => st.trans k⟩
theorem own_callI (X : Stand p l e R s m args below meth c T locs cells slots) (hx : p.tables.exec = Jvm.exec) (hZ : Z.Warmed39 s.vm) {own : String} {index : Nat} {y : MethodName} {bytes : ByteArray} {maxL : Nat} {rm : Room} {as' : Array Value} {Q : Option Value → Heap → List Loc → Prop}
    (hy1 : y.name = "<init>") (hown : s.vm.findClass own = some m.cls) (w1 : (Jvm.Cond.methodLink own index y).before a0 Z = true) (w2 : (Jvm.Cond.instanceMethod y).before a0 Z = true) (w3 : (Jvm.Cond.initialized y.cls).before a0 Z = true) (w4 : (Jvm.Cond.code y bytes maxL none).before a0 Z = true)
    (hy : y.cls ≠ "java/lang/invoke/MethodHandle" ∧ y.cls ≠ "java/lang/invoke/VarHandle") (hM : own_Met l Z y bytes maxL none rm [] as' h Q) (eT : T.heap = h) {W : Nat} (hf : rm.frames + 1 ≤ R.frames) (hl : W + (maxL + 11) + rm.locals ≤ R.locals)
    {g : JFrame} (hg : g.method = m) (hsize : g.locals.size = c.maxLocals) {argsL rest : List Value} {ps : List FieldType} {r : Option FieldType} (hd : parseMethodDescriptor y.desc = some ⟨ps, r⟩) (hlen : argsL.length = ps.length)
    (hstack : g.stack = argsL.reverse ++ .ref a :: rest) (hW : 2 * g.monitorRoom + (rest.map fun v => v.category).sum ≤ W) (hdg : decode c.code g.pc = .ok (.invokespecial index, 3)) (has : (Value.ref a :: argsL).toArray = as') (hc : cells + rm.cells ≤ R.cells) (hs : slots + rm.slots ≤ R.slots) :
    ∃ (v : Option Value) (T' : State) (L : List Loc), Stand p l e R s m args below meth c T' (locs ++ L) (cells + rm.cells) (slots + rm.slots) ∧ Q v T'.heap L ∧ ∀ target, Steps p.tables e below (T'.setTop { g with pc := g.pc + 3, stack := v.toList ++ rest }) target → Steps p.tables e below (T.setTop g) target := by
  obtain ⟨v, _, ⟨U, Ls, k, n⟩, -, X', ⟨Lc, hQ, l1, y1, z1⟩, st⟩ := X.specialBack hx (y := y) hy1 hown (mvT hZ w1) (mvT hZ w2) (mvT hZ w4) hy (backOf (W := W) hM hZ w4 w3 hf hl) (g := g) hg hsize (Steps.refl _) (a := a) (argsL := argsL) (rest := rest) (lenOf hd hlen) hstack hW hdg (fun _ _ => ⟨has, eT, hc, hs⟩)
  dsimp only [Pt.U, Pt.locs, Pt.cells, Pt.slots] at X' l1 y1 z1 st hQ
  subst l1 y1 z1
  exact ⟨v, U, Lc, X', hQ, fun _ k => st.trans k⟩
theorem own_len (X : Stand p l e R s m args below meth c T locs cells slots) (hx : p.tables.exec = Jvm.exec) (hZ : Z.Warmed39 s.vm) (eT : T.heap = h) {cl : Cell} {ty : FieldType} (A : Arr Z h a cl ty) {z : Int32} (S : cl.slots.size = z.toNatClampNeg) (N : ¬ z < 0) {g : JFrame} (hg : g.method = m) {rest : List Value} (hs : g.stack = .ref a :: rest) (hd : decode c.code g.pc = .ok (.arraylength, 1)) :
    ∀ target, Steps p.tables e below (T.setTop { g with pc := g.pc + 1, stack := .int z :: rest }) target → Steps p.tables e below (T.setTop g) target := by
  intro target k
  refine X.arraylength hx (by rw [eT]; exact A.1) (State.isArrayOf_alike hZ.alike A.2.1) hg hs hd _ ?_
  rw [len_of S N]
  exact k
theorem own_dal (X : Stand p l e R s m args below meth c T locs cells slots) (hx : p.tables.exec = Jvm.exec) (hZ : Z.Warmed39 s.vm) (eT : T.heap = h) {cl : Cell} (A : Arr Z h a cl .double) {j : Int32} {v : Value} (hj : ¬ (j < 0 ∨ cl.slots.size ≤ j.toNatClampNeg)) (hv : cl.slots[j.toNatClampNeg]? = some v) {g : JFrame} (hg : g.method = m) {rest : List Value} (hs : g.stack = .int j :: .ref a :: rest) (hd : decode c.code g.pc = .ok (.daload, 1)) :
    ∀ target, Steps p.tables e below (T.setTop { g with pc := g.pc + 1, stack := v :: rest }) target → Steps p.tables e below (T.setTop g) target :=
  fun target k => X.daload hx (by rw [eT]; exact A.1) (State.isArrayOf_alike hZ.alike A.2.1) A.2.2 hj hv hg hs hd target k
theorem own_lal (X : Stand p l e R s m args below meth c T locs cells slots) (hx : p.tables.exec = Jvm.exec) (hZ : Z.Warmed39 s.vm) (eT : T.heap = h) {cl : Cell} (A : Arr Z h a cl .long) {j : Int32} {v : Value} (hj : ¬ (j < 0 ∨ cl.slots.size ≤ j.toNatClampNeg)) (hv : cl.slots[j.toNatClampNeg]? = some v) {g : JFrame} (hg : g.method = m) {rest : List Value} (hs : g.stack = .int j :: .ref a :: rest) (hd : decode c.code g.pc = .ok (.laload, 1)) :
    ∀ target, Steps p.tables e below (T.setTop { g with pc := g.pc + 1, stack := v :: rest }) target → Steps p.tables e below (T.setTop g) target :=
  fun target k => X.laload hx (by rw [eT]; exact A.1) (State.isArrayOf_alike hZ.alike A.2.1) A.2.2 hj hv hg hs hd target k
theorem own_ial (X : Stand p l e R s m args below meth c T locs cells slots) (hx : p.tables.exec = Jvm.exec) (hZ : Z.Warmed39 s.vm) (eT : T.heap = h) {cl : Cell} (A : Arr Z h a cl .int) {j : Int32} {v : Value} (hj : ¬ (j < 0 ∨ cl.slots.size ≤ j.toNatClampNeg)) (hv : cl.slots[j.toNatClampNeg]? = some v) {g : JFrame} (hg : g.method = m) {rest : List Value} (hs : g.stack = .int j :: .ref a :: rest) (hd : decode c.code g.pc = .ok (.iaload, 1)) :
    ∀ target, Steps p.tables e below (T.setTop { g with pc := g.pc + 1, stack := v :: rest }) target → Steps p.tables e below (T.setTop g) target :=
  fun target k => X.iaload hx (by rw [eT]; exact A.1) (State.isArrayOf_alike hZ.alike A.2.1) A.2.2 hj hv hg hs hd target k
/-- the returns -/
theorem own_retV {rm : Room} {Q : Option Value → Heap → List Loc → Prop} (X : Stand p l e R s m args below meth c T locs cells slots) (hx : p.tables.exec = Jvm.exec) (hlocks : meth.locks = false) (hret : meth.sig.returnType = none) {pc : Nat} {Ls : Array Slot} (hd : decode c.code pc = .ok (.return_, 1)) (hQ : Q none T.heap locs) (hc : cells ≤ rm.cells) (hs : slots ≤ rm.slots) :
    own_Goes p e below (own_End s below rm Q) (T.setTop (mkF m pc Ls [])) :=
  own_fin X hlocks (v := none) (fun _ => rfl) (fun fs hr => X.returnOut hx hret hd hr) hQ hc hs
theorem own_retD {rm : Room} {Q : Option Value → Heap → List Loc → Prop} (X : Stand p l e R s m args below meth c T locs cells slots) (hx : p.tables.exec = Jvm.exec) (hlocks : meth.locks = false) (hret : meth.sig.returnType = some .double) {pc : Nat} {Ls : Array Slot} {z : UInt64} {rest : List Value} (hd : decode c.code pc = .ok (.dreturn, 1)) (hQ : Q (some (.double z)) T.heap locs) (hc : cells ≤ rm.cells) (hs : slots ≤ rm.slots) :
    own_Goes p e below (own_End s below rm Q) (T.setTop (mkF m pc Ls (.double z :: rest))) :=
  own_fin X hlocks (own_notnone hret) (fun fs hr => retOut X hx hret rfl (Or.inr (Or.inr (Or.inl ⟨rfl, rfl, z, rfl⟩))) hd hr) hQ hc hs
theorem own_retJ {rm : Room} {Q : Option Value → Heap → List Loc → Prop} (X : Stand p l e R s m args below meth c T locs cells slots) (hx : p.tables.exec = Jvm.exec) (hlocks : meth.locks = false) (hret : meth.sig.returnType = some .long) {pc : Nat} {Ls : Array Slot} {z : Int64} {rest : List Value} (hd : decode c.code pc = .ok (.lreturn, 1)) (hQ : Q (some (.long z)) T.heap locs) (hc : cells ≤ rm.cells) (hs : slots ≤ rm.slots) :
    own_Goes p e below (own_End s below rm Q) (T.setTop (mkF m pc Ls (.long z :: rest))) :=
  own_fin X hlocks (own_notnone hret) (fun fs hr => retOut X hx hret rfl (Or.inr (Or.inl ⟨rfl, rfl, z, rfl⟩)) hd hr) hQ hc hs
theorem own_retI {rm : Room} {Q : Option Value → Heap → List Loc → Prop} (X : Stand p l e R s m args below meth c T locs cells slots) (hx : p.tables.exec = Jvm.exec) (hlocks : meth.locks = false) (hret : meth.sig.returnType = some .int) {pc : Nat} {Ls : Array Slot} {z : Int32} {rest : List Value} (hd : decode c.code pc = .ok (.ireturn, 1)) (hQ : Q (some (.int z)) T.heap locs) (hc : cells ≤ rm.cells) (hs : slots ≤ rm.slots) :
    own_Goes p e below (own_End s below rm Q) (T.setTop (mkF m pc Ls (.int z :: rest))) :=
  own_fin X hlocks (own_notnone hret) (fun fs hr => retOut X hx hret rfl (Or.inl ⟨rfl, Or.inl rfl, z, rfl⟩) hd hr) hQ hc hs
theorem own_retZ {rm : Room} {Q : Option Value → Heap → List Loc → Prop} (X : Stand p l e R s m args below meth c T locs cells slots) (hx : p.tables.exec = Jvm.exec) (hlocks : meth.locks = false) (hret : meth.sig.returnType = some .boolean) {pc : Nat} {Ls : Array Slot} {z : Int32} (hz : narrow .boolean (.int z) = .int z) {rest : List Value} (hd : decode c.code pc = .ok (.ireturn, 1)) (hQ : Q (some (.int z)) T.heap locs) (hc : cells ≤ rm.cells) (hs : slots ≤ rm.slots) :
    own_Goes p e below (own_End s below rm Q) (T.setTop (mkF m pc Ls (.int z :: rest))) :=
  own_fin X hlocks (own_notnone hret) (fun fs hr => retOut X hx hret hz (Or.inl ⟨rfl, Or.inr (Or.inl rfl), z, rfl⟩) hd hr) hQ hc hs
theorem own_retA {rm : Room} {Q : Option Value → Heap → List Loc → Prop} (X : Stand p l e R s m args below meth c T locs cells slots) (hx : p.tables.exec = Jvm.exec) (hlocks : meth.locks = false) {t : FieldType} (hret : meth.sig.returnType = some t) (ht : t.isReference = true) {pc : Nat} {Ls : Array Slot} {z : Addr} (hn : narrow t (.ref z) = .ref z) {rest : List Value} (hd : decode c.code pc = .ok (.areturn, 1)) (hQ : Q (some (.ref z)) T.heap locs) (hc : cells ≤ rm.cells) (hs : slots ≤ rm.slots) :
    own_Goes p e below (own_End s below rm Q) (T.setTop (mkF m pc Ls (.ref z :: rest))) :=
  own_fin X hlocks (own_notnone hret) (fun fs hr => retOut X hx hret hn (Or.inr (Or.inr (Or.inr (Or.inr ⟨rfl, ht, rfl⟩)))) hd hr) hQ hc hs
theorem own_set_get {cl : Cell} {j i : Nat} {v : Value} (hj : j < cl.slots.size) : (cl.setSlot j v).slots[i]? = if i = j then some v else cl.slots[i]? := by
  by_cases q : i = j
  · subst q; simp [Cell.setSlot, hj]
  · simp [Cell.setSlot, q, Array.getElem?_setIfInBounds_ne (Ne.symm q)]
end OwnLayer

theorem dI_0 : decode prog_36_method_1_code 0 = .ok (.aload_n 0, 1) := by decide +kernel
theorem dI_1 : decode prog_36_method_1_code 1 = .ok (.invokespecial 5, 3) := by decide +kernel
theorem dI_4 : decode prog_36_method_1_code 4 = .ok (.aload_n 0, 1) := by decide +kernel
theorem dI_5 : decode prog_36_method_1_code 5 = .ok (.sipush 14336, 3) := by decide +kernel
theorem dI_8 : decode prog_36_method_1_code 8 = .ok (.newarray .long, 2) := by decide +kernel
theorem dI_10 : decode prog_36_method_1_code 10 = .ok (.putfield 11, 3) := by decide +kernel
theorem dI_13 : decode prog_36_method_1_code 13 = .ok (.return_, 1) := by decide +kernel
theorem dR_0 : decode prog_36_method_2_code 0 = .ok (.lconst 0, 1) := by decide +kernel
theorem dR_1 : decode prog_36_method_2_code 1 = .ok (.lload_n 1, 1) := by decide +kernel
theorem dR_2 : decode prog_36_method_2_code 2 = .ok (.invokestatic 15, 3) := by decide +kernel
theorem dR_5 : decode prog_36_method_2_code 5 = .ok (.lstore_n 3, 1) := by decide +kernel
theorem dR_6 : decode prog_36_method_2_code 6 = .ok (.aload_n 0, 1) := by decide +kernel
theorem dR_7 : decode prog_36_method_2_code 7 = .ok (.getfield 11, 3) := by decide +kernel
theorem dR_10 : decode prog_36_method_2_code 10 = .ok (.lload_n 3, 1) := by decide +kernel
theorem dR_11 : decode prog_36_method_2_code 11 = .ok (.invokestatic 21, 3) := by decide +kernel
theorem dR_14 : decode prog_36_method_2_code 14 = .ok (.dup2, 1) := by decide +kernel
theorem dR_15 : decode prog_36_method_2_code 15 = .ok (.laload, 1) := by decide +kernel
theorem dR_16 : decode prog_36_method_2_code 16 = .ok (.lconst 1, 1) := by decide +kernel
theorem dR_17 : decode prog_36_method_2_code 17 = .ok (.ladd, 1) := by decide +kernel
theorem dR_18 : decode prog_36_method_2_code 18 = .ok (.lastore, 1) := by decide +kernel
theorem dR_19 : decode prog_36_method_2_code 19 = .ok (.aload_n 0, 1) := by decide +kernel
theorem dR_20 : decode prog_36_method_2_code 20 = .ok (.dup, 1) := by decide +kernel
theorem dR_21 : decode prog_36_method_2_code 21 = .ok (.getfield 25, 3) := by decide +kernel
theorem dR_24 : decode prog_36_method_2_code 24 = .ok (.lconst 1, 1) := by decide +kernel
theorem dR_25 : decode prog_36_method_2_code 25 = .ok (.ladd, 1) := by decide +kernel
theorem dR_26 : decode prog_36_method_2_code 26 = .ok (.putfield 25, 3) := by decide +kernel
theorem dR_29 : decode prog_36_method_2_code 29 = .ok (.aload_n 0, 1) := by decide +kernel
theorem dR_30 : decode prog_36_method_2_code 30 = .ok (.dup, 1) := by decide +kernel
theorem dR_31 : decode prog_36_method_2_code 31 = .ok (.getfield 29, 3) := by decide +kernel
theorem dR_34 : decode prog_36_method_2_code 34 = .ok (.lload_n 3, 1) := by decide +kernel
theorem dR_35 : decode prog_36_method_2_code 35 = .ok (.ladd, 1) := by decide +kernel
theorem dR_36 : decode prog_36_method_2_code 36 = .ok (.putfield 29, 3) := by decide +kernel
theorem dR_39 : decode prog_36_method_2_code 39 = .ok (.return_, 1) := by decide +kernel
theorem dM_0 : decode jdk_29_method_66_code 0 = .ok (.lload_n 0, 1) := by decide +kernel
theorem dM_1 : decode jdk_29_method_66_code 1 = .ok (.lload_n 2, 1) := by decide +kernel
theorem dM_2 : decode jdk_29_method_66_code 2 = .ok (.lcmp, 1) := by decide +kernel
theorem dM_3 : decode jdk_29_method_66_code 3 = .ok (.ifCond .lt 7, 3) := by decide +kernel
theorem dM_6 : decode jdk_29_method_66_code 6 = .ok (.lload_n 0, 1) := by decide +kernel
theorem dM_7 : decode jdk_29_method_66_code 7 = .ok (.goto 4, 3) := by decide +kernel
theorem dM_10 : decode jdk_29_method_66_code 10 = .ok (.lload_n 2, 1) := by decide +kernel
theorem dM_11 : decode jdk_29_method_66_code 11 = .ok (.lreturn, 1) := by decide +kernel
theorem dB_0 : decode prog_36_method_6_code 0 = .ok (.lload_n 0, 1) := by decide +kernel
theorem dB_1 : decode prog_36_method_6_code 1 = .ok (.ldc2_w 40, 3) := by decide +kernel
theorem dB_4 : decode prog_36_method_6_code 4 = .ok (.lcmp, 1) := by decide +kernel
theorem dB_5 : decode prog_36_method_6_code 5 = .ok (.ifCond .ge 6, 3) := by decide +kernel
theorem dB_8 : decode prog_36_method_6_code 8 = .ok (.lload_n 0, 1) := by decide +kernel
theorem dB_9 : decode prog_36_method_6_code 9 = .ok (.l2i, 1) := by decide +kernel
theorem dB_10 : decode prog_36_method_6_code 10 = .ok (.ireturn, 1) := by decide +kernel
theorem dB_11 : decode prog_36_method_6_code 11 = .ok (.bipush 63, 2) := by decide +kernel
theorem dB_13 : decode prog_36_method_6_code 13 = .ok (.lload_n 0, 1) := by decide +kernel
theorem dB_14 : decode prog_36_method_6_code 14 = .ok (.invokestatic 42, 3) := by decide +kernel
theorem dB_17 : decode prog_36_method_6_code 17 = .ok (.isub, 1) := by decide +kernel
theorem dB_18 : decode prog_36_method_6_code 18 = .ok (.istore_n 2, 1) := by decide +kernel
theorem dB_19 : decode prog_36_method_6_code 19 = .ok (.iload_n 2, 1) := by decide +kernel
theorem dB_20 : decode prog_36_method_6_code 20 = .ok (.bipush 8, 2) := by decide +kernel
theorem dB_22 : decode prog_36_method_6_code 22 = .ok (.isub, 1) := by decide +kernel
theorem dB_23 : decode prog_36_method_6_code 23 = .ok (.istore_n 3, 1) := by decide +kernel
theorem dB_24 : decode prog_36_method_6_code 24 = .ok (.lload_n 0, 1) := by decide +kernel
theorem dB_25 : decode prog_36_method_6_code 25 = .ok (.iload_n 3, 1) := by decide +kernel
theorem dB_26 : decode prog_36_method_6_code 26 = .ok (.lushr, 1) := by decide +kernel
theorem dB_27 : decode prog_36_method_6_code 27 = .ok (.l2i, 1) := by decide +kernel
theorem dB_28 : decode prog_36_method_6_code 28 = .ok (.sipush 256, 3) := by decide +kernel
theorem dB_31 : decode prog_36_method_6_code 31 = .ok (.isub, 1) := by decide +kernel
theorem dB_32 : decode prog_36_method_6_code 32 = .ok (.istore 4, 2) := by decide +kernel
theorem dB_34 : decode prog_36_method_6_code 34 = .ok (.sipush 512, 3) := by decide +kernel
theorem dB_37 : decode prog_36_method_6_code 37 = .ok (.iload_n 2, 1) := by decide +kernel
theorem dB_38 : decode prog_36_method_6_code 38 = .ok (.bipush 9, 2) := by decide +kernel
theorem dB_40 : decode prog_36_method_6_code 40 = .ok (.isub, 1) := by decide +kernel
theorem dB_41 : decode prog_36_method_6_code 41 = .ok (.sipush 256, 3) := by decide +kernel
theorem dB_44 : decode prog_36_method_6_code 44 = .ok (.imul, 1) := by decide +kernel
theorem dB_45 : decode prog_36_method_6_code 45 = .ok (.iadd, 1) := by decide +kernel
theorem dB_46 : decode prog_36_method_6_code 46 = .ok (.iload 4, 2) := by decide +kernel
theorem dB_48 : decode prog_36_method_6_code 48 = .ok (.iadd, 1) := by decide +kernel
theorem dB_49 : decode prog_36_method_6_code 49 = .ok (.ireturn, 1) := by decide +kernel
theorem dE_0 : decode prog_36_method_4_code 0 = .ok (.aload_n 0, 1) := by decide +kernel
theorem dE_1 : decode prog_36_method_4_code 1 = .ok (.getfield 25, 3) := by decide +kernel
theorem dE_4 : decode prog_36_method_4_code 4 = .ok (.lconst 0, 1) := by decide +kernel
theorem dE_5 : decode prog_36_method_4_code 5 = .ok (.lcmp, 1) := by decide +kernel
theorem dE_6 : decode prog_36_method_4_code 6 = .ok (.ifCond .ne 7, 3) := by decide +kernel
theorem dE_9 : decode prog_36_method_4_code 9 = .ok (.dconst 0, 1) := by decide +kernel
theorem dE_10 : decode prog_36_method_4_code 10 = .ok (.goto 14, 3) := by decide +kernel
theorem dE_13 : decode prog_36_method_4_code 13 = .ok (.aload_n 0, 1) := by decide +kernel
theorem dE_14 : decode prog_36_method_4_code 14 = .ok (.getfield 29, 3) := by decide +kernel
theorem dE_17 : decode prog_36_method_4_code 17 = .ok (.l2d, 1) := by decide +kernel
theorem dE_18 : decode prog_36_method_4_code 18 = .ok (.aload_n 0, 1) := by decide +kernel
theorem dE_19 : decode prog_36_method_4_code 19 = .ok (.getfield 25, 3) := by decide +kernel
theorem dE_22 : decode prog_36_method_4_code 22 = .ok (.l2d, 1) := by decide +kernel
theorem dE_23 : decode prog_36_method_4_code 23 = .ok (.ddiv, 1) := by decide +kernel
theorem dE_24 : decode prog_36_method_4_code 24 = .ok (.dreturn, 1) := by decide +kernel
theorem dL_0 : decode jdk_35_method_48_code 0 = .ok (.lload_n 0, 1) := by decide +kernel
theorem dL_1 : decode jdk_35_method_48_code 1 = .ok (.bipush 32, 2) := by decide +kernel
theorem dL_3 : decode jdk_35_method_48_code 3 = .ok (.lushr, 1) := by decide +kernel
theorem dL_4 : decode jdk_35_method_48_code 4 = .ok (.l2i, 1) := by decide +kernel
theorem dL_5 : decode jdk_35_method_48_code 5 = .ok (.istore_n 2, 1) := by decide +kernel
theorem dL_6 : decode jdk_35_method_48_code 6 = .ok (.iload_n 2, 1) := by decide +kernel
theorem dL_7 : decode jdk_35_method_48_code 7 = .ok (.ifCond .ne 14, 3) := by decide +kernel
theorem dL_10 : decode jdk_35_method_48_code 10 = .ok (.bipush 32, 2) := by decide +kernel
theorem dL_12 : decode jdk_35_method_48_code 12 = .ok (.lload_n 0, 1) := by decide +kernel
theorem dL_13 : decode jdk_35_method_48_code 13 = .ok (.l2i, 1) := by decide +kernel
theorem dL_14 : decode jdk_35_method_48_code 14 = .ok (.invokestatic 308, 3) := by decide +kernel
theorem dL_17 : decode jdk_35_method_48_code 17 = .ok (.iadd, 1) := by decide +kernel
theorem dL_18 : decode jdk_35_method_48_code 18 = .ok (.goto 7, 3) := by decide +kernel
theorem dL_21 : decode jdk_35_method_48_code 21 = .ok (.iload_n 2, 1) := by decide +kernel
theorem dL_22 : decode jdk_35_method_48_code 22 = .ok (.invokestatic 308, 3) := by decide +kernel
theorem dL_25 : decode jdk_35_method_48_code 25 = .ok (.ireturn, 1) := by decide +kernel
theorem dN_0 : decode jdk_33_method_47_code 0 = .ok (.iload_n 0, 1) := by decide +kernel
theorem dN_1 : decode jdk_33_method_47_code 1 = .ok (.ifCond .gt 14, 3) := by decide +kernel
theorem dN_4 : decode jdk_33_method_47_code 4 = .ok (.iload_n 0, 1) := by decide +kernel
theorem dN_5 : decode jdk_33_method_47_code 5 = .ok (.ifCond .ne 8, 3) := by decide +kernel
theorem dN_8 : decode jdk_33_method_47_code 8 = .ok (.bipush 32, 2) := by decide +kernel
theorem dN_10 : decode jdk_33_method_47_code 10 = .ok (.goto 4, 3) := by decide +kernel
theorem dN_13 : decode jdk_33_method_47_code 13 = .ok (.iconst 0, 1) := by decide +kernel
theorem dN_14 : decode jdk_33_method_47_code 14 = .ok (.ireturn, 1) := by decide +kernel
theorem dN_15 : decode jdk_33_method_47_code 15 = .ok (.bipush 31, 2) := by decide +kernel
theorem dN_17 : decode jdk_33_method_47_code 17 = .ok (.istore_n 1, 1) := by decide +kernel
theorem dN_18 : decode jdk_33_method_47_code 18 = .ok (.iload_n 0, 1) := by decide +kernel
theorem dN_19 : decode jdk_33_method_47_code 19 = .ok (.ldc_w 264, 3) := by decide +kernel
theorem dN_22 : decode jdk_33_method_47_code 22 = .ok (.if_icmp .lt 11, 3) := by decide +kernel
theorem dN_25 : decode jdk_33_method_47_code 25 = .ok (.iinc 1 (-16), 3) := by decide +kernel
theorem dN_28 : decode jdk_33_method_47_code 28 = .ok (.iload_n 0, 1) := by decide +kernel
theorem dN_29 : decode jdk_33_method_47_code 29 = .ok (.bipush 16, 2) := by decide +kernel
theorem dN_31 : decode jdk_33_method_47_code 31 = .ok (.iushr, 1) := by decide +kernel
theorem dN_32 : decode jdk_33_method_47_code 32 = .ok (.istore_n 0, 1) := by decide +kernel
theorem dN_33 : decode jdk_33_method_47_code 33 = .ok (.iload_n 0, 1) := by decide +kernel
theorem dN_34 : decode jdk_33_method_47_code 34 = .ok (.sipush 256, 3) := by decide +kernel
theorem dN_37 : decode jdk_33_method_47_code 37 = .ok (.if_icmp .lt 11, 3) := by decide +kernel
theorem dN_40 : decode jdk_33_method_47_code 40 = .ok (.iinc 1 (-8), 3) := by decide +kernel
theorem dN_43 : decode jdk_33_method_47_code 43 = .ok (.iload_n 0, 1) := by decide +kernel
theorem dN_44 : decode jdk_33_method_47_code 44 = .ok (.bipush 8, 2) := by decide +kernel
theorem dN_46 : decode jdk_33_method_47_code 46 = .ok (.iushr, 1) := by decide +kernel
theorem dN_47 : decode jdk_33_method_47_code 47 = .ok (.istore_n 0, 1) := by decide +kernel
theorem dN_48 : decode jdk_33_method_47_code 48 = .ok (.iload_n 0, 1) := by decide +kernel
theorem dN_49 : decode jdk_33_method_47_code 49 = .ok (.bipush 16, 2) := by decide +kernel
theorem dN_51 : decode jdk_33_method_47_code 51 = .ok (.if_icmp .lt 10, 3) := by decide +kernel
theorem dN_54 : decode jdk_33_method_47_code 54 = .ok (.iinc 1 (-4), 3) := by decide +kernel
theorem dN_57 : decode jdk_33_method_47_code 57 = .ok (.iload_n 0, 1) := by decide +kernel
theorem dN_58 : decode jdk_33_method_47_code 58 = .ok (.iconst 4, 1) := by decide +kernel
theorem dN_59 : decode jdk_33_method_47_code 59 = .ok (.iushr, 1) := by decide +kernel
theorem dN_60 : decode jdk_33_method_47_code 60 = .ok (.istore_n 0, 1) := by decide +kernel
theorem dN_61 : decode jdk_33_method_47_code 61 = .ok (.iload_n 0, 1) := by decide +kernel
theorem dN_62 : decode jdk_33_method_47_code 62 = .ok (.iconst 4, 1) := by decide +kernel
theorem dN_63 : decode jdk_33_method_47_code 63 = .ok (.if_icmp .lt 10, 3) := by decide +kernel
theorem dN_66 : decode jdk_33_method_47_code 66 = .ok (.iinc 1 (-2), 3) := by decide +kernel
theorem dN_69 : decode jdk_33_method_47_code 69 = .ok (.iload_n 0, 1) := by decide +kernel
theorem dN_70 : decode jdk_33_method_47_code 70 = .ok (.iconst 2, 1) := by decide +kernel
theorem dN_71 : decode jdk_33_method_47_code 71 = .ok (.iushr, 1) := by decide +kernel
theorem dN_72 : decode jdk_33_method_47_code 72 = .ok (.istore_n 0, 1) := by decide +kernel
theorem dN_73 : decode jdk_33_method_47_code 73 = .ok (.iload_n 1, 1) := by decide +kernel
theorem dN_74 : decode jdk_33_method_47_code 74 = .ok (.iload_n 0, 1) := by decide +kernel
theorem dN_75 : decode jdk_33_method_47_code 75 = .ok (.iconst 1, 1) := by decide +kernel
theorem dN_76 : decode jdk_33_method_47_code 76 = .ok (.iushr, 1) := by decide +kernel
theorem dN_77 : decode jdk_33_method_47_code 77 = .ok (.isub, 1) := by decide +kernel
theorem dN_78 : decode jdk_33_method_47_code 78 = .ok (.ireturn, 1) := by decide +kernel
theorem pn_H : plainName "com/example/holdfast/holdfast/cli/LatencyHistogram" = true := by first | (simp [plainName, overriddenIn]; done) | decide +kernel
theorem pn_L : plainName "java/lang/Long" = true := by first | (simp [plainName, overriddenIn]; done) | decide +kernel
theorem pn_N : plainName "java/lang/Integer" = true := by first | (simp [plainName, overriddenIn]; done) | decide +kernel
theorem pd_V : parseMethodDescriptor "()V" = some ⟨[], none⟩ := by decide +kernel
theorem pd_JV : parseMethodDescriptor "(J)V" = some ⟨[.long], none⟩ := by decide +kernel
theorem pd_JJJ : parseMethodDescriptor "(JJ)J" = some ⟨[.long, .long], some .long⟩ := by decide +kernel
theorem pd_JI : parseMethodDescriptor "(J)I" = some ⟨[.long], some .int⟩ := by decide +kernel
theorem pd_II : parseMethodDescriptor "(I)I" = some ⟨[.int], some .int⟩ := by decide +kernel
theorem pd_D : parseMethodDescriptor "()D" = some ⟨[], some .double⟩ := by decide +kernel
theorem ef_I (m : MethodId) (x0 : Addr) : entryFrame m #[(.ref x0)] 1 = mkF m 0 #[.val (.ref x0)] [] := by first | (simp [entryFrame, mkF, argsToLocals, Value.category, maxLocals]; done) | rfl
theorem ef_R (m : MethodId) (x0 : Addr) (x1 : Int64) : entryFrame m #[(.ref x0), (.long x1)] 5 = mkF m 0 #[.val (.ref x0), .val (.long x1), .second, .unset, .unset] [] := by first | (simp [entryFrame, mkF, argsToLocals, Value.category, maxLocals]; done) | rfl
theorem ef_M (m : MethodId) (x0 : Int64) (x1 : Int64) : entryFrame m #[(.long x0), (.long x1)] 4 = mkF m 0 #[.val (.long x0), .second, .val (.long x1), .second] [] := by first | (simp [entryFrame, mkF, argsToLocals, Value.category, maxLocals]; done) | rfl
theorem ef_B (m : MethodId) (x0 : Int64) : entryFrame m #[(.long x0)] 5 = mkF m 0 #[.val (.long x0), .second, .unset, .unset, .unset] [] := by first | (simp [entryFrame, mkF, argsToLocals, Value.category, maxLocals]; done) | rfl
theorem ef_L (m : MethodId) (x0 : Int64) : entryFrame m #[(.long x0)] 3 = mkF m 0 #[.val (.long x0), .second, .unset] [] := by first | (simp [entryFrame, mkF, argsToLocals, Value.category, maxLocals]; done) | rfl
theorem ef_N (m : MethodId) (x0 : Int32) : entryFrame m #[(.int x0)] 2 = mkF m 0 #[.val (.int x0), .unset] [] := by first | (simp [entryFrame, mkF, argsToLocals, Value.category, maxLocals]; done) | rfl
abbrev own_iniN : MethodName := ⟨"com/example/holdfast/holdfast/cli/LatencyHistogram", "<init>", "()V"⟩
abbrev own_recN : MethodName := ⟨"com/example/holdfast/holdfast/cli/LatencyHistogram", "record", "(J)V"⟩
abbrev own_maxN : MethodName := ⟨"java/lang/Math", "max", "(JJ)J"⟩
abbrev own_bucN : MethodName := ⟨"com/example/holdfast/holdfast/cli/LatencyHistogram", "bucket", "(J)I"⟩
abbrev own_meaN : MethodName := ⟨"com/example/holdfast/holdfast/cli/LatencyHistogram", "mean", "()D"⟩
abbrev own_lnzN : MethodName := ⟨"java/lang/Long", "numberOfLeadingZeros", "(J)I"⟩
abbrev own_inzN : MethodName := ⟨"java/lang/Integer", "numberOfLeadingZeros", "(I)I"⟩
theorem own_add32 {x y : Int32} (h1 : -2147483648 ≤ x.toInt + y.toInt) (h2 : x.toInt + y.toInt < 2147483648) : (x + y).toInt = x.toInt + y.toInt := by
  have := c_iadd x y; have := rng32 (x + y); omega
theorem own_sub32 {x y : Int32} (h1 : -2147483648 ≤ x.toInt - y.toInt) (h2 : x.toInt - y.toInt < 2147483648) : (x - y).toInt = x.toInt - y.toInt := by
  have := c_isub x y; have := rng32 (x - y); omega
theorem own_mul32 {x y : Int32} (h1 : -2147483648 ≤ x.toInt * y.toInt) (h2 : x.toInt * y.toInt < 2147483648) : (x * y).toInt = x.toInt * y.toInt := by
  have := c_imul x y; have := rng32 (x * y); omega
theorem own_lt32 {x y : Int32} : x < y ↔ x.toInt < y.toInt := Int32.lt_iff_toInt_lt
theorem own_lt64 {x y : Int64} : x < y ↔ x.toInt < y.toInt := Int64.lt_iff_toInt_lt
theorem own_clamp (j : Int32) : j.toNatClampNeg = j.toInt.toNat := rfl
/-- 2^k ≤ n < 2^(k+1) -/
def own_Lg (k n : Nat) : Prop := 2 ^ k ≤ n ∧ n < 2 ^ (k + 1)
/-- i = n shifted right by k -/
def own_Sh (n k i : Nat) : Prop := i * 2 ^ k ≤ n ∧ n < (i + 1) * 2 ^ k
theorem own_Sh_step {n k i : Nat} (s : Nat) (h : own_Sh n k i) : own_Sh n (k + s) (i / 2 ^ s) := by
  obtain ⟨h1, h2⟩ := h
  have hp : 0 < 2 ^ s := Nat.pow_pos (by decide)
  have e : 2 ^ (k + s) = 2 ^ s * 2 ^ k := by rw [Nat.pow_add, Nat.mul_comm]
  constructor
  · rw [e, ← Nat.mul_assoc]
    exact Nat.le_trans (Nat.mul_le_mul_right _ (Nat.div_mul_le_self i (2 ^ s))) h1
  · rw [e, ← Nat.mul_assoc]
    have : i + 1 ≤ (i / 2 ^ s + 1) * 2 ^ s := by
      have := Nat.lt_mul_div_succ i hp
      rw [Nat.mul_comm] at this
      exact this
    exact Nat.lt_of_lt_of_le h2 (Nat.mul_le_mul_right _ this)
theorem own_Sh_end1 {n k : Nat} (h : own_Sh n k 1) : own_Lg k n := by
  obtain ⟨h1, h2⟩ := h
  refine ⟨by simpa using h1, ?_⟩
  rw [Nat.pow_succ, Nat.mul_comm]; exact h2
theorem own_Sh_end2 {n k i : Nat} (hi : i = 2 ∨ i = 3) (h : own_Sh n k i) : own_Lg (k + 1) n := by
  obtain ⟨h1, h2⟩ := h
  refine ⟨?_, ?_⟩
  · rw [Nat.pow_succ, Nat.mul_comm]
    exact Nat.le_trans (Nat.mul_le_mul_right _ (by omega)) h1
  · rw [show k + 1 + 1 = k + 2 from rfl, Nat.pow_add, Nat.mul_comm]
    exact Nat.lt_of_lt_of_le h2 (Nat.mul_le_mul_right _ (by omega))
def own_us (i : Int32) (s : Int32) : Int32 := (i.toUInt32 >>> (s &&& 31).toUInt32).toInt32
theorem own_us_v {i : Int32} (s : Int32) (k : Nat) (hk : s.toBitVec.toNat % 32 = k) (h0 : 0 < k) (hi : 0 ≤ i.toInt) : 0 ≤ (own_us i s).toInt ∧ (own_us i s).toInt.toNat = i.toInt.toNat / 2 ^ k := by
  have h1 := c_iushr i s k hk h0
  have h2 : (own_us i s).toInt = (i.toInt % 4294967296) / (2 ^ k : Nat) := h1
  have h3 := rng32 i
  have h4 : i.toInt % 4294967296 = i.toInt := Int.emod_eq_of_lt hi (by omega)
  rw [h4] at h2
  obtain ⟨n, hn⟩ := Int.eq_ofNat_of_zero_le hi
  rw [hn] at h2 ⊢
  rw [h2, ← Int.natCast_ediv]
  exact ⟨Int.natCast_nonneg _, by rw [Int.toNat_natCast, Int.toNat_natCast]⟩
/-- what numberOfLeadingZeros(int) leaves -/
def own_Nlz (i r : Int32) : Prop := (i.toInt < 0 ∧ r = 0) ∨ (0 < i.toInt ∧ ∃ k : Nat, k ≤ 30 ∧ r.toInt = 31 - k ∧ own_Lg k i.toInt.toNat)
def own_QN (i : Int32) (h0 : Heap) (v : Option Value) (h : Heap) (L : List Loc) : Prop := ∃ r : Int32, v = some (.int r) ∧ own_Nlz i r ∧ h = h0 ∧ L = []
/-- the running state: i0 given, i = i0 >> k, n = 31 - k -/
def own_Run (i0 i n : Int32) (b : Int) (kb : Nat) : Prop := 0 < i0.toInt ∧ ∃ k : Nat, n.toInt = 31 - k ∧ k ≤ kb ∧ 0 < i.toInt ∧ i.toInt < b ∧ own_Sh i0.toInt.toNat k i.toInt.toNat
theorem own_Run_skip {i0 i n : Int32} {b b' : Int} {kb kb' : Nat} (h : own_Run i0 i n b kb) (q : i.toInt < b') (hk : kb ≤ kb') : own_Run i0 i n b' kb' := by
  obtain ⟨h1, k, h2, h3, h4, h5, h6⟩ := h
  exact ⟨h1, k, h2, Nat.le_trans h3 hk, h4, q, h6⟩
theorem own_Run_turn {i0 i n : Int32} {b : Int} {kb : Nat} (s : Nat) (si ci : Int32) (h : own_Run i0 i n b kb) (hs0 : 0 < s) (hsi : si.toBitVec.toNat % 32 = s) (hci : ci.toInt = -(s : Int)) (hkb : kb + s ≤ 30) (hlo : (2 ^ s : Nat) ≤ i.toInt.toNat) (b' : Nat) (hb : b ≤ ((b' * 2 ^ s : Nat) : Int)) : own_Run i0 (own_us i si) (n + ci) b' (kb + s) := by
  obtain ⟨h1, k, h2, h3, h4, h5, h6⟩ := h
  obtain ⟨q1, q2⟩ := own_us_v (i := i) si s hsi hs0 (by omega)
  have hp : 0 < 2 ^ s := Nat.pow_pos (by decide)
  have hn : (n + ci).toInt = n.toInt + ci.toInt := own_add32 (by omega) (by omega)
  refine ⟨h1, k + s, by omega, by omega, ?_, ?_, ?_⟩
  · have : 0 < i.toInt.toNat / 2 ^ s := Nat.div_pos hlo hp
    omega
  · have h7 : i.toInt.toNat < b' * 2 ^ s := by omega
    have : i.toInt.toNat / 2 ^ s < b' := (Nat.div_lt_iff_lt_mul hp).mpr h7
    omega
  · rw [q2]; exact own_Sh_step s h6
theorem own_Run_end {i0 i n : Int32} (h : own_Run i0 i n 4 30) : own_Nlz i0 (n - own_us i 1) := by
  obtain ⟨h1, k, h2, h3, h4, h5, h6⟩ := h
  obtain ⟨q1, q2⟩ := own_us_v (i := i) 1 1 (by decide) (by decide) (by omega)
  have hn : (n - own_us i 1).toInt = n.toInt - (own_us i 1).toInt := own_sub32 (by omega) (by omega)
  have r := rng32 i0
  have key : ∀ k', own_Lg k' i0.toInt.toNat → k' ≤ 30 := fun k' hk => by
    have a1 : 2 ^ k' ≤ i0.toInt.toNat := hk.1
    have a2 : i0.toInt.toNat < 2 ^ 31 := by omega
    have a3 : 2 ^ k' < 2 ^ 31 := Nat.lt_of_le_of_lt a1 a2
    have a4 := (Nat.pow_lt_pow_iff_right (by decide : 1 < 2)).mp a3
    omega
  rcases (by omega : i.toInt.toNat = 1 ∨ i.toInt.toNat = 2 ∨ i.toInt.toNat = 3) with e | e | e
  · rw [e] at h6 q2
    have hl := own_Sh_end1 h6
    exact Or.inr ⟨h1, k, key k hl, by omega, hl⟩
  · rw [e] at h6 q2
    have hl := own_Sh_end2 (Or.inl rfl) h6
    exact Or.inr ⟨h1, k + 1, key _ hl, by omega, hl⟩
  · rw [e] at h6 q2
    have hl := own_Sh_end2 (Or.inr rfl) h6
    exact Or.inr ⟨h1, k + 1, key _ hl, by omega, hl⟩
theorem own_Run_start {i : Int32} (h : 0 < i.toInt) : own_Run i i 31 2147483648 0 := ⟨h, 0, by decide, Nat.le_refl _, h, (rng32 i).2, by unfold own_Sh; omega⟩
set_option maxRecDepth 65536 in
set_option maxHeartbeats 40000000 in
theorem own_nz73 (l : Launch) (Z : State) (a0 : Array Value) (hw : ∀ d ∈ tables_1, d.before a0 Z = true) (h0 : Heap) (i0 : Int32) (p : Program) (e : Env) (s : State) (m : MethodId) (below : List Frame) (meth : Method) (c : Code) (s₁ : State) (Bd : BodyLoose p l own_inzN (head1 [Jvm.Cond.code own_inzN jdk_33_method_47_code 2 (some .int)] ({ frames := 0, cells := 0, slots := 0, locals := 0 } : Room)) jdk_33_method_47_code 2 (some .int) e s m #[(.int i0)] below meth c s₁) (hml : c.maxLocals = 2) (hZ : Z.Warmed39 s.vm) (e0 : s₁.heap = h0) (i n : Int32) (h : own_Run i0 i n 4 30) :
    own_Goes p e below (own_End s below ({ frames := 0, cells := 0, slots := 0, locals := 0 } : Room) (own_QN i0 h0)) (s₁.setTop (mkF m 73 #[.val (.int i), .val (.int n)] [])) := by
  have hx := Bd.exec
  have hby := Bd.bytes
  have hown : s.vm.findClass "java/lang/Integer" = some m.cls := findClass_of_methodNamed Bd.named
  have X0 : Stand p l e ({ frames := 0, cells := 0, slots := 0, locals := 0 } : Room) s m #[(.int i0)] below meth c s₁ [] 0 0 := Stand.of_body Bd
  show own_Goes p e below (own_End s below _ _) (s₁.setTop (mkF m 73 #[.val (.int i), .val (.int n)] []))
  refine own_go (fun _ k => XS.iloadN X0.here hx rfl (hb hby dN_73) rfl k) ?_
  show own_Goes p e below (own_End s below _ _) (s₁.setTop (mkF m 74 #[.val (.int i), .val (.int n)] [(.int n)]))
  refine own_go (fun _ k => XS.iloadN X0.here hx rfl (hb hby dN_74) rfl k) ?_
  show own_Goes p e below (own_End s below _ _) (s₁.setTop (mkF m 75 #[.val (.int i), .val (.int n)] [(.int i), (.int n)]))
  refine own_go (fun _ k => XS.iconst X0.here hx rfl (hb hby dN_75) k) ?_
  show own_Goes p e below (own_End s below _ _) (s₁.setTop (mkF m 76 #[.val (.int i), .val (.int n)] [(.int (1 : Int32)), (.int i), (.int n)]))
  refine own_go (fun _ k => XS.iushr X0.here hx rfl (hb hby dN_76) rfl k) ?_
  show own_Goes p e below (own_End s below _ _) (s₁.setTop (mkF m 77 #[.val (.int i), .val (.int n)] [(.int ((i.toUInt32 >>> ((1 : Int32) &&& 31).toUInt32).toInt32)), (.int n)]))
  refine own_go (fun _ k => XS.isub X0.here hx rfl (hb hby dN_77) rfl k) ?_
  show own_Goes p e below (own_End s below _ _) (s₁.setTop (mkF m 78 #[.val (.int i), .val (.int n)] [(.int (n - ((i.toUInt32 >>> ((1 : Int32) &&& 31).toUInt32).toInt32)))]))
  exact own_retI X0 hx Bd.notSynchronized Bd.returns (hb hby dN_78) ⟨_, rfl, own_Run_end h, e0, rfl⟩ (by decide) (by decide)
set_option maxRecDepth 65536 in
set_option maxHeartbeats 40000000 in
theorem own_nz61 (l : Launch) (Z : State) (a0 : Array Value) (hw : ∀ d ∈ tables_1, d.before a0 Z = true) (h0 : Heap) (i0 : Int32) (p : Program) (e : Env) (s : State) (m : MethodId) (below : List Frame) (meth : Method) (c : Code) (s₁ : State) (Bd : BodyLoose p l own_inzN (head1 [Jvm.Cond.code own_inzN jdk_33_method_47_code 2 (some .int)] ({ frames := 0, cells := 0, slots := 0, locals := 0 } : Room)) jdk_33_method_47_code 2 (some .int) e s m #[(.int i0)] below meth c s₁) (hml : c.maxLocals = 2) (hZ : Z.Warmed39 s.vm) (e0 : s₁.heap = h0) (i n : Int32) (h : own_Run i0 i n 16 28) :
    own_Goes p e below (own_End s below ({ frames := 0, cells := 0, slots := 0, locals := 0 } : Room) (own_QN i0 h0)) (s₁.setTop (mkF m 61 #[.val (.int i), .val (.int n)] [])) := by
  have hx := Bd.exec
  have hby := Bd.bytes
  have hown : s.vm.findClass "java/lang/Integer" = some m.cls := findClass_of_methodNamed Bd.named
  have X0 : Stand p l e ({ frames := 0, cells := 0, slots := 0, locals := 0 } : Room) s m #[(.int i0)] below meth c s₁ [] 0 0 := Stand.of_body Bd
  show own_Goes p e below (own_End s below _ _) (s₁.setTop (mkF m 61 #[.val (.int i), .val (.int n)] []))
  refine own_go (fun _ k => XS.iloadN X0.here hx rfl (hb hby dN_61) rfl k) ?_
  show own_Goes p e below (own_End s below _ _) (s₁.setTop (mkF m 62 #[.val (.int i), .val (.int n)] [(.int i)]))
  refine own_go (fun _ k => XS.iconst X0.here hx rfl (hb hby dN_62) k) ?_
  show own_Goes p e below (own_End s below _ _) (s₁.setTop (mkF m 63 #[.val (.int i), .val (.int n)] [(.int (4 : Int32)), (.int i)]))
  by_cases q : i < (4 : Int32)
  · refine own_go (fun _ k => XS.icmpYes X0.here hx rfl (pc0 := 63) (pc' := 73) rfl (hb hby dN_63) rfl (tlt q).1 (by decide) (by decide) k) ?_
    show own_Goes p e below (own_End s below _ _) (s₁.setTop (mkF m 73 #[.val (.int i), .val (.int n)] []))
    exact own_nz73 l Z a0 hw h0 i0 p e s m below meth c s₁ Bd hml hZ e0 i n (own_Run_skip h (by have := own_lt32.mp q; have e : (4 : Int32).toInt = 4 := (by decide); omega) (by decide))
  · refine own_go (fun _ k => XS.icmpNo X0.here hx rfl (hb hby dN_63) rfl (flt q).1 k) ?_
    show own_Goes p e below (own_End s below _ _) (s₁.setTop (mkF m 66 #[.val (.int i), .val (.int n)] []))
    refine own_go (fun _ k => XS.iinc X0.here hx rfl (hb hby dN_66) rfl (l' := #[.val (.int i), .val (.int (n + Int32.ofInt (-2)))]) rfl k) ?_
    show own_Goes p e below (own_End s below _ _) (s₁.setTop (mkF m 69 #[.val (.int i), .val (.int (n + Int32.ofInt (-2)))] []))
    refine own_go (fun _ k => XS.iloadN X0.here hx rfl (hb hby dN_69) rfl k) ?_
    show own_Goes p e below (own_End s below _ _) (s₁.setTop (mkF m 70 #[.val (.int i), .val (.int (n + Int32.ofInt (-2)))] [(.int i)]))
    refine own_go (fun _ k => XS.iconst X0.here hx rfl (hb hby dN_70) k) ?_
    show own_Goes p e below (own_End s below _ _) (s₁.setTop (mkF m 71 #[.val (.int i), .val (.int (n + Int32.ofInt (-2)))] [(.int (2 : Int32)), (.int i)]))
    refine own_go (fun _ k => XS.iushr X0.here hx rfl (hb hby dN_71) rfl k) ?_
    show own_Goes p e below (own_End s below _ _) (s₁.setTop (mkF m 72 #[.val (.int i), .val (.int (n + Int32.ofInt (-2)))] [(.int ((i.toUInt32 >>> ((2 : Int32) &&& 31).toUInt32).toInt32))]))
    refine own_go (fun _ k => XS.istoreN X0.here hx rfl (hb hby dN_72) rfl (l' := #[.val (.int ((i.toUInt32 >>> ((2 : Int32) &&& 31).toUInt32).toInt32)), .val (.int (n + Int32.ofInt (-2)))]) rfl k) ?_
    show own_Goes p e below (own_End s below _ _) (s₁.setTop (mkF m 73 #[.val (.int ((i.toUInt32 >>> ((2 : Int32) &&& 31).toUInt32).toInt32)), .val (.int (n + Int32.ofInt (-2)))] []))
    exact own_nz73 l Z a0 hw h0 i0 p e s m below meth c s₁ Bd hml hZ e0 (own_us i (2 : Int32)) (n + Int32.ofInt (-2)) (own_Run_turn 2 (2 : Int32) (Int32.ofInt (-2)) h (by decide) (by decide) (by decide) (by decide) (by have e : (4 : Int32).toInt = 4 := (by decide); have q1 : ¬ i.toInt < (4 : Int32).toInt := fun z => q (own_lt32.mpr z); omega) 4 (by decide))
set_option maxRecDepth 65536 in
set_option maxHeartbeats 40000000 in
theorem own_nz48 (l : Launch) (Z : State) (a0 : Array Value) (hw : ∀ d ∈ tables_1, d.before a0 Z = true) (h0 : Heap) (i0 : Int32) (p : Program) (e : Env) (s : State) (m : MethodId) (below : List Frame) (meth : Method) (c : Code) (s₁ : State) (Bd : BodyLoose p l own_inzN (head1 [Jvm.Cond.code own_inzN jdk_33_method_47_code 2 (some .int)] ({ frames := 0, cells := 0, slots := 0, locals := 0 } : Room)) jdk_33_method_47_code 2 (some .int) e s m #[(.int i0)] below meth c s₁) (hml : c.maxLocals = 2) (hZ : Z.Warmed39 s.vm) (e0 : s₁.heap = h0) (i n : Int32) (h : own_Run i0 i n 256 24) :
    own_Goes p e below (own_End s below ({ frames := 0, cells := 0, slots := 0, locals := 0 } : Room) (own_QN i0 h0)) (s₁.setTop (mkF m 48 #[.val (.int i), .val (.int n)] [])) := by
  have hx := Bd.exec
  have hby := Bd.bytes
  have hown : s.vm.findClass "java/lang/Integer" = some m.cls := findClass_of_methodNamed Bd.named
  have X0 : Stand p l e ({ frames := 0, cells := 0, slots := 0, locals := 0 } : Room) s m #[(.int i0)] below meth c s₁ [] 0 0 := Stand.of_body Bd
  show own_Goes p e below (own_End s below _ _) (s₁.setTop (mkF m 48 #[.val (.int i), .val (.int n)] []))
  refine own_go (fun _ k => XS.iloadN X0.here hx rfl (hb hby dN_48) rfl k) ?_
  show own_Goes p e below (own_End s below _ _) (s₁.setTop (mkF m 49 #[.val (.int i), .val (.int n)] [(.int i)]))
  refine own_go (fun _ k => XS.bipush X0.here hx rfl (hb hby dN_49) k) ?_
  show own_Goes p e below (own_End s below _ _) (s₁.setTop (mkF m 51 #[.val (.int i), .val (.int n)] [(.int (16 : Int32)), (.int i)]))
  by_cases q : i < (16 : Int32)
  · refine own_go (fun _ k => XS.icmpYes X0.here hx rfl (pc0 := 51) (pc' := 61) rfl (hb hby dN_51) rfl (tlt q).1 (by decide) (by decide) k) ?_
    show own_Goes p e below (own_End s below _ _) (s₁.setTop (mkF m 61 #[.val (.int i), .val (.int n)] []))
    exact own_nz61 l Z a0 hw h0 i0 p e s m below meth c s₁ Bd hml hZ e0 i n (own_Run_skip h (by have := own_lt32.mp q; have e : (16 : Int32).toInt = 16 := (by decide); omega) (by decide))
  · refine own_go (fun _ k => XS.icmpNo X0.here hx rfl (hb hby dN_51) rfl (flt q).1 k) ?_
    show own_Goes p e below (own_End s below _ _) (s₁.setTop (mkF m 54 #[.val (.int i), .val (.int n)] []))
    refine own_go (fun _ k => XS.iinc X0.here hx rfl (hb hby dN_54) rfl (l' := #[.val (.int i), .val (.int (n + Int32.ofInt (-4)))]) rfl k) ?_
    show own_Goes p e below (own_End s below _ _) (s₁.setTop (mkF m 57 #[.val (.int i), .val (.int (n + Int32.ofInt (-4)))] []))
    refine own_go (fun _ k => XS.iloadN X0.here hx rfl (hb hby dN_57) rfl k) ?_
    show own_Goes p e below (own_End s below _ _) (s₁.setTop (mkF m 58 #[.val (.int i), .val (.int (n + Int32.ofInt (-4)))] [(.int i)]))
    refine own_go (fun _ k => XS.iconst X0.here hx rfl (hb hby dN_58) k) ?_
    show own_Goes p e below (own_End s below _ _) (s₁.setTop (mkF m 59 #[.val (.int i), .val (.int (n + Int32.ofInt (-4)))] [(.int (4 : Int32)), (.int i)]))
    refine own_go (fun _ k => XS.iushr X0.here hx rfl (hb hby dN_59) rfl k) ?_
    show own_Goes p e below (own_End s below _ _) (s₁.setTop (mkF m 60 #[.val (.int i), .val (.int (n + Int32.ofInt (-4)))] [(.int ((i.toUInt32 >>> ((4 : Int32) &&& 31).toUInt32).toInt32))]))
    refine own_go (fun _ k => XS.istoreN X0.here hx rfl (hb hby dN_60) rfl (l' := #[.val (.int ((i.toUInt32 >>> ((4 : Int32) &&& 31).toUInt32).toInt32)), .val (.int (n + Int32.ofInt (-4)))]) rfl k) ?_
    show own_Goes p e below (own_End s below _ _) (s₁.setTop (mkF m 61 #[.val (.int ((i.toUInt32 >>> ((4 : Int32) &&& 31).toUInt32).toInt32)), .val (.int (n + Int32.ofInt (-4)))] []))
    exact own_nz61 l Z a0 hw h0 i0 p e s m below meth c s₁ Bd hml hZ e0 (own_us i (4 : Int32)) (n + Int32.ofInt (-4)) (own_Run_turn 4 (4 : Int32) (Int32.ofInt (-4)) h (by decide) (by decide) (by decide) (by decide) (by have e : (16 : Int32).toInt = 16 := (by decide); have q1 : ¬ i.toInt < (16 : Int32).toInt := fun z => q (own_lt32.mpr z); omega) 16 (by decide))
set_option maxRecDepth 65536 in
set_option maxHeartbeats 40000000 in
theorem own_nz33 (l : Launch) (Z : State) (a0 : Array Value) (hw : ∀ d ∈ tables_1, d.before a0 Z = true) (h0 : Heap) (i0 : Int32) (p : Program) (e : Env) (s : State) (m : MethodId) (below : List Frame) (meth : Method) (c : Code) (s₁ : State) (Bd : BodyLoose p l own_inzN (head1 [Jvm.Cond.code own_inzN jdk_33_method_47_code 2 (some .int)] ({ frames := 0, cells := 0, slots := 0, locals := 0 } : Room)) jdk_33_method_47_code 2 (some .int) e s m #[(.int i0)] below meth c s₁) (hml : c.maxLocals = 2) (hZ : Z.Warmed39 s.vm) (e0 : s₁.heap = h0) (i n : Int32) (h : own_Run i0 i n 65536 16) :
    own_Goes p e below (own_End s below ({ frames := 0, cells := 0, slots := 0, locals := 0 } : Room) (own_QN i0 h0)) (s₁.setTop (mkF m 33 #[.val (.int i), .val (.int n)] [])) := by
  have hx := Bd.exec
  have hby := Bd.bytes
  have hown : s.vm.findClass "java/lang/Integer" = some m.cls := findClass_of_methodNamed Bd.named
  have X0 : Stand p l e ({ frames := 0, cells := 0, slots := 0, locals := 0 } : Room) s m #[(.int i0)] below meth c s₁ [] 0 0 := Stand.of_body Bd
  show own_Goes p e below (own_End s below _ _) (s₁.setTop (mkF m 33 #[.val (.int i), .val (.int n)] []))
  refine own_go (fun _ k => XS.iloadN X0.here hx rfl (hb hby dN_33) rfl k) ?_
  show own_Goes p e below (own_End s below _ _) (s₁.setTop (mkF m 34 #[.val (.int i), .val (.int n)] [(.int i)]))
  refine own_go (fun _ k => XS.sipush X0.here hx rfl (hb hby dN_34) k) ?_
  show own_Goes p e below (own_End s below _ _) (s₁.setTop (mkF m 37 #[.val (.int i), .val (.int n)] [(.int (256 : Int32)), (.int i)]))
  by_cases q : i < (256 : Int32)
  · refine own_go (fun _ k => XS.icmpYes X0.here hx rfl (pc0 := 37) (pc' := 48) rfl (hb hby dN_37) rfl (tlt q).1 (by decide) (by decide) k) ?_
    show own_Goes p e below (own_End s below _ _) (s₁.setTop (mkF m 48 #[.val (.int i), .val (.int n)] []))
    exact own_nz48 l Z a0 hw h0 i0 p e s m below meth c s₁ Bd hml hZ e0 i n (own_Run_skip h (by have := own_lt32.mp q; have e : (256 : Int32).toInt = 256 := (by decide); omega) (by decide))
  · refine own_go (fun _ k => XS.icmpNo X0.here hx rfl (hb hby dN_37) rfl (flt q).1 k) ?_
    show own_Goes p e below (own_End s below _ _) (s₁.setTop (mkF m 40 #[.val (.int i), .val (.int n)] []))
    refine own_go (fun _ k => XS.iinc X0.here hx rfl (hb hby dN_40) rfl (l' := #[.val (.int i), .val (.int (n + Int32.ofInt (-8)))]) rfl k) ?_
    show own_Goes p e below (own_End s below _ _) (s₁.setTop (mkF m 43 #[.val (.int i), .val (.int (n + Int32.ofInt (-8)))] []))
    refine own_go (fun _ k => XS.iloadN X0.here hx rfl (hb hby dN_43) rfl k) ?_
    show own_Goes p e below (own_End s below _ _) (s₁.setTop (mkF m 44 #[.val (.int i), .val (.int (n + Int32.ofInt (-8)))] [(.int i)]))
    refine own_go (fun _ k => XS.bipush X0.here hx rfl (hb hby dN_44) k) ?_
    show own_Goes p e below (own_End s below _ _) (s₁.setTop (mkF m 46 #[.val (.int i), .val (.int (n + Int32.ofInt (-8)))] [(.int (8 : Int32)), (.int i)]))
    refine own_go (fun _ k => XS.iushr X0.here hx rfl (hb hby dN_46) rfl k) ?_
    show own_Goes p e below (own_End s below _ _) (s₁.setTop (mkF m 47 #[.val (.int i), .val (.int (n + Int32.ofInt (-8)))] [(.int ((i.toUInt32 >>> ((8 : Int32) &&& 31).toUInt32).toInt32))]))
    refine own_go (fun _ k => XS.istoreN X0.here hx rfl (hb hby dN_47) rfl (l' := #[.val (.int ((i.toUInt32 >>> ((8 : Int32) &&& 31).toUInt32).toInt32)), .val (.int (n + Int32.ofInt (-8)))]) rfl k) ?_
    show own_Goes p e below (own_End s below _ _) (s₁.setTop (mkF m 48 #[.val (.int ((i.toUInt32 >>> ((8 : Int32) &&& 31).toUInt32).toInt32)), .val (.int (n + Int32.ofInt (-8)))] []))
    exact own_nz48 l Z a0 hw h0 i0 p e s m below meth c s₁ Bd hml hZ e0 (own_us i (8 : Int32)) (n + Int32.ofInt (-8)) (own_Run_turn 8 (8 : Int32) (Int32.ofInt (-8)) h (by decide) (by decide) (by decide) (by decide) (by have e : (256 : Int32).toInt = 256 := (by decide); have q1 : ¬ i.toInt < (256 : Int32).toInt := fun z => q (own_lt32.mpr z); omega) 256 (by decide))
set_option maxRecDepth 65536 in
set_option maxHeartbeats 40000000 in
theorem own_nz18 (l : Launch) (Z : State) (a0 : Array Value) (hw : ∀ d ∈ tables_1, d.before a0 Z = true) (h0 : Heap) (i0 : Int32) (p : Program) (e : Env) (s : State) (m : MethodId) (below : List Frame) (meth : Method) (c : Code) (s₁ : State) (Bd : BodyLoose p l own_inzN (head1 [Jvm.Cond.code own_inzN jdk_33_method_47_code 2 (some .int)] ({ frames := 0, cells := 0, slots := 0, locals := 0 } : Room)) jdk_33_method_47_code 2 (some .int) e s m #[(.int i0)] below meth c s₁) (hml : c.maxLocals = 2) (hZ : Z.Warmed39 s.vm) (e0 : s₁.heap = h0) (i n : Int32) (h : own_Run i0 i n 2147483648 0) :
    own_Goes p e below (own_End s below ({ frames := 0, cells := 0, slots := 0, locals := 0 } : Room) (own_QN i0 h0)) (s₁.setTop (mkF m 18 #[.val (.int i), .val (.int n)] [])) := by
  have hx := Bd.exec
  have hby := Bd.bytes
  have hown : s.vm.findClass "java/lang/Integer" = some m.cls := findClass_of_methodNamed Bd.named
  have X0 : Stand p l e ({ frames := 0, cells := 0, slots := 0, locals := 0 } : Room) s m #[(.int i0)] below meth c s₁ [] 0 0 := Stand.of_body Bd
  show own_Goes p e below (own_End s below _ _) (s₁.setTop (mkF m 18 #[.val (.int i), .val (.int n)] []))
  refine own_go (fun _ k => XS.iloadN X0.here hx rfl (hb hby dN_18) rfl k) ?_
  show own_Goes p e below (own_End s below _ _) (s₁.setTop (mkF m 19 #[.val (.int i), .val (.int n)] [(.int i)]))
  refine own_go (fun _ k => Stand.ldcWI X0 hx hown (mvT hZ (hw _ (List.mem_of_getElem? (i := 43) rfl))) rfl (hb hby dN_19) k) ?_
  show own_Goes p e below (own_End s below _ _) (s₁.setTop (mkF m 22 #[.val (.int i), .val (.int n)] [(.int (65536 : Int32)), (.int i)]))
  by_cases q : i < (65536 : Int32)
  · refine own_go (fun _ k => XS.icmpYes X0.here hx rfl (pc0 := 22) (pc' := 33) rfl (hb hby dN_22) rfl (tlt q).1 (by decide) (by decide) k) ?_
    show own_Goes p e below (own_End s below _ _) (s₁.setTop (mkF m 33 #[.val (.int i), .val (.int n)] []))
    exact own_nz33 l Z a0 hw h0 i0 p e s m below meth c s₁ Bd hml hZ e0 i n (own_Run_skip h (by have := own_lt32.mp q; have e : (65536 : Int32).toInt = 65536 := (by decide); omega) (by decide))
  · refine own_go (fun _ k => XS.icmpNo X0.here hx rfl (hb hby dN_22) rfl (flt q).1 k) ?_
    show own_Goes p e below (own_End s below _ _) (s₁.setTop (mkF m 25 #[.val (.int i), .val (.int n)] []))
    refine own_go (fun _ k => XS.iinc X0.here hx rfl (hb hby dN_25) rfl (l' := #[.val (.int i), .val (.int (n + Int32.ofInt (-16)))]) rfl k) ?_
    show own_Goes p e below (own_End s below _ _) (s₁.setTop (mkF m 28 #[.val (.int i), .val (.int (n + Int32.ofInt (-16)))] []))
    refine own_go (fun _ k => XS.iloadN X0.here hx rfl (hb hby dN_28) rfl k) ?_
    show own_Goes p e below (own_End s below _ _) (s₁.setTop (mkF m 29 #[.val (.int i), .val (.int (n + Int32.ofInt (-16)))] [(.int i)]))
    refine own_go (fun _ k => XS.bipush X0.here hx rfl (hb hby dN_29) k) ?_
    show own_Goes p e below (own_End s below _ _) (s₁.setTop (mkF m 31 #[.val (.int i), .val (.int (n + Int32.ofInt (-16)))] [(.int (16 : Int32)), (.int i)]))
    refine own_go (fun _ k => XS.iushr X0.here hx rfl (hb hby dN_31) rfl k) ?_
    show own_Goes p e below (own_End s below _ _) (s₁.setTop (mkF m 32 #[.val (.int i), .val (.int (n + Int32.ofInt (-16)))] [(.int ((i.toUInt32 >>> ((16 : Int32) &&& 31).toUInt32).toInt32))]))
    refine own_go (fun _ k => XS.istoreN X0.here hx rfl (hb hby dN_32) rfl (l' := #[.val (.int ((i.toUInt32 >>> ((16 : Int32) &&& 31).toUInt32).toInt32)), .val (.int (n + Int32.ofInt (-16)))]) rfl k) ?_
    show own_Goes p e below (own_End s below _ _) (s₁.setTop (mkF m 33 #[.val (.int ((i.toUInt32 >>> ((16 : Int32) &&& 31).toUInt32).toInt32)), .val (.int (n + Int32.ofInt (-16)))] []))
    exact own_nz33 l Z a0 hw h0 i0 p e s m below meth c s₁ Bd hml hZ e0 (own_us i (16 : Int32)) (n + Int32.ofInt (-16)) (own_Run_turn 16 (16 : Int32) (Int32.ofInt (-16)) h (by decide) (by decide) (by decide) (by decide) (by have e : (65536 : Int32).toInt = 65536 := (by decide); have q1 : ¬ i.toInt < (65536 : Int32).toInt := fun z => q (own_lt32.mpr z); omega) 65536 (by decide))
set_option maxRecDepth 65536 in
set_option maxHeartbeats 40000000 in
theorem own_inz (l : Launch) (Z : State) (a0 : Array Value) (hw : ∀ d ∈ tables_1, d.before a0 Z = true) (h0 : Heap) (i0 : Int32) (hi : ¬ i0 = 0) : own_Met l Z own_inzN jdk_33_method_47_code 2 (some .int) ({ frames := 0, cells := 0, slots := 0, locals := 0 } : Room) [] #[(.int i0)] h0 (own_QN i0 h0) := by
  refine own_met (plainFor_of_name pn_N) ?_
  intro p e s m below meth c s₁ Bd hml hZ e0
  have hx := Bd.exec
  have hby := Bd.bytes
  have hown : s.vm.findClass "java/lang/Integer" = some m.cls := findClass_of_methodNamed Bd.named
  have hnm := (name_of_methodNamed Bd.named Bd.method).1
  have X0 : Stand p l e ({ frames := 0, cells := 0, slots := 0, locals := 0 } : Room) s m #[(.int i0)] below meth c s₁ [] 0 0 := Stand.of_body Bd
  rw [ef_N]
  show own_Goes p e below (own_End s below _ _) (s₁.setTop (mkF m 0 #[.val (.int i0), .unset] []))
  refine own_go (fun _ k => XS.iloadN X0.here hx rfl (hb hby dN_0) rfl k) ?_
  show own_Goes p e below (own_End s below _ _) (s₁.setTop (mkF m 1 #[.val (.int i0), .unset] [(.int i0)]))
  by_cases q : 0 < i0.toInt
  · refine own_go (fun _ k => XS.ifYes X0.here hx rfl (pc0 := 1) (pc' := 15) rfl (hb hby dN_1) rfl (by rw [if0]; exact (tlt (x := 0) (own_lt32.mpr q)).2.2.1) (by decide) (by decide) k) ?_
    show own_Goes p e below (own_End s below _ _) (s₁.setTop (mkF m 15 #[.val (.int i0), .unset] []))
    refine own_go (fun _ k => XS.bipush X0.here hx rfl (hb hby dN_15) k) ?_
    show own_Goes p e below (own_End s below _ _) (s₁.setTop (mkF m 17 #[.val (.int i0), .unset] [(.int (31 : Int32))]))
    refine own_go (fun _ k => XS.istoreN X0.here hx rfl (hb hby dN_17) rfl (l' := #[.val (.int i0), .val (.int (31 : Int32))]) rfl k) ?_
    show own_Goes p e below (own_End s below _ _) (s₁.setTop (mkF m 18 #[.val (.int i0), .val (.int (31 : Int32))] []))
    exact own_nz18 l Z a0 hw h0 i0 p e s m below meth c s₁ Bd hml hZ e0 i0 31 (own_Run_start q)
  · refine own_go (fun _ k => XS.ifNo X0.here hx rfl (hb hby dN_1) rfl (by rw [if0]; exact (flt (x := 0) (fun z => q (own_lt32.mp z))).2.2.1) k) ?_
    show own_Goes p e below (own_End s below _ _) (s₁.setTop (mkF m 4 #[.val (.int i0), .unset] []))
    refine own_go (fun _ k => XS.iloadN X0.here hx rfl (hb hby dN_4) rfl k) ?_
    show own_Goes p e below (own_End s below _ _) (s₁.setTop (mkF m 5 #[.val (.int i0), .unset] [(.int i0)]))
    refine own_go (fun _ k => XS.ifYes X0.here hx rfl (pc0 := 5) (pc' := 13) rfl (hb hby dN_5) rfl (by rw [if0]; exact (feq hi).2) (by decide) (by decide) k) ?_
    show own_Goes p e below (own_End s below _ _) (s₁.setTop (mkF m 13 #[.val (.int i0), .unset] []))
    refine own_go (fun _ k => XS.iconst X0.here hx rfl (hb hby dN_13) k) ?_
    show own_Goes p e below (own_End s below _ _) (s₁.setTop (mkF m 14 #[.val (.int i0), .unset] [(.int (0 : Int32))]))
    exact own_retI X0 hx Bd.notSynchronized Bd.returns (hb hby dN_14) ⟨_, rfl, Or.inl ⟨by have : i0.toInt ≠ 0 := fun z => hi (Int32.toInt_inj.mp z); omega, rfl⟩, e0, rfl⟩ (by decide) (by decide)
def own_QL (t : Int64) (h0 : Heap) (v : Option Value) (h : Heap) (L : List Loc) : Prop := ∃ r : Int32, v = some (.int r) ∧ (∃ k : Nat, k ≤ 62 ∧ r.toInt = 63 - k ∧ own_Lg k t.toInt.toNat) ∧ h = h0 ∧ L = []
def own_ul (t : Int64) (s : Int32) : Int64 := (t.toUInt64 >>> (s &&& 0x3f).toInt64.toUInt64).toInt64
theorem own_ul_v {t : Int64} (s : Int32) (k : Nat) (hk : s.toBitVec.toNat % 64 = k) (h0 : 0 < k) (ht : 0 ≤ t.toInt) : 0 ≤ (own_ul t s).toInt ∧ (own_ul t s).toInt.toNat = t.toInt.toNat / 2 ^ k := by
  have h1 := c_lushr t s k hk h0
  have h2 : (own_ul t s).toInt = (t.toInt % 18446744073709551616) / (2 ^ k : Nat) := h1
  have h3 := rng64 t
  have h4 : t.toInt % 18446744073709551616 = t.toInt := Int.emod_eq_of_lt ht (by omega)
  rw [h4] at h2
  obtain ⟨n, hn⟩ := Int.eq_ofNat_of_zero_le ht
  rw [hn] at h2 ⊢
  rw [h2, ← Int.natCast_ediv]
  exact ⟨Int.natCast_nonneg _, by rw [Int.toNat_natCast, Int.toNat_natCast]⟩
theorem own_l2i_v {t : Int64} (h1 : -2147483648 ≤ t.toInt) (h2 : t.toInt < 2147483648) : (t.toInt32).toInt = t.toInt := by
  have := c_l2i t; have := rng32 t.toInt32; omega
theorem own_Lg_up {k n m : Nat} (h : own_Lg k (n / 2 ^ 32)) (e : m = k + 32) : own_Lg m n := by
  subst e
  obtain ⟨h1, h2⟩ := h
  constructor
  · rw [Nat.pow_add]; exact (Nat.le_div_iff_mul_le (by decide)).mp h1
  · rw [show k + 32 + 1 = (k + 1) + 32 from by omega, Nat.pow_add]
    exact (Nat.div_lt_iff_lt_mul (by decide)).mp h2
theorem own_lnz_hi {t : Int64} {r : Int32} (ht : 0 < t.toInt) (hx : ¬ (own_ul t 32).toInt32 = 0) (h : own_Nlz (own_ul t 32).toInt32 r) : ∃ k : Nat, k ≤ 62 ∧ r.toInt = 63 - k ∧ own_Lg k t.toInt.toNat := by
  obtain ⟨q1, q2⟩ := own_ul_v (t := t) 32 32 (by decide) (by decide) (by omega)
  have r1 := rng64 t
  have q3 : ((own_ul t 32).toInt32).toInt = (own_ul t 32).toInt := own_l2i_v (by omega) (by omega)
  rcases h with ⟨h1, h2⟩ | ⟨h1, k, h2, h3, h4⟩
  · omega
  · refine ⟨k + 32, by omega, by omega, ?_⟩
    rw [q3, q2] at h4
    exact own_Lg_up h4 rfl
theorem own_lnz_lo {t : Int64} {r : Int32} (ht : 0 < t.toInt) (hx : (own_ul t 32).toInt32 = 0) (h : own_Nlz t.toInt32 r) : ∃ k : Nat, k ≤ 62 ∧ ((32 : Int32) + r).toInt = 63 - k ∧ own_Lg k t.toInt.toNat := by
  obtain ⟨q1, q2⟩ := own_ul_v (t := t) 32 32 (by decide) (by decide) (by omega)
  have r1 := rng64 t
  have q3 : ((own_ul t 32).toInt32).toInt = (own_ul t 32).toInt := own_l2i_v (by omega) (by omega)
  have q4 : ((own_ul t 32).toInt32).toInt = 0 := by rw [hx]; decide
  have q5 := c_l2i t
  have q6 := rng32 t.toInt32
  have e32 : (32 : Int32).toInt = 32 := by decide
  rcases h with ⟨h1, h2⟩ | ⟨h1, k, h2, h3, h4⟩
  · subst h2
    refine ⟨31, by decide, by decide, ?_, ?_⟩ <;> omega
  · have : ((32 : Int32) + r).toInt = (32 : Int32).toInt + r.toInt := own_add32 (by omega) (by omega)
    refine ⟨k, by omega, by omega, ?_⟩
    have e : t.toInt32.toInt = t.toInt := by omega
    rw [e] at h4; exact h4
theorem own_lo_ne {t : Int64} (ht : 0 < t.toInt) (hx : (own_ul t 32).toInt32 = 0) : ¬ t.toInt32 = 0 := by
  intro hz
  obtain ⟨q1, q2⟩ := own_ul_v (t := t) 32 32 (by decide) (by decide) (by omega)
  have r1 := rng64 t
  have q3 : ((own_ul t 32).toInt32).toInt = (own_ul t 32).toInt := own_l2i_v (by omega) (by omega)
  have q4 : ((own_ul t 32).toInt32).toInt = 0 := by rw [hx]; decide
  have q5 := c_l2i t
  have q6 : t.toInt32.toInt = 0 := by rw [hz]; decide
  omega
set_option maxRecDepth 65536 in
set_option maxHeartbeats 40000000 in
theorem own_lnz (l : Launch) (Z : State) (a0 : Array Value) (hw : ∀ d ∈ tables_1, d.before a0 Z = true) (h0 : Heap) (t : Int64) (ht : 0 < t.toInt) : own_Met l Z own_lnzN jdk_35_method_48_code 3 (some .int) ({ frames := 1, cells := 0, slots := 0, locals := 14 } : Room) [] #[(.long t)] h0 (own_QL t h0) := by
  refine own_met (plainFor_of_name pn_L) ?_
  intro p e s m below meth c s₁ Bd hml hZ e0
  have hx := Bd.exec
  have hby := Bd.bytes
  have hown : s.vm.findClass "java/lang/Long" = some m.cls := findClass_of_methodNamed Bd.named
  have hnm := (name_of_methodNamed Bd.named Bd.method).1
  have X0 : Stand p l e ({ frames := 1, cells := 0, slots := 0, locals := 14 } : Room) s m #[(.long t)] below meth c s₁ [] 0 0 := Stand.of_body Bd
  rw [ef_L]
  show own_Goes p e below (own_End s below _ _) (s₁.setTop (mkF m 0 #[.val (.long t), .second, .unset] []))
  refine own_go (fun _ k => XS.lloadN X0.here hx rfl (hb hby dL_0) rfl k) ?_
  show own_Goes p e below (own_End s below _ _) (s₁.setTop (mkF m 1 #[.val (.long t), .second, .unset] [(.long t)]))
  refine own_go (fun _ k => XS.bipush X0.here hx rfl (hb hby dL_1) k) ?_
  show own_Goes p e below (own_End s below _ _) (s₁.setTop (mkF m 3 #[.val (.long t), .second, .unset] [(.int (32 : Int32)), (.long t)]))
  refine own_go (fun _ k => XS.lushr X0.here hx rfl (hb hby dL_3) rfl k) ?_
  show own_Goes p e below (own_End s below _ _) (s₁.setTop (mkF m 4 #[.val (.long t), .second, .unset] [(.long ((t.toUInt64 >>> ((32 : Int32) &&& 0x3f).toInt64.toUInt64).toInt64))]))
  refine own_go (fun _ k => XS.l2i X0.here hx rfl (hb hby dL_4) rfl k) ?_
  show own_Goes p e below (own_End s below _ _) (s₁.setTop (mkF m 5 #[.val (.long t), .second, .unset] [(.int (((t.toUInt64 >>> ((32 : Int32) &&& 0x3f).toInt64.toUInt64).toInt64).toInt32))]))
  refine own_go (fun _ k => XS.istoreN X0.here hx rfl (hb hby dL_5) rfl (l' := #[.val (.long t), .second, .val (.int (((t.toUInt64 >>> ((32 : Int32) &&& 0x3f).toInt64.toUInt64).toInt64).toInt32))]) rfl k) ?_
  show own_Goes p e below (own_End s below _ _) (s₁.setTop (mkF m 6 #[.val (.long t), .second, .val (.int (((t.toUInt64 >>> ((32 : Int32) &&& 0x3f).toInt64.toUInt64).toInt64).toInt32))] []))
  show own_Goes p e below (own_End s below _ _) (s₁.setTop (mkF m 6 #[.val (.long t), .second, .val (.int ((own_ul t (32 : Int32)).toInt32))] []))
  refine own_go (fun _ k => XS.iloadN X0.here hx rfl (hb hby dL_6) rfl k) ?_
  show own_Goes p e below (own_End s below _ _) (s₁.setTop (mkF m 7 #[.val (.long t), .second, .val (.int ((own_ul t (32 : Int32)).toInt32))] [(.int ((own_ul t (32 : Int32)).toInt32))]))
  by_cases q : (own_ul t (32 : Int32)).toInt32 = 0
  · refine own_go (fun _ k => XS.ifNo X0.here hx rfl (hb hby dL_7) rfl (by rw [if0]; exact (teq q).2) k) ?_
    show own_Goes p e below (own_End s below _ _) (s₁.setTop (mkF m 10 #[.val (.long t), .second, .val (.int ((own_ul t (32 : Int32)).toInt32))] []))
    refine own_go (fun _ k => XS.bipush X0.here hx rfl (hb hby dL_10) k) ?_
    show own_Goes p e below (own_End s below _ _) (s₁.setTop (mkF m 12 #[.val (.long t), .second, .val (.int ((own_ul t (32 : Int32)).toInt32))] [(.int (32 : Int32))]))
    refine own_go (fun _ k => XS.lloadN X0.here hx rfl (hb hby dL_12) rfl k) ?_
    show own_Goes p e below (own_End s below _ _) (s₁.setTop (mkF m 13 #[.val (.long t), .second, .val (.int ((own_ul t (32 : Int32)).toInt32))] [(.long t), (.int (32 : Int32))]))
    refine own_go (fun _ k => XS.l2i X0.here hx rfl (hb hby dL_13) rfl k) ?_
    show own_Goes p e below (own_End s below _ _) (s₁.setTop (mkF m 14 #[.val (.long t), .second, .val (.int ((own_ul t (32 : Int32)).toInt32))] [(.int (t.toInt32)), (.int (32 : Int32))]))
    obtain ⟨vT1, T1, LT1, X1, hQT1, st1⟩ := own_callS X0 hx hZ (y := own_inzN) hown (hw _ (List.mem_of_getElem? (i := 39) rfl)) (hw _ (List.mem_of_getElem? (i := 40) rfl)) (hw _ (List.mem_of_getElem? (i := 41) rfl)) (hw _ (List.mem_of_getElem? (i := 42) rfl)) (by decide) (own_inz l Z a0 hw h0 _ (own_lo_ne ht q)) e0 (W := 1) (by decide) (by decide) (g := (mkF m 14 #[.val (.long t), .second, .val (.int ((own_ul t (32 : Int32)).toInt32))] [(.int (t.toInt32)), (.int (32 : Int32))])) rfl (by rw [hml]; rfl) (argsL := [(.int (t.toInt32))]) (rest := [(.int (32 : Int32))]) pd_II rfl rfl (by show 2 * 0 + _ ≤ _; exact Nat.le_of_eq rfl) (hb hby dL_14) rfl (by decide) (by decide)
    obtain ⟨r, rfl, hr, eT1, rfl⟩ := hQT1
    rw [List.append_nil] at X1
    refine own_go st1 ?_
    show own_Goes p e below (own_End s below _ _) (T1.setTop (mkF m 17 #[.val (.long t), .second, .val (.int ((own_ul t (32 : Int32)).toInt32))] [(.int r), (.int (32 : Int32))]))
    refine own_go (fun _ k => XS.iadd X1.here hx rfl (hb hby dL_17) rfl k) ?_
    show own_Goes p e below (own_End s below _ _) (T1.setTop (mkF m 18 #[.val (.long t), .second, .val (.int ((own_ul t (32 : Int32)).toInt32))] [(.int ((32 : Int32) + r))]))
    refine own_go (fun _ k => XS.goto X1.here hx rfl (pc0 := 18) (pc' := 25) rfl (hb hby dL_18) (by decide) (by decide) k) ?_
    show own_Goes p e below (own_End s below _ _) (T1.setTop (mkF m 25 #[.val (.long t), .second, .val (.int ((own_ul t (32 : Int32)).toInt32))] [(.int ((32 : Int32) + r))]))
    exact own_retI X1 hx Bd.notSynchronized Bd.returns (hb hby dL_25) ⟨_, rfl, own_lnz_lo ht q hr, eT1, rfl⟩ (by decide) (by decide)
  · refine own_go (fun _ k => XS.ifYes X0.here hx rfl (pc0 := 7) (pc' := 21) rfl (hb hby dL_7) rfl (by rw [if0]; exact (feq q).2) (by decide) (by decide) k) ?_
    show own_Goes p e below (own_End s below _ _) (s₁.setTop (mkF m 21 #[.val (.long t), .second, .val (.int ((own_ul t (32 : Int32)).toInt32))] []))
    refine own_go (fun _ k => XS.iloadN X0.here hx rfl (hb hby dL_21) rfl k) ?_
    show own_Goes p e below (own_End s below _ _) (s₁.setTop (mkF m 22 #[.val (.long t), .second, .val (.int ((own_ul t (32 : Int32)).toInt32))] [(.int ((own_ul t (32 : Int32)).toInt32))]))
    obtain ⟨vT1, T1, LT1, X1, hQT1, st1⟩ := own_callS X0 hx hZ (y := own_inzN) hown (hw _ (List.mem_of_getElem? (i := 39) rfl)) (hw _ (List.mem_of_getElem? (i := 40) rfl)) (hw _ (List.mem_of_getElem? (i := 41) rfl)) (hw _ (List.mem_of_getElem? (i := 42) rfl)) (by decide) (own_inz l Z a0 hw h0 _ q) e0 (W := 0) (by decide) (by decide) (g := (mkF m 22 #[.val (.long t), .second, .val (.int ((own_ul t (32 : Int32)).toInt32))] [(.int ((own_ul t (32 : Int32)).toInt32))])) rfl (by rw [hml]; rfl) (argsL := [(.int ((own_ul t (32 : Int32)).toInt32))]) (rest := []) pd_II rfl rfl (by show 2 * 0 + _ ≤ _; exact Nat.le_of_eq rfl) (hb hby dL_22) rfl (by decide) (by decide)
    obtain ⟨r, rfl, hr, eT1, rfl⟩ := hQT1
    rw [List.append_nil] at X1
    refine own_go st1 ?_
    show own_Goes p e below (own_End s below _ _) (T1.setTop (mkF m 25 #[.val (.long t), .second, .val (.int ((own_ul t (32 : Int32)).toInt32))] [(.int r)]))
    exact own_retI X1 hx Bd.notSynchronized Bd.returns (hb hby dL_25) ⟨_, rfl, own_lnz_hi ht q hr, eT1, rfl⟩ (by decide) (by decide)
def own_maxJ (x y : Int64) : Int64 := if x < y then y else x
set_option maxRecDepth 65536 in
set_option maxHeartbeats 40000000 in
theorem own_max (l : Launch) (Z : State) (a0 : Array Value) (hw : ∀ d ∈ tables_1, d.before a0 Z = true) (h0 : Heap) (x y : Int64) : own_Met l Z own_maxN jdk_29_method_66_code 4 (some .long) ({ frames := 0, cells := 0, slots := 0, locals := 0 } : Room) [] #[(.long x), (.long y)] h0 (own_Pure (some (.long (own_maxJ x y))) h0) := by
  refine own_met (by decide +kernel) ?_
  intro p e s m below meth c s₁ Bd hml hZ e0
  have hx := Bd.exec
  have hby := Bd.bytes
  have hown : s.vm.findClass "java/lang/Math" = some m.cls := findClass_of_methodNamed Bd.named
  have hnm := (name_of_methodNamed Bd.named Bd.method).1
  have X0 : Stand p l e ({ frames := 0, cells := 0, slots := 0, locals := 0 } : Room) s m #[(.long x), (.long y)] below meth c s₁ [] 0 0 := Stand.of_body Bd
  rw [ef_M]
  show own_Goes p e below (own_End s below _ _) (s₁.setTop (mkF m 0 #[.val (.long x), .second, .val (.long y), .second] []))
  refine own_go (fun _ k => XS.lloadN X0.here hx rfl (hb hby dM_0) rfl k) ?_
  show own_Goes p e below (own_End s below _ _) (s₁.setTop (mkF m 1 #[.val (.long x), .second, .val (.long y), .second] [(.long x)]))
  refine own_go (fun _ k => XS.lloadN X0.here hx rfl (hb hby dM_1) rfl k) ?_
  show own_Goes p e below (own_End s below _ _) (s₁.setTop (mkF m 2 #[.val (.long x), .second, .val (.long y), .second] [(.long y), (.long x)]))
  refine own_go (fun _ k => XS.lcmp X0.here hx rfl (hb hby dM_2) rfl k) ?_
  show own_Goes p e below (own_End s below _ _) (s₁.setTop (mkF m 3 #[.val (.long x), .second, .val (.long y), .second] [(.int (lcmpW x y))]))
  by_cases q : x < y
  · refine own_go (fun _ k => XS.ifYes X0.here hx rfl (pc0 := 3) (pc' := 10) rfl (hb hby dM_3) rfl (by rw [if0]; exact (tlt ((lw_lt x y).mpr q)).1) (by decide) (by decide) k) ?_
    show own_Goes p e below (own_End s below _ _) (s₁.setTop (mkF m 10 #[.val (.long x), .second, .val (.long y), .second] []))
    refine own_go (fun _ k => XS.lloadN X0.here hx rfl (hb hby dM_10) rfl k) ?_
    show own_Goes p e below (own_End s below _ _) (s₁.setTop (mkF m 11 #[.val (.long x), .second, .val (.long y), .second] [(.long y)]))
    exact own_retJ X0 hx Bd.notSynchronized Bd.returns (hb hby dM_11) ⟨by rw [own_maxJ, if_pos q], e0, rfl⟩ (by decide) (by decide)
  · refine own_go (fun _ k => XS.ifNo X0.here hx rfl (hb hby dM_3) rfl (by rw [if0]; exact (flt (fun z => q ((lw_lt x y).mp z))).1) k) ?_
    show own_Goes p e below (own_End s below _ _) (s₁.setTop (mkF m 6 #[.val (.long x), .second, .val (.long y), .second] []))
    refine own_go (fun _ k => XS.lloadN X0.here hx rfl (hb hby dM_6) rfl k) ?_
    show own_Goes p e below (own_End s below _ _) (s₁.setTop (mkF m 7 #[.val (.long x), .second, .val (.long y), .second] [(.long x)]))
    refine own_go (fun _ k => XS.goto X0.here hx rfl (pc0 := 7) (pc' := 11) rfl (hb hby dM_7) (by decide) (by decide) k) ?_
    show own_Goes p e below (own_End s below _ _) (s₁.setTop (mkF m 11 #[.val (.long x), .second, .val (.long y), .second] [(.long x)]))
    exact own_retJ X0 hx Bd.notSynchronized Bd.returns (hb hby dM_11) ⟨by rw [own_maxJ, if_neg q], e0, rfl⟩ (by decide) (by decide)
def own_QB (h0 : Heap) (v : Option Value) (h : Heap) (L : List Loc) : Prop := ∃ k : Int32, v = some (.int k) ∧ (0 ≤ k.toInt ∧ k.toInt < 14336) ∧ h = h0 ∧ L = []
theorem own_Lg_shift {k n : Nat} (h : own_Lg k n) (hk : 8 ≤ k) : 256 ≤ n / 2 ^ (k - 8) ∧ n / 2 ^ (k - 8) < 512 := by
  obtain ⟨h1, h2⟩ := h
  have hp : 0 < 2 ^ (k - 8) := Nat.pow_pos (by decide)
  have e0 := Nat.pow_add 2 8 (k - 8)
  rw [show 8 + (k - 8) = k from by omega] at e0
  have e1 : 2 ^ k = 256 * 2 ^ (k - 8) := e0
  have e2 : 2 ^ (k + 1) = 512 * 2 ^ (k - 8) := by rw [Nat.pow_succ, e1]; omega
  exact ⟨(Nat.le_div_iff_mul_le hp).mpr (by omega), (Nat.div_lt_iff_lt_mul hp).mpr (by omega)⟩
theorem own_Lg_ge {k n : Nat} (h : own_Lg k n) (hn : 512 ≤ n) : 9 ≤ k := by
  have h2 := h.2
  have h3 : 2 ^ 9 < 2 ^ (k + 1) := Nat.lt_of_le_of_lt hn h2
  have := (Nat.pow_lt_pow_iff_right (by decide : 1 < 2)).mp h3
  omega
def own_bk (t : Int64) (r : Int32) : Int32 := (512 : Int32) + ((63 - r) - 9) * 256 + ((own_ul t ((63 - r) - 8)).toInt32 - 256)
theorem own_bk_b {t : Int64} {r : Int32} (ht : 512 ≤ t.toInt) (h : ∃ k : Nat, k ≤ 62 ∧ r.toInt = 63 - k ∧ own_Lg k t.toInt.toNat) : 0 ≤ (own_bk t r).toInt ∧ (own_bk t r).toInt < 14336 := by
  obtain ⟨k, h1, h2, h3⟩ := h
  have h4 := own_Lg_ge h3 (by omega)
  obtain ⟨h5, h6⟩ := own_Lg_shift h3 (by omega)
  have c63 : (63 : Int32).toInt = 63 := by decide
  have c9 : (9 : Int32).toInt = 9 := by decide
  have c8 : (8 : Int32).toInt = 8 := by decide
  have c256 : (256 : Int32).toInt = 256 := by decide
  have c512 : (512 : Int32).toInt = 512 := by decide
  have a1 : ((63 : Int32) - r).toInt = k := by rw [own_sub32 (by omega) (by omega)]; omega
  have a2 : (((63 : Int32) - r) - 9).toInt = k - 9 := by rw [own_sub32 (by omega) (by omega)]; omega
  have a3 : (((63 : Int32) - r) - 8).toInt = k - 8 := by rw [own_sub32 (by omega) (by omega)]; omega
  have a4 : ((((63 : Int32) - r) - 9) * 256).toInt = (k - 9) * 256 := by rw [own_mul32 (by rw [a2, c256]; omega) (by rw [a2, c256]; omega), a2, c256]
  have a5 : (((63 : Int32) - r) - 8).toBitVec.toNat % 64 = k - 8 := by
    have e : (((63 : Int32) - r) - 8).toInt = (((63 : Int32) - r) - 8).toBitVec.toInt := rfl
    rw [a3, BitVec.toInt_eq_toNat_cond] at e
    have := (((63 : Int32) - r) - 8).toBitVec.isLt
    split at e <;> omega
  obtain ⟨b1, b2⟩ := own_ul_v (t := t) (((63 : Int32) - r) - 8) (k - 8) a5 (by omega) (by omega)
  have b3 : ((own_ul t (((63 : Int32) - r) - 8)).toInt32).toInt = (own_ul t (((63 : Int32) - r) - 8)).toInt := own_l2i_v (by omega) (by omega)
  have b4 : ((own_ul t (((63 : Int32) - r) - 8)).toInt32 - 256).toInt = (own_ul t (((63 : Int32) - r) - 8)).toInt - 256 := by rw [own_sub32 (by omega) (by omega)]; omega
  have b5 : ((512 : Int32) + (((63 : Int32) - r) - 9) * 256).toInt = 512 + (k - 9) * 256 := by rw [own_add32 (by omega) (by omega)]; omega
  have b6 : (own_bk t r).toInt = 512 + (k - 9) * 256 + ((own_ul t (((63 : Int32) - r) - 8)).toInt - 256) := by
    unfold own_bk
    rw [own_add32 (by omega) (by omega), b5, b4]
  omega
set_option maxRecDepth 65536 in
set_option maxHeartbeats 40000000 in
theorem own_buc (l : Launch) (Z : State) (a0 : Array Value) (hw : ∀ d ∈ tables_1, d.before a0 Z = true) (h0 : Heap) (t : Int64) (ht : 0 ≤ t.toInt) : own_Met l Z own_bucN prog_36_method_6_code 5 (some .int) ({ frames := 2, cells := 0, slots := 0, locals := 29 } : Room) [] #[(.long t)] h0 (own_QB h0) := by
  refine own_met (plainFor_of_name pn_H) ?_
  intro p e s m below meth c s₁ Bd hml hZ e0
  have hx := Bd.exec
  have hby := Bd.bytes
  have hown : s.vm.findClass "com/example/holdfast/holdfast/cli/LatencyHistogram" = some m.cls := findClass_of_methodNamed Bd.named
  have hnm := (name_of_methodNamed Bd.named Bd.method).1
  have X0 : Stand p l e ({ frames := 2, cells := 0, slots := 0, locals := 29 } : Room) s m #[(.long t)] below meth c s₁ [] 0 0 := Stand.of_body Bd
  rw [ef_B]
  show own_Goes p e below (own_End s below _ _) (s₁.setTop (mkF m 0 #[.val (.long t), .second, .unset, .unset, .unset] []))
  refine own_go (fun _ k => XS.lloadN X0.here hx rfl (hb hby dB_0) rfl k) ?_
  show own_Goes p e below (own_End s below _ _) (s₁.setTop (mkF m 1 #[.val (.long t), .second, .unset, .unset, .unset] [(.long t)]))
  refine own_go (fun _ k => Stand.ldc2J X0 hx hown (mvT hZ (hw _ (List.mem_of_getElem? (i := 24) rfl))) rfl (hb hby dB_1) k) ?_
  show own_Goes p e below (own_End s below _ _) (s₁.setTop (mkF m 4 #[.val (.long t), .second, .unset, .unset, .unset] [(.long (512 : Int64)), (.long t)]))
  refine own_go (fun _ k => XS.lcmp X0.here hx rfl (hb hby dB_4) rfl k) ?_
  show own_Goes p e below (own_End s below _ _) (s₁.setTop (mkF m 5 #[.val (.long t), .second, .unset, .unset, .unset] [(.int (lcmpW t (512 : Int64)))]))
  have c512 : (512 : Int64).toInt = 512 := by decide
  by_cases q : t < (512 : Int64)
  · refine own_go (fun _ k => XS.ifNo X0.here hx rfl (hb hby dB_5) rfl (by rw [if0]; exact (tlt ((lw_lt _ _).mpr q)).2.1) k) ?_
    show own_Goes p e below (own_End s below _ _) (s₁.setTop (mkF m 8 #[.val (.long t), .second, .unset, .unset, .unset] []))
    refine own_go (fun _ k => XS.lloadN X0.here hx rfl (hb hby dB_8) rfl k) ?_
    show own_Goes p e below (own_End s below _ _) (s₁.setTop (mkF m 9 #[.val (.long t), .second, .unset, .unset, .unset] [(.long t)]))
    refine own_go (fun _ k => XS.l2i X0.here hx rfl (hb hby dB_9) rfl k) ?_
    show own_Goes p e below (own_End s below _ _) (s₁.setTop (mkF m 10 #[.val (.long t), .second, .unset, .unset, .unset] [(.int (t.toInt32))]))
    have q' := own_lt64.mp q
    exact own_retI X0 hx Bd.notSynchronized Bd.returns (hb hby dB_10) ⟨_, rfl, by rw [own_l2i_v (by omega) (by omega)]; omega, e0, rfl⟩ (by decide) (by decide)
  · refine own_go (fun _ k => XS.ifYes X0.here hx rfl (pc0 := 5) (pc' := 11) rfl (hb hby dB_5) rfl (by rw [if0]; exact (flt (fun z => q ((lw_lt _ _).mp z))).2.1) (by decide) (by decide) k) ?_
    show own_Goes p e below (own_End s below _ _) (s₁.setTop (mkF m 11 #[.val (.long t), .second, .unset, .unset, .unset] []))
    refine own_go (fun _ k => XS.bipush X0.here hx rfl (hb hby dB_11) k) ?_
    show own_Goes p e below (own_End s below _ _) (s₁.setTop (mkF m 13 #[.val (.long t), .second, .unset, .unset, .unset] [(.int (63 : Int32))]))
    refine own_go (fun _ k => XS.lloadN X0.here hx rfl (hb hby dB_13) rfl k) ?_
    show own_Goes p e below (own_End s below _ _) (s₁.setTop (mkF m 14 #[.val (.long t), .second, .unset, .unset, .unset] [(.long t), (.int (63 : Int32))]))
    have q' : 512 ≤ t.toInt := by have : ¬ t.toInt < (512 : Int64).toInt := fun z => q (own_lt64.mpr z)
                                  omega
    obtain ⟨vT1, T1, LT1, X1, hQT1, st1⟩ := own_callS X0 hx hZ (y := own_lnzN) hown (hw _ (List.mem_of_getElem? (i := 35) rfl)) (hw _ (List.mem_of_getElem? (i := 36) rfl)) (hw _ (List.mem_of_getElem? (i := 37) rfl)) (hw _ (List.mem_of_getElem? (i := 38) rfl)) (by decide) (own_lnz l Z a0 hw h0 t (by omega)) e0 (W := 1) (by decide) (by decide) (g := (mkF m 14 #[.val (.long t), .second, .unset, .unset, .unset] [(.long t), (.int (63 : Int32))])) rfl (by rw [hml]; rfl) (argsL := [(.long t)]) (rest := [(.int (63 : Int32))]) pd_JI rfl rfl (by show 2 * 0 + _ ≤ _; exact Nat.le_of_eq rfl) (hb hby dB_14) rfl (by decide) (by decide)
    obtain ⟨r, rfl, hr, eT1, rfl⟩ := hQT1
    rw [List.append_nil] at X1
    refine own_go st1 ?_
    show own_Goes p e below (own_End s below _ _) (T1.setTop (mkF m 17 #[.val (.long t), .second, .unset, .unset, .unset] [(.int r), (.int (63 : Int32))]))
    refine own_go (fun _ k => XS.isub X1.here hx rfl (hb hby dB_17) rfl k) ?_
    show own_Goes p e below (own_End s below _ _) (T1.setTop (mkF m 18 #[.val (.long t), .second, .unset, .unset, .unset] [(.int ((63 : Int32) - r))]))
    refine own_go (fun _ k => XS.istoreN X1.here hx rfl (hb hby dB_18) rfl (l' := #[.val (.long t), .second, .val (.int ((63 : Int32) - r)), .unset, .unset]) rfl k) ?_
    show own_Goes p e below (own_End s below _ _) (T1.setTop (mkF m 19 #[.val (.long t), .second, .val (.int ((63 : Int32) - r)), .unset, .unset] []))
    refine own_go (fun _ k => XS.iloadN X1.here hx rfl (hb hby dB_19) rfl k) ?_
    show own_Goes p e below (own_End s below _ _) (T1.setTop (mkF m 20 #[.val (.long t), .second, .val (.int ((63 : Int32) - r)), .unset, .unset] [(.int ((63 : Int32) - r))]))
    refine own_go (fun _ k => XS.bipush X1.here hx rfl (hb hby dB_20) k) ?_
    show own_Goes p e below (own_End s below _ _) (T1.setTop (mkF m 22 #[.val (.long t), .second, .val (.int ((63 : Int32) - r)), .unset, .unset] [(.int (8 : Int32)), (.int ((63 : Int32) - r))]))
    refine own_go (fun _ k => XS.isub X1.here hx rfl (hb hby dB_22) rfl k) ?_
    show own_Goes p e below (own_End s below _ _) (T1.setTop (mkF m 23 #[.val (.long t), .second, .val (.int ((63 : Int32) - r)), .unset, .unset] [(.int (((63 : Int32) - r) - (8 : Int32)))]))
    refine own_go (fun _ k => XS.istoreN X1.here hx rfl (hb hby dB_23) rfl (l' := #[.val (.long t), .second, .val (.int ((63 : Int32) - r)), .val (.int (((63 : Int32) - r) - (8 : Int32))), .unset]) rfl k) ?_
    show own_Goes p e below (own_End s below _ _) (T1.setTop (mkF m 24 #[.val (.long t), .second, .val (.int ((63 : Int32) - r)), .val (.int (((63 : Int32) - r) - (8 : Int32))), .unset] []))
    refine own_go (fun _ k => XS.lloadN X1.here hx rfl (hb hby dB_24) rfl k) ?_
    show own_Goes p e below (own_End s below _ _) (T1.setTop (mkF m 25 #[.val (.long t), .second, .val (.int ((63 : Int32) - r)), .val (.int (((63 : Int32) - r) - (8 : Int32))), .unset] [(.long t)]))
    refine own_go (fun _ k => XS.iloadN X1.here hx rfl (hb hby dB_25) rfl k) ?_
    show own_Goes p e below (own_End s below _ _) (T1.setTop (mkF m 26 #[.val (.long t), .second, .val (.int ((63 : Int32) - r)), .val (.int (((63 : Int32) - r) - (8 : Int32))), .unset] [(.int (((63 : Int32) - r) - (8 : Int32))), (.long t)]))
    refine own_go (fun _ k => XS.lushr X1.here hx rfl (hb hby dB_26) rfl k) ?_
    show own_Goes p e below (own_End s below _ _) (T1.setTop (mkF m 27 #[.val (.long t), .second, .val (.int ((63 : Int32) - r)), .val (.int (((63 : Int32) - r) - (8 : Int32))), .unset] [(.long ((t.toUInt64 >>> ((((63 : Int32) - r) - (8 : Int32)) &&& 0x3f).toInt64.toUInt64).toInt64))]))
    refine own_go (fun _ k => XS.l2i X1.here hx rfl (hb hby dB_27) rfl k) ?_
    show own_Goes p e below (own_End s below _ _) (T1.setTop (mkF m 28 #[.val (.long t), .second, .val (.int ((63 : Int32) - r)), .val (.int (((63 : Int32) - r) - (8 : Int32))), .unset] [(.int (((t.toUInt64 >>> ((((63 : Int32) - r) - (8 : Int32)) &&& 0x3f).toInt64.toUInt64).toInt64).toInt32))]))
    refine own_go (fun _ k => XS.sipush X1.here hx rfl (hb hby dB_28) k) ?_
    show own_Goes p e below (own_End s below _ _) (T1.setTop (mkF m 31 #[.val (.long t), .second, .val (.int ((63 : Int32) - r)), .val (.int (((63 : Int32) - r) - (8 : Int32))), .unset] [(.int (256 : Int32)), (.int (((t.toUInt64 >>> ((((63 : Int32) - r) - (8 : Int32)) &&& 0x3f).toInt64.toUInt64).toInt64).toInt32))]))
    refine own_go (fun _ k => XS.isub X1.here hx rfl (hb hby dB_31) rfl k) ?_
    show own_Goes p e below (own_End s below _ _) (T1.setTop (mkF m 32 #[.val (.long t), .second, .val (.int ((63 : Int32) - r)), .val (.int (((63 : Int32) - r) - (8 : Int32))), .unset] [(.int ((((t.toUInt64 >>> ((((63 : Int32) - r) - (8 : Int32)) &&& 0x3f).toInt64.toUInt64).toInt64).toInt32) - (256 : Int32)))]))
    refine own_go (fun _ k => XS.istore X1.here hx rfl (hb hby dB_32) rfl (l' := #[.val (.long t), .second, .val (.int ((63 : Int32) - r)), .val (.int (((63 : Int32) - r) - (8 : Int32))), .val (.int ((((t.toUInt64 >>> ((((63 : Int32) - r) - (8 : Int32)) &&& 0x3f).toInt64.toUInt64).toInt64).toInt32) - (256 : Int32)))]) rfl k) ?_
    show own_Goes p e below (own_End s below _ _) (T1.setTop (mkF m 34 #[.val (.long t), .second, .val (.int ((63 : Int32) - r)), .val (.int (((63 : Int32) - r) - (8 : Int32))), .val (.int ((((t.toUInt64 >>> ((((63 : Int32) - r) - (8 : Int32)) &&& 0x3f).toInt64.toUInt64).toInt64).toInt32) - (256 : Int32)))] []))
    refine own_go (fun _ k => XS.sipush X1.here hx rfl (hb hby dB_34) k) ?_
    show own_Goes p e below (own_End s below _ _) (T1.setTop (mkF m 37 #[.val (.long t), .second, .val (.int ((63 : Int32) - r)), .val (.int (((63 : Int32) - r) - (8 : Int32))), .val (.int ((((t.toUInt64 >>> ((((63 : Int32) - r) - (8 : Int32)) &&& 0x3f).toInt64.toUInt64).toInt64).toInt32) - (256 : Int32)))] [(.int (512 : Int32))]))
    refine own_go (fun _ k => XS.iloadN X1.here hx rfl (hb hby dB_37) rfl k) ?_
    show own_Goes p e below (own_End s below _ _) (T1.setTop (mkF m 38 #[.val (.long t), .second, .val (.int ((63 : Int32) - r)), .val (.int (((63 : Int32) - r) - (8 : Int32))), .val (.int ((((t.toUInt64 >>> ((((63 : Int32) - r) - (8 : Int32)) &&& 0x3f).toInt64.toUInt64).toInt64).toInt32) - (256 : Int32)))] [(.int ((63 : Int32) - r)), (.int (512 : Int32))]))
    refine own_go (fun _ k => XS.bipush X1.here hx rfl (hb hby dB_38) k) ?_
    show own_Goes p e below (own_End s below _ _) (T1.setTop (mkF m 40 #[.val (.long t), .second, .val (.int ((63 : Int32) - r)), .val (.int (((63 : Int32) - r) - (8 : Int32))), .val (.int ((((t.toUInt64 >>> ((((63 : Int32) - r) - (8 : Int32)) &&& 0x3f).toInt64.toUInt64).toInt64).toInt32) - (256 : Int32)))] [(.int (9 : Int32)), (.int ((63 : Int32) - r)), (.int (512 : Int32))]))
    refine own_go (fun _ k => XS.isub X1.here hx rfl (hb hby dB_40) rfl k) ?_
    show own_Goes p e below (own_End s below _ _) (T1.setTop (mkF m 41 #[.val (.long t), .second, .val (.int ((63 : Int32) - r)), .val (.int (((63 : Int32) - r) - (8 : Int32))), .val (.int ((((t.toUInt64 >>> ((((63 : Int32) - r) - (8 : Int32)) &&& 0x3f).toInt64.toUInt64).toInt64).toInt32) - (256 : Int32)))] [(.int (((63 : Int32) - r) - (9 : Int32))), (.int (512 : Int32))]))
    refine own_go (fun _ k => XS.sipush X1.here hx rfl (hb hby dB_41) k) ?_
    show own_Goes p e below (own_End s below _ _) (T1.setTop (mkF m 44 #[.val (.long t), .second, .val (.int ((63 : Int32) - r)), .val (.int (((63 : Int32) - r) - (8 : Int32))), .val (.int ((((t.toUInt64 >>> ((((63 : Int32) - r) - (8 : Int32)) &&& 0x3f).toInt64.toUInt64).toInt64).toInt32) - (256 : Int32)))] [(.int (256 : Int32)), (.int (((63 : Int32) - r) - (9 : Int32))), (.int (512 : Int32))]))
    refine own_go (fun _ k => XS.imul X1.here hx rfl (hb hby dB_44) rfl k) ?_
    show own_Goes p e below (own_End s below _ _) (T1.setTop (mkF m 45 #[.val (.long t), .second, .val (.int ((63 : Int32) - r)), .val (.int (((63 : Int32) - r) - (8 : Int32))), .val (.int ((((t.toUInt64 >>> ((((63 : Int32) - r) - (8 : Int32)) &&& 0x3f).toInt64.toUInt64).toInt64).toInt32) - (256 : Int32)))] [(.int ((((63 : Int32) - r) - (9 : Int32)) * (256 : Int32))), (.int (512 : Int32))]))
    refine own_go (fun _ k => XS.iadd X1.here hx rfl (hb hby dB_45) rfl k) ?_
    show own_Goes p e below (own_End s below _ _) (T1.setTop (mkF m 46 #[.val (.long t), .second, .val (.int ((63 : Int32) - r)), .val (.int (((63 : Int32) - r) - (8 : Int32))), .val (.int ((((t.toUInt64 >>> ((((63 : Int32) - r) - (8 : Int32)) &&& 0x3f).toInt64.toUInt64).toInt64).toInt32) - (256 : Int32)))] [(.int ((512 : Int32) + ((((63 : Int32) - r) - (9 : Int32)) * (256 : Int32))))]))
    refine own_go (fun _ k => XS.iload X1.here hx rfl (hb hby dB_46) rfl k) ?_
    show own_Goes p e below (own_End s below _ _) (T1.setTop (mkF m 48 #[.val (.long t), .second, .val (.int ((63 : Int32) - r)), .val (.int (((63 : Int32) - r) - (8 : Int32))), .val (.int ((((t.toUInt64 >>> ((((63 : Int32) - r) - (8 : Int32)) &&& 0x3f).toInt64.toUInt64).toInt64).toInt32) - (256 : Int32)))] [(.int ((((t.toUInt64 >>> ((((63 : Int32) - r) - (8 : Int32)) &&& 0x3f).toInt64.toUInt64).toInt64).toInt32) - (256 : Int32))), (.int ((512 : Int32) + ((((63 : Int32) - r) - (9 : Int32)) * (256 : Int32))))]))
    refine own_go (fun _ k => XS.iadd X1.here hx rfl (hb hby dB_48) rfl k) ?_
    show own_Goes p e below (own_End s below _ _) (T1.setTop (mkF m 49 #[.val (.long t), .second, .val (.int ((63 : Int32) - r)), .val (.int (((63 : Int32) - r) - (8 : Int32))), .val (.int ((((t.toUInt64 >>> ((((63 : Int32) - r) - (8 : Int32)) &&& 0x3f).toInt64.toUInt64).toInt64).toInt32) - (256 : Int32)))] [(.int (((512 : Int32) + ((((63 : Int32) - r) - (9 : Int32)) * (256 : Int32))) + ((((t.toUInt64 >>> ((((63 : Int32) - r) - (8 : Int32)) &&& 0x3f).toInt64.toUInt64).toInt64).toInt32) - (256 : Int32))))]))
    exact own_retI X1 hx Bd.notSynchronized Bd.returns (hb hby dB_49) ⟨own_bk t r, rfl, own_bk_b q' hr, eT1, rfl⟩ (by decide) (by decide)
def own_H (Z : State) (h : Heap) (a b : Addr) (f : Nat → Int64) (cnt sm : Int64) : Prop :=
  Exa Z h a "com/example/holdfast/holdfast/cli/LatencyHistogram" ∧ Fld Z h a "com/example/holdfast/holdfast/cli/LatencyHistogram" "counts" "[J" (.ref b) ∧ (∃ cl : Cell, Arr Z h b cl .long ∧ cl.slots.size = 14336 ∧ ∀ i, i < 14336 → cl.slots[i]? = some (.long (f i))) ∧ Fld Z h a "com/example/holdfast/holdfast/cli/LatencyHistogram" "count" "J" (.long cnt) ∧ Fld Z h a "com/example/holdfast/holdfast/cli/LatencyHistogram" "sum" "J" (.long sm)
section OwnH
variable {Z : State} {h h' : Heap} {a b : Addr} {f : Nat → Int64} {cnt sm : Int64} {a0 : Array Value} {ws : List Addr}
theorem own_H_ne (hw : ∀ d ∈ tables_1, d.before a0 Z = true) (H : own_H Z h a b f cnt sm) : a ≠ b := by
  obtain ⟨E, -, ⟨cl, A, -⟩, -⟩ := H
  exact ne_arr E (hw _ (List.mem_of_getElem? (i := 1) rfl)) A
theorem own_H_lt (H : own_H Z h a b f cnt sm) : a < h.size ∧ b < h.size := by
  obtain ⟨E, -, ⟨cl, A, -⟩, -⟩ := H
  exact ⟨E.lt, A.lt⟩
theorem own_H_keep (H : own_H Z h a b f cnt sm) (K : Keep h h' ws) (qa : a ∉ ws) (qb : b ∉ ws) : own_H Z h' a b f cnt sm := by
  obtain ⟨E, F, ⟨cl, A, r⟩, G, I⟩ := H
  exact ⟨E.keep K, F.keep K qa, ⟨cl, ⟨K.2.1 b cl A.1 qb, A.2⟩, r⟩, G.keep K qa, I.keep K qa⟩
theorem own_H_arr (hw : ∀ d ∈ tables_1, d.before a0 Z = true) (H : own_H Z h a b f cnt sm) {j : Nat} {v : Int64} (hj : j < 14336) (W : Wr h h' b j (.long v)) : own_H Z h' a b (fun i => if i = j then v else f i) cnt sm := by
  have ne := own_H_ne hw H
  obtain ⟨E, F, ⟨cl, A, S, V⟩, G, I⟩ := H
  refine ⟨E.wr W, F.other W (Or.inl ne), ⟨_, A.same W, by rw [sz_set]; exact S, fun i hi => ?_⟩, G.other W (Or.inl ne), I.other W (Or.inl ne)⟩
  rw [own_set_get (by omega)]
  show _ = some (Value.long (if i = j then v else f i))
  by_cases q : i = j
  · rw [if_pos q, if_pos q]
  · rw [if_neg q, if_neg q]; exact V i hi
theorem own_H_cnt (hw : ∀ d ∈ tables_1, d.before a0 Z = true) (H : own_H Z h a b f cnt sm) {v : Int64} (W : Wr h h' a (Jvm.RoadKit.slotOf Z "com/example/holdfast/holdfast/cli/LatencyHistogram" "count" "J") (.long v)) : own_H Z h' a b f v sm := by
  have ne := own_H_ne hw H
  obtain ⟨E, F, ⟨cl, A, S, V⟩, G, I⟩ := H
  exact ⟨E.wr W, F.other W (Or.inr (Jvm.RoadKit.slot_ne (C := "com/example/holdfast/holdfast/cli/LatencyHistogram") (Or.inr (hw _ (List.mem_of_getElem? (i := 11) rfl))) (Or.inl (hw _ (List.mem_of_getElem? (i := 26) rfl))) (by decide) (t := .array .long) (t' := .long) (by decide) (by decide))), ⟨cl, A.other W ne.symm, S, V⟩, G.same W, I.other W (Or.inr (Jvm.RoadKit.slot_ne (C := "com/example/holdfast/holdfast/cli/LatencyHistogram") (Or.inl (hw _ (List.mem_of_getElem? (i := 28) rfl))) (Or.inl (hw _ (List.mem_of_getElem? (i := 26) rfl))) (by decide) (t := .long) (t' := .long) (by decide) (by decide)))⟩
theorem own_H_sum (hw : ∀ d ∈ tables_1, d.before a0 Z = true) (H : own_H Z h a b f cnt sm) {v : Int64} (W : Wr h h' a (Jvm.RoadKit.slotOf Z "com/example/holdfast/holdfast/cli/LatencyHistogram" "sum" "J") (.long v)) : own_H Z h' a b f cnt v := by
  have ne := own_H_ne hw H
  obtain ⟨E, F, ⟨cl, A, S, V⟩, G, I⟩ := H
  exact ⟨E.wr W, F.other W (Or.inr (Jvm.RoadKit.slot_ne (C := "com/example/holdfast/holdfast/cli/LatencyHistogram") (Or.inr (hw _ (List.mem_of_getElem? (i := 11) rfl))) (Or.inl (hw _ (List.mem_of_getElem? (i := 28) rfl))) (by decide) (t := .array .long) (t' := .long) (by decide) (by decide))), ⟨cl, A.other W ne.symm, S, V⟩, G.other W (Or.inr (Jvm.RoadKit.slot_ne (C := "com/example/holdfast/holdfast/cli/LatencyHistogram") (Or.inl (hw _ (List.mem_of_getElem? (i := 26) rfl))) (Or.inl (hw _ (List.mem_of_getElem? (i := 28) rfl))) (by decide) (t := .long) (t' := .long) (by decide) (by decide))), I.same W⟩
end OwnH
def own_QI (Z : State) (h0 : Heap) (n0 : Nat) (a : Addr) (v : Option Value) (h : Heap) (L : List Loc) : Prop := v = none ∧ Fr n0 L ∧ Keep h0 h [a] ∧ ∃ b, h0.size ≤ b ∧ own_H Z h a b (fun _ => 0) 0 0
theorem own_new_get (cA : ClassId) {i : Nat} (hi : i < 14336) : (newA cA .long (14336 : Int32)).slots[i]? = some (.long 0) := by
  have e : (14336 : Int32).toNatClampNeg = 14336 := by decide
  simp only [newA, e]
  rw [Array.getElem?_replicate, if_pos hi] <;> rfl
set_option maxRecDepth 65536 in
set_option maxHeartbeats 40000000 in
theorem own_ini (l : Launch) (Z : State) (a0 : Array Value) (hw : ∀ d ∈ tables_1, d.before a0 Z = true) (h0 : Heap) (n0 : Nat) (a : Addr) (Z0 : n0 ≤ h0.size) (ga : n0 ≤ a) (EE : Exa Z h0 a "com/example/holdfast/holdfast/cli/LatencyHistogram") (F0 : Fld Z h0 a "com/example/holdfast/holdfast/cli/LatencyHistogram" "counts" "[J" .null) (F1 : Fld Z h0 a "com/example/holdfast/holdfast/cli/LatencyHistogram" "count" "J" (.long 0)) (F2 : Fld Z h0 a "com/example/holdfast/holdfast/cli/LatencyHistogram" "sum" "J" (.long 0)) : own_Met l Z own_iniN prog_36_method_1_code 1 none ({ frames := 1, cells := 1, slots := 14336, locals := 12 } : Room) [] #[(.ref a)] h0 (own_QI Z h0 n0 a) := by
  refine own_met (plainFor_of_name pn_H) ?_
  intro p e s m below meth c s₁ Bd hml hZ e0
  have hx := Bd.exec
  have hby := Bd.bytes
  have hown : s.vm.findClass "com/example/holdfast/holdfast/cli/LatencyHistogram" = some m.cls := findClass_of_methodNamed Bd.named
  have hnm := (name_of_methodNamed Bd.named Bd.method).1
  have X0 : Stand p l e ({ frames := 1, cells := 1, slots := 14336, locals := 12 } : Room) s m #[(.ref a)] below meth c s₁ [] 0 0 := Stand.of_body Bd
  rw [ef_I]
  show own_Goes p e below (own_End s below _ _) (s₁.setTop (mkF m 0 #[.val (.ref a)] []))
  refine own_go (fun _ k => XS.aloadN X0.here hx rfl (hb hby dI_0) rfl rfl k) ?_
  show own_Goes p e below (own_End s below _ _) (s₁.setTop (mkF m 1 #[.val (.ref a)] [(.ref a)]))
  obtain ⟨T1, X1, e1, st1⟩ := initO X0 hx hZ hown (hw _ (List.mem_of_getElem? (i := 6) rfl)) (hw _ (List.mem_of_getElem? (i := 7) rfl)) (hw _ (List.mem_of_getElem? (i := 8) rfl)) e0 (g := (mkF m 1 #[.val (.ref a)] [(.ref a)])) rfl (by rw [hml]; rfl) rfl (hb hby dI_1) (by decide) (W := 0) (by show 2 * 0 + _ ≤ _; exact Nat.le_of_eq rfl) (by decide)
  refine own_go st1 ?_
  show own_Goes p e below (own_End s below _ _) (T1.setTop (mkF m 4 #[.val (.ref a)] []))
  refine own_go (fun _ k => XS.aloadN X1.here hx rfl (hb hby dI_4) rfl rfl k) ?_
  show own_Goes p e below (own_End s below _ _) (T1.setTop (mkF m 5 #[.val (.ref a)] [(.ref a)]))
  refine own_go (fun _ k => XS.sipush X1.here hx rfl (hb hby dI_5) k) ?_
  show own_Goes p e below (own_End s below _ _) (T1.setTop (mkF m 8 #[.val (.ref a)] [(.int (14336 : Int32)), (.ref a)]))
  obtain ⟨T2, h2, cA, X2, e2, E2, A2, st2⟩ := newP (aty := .long) X1 hx hZ (hw _ (List.mem_of_getElem? (i := 9) rfl)) e1 (g := (mkF m 8 #[.val (.ref a)] [(.int (14336 : Int32)), (.ref a)])) rfl (hb hby dI_8) rfl (by decide) (cap := 14336) (by decide) (by decide) (by decide) (by decide)
  obtain ⟨b, gb⟩ : ∃ z, z = h0.size := ⟨_, rfl⟩
  rw [← gb] at A2 st2
  have B2 : Arr Z h2 b (newA cA .long (14336 : Int32)) .long := A2
  refine own_go st2 ?_
  show own_Goes p e below (own_End s below _ _) (T2.setTop (mkF m 10 #[.val (.ref a)] [(.ref b), (.ref a)]))
  obtain ⟨T3, h3, X3, e3, W3, st3⟩ := putF X2 hx hZ hown (host := "") (Or.inl (hw _ (List.mem_of_getElem? (i := 10) rfl))) Via.refl e2 (F0.ext E2) (EE.ext E2) (Or.inr ⟨(hw _ (List.mem_of_getElem? (i := 11) rfl)), rfl, hnm⟩) (hw _ (List.mem_of_getElem? (i := 1) rfl)) (ty := .array .long) (by decide) rfl rfl (g := (mkF m 10 #[.val (.ref a)] [(.ref b), (.ref a)])) rfl rfl (hb hby dI_10)
  have N3 := Fr.snoc X3 (Fr.nil n0) ga
  refine own_go st3 ?_
  show own_Goes p e below (own_End s below _ _) (T3.setTop (mkF m 13 #[.val (.ref a)] []))
  have ne : a ≠ b := ne_arr (EE.ext E2) (hw _ (List.mem_of_getElem? (i := 1) rfl)) B2
  have K3 : Keep h0 h3 [a] := ((Keep.refl h0 [a]).ext E2).wr W3 (Or.inl (List.mem_of_getElem? (i := 0) rfl))
  have H3 : own_H Z h3 a b (fun _ => 0) 0 0 := ⟨(EE.ext E2).wr W3, (F0.ext E2).same W3, ⟨_, B2.other W3 ne.symm, by rw [sz_new]; decide, fun i hi => own_new_get cA hi⟩, (F1.ext E2).other W3 (Or.inr (Jvm.RoadKit.slot_ne (C := "com/example/holdfast/holdfast/cli/LatencyHistogram") (Or.inl (hw _ (List.mem_of_getElem? (i := 26) rfl))) (Or.inr (hw _ (List.mem_of_getElem? (i := 11) rfl))) (by decide) (t := .long) (t' := .array .long) (by decide) (by decide))), (F2.ext E2).other W3 (Or.inr (Jvm.RoadKit.slot_ne (C := "com/example/holdfast/holdfast/cli/LatencyHistogram") (Or.inl (hw _ (List.mem_of_getElem? (i := 28) rfl))) (Or.inr (hw _ (List.mem_of_getElem? (i := 11) rfl))) (by decide) (t := .long) (t' := .array .long) (by decide) (by decide)))⟩
  exact own_retV X3 hx Bd.notSynchronized Bd.returns (hb hby dI_13) (by rw [e3]; exact ⟨rfl, N3, K3, b, Nat.le_of_eq gb.symm, H3⟩) (by decide) (by decide)
def own_QR (Z : State) (h0 : Heap) (n0 : Nat) (a b : Addr) (f : Nat → Int64) (cnt sm x : Int64) (v : Option Value) (h : Heap) (L : List Loc) : Prop := v = none ∧ Fr n0 L ∧ Keep h0 h [a, b] ∧ ∃ k, k < 14336 ∧ own_H Z h a b (fun i => if i = k then f k + 1 else f i) (cnt + 1) (sm + own_maxJ 0 x)
theorem own_max_nn (x : Int64) : 0 ≤ (own_maxJ 0 x).toInt := by
  unfold own_maxJ
  by_cases q : (0 : Int64) < x
  · rw [if_pos q]; have := own_lt64.mp q; have e : (0 : Int64).toInt = 0 := by decide
    omega
  · rw [if_neg q]; decide
theorem own_inb {k : Int32} {n : Nat} (h : 0 ≤ k.toInt ∧ k.toInt < n) : ¬ (k < 0 ∨ n ≤ k.toNatClampNeg) := by
  have e : (0 : Int32).toInt = 0 := by decide
  rintro (q | q)
  · have := own_lt32.mp q; omega
  · rw [own_clamp] at q; omega
set_option maxRecDepth 65536 in
set_option maxHeartbeats 40000000 in
theorem own_rec (l : Launch) (Z : State) (a0 : Array Value) (hw : ∀ d ∈ tables_1, d.before a0 Z = true) (h0 : Heap) (n0 : Nat) (a b : Addr) (f : Nat → Int64) (cnt sm x : Int64) (ga : n0 ≤ a) (gb : n0 ≤ b) (H : own_H Z h0 a b f cnt sm) : own_Met l Z own_recN prog_36_method_2_code 5 none ({ frames := 3, cells := 0, slots := 0, locals := 46 } : Room) [] #[(.ref a), (.long x)] h0 (own_QR Z h0 n0 a b f cnt sm x) := by
  refine own_met (plainFor_of_name pn_H) ?_
  intro p e s m below meth c s₁ Bd hml hZ e0
  have hx := Bd.exec
  have hby := Bd.bytes
  have hown : s.vm.findClass "com/example/holdfast/holdfast/cli/LatencyHistogram" = some m.cls := findClass_of_methodNamed Bd.named
  have hnm := (name_of_methodNamed Bd.named Bd.method).1
  have X0 : Stand p l e ({ frames := 3, cells := 0, slots := 0, locals := 46 } : Room) s m #[(.ref a), (.long x)] below meth c s₁ [] 0 0 := Stand.of_body Bd
  rw [ef_R]
  show own_Goes p e below (own_End s below _ _) (s₁.setTop (mkF m 0 #[.val (.ref a), .val (.long x), .second, .unset, .unset] []))
  refine own_go (fun _ k => XS.lconst X0.here hx rfl (hb hby dR_0) k) ?_
  show own_Goes p e below (own_End s below _ _) (s₁.setTop (mkF m 1 #[.val (.ref a), .val (.long x), .second, .unset, .unset] [(.long (0 : Int64))]))
  refine own_go (fun _ k => XS.lloadN X0.here hx rfl (hb hby dR_1) rfl k) ?_
  show own_Goes p e below (own_End s below _ _) (s₁.setTop (mkF m 2 #[.val (.ref a), .val (.long x), .second, .unset, .unset] [(.long x), (.long (0 : Int64))]))
  obtain ⟨T1, X1, e1, st1⟩ := own_callP X0 hx hZ (y := own_maxN) hown (hw _ (List.mem_of_getElem? (i := 17) rfl)) (hw _ (List.mem_of_getElem? (i := 18) rfl)) (hw _ (List.mem_of_getElem? (i := 19) rfl)) (hw _ (List.mem_of_getElem? (i := 20) rfl)) (by decide) (own_max l Z a0 hw h0 0 x) e0 (W := 0) (by decide) (by decide) (g := (mkF m 2 #[.val (.ref a), .val (.long x), .second, .unset, .unset] [(.long x), (.long (0 : Int64))])) rfl (by rw [hml]; rfl) (argsL := [(.long (0 : Int64)), (.long x)]) (rest := []) pd_JJJ rfl rfl (by show 2 * 0 + _ ≤ _; exact Nat.le_of_eq rfl) (hb hby dR_2) rfl (by decide) (by decide)
  refine own_go st1 ?_
  show own_Goes p e below (own_End s below _ _) (T1.setTop (mkF m 5 #[.val (.ref a), .val (.long x), .second, .unset, .unset] [(.long (own_maxJ (0 : Int64) x))]))
  refine own_go (fun _ k => XS.lstoreN X1.here hx rfl (hb hby dR_5) rfl (l' := #[.val (.ref a), .val (.long x), .second, .val (.long (own_maxJ (0 : Int64) x)), .second]) rfl k) ?_
  show own_Goes p e below (own_End s below _ _) (T1.setTop (mkF m 6 #[.val (.ref a), .val (.long x), .second, .val (.long (own_maxJ (0 : Int64) x)), .second] []))
  refine own_go (fun _ k => XS.aloadN X1.here hx rfl (hb hby dR_6) rfl rfl k) ?_
  show own_Goes p e below (own_End s below _ _) (T1.setTop (mkF m 7 #[.val (.ref a), .val (.long x), .second, .val (.long (own_maxJ (0 : Int64) x)), .second] [(.ref a)]))
  obtain ⟨E0, F0, ⟨cl, A0, S0, V0⟩, F1, F2⟩ := id H
  obtain ⟨T2, X2, e2, st2⟩ := getF X1 hx hZ hown (host := "") (Or.inl (hw _ (List.mem_of_getElem? (i := 10) rfl))) Via.refl e1 F0 (g := (mkF m 7 #[.val (.ref a), .val (.long x), .second, .val (.long (own_maxJ (0 : Int64) x)), .second] [(.ref a)])) rfl rfl (hb hby dR_7)
  refine own_go st2 ?_
  show own_Goes p e below (own_End s below _ _) (T2.setTop (mkF m 10 #[.val (.ref a), .val (.long x), .second, .val (.long (own_maxJ (0 : Int64) x)), .second] [(.ref b)]))
  refine own_go (fun _ k => XS.lloadN X2.here hx rfl (hb hby dR_10) rfl k) ?_
  show own_Goes p e below (own_End s below _ _) (T2.setTop (mkF m 11 #[.val (.ref a), .val (.long x), .second, .val (.long (own_maxJ (0 : Int64) x)), .second] [(.long (own_maxJ (0 : Int64) x)), (.ref b)]))
  obtain ⟨vT3, T3, LT3, X3, hQT3, st3⟩ := own_callS X2 hx hZ (y := own_bucN) hown (hw _ (List.mem_of_getElem? (i := 21) rfl)) (hw _ (List.mem_of_getElem? (i := 22) rfl)) (hw _ (List.mem_of_getElem? (i := 2) rfl)) (hw _ (List.mem_of_getElem? (i := 23) rfl)) (by decide) (own_buc l Z a0 hw h0 _ (own_max_nn x)) e2 (W := 1) (by decide) (by decide) (g := (mkF m 11 #[.val (.ref a), .val (.long x), .second, .val (.long (own_maxJ (0 : Int64) x)), .second] [(.long (own_maxJ (0 : Int64) x)), (.ref b)])) rfl (by rw [hml]; rfl) (argsL := [(.long (own_maxJ (0 : Int64) x))]) (rest := [(.ref b)]) pd_JI rfl rfl (by show 2 * 0 + _ ≤ _; exact Nat.le_of_eq rfl) (hb hby dR_11) rfl (by decide) (by decide)
  obtain ⟨k, rfl, hk, e3, rfl⟩ := hQT3
  rw [List.append_nil] at X3
  have hk' : k.toNatClampNeg < 14336 := by rw [own_clamp]; omega
  have hin : ¬ (k < 0 ∨ cl.slots.size ≤ k.toNatClampNeg) := by rw [S0]; exact own_inb hk
  refine own_go st3 ?_
  show own_Goes p e below (own_End s below _ _) (T3.setTop (mkF m 14 #[.val (.ref a), .val (.long x), .second, .val (.long (own_maxJ (0 : Int64) x)), .second] [(.int k), (.ref b)]))
  refine own_go (fun _ k => XT.dup2 X3.here hx rfl (hb hby dR_14) rfl rfl rfl k) ?_
  show own_Goes p e below (own_End s below _ _) (T3.setTop (mkF m 15 #[.val (.ref a), .val (.long x), .second, .val (.long (own_maxJ (0 : Int64) x)), .second] [(.int k), (.ref b), (.int k), (.ref b)]))
  refine own_go (own_lal X3 hx hZ e3 A0 hin (V0 _ hk') (g := (mkF m 15 #[.val (.ref a), .val (.long x), .second, .val (.long (own_maxJ (0 : Int64) x)), .second] [(.int k), (.ref b), (.int k), (.ref b)])) rfl rfl (hb hby dR_15)) ?_
  show own_Goes p e below (own_End s below _ _) (T3.setTop (mkF m 16 #[.val (.ref a), .val (.long x), .second, .val (.long (own_maxJ (0 : Int64) x)), .second] [(.long (f k.toNatClampNeg)), (.int k), (.ref b)]))
  refine own_go (fun _ k => XS.lconst X3.here hx rfl (hb hby dR_16) k) ?_
  show own_Goes p e below (own_End s below _ _) (T3.setTop (mkF m 17 #[.val (.ref a), .val (.long x), .second, .val (.long (own_maxJ (0 : Int64) x)), .second] [(.long (1 : Int64)), (.long (f k.toNatClampNeg)), (.int k), (.ref b)]))
  refine own_go (fun _ k => XS.ladd X3.here hx rfl (hb hby dR_17) rfl k) ?_
  show own_Goes p e below (own_End s below _ _) (T3.setTop (mkF m 18 #[.val (.ref a), .val (.long x), .second, .val (.long (own_maxJ (0 : Int64) x)), .second] [(.long ((f k.toNatClampNeg) + (1 : Int64))), (.int k), (.ref b)]))
  obtain ⟨T4, h4, X4, e4, W4, st4⟩ := stJ X3 hx hZ e3 A0 hin (g := (mkF m 18 #[.val (.ref a), .val (.long x), .second, .val (.long (own_maxJ (0 : Int64) x)), .second] [(.long ((f k.toNatClampNeg) + (1 : Int64))), (.int k), (.ref b)])) rfl rfl (hb hby dR_18)
  have N4 := Fr.snoc X4 (Fr.nil n0) gb
  have H4 := own_H_arr hw H hk' W4
  have K4 : Keep h0 h4 [a, b] := (Keep.refl h0 [a, b]).wr W4 (Or.inl (List.mem_of_getElem? (i := 1) rfl))
  refine own_go st4 ?_
  show own_Goes p e below (own_End s below _ _) (T4.setTop (mkF m 19 #[.val (.ref a), .val (.long x), .second, .val (.long (own_maxJ (0 : Int64) x)), .second] []))
  refine own_go (fun _ k => XS.aloadN X4.here hx rfl (hb hby dR_19) rfl rfl k) ?_
  show own_Goes p e below (own_End s below _ _) (T4.setTop (mkF m 20 #[.val (.ref a), .val (.long x), .second, .val (.long (own_maxJ (0 : Int64) x)), .second] [(.ref a)]))
  refine own_go (fun _ k => XS.dup X4.here hx rfl (hb hby dR_20) rfl rfl k) ?_
  show own_Goes p e below (own_End s below _ _) (T4.setTop (mkF m 21 #[.val (.ref a), .val (.long x), .second, .val (.long (own_maxJ (0 : Int64) x)), .second] [(.ref a), (.ref a)]))
  obtain ⟨T5, X5, e5, st5⟩ := getF X4 hx hZ hown (host := "") (Or.inl (hw _ (List.mem_of_getElem? (i := 25) rfl))) Via.refl e4 H4.2.2.2.1 (g := (mkF m 21 #[.val (.ref a), .val (.long x), .second, .val (.long (own_maxJ (0 : Int64) x)), .second] [(.ref a), (.ref a)])) rfl rfl (hb hby dR_21)
  refine own_go st5 ?_
  show own_Goes p e below (own_End s below _ _) (T5.setTop (mkF m 24 #[.val (.ref a), .val (.long x), .second, .val (.long (own_maxJ (0 : Int64) x)), .second] [(.long cnt), (.ref a)]))
  refine own_go (fun _ k => XS.lconst X5.here hx rfl (hb hby dR_24) k) ?_
  show own_Goes p e below (own_End s below _ _) (T5.setTop (mkF m 25 #[.val (.ref a), .val (.long x), .second, .val (.long (own_maxJ (0 : Int64) x)), .second] [(.long (1 : Int64)), (.long cnt), (.ref a)]))
  refine own_go (fun _ k => XS.ladd X5.here hx rfl (hb hby dR_25) rfl k) ?_
  show own_Goes p e below (own_End s below _ _) (T5.setTop (mkF m 26 #[.val (.ref a), .val (.long x), .second, .val (.long (own_maxJ (0 : Int64) x)), .second] [(.long (cnt + (1 : Int64))), (.ref a)]))
  obtain ⟨T6, h6, X6, e6, W6, st6⟩ := putF X5 hx hZ hown (host := "") (Or.inl (hw _ (List.mem_of_getElem? (i := 25) rfl))) Via.refl e5 H4.2.2.2.1 H4.1 (Or.inl (hw _ (List.mem_of_getElem? (i := 26) rfl))) (hw _ (List.mem_of_getElem? (i := 1) rfl)) (ty := .long) (by decide) rfl rfl (g := (mkF m 26 #[.val (.ref a), .val (.long x), .second, .val (.long (own_maxJ (0 : Int64) x)), .second] [(.long (cnt + (1 : Int64))), (.ref a)])) rfl rfl (hb hby dR_26)
  have H6 := own_H_cnt hw H4 W6
  refine own_go st6 ?_
  show own_Goes p e below (own_End s below _ _) (T6.setTop (mkF m 29 #[.val (.ref a), .val (.long x), .second, .val (.long (own_maxJ (0 : Int64) x)), .second] []))
  have N6 := Fr.snoc X6 N4 ga
  have K6 := K4.wr W6 (Or.inl (List.mem_of_getElem? (i := 0) rfl))
  refine own_go (fun _ k => XS.aloadN X6.here hx rfl (hb hby dR_29) rfl rfl k) ?_
  show own_Goes p e below (own_End s below _ _) (T6.setTop (mkF m 30 #[.val (.ref a), .val (.long x), .second, .val (.long (own_maxJ (0 : Int64) x)), .second] [(.ref a)]))
  refine own_go (fun _ k => XS.dup X6.here hx rfl (hb hby dR_30) rfl rfl k) ?_
  show own_Goes p e below (own_End s below _ _) (T6.setTop (mkF m 31 #[.val (.ref a), .val (.long x), .second, .val (.long (own_maxJ (0 : Int64) x)), .second] [(.ref a), (.ref a)]))
  obtain ⟨T7, X7, e7, st7⟩ := getF X6 hx hZ hown (host := "") (Or.inl (hw _ (List.mem_of_getElem? (i := 27) rfl))) Via.refl e6 H6.2.2.2.2 (g := (mkF m 31 #[.val (.ref a), .val (.long x), .second, .val (.long (own_maxJ (0 : Int64) x)), .second] [(.ref a), (.ref a)])) rfl rfl (hb hby dR_31)
  refine own_go st7 ?_
  show own_Goes p e below (own_End s below _ _) (T7.setTop (mkF m 34 #[.val (.ref a), .val (.long x), .second, .val (.long (own_maxJ (0 : Int64) x)), .second] [(.long sm), (.ref a)]))
  refine own_go (fun _ k => XS.lloadN X7.here hx rfl (hb hby dR_34) rfl k) ?_
  show own_Goes p e below (own_End s below _ _) (T7.setTop (mkF m 35 #[.val (.ref a), .val (.long x), .second, .val (.long (own_maxJ (0 : Int64) x)), .second] [(.long (own_maxJ (0 : Int64) x)), (.long sm), (.ref a)]))
  refine own_go (fun _ k => XS.ladd X7.here hx rfl (hb hby dR_35) rfl k) ?_
  show own_Goes p e below (own_End s below _ _) (T7.setTop (mkF m 36 #[.val (.ref a), .val (.long x), .second, .val (.long (own_maxJ (0 : Int64) x)), .second] [(.long (sm + (own_maxJ (0 : Int64) x))), (.ref a)]))
  obtain ⟨T8, h8, X8, e8, W8, st8⟩ := putF X7 hx hZ hown (host := "") (Or.inl (hw _ (List.mem_of_getElem? (i := 27) rfl))) Via.refl e7 H6.2.2.2.2 H6.1 (Or.inl (hw _ (List.mem_of_getElem? (i := 28) rfl))) (hw _ (List.mem_of_getElem? (i := 1) rfl)) (ty := .long) (by decide) rfl rfl (g := (mkF m 36 #[.val (.ref a), .val (.long x), .second, .val (.long (own_maxJ (0 : Int64) x)), .second] [(.long (sm + (own_maxJ (0 : Int64) x))), (.ref a)])) rfl rfl (hb hby dR_36)
  have H8 := own_H_sum hw H6 W8
  refine own_go st8 ?_
  show own_Goes p e below (own_End s below _ _) (T8.setTop (mkF m 39 #[.val (.ref a), .val (.long x), .second, .val (.long (own_maxJ (0 : Int64) x)), .second] []))
  have N8 := Fr.snoc X8 N6 ga
  have K8 := K6.wr W8 (Or.inl (List.mem_of_getElem? (i := 0) rfl))
  exact own_retV X8 hx Bd.notSynchronized Bd.returns (hb hby dR_39) (by rw [e8]; exact ⟨rfl, N8, K8, _, hk', H8⟩) (by decide) (by decide)
def own_mean (cnt sm : Int64) : UInt64 := if cnt = 0 then FP.dconst0 else FP.ddiv (FP.l2d sm) (FP.l2d cnt)
theorem own_l2d_nz {v : Int64} (h : v ≠ 0) : Nz64 (FP.l2d v) := by
  have := l2d_big h
  rw [nz64_iff]
  unfold Big64 at this
  omega
theorem own_div_nn (s : Int64) {v : Int64} (h : v ≠ 0) : NoNaN64 (FP.ddiv (FP.l2d s) (FP.l2d v)) := ddiv_out (l2d_fin s).noNaN (l2d_fin v) (own_l2d_nz h)
set_option maxRecDepth 65536 in
set_option maxHeartbeats 40000000 in
theorem own_mea (l : Launch) (Z : State) (a0 : Array Value) (hw : ∀ d ∈ tables_1, d.before a0 Z = true) (h0 : Heap) (a b : Addr) (f : Nat → Int64) (cnt sm : Int64) (H : own_H Z h0 a b f cnt sm) : own_Met l Z own_meaN prog_36_method_4_code 1 (some .double) ({ frames := 0, cells := 0, slots := 0, locals := 0 } : Room) [] #[(.ref a)] h0 (own_Pure (some (.double (own_mean cnt sm))) h0) := by
  refine own_met (plainFor_of_name pn_H) ?_
  intro p e s m below meth c s₁ Bd hml hZ e0
  have hx := Bd.exec
  have hby := Bd.bytes
  have hown : s.vm.findClass "com/example/holdfast/holdfast/cli/LatencyHistogram" = some m.cls := findClass_of_methodNamed Bd.named
  have hnm := (name_of_methodNamed Bd.named Bd.method).1
  have X0 : Stand p l e ({ frames := 0, cells := 0, slots := 0, locals := 0 } : Room) s m #[(.ref a)] below meth c s₁ [] 0 0 := Stand.of_body Bd
  rw [ef_I]
  show own_Goes p e below (own_End s below _ _) (s₁.setTop (mkF m 0 #[.val (.ref a)] []))
  refine own_go (fun _ k => XS.aloadN X0.here hx rfl (hb hby dE_0) rfl rfl k) ?_
  show own_Goes p e below (own_End s below _ _) (s₁.setTop (mkF m 1 #[.val (.ref a)] [(.ref a)]))
  obtain ⟨T1, X1, e1, st1⟩ := getF X0 hx hZ hown (host := "") (Or.inl (hw _ (List.mem_of_getElem? (i := 25) rfl))) Via.refl e0 H.2.2.2.1 (g := (mkF m 1 #[.val (.ref a)] [(.ref a)])) rfl rfl (hb hby dE_1)
  refine own_go st1 ?_
  show own_Goes p e below (own_End s below _ _) (T1.setTop (mkF m 4 #[.val (.ref a)] [(.long cnt)]))
  refine own_go (fun _ k => XS.lconst X1.here hx rfl (hb hby dE_4) k) ?_
  show own_Goes p e below (own_End s below _ _) (T1.setTop (mkF m 5 #[.val (.ref a)] [(.long (0 : Int64)), (.long cnt)]))
  refine own_go (fun _ k => XS.lcmp X1.here hx rfl (hb hby dE_5) rfl k) ?_
  show own_Goes p e below (own_End s below _ _) (T1.setTop (mkF m 6 #[.val (.ref a)] [(.int (lcmpW cnt (0 : Int64)))]))
  by_cases q : cnt = 0
  · refine own_go (fun _ k => XS.ifNo X1.here hx rfl (hb hby dE_6) rfl (by rw [if0]; exact (teq ((lw_eq _ _).mpr q)).2) k) ?_
    show own_Goes p e below (own_End s below _ _) (T1.setTop (mkF m 9 #[.val (.ref a)] []))
    refine own_go (fun _ k => XS.dconst0 X1.here hx rfl (hb hby dE_9) rfl k) ?_
    show own_Goes p e below (own_End s below _ _) (T1.setTop (mkF m 10 #[.val (.ref a)] [(.double FP.dconst0)]))
    refine own_go (fun _ k => XS.goto X1.here hx rfl (pc0 := 10) (pc' := 24) rfl (hb hby dE_10) (by decide) (by decide) k) ?_
    show own_Goes p e below (own_End s below _ _) (T1.setTop (mkF m 24 #[.val (.ref a)] [(.double FP.dconst0)]))
    exact own_retD X1 hx Bd.notSynchronized Bd.returns (hb hby dE_24) ⟨by rw [own_mean, if_pos q], e1, rfl⟩ (by decide) (by decide)
  · refine own_go (fun _ k => XS.ifYes X1.here hx rfl (pc0 := 6) (pc' := 13) rfl (hb hby dE_6) rfl (by rw [if0]; exact (feq (fun z => q ((lw_eq _ _).mp z))).2) (by decide) (by decide) k) ?_
    show own_Goes p e below (own_End s below _ _) (T1.setTop (mkF m 13 #[.val (.ref a)] []))
    refine own_go (fun _ k => XS.aloadN X1.here hx rfl (hb hby dE_13) rfl rfl k) ?_
    show own_Goes p e below (own_End s below _ _) (T1.setTop (mkF m 14 #[.val (.ref a)] [(.ref a)]))
    obtain ⟨T2, X2, e2, st2⟩ := getF X1 hx hZ hown (host := "") (Or.inl (hw _ (List.mem_of_getElem? (i := 27) rfl))) Via.refl e1 H.2.2.2.2 (g := (mkF m 14 #[.val (.ref a)] [(.ref a)])) rfl rfl (hb hby dE_14)
    refine own_go st2 ?_
    show own_Goes p e below (own_End s below _ _) (T2.setTop (mkF m 17 #[.val (.ref a)] [(.long sm)]))
    refine own_go (fun _ k => XS.l2dS X2.here hx rfl (hb hby dE_17) rfl rfl k) ?_
    show own_Goes p e below (own_End s below _ _) (T2.setTop (mkF m 18 #[.val (.ref a)] [(.double (FP.l2d sm))]))
    refine own_go (fun _ k => XS.aloadN X2.here hx rfl (hb hby dE_18) rfl rfl k) ?_
    show own_Goes p e below (own_End s below _ _) (T2.setTop (mkF m 19 #[.val (.ref a)] [(.ref a), (.double (FP.l2d sm))]))
    obtain ⟨T3, X3, e3, st3⟩ := getF X2 hx hZ hown (host := "") (Or.inl (hw _ (List.mem_of_getElem? (i := 25) rfl))) Via.refl e2 H.2.2.2.1 (g := (mkF m 19 #[.val (.ref a)] [(.ref a), (.double (FP.l2d sm))])) rfl rfl (hb hby dE_19)
    refine own_go st3 ?_
    show own_Goes p e below (own_End s below _ _) (T3.setTop (mkF m 22 #[.val (.ref a)] [(.long cnt), (.double (FP.l2d sm))]))
    refine own_go (fun _ k => XS.l2dS X3.here hx rfl (hb hby dE_22) rfl rfl k) ?_
    show own_Goes p e below (own_End s below _ _) (T3.setTop (mkF m 23 #[.val (.ref a)] [(.double (FP.l2d cnt)), (.double (FP.l2d sm))]))
    refine own_go (fun _ k => XS.ddivS X3.here hx rfl (hb hby dE_23) rfl (own_div_nn sm q) rfl k) ?_
    show own_Goes p e below (own_End s below _ _) (T3.setTop (mkF m 24 #[.val (.ref a)] [(.double (FP.ddiv (FP.l2d sm) (FP.l2d cnt)))]))
    exact own_retD X3 hx Bd.notSynchronized Bd.returns (hb hby dE_24) ⟨by rw [own_mean, if_neg q], e3, rfl⟩ (by decide) (by decide)
theorem pn_0 : plainName "com/example/holdfast/holdfast/cli/LatencyHistogramMeanPinLaw" = true := by first | (simp [plainName, overriddenIn]; done) | decide +kernel
theorem ef_0 (m : MethodId) (x0 : Int64) (x1 : Int64) (x2 : Int64) (x3 : Int32) : entryFrame m #[(.long x0), (.long x1), (.long x2), (.int x3)] maxLocals = mkF m 0 #[.val (.long x0), .second, .val (.long x1), .second, .val (.long x2), .second, .val (.int x3), .unset, .unset, .unset, .unset, .unset, .unset, .unset, .unset, .unset, .unset, .unset, .unset] [] := by first | (simp [entryFrame, mkF, argsToLocals, Value.category, maxLocals]; done) | rfl
def own_n (k : Int32) : Int32 := k &&& (3 : Int32)
def own_sr (x : Int64) : Int64 := x >>> ((2 : Int32) &&& 0x3f).toInt64
theorem own_n_cases (k : Int32) : own_n k = 0 ∨ own_n k = 1 ∨ own_n k = 2 ∨ own_n k = 3 := by
  have h1 := c_mask k 3 2 (by decide) (by decide)
  have h5 : (own_n k).toInt = (k &&& (3 : Int32)).toInt := rfl
  have h7 : (own_n k).toInt = 0 ∨ (own_n k).toInt = 1 ∨ (own_n k).toInt = 2 ∨ (own_n k).toInt = 3 := by omega
  rcases h7 with h | h | h | h
  · exact Or.inl (Int32.toInt_inj.mp (by rw [h]; decide))
  · exact Or.inr (Or.inl (Int32.toInt_inj.mp (by rw [h]; decide)))
  · exact Or.inr (Or.inr (Or.inl (Int32.toInt_inj.mp (by rw [h]; decide))))
  · exact Or.inr (Or.inr (Or.inr (Int32.toInt_inj.mp (by rw [h]; decide))))
theorem own_mean_eq {n : Int32} {c : Int64} (s : Int64) (hc : c = n.toInt64) (hn : c ≠ 0) : own_mean c s = FP.ddiv (FP.l2d s) (FP.i2d n) := by
  rw [own_mean, if_neg hn, i2d_w, hc]
theorem own_exp_nn {n : Int32} {c : Int64} (s : Int64) (hc : c = n.toInt64) (hn : c ≠ 0) : NoNaN64 (FP.ddiv (FP.l2d s) (FP.i2d n)) := by
  rw [i2d_w, ← hc]; exact own_div_nn s hn
theorem own_z_nn : NoNaN64 FP.dconst0 := by unfold NoNaN64; decide +kernel
def own_Q (n0 : Nat) (v : Option Value) (h : Heap) (L : List Loc) : Prop := v = some (.int 1) ∧ Fr n0 L
set_option maxRecDepth 65536 in
set_option maxHeartbeats 40000000 in
theorem own_path0 (l : Launch) (Z : State) (a0 : Array Value) (hw : ∀ d ∈ tables_1, d.before a0 Z = true) (ws : List Jvm.Cond) (p1 p2 p3 : Int64) (p4 : Int32) (n0 : Nat) (p : Program) (e : Env) (s : State) (m : MethodId) (below : List Frame) (meth : Method) (c : Code) (s₁ : State) (Bd : BodyLoose p l x (head1 (Jvm.Cond.code x code maxLocals ret :: ws) room_1) code maxLocals ret e s m #[(.long p1), (.long p2), (.long p3), (.int p4)] below meth c s₁) (hml : c.maxLocals = maxLocals) (hZ : Z.Warmed39 s.vm) (T : State) (locs : List Loc) (X : Stand p l e room_1 s m #[(.long p1), (.long p2), (.long p3), (.int p4)] below meth c T locs 2 14339) (N : Fr n0 locs) (hn : own_n p4 = 0) (a b : Addr) (ga : n0 ≤ a) (gb : n0 ≤ b) (f : Nat → Int64) (H : own_H Z T.heap a b f 0 0) :
    own_Goes p e below (own_End s below room_1 (own_Q n0)) (T.setTop (mkF m 34 #[.val (.long p1), .second, .val (.long p2), .second, .val (.long p3), .second, .val (.int p4), .val (.int (own_n p4)), .val (.long (own_sr p1)), .second, .val (.long (own_sr p2)), .second, .val (.long (own_sr p3)), .second, .val (.ref a), .val (.long (0 : Int64)), .second, .unset, .unset] [])) := by
  have hx := Bd.exec
  have hby := Bd.bytes
  have hown : s.vm.findClass "com/example/holdfast/holdfast/cli/LatencyHistogramMeanPinLaw" = some m.cls := findClass_of_methodNamed Bd.named
  show own_Goes p e below (own_End s below _ _) (T.setTop (mkF m 34 #[.val (.long p1), .second, .val (.long p2), .second, .val (.long p3), .second, .val (.int p4), .val (.int (own_n p4)), .val (.long (own_sr p1)), .second, .val (.long (own_sr p2)), .second, .val (.long (own_sr p3)), .second, .val (.ref a), .val (.long (0 : Int64)), .second, .unset, .unset] []))
  refine own_go (fun _ k => XS.iload X.here hx rfl (hb hby at_34) rfl k) ?_
  show own_Goes p e below (own_End s below _ _) (T.setTop (mkF m 36 #[.val (.long p1), .second, .val (.long p2), .second, .val (.long p3), .second, .val (.int p4), .val (.int (own_n p4)), .val (.long (own_sr p1)), .second, .val (.long (own_sr p2)), .second, .val (.long (own_sr p3)), .second, .val (.ref a), .val (.long (0 : Int64)), .second, .unset, .unset] [(.int (own_n p4))]))
  refine own_go (fun _ k => XS.iconst X.here hx rfl (hb hby at_36) k) ?_
  show own_Goes p e below (own_End s below _ _) (T.setTop (mkF m 37 #[.val (.long p1), .second, .val (.long p2), .second, .val (.long p3), .second, .val (.int p4), .val (.int (own_n p4)), .val (.long (own_sr p1)), .second, .val (.long (own_sr p2)), .second, .val (.long (own_sr p3)), .second, .val (.ref a), .val (.long (0 : Int64)), .second, .unset, .unset] [(.int (1 : Int32)), (.int (own_n p4))]))
  refine own_go (fun _ k => XS.icmpYes X.here hx rfl (pc0 := 37) (pc' := 58) rfl (hb hby at_37) rfl (tlt (by rw [hn]; decide)).1 (by decide) (by decide) k) ?_
  show own_Goes p e below (own_End s below _ _) (T.setTop (mkF m 58 #[.val (.long p1), .second, .val (.long p2), .second, .val (.long p3), .second, .val (.int p4), .val (.int (own_n p4)), .val (.long (own_sr p1)), .second, .val (.long (own_sr p2)), .second, .val (.long (own_sr p3)), .second, .val (.ref a), .val (.long (0 : Int64)), .second, .unset, .unset] []))
  refine own_go (fun _ k => XS.iload X.here hx rfl (hb hby at_58) rfl k) ?_
  show own_Goes p e below (own_End s below _ _) (T.setTop (mkF m 60 #[.val (.long p1), .second, .val (.long p2), .second, .val (.long p3), .second, .val (.int p4), .val (.int (own_n p4)), .val (.long (own_sr p1)), .second, .val (.long (own_sr p2)), .second, .val (.long (own_sr p3)), .second, .val (.ref a), .val (.long (0 : Int64)), .second, .unset, .unset] [(.int (own_n p4))]))
  refine own_go (fun _ k => XS.iconst X.here hx rfl (hb hby at_60) k) ?_
  show own_Goes p e below (own_End s below _ _) (T.setTop (mkF m 61 #[.val (.long p1), .second, .val (.long p2), .second, .val (.long p3), .second, .val (.int p4), .val (.int (own_n p4)), .val (.long (own_sr p1)), .second, .val (.long (own_sr p2)), .second, .val (.long (own_sr p3)), .second, .val (.ref a), .val (.long (0 : Int64)), .second, .unset, .unset] [(.int (2 : Int32)), (.int (own_n p4))]))
  refine own_go (fun _ k => XS.icmpYes X.here hx rfl (pc0 := 61) (pc' := 82) rfl (hb hby at_61) rfl (tlt (by rw [hn]; decide)).1 (by decide) (by decide) k) ?_
  show own_Goes p e below (own_End s below _ _) (T.setTop (mkF m 82 #[.val (.long p1), .second, .val (.long p2), .second, .val (.long p3), .second, .val (.int p4), .val (.int (own_n p4)), .val (.long (own_sr p1)), .second, .val (.long (own_sr p2)), .second, .val (.long (own_sr p3)), .second, .val (.ref a), .val (.long (0 : Int64)), .second, .unset, .unset] []))
  refine own_go (fun _ k => XS.iload X.here hx rfl (hb hby at_82) rfl k) ?_
  show own_Goes p e below (own_End s below _ _) (T.setTop (mkF m 84 #[.val (.long p1), .second, .val (.long p2), .second, .val (.long p3), .second, .val (.int p4), .val (.int (own_n p4)), .val (.long (own_sr p1)), .second, .val (.long (own_sr p2)), .second, .val (.long (own_sr p3)), .second, .val (.ref a), .val (.long (0 : Int64)), .second, .unset, .unset] [(.int (own_n p4))]))
  refine own_go (fun _ k => XS.iconst X.here hx rfl (hb hby at_84) k) ?_
  show own_Goes p e below (own_End s below _ _) (T.setTop (mkF m 85 #[.val (.long p1), .second, .val (.long p2), .second, .val (.long p3), .second, .val (.int p4), .val (.int (own_n p4)), .val (.long (own_sr p1)), .second, .val (.long (own_sr p2)), .second, .val (.long (own_sr p3)), .second, .val (.ref a), .val (.long (0 : Int64)), .second, .unset, .unset] [(.int (3 : Int32)), (.int (own_n p4))]))
  refine own_go (fun _ k => XS.icmpYes X.here hx rfl (pc0 := 85) (pc' := 106) rfl (hb hby at_85) rfl (tlt (by rw [hn]; decide)).1 (by decide) (by decide) k) ?_
  show own_Goes p e below (own_End s below _ _) (T.setTop (mkF m 106 #[.val (.long p1), .second, .val (.long p2), .second, .val (.long p3), .second, .val (.int p4), .val (.int (own_n p4)), .val (.long (own_sr p1)), .second, .val (.long (own_sr p2)), .second, .val (.long (own_sr p3)), .second, .val (.ref a), .val (.long (0 : Int64)), .second, .unset, .unset] []))
  refine own_go (fun _ k => XS.iload X.here hx rfl (hb hby at_106) rfl k) ?_
  show own_Goes p e below (own_End s below _ _) (T.setTop (mkF m 108 #[.val (.long p1), .second, .val (.long p2), .second, .val (.long p3), .second, .val (.int p4), .val (.int (own_n p4)), .val (.long (own_sr p1)), .second, .val (.long (own_sr p2)), .second, .val (.long (own_sr p3)), .second, .val (.ref a), .val (.long (0 : Int64)), .second, .unset, .unset] [(.int (own_n p4))]))
  refine own_go (fun _ k => XS.ifNo X.here hx rfl (hb hby at_108) rfl (by rw [if0]; exact (teq hn).2) k) ?_
  show own_Goes p e below (own_End s below _ _) (T.setTop (mkF m 111 #[.val (.long p1), .second, .val (.long p2), .second, .val (.long p3), .second, .val (.int p4), .val (.int (own_n p4)), .val (.long (own_sr p1)), .second, .val (.long (own_sr p2)), .second, .val (.long (own_sr p3)), .second, .val (.ref a), .val (.long (0 : Int64)), .second, .unset, .unset] []))
  refine own_go (fun _ k => XS.dconst0 X.here hx rfl (hb hby at_111) rfl k) ?_
  show own_Goes p e below (own_End s below _ _) (T.setTop (mkF m 112 #[.val (.long p1), .second, .val (.long p2), .second, .val (.long p3), .second, .val (.int p4), .val (.int (own_n p4)), .val (.long (own_sr p1)), .second, .val (.long (own_sr p2)), .second, .val (.long (own_sr p3)), .second, .val (.ref a), .val (.long (0 : Int64)), .second, .unset, .unset] [(.double FP.dconst0)]))
  refine own_go (fun _ k => XS.goto X.here hx rfl (pc0 := 112) (pc' := 122) rfl (hb hby at_112) (by decide) (by decide) k) ?_
  show own_Goes p e below (own_End s below _ _) (T.setTop (mkF m 122 #[.val (.long p1), .second, .val (.long p2), .second, .val (.long p3), .second, .val (.int p4), .val (.int (own_n p4)), .val (.long (own_sr p1)), .second, .val (.long (own_sr p2)), .second, .val (.long (own_sr p3)), .second, .val (.ref a), .val (.long (0 : Int64)), .second, .unset, .unset] [(.double FP.dconst0)]))
  refine own_go (fun _ k => XS.dstore X.here hx rfl (hb hby at_122) rfl (l' := #[.val (.long p1), .second, .val (.long p2), .second, .val (.long p3), .second, .val (.int p4), .val (.int (own_n p4)), .val (.long (own_sr p1)), .second, .val (.long (own_sr p2)), .second, .val (.long (own_sr p3)), .second, .val (.ref a), .val (.long (0 : Int64)), .second, .val (.double FP.dconst0), .second]) rfl k) ?_
  show own_Goes p e below (own_End s below _ _) (T.setTop (mkF m 124 #[.val (.long p1), .second, .val (.long p2), .second, .val (.long p3), .second, .val (.int p4), .val (.int (own_n p4)), .val (.long (own_sr p1)), .second, .val (.long (own_sr p2)), .second, .val (.long (own_sr p3)), .second, .val (.ref a), .val (.long (0 : Int64)), .second, .val (.double FP.dconst0), .second] []))
  refine own_go (fun _ k => XS.aload X.here hx rfl (hb hby at_124) rfl rfl k) ?_
  show own_Goes p e below (own_End s below _ _) (T.setTop (mkF m 126 #[.val (.long p1), .second, .val (.long p2), .second, .val (.long p3), .second, .val (.int p4), .val (.int (own_n p4)), .val (.long (own_sr p1)), .second, .val (.long (own_sr p2)), .second, .val (.long (own_sr p3)), .second, .val (.ref a), .val (.long (0 : Int64)), .second, .val (.double FP.dconst0), .second] [(.ref a)]))
  obtain ⟨v8, T8, L8, X8, ⟨u1, u2, u3⟩, st8⟩ := own_callV X hx hZ (y := own_meaN) (z := own_meaN) hown (hw _ (List.mem_of_getElem? (i := 30) rfl)) (hw _ (List.mem_of_getElem? (i := 31) rfl)) (hw _ (List.mem_of_getElem? (i := 33) rfl)) (hw _ (List.mem_of_getElem? (i := 32) rfl)) (hw _ (List.mem_of_getElem? (i := 2) rfl)) (hw _ (List.mem_of_getElem? (i := 34) rfl)) (notFace_of_selects (args := #[]) (mvT hZ (hw _ (List.mem_of_getElem? (i := 33) rfl)))) (by decide) (own_mea l Z a0 hw _ a b _ _ _ H) rfl H.1 (W := 0) (by decide) (by decide) (g := (mkF m 126 #[.val (.long p1), .second, .val (.long p2), .second, .val (.long p3), .second, .val (.int p4), .val (.int (own_n p4)), .val (.long (own_sr p1)), .second, .val (.long (own_sr p2)), .second, .val (.long (own_sr p3)), .second, .val (.ref a), .val (.long (0 : Int64)), .second, .val (.double FP.dconst0), .second] [(.ref a)])) rfl (by rw [hml]; rfl) (argsL := []) (rest := []) pd_D rfl rfl (by show 2 * 0 + _ ≤ _; exact Nat.le_of_eq rfl) (hb hby at_126) rfl (by decide) (by decide)
  subst u1 u3
  rw [List.append_nil] at X8
  refine own_go st8 ?_
  show own_Goes p e below (own_End s below _ _) (T8.setTop (mkF m 129 #[.val (.long p1), .second, .val (.long p2), .second, .val (.long p3), .second, .val (.int p4), .val (.int (own_n p4)), .val (.long (own_sr p1)), .second, .val (.long (own_sr p2)), .second, .val (.long (own_sr p3)), .second, .val (.ref a), .val (.long (0 : Int64)), .second, .val (.double FP.dconst0), .second] [(.double (own_mean 0 0))]))
  refine own_go (fun _ k => XS.dload X8.here hx rfl (hb hby at_129) rfl k) ?_
  show own_Goes p e below (own_End s below _ _) (T8.setTop (mkF m 131 #[.val (.long p1), .second, .val (.long p2), .second, .val (.long p3), .second, .val (.int p4), .val (.int (own_n p4)), .val (.long (own_sr p1)), .second, .val (.long (own_sr p2)), .second, .val (.long (own_sr p3)), .second, .val (.ref a), .val (.long (0 : Int64)), .second, .val (.double FP.dconst0), .second] [(.double FP.dconst0), (.double (own_mean 0 0))]))
  refine own_go (fun _ k => XS.dcmpS X8.here hx rfl (hb hby at_131) rfl (dcmpV_eq (by rw [own_mean, if_pos rfl]) (by rw [own_mean, if_pos rfl]; exact own_z_nn) .l) k) ?_
  show own_Goes p e below (own_End s below _ _) (T8.setTop (mkF m 132 #[.val (.long p1), .second, .val (.long p2), .second, .val (.long p3), .second, .val (.int p4), .val (.int (own_n p4)), .val (.long (own_sr p1)), .second, .val (.long (own_sr p2)), .second, .val (.long (own_sr p3)), .second, .val (.ref a), .val (.long (0 : Int64)), .second, .val (.double FP.dconst0), .second] [(.int (0 : Int32))]))
  refine own_go (fun _ k => XS.ifNo X8.here hx rfl (hb hby at_132) rfl (by decide) k) ?_
  show own_Goes p e below (own_End s below _ _) (T8.setTop (mkF m 135 #[.val (.long p1), .second, .val (.long p2), .second, .val (.long p3), .second, .val (.int p4), .val (.int (own_n p4)), .val (.long (own_sr p1)), .second, .val (.long (own_sr p2)), .second, .val (.long (own_sr p3)), .second, .val (.ref a), .val (.long (0 : Int64)), .second, .val (.double FP.dconst0), .second] []))
  refine own_go (fun _ k => XS.iconst X8.here hx rfl (hb hby at_135) k) ?_
  show own_Goes p e below (own_End s below _ _) (T8.setTop (mkF m 136 #[.val (.long p1), .second, .val (.long p2), .second, .val (.long p3), .second, .val (.int p4), .val (.int (own_n p4)), .val (.long (own_sr p1)), .second, .val (.long (own_sr p2)), .second, .val (.long (own_sr p3)), .second, .val (.ref a), .val (.long (0 : Int64)), .second, .val (.double FP.dconst0), .second] [(.int (1 : Int32))]))
  refine own_go (fun _ k => XS.goto X8.here hx rfl (pc0 := 136) (pc' := 140) rfl (hb hby at_136) (by decide) (by decide) k) ?_
  show own_Goes p e below (own_End s below _ _) (T8.setTop (mkF m 140 #[.val (.long p1), .second, .val (.long p2), .second, .val (.long p3), .second, .val (.int p4), .val (.int (own_n p4)), .val (.long (own_sr p1)), .second, .val (.long (own_sr p2)), .second, .val (.long (own_sr p3)), .second, .val (.ref a), .val (.long (0 : Int64)), .second, .val (.double FP.dconst0), .second] [(.int (1 : Int32))]))
  exact own_retZ X8 hx Bd.notSynchronized Bd.returns rfl (hb hby at_140) ⟨rfl, N⟩ (by decide) (by decide)
set_option maxRecDepth 65536 in
set_option maxHeartbeats 40000000 in
theorem own_path1 (l : Launch) (Z : State) (a0 : Array Value) (hw : ∀ d ∈ tables_1, d.before a0 Z = true) (ws : List Jvm.Cond) (p1 p2 p3 : Int64) (p4 : Int32) (n0 : Nat) (p : Program) (e : Env) (s : State) (m : MethodId) (below : List Frame) (meth : Method) (c : Code) (s₁ : State) (Bd : BodyLoose p l x (head1 (Jvm.Cond.code x code maxLocals ret :: ws) room_1) code maxLocals ret e s m #[(.long p1), (.long p2), (.long p3), (.int p4)] below meth c s₁) (hml : c.maxLocals = maxLocals) (hZ : Z.Warmed39 s.vm) (T : State) (locs : List Loc) (X : Stand p l e room_1 s m #[(.long p1), (.long p2), (.long p3), (.int p4)] below meth c T locs 2 14339) (N : Fr n0 locs) (hn : own_n p4 = 1) (a b : Addr) (ga : n0 ≤ a) (gb : n0 ≤ b) (f : Nat → Int64) (H : own_H Z T.heap a b f 0 0) :
    own_Goes p e below (own_End s below room_1 (own_Q n0)) (T.setTop (mkF m 34 #[.val (.long p1), .second, .val (.long p2), .second, .val (.long p3), .second, .val (.int p4), .val (.int (own_n p4)), .val (.long (own_sr p1)), .second, .val (.long (own_sr p2)), .second, .val (.long (own_sr p3)), .second, .val (.ref a), .val (.long (0 : Int64)), .second, .unset, .unset] [])) := by
  have hx := Bd.exec
  have hby := Bd.bytes
  have hown : s.vm.findClass "com/example/holdfast/holdfast/cli/LatencyHistogramMeanPinLaw" = some m.cls := findClass_of_methodNamed Bd.named
  show own_Goes p e below (own_End s below _ _) (T.setTop (mkF m 34 #[.val (.long p1), .second, .val (.long p2), .second, .val (.long p3), .second, .val (.int p4), .val (.int (own_n p4)), .val (.long (own_sr p1)), .second, .val (.long (own_sr p2)), .second, .val (.long (own_sr p3)), .second, .val (.ref a), .val (.long (0 : Int64)), .second, .unset, .unset] []))
  refine own_go (fun _ k => XS.iload X.here hx rfl (hb hby at_34) rfl k) ?_
  show own_Goes p e below (own_End s below _ _) (T.setTop (mkF m 36 #[.val (.long p1), .second, .val (.long p2), .second, .val (.long p3), .second, .val (.int p4), .val (.int (own_n p4)), .val (.long (own_sr p1)), .second, .val (.long (own_sr p2)), .second, .val (.long (own_sr p3)), .second, .val (.ref a), .val (.long (0 : Int64)), .second, .unset, .unset] [(.int (own_n p4))]))
  refine own_go (fun _ k => XS.iconst X.here hx rfl (hb hby at_36) k) ?_
  show own_Goes p e below (own_End s below _ _) (T.setTop (mkF m 37 #[.val (.long p1), .second, .val (.long p2), .second, .val (.long p3), .second, .val (.int p4), .val (.int (own_n p4)), .val (.long (own_sr p1)), .second, .val (.long (own_sr p2)), .second, .val (.long (own_sr p3)), .second, .val (.ref a), .val (.long (0 : Int64)), .second, .unset, .unset] [(.int (1 : Int32)), (.int (own_n p4))]))
  refine own_go (fun _ k => XS.icmpNo X.here hx rfl (hb hby at_37) rfl (flt (by rw [hn]; decide)).1 k) ?_
  show own_Goes p e below (own_End s below _ _) (T.setTop (mkF m 40 #[.val (.long p1), .second, .val (.long p2), .second, .val (.long p3), .second, .val (.int p4), .val (.int (own_n p4)), .val (.long (own_sr p1)), .second, .val (.long (own_sr p2)), .second, .val (.long (own_sr p3)), .second, .val (.ref a), .val (.long (0 : Int64)), .second, .unset, .unset] []))
  refine own_go (fun _ k => XS.aload X.here hx rfl (hb hby at_40) rfl rfl k) ?_
  show own_Goes p e below (own_End s below _ _) (T.setTop (mkF m 42 #[.val (.long p1), .second, .val (.long p2), .second, .val (.long p3), .second, .val (.int p4), .val (.int (own_n p4)), .val (.long (own_sr p1)), .second, .val (.long (own_sr p2)), .second, .val (.long (own_sr p3)), .second, .val (.ref a), .val (.long (0 : Int64)), .second, .unset, .unset] [(.ref a)]))
  refine own_go (fun _ k => XS.lload X.here hx rfl (hb hby at_42) rfl k) ?_
  show own_Goes p e below (own_End s below _ _) (T.setTop (mkF m 44 #[.val (.long p1), .second, .val (.long p2), .second, .val (.long p3), .second, .val (.int p4), .val (.int (own_n p4)), .val (.long (own_sr p1)), .second, .val (.long (own_sr p2)), .second, .val (.long (own_sr p3)), .second, .val (.ref a), .val (.long (0 : Int64)), .second, .unset, .unset] [(.long (own_sr p1)), (.ref a)]))
  obtain ⟨v1, T1, L1, X1, ⟨u1, M1, K1, k1, b1, H1⟩, st1⟩ := own_callV X hx hZ (y := own_recN) (z := own_recN) hown (hw _ (List.mem_of_getElem? (i := 12) rfl)) (hw _ (List.mem_of_getElem? (i := 13) rfl)) (hw _ (List.mem_of_getElem? (i := 15) rfl)) (hw _ (List.mem_of_getElem? (i := 14) rfl)) (hw _ (List.mem_of_getElem? (i := 2) rfl)) (hw _ (List.mem_of_getElem? (i := 16) rfl)) (notFace_of_selects (args := #[]) (mvT hZ (hw _ (List.mem_of_getElem? (i := 15) rfl)))) (by decide) (own_rec l Z a0 hw _ n0 a b _ _ _ (own_sr p1) ga gb H) rfl H.1 (W := 0) (by decide) (by decide) (g := (mkF m 44 #[.val (.long p1), .second, .val (.long p2), .second, .val (.long p3), .second, .val (.int p4), .val (.int (own_n p4)), .val (.long (own_sr p1)), .second, .val (.long (own_sr p2)), .second, .val (.long (own_sr p3)), .second, .val (.ref a), .val (.long (0 : Int64)), .second, .unset, .unset] [(.long (own_sr p1)), (.ref a)])) rfl (by rw [hml]; rfl) (argsL := [(.long (own_sr p1))]) (rest := []) pd_JV rfl rfl (by show 2 * 0 + _ ≤ _; exact Nat.le_of_eq rfl) (hb hby at_44) rfl (by decide) (by decide)
  subst u1
  have N1 := Fr.app N M1
  refine own_go st1 ?_
  show own_Goes p e below (own_End s below _ _) (T1.setTop (mkF m 47 #[.val (.long p1), .second, .val (.long p2), .second, .val (.long p3), .second, .val (.int p4), .val (.int (own_n p4)), .val (.long (own_sr p1)), .second, .val (.long (own_sr p2)), .second, .val (.long (own_sr p3)), .second, .val (.ref a), .val (.long (0 : Int64)), .second, .unset, .unset] []))
  refine own_go (fun _ k => XS.lload X1.here hx rfl (hb hby at_47) rfl k) ?_
  show own_Goes p e below (own_End s below _ _) (T1.setTop (mkF m 49 #[.val (.long p1), .second, .val (.long p2), .second, .val (.long p3), .second, .val (.int p4), .val (.int (own_n p4)), .val (.long (own_sr p1)), .second, .val (.long (own_sr p2)), .second, .val (.long (own_sr p3)), .second, .val (.ref a), .val (.long (0 : Int64)), .second, .unset, .unset] [(.long (0 : Int64))]))
  refine own_go (fun _ k => XS.lconst X1.here hx rfl (hb hby at_49) k) ?_
  show own_Goes p e below (own_End s below _ _) (T1.setTop (mkF m 50 #[.val (.long p1), .second, .val (.long p2), .second, .val (.long p3), .second, .val (.int p4), .val (.int (own_n p4)), .val (.long (own_sr p1)), .second, .val (.long (own_sr p2)), .second, .val (.long (own_sr p3)), .second, .val (.ref a), .val (.long (0 : Int64)), .second, .unset, .unset] [(.long (0 : Int64)), (.long (0 : Int64))]))
  refine own_go (fun _ k => XS.lload X1.here hx rfl (hb hby at_50) rfl k) ?_
  show own_Goes p e below (own_End s below _ _) (T1.setTop (mkF m 52 #[.val (.long p1), .second, .val (.long p2), .second, .val (.long p3), .second, .val (.int p4), .val (.int (own_n p4)), .val (.long (own_sr p1)), .second, .val (.long (own_sr p2)), .second, .val (.long (own_sr p3)), .second, .val (.ref a), .val (.long (0 : Int64)), .second, .unset, .unset] [(.long (own_sr p1)), (.long (0 : Int64)), (.long (0 : Int64))]))
  obtain ⟨T2, X2, e2, st2⟩ := own_callP X1 hx hZ (y := own_maxN) hown (hw _ (List.mem_of_getElem? (i := 29) rfl)) (hw _ (List.mem_of_getElem? (i := 18) rfl)) (hw _ (List.mem_of_getElem? (i := 19) rfl)) (hw _ (List.mem_of_getElem? (i := 20) rfl)) (by decide) (own_max l Z a0 hw _ 0 (own_sr p1)) rfl (W := 2) (by decide) (by decide) (g := (mkF m 52 #[.val (.long p1), .second, .val (.long p2), .second, .val (.long p3), .second, .val (.int p4), .val (.int (own_n p4)), .val (.long (own_sr p1)), .second, .val (.long (own_sr p2)), .second, .val (.long (own_sr p3)), .second, .val (.ref a), .val (.long (0 : Int64)), .second, .unset, .unset] [(.long (own_sr p1)), (.long (0 : Int64)), (.long (0 : Int64))])) rfl (by rw [hml]; rfl) (argsL := [(.long (0 : Int64)), (.long (own_sr p1))]) (rest := [(.long (0 : Int64))]) pd_JJJ rfl rfl (by show 2 * 0 + _ ≤ _; exact Nat.le_of_eq rfl) (hb hby at_52) rfl (by decide) (by decide)
  rw [← e2] at H1
  refine own_go st2 ?_
  show own_Goes p e below (own_End s below _ _) (T2.setTop (mkF m 55 #[.val (.long p1), .second, .val (.long p2), .second, .val (.long p3), .second, .val (.int p4), .val (.int (own_n p4)), .val (.long (own_sr p1)), .second, .val (.long (own_sr p2)), .second, .val (.long (own_sr p3)), .second, .val (.ref a), .val (.long (0 : Int64)), .second, .unset, .unset] [(.long (own_maxJ (0 : Int64) (own_sr p1))), (.long (0 : Int64))]))
  refine own_go (fun _ k => XS.ladd X2.here hx rfl (hb hby at_55) rfl k) ?_
  show own_Goes p e below (own_End s below _ _) (T2.setTop (mkF m 56 #[.val (.long p1), .second, .val (.long p2), .second, .val (.long p3), .second, .val (.int p4), .val (.int (own_n p4)), .val (.long (own_sr p1)), .second, .val (.long (own_sr p2)), .second, .val (.long (own_sr p3)), .second, .val (.ref a), .val (.long (0 : Int64)), .second, .unset, .unset] [(.long ((0 : Int64) + (own_maxJ (0 : Int64) (own_sr p1))))]))
  refine own_go (fun _ k => XS.lstore X2.here hx rfl (hb hby at_56) rfl (l' := #[.val (.long p1), .second, .val (.long p2), .second, .val (.long p3), .second, .val (.int p4), .val (.int (own_n p4)), .val (.long (own_sr p1)), .second, .val (.long (own_sr p2)), .second, .val (.long (own_sr p3)), .second, .val (.ref a), .val (.long ((0 : Int64) + (own_maxJ (0 : Int64) (own_sr p1)))), .second, .unset, .unset]) rfl k) ?_
  show own_Goes p e below (own_End s below _ _) (T2.setTop (mkF m 58 #[.val (.long p1), .second, .val (.long p2), .second, .val (.long p3), .second, .val (.int p4), .val (.int (own_n p4)), .val (.long (own_sr p1)), .second, .val (.long (own_sr p2)), .second, .val (.long (own_sr p3)), .second, .val (.ref a), .val (.long ((0 : Int64) + (own_maxJ (0 : Int64) (own_sr p1)))), .second, .unset, .unset] []))
  refine own_go (fun _ k => XS.iload X2.here hx rfl (hb hby at_58) rfl k) ?_
  show own_Goes p e below (own_End s below _ _) (T2.setTop (mkF m 60 #[.val (.long p1), .second, .val (.long p2), .second, .val (.long p3), .second, .val (.int p4), .val (.int (own_n p4)), .val (.long (own_sr p1)), .second, .val (.long (own_sr p2)), .second, .val (.long (own_sr p3)), .second, .val (.ref a), .val (.long ((0 : Int64) + (own_maxJ (0 : Int64) (own_sr p1)))), .second, .unset, .unset] [(.int (own_n p4))]))
  refine own_go (fun _ k => XS.iconst X2.here hx rfl (hb hby at_60) k) ?_
  show own_Goes p e below (own_End s below _ _) (T2.setTop (mkF m 61 #[.val (.long p1), .second, .val (.long p2), .second, .val (.long p3), .second, .val (.int p4), .val (.int (own_n p4)), .val (.long (own_sr p1)), .second, .val (.long (own_sr p2)), .second, .val (.long (own_sr p3)), .second, .val (.ref a), .val (.long ((0 : Int64) + (own_maxJ (0 : Int64) (own_sr p1)))), .second, .unset, .unset] [(.int (2 : Int32)), (.int (own_n p4))]))
  refine own_go (fun _ k => XS.icmpYes X2.here hx rfl (pc0 := 61) (pc' := 82) rfl (hb hby at_61) rfl (tlt (by rw [hn]; decide)).1 (by decide) (by decide) k) ?_
  show own_Goes p e below (own_End s below _ _) (T2.setTop (mkF m 82 #[.val (.long p1), .second, .val (.long p2), .second, .val (.long p3), .second, .val (.int p4), .val (.int (own_n p4)), .val (.long (own_sr p1)), .second, .val (.long (own_sr p2)), .second, .val (.long (own_sr p3)), .second, .val (.ref a), .val (.long ((0 : Int64) + (own_maxJ (0 : Int64) (own_sr p1)))), .second, .unset, .unset] []))
  refine own_go (fun _ k => XS.iload X2.here hx rfl (hb hby at_82) rfl k) ?_
  show own_Goes p e below (own_End s below _ _) (T2.setTop (mkF m 84 #[.val (.long p1), .second, .val (.long p2), .second, .val (.long p3), .second, .val (.int p4), .val (.int (own_n p4)), .val (.long (own_sr p1)), .second, .val (.long (own_sr p2)), .second, .val (.long (own_sr p3)), .second, .val (.ref a), .val (.long ((0 : Int64) + (own_maxJ (0 : Int64) (own_sr p1)))), .second, .unset, .unset] [(.int (own_n p4))]))
  refine own_go (fun _ k => XS.iconst X2.here hx rfl (hb hby at_84) k) ?_
  show own_Goes p e below (own_End s below _ _) (T2.setTop (mkF m 85 #[.val (.long p1), .second, .val (.long p2), .second, .val (.long p3), .second, .val (.int p4), .val (.int (own_n p4)), .val (.long (own_sr p1)), .second, .val (.long (own_sr p2)), .second, .val (.long (own_sr p3)), .second, .val (.ref a), .val (.long ((0 : Int64) + (own_maxJ (0 : Int64) (own_sr p1)))), .second, .unset, .unset] [(.int (3 : Int32)), (.int (own_n p4))]))
  refine own_go (fun _ k => XS.icmpYes X2.here hx rfl (pc0 := 85) (pc' := 106) rfl (hb hby at_85) rfl (tlt (by rw [hn]; decide)).1 (by decide) (by decide) k) ?_
  show own_Goes p e below (own_End s below _ _) (T2.setTop (mkF m 106 #[.val (.long p1), .second, .val (.long p2), .second, .val (.long p3), .second, .val (.int p4), .val (.int (own_n p4)), .val (.long (own_sr p1)), .second, .val (.long (own_sr p2)), .second, .val (.long (own_sr p3)), .second, .val (.ref a), .val (.long ((0 : Int64) + (own_maxJ (0 : Int64) (own_sr p1)))), .second, .unset, .unset] []))
  refine own_go (fun _ k => XS.iload X2.here hx rfl (hb hby at_106) rfl k) ?_
  show own_Goes p e below (own_End s below _ _) (T2.setTop (mkF m 108 #[.val (.long p1), .second, .val (.long p2), .second, .val (.long p3), .second, .val (.int p4), .val (.int (own_n p4)), .val (.long (own_sr p1)), .second, .val (.long (own_sr p2)), .second, .val (.long (own_sr p3)), .second, .val (.ref a), .val (.long ((0 : Int64) + (own_maxJ (0 : Int64) (own_sr p1)))), .second, .unset, .unset] [(.int (own_n p4))]))
  refine own_go (fun _ k => XS.ifYes X2.here hx rfl (pc0 := 108) (pc' := 115) rfl (hb hby at_108) rfl (by rw [if0]; exact (feq (by rw [hn]; decide)).2) (by decide) (by decide) k) ?_
  show own_Goes p e below (own_End s below _ _) (T2.setTop (mkF m 115 #[.val (.long p1), .second, .val (.long p2), .second, .val (.long p3), .second, .val (.int p4), .val (.int (own_n p4)), .val (.long (own_sr p1)), .second, .val (.long (own_sr p2)), .second, .val (.long (own_sr p3)), .second, .val (.ref a), .val (.long ((0 : Int64) + (own_maxJ (0 : Int64) (own_sr p1)))), .second, .unset, .unset] []))
  refine own_go (fun _ k => XS.lload X2.here hx rfl (hb hby at_115) rfl k) ?_
  show own_Goes p e below (own_End s below _ _) (T2.setTop (mkF m 117 #[.val (.long p1), .second, .val (.long p2), .second, .val (.long p3), .second, .val (.int p4), .val (.int (own_n p4)), .val (.long (own_sr p1)), .second, .val (.long (own_sr p2)), .second, .val (.long (own_sr p3)), .second, .val (.ref a), .val (.long ((0 : Int64) + (own_maxJ (0 : Int64) (own_sr p1)))), .second, .unset, .unset] [(.long ((0 : Int64) + (own_maxJ (0 : Int64) (own_sr p1))))]))
  refine own_go (fun _ k => XS.l2dS X2.here hx rfl (hb hby at_117) rfl rfl k) ?_
  show own_Goes p e below (own_End s below _ _) (T2.setTop (mkF m 118 #[.val (.long p1), .second, .val (.long p2), .second, .val (.long p3), .second, .val (.int p4), .val (.int (own_n p4)), .val (.long (own_sr p1)), .second, .val (.long (own_sr p2)), .second, .val (.long (own_sr p3)), .second, .val (.ref a), .val (.long ((0 : Int64) + (own_maxJ (0 : Int64) (own_sr p1)))), .second, .unset, .unset] [(.double (FP.l2d ((0 : Int64) + (own_maxJ (0 : Int64) (own_sr p1)))))]))
  refine own_go (fun _ k => XS.iload X2.here hx rfl (hb hby at_118) rfl k) ?_
  show own_Goes p e below (own_End s below _ _) (T2.setTop (mkF m 120 #[.val (.long p1), .second, .val (.long p2), .second, .val (.long p3), .second, .val (.int p4), .val (.int (own_n p4)), .val (.long (own_sr p1)), .second, .val (.long (own_sr p2)), .second, .val (.long (own_sr p3)), .second, .val (.ref a), .val (.long ((0 : Int64) + (own_maxJ (0 : Int64) (own_sr p1)))), .second, .unset, .unset] [(.int (own_n p4)), (.double (FP.l2d ((0 : Int64) + (own_maxJ (0 : Int64) (own_sr p1)))))]))
  refine own_go (fun _ k => XS.i2dS X2.here hx rfl (hb hby at_120) rfl rfl k) ?_
  show own_Goes p e below (own_End s below _ _) (T2.setTop (mkF m 121 #[.val (.long p1), .second, .val (.long p2), .second, .val (.long p3), .second, .val (.int p4), .val (.int (own_n p4)), .val (.long (own_sr p1)), .second, .val (.long (own_sr p2)), .second, .val (.long (own_sr p3)), .second, .val (.ref a), .val (.long ((0 : Int64) + (own_maxJ (0 : Int64) (own_sr p1)))), .second, .unset, .unset] [(.double (FP.i2d (own_n p4))), (.double (FP.l2d ((0 : Int64) + (own_maxJ (0 : Int64) (own_sr p1)))))]))
  refine own_go (fun _ k => XS.ddivS X2.here hx rfl (hb hby at_121) rfl (own_exp_nn _ (by rw [hn]; decide : ((0 : Int64) + 1) = (own_n p4).toInt64) (by decide : ((0 : Int64) + 1) ≠ 0)) rfl k) ?_
  show own_Goes p e below (own_End s below _ _) (T2.setTop (mkF m 122 #[.val (.long p1), .second, .val (.long p2), .second, .val (.long p3), .second, .val (.int p4), .val (.int (own_n p4)), .val (.long (own_sr p1)), .second, .val (.long (own_sr p2)), .second, .val (.long (own_sr p3)), .second, .val (.ref a), .val (.long ((0 : Int64) + (own_maxJ (0 : Int64) (own_sr p1)))), .second, .unset, .unset] [(.double (FP.ddiv (FP.l2d ((0 : Int64) + (own_maxJ (0 : Int64) (own_sr p1)))) (FP.i2d (own_n p4))))]))
  refine own_go (fun _ k => XS.dstore X2.here hx rfl (hb hby at_122) rfl (l' := #[.val (.long p1), .second, .val (.long p2), .second, .val (.long p3), .second, .val (.int p4), .val (.int (own_n p4)), .val (.long (own_sr p1)), .second, .val (.long (own_sr p2)), .second, .val (.long (own_sr p3)), .second, .val (.ref a), .val (.long ((0 : Int64) + (own_maxJ (0 : Int64) (own_sr p1)))), .second, .val (.double (FP.ddiv (FP.l2d ((0 : Int64) + (own_maxJ (0 : Int64) (own_sr p1)))) (FP.i2d (own_n p4)))), .second]) rfl k) ?_
  show own_Goes p e below (own_End s below _ _) (T2.setTop (mkF m 124 #[.val (.long p1), .second, .val (.long p2), .second, .val (.long p3), .second, .val (.int p4), .val (.int (own_n p4)), .val (.long (own_sr p1)), .second, .val (.long (own_sr p2)), .second, .val (.long (own_sr p3)), .second, .val (.ref a), .val (.long ((0 : Int64) + (own_maxJ (0 : Int64) (own_sr p1)))), .second, .val (.double (FP.ddiv (FP.l2d ((0 : Int64) + (own_maxJ (0 : Int64) (own_sr p1)))) (FP.i2d (own_n p4)))), .second] []))
  refine own_go (fun _ k => XS.aload X2.here hx rfl (hb hby at_124) rfl rfl k) ?_
  show own_Goes p e below (own_End s below _ _) (T2.setTop (mkF m 126 #[.val (.long p1), .second, .val (.long p2), .second, .val (.long p3), .second, .val (.int p4), .val (.int (own_n p4)), .val (.long (own_sr p1)), .second, .val (.long (own_sr p2)), .second, .val (.long (own_sr p3)), .second, .val (.ref a), .val (.long ((0 : Int64) + (own_maxJ (0 : Int64) (own_sr p1)))), .second, .val (.double (FP.ddiv (FP.l2d ((0 : Int64) + (own_maxJ (0 : Int64) (own_sr p1)))) (FP.i2d (own_n p4)))), .second] [(.ref a)]))
  obtain ⟨v8, T8, L8, X8, ⟨u1, u2, u3⟩, st8⟩ := own_callV X2 hx hZ (y := own_meaN) (z := own_meaN) hown (hw _ (List.mem_of_getElem? (i := 30) rfl)) (hw _ (List.mem_of_getElem? (i := 31) rfl)) (hw _ (List.mem_of_getElem? (i := 33) rfl)) (hw _ (List.mem_of_getElem? (i := 32) rfl)) (hw _ (List.mem_of_getElem? (i := 2) rfl)) (hw _ (List.mem_of_getElem? (i := 34) rfl)) (notFace_of_selects (args := #[]) (mvT hZ (hw _ (List.mem_of_getElem? (i := 33) rfl)))) (by decide) (own_mea l Z a0 hw _ a b _ _ _ H1) rfl H1.1 (W := 0) (by decide) (by decide) (g := (mkF m 126 #[.val (.long p1), .second, .val (.long p2), .second, .val (.long p3), .second, .val (.int p4), .val (.int (own_n p4)), .val (.long (own_sr p1)), .second, .val (.long (own_sr p2)), .second, .val (.long (own_sr p3)), .second, .val (.ref a), .val (.long ((0 : Int64) + (own_maxJ (0 : Int64) (own_sr p1)))), .second, .val (.double (FP.ddiv (FP.l2d ((0 : Int64) + (own_maxJ (0 : Int64) (own_sr p1)))) (FP.i2d (own_n p4)))), .second] [(.ref a)])) rfl (by rw [hml]; rfl) (argsL := []) (rest := []) pd_D rfl rfl (by show 2 * 0 + _ ≤ _; exact Nat.le_of_eq rfl) (hb hby at_126) rfl (by decide) (by decide)
  subst u1 u3
  rw [List.append_nil] at X8
  refine own_go st8 ?_
  show own_Goes p e below (own_End s below _ _) (T8.setTop (mkF m 129 #[.val (.long p1), .second, .val (.long p2), .second, .val (.long p3), .second, .val (.int p4), .val (.int (own_n p4)), .val (.long (own_sr p1)), .second, .val (.long (own_sr p2)), .second, .val (.long (own_sr p3)), .second, .val (.ref a), .val (.long ((0 : Int64) + (own_maxJ (0 : Int64) (own_sr p1)))), .second, .val (.double (FP.ddiv (FP.l2d ((0 : Int64) + (own_maxJ (0 : Int64) (own_sr p1)))) (FP.i2d (own_n p4)))), .second] [(.double (own_mean ((0 : Int64) + 1) ((0 : Int64) + (own_maxJ (0 : Int64) (own_sr p1)))))]))
  refine own_go (fun _ k => XS.dload X8.here hx rfl (hb hby at_129) rfl k) ?_
  show own_Goes p e below (own_End s below _ _) (T8.setTop (mkF m 131 #[.val (.long p1), .second, .val (.long p2), .second, .val (.long p3), .second, .val (.int p4), .val (.int (own_n p4)), .val (.long (own_sr p1)), .second, .val (.long (own_sr p2)), .second, .val (.long (own_sr p3)), .second, .val (.ref a), .val (.long ((0 : Int64) + (own_maxJ (0 : Int64) (own_sr p1)))), .second, .val (.double (FP.ddiv (FP.l2d ((0 : Int64) + (own_maxJ (0 : Int64) (own_sr p1)))) (FP.i2d (own_n p4)))), .second] [(.double (FP.ddiv (FP.l2d ((0 : Int64) + (own_maxJ (0 : Int64) (own_sr p1)))) (FP.i2d (own_n p4)))), (.double (own_mean ((0 : Int64) + 1) ((0 : Int64) + (own_maxJ (0 : Int64) (own_sr p1)))))]))
  refine own_go (fun _ k => XS.dcmpS X8.here hx rfl (hb hby at_131) rfl (dcmpV_eq (own_mean_eq _ (by rw [hn]; decide : ((0 : Int64) + 1) = (own_n p4).toInt64) (by decide : ((0 : Int64) + 1) ≠ 0)) (by rw [own_mean_eq _ (by rw [hn]; decide : ((0 : Int64) + 1) = (own_n p4).toInt64) (by decide : ((0 : Int64) + 1) ≠ 0)]; exact own_exp_nn _ (by rw [hn]; decide : ((0 : Int64) + 1) = (own_n p4).toInt64) (by decide : ((0 : Int64) + 1) ≠ 0)) .l) k) ?_
  show own_Goes p e below (own_End s below _ _) (T8.setTop (mkF m 132 #[.val (.long p1), .second, .val (.long p2), .second, .val (.long p3), .second, .val (.int p4), .val (.int (own_n p4)), .val (.long (own_sr p1)), .second, .val (.long (own_sr p2)), .second, .val (.long (own_sr p3)), .second, .val (.ref a), .val (.long ((0 : Int64) + (own_maxJ (0 : Int64) (own_sr p1)))), .second, .val (.double (FP.ddiv (FP.l2d ((0 : Int64) + (own_maxJ (0 : Int64) (own_sr p1)))) (FP.i2d (own_n p4)))), .second] [(.int (0 : Int32))]))
  refine own_go (fun _ k => XS.ifNo X8.here hx rfl (hb hby at_132) rfl (by decide) k) ?_
  show own_Goes p e below (own_End s below _ _) (T8.setTop (mkF m 135 #[.val (.long p1), .second, .val (.long p2), .second, .val (.long p3), .second, .val (.int p4), .val (.int (own_n p4)), .val (.long (own_sr p1)), .second, .val (.long (own_sr p2)), .second, .val (.long (own_sr p3)), .second, .val (.ref a), .val (.long ((0 : Int64) + (own_maxJ (0 : Int64) (own_sr p1)))), .second, .val (.double (FP.ddiv (FP.l2d ((0 : Int64) + (own_maxJ (0 : Int64) (own_sr p1)))) (FP.i2d (own_n p4)))), .second] []))
  refine own_go (fun _ k => XS.iconst X8.here hx rfl (hb hby at_135) k) ?_
  show own_Goes p e below (own_End s below _ _) (T8.setTop (mkF m 136 #[.val (.long p1), .second, .val (.long p2), .second, .val (.long p3), .second, .val (.int p4), .val (.int (own_n p4)), .val (.long (own_sr p1)), .second, .val (.long (own_sr p2)), .second, .val (.long (own_sr p3)), .second, .val (.ref a), .val (.long ((0 : Int64) + (own_maxJ (0 : Int64) (own_sr p1)))), .second, .val (.double (FP.ddiv (FP.l2d ((0 : Int64) + (own_maxJ (0 : Int64) (own_sr p1)))) (FP.i2d (own_n p4)))), .second] [(.int (1 : Int32))]))
  refine own_go (fun _ k => XS.goto X8.here hx rfl (pc0 := 136) (pc' := 140) rfl (hb hby at_136) (by decide) (by decide) k) ?_
  show own_Goes p e below (own_End s below _ _) (T8.setTop (mkF m 140 #[.val (.long p1), .second, .val (.long p2), .second, .val (.long p3), .second, .val (.int p4), .val (.int (own_n p4)), .val (.long (own_sr p1)), .second, .val (.long (own_sr p2)), .second, .val (.long (own_sr p3)), .second, .val (.ref a), .val (.long ((0 : Int64) + (own_maxJ (0 : Int64) (own_sr p1)))), .second, .val (.double (FP.ddiv (FP.l2d ((0 : Int64) + (own_maxJ (0 : Int64) (own_sr p1)))) (FP.i2d (own_n p4)))), .second] [(.int (1 : Int32))]))
  exact own_retZ X8 hx Bd.notSynchronized Bd.returns rfl (hb hby at_140) ⟨rfl, N1⟩ (by decide) (by decide)
set_option maxRecDepth 65536 in
set_option maxHeartbeats 40000000 in
theorem own_path2 (l : Launch) (Z : State) (a0 : Array Value) (hw : ∀ d ∈ tables_1, d.before a0 Z = true) (ws : List Jvm.Cond) (p1 p2 p3 : Int64) (p4 : Int32) (n0 : Nat) (p : Program) (e : Env) (s : State) (m : MethodId) (below : List Frame) (meth : Method) (c : Code) (s₁ : State) (Bd : BodyLoose p l x (head1 (Jvm.Cond.code x code maxLocals ret :: ws) room_1) code maxLocals ret e s m #[(.long p1), (.long p2), (.long p3), (.int p4)] below meth c s₁) (hml : c.maxLocals = maxLocals) (hZ : Z.Warmed39 s.vm) (T : State) (locs : List Loc) (X : Stand p l e room_1 s m #[(.long p1), (.long p2), (.long p3), (.int p4)] below meth c T locs 2 14339) (N : Fr n0 locs) (hn : own_n p4 = 2) (a b : Addr) (ga : n0 ≤ a) (gb : n0 ≤ b) (f : Nat → Int64) (H : own_H Z T.heap a b f 0 0) :
    own_Goes p e below (own_End s below room_1 (own_Q n0)) (T.setTop (mkF m 34 #[.val (.long p1), .second, .val (.long p2), .second, .val (.long p3), .second, .val (.int p4), .val (.int (own_n p4)), .val (.long (own_sr p1)), .second, .val (.long (own_sr p2)), .second, .val (.long (own_sr p3)), .second, .val (.ref a), .val (.long (0 : Int64)), .second, .unset, .unset] [])) := by
  have hx := Bd.exec
  have hby := Bd.bytes
  have hown : s.vm.findClass "com/example/holdfast/holdfast/cli/LatencyHistogramMeanPinLaw" = some m.cls := findClass_of_methodNamed Bd.named
  show own_Goes p e below (own_End s below _ _) (T.setTop (mkF m 34 #[.val (.long p1), .second, .val (.long p2), .second, .val (.long p3), .second, .val (.int p4), .val (.int (own_n p4)), .val (.long (own_sr p1)), .second, .val (.long (own_sr p2)), .second, .val (.long (own_sr p3)), .second, .val (.ref a), .val (.long (0 : Int64)), .second, .unset, .unset] []))
  refine own_go (fun _ k => XS.iload X.here hx rfl (hb hby at_34) rfl k) ?_
  show own_Goes p e below (own_End s below _ _) (T.setTop (mkF m 36 #[.val (.long p1), .second, .val (.long p2), .second, .val (.long p3), .second, .val (.int p4), .val (.int (own_n p4)), .val (.long (own_sr p1)), .second, .val (.long (own_sr p2)), .second, .val (.long (own_sr p3)), .second, .val (.ref a), .val (.long (0 : Int64)), .second, .unset, .unset] [(.int (own_n p4))]))
  refine own_go (fun _ k => XS.iconst X.here hx rfl (hb hby at_36) k) ?_
  show own_Goes p e below (own_End s below _ _) (T.setTop (mkF m 37 #[.val (.long p1), .second, .val (.long p2), .second, .val (.long p3), .second, .val (.int p4), .val (.int (own_n p4)), .val (.long (own_sr p1)), .second, .val (.long (own_sr p2)), .second, .val (.long (own_sr p3)), .second, .val (.ref a), .val (.long (0 : Int64)), .second, .unset, .unset] [(.int (1 : Int32)), (.int (own_n p4))]))
  refine own_go (fun _ k => XS.icmpNo X.here hx rfl (hb hby at_37) rfl (flt (by rw [hn]; decide)).1 k) ?_
  show own_Goes p e below (own_End s below _ _) (T.setTop (mkF m 40 #[.val (.long p1), .second, .val (.long p2), .second, .val (.long p3), .second, .val (.int p4), .val (.int (own_n p4)), .val (.long (own_sr p1)), .second, .val (.long (own_sr p2)), .second, .val (.long (own_sr p3)), .second, .val (.ref a), .val (.long (0 : Int64)), .second, .unset, .unset] []))
  refine own_go (fun _ k => XS.aload X.here hx rfl (hb hby at_40) rfl rfl k) ?_
  show own_Goes p e below (own_End s below _ _) (T.setTop (mkF m 42 #[.val (.long p1), .second, .val (.long p2), .second, .val (.long p3), .second, .val (.int p4), .val (.int (own_n p4)), .val (.long (own_sr p1)), .second, .val (.long (own_sr p2)), .second, .val (.long (own_sr p3)), .second, .val (.ref a), .val (.long (0 : Int64)), .second, .unset, .unset] [(.ref a)]))
  refine own_go (fun _ k => XS.lload X.here hx rfl (hb hby at_42) rfl k) ?_
  show own_Goes p e below (own_End s below _ _) (T.setTop (mkF m 44 #[.val (.long p1), .second, .val (.long p2), .second, .val (.long p3), .second, .val (.int p4), .val (.int (own_n p4)), .val (.long (own_sr p1)), .second, .val (.long (own_sr p2)), .second, .val (.long (own_sr p3)), .second, .val (.ref a), .val (.long (0 : Int64)), .second, .unset, .unset] [(.long (own_sr p1)), (.ref a)]))
  obtain ⟨v1, T1, L1, X1, ⟨u1, M1, K1, k1, b1, H1⟩, st1⟩ := own_callV X hx hZ (y := own_recN) (z := own_recN) hown (hw _ (List.mem_of_getElem? (i := 12) rfl)) (hw _ (List.mem_of_getElem? (i := 13) rfl)) (hw _ (List.mem_of_getElem? (i := 15) rfl)) (hw _ (List.mem_of_getElem? (i := 14) rfl)) (hw _ (List.mem_of_getElem? (i := 2) rfl)) (hw _ (List.mem_of_getElem? (i := 16) rfl)) (notFace_of_selects (args := #[]) (mvT hZ (hw _ (List.mem_of_getElem? (i := 15) rfl)))) (by decide) (own_rec l Z a0 hw _ n0 a b _ _ _ (own_sr p1) ga gb H) rfl H.1 (W := 0) (by decide) (by decide) (g := (mkF m 44 #[.val (.long p1), .second, .val (.long p2), .second, .val (.long p3), .second, .val (.int p4), .val (.int (own_n p4)), .val (.long (own_sr p1)), .second, .val (.long (own_sr p2)), .second, .val (.long (own_sr p3)), .second, .val (.ref a), .val (.long (0 : Int64)), .second, .unset, .unset] [(.long (own_sr p1)), (.ref a)])) rfl (by rw [hml]; rfl) (argsL := [(.long (own_sr p1))]) (rest := []) pd_JV rfl rfl (by show 2 * 0 + _ ≤ _; exact Nat.le_of_eq rfl) (hb hby at_44) rfl (by decide) (by decide)
  subst u1
  have N1 := Fr.app N M1
  refine own_go st1 ?_
  show own_Goes p e below (own_End s below _ _) (T1.setTop (mkF m 47 #[.val (.long p1), .second, .val (.long p2), .second, .val (.long p3), .second, .val (.int p4), .val (.int (own_n p4)), .val (.long (own_sr p1)), .second, .val (.long (own_sr p2)), .second, .val (.long (own_sr p3)), .second, .val (.ref a), .val (.long (0 : Int64)), .second, .unset, .unset] []))
  refine own_go (fun _ k => XS.lload X1.here hx rfl (hb hby at_47) rfl k) ?_
  show own_Goes p e below (own_End s below _ _) (T1.setTop (mkF m 49 #[.val (.long p1), .second, .val (.long p2), .second, .val (.long p3), .second, .val (.int p4), .val (.int (own_n p4)), .val (.long (own_sr p1)), .second, .val (.long (own_sr p2)), .second, .val (.long (own_sr p3)), .second, .val (.ref a), .val (.long (0 : Int64)), .second, .unset, .unset] [(.long (0 : Int64))]))
  refine own_go (fun _ k => XS.lconst X1.here hx rfl (hb hby at_49) k) ?_
  show own_Goes p e below (own_End s below _ _) (T1.setTop (mkF m 50 #[.val (.long p1), .second, .val (.long p2), .second, .val (.long p3), .second, .val (.int p4), .val (.int (own_n p4)), .val (.long (own_sr p1)), .second, .val (.long (own_sr p2)), .second, .val (.long (own_sr p3)), .second, .val (.ref a), .val (.long (0 : Int64)), .second, .unset, .unset] [(.long (0 : Int64)), (.long (0 : Int64))]))
  refine own_go (fun _ k => XS.lload X1.here hx rfl (hb hby at_50) rfl k) ?_
  show own_Goes p e below (own_End s below _ _) (T1.setTop (mkF m 52 #[.val (.long p1), .second, .val (.long p2), .second, .val (.long p3), .second, .val (.int p4), .val (.int (own_n p4)), .val (.long (own_sr p1)), .second, .val (.long (own_sr p2)), .second, .val (.long (own_sr p3)), .second, .val (.ref a), .val (.long (0 : Int64)), .second, .unset, .unset] [(.long (own_sr p1)), (.long (0 : Int64)), (.long (0 : Int64))]))
  obtain ⟨T2, X2, e2, st2⟩ := own_callP X1 hx hZ (y := own_maxN) hown (hw _ (List.mem_of_getElem? (i := 29) rfl)) (hw _ (List.mem_of_getElem? (i := 18) rfl)) (hw _ (List.mem_of_getElem? (i := 19) rfl)) (hw _ (List.mem_of_getElem? (i := 20) rfl)) (by decide) (own_max l Z a0 hw _ 0 (own_sr p1)) rfl (W := 2) (by decide) (by decide) (g := (mkF m 52 #[.val (.long p1), .second, .val (.long p2), .second, .val (.long p3), .second, .val (.int p4), .val (.int (own_n p4)), .val (.long (own_sr p1)), .second, .val (.long (own_sr p2)), .second, .val (.long (own_sr p3)), .second, .val (.ref a), .val (.long (0 : Int64)), .second, .unset, .unset] [(.long (own_sr p1)), (.long (0 : Int64)), (.long (0 : Int64))])) rfl (by rw [hml]; rfl) (argsL := [(.long (0 : Int64)), (.long (own_sr p1))]) (rest := [(.long (0 : Int64))]) pd_JJJ rfl rfl (by show 2 * 0 + _ ≤ _; exact Nat.le_of_eq rfl) (hb hby at_52) rfl (by decide) (by decide)
  rw [← e2] at H1
  refine own_go st2 ?_
  show own_Goes p e below (own_End s below _ _) (T2.setTop (mkF m 55 #[.val (.long p1), .second, .val (.long p2), .second, .val (.long p3), .second, .val (.int p4), .val (.int (own_n p4)), .val (.long (own_sr p1)), .second, .val (.long (own_sr p2)), .second, .val (.long (own_sr p3)), .second, .val (.ref a), .val (.long (0 : Int64)), .second, .unset, .unset] [(.long (own_maxJ (0 : Int64) (own_sr p1))), (.long (0 : Int64))]))
  refine own_go (fun _ k => XS.ladd X2.here hx rfl (hb hby at_55) rfl k) ?_
  show own_Goes p e below (own_End s below _ _) (T2.setTop (mkF m 56 #[.val (.long p1), .second, .val (.long p2), .second, .val (.long p3), .second, .val (.int p4), .val (.int (own_n p4)), .val (.long (own_sr p1)), .second, .val (.long (own_sr p2)), .second, .val (.long (own_sr p3)), .second, .val (.ref a), .val (.long (0 : Int64)), .second, .unset, .unset] [(.long ((0 : Int64) + (own_maxJ (0 : Int64) (own_sr p1))))]))
  refine own_go (fun _ k => XS.lstore X2.here hx rfl (hb hby at_56) rfl (l' := #[.val (.long p1), .second, .val (.long p2), .second, .val (.long p3), .second, .val (.int p4), .val (.int (own_n p4)), .val (.long (own_sr p1)), .second, .val (.long (own_sr p2)), .second, .val (.long (own_sr p3)), .second, .val (.ref a), .val (.long ((0 : Int64) + (own_maxJ (0 : Int64) (own_sr p1)))), .second, .unset, .unset]) rfl k) ?_
  show own_Goes p e below (own_End s below _ _) (T2.setTop (mkF m 58 #[.val (.long p1), .second, .val (.long p2), .second, .val (.long p3), .second, .val (.int p4), .val (.int (own_n p4)), .val (.long (own_sr p1)), .second, .val (.long (own_sr p2)), .second, .val (.long (own_sr p3)), .second, .val (.ref a), .val (.long ((0 : Int64) + (own_maxJ (0 : Int64) (own_sr p1)))), .second, .unset, .unset] []))
  refine own_go (fun _ k => XS.iload X2.here hx rfl (hb hby at_58) rfl k) ?_
  show own_Goes p e below (own_End s below _ _) (T2.setTop (mkF m 60 #[.val (.long p1), .second, .val (.long p2), .second, .val (.long p3), .second, .val (.int p4), .val (.int (own_n p4)), .val (.long (own_sr p1)), .second, .val (.long (own_sr p2)), .second, .val (.long (own_sr p3)), .second, .val (.ref a), .val (.long ((0 : Int64) + (own_maxJ (0 : Int64) (own_sr p1)))), .second, .unset, .unset] [(.int (own_n p4))]))
  refine own_go (fun _ k => XS.iconst X2.here hx rfl (hb hby at_60) k) ?_
  show own_Goes p e below (own_End s below _ _) (T2.setTop (mkF m 61 #[.val (.long p1), .second, .val (.long p2), .second, .val (.long p3), .second, .val (.int p4), .val (.int (own_n p4)), .val (.long (own_sr p1)), .second, .val (.long (own_sr p2)), .second, .val (.long (own_sr p3)), .second, .val (.ref a), .val (.long ((0 : Int64) + (own_maxJ (0 : Int64) (own_sr p1)))), .second, .unset, .unset] [(.int (2 : Int32)), (.int (own_n p4))]))
  refine own_go (fun _ k => XS.icmpNo X2.here hx rfl (hb hby at_61) rfl (flt (by rw [hn]; decide)).1 k) ?_
  show own_Goes p e below (own_End s below _ _) (T2.setTop (mkF m 64 #[.val (.long p1), .second, .val (.long p2), .second, .val (.long p3), .second, .val (.int p4), .val (.int (own_n p4)), .val (.long (own_sr p1)), .second, .val (.long (own_sr p2)), .second, .val (.long (own_sr p3)), .second, .val (.ref a), .val (.long ((0 : Int64) + (own_maxJ (0 : Int64) (own_sr p1)))), .second, .unset, .unset] []))
  refine own_go (fun _ k => XS.aload X2.here hx rfl (hb hby at_64) rfl rfl k) ?_
  show own_Goes p e below (own_End s below _ _) (T2.setTop (mkF m 66 #[.val (.long p1), .second, .val (.long p2), .second, .val (.long p3), .second, .val (.int p4), .val (.int (own_n p4)), .val (.long (own_sr p1)), .second, .val (.long (own_sr p2)), .second, .val (.long (own_sr p3)), .second, .val (.ref a), .val (.long ((0 : Int64) + (own_maxJ (0 : Int64) (own_sr p1)))), .second, .unset, .unset] [(.ref a)]))
  refine own_go (fun _ k => XS.lload X2.here hx rfl (hb hby at_66) rfl k) ?_
  show own_Goes p e below (own_End s below _ _) (T2.setTop (mkF m 68 #[.val (.long p1), .second, .val (.long p2), .second, .val (.long p3), .second, .val (.int p4), .val (.int (own_n p4)), .val (.long (own_sr p1)), .second, .val (.long (own_sr p2)), .second, .val (.long (own_sr p3)), .second, .val (.ref a), .val (.long ((0 : Int64) + (own_maxJ (0 : Int64) (own_sr p1)))), .second, .unset, .unset] [(.long (own_sr p2)), (.ref a)]))
  obtain ⟨v3, T3, L3, X3, ⟨u3, M3, K3, k3, b3, H3⟩, st3⟩ := own_callV X2 hx hZ (y := own_recN) (z := own_recN) hown (hw _ (List.mem_of_getElem? (i := 12) rfl)) (hw _ (List.mem_of_getElem? (i := 13) rfl)) (hw _ (List.mem_of_getElem? (i := 15) rfl)) (hw _ (List.mem_of_getElem? (i := 14) rfl)) (hw _ (List.mem_of_getElem? (i := 2) rfl)) (hw _ (List.mem_of_getElem? (i := 16) rfl)) (notFace_of_selects (args := #[]) (mvT hZ (hw _ (List.mem_of_getElem? (i := 15) rfl)))) (by decide) (own_rec l Z a0 hw _ n0 a b _ _ _ (own_sr p2) ga gb H1) rfl H1.1 (W := 0) (by decide) (by decide) (g := (mkF m 68 #[.val (.long p1), .second, .val (.long p2), .second, .val (.long p3), .second, .val (.int p4), .val (.int (own_n p4)), .val (.long (own_sr p1)), .second, .val (.long (own_sr p2)), .second, .val (.long (own_sr p3)), .second, .val (.ref a), .val (.long ((0 : Int64) + (own_maxJ (0 : Int64) (own_sr p1)))), .second, .unset, .unset] [(.long (own_sr p2)), (.ref a)])) rfl (by rw [hml]; rfl) (argsL := [(.long (own_sr p2))]) (rest := []) pd_JV rfl rfl (by show 2 * 0 + _ ≤ _; exact Nat.le_of_eq rfl) (hb hby at_68) rfl (by decide) (by decide)
  subst u3
  have N3 := Fr.app N1 M3
  refine own_go st3 ?_
  show own_Goes p e below (own_End s below _ _) (T3.setTop (mkF m 71 #[.val (.long p1), .second, .val (.long p2), .second, .val (.long p3), .second, .val (.int p4), .val (.int (own_n p4)), .val (.long (own_sr p1)), .second, .val (.long (own_sr p2)), .second, .val (.long (own_sr p3)), .second, .val (.ref a), .val (.long ((0 : Int64) + (own_maxJ (0 : Int64) (own_sr p1)))), .second, .unset, .unset] []))
  refine own_go (fun _ k => XS.lload X3.here hx rfl (hb hby at_71) rfl k) ?_
  show own_Goes p e below (own_End s below _ _) (T3.setTop (mkF m 73 #[.val (.long p1), .second, .val (.long p2), .second, .val (.long p3), .second, .val (.int p4), .val (.int (own_n p4)), .val (.long (own_sr p1)), .second, .val (.long (own_sr p2)), .second, .val (.long (own_sr p3)), .second, .val (.ref a), .val (.long ((0 : Int64) + (own_maxJ (0 : Int64) (own_sr p1)))), .second, .unset, .unset] [(.long ((0 : Int64) + (own_maxJ (0 : Int64) (own_sr p1))))]))
  refine own_go (fun _ k => XS.lconst X3.here hx rfl (hb hby at_73) k) ?_
  show own_Goes p e below (own_End s below _ _) (T3.setTop (mkF m 74 #[.val (.long p1), .second, .val (.long p2), .second, .val (.long p3), .second, .val (.int p4), .val (.int (own_n p4)), .val (.long (own_sr p1)), .second, .val (.long (own_sr p2)), .second, .val (.long (own_sr p3)), .second, .val (.ref a), .val (.long ((0 : Int64) + (own_maxJ (0 : Int64) (own_sr p1)))), .second, .unset, .unset] [(.long (0 : Int64)), (.long ((0 : Int64) + (own_maxJ (0 : Int64) (own_sr p1))))]))
  refine own_go (fun _ k => XS.lload X3.here hx rfl (hb hby at_74) rfl k) ?_
  show own_Goes p e below (own_End s below _ _) (T3.setTop (mkF m 76 #[.val (.long p1), .second, .val (.long p2), .second, .val (.long p3), .second, .val (.int p4), .val (.int (own_n p4)), .val (.long (own_sr p1)), .second, .val (.long (own_sr p2)), .second, .val (.long (own_sr p3)), .second, .val (.ref a), .val (.long ((0 : Int64) + (own_maxJ (0 : Int64) (own_sr p1)))), .second, .unset, .unset] [(.long (own_sr p2)), (.long (0 : Int64)), (.long ((0 : Int64) + (own_maxJ (0 : Int64) (own_sr p1))))]))
  obtain ⟨T4, X4, e4, st4⟩ := own_callP X3 hx hZ (y := own_maxN) hown (hw _ (List.mem_of_getElem? (i := 29) rfl)) (hw _ (List.mem_of_getElem? (i := 18) rfl)) (hw _ (List.mem_of_getElem? (i := 19) rfl)) (hw _ (List.mem_of_getElem? (i := 20) rfl)) (by decide) (own_max l Z a0 hw _ 0 (own_sr p2)) rfl (W := 2) (by decide) (by decide) (g := (mkF m 76 #[.val (.long p1), .second, .val (.long p2), .second, .val (.long p3), .second, .val (.int p4), .val (.int (own_n p4)), .val (.long (own_sr p1)), .second, .val (.long (own_sr p2)), .second, .val (.long (own_sr p3)), .second, .val (.ref a), .val (.long ((0 : Int64) + (own_maxJ (0 : Int64) (own_sr p1)))), .second, .unset, .unset] [(.long (own_sr p2)), (.long (0 : Int64)), (.long ((0 : Int64) + (own_maxJ (0 : Int64) (own_sr p1))))])) rfl (by rw [hml]; rfl) (argsL := [(.long (0 : Int64)), (.long (own_sr p2))]) (rest := [(.long ((0 : Int64) + (own_maxJ (0 : Int64) (own_sr p1))))]) pd_JJJ rfl rfl (by show 2 * 0 + _ ≤ _; exact Nat.le_of_eq rfl) (hb hby at_76) rfl (by decide) (by decide)
  rw [← e4] at H3
  refine own_go st4 ?_
  show own_Goes p e below (own_End s below _ _) (T4.setTop (mkF m 79 #[.val (.long p1), .second, .val (.long p2), .second, .val (.long p3), .second, .val (.int p4), .val (.int (own_n p4)), .val (.long (own_sr p1)), .second, .val (.long (own_sr p2)), .second, .val (.long (own_sr p3)), .second, .val (.ref a), .val (.long ((0 : Int64) + (own_maxJ (0 : Int64) (own_sr p1)))), .second, .unset, .unset] [(.long (own_maxJ (0 : Int64) (own_sr p2))), (.long ((0 : Int64) + (own_maxJ (0 : Int64) (own_sr p1))))]))
  refine own_go (fun _ k => XS.ladd X4.here hx rfl (hb hby at_79) rfl k) ?_
  show own_Goes p e below (own_End s below _ _) (T4.setTop (mkF m 80 #[.val (.long p1), .second, .val (.long p2), .second, .val (.long p3), .second, .val (.int p4), .val (.int (own_n p4)), .val (.long (own_sr p1)), .second, .val (.long (own_sr p2)), .second, .val (.long (own_sr p3)), .second, .val (.ref a), .val (.long ((0 : Int64) + (own_maxJ (0 : Int64) (own_sr p1)))), .second, .unset, .unset] [(.long (((0 : Int64) + (own_maxJ (0 : Int64) (own_sr p1))) + (own_maxJ (0 : Int64) (own_sr p2))))]))
  refine own_go (fun _ k => XS.lstore X4.here hx rfl (hb hby at_80) rfl (l' := #[.val (.long p1), .second, .val (.long p2), .second, .val (.long p3), .second, .val (.int p4), .val (.int (own_n p4)), .val (.long (own_sr p1)), .second, .val (.long (own_sr p2)), .second, .val (.long (own_sr p3)), .second, .val (.ref a), .val (.long (((0 : Int64) + (own_maxJ (0 : Int64) (own_sr p1))) + (own_maxJ (0 : Int64) (own_sr p2)))), .second, .unset, .unset]) rfl k) ?_
  show own_Goes p e below (own_End s below _ _) (T4.setTop (mkF m 82 #[.val (.long p1), .second, .val (.long p2), .second, .val (.long p3), .second, .val (.int p4), .val (.int (own_n p4)), .val (.long (own_sr p1)), .second, .val (.long (own_sr p2)), .second, .val (.long (own_sr p3)), .second, .val (.ref a), .val (.long (((0 : Int64) + (own_maxJ (0 : Int64) (own_sr p1))) + (own_maxJ (0 : Int64) (own_sr p2)))), .second, .unset, .unset] []))
  refine own_go (fun _ k => XS.iload X4.here hx rfl (hb hby at_82) rfl k) ?_
  show own_Goes p e below (own_End s below _ _) (T4.setTop (mkF m 84 #[.val (.long p1), .second, .val (.long p2), .second, .val (.long p3), .second, .val (.int p4), .val (.int (own_n p4)), .val (.long (own_sr p1)), .second, .val (.long (own_sr p2)), .second, .val (.long (own_sr p3)), .second, .val (.ref a), .val (.long (((0 : Int64) + (own_maxJ (0 : Int64) (own_sr p1))) + (own_maxJ (0 : Int64) (own_sr p2)))), .second, .unset, .unset] [(.int (own_n p4))]))
  refine own_go (fun _ k => XS.iconst X4.here hx rfl (hb hby at_84) k) ?_
  show own_Goes p e below (own_End s below _ _) (T4.setTop (mkF m 85 #[.val (.long p1), .second, .val (.long p2), .second, .val (.long p3), .second, .val (.int p4), .val (.int (own_n p4)), .val (.long (own_sr p1)), .second, .val (.long (own_sr p2)), .second, .val (.long (own_sr p3)), .second, .val (.ref a), .val (.long (((0 : Int64) + (own_maxJ (0 : Int64) (own_sr p1))) + (own_maxJ (0 : Int64) (own_sr p2)))), .second, .unset, .unset] [(.int (3 : Int32)), (.int (own_n p4))]))
  refine own_go (fun _ k => XS.icmpYes X4.here hx rfl (pc0 := 85) (pc' := 106) rfl (hb hby at_85) rfl (tlt (by rw [hn]; decide)).1 (by decide) (by decide) k) ?_
  show own_Goes p e below (own_End s below _ _) (T4.setTop (mkF m 106 #[.val (.long p1), .second, .val (.long p2), .second, .val (.long p3), .second, .val (.int p4), .val (.int (own_n p4)), .val (.long (own_sr p1)), .second, .val (.long (own_sr p2)), .second, .val (.long (own_sr p3)), .second, .val (.ref a), .val (.long (((0 : Int64) + (own_maxJ (0 : Int64) (own_sr p1))) + (own_maxJ (0 : Int64) (own_sr p2)))), .second, .unset, .unset] []))
  refine own_go (fun _ k => XS.iload X4.here hx rfl (hb hby at_106) rfl k) ?_
  show own_Goes p e below (own_End s below _ _) (T4.setTop (mkF m 108 #[.val (.long p1), .second, .val (.long p2), .second, .val (.long p3), .second, .val (.int p4), .val (.int (own_n p4)), .val (.long (own_sr p1)), .second, .val (.long (own_sr p2)), .second, .val (.long (own_sr p3)), .second, .val (.ref a), .val (.long (((0 : Int64) + (own_maxJ (0 : Int64) (own_sr p1))) + (own_maxJ (0 : Int64) (own_sr p2)))), .second, .unset, .unset] [(.int (own_n p4))]))
  refine own_go (fun _ k => XS.ifYes X4.here hx rfl (pc0 := 108) (pc' := 115) rfl (hb hby at_108) rfl (by rw [if0]; exact (feq (by rw [hn]; decide)).2) (by decide) (by decide) k) ?_
  show own_Goes p e below (own_End s below _ _) (T4.setTop (mkF m 115 #[.val (.long p1), .second, .val (.long p2), .second, .val (.long p3), .second, .val (.int p4), .val (.int (own_n p4)), .val (.long (own_sr p1)), .second, .val (.long (own_sr p2)), .second, .val (.long (own_sr p3)), .second, .val (.ref a), .val (.long (((0 : Int64) + (own_maxJ (0 : Int64) (own_sr p1))) + (own_maxJ (0 : Int64) (own_sr p2)))), .second, .unset, .unset] []))
  refine own_go (fun _ k => XS.lload X4.here hx rfl (hb hby at_115) rfl k) ?_
  show own_Goes p e below (own_End s below _ _) (T4.setTop (mkF m 117 #[.val (.long p1), .second, .val (.long p2), .second, .val (.long p3), .second, .val (.int p4), .val (.int (own_n p4)), .val (.long (own_sr p1)), .second, .val (.long (own_sr p2)), .second, .val (.long (own_sr p3)), .second, .val (.ref a), .val (.long (((0 : Int64) + (own_maxJ (0 : Int64) (own_sr p1))) + (own_maxJ (0 : Int64) (own_sr p2)))), .second, .unset, .unset] [(.long (((0 : Int64) + (own_maxJ (0 : Int64) (own_sr p1))) + (own_maxJ (0 : Int64) (own_sr p2))))]))
  refine own_go (fun _ k => XS.l2dS X4.here hx rfl (hb hby at_117) rfl rfl k) ?_
  show own_Goes p e below (own_End s below _ _) (T4.setTop (mkF m 118 #[.val (.long p1), .second, .val (.long p2), .second, .val (.long p3), .second, .val (.int p4), .val (.int (own_n p4)), .val (.long (own_sr p1)), .second, .val (.long (own_sr p2)), .second, .val (.long (own_sr p3)), .second, .val (.ref a), .val (.long (((0 : Int64) + (own_maxJ (0 : Int64) (own_sr p1))) + (own_maxJ (0 : Int64) (own_sr p2)))), .second, .unset, .unset] [(.double (FP.l2d (((0 : Int64) + (own_maxJ (0 : Int64) (own_sr p1))) + (own_maxJ (0 : Int64) (own_sr p2)))))]))
  refine own_go (fun _ k => XS.iload X4.here hx rfl (hb hby at_118) rfl k) ?_
  show own_Goes p e below (own_End s below _ _) (T4.setTop (mkF m 120 #[.val (.long p1), .second, .val (.long p2), .second, .val (.long p3), .second, .val (.int p4), .val (.int (own_n p4)), .val (.long (own_sr p1)), .second, .val (.long (own_sr p2)), .second, .val (.long (own_sr p3)), .second, .val (.ref a), .val (.long (((0 : Int64) + (own_maxJ (0 : Int64) (own_sr p1))) + (own_maxJ (0 : Int64) (own_sr p2)))), .second, .unset, .unset] [(.int (own_n p4)), (.double (FP.l2d (((0 : Int64) + (own_maxJ (0 : Int64) (own_sr p1))) + (own_maxJ (0 : Int64) (own_sr p2)))))]))
  refine own_go (fun _ k => XS.i2dS X4.here hx rfl (hb hby at_120) rfl rfl k) ?_
  show own_Goes p e below (own_End s below _ _) (T4.setTop (mkF m 121 #[.val (.long p1), .second, .val (.long p2), .second, .val (.long p3), .second, .val (.int p4), .val (.int (own_n p4)), .val (.long (own_sr p1)), .second, .val (.long (own_sr p2)), .second, .val (.long (own_sr p3)), .second, .val (.ref a), .val (.long (((0 : Int64) + (own_maxJ (0 : Int64) (own_sr p1))) + (own_maxJ (0 : Int64) (own_sr p2)))), .second, .unset, .unset] [(.double (FP.i2d (own_n p4))), (.double (FP.l2d (((0 : Int64) + (own_maxJ (0 : Int64) (own_sr p1))) + (own_maxJ (0 : Int64) (own_sr p2)))))]))
  refine own_go (fun _ k => XS.ddivS X4.here hx rfl (hb hby at_121) rfl (own_exp_nn _ (by rw [hn]; decide : (((0 : Int64) + 1) + 1) = (own_n p4).toInt64) (by decide : (((0 : Int64) + 1) + 1) ≠ 0)) rfl k) ?_
  show own_Goes p e below (own_End s below _ _) (T4.setTop (mkF m 122 #[.val (.long p1), .second, .val (.long p2), .second, .val (.long p3), .second, .val (.int p4), .val (.int (own_n p4)), .val (.long (own_sr p1)), .second, .val (.long (own_sr p2)), .second, .val (.long (own_sr p3)), .second, .val (.ref a), .val (.long (((0 : Int64) + (own_maxJ (0 : Int64) (own_sr p1))) + (own_maxJ (0 : Int64) (own_sr p2)))), .second, .unset, .unset] [(.double (FP.ddiv (FP.l2d (((0 : Int64) + (own_maxJ (0 : Int64) (own_sr p1))) + (own_maxJ (0 : Int64) (own_sr p2)))) (FP.i2d (own_n p4))))]))
  refine own_go (fun _ k => XS.dstore X4.here hx rfl (hb hby at_122) rfl (l' := #[.val (.long p1), .second, .val (.long p2), .second, .val (.long p3), .second, .val (.int p4), .val (.int (own_n p4)), .val (.long (own_sr p1)), .second, .val (.long (own_sr p2)), .second, .val (.long (own_sr p3)), .second, .val (.ref a), .val (.long (((0 : Int64) + (own_maxJ (0 : Int64) (own_sr p1))) + (own_maxJ (0 : Int64) (own_sr p2)))), .second, .val (.double (FP.ddiv (FP.l2d (((0 : Int64) + (own_maxJ (0 : Int64) (own_sr p1))) + (own_maxJ (0 : Int64) (own_sr p2)))) (FP.i2d (own_n p4)))), .second]) rfl k) ?_
  show own_Goes p e below (own_End s below _ _) (T4.setTop (mkF m 124 #[.val (.long p1), .second, .val (.long p2), .second, .val (.long p3), .second, .val (.int p4), .val (.int (own_n p4)), .val (.long (own_sr p1)), .second, .val (.long (own_sr p2)), .second, .val (.long (own_sr p3)), .second, .val (.ref a), .val (.long (((0 : Int64) + (own_maxJ (0 : Int64) (own_sr p1))) + (own_maxJ (0 : Int64) (own_sr p2)))), .second, .val (.double (FP.ddiv (FP.l2d (((0 : Int64) + (own_maxJ (0 : Int64) (own_sr p1))) + (own_maxJ (0 : Int64) (own_sr p2)))) (FP.i2d (own_n p4)))), .second] []))
  refine own_go (fun _ k => XS.aload X4.here hx rfl (hb hby at_124) rfl rfl k) ?_
  show own_Goes p e below (own_End s below _ _) (T4.setTop (mkF m 126 #[.val (.long p1), .second, .val (.long p2), .second, .val (.long p3), .second, .val (.int p4), .val (.int (own_n p4)), .val (.long (own_sr p1)), .second, .val (.long (own_sr p2)), .second, .val (.long (own_sr p3)), .second, .val (.ref a), .val (.long (((0 : Int64) + (own_maxJ (0 : Int64) (own_sr p1))) + (own_maxJ (0 : Int64) (own_sr p2)))), .second, .val (.double (FP.ddiv (FP.l2d (((0 : Int64) + (own_maxJ (0 : Int64) (own_sr p1))) + (own_maxJ (0 : Int64) (own_sr p2)))) (FP.i2d (own_n p4)))), .second] [(.ref a)]))
  obtain ⟨v8, T8, L8, X8, ⟨u1, u2, u3⟩, st8⟩ := own_callV X4 hx hZ (y := own_meaN) (z := own_meaN) hown (hw _ (List.mem_of_getElem? (i := 30) rfl)) (hw _ (List.mem_of_getElem? (i := 31) rfl)) (hw _ (List.mem_of_getElem? (i := 33) rfl)) (hw _ (List.mem_of_getElem? (i := 32) rfl)) (hw _ (List.mem_of_getElem? (i := 2) rfl)) (hw _ (List.mem_of_getElem? (i := 34) rfl)) (notFace_of_selects (args := #[]) (mvT hZ (hw _ (List.mem_of_getElem? (i := 33) rfl)))) (by decide) (own_mea l Z a0 hw _ a b _ _ _ H3) rfl H3.1 (W := 0) (by decide) (by decide) (g := (mkF m 126 #[.val (.long p1), .second, .val (.long p2), .second, .val (.long p3), .second, .val (.int p4), .val (.int (own_n p4)), .val (.long (own_sr p1)), .second, .val (.long (own_sr p2)), .second, .val (.long (own_sr p3)), .second, .val (.ref a), .val (.long (((0 : Int64) + (own_maxJ (0 : Int64) (own_sr p1))) + (own_maxJ (0 : Int64) (own_sr p2)))), .second, .val (.double (FP.ddiv (FP.l2d (((0 : Int64) + (own_maxJ (0 : Int64) (own_sr p1))) + (own_maxJ (0 : Int64) (own_sr p2)))) (FP.i2d (own_n p4)))), .second] [(.ref a)])) rfl (by rw [hml]; rfl) (argsL := []) (rest := []) pd_D rfl rfl (by show 2 * 0 + _ ≤ _; exact Nat.le_of_eq rfl) (hb hby at_126) rfl (by decide) (by decide)
  subst u1 u3
  rw [List.append_nil] at X8
  refine own_go st8 ?_
  show own_Goes p e below (own_End s below _ _) (T8.setTop (mkF m 129 #[.val (.long p1), .second, .val (.long p2), .second, .val (.long p3), .second, .val (.int p4), .val (.int (own_n p4)), .val (.long (own_sr p1)), .second, .val (.long (own_sr p2)), .second, .val (.long (own_sr p3)), .second, .val (.ref a), .val (.long (((0 : Int64) + (own_maxJ (0 : Int64) (own_sr p1))) + (own_maxJ (0 : Int64) (own_sr p2)))), .second, .val (.double (FP.ddiv (FP.l2d (((0 : Int64) + (own_maxJ (0 : Int64) (own_sr p1))) + (own_maxJ (0 : Int64) (own_sr p2)))) (FP.i2d (own_n p4)))), .second] [(.double (own_mean (((0 : Int64) + 1) + 1) (((0 : Int64) + (own_maxJ (0 : Int64) (own_sr p1))) + (own_maxJ (0 : Int64) (own_sr p2)))))]))
  refine own_go (fun _ k => XS.dload X8.here hx rfl (hb hby at_129) rfl k) ?_
  show own_Goes p e below (own_End s below _ _) (T8.setTop (mkF m 131 #[.val (.long p1), .second, .val (.long p2), .second, .val (.long p3), .second, .val (.int p4), .val (.int (own_n p4)), .val (.long (own_sr p1)), .second, .val (.long (own_sr p2)), .second, .val (.long (own_sr p3)), .second, .val (.ref a), .val (.long (((0 : Int64) + (own_maxJ (0 : Int64) (own_sr p1))) + (own_maxJ (0 : Int64) (own_sr p2)))), .second, .val (.double (FP.ddiv (FP.l2d (((0 : Int64) + (own_maxJ (0 : Int64) (own_sr p1))) + (own_maxJ (0 : Int64) (own_sr p2)))) (FP.i2d (own_n p4)))), .second] [(.double (FP.ddiv (FP.l2d (((0 : Int64) + (own_maxJ (0 : Int64) (own_sr p1))) + (own_maxJ (0 : Int64) (own_sr p2)))) (FP.i2d (own_n p4)))), (.double (own_mean (((0 : Int64) + 1) + 1) (((0 : Int64) + (own_maxJ (0 : Int64) (own_sr p1))) + (own_maxJ (0 : Int64) (own_sr p2)))))]))
  refine own_go (fun _ k => XS.dcmpS X8.here hx rfl (hb hby at_131) rfl (dcmpV_eq (own_mean_eq _ (by rw [hn]; decide : (((0 : Int64) + 1) + 1) = (own_n p4).toInt64) (by decide : (((0 : Int64) + 1) + 1) ≠ 0)) (by rw [own_mean_eq _ (by rw [hn]; decide : (((0 : Int64) + 1) + 1) = (own_n p4).toInt64) (by decide : (((0 : Int64) + 1) + 1) ≠ 0)]; exact own_exp_nn _ (by rw [hn]; decide : (((0 : Int64) + 1) + 1) = (own_n p4).toInt64) (by decide : (((0 : Int64) + 1) + 1) ≠ 0)) .l) k) ?_
  show own_Goes p e below (own_End s below _ _) (T8.setTop (mkF m 132 #[.val (.long p1), .second, .val (.long p2), .second, .val (.long p3), .second, .val (.int p4), .val (.int (own_n p4)), .val (.long (own_sr p1)), .second, .val (.long (own_sr p2)), .second, .val (.long (own_sr p3)), .second, .val (.ref a), .val (.long (((0 : Int64) + (own_maxJ (0 : Int64) (own_sr p1))) + (own_maxJ (0 : Int64) (own_sr p2)))), .second, .val (.double (FP.ddiv (FP.l2d (((0 : Int64) + (own_maxJ (0 : Int64) (own_sr p1))) + (own_maxJ (0 : Int64) (own_sr p2)))) (FP.i2d (own_n p4)))), .second] [(.int (0 : Int32))]))
  refine own_go (fun _ k => XS.ifNo X8.here hx rfl (hb hby at_132) rfl (by decide) k) ?_
  show own_Goes p e below (own_End s below _ _) (T8.setTop (mkF m 135 #[.val (.long p1), .second, .val (.long p2), .second, .val (.long p3), .second, .val (.int p4), .val (.int (own_n p4)), .val (.long (own_sr p1)), .second, .val (.long (own_sr p2)), .second, .val (.long (own_sr p3)), .second, .val (.ref a), .val (.long (((0 : Int64) + (own_maxJ (0 : Int64) (own_sr p1))) + (own_maxJ (0 : Int64) (own_sr p2)))), .second, .val (.double (FP.ddiv (FP.l2d (((0 : Int64) + (own_maxJ (0 : Int64) (own_sr p1))) + (own_maxJ (0 : Int64) (own_sr p2)))) (FP.i2d (own_n p4)))), .second] []))
  refine own_go (fun _ k => XS.iconst X8.here hx rfl (hb hby at_135) k) ?_
  show own_Goes p e below (own_End s below _ _) (T8.setTop (mkF m 136 #[.val (.long p1), .second, .val (.long p2), .second, .val (.long p3), .second, .val (.int p4), .val (.int (own_n p4)), .val (.long (own_sr p1)), .second, .val (.long (own_sr p2)), .second, .val (.long (own_sr p3)), .second, .val (.ref a), .val (.long (((0 : Int64) + (own_maxJ (0 : Int64) (own_sr p1))) + (own_maxJ (0 : Int64) (own_sr p2)))), .second, .val (.double (FP.ddiv (FP.l2d (((0 : Int64) + (own_maxJ (0 : Int64) (own_sr p1))) + (own_maxJ (0 : Int64) (own_sr p2)))) (FP.i2d (own_n p4)))), .second] [(.int (1 : Int32))]))
  refine own_go (fun _ k => XS.goto X8.here hx rfl (pc0 := 136) (pc' := 140) rfl (hb hby at_136) (by decide) (by decide) k) ?_
  show own_Goes p e below (own_End s below _ _) (T8.setTop (mkF m 140 #[.val (.long p1), .second, .val (.long p2), .second, .val (.long p3), .second, .val (.int p4), .val (.int (own_n p4)), .val (.long (own_sr p1)), .second, .val (.long (own_sr p2)), .second, .val (.long (own_sr p3)), .second, .val (.ref a), .val (.long (((0 : Int64) + (own_maxJ (0 : Int64) (own_sr p1))) + (own_maxJ (0 : Int64) (own_sr p2)))), .second, .val (.double (FP.ddiv (FP.l2d (((0 : Int64) + (own_maxJ (0 : Int64) (own_sr p1))) + (own_maxJ (0 : Int64) (own_sr p2)))) (FP.i2d (own_n p4)))), .second] [(.int (1 : Int32))]))
  exact own_retZ X8 hx Bd.notSynchronized Bd.returns rfl (hb hby at_140) ⟨rfl, N3⟩ (by decide) (by decide)
set_option maxRecDepth 65536 in
set_option maxHeartbeats 40000000 in
theorem own_path3 (l : Launch) (Z : State) (a0 : Array Value) (hw : ∀ d ∈ tables_1, d.before a0 Z = true) (ws : List Jvm.Cond) (p1 p2 p3 : Int64) (p4 : Int32) (n0 : Nat) (p : Program) (e : Env) (s : State) (m : MethodId) (below : List Frame) (meth : Method) (c : Code) (s₁ : State) (Bd : BodyLoose p l x (head1 (Jvm.Cond.code x code maxLocals ret :: ws) room_1) code maxLocals ret e s m #[(.long p1), (.long p2), (.long p3), (.int p4)] below meth c s₁) (hml : c.maxLocals = maxLocals) (hZ : Z.Warmed39 s.vm) (T : State) (locs : List Loc) (X : Stand p l e room_1 s m #[(.long p1), (.long p2), (.long p3), (.int p4)] below meth c T locs 2 14339) (N : Fr n0 locs) (hn : own_n p4 = 3) (a b : Addr) (ga : n0 ≤ a) (gb : n0 ≤ b) (f : Nat → Int64) (H : own_H Z T.heap a b f 0 0) :
    own_Goes p e below (own_End s below room_1 (own_Q n0)) (T.setTop (mkF m 34 #[.val (.long p1), .second, .val (.long p2), .second, .val (.long p3), .second, .val (.int p4), .val (.int (own_n p4)), .val (.long (own_sr p1)), .second, .val (.long (own_sr p2)), .second, .val (.long (own_sr p3)), .second, .val (.ref a), .val (.long (0 : Int64)), .second, .unset, .unset] [])) := by
  have hx := Bd.exec
  have hby := Bd.bytes
  have hown : s.vm.findClass "com/example/holdfast/holdfast/cli/LatencyHistogramMeanPinLaw" = some m.cls := findClass_of_methodNamed Bd.named
  show own_Goes p e below (own_End s below _ _) (T.setTop (mkF m 34 #[.val (.long p1), .second, .val (.long p2), .second, .val (.long p3), .second, .val (.int p4), .val (.int (own_n p4)), .val (.long (own_sr p1)), .second, .val (.long (own_sr p2)), .second, .val (.long (own_sr p3)), .second, .val (.ref a), .val (.long (0 : Int64)), .second, .unset, .unset] []))
  refine own_go (fun _ k => XS.iload X.here hx rfl (hb hby at_34) rfl k) ?_
  show own_Goes p e below (own_End s below _ _) (T.setTop (mkF m 36 #[.val (.long p1), .second, .val (.long p2), .second, .val (.long p3), .second, .val (.int p4), .val (.int (own_n p4)), .val (.long (own_sr p1)), .second, .val (.long (own_sr p2)), .second, .val (.long (own_sr p3)), .second, .val (.ref a), .val (.long (0 : Int64)), .second, .unset, .unset] [(.int (own_n p4))]))
  refine own_go (fun _ k => XS.iconst X.here hx rfl (hb hby at_36) k) ?_
  show own_Goes p e below (own_End s below _ _) (T.setTop (mkF m 37 #[.val (.long p1), .second, .val (.long p2), .second, .val (.long p3), .second, .val (.int p4), .val (.int (own_n p4)), .val (.long (own_sr p1)), .second, .val (.long (own_sr p2)), .second, .val (.long (own_sr p3)), .second, .val (.ref a), .val (.long (0 : Int64)), .second, .unset, .unset] [(.int (1 : Int32)), (.int (own_n p4))]))
  refine own_go (fun _ k => XS.icmpNo X.here hx rfl (hb hby at_37) rfl (flt (by rw [hn]; decide)).1 k) ?_
  show own_Goes p e below (own_End s below _ _) (T.setTop (mkF m 40 #[.val (.long p1), .second, .val (.long p2), .second, .val (.long p3), .second, .val (.int p4), .val (.int (own_n p4)), .val (.long (own_sr p1)), .second, .val (.long (own_sr p2)), .second, .val (.long (own_sr p3)), .second, .val (.ref a), .val (.long (0 : Int64)), .second, .unset, .unset] []))
  refine own_go (fun _ k => XS.aload X.here hx rfl (hb hby at_40) rfl rfl k) ?_
  show own_Goes p e below (own_End s below _ _) (T.setTop (mkF m 42 #[.val (.long p1), .second, .val (.long p2), .second, .val (.long p3), .second, .val (.int p4), .val (.int (own_n p4)), .val (.long (own_sr p1)), .second, .val (.long (own_sr p2)), .second, .val (.long (own_sr p3)), .second, .val (.ref a), .val (.long (0 : Int64)), .second, .unset, .unset] [(.ref a)]))
  refine own_go (fun _ k => XS.lload X.here hx rfl (hb hby at_42) rfl k) ?_
  show own_Goes p e below (own_End s below _ _) (T.setTop (mkF m 44 #[.val (.long p1), .second, .val (.long p2), .second, .val (.long p3), .second, .val (.int p4), .val (.int (own_n p4)), .val (.long (own_sr p1)), .second, .val (.long (own_sr p2)), .second, .val (.long (own_sr p3)), .second, .val (.ref a), .val (.long (0 : Int64)), .second, .unset, .unset] [(.long (own_sr p1)), (.ref a)]))
  obtain ⟨v1, T1, L1, X1, ⟨u1, M1, K1, k1, b1, H1⟩, st1⟩ := own_callV X hx hZ (y := own_recN) (z := own_recN) hown (hw _ (List.mem_of_getElem? (i := 12) rfl)) (hw _ (List.mem_of_getElem? (i := 13) rfl)) (hw _ (List.mem_of_getElem? (i := 15) rfl)) (hw _ (List.mem_of_getElem? (i := 14) rfl)) (hw _ (List.mem_of_getElem? (i := 2) rfl)) (hw _ (List.mem_of_getElem? (i := 16) rfl)) (notFace_of_selects (args := #[]) (mvT hZ (hw _ (List.mem_of_getElem? (i := 15) rfl)))) (by decide) (own_rec l Z a0 hw _ n0 a b _ _ _ (own_sr p1) ga gb H) rfl H.1 (W := 0) (by decide) (by decide) (g := (mkF m 44 #[.val (.long p1), .second, .val (.long p2), .second, .val (.long p3), .second, .val (.int p4), .val (.int (own_n p4)), .val (.long (own_sr p1)), .second, .val (.long (own_sr p2)), .second, .val (.long (own_sr p3)), .second, .val (.ref a), .val (.long (0 : Int64)), .second, .unset, .unset] [(.long (own_sr p1)), (.ref a)])) rfl (by rw [hml]; rfl) (argsL := [(.long (own_sr p1))]) (rest := []) pd_JV rfl rfl (by show 2 * 0 + _ ≤ _; exact Nat.le_of_eq rfl) (hb hby at_44) rfl (by decide) (by decide)
  subst u1
  have N1 := Fr.app N M1
  refine own_go st1 ?_
  show own_Goes p e below (own_End s below _ _) (T1.setTop (mkF m 47 #[.val (.long p1), .second, .val (.long p2), .second, .val (.long p3), .second, .val (.int p4), .val (.int (own_n p4)), .val (.long (own_sr p1)), .second, .val (.long (own_sr p2)), .second, .val (.long (own_sr p3)), .second, .val (.ref a), .val (.long (0 : Int64)), .second, .unset, .unset] []))
  refine own_go (fun _ k => XS.lload X1.here hx rfl (hb hby at_47) rfl k) ?_
  show own_Goes p e below (own_End s below _ _) (T1.setTop (mkF m 49 #[.val (.long p1), .second, .val (.long p2), .second, .val (.long p3), .second, .val (.int p4), .val (.int (own_n p4)), .val (.long (own_sr p1)), .second, .val (.long (own_sr p2)), .second, .val (.long (own_sr p3)), .second, .val (.ref a), .val (.long (0 : Int64)), .second, .unset, .unset] [(.long (0 : Int64))]))
  refine own_go (fun _ k => XS.lconst X1.here hx rfl (hb hby at_49) k) ?_
  show own_Goes p e below (own_End s below _ _) (T1.setTop (mkF m 50 #[.val (.long p1), .second, .val (.long p2), .second, .val (.long p3), .second, .val (.int p4), .val (.int (own_n p4)), .val (.long (own_sr p1)), .second, .val (.long (own_sr p2)), .second, .val (.long (own_sr p3)), .second, .val (.ref a), .val (.long (0 : Int64)), .second, .unset, .unset] [(.long (0 : Int64)), (.long (0 : Int64))]))
  refine own_go (fun _ k => XS.lload X1.here hx rfl (hb hby at_50) rfl k) ?_
  show own_Goes p e below (own_End s below _ _) (T1.setTop (mkF m 52 #[.val (.long p1), .second, .val (.long p2), .second, .val (.long p3), .second, .val (.int p4), .val (.int (own_n p4)), .val (.long (own_sr p1)), .second, .val (.long (own_sr p2)), .second, .val (.long (own_sr p3)), .second, .val (.ref a), .val (.long (0 : Int64)), .second, .unset, .unset] [(.long (own_sr p1)), (.long (0 : Int64)), (.long (0 : Int64))]))
  obtain ⟨T2, X2, e2, st2⟩ := own_callP X1 hx hZ (y := own_maxN) hown (hw _ (List.mem_of_getElem? (i := 29) rfl)) (hw _ (List.mem_of_getElem? (i := 18) rfl)) (hw _ (List.mem_of_getElem? (i := 19) rfl)) (hw _ (List.mem_of_getElem? (i := 20) rfl)) (by decide) (own_max l Z a0 hw _ 0 (own_sr p1)) rfl (W := 2) (by decide) (by decide) (g := (mkF m 52 #[.val (.long p1), .second, .val (.long p2), .second, .val (.long p3), .second, .val (.int p4), .val (.int (own_n p4)), .val (.long (own_sr p1)), .second, .val (.long (own_sr p2)), .second, .val (.long (own_sr p3)), .second, .val (.ref a), .val (.long (0 : Int64)), .second, .unset, .unset] [(.long (own_sr p1)), (.long (0 : Int64)), (.long (0 : Int64))])) rfl (by rw [hml]; rfl) (argsL := [(.long (0 : Int64)), (.long (own_sr p1))]) (rest := [(.long (0 : Int64))]) pd_JJJ rfl rfl (by show 2 * 0 + _ ≤ _; exact Nat.le_of_eq rfl) (hb hby at_52) rfl (by decide) (by decide)
  rw [← e2] at H1
  refine own_go st2 ?_
  show own_Goes p e below (own_End s below _ _) (T2.setTop (mkF m 55 #[.val (.long p1), .second, .val (.long p2), .second, .val (.long p3), .second, .val (.int p4), .val (.int (own_n p4)), .val (.long (own_sr p1)), .second, .val (.long (own_sr p2)), .second, .val (.long (own_sr p3)), .second, .val (.ref a), .val (.long (0 : Int64)), .second, .unset, .unset] [(.long (own_maxJ (0 : Int64) (own_sr p1))), (.long (0 : Int64))]))
  refine own_go (fun _ k => XS.ladd X2.here hx rfl (hb hby at_55) rfl k) ?_
  show own_Goes p e below (own_End s below _ _) (T2.setTop (mkF m 56 #[.val (.long p1), .second, .val (.long p2), .second, .val (.long p3), .second, .val (.int p4), .val (.int (own_n p4)), .val (.long (own_sr p1)), .second, .val (.long (own_sr p2)), .second, .val (.long (own_sr p3)), .second, .val (.ref a), .val (.long (0 : Int64)), .second, .unset, .unset] [(.long ((0 : Int64) + (own_maxJ (0 : Int64) (own_sr p1))))]))
  refine own_go (fun _ k => XS.lstore X2.here hx rfl (hb hby at_56) rfl (l' := #[.val (.long p1), .second, .val (.long p2), .second, .val (.long p3), .second, .val (.int p4), .val (.int (own_n p4)), .val (.long (own_sr p1)), .second, .val (.long (own_sr p2)), .second, .val (.long (own_sr p3)), .second, .val (.ref a), .val (.long ((0 : Int64) + (own_maxJ (0 : Int64) (own_sr p1)))), .second, .unset, .unset]) rfl k) ?_
  show own_Goes p e below (own_End s below _ _) (T2.setTop (mkF m 58 #[.val (.long p1), .second, .val (.long p2), .second, .val (.long p3), .second, .val (.int p4), .val (.int (own_n p4)), .val (.long (own_sr p1)), .second, .val (.long (own_sr p2)), .second, .val (.long (own_sr p3)), .second, .val (.ref a), .val (.long ((0 : Int64) + (own_maxJ (0 : Int64) (own_sr p1)))), .second, .unset, .unset] []))
  refine own_go (fun _ k => XS.iload X2.here hx rfl (hb hby at_58) rfl k) ?_
  show own_Goes p e below (own_End s below _ _) (T2.setTop (mkF m 60 #[.val (.long p1), .second, .val (.long p2), .second, .val (.long p3), .second, .val (.int p4), .val (.int (own_n p4)), .val (.long (own_sr p1)), .second, .val (.long (own_sr p2)), .second, .val (.long (own_sr p3)), .second, .val (.ref a), .val (.long ((0 : Int64) + (own_maxJ (0 : Int64) (own_sr p1)))), .second, .unset, .unset] [(.int (own_n p4))]))
  refine own_go (fun _ k => XS.iconst X2.here hx rfl (hb hby at_60) k) ?_
  show own_Goes p e below (own_End s below _ _) (T2.setTop (mkF m 61 #[.val (.long p1), .second, .val (.long p2), .second, .val (.long p3), .second, .val (.int p4), .val (.int (own_n p4)), .val (.long (own_sr p1)), .second, .val (.long (own_sr p2)), .second, .val (.long (own_sr p3)), .second, .val (.ref a), .val (.long ((0 : Int64) + (own_maxJ (0 : Int64) (own_sr p1)))), .second, .unset, .unset] [(.int (2 : Int32)), (.int (own_n p4))]))
  refine own_go (fun _ k => XS.icmpNo X2.here hx rfl (hb hby at_61) rfl (flt (by rw [hn]; decide)).1 k) ?_
  show own_Goes p e below (own_End s below _ _) (T2.setTop (mkF m 64 #[.val (.long p1), .second, .val (.long p2), .second, .val (.long p3), .second, .val (.int p4), .val (.int (own_n p4)), .val (.long (own_sr p1)), .second, .val (.long (own_sr p2)), .second, .val (.long (own_sr p3)), .second, .val (.ref a), .val (.long ((0 : Int64) + (own_maxJ (0 : Int64) (own_sr p1)))), .second, .unset, .unset] []))
  refine own_go (fun _ k => XS.aload X2.here hx rfl (hb hby at_64) rfl rfl k) ?_
  show own_Goes p e below (own_End s below _ _) (T2.setTop (mkF m 66 #[.val (.long p1), .second, .val (.long p2), .second, .val (.long p3), .second, .val (.int p4), .val (.int (own_n p4)), .val (.long (own_sr p1)), .second, .val (.long (own_sr p2)), .second, .val (.long (own_sr p3)), .second, .val (.ref a), .val (.long ((0 : Int64) + (own_maxJ (0 : Int64) (own_sr p1)))), .second, .unset, .unset] [(.ref a)]))
  refine own_go (fun _ k => XS.lload X2.here hx rfl (hb hby at_66) rfl k) ?_
  show own_Goes p e below (own_End s below _ _) (T2.setTop (mkF m 68 #[.val (.long p1), .second, .val (.long p2), .second, .val (.long p3), .second, .val (.int p4), .val (.int (own_n p4)), .val (.long (own_sr p1)), .second, .val (.long (own_sr p2)), .second, .val (.long (own_sr p3)), .second, .val (.ref a), .val (.long ((0 : Int64) + (own_maxJ (0 : Int64) (own_sr p1)))), .second, .unset, .unset] [(.long (own_sr p2)), (.ref a)]))
  obtain ⟨v3, T3, L3, X3, ⟨u3, M3, K3, k3, b3, H3⟩, st3⟩ := own_callV X2 hx hZ (y := own_recN) (z := own_recN) hown (hw _ (List.mem_of_getElem? (i := 12) rfl)) (hw _ (List.mem_of_getElem? (i := 13) rfl)) (hw _ (List.mem_of_getElem? (i := 15) rfl)) (hw _ (List.mem_of_getElem? (i := 14) rfl)) (hw _ (List.mem_of_getElem? (i := 2) rfl)) (hw _ (List.mem_of_getElem? (i := 16) rfl)) (notFace_of_selects (args := #[]) (mvT hZ (hw _ (List.mem_of_getElem? (i := 15) rfl)))) (by decide) (own_rec l Z a0 hw _ n0 a b _ _ _ (own_sr p2) ga gb H1) rfl H1.1 (W := 0) (by decide) (by decide) (g := (mkF m 68 #[.val (.long p1), .second, .val (.long p2), .second, .val (.long p3), .second, .val (.int p4), .val (.int (own_n p4)), .val (.long (own_sr p1)), .second, .val (.long (own_sr p2)), .second, .val (.long (own_sr p3)), .second, .val (.ref a), .val (.long ((0 : Int64) + (own_maxJ (0 : Int64) (own_sr p1)))), .second, .unset, .unset] [(.long (own_sr p2)), (.ref a)])) rfl (by rw [hml]; rfl) (argsL := [(.long (own_sr p2))]) (rest := []) pd_JV rfl rfl (by show 2 * 0 + _ ≤ _; exact Nat.le_of_eq rfl) (hb hby at_68) rfl (by decide) (by decide)
  subst u3
  have N3 := Fr.app N1 M3
  refine own_go st3 ?_
  show own_Goes p e below (own_End s below _ _) (T3.setTop (mkF m 71 #[.val (.long p1), .second, .val (.long p2), .second, .val (.long p3), .second, .val (.int p4), .val (.int (own_n p4)), .val (.long (own_sr p1)), .second, .val (.long (own_sr p2)), .second, .val (.long (own_sr p3)), .second, .val (.ref a), .val (.long ((0 : Int64) + (own_maxJ (0 : Int64) (own_sr p1)))), .second, .unset, .unset] []))
  refine own_go (fun _ k => XS.lload X3.here hx rfl (hb hby at_71) rfl k) ?_
  show own_Goes p e below (own_End s below _ _) (T3.setTop (mkF m 73 #[.val (.long p1), .second, .val (.long p2), .second, .val (.long p3), .second, .val (.int p4), .val (.int (own_n p4)), .val (.long (own_sr p1)), .second, .val (.long (own_sr p2)), .second, .val (.long (own_sr p3)), .second, .val (.ref a), .val (.long ((0 : Int64) + (own_maxJ (0 : Int64) (own_sr p1)))), .second, .unset, .unset] [(.long ((0 : Int64) + (own_maxJ (0 : Int64) (own_sr p1))))]))
  refine own_go (fun _ k => XS.lconst X3.here hx rfl (hb hby at_73) k) ?_
  show own_Goes p e below (own_End s below _ _) (T3.setTop (mkF m 74 #[.val (.long p1), .second, .val (.long p2), .second, .val (.long p3), .second, .val (.int p4), .val (.int (own_n p4)), .val (.long (own_sr p1)), .second, .val (.long (own_sr p2)), .second, .val (.long (own_sr p3)), .second, .val (.ref a), .val (.long ((0 : Int64) + (own_maxJ (0 : Int64) (own_sr p1)))), .second, .unset, .unset] [(.long (0 : Int64)), (.long ((0 : Int64) + (own_maxJ (0 : Int64) (own_sr p1))))]))
  refine own_go (fun _ k => XS.lload X3.here hx rfl (hb hby at_74) rfl k) ?_
  show own_Goes p e below (own_End s below _ _) (T3.setTop (mkF m 76 #[.val (.long p1), .second, .val (.long p2), .second, .val (.long p3), .second, .val (.int p4), .val (.int (own_n p4)), .val (.long (own_sr p1)), .second, .val (.long (own_sr p2)), .second, .val (.long (own_sr p3)), .second, .val (.ref a), .val (.long ((0 : Int64) + (own_maxJ (0 : Int64) (own_sr p1)))), .second, .unset, .unset] [(.long (own_sr p2)), (.long (0 : Int64)), (.long ((0 : Int64) + (own_maxJ (0 : Int64) (own_sr p1))))]))
  obtain ⟨T4, X4, e4, st4⟩ := own_callP X3 hx hZ (y := own_maxN) hown (hw _ (List.mem_of_getElem? (i := 29) rfl)) (hw _ (List.mem_of_getElem? (i := 18) rfl)) (hw _ (List.mem_of_getElem? (i := 19) rfl)) (hw _ (List.mem_of_getElem? (i := 20) rfl)) (by decide) (own_max l Z a0 hw _ 0 (own_sr p2)) rfl (W := 2) (by decide) (by decide) (g := (mkF m 76 #[.val (.long p1), .second, .val (.long p2), .second, .val (.long p3), .second, .val (.int p4), .val (.int (own_n p4)), .val (.long (own_sr p1)), .second, .val (.long (own_sr p2)), .second, .val (.long (own_sr p3)), .second, .val (.ref a), .val (.long ((0 : Int64) + (own_maxJ (0 : Int64) (own_sr p1)))), .second, .unset, .unset] [(.long (own_sr p2)), (.long (0 : Int64)), (.long ((0 : Int64) + (own_maxJ (0 : Int64) (own_sr p1))))])) rfl (by rw [hml]; rfl) (argsL := [(.long (0 : Int64)), (.long (own_sr p2))]) (rest := [(.long ((0 : Int64) + (own_maxJ (0 : Int64) (own_sr p1))))]) pd_JJJ rfl rfl (by show 2 * 0 + _ ≤ _; exact Nat.le_of_eq rfl) (hb hby at_76) rfl (by decide) (by decide)
  rw [← e4] at H3
  refine own_go st4 ?_
  show own_Goes p e below (own_End s below _ _) (T4.setTop (mkF m 79 #[.val (.long p1), .second, .val (.long p2), .second, .val (.long p3), .second, .val (.int p4), .val (.int (own_n p4)), .val (.long (own_sr p1)), .second, .val (.long (own_sr p2)), .second, .val (.long (own_sr p3)), .second, .val (.ref a), .val (.long ((0 : Int64) + (own_maxJ (0 : Int64) (own_sr p1)))), .second, .unset, .unset] [(.long (own_maxJ (0 : Int64) (own_sr p2))), (.long ((0 : Int64) + (own_maxJ (0 : Int64) (own_sr p1))))]))
  refine own_go (fun _ k => XS.ladd X4.here hx rfl (hb hby at_79) rfl k) ?_
  show own_Goes p e below (own_End s below _ _) (T4.setTop (mkF m 80 #[.val (.long p1), .second, .val (.long p2), .second, .val (.long p3), .second, .val (.int p4), .val (.int (own_n p4)), .val (.long (own_sr p1)), .second, .val (.long (own_sr p2)), .second, .val (.long (own_sr p3)), .second, .val (.ref a), .val (.long ((0 : Int64) + (own_maxJ (0 : Int64) (own_sr p1)))), .second, .unset, .unset] [(.long (((0 : Int64) + (own_maxJ (0 : Int64) (own_sr p1))) + (own_maxJ (0 : Int64) (own_sr p2))))]))
  refine own_go (fun _ k => XS.lstore X4.here hx rfl (hb hby at_80) rfl (l' := #[.val (.long p1), .second, .val (.long p2), .second, .val (.long p3), .second, .val (.int p4), .val (.int (own_n p4)), .val (.long (own_sr p1)), .second, .val (.long (own_sr p2)), .second, .val (.long (own_sr p3)), .second, .val (.ref a), .val (.long (((0 : Int64) + (own_maxJ (0 : Int64) (own_sr p1))) + (own_maxJ (0 : Int64) (own_sr p2)))), .second, .unset, .unset]) rfl k) ?_
  show own_Goes p e below (own_End s below _ _) (T4.setTop (mkF m 82 #[.val (.long p1), .second, .val (.long p2), .second, .val (.long p3), .second, .val (.int p4), .val (.int (own_n p4)), .val (.long (own_sr p1)), .second, .val (.long (own_sr p2)), .second, .val (.long (own_sr p3)), .second, .val (.ref a), .val (.long (((0 : Int64) + (own_maxJ (0 : Int64) (own_sr p1))) + (own_maxJ (0 : Int64) (own_sr p2)))), .second, .unset, .unset] []))
  refine own_go (fun _ k => XS.iload X4.here hx rfl (hb hby at_82) rfl k) ?_
  show own_Goes p e below (own_End s below _ _) (T4.setTop (mkF m 84 #[.val (.long p1), .second, .val (.long p2), .second, .val (.long p3), .second, .val (.int p4), .val (.int (own_n p4)), .val (.long (own_sr p1)), .second, .val (.long (own_sr p2)), .second, .val (.long (own_sr p3)), .second, .val (.ref a), .val (.long (((0 : Int64) + (own_maxJ (0 : Int64) (own_sr p1))) + (own_maxJ (0 : Int64) (own_sr p2)))), .second, .unset, .unset] [(.int (own_n p4))]))
  refine own_go (fun _ k => XS.iconst X4.here hx rfl (hb hby at_84) k) ?_
  show own_Goes p e below (own_End s below _ _) (T4.setTop (mkF m 85 #[.val (.long p1), .second, .val (.long p2), .second, .val (.long p3), .second, .val (.int p4), .val (.int (own_n p4)), .val (.long (own_sr p1)), .second, .val (.long (own_sr p2)), .second, .val (.long (own_sr p3)), .second, .val (.ref a), .val (.long (((0 : Int64) + (own_maxJ (0 : Int64) (own_sr p1))) + (own_maxJ (0 : Int64) (own_sr p2)))), .second, .unset, .unset] [(.int (3 : Int32)), (.int (own_n p4))]))
  refine own_go (fun _ k => XS.icmpNo X4.here hx rfl (hb hby at_85) rfl (flt (by rw [hn]; decide)).1 k) ?_
  show own_Goes p e below (own_End s below _ _) (T4.setTop (mkF m 88 #[.val (.long p1), .second, .val (.long p2), .second, .val (.long p3), .second, .val (.int p4), .val (.int (own_n p4)), .val (.long (own_sr p1)), .second, .val (.long (own_sr p2)), .second, .val (.long (own_sr p3)), .second, .val (.ref a), .val (.long (((0 : Int64) + (own_maxJ (0 : Int64) (own_sr p1))) + (own_maxJ (0 : Int64) (own_sr p2)))), .second, .unset, .unset] []))
  refine own_go (fun _ k => XS.aload X4.here hx rfl (hb hby at_88) rfl rfl k) ?_
  show own_Goes p e below (own_End s below _ _) (T4.setTop (mkF m 90 #[.val (.long p1), .second, .val (.long p2), .second, .val (.long p3), .second, .val (.int p4), .val (.int (own_n p4)), .val (.long (own_sr p1)), .second, .val (.long (own_sr p2)), .second, .val (.long (own_sr p3)), .second, .val (.ref a), .val (.long (((0 : Int64) + (own_maxJ (0 : Int64) (own_sr p1))) + (own_maxJ (0 : Int64) (own_sr p2)))), .second, .unset, .unset] [(.ref a)]))
  refine own_go (fun _ k => XS.lload X4.here hx rfl (hb hby at_90) rfl k) ?_
  show own_Goes p e below (own_End s below _ _) (T4.setTop (mkF m 92 #[.val (.long p1), .second, .val (.long p2), .second, .val (.long p3), .second, .val (.int p4), .val (.int (own_n p4)), .val (.long (own_sr p1)), .second, .val (.long (own_sr p2)), .second, .val (.long (own_sr p3)), .second, .val (.ref a), .val (.long (((0 : Int64) + (own_maxJ (0 : Int64) (own_sr p1))) + (own_maxJ (0 : Int64) (own_sr p2)))), .second, .unset, .unset] [(.long (own_sr p3)), (.ref a)]))
  obtain ⟨v5, T5, L5, X5, ⟨u5, M5, K5, k5, b5, H5⟩, st5⟩ := own_callV X4 hx hZ (y := own_recN) (z := own_recN) hown (hw _ (List.mem_of_getElem? (i := 12) rfl)) (hw _ (List.mem_of_getElem? (i := 13) rfl)) (hw _ (List.mem_of_getElem? (i := 15) rfl)) (hw _ (List.mem_of_getElem? (i := 14) rfl)) (hw _ (List.mem_of_getElem? (i := 2) rfl)) (hw _ (List.mem_of_getElem? (i := 16) rfl)) (notFace_of_selects (args := #[]) (mvT hZ (hw _ (List.mem_of_getElem? (i := 15) rfl)))) (by decide) (own_rec l Z a0 hw _ n0 a b _ _ _ (own_sr p3) ga gb H3) rfl H3.1 (W := 0) (by decide) (by decide) (g := (mkF m 92 #[.val (.long p1), .second, .val (.long p2), .second, .val (.long p3), .second, .val (.int p4), .val (.int (own_n p4)), .val (.long (own_sr p1)), .second, .val (.long (own_sr p2)), .second, .val (.long (own_sr p3)), .second, .val (.ref a), .val (.long (((0 : Int64) + (own_maxJ (0 : Int64) (own_sr p1))) + (own_maxJ (0 : Int64) (own_sr p2)))), .second, .unset, .unset] [(.long (own_sr p3)), (.ref a)])) rfl (by rw [hml]; rfl) (argsL := [(.long (own_sr p3))]) (rest := []) pd_JV rfl rfl (by show 2 * 0 + _ ≤ _; exact Nat.le_of_eq rfl) (hb hby at_92) rfl (by decide) (by decide)
  subst u5
  have N5 := Fr.app N3 M5
  refine own_go st5 ?_
  show own_Goes p e below (own_End s below _ _) (T5.setTop (mkF m 95 #[.val (.long p1), .second, .val (.long p2), .second, .val (.long p3), .second, .val (.int p4), .val (.int (own_n p4)), .val (.long (own_sr p1)), .second, .val (.long (own_sr p2)), .second, .val (.long (own_sr p3)), .second, .val (.ref a), .val (.long (((0 : Int64) + (own_maxJ (0 : Int64) (own_sr p1))) + (own_maxJ (0 : Int64) (own_sr p2)))), .second, .unset, .unset] []))
  refine own_go (fun _ k => XS.lload X5.here hx rfl (hb hby at_95) rfl k) ?_
  show own_Goes p e below (own_End s below _ _) (T5.setTop (mkF m 97 #[.val (.long p1), .second, .val (.long p2), .second, .val (.long p3), .second, .val (.int p4), .val (.int (own_n p4)), .val (.long (own_sr p1)), .second, .val (.long (own_sr p2)), .second, .val (.long (own_sr p3)), .second, .val (.ref a), .val (.long (((0 : Int64) + (own_maxJ (0 : Int64) (own_sr p1))) + (own_maxJ (0 : Int64) (own_sr p2)))), .second, .unset, .unset] [(.long (((0 : Int64) + (own_maxJ (0 : Int64) (own_sr p1))) + (own_maxJ (0 : Int64) (own_sr p2))))]))
  refine own_go (fun _ k => XS.lconst X5.here hx rfl (hb hby at_97) k) ?_
  show own_Goes p e below (own_End s below _ _) (T5.setTop (mkF m 98 #[.val (.long p1), .second, .val (.long p2), .second, .val (.long p3), .second, .val (.int p4), .val (.int (own_n p4)), .val (.long (own_sr p1)), .second, .val (.long (own_sr p2)), .second, .val (.long (own_sr p3)), .second, .val (.ref a), .val (.long (((0 : Int64) + (own_maxJ (0 : Int64) (own_sr p1))) + (own_maxJ (0 : Int64) (own_sr p2)))), .second, .unset, .unset] [(.long (0 : Int64)), (.long (((0 : Int64) + (own_maxJ (0 : Int64) (own_sr p1))) + (own_maxJ (0 : Int64) (own_sr p2))))]))
  refine own_go (fun _ k => XS.lload X5.here hx rfl (hb hby at_98) rfl k) ?_
  show own_Goes p e below (own_End s below _ _) (T5.setTop (mkF m 100 #[.val (.long p1), .second, .val (.long p2), .second, .val (.long p3), .second, .val (.int p4), .val (.int (own_n p4)), .val (.long (own_sr p1)), .second, .val (.long (own_sr p2)), .second, .val (.long (own_sr p3)), .second, .val (.ref a), .val (.long (((0 : Int64) + (own_maxJ (0 : Int64) (own_sr p1))) + (own_maxJ (0 : Int64) (own_sr p2)))), .second, .unset, .unset] [(.long (own_sr p3)), (.long (0 : Int64)), (.long (((0 : Int64) + (own_maxJ (0 : Int64) (own_sr p1))) + (own_maxJ (0 : Int64) (own_sr p2))))]))
  obtain ⟨T6, X6, e6, st6⟩ := own_callP X5 hx hZ (y := own_maxN) hown (hw _ (List.mem_of_getElem? (i := 29) rfl)) (hw _ (List.mem_of_getElem? (i := 18) rfl)) (hw _ (List.mem_of_getElem? (i := 19) rfl)) (hw _ (List.mem_of_getElem? (i := 20) rfl)) (by decide) (own_max l Z a0 hw _ 0 (own_sr p3)) rfl (W := 2) (by decide) (by decide) (g := (mkF m 100 #[.val (.long p1), .second, .val (.long p2), .second, .val (.long p3), .second, .val (.int p4), .val (.int (own_n p4)), .val (.long (own_sr p1)), .second, .val (.long (own_sr p2)), .second, .val (.long (own_sr p3)), .second, .val (.ref a), .val (.long (((0 : Int64) + (own_maxJ (0 : Int64) (own_sr p1))) + (own_maxJ (0 : Int64) (own_sr p2)))), .second, .unset, .unset] [(.long (own_sr p3)), (.long (0 : Int64)), (.long (((0 : Int64) + (own_maxJ (0 : Int64) (own_sr p1))) + (own_maxJ (0 : Int64) (own_sr p2))))])) rfl (by rw [hml]; rfl) (argsL := [(.long (0 : Int64)), (.long (own_sr p3))]) (rest := [(.long (((0 : Int64) + (own_maxJ (0 : Int64) (own_sr p1))) + (own_maxJ (0 : Int64) (own_sr p2))))]) pd_JJJ rfl rfl (by show 2 * 0 + _ ≤ _; exact Nat.le_of_eq rfl) (hb hby at_100) rfl (by decide) (by decide)
  rw [← e6] at H5
  refine own_go st6 ?_
  show own_Goes p e below (own_End s below _ _) (T6.setTop (mkF m 103 #[.val (.long p1), .second, .val (.long p2), .second, .val (.long p3), .second, .val (.int p4), .val (.int (own_n p4)), .val (.long (own_sr p1)), .second, .val (.long (own_sr p2)), .second, .val (.long (own_sr p3)), .second, .val (.ref a), .val (.long (((0 : Int64) + (own_maxJ (0 : Int64) (own_sr p1))) + (own_maxJ (0 : Int64) (own_sr p2)))), .second, .unset, .unset] [(.long (own_maxJ (0 : Int64) (own_sr p3))), (.long (((0 : Int64) + (own_maxJ (0 : Int64) (own_sr p1))) + (own_maxJ (0 : Int64) (own_sr p2))))]))
  refine own_go (fun _ k => XS.ladd X6.here hx rfl (hb hby at_103) rfl k) ?_
  show own_Goes p e below (own_End s below _ _) (T6.setTop (mkF m 104 #[.val (.long p1), .second, .val (.long p2), .second, .val (.long p3), .second, .val (.int p4), .val (.int (own_n p4)), .val (.long (own_sr p1)), .second, .val (.long (own_sr p2)), .second, .val (.long (own_sr p3)), .second, .val (.ref a), .val (.long (((0 : Int64) + (own_maxJ (0 : Int64) (own_sr p1))) + (own_maxJ (0 : Int64) (own_sr p2)))), .second, .unset, .unset] [(.long ((((0 : Int64) + (own_maxJ (0 : Int64) (own_sr p1))) + (own_maxJ (0 : Int64) (own_sr p2))) + (own_maxJ (0 : Int64) (own_sr p3))))]))
  refine own_go (fun _ k => XS.lstore X6.here hx rfl (hb hby at_104) rfl (l' := #[.val (.long p1), .second, .val (.long p2), .second, .val (.long p3), .second, .val (.int p4), .val (.int (own_n p4)), .val (.long (own_sr p1)), .second, .val (.long (own_sr p2)), .second, .val (.long (own_sr p3)), .second, .val (.ref a), .val (.long ((((0 : Int64) + (own_maxJ (0 : Int64) (own_sr p1))) + (own_maxJ (0 : Int64) (own_sr p2))) + (own_maxJ (0 : Int64) (own_sr p3)))), .second, .unset, .unset]) rfl k) ?_
  show own_Goes p e below (own_End s below _ _) (T6.setTop (mkF m 106 #[.val (.long p1), .second, .val (.long p2), .second, .val (.long p3), .second, .val (.int p4), .val (.int (own_n p4)), .val (.long (own_sr p1)), .second, .val (.long (own_sr p2)), .second, .val (.long (own_sr p3)), .second, .val (.ref a), .val (.long ((((0 : Int64) + (own_maxJ (0 : Int64) (own_sr p1))) + (own_maxJ (0 : Int64) (own_sr p2))) + (own_maxJ (0 : Int64) (own_sr p3)))), .second, .unset, .unset] []))
  refine own_go (fun _ k => XS.iload X6.here hx rfl (hb hby at_106) rfl k) ?_
  show own_Goes p e below (own_End s below _ _) (T6.setTop (mkF m 108 #[.val (.long p1), .second, .val (.long p2), .second, .val (.long p3), .second, .val (.int p4), .val (.int (own_n p4)), .val (.long (own_sr p1)), .second, .val (.long (own_sr p2)), .second, .val (.long (own_sr p3)), .second, .val (.ref a), .val (.long ((((0 : Int64) + (own_maxJ (0 : Int64) (own_sr p1))) + (own_maxJ (0 : Int64) (own_sr p2))) + (own_maxJ (0 : Int64) (own_sr p3)))), .second, .unset, .unset] [(.int (own_n p4))]))
  refine own_go (fun _ k => XS.ifYes X6.here hx rfl (pc0 := 108) (pc' := 115) rfl (hb hby at_108) rfl (by rw [if0]; exact (feq (by rw [hn]; decide)).2) (by decide) (by decide) k) ?_
  show own_Goes p e below (own_End s below _ _) (T6.setTop (mkF m 115 #[.val (.long p1), .second, .val (.long p2), .second, .val (.long p3), .second, .val (.int p4), .val (.int (own_n p4)), .val (.long (own_sr p1)), .second, .val (.long (own_sr p2)), .second, .val (.long (own_sr p3)), .second, .val (.ref a), .val (.long ((((0 : Int64) + (own_maxJ (0 : Int64) (own_sr p1))) + (own_maxJ (0 : Int64) (own_sr p2))) + (own_maxJ (0 : Int64) (own_sr p3)))), .second, .unset, .unset] []))
  refine own_go (fun _ k => XS.lload X6.here hx rfl (hb hby at_115) rfl k) ?_
  show own_Goes p e below (own_End s below _ _) (T6.setTop (mkF m 117 #[.val (.long p1), .second, .val (.long p2), .second, .val (.long p3), .second, .val (.int p4), .val (.int (own_n p4)), .val (.long (own_sr p1)), .second, .val (.long (own_sr p2)), .second, .val (.long (own_sr p3)), .second, .val (.ref a), .val (.long ((((0 : Int64) + (own_maxJ (0 : Int64) (own_sr p1))) + (own_maxJ (0 : Int64) (own_sr p2))) + (own_maxJ (0 : Int64) (own_sr p3)))), .second, .unset, .unset] [(.long ((((0 : Int64) + (own_maxJ (0 : Int64) (own_sr p1))) + (own_maxJ (0 : Int64) (own_sr p2))) + (own_maxJ (0 : Int64) (own_sr p3))))]))
  refine own_go (fun _ k => XS.l2dS X6.here hx rfl (hb hby at_117) rfl rfl k) ?_
  show own_Goes p e below (own_End s below _ _) (T6.setTop (mkF m 118 #[.val (.long p1), .second, .val (.long p2), .second, .val (.long p3), .second, .val (.int p4), .val (.int (own_n p4)), .val (.long (own_sr p1)), .second, .val (.long (own_sr p2)), .second, .val (.long (own_sr p3)), .second, .val (.ref a), .val (.long ((((0 : Int64) + (own_maxJ (0 : Int64) (own_sr p1))) + (own_maxJ (0 : Int64) (own_sr p2))) + (own_maxJ (0 : Int64) (own_sr p3)))), .second, .unset, .unset] [(.double (FP.l2d ((((0 : Int64) + (own_maxJ (0 : Int64) (own_sr p1))) + (own_maxJ (0 : Int64) (own_sr p2))) + (own_maxJ (0 : Int64) (own_sr p3)))))]))
  refine own_go (fun _ k => XS.iload X6.here hx rfl (hb hby at_118) rfl k) ?_
  show own_Goes p e below (own_End s below _ _) (T6.setTop (mkF m 120 #[.val (.long p1), .second, .val (.long p2), .second, .val (.long p3), .second, .val (.int p4), .val (.int (own_n p4)), .val (.long (own_sr p1)), .second, .val (.long (own_sr p2)), .second, .val (.long (own_sr p3)), .second, .val (.ref a), .val (.long ((((0 : Int64) + (own_maxJ (0 : Int64) (own_sr p1))) + (own_maxJ (0 : Int64) (own_sr p2))) + (own_maxJ (0 : Int64) (own_sr p3)))), .second, .unset, .unset] [(.int (own_n p4)), (.double (FP.l2d ((((0 : Int64) + (own_maxJ (0 : Int64) (own_sr p1))) + (own_maxJ (0 : Int64) (own_sr p2))) + (own_maxJ (0 : Int64) (own_sr p3)))))]))
  refine own_go (fun _ k => XS.i2dS X6.here hx rfl (hb hby at_120) rfl rfl k) ?_
  show own_Goes p e below (own_End s below _ _) (T6.setTop (mkF m 121 #[.val (.long p1), .second, .val (.long p2), .second, .val (.long p3), .second, .val (.int p4), .val (.int (own_n p4)), .val (.long (own_sr p1)), .second, .val (.long (own_sr p2)), .second, .val (.long (own_sr p3)), .second, .val (.ref a), .val (.long ((((0 : Int64) + (own_maxJ (0 : Int64) (own_sr p1))) + (own_maxJ (0 : Int64) (own_sr p2))) + (own_maxJ (0 : Int64) (own_sr p3)))), .second, .unset, .unset] [(.double (FP.i2d (own_n p4))), (.double (FP.l2d ((((0 : Int64) + (own_maxJ (0 : Int64) (own_sr p1))) + (own_maxJ (0 : Int64) (own_sr p2))) + (own_maxJ (0 : Int64) (own_sr p3)))))]))
  refine own_go (fun _ k => XS.ddivS X6.here hx rfl (hb hby at_121) rfl (own_exp_nn _ (by rw [hn]; decide : ((((0 : Int64) + 1) + 1) + 1) = (own_n p4).toInt64) (by decide : ((((0 : Int64) + 1) + 1) + 1) ≠ 0)) rfl k) ?_
  show own_Goes p e below (own_End s below _ _) (T6.setTop (mkF m 122 #[.val (.long p1), .second, .val (.long p2), .second, .val (.long p3), .second, .val (.int p4), .val (.int (own_n p4)), .val (.long (own_sr p1)), .second, .val (.long (own_sr p2)), .second, .val (.long (own_sr p3)), .second, .val (.ref a), .val (.long ((((0 : Int64) + (own_maxJ (0 : Int64) (own_sr p1))) + (own_maxJ (0 : Int64) (own_sr p2))) + (own_maxJ (0 : Int64) (own_sr p3)))), .second, .unset, .unset] [(.double (FP.ddiv (FP.l2d ((((0 : Int64) + (own_maxJ (0 : Int64) (own_sr p1))) + (own_maxJ (0 : Int64) (own_sr p2))) + (own_maxJ (0 : Int64) (own_sr p3)))) (FP.i2d (own_n p4))))]))
  refine own_go (fun _ k => XS.dstore X6.here hx rfl (hb hby at_122) rfl (l' := #[.val (.long p1), .second, .val (.long p2), .second, .val (.long p3), .second, .val (.int p4), .val (.int (own_n p4)), .val (.long (own_sr p1)), .second, .val (.long (own_sr p2)), .second, .val (.long (own_sr p3)), .second, .val (.ref a), .val (.long ((((0 : Int64) + (own_maxJ (0 : Int64) (own_sr p1))) + (own_maxJ (0 : Int64) (own_sr p2))) + (own_maxJ (0 : Int64) (own_sr p3)))), .second, .val (.double (FP.ddiv (FP.l2d ((((0 : Int64) + (own_maxJ (0 : Int64) (own_sr p1))) + (own_maxJ (0 : Int64) (own_sr p2))) + (own_maxJ (0 : Int64) (own_sr p3)))) (FP.i2d (own_n p4)))), .second]) rfl k) ?_
  show own_Goes p e below (own_End s below _ _) (T6.setTop (mkF m 124 #[.val (.long p1), .second, .val (.long p2), .second, .val (.long p3), .second, .val (.int p4), .val (.int (own_n p4)), .val (.long (own_sr p1)), .second, .val (.long (own_sr p2)), .second, .val (.long (own_sr p3)), .second, .val (.ref a), .val (.long ((((0 : Int64) + (own_maxJ (0 : Int64) (own_sr p1))) + (own_maxJ (0 : Int64) (own_sr p2))) + (own_maxJ (0 : Int64) (own_sr p3)))), .second, .val (.double (FP.ddiv (FP.l2d ((((0 : Int64) + (own_maxJ (0 : Int64) (own_sr p1))) + (own_maxJ (0 : Int64) (own_sr p2))) + (own_maxJ (0 : Int64) (own_sr p3)))) (FP.i2d (own_n p4)))), .second] []))
  refine own_go (fun _ k => XS.aload X6.here hx rfl (hb hby at_124) rfl rfl k) ?_
  show own_Goes p e below (own_End s below _ _) (T6.setTop (mkF m 126 #[.val (.long p1), .second, .val (.long p2), .second, .val (.long p3), .second, .val (.int p4), .val (.int (own_n p4)), .val (.long (own_sr p1)), .second, .val (.long (own_sr p2)), .second, .val (.long (own_sr p3)), .second, .val (.ref a), .val (.long ((((0 : Int64) + (own_maxJ (0 : Int64) (own_sr p1))) + (own_maxJ (0 : Int64) (own_sr p2))) + (own_maxJ (0 : Int64) (own_sr p3)))), .second, .val (.double (FP.ddiv (FP.l2d ((((0 : Int64) + (own_maxJ (0 : Int64) (own_sr p1))) + (own_maxJ (0 : Int64) (own_sr p2))) + (own_maxJ (0 : Int64) (own_sr p3)))) (FP.i2d (own_n p4)))), .second] [(.ref a)]))
  obtain ⟨v8, T8, L8, X8, ⟨u1, u2, u3⟩, st8⟩ := own_callV X6 hx hZ (y := own_meaN) (z := own_meaN) hown (hw _ (List.mem_of_getElem? (i := 30) rfl)) (hw _ (List.mem_of_getElem? (i := 31) rfl)) (hw _ (List.mem_of_getElem? (i := 33) rfl)) (hw _ (List.mem_of_getElem? (i := 32) rfl)) (hw _ (List.mem_of_getElem? (i := 2) rfl)) (hw _ (List.mem_of_getElem? (i := 34) rfl)) (notFace_of_selects (args := #[]) (mvT hZ (hw _ (List.mem_of_getElem? (i := 33) rfl)))) (by decide) (own_mea l Z a0 hw _ a b _ _ _ H5) rfl H5.1 (W := 0) (by decide) (by decide) (g := (mkF m 126 #[.val (.long p1), .second, .val (.long p2), .second, .val (.long p3), .second, .val (.int p4), .val (.int (own_n p4)), .val (.long (own_sr p1)), .second, .val (.long (own_sr p2)), .second, .val (.long (own_sr p3)), .second, .val (.ref a), .val (.long ((((0 : Int64) + (own_maxJ (0 : Int64) (own_sr p1))) + (own_maxJ (0 : Int64) (own_sr p2))) + (own_maxJ (0 : Int64) (own_sr p3)))), .second, .val (.double (FP.ddiv (FP.l2d ((((0 : Int64) + (own_maxJ (0 : Int64) (own_sr p1))) + (own_maxJ (0 : Int64) (own_sr p2))) + (own_maxJ (0 : Int64) (own_sr p3)))) (FP.i2d (own_n p4)))), .second] [(.ref a)])) rfl (by rw [hml]; rfl) (argsL := []) (rest := []) pd_D rfl rfl (by show 2 * 0 + _ ≤ _; exact Nat.le_of_eq rfl) (hb hby at_126) rfl (by decide) (by decide)
  subst u1 u3
  rw [List.append_nil] at X8
  refine own_go st8 ?_
  show own_Goes p e below (own_End s below _ _) (T8.setTop (mkF m 129 #[.val (.long p1), .second, .val (.long p2), .second, .val (.long p3), .second, .val (.int p4), .val (.int (own_n p4)), .val (.long (own_sr p1)), .second, .val (.long (own_sr p2)), .second, .val (.long (own_sr p3)), .second, .val (.ref a), .val (.long ((((0 : Int64) + (own_maxJ (0 : Int64) (own_sr p1))) + (own_maxJ (0 : Int64) (own_sr p2))) + (own_maxJ (0 : Int64) (own_sr p3)))), .second, .val (.double (FP.ddiv (FP.l2d ((((0 : Int64) + (own_maxJ (0 : Int64) (own_sr p1))) + (own_maxJ (0 : Int64) (own_sr p2))) + (own_maxJ (0 : Int64) (own_sr p3)))) (FP.i2d (own_n p4)))), .second] [(.double (own_mean ((((0 : Int64) + 1) + 1) + 1) ((((0 : Int64) + (own_maxJ (0 : Int64) (own_sr p1))) + (own_maxJ (0 : Int64) (own_sr p2))) + (own_maxJ (0 : Int64) (own_sr p3)))))]))
  refine own_go (fun _ k => XS.dload X8.here hx rfl (hb hby at_129) rfl k) ?_
  show own_Goes p e below (own_End s below _ _) (T8.setTop (mkF m 131 #[.val (.long p1), .second, .val (.long p2), .second, .val (.long p3), .second, .val (.int p4), .val (.int (own_n p4)), .val (.long (own_sr p1)), .second, .val (.long (own_sr p2)), .second, .val (.long (own_sr p3)), .second, .val (.ref a), .val (.long ((((0 : Int64) + (own_maxJ (0 : Int64) (own_sr p1))) + (own_maxJ (0 : Int64) (own_sr p2))) + (own_maxJ (0 : Int64) (own_sr p3)))), .second, .val (.double (FP.ddiv (FP.l2d ((((0 : Int64) + (own_maxJ (0 : Int64) (own_sr p1))) + (own_maxJ (0 : Int64) (own_sr p2))) + (own_maxJ (0 : Int64) (own_sr p3)))) (FP.i2d (own_n p4)))), .second] [(.double (FP.ddiv (FP.l2d ((((0 : Int64) + (own_maxJ (0 : Int64) (own_sr p1))) + (own_maxJ (0 : Int64) (own_sr p2))) + (own_maxJ (0 : Int64) (own_sr p3)))) (FP.i2d (own_n p4)))), (.double (own_mean ((((0 : Int64) + 1) + 1) + 1) ((((0 : Int64) + (own_maxJ (0 : Int64) (own_sr p1))) + (own_maxJ (0 : Int64) (own_sr p2))) + (own_maxJ (0 : Int64) (own_sr p3)))))]))
  refine own_go (fun _ k => XS.dcmpS X8.here hx rfl (hb hby at_131) rfl (dcmpV_eq (own_mean_eq _ (by rw [hn]; decide : ((((0 : Int64) + 1) + 1) + 1) = (own_n p4).toInt64) (by decide : ((((0 : Int64) + 1) + 1) + 1) ≠ 0)) (by rw [own_mean_eq _ (by rw [hn]; decide : ((((0 : Int64) + 1) + 1) + 1) = (own_n p4).toInt64) (by decide : ((((0 : Int64) + 1) + 1) + 1) ≠ 0)]; exact own_exp_nn _ (by rw [hn]; decide : ((((0 : Int64) + 1) + 1) + 1) = (own_n p4).toInt64) (by decide : ((((0 : Int64) + 1) + 1) + 1) ≠ 0)) .l) k) ?_
  show own_Goes p e below (own_End s below _ _) (T8.setTop (mkF m 132 #[.val (.long p1), .second, .val (.long p2), .second, .val (.long p3), .second, .val (.int p4), .val (.int (own_n p4)), .val (.long (own_sr p1)), .second, .val (.long (own_sr p2)), .second, .val (.long (own_sr p3)), .second, .val (.ref a), .val (.long ((((0 : Int64) + (own_maxJ (0 : Int64) (own_sr p1))) + (own_maxJ (0 : Int64) (own_sr p2))) + (own_maxJ (0 : Int64) (own_sr p3)))), .second, .val (.double (FP.ddiv (FP.l2d ((((0 : Int64) + (own_maxJ (0 : Int64) (own_sr p1))) + (own_maxJ (0 : Int64) (own_sr p2))) + (own_maxJ (0 : Int64) (own_sr p3)))) (FP.i2d (own_n p4)))), .second] [(.int (0 : Int32))]))
  refine own_go (fun _ k => XS.ifNo X8.here hx rfl (hb hby at_132) rfl (by decide) k) ?_
  show own_Goes p e below (own_End s below _ _) (T8.setTop (mkF m 135 #[.val (.long p1), .second, .val (.long p2), .second, .val (.long p3), .second, .val (.int p4), .val (.int (own_n p4)), .val (.long (own_sr p1)), .second, .val (.long (own_sr p2)), .second, .val (.long (own_sr p3)), .second, .val (.ref a), .val (.long ((((0 : Int64) + (own_maxJ (0 : Int64) (own_sr p1))) + (own_maxJ (0 : Int64) (own_sr p2))) + (own_maxJ (0 : Int64) (own_sr p3)))), .second, .val (.double (FP.ddiv (FP.l2d ((((0 : Int64) + (own_maxJ (0 : Int64) (own_sr p1))) + (own_maxJ (0 : Int64) (own_sr p2))) + (own_maxJ (0 : Int64) (own_sr p3)))) (FP.i2d (own_n p4)))), .second] []))
  refine own_go (fun _ k => XS.iconst X8.here hx rfl (hb hby at_135) k) ?_
  show own_Goes p e below (own_End s below _ _) (T8.setTop (mkF m 136 #[.val (.long p1), .second, .val (.long p2), .second, .val (.long p3), .second, .val (.int p4), .val (.int (own_n p4)), .val (.long (own_sr p1)), .second, .val (.long (own_sr p2)), .second, .val (.long (own_sr p3)), .second, .val (.ref a), .val (.long ((((0 : Int64) + (own_maxJ (0 : Int64) (own_sr p1))) + (own_maxJ (0 : Int64) (own_sr p2))) + (own_maxJ (0 : Int64) (own_sr p3)))), .second, .val (.double (FP.ddiv (FP.l2d ((((0 : Int64) + (own_maxJ (0 : Int64) (own_sr p1))) + (own_maxJ (0 : Int64) (own_sr p2))) + (own_maxJ (0 : Int64) (own_sr p3)))) (FP.i2d (own_n p4)))), .second] [(.int (1 : Int32))]))
  refine own_go (fun _ k => XS.goto X8.here hx rfl (pc0 := 136) (pc' := 140) rfl (hb hby at_136) (by decide) (by decide) k) ?_
  show own_Goes p e below (own_End s below _ _) (T8.setTop (mkF m 140 #[.val (.long p1), .second, .val (.long p2), .second, .val (.long p3), .second, .val (.int p4), .val (.int (own_n p4)), .val (.long (own_sr p1)), .second, .val (.long (own_sr p2)), .second, .val (.long (own_sr p3)), .second, .val (.ref a), .val (.long ((((0 : Int64) + (own_maxJ (0 : Int64) (own_sr p1))) + (own_maxJ (0 : Int64) (own_sr p2))) + (own_maxJ (0 : Int64) (own_sr p3)))), .second, .val (.double (FP.ddiv (FP.l2d ((((0 : Int64) + (own_maxJ (0 : Int64) (own_sr p1))) + (own_maxJ (0 : Int64) (own_sr p2))) + (own_maxJ (0 : Int64) (own_sr p3)))) (FP.i2d (own_n p4)))), .second] [(.int (1 : Int32))]))
  exact own_retZ X8 hx Bd.notSynchronized Bd.returns rfl (hb hby at_140) ⟨rfl, N5⟩ (by decide) (by decide)
set_option maxRecDepth 65536 in
set_option maxHeartbeats 40000000 in
theorem own_law (l : Launch) (Z : State) (a0 : Array Value) (hw : ∀ d ∈ tables_1, d.before a0 Z = true) (ws : List Jvm.Cond) (p1 p2 p3 : Int64) (p4 : Int32) (h0 : Heap) (n0 : Nat) (Z0 : n0 ≤ h0.size) :
    own_Met l Z x code maxLocals ret room_1 ws #[(.long p1), (.long p2), (.long p3), (.int p4)] h0 (own_Q n0) := by
  refine own_met (plainFor_of_name pn_0) ?_
  intro p e s m below meth c s₁ Bd hml hZ e0
  have hx := Bd.exec
  have hby := Bd.bytes
  have hown : s.vm.findClass "com/example/holdfast/holdfast/cli/LatencyHistogramMeanPinLaw" = some m.cls := findClass_of_methodNamed Bd.named
  have hnm := (name_of_methodNamed Bd.named Bd.method).1
  have X0 : Stand p l e room_1 s m #[(.long p1), (.long p2), (.long p3), (.int p4)] below meth c s₁ [] 0 0 := Stand.of_body Bd
  rw [ef_0]
  show own_Goes p e below (own_End s below _ _) (s₁.setTop (mkF m 0 #[.val (.long p1), .second, .val (.long p2), .second, .val (.long p3), .second, .val (.int p4), .unset, .unset, .unset, .unset, .unset, .unset, .unset, .unset, .unset, .unset, .unset, .unset] []))
  refine own_go (fun _ k => XS.iload X0.here hx rfl (hb hby at_0) rfl k) ?_
  show own_Goes p e below (own_End s below _ _) (s₁.setTop (mkF m 2 #[.val (.long p1), .second, .val (.long p2), .second, .val (.long p3), .second, .val (.int p4), .unset, .unset, .unset, .unset, .unset, .unset, .unset, .unset, .unset, .unset, .unset, .unset] [(.int p4)]))
  refine own_go (fun _ k => XS.iconst X0.here hx rfl (hb hby at_2) k) ?_
  show own_Goes p e below (own_End s below _ _) (s₁.setTop (mkF m 3 #[.val (.long p1), .second, .val (.long p2), .second, .val (.long p3), .second, .val (.int p4), .unset, .unset, .unset, .unset, .unset, .unset, .unset, .unset, .unset, .unset, .unset, .unset] [(.int (3 : Int32)), (.int p4)]))
  refine own_go (fun _ k => XS.iand X0.here hx rfl (hb hby at_3) rfl k) ?_
  show own_Goes p e below (own_End s below _ _) (s₁.setTop (mkF m 4 #[.val (.long p1), .second, .val (.long p2), .second, .val (.long p3), .second, .val (.int p4), .unset, .unset, .unset, .unset, .unset, .unset, .unset, .unset, .unset, .unset, .unset, .unset] [(.int (p4 &&& (3 : Int32)))]))
  refine own_go (fun _ k => XS.istore X0.here hx rfl (hb hby at_4) rfl (l' := #[.val (.long p1), .second, .val (.long p2), .second, .val (.long p3), .second, .val (.int p4), .val (.int (p4 &&& (3 : Int32))), .unset, .unset, .unset, .unset, .unset, .unset, .unset, .unset, .unset, .unset, .unset]) rfl k) ?_
  show own_Goes p e below (own_End s below _ _) (s₁.setTop (mkF m 6 #[.val (.long p1), .second, .val (.long p2), .second, .val (.long p3), .second, .val (.int p4), .val (.int (p4 &&& (3 : Int32))), .unset, .unset, .unset, .unset, .unset, .unset, .unset, .unset, .unset, .unset, .unset] []))
  show own_Goes p e below (own_End s below _ _) (s₁.setTop (mkF m 6 #[.val (.long p1), .second, .val (.long p2), .second, .val (.long p3), .second, .val (.int p4), .val (.int (own_n p4)), .unset, .unset, .unset, .unset, .unset, .unset, .unset, .unset, .unset, .unset, .unset] []))
  refine own_go (fun _ k => XS.lloadN X0.here hx rfl (hb hby at_6) rfl k) ?_
  show own_Goes p e below (own_End s below _ _) (s₁.setTop (mkF m 7 #[.val (.long p1), .second, .val (.long p2), .second, .val (.long p3), .second, .val (.int p4), .val (.int (own_n p4)), .unset, .unset, .unset, .unset, .unset, .unset, .unset, .unset, .unset, .unset, .unset] [(.long p1)]))
  refine own_go (fun _ k => XS.iconst X0.here hx rfl (hb hby at_7) k) ?_
  show own_Goes p e below (own_End s below _ _) (s₁.setTop (mkF m 8 #[.val (.long p1), .second, .val (.long p2), .second, .val (.long p3), .second, .val (.int p4), .val (.int (own_n p4)), .unset, .unset, .unset, .unset, .unset, .unset, .unset, .unset, .unset, .unset, .unset] [(.int (2 : Int32)), (.long p1)]))
  refine own_go (fun _ k => XS.lshr X0.here hx rfl (hb hby at_8) rfl k) ?_
  show own_Goes p e below (own_End s below _ _) (s₁.setTop (mkF m 9 #[.val (.long p1), .second, .val (.long p2), .second, .val (.long p3), .second, .val (.int p4), .val (.int (own_n p4)), .unset, .unset, .unset, .unset, .unset, .unset, .unset, .unset, .unset, .unset, .unset] [(.long (p1 >>> ((2 : Int32) &&& 0x3f).toInt64))]))
  refine own_go (fun _ k => XS.lstore X0.here hx rfl (hb hby at_9) rfl (l' := #[.val (.long p1), .second, .val (.long p2), .second, .val (.long p3), .second, .val (.int p4), .val (.int (own_n p4)), .val (.long (p1 >>> ((2 : Int32) &&& 0x3f).toInt64)), .second, .unset, .unset, .unset, .unset, .unset, .unset, .unset, .unset, .unset]) rfl k) ?_
  show own_Goes p e below (own_End s below _ _) (s₁.setTop (mkF m 11 #[.val (.long p1), .second, .val (.long p2), .second, .val (.long p3), .second, .val (.int p4), .val (.int (own_n p4)), .val (.long (p1 >>> ((2 : Int32) &&& 0x3f).toInt64)), .second, .unset, .unset, .unset, .unset, .unset, .unset, .unset, .unset, .unset] []))
  show own_Goes p e below (own_End s below _ _) (s₁.setTop (mkF m 11 #[.val (.long p1), .second, .val (.long p2), .second, .val (.long p3), .second, .val (.int p4), .val (.int (own_n p4)), .val (.long (own_sr p1)), .second, .unset, .unset, .unset, .unset, .unset, .unset, .unset, .unset, .unset] []))
  refine own_go (fun _ k => XS.lloadN X0.here hx rfl (hb hby at_11) rfl k) ?_
  show own_Goes p e below (own_End s below _ _) (s₁.setTop (mkF m 12 #[.val (.long p1), .second, .val (.long p2), .second, .val (.long p3), .second, .val (.int p4), .val (.int (own_n p4)), .val (.long (own_sr p1)), .second, .unset, .unset, .unset, .unset, .unset, .unset, .unset, .unset, .unset] [(.long p2)]))
  refine own_go (fun _ k => XS.iconst X0.here hx rfl (hb hby at_12) k) ?_
  show own_Goes p e below (own_End s below _ _) (s₁.setTop (mkF m 13 #[.val (.long p1), .second, .val (.long p2), .second, .val (.long p3), .second, .val (.int p4), .val (.int (own_n p4)), .val (.long (own_sr p1)), .second, .unset, .unset, .unset, .unset, .unset, .unset, .unset, .unset, .unset] [(.int (2 : Int32)), (.long p2)]))
  refine own_go (fun _ k => XS.lshr X0.here hx rfl (hb hby at_13) rfl k) ?_
  show own_Goes p e below (own_End s below _ _) (s₁.setTop (mkF m 14 #[.val (.long p1), .second, .val (.long p2), .second, .val (.long p3), .second, .val (.int p4), .val (.int (own_n p4)), .val (.long (own_sr p1)), .second, .unset, .unset, .unset, .unset, .unset, .unset, .unset, .unset, .unset] [(.long (p2 >>> ((2 : Int32) &&& 0x3f).toInt64))]))
  refine own_go (fun _ k => XS.lstore X0.here hx rfl (hb hby at_14) rfl (l' := #[.val (.long p1), .second, .val (.long p2), .second, .val (.long p3), .second, .val (.int p4), .val (.int (own_n p4)), .val (.long (own_sr p1)), .second, .val (.long (p2 >>> ((2 : Int32) &&& 0x3f).toInt64)), .second, .unset, .unset, .unset, .unset, .unset, .unset, .unset]) rfl k) ?_
  show own_Goes p e below (own_End s below _ _) (s₁.setTop (mkF m 16 #[.val (.long p1), .second, .val (.long p2), .second, .val (.long p3), .second, .val (.int p4), .val (.int (own_n p4)), .val (.long (own_sr p1)), .second, .val (.long (p2 >>> ((2 : Int32) &&& 0x3f).toInt64)), .second, .unset, .unset, .unset, .unset, .unset, .unset, .unset] []))
  show own_Goes p e below (own_End s below _ _) (s₁.setTop (mkF m 16 #[.val (.long p1), .second, .val (.long p2), .second, .val (.long p3), .second, .val (.int p4), .val (.int (own_n p4)), .val (.long (own_sr p1)), .second, .val (.long (own_sr p2)), .second, .unset, .unset, .unset, .unset, .unset, .unset, .unset] []))
  refine own_go (fun _ k => XS.lload X0.here hx rfl (hb hby at_16) rfl k) ?_
  show own_Goes p e below (own_End s below _ _) (s₁.setTop (mkF m 18 #[.val (.long p1), .second, .val (.long p2), .second, .val (.long p3), .second, .val (.int p4), .val (.int (own_n p4)), .val (.long (own_sr p1)), .second, .val (.long (own_sr p2)), .second, .unset, .unset, .unset, .unset, .unset, .unset, .unset] [(.long p3)]))
  refine own_go (fun _ k => XS.iconst X0.here hx rfl (hb hby at_18) k) ?_
  show own_Goes p e below (own_End s below _ _) (s₁.setTop (mkF m 19 #[.val (.long p1), .second, .val (.long p2), .second, .val (.long p3), .second, .val (.int p4), .val (.int (own_n p4)), .val (.long (own_sr p1)), .second, .val (.long (own_sr p2)), .second, .unset, .unset, .unset, .unset, .unset, .unset, .unset] [(.int (2 : Int32)), (.long p3)]))
  refine own_go (fun _ k => XS.lshr X0.here hx rfl (hb hby at_19) rfl k) ?_
  show own_Goes p e below (own_End s below _ _) (s₁.setTop (mkF m 20 #[.val (.long p1), .second, .val (.long p2), .second, .val (.long p3), .second, .val (.int p4), .val (.int (own_n p4)), .val (.long (own_sr p1)), .second, .val (.long (own_sr p2)), .second, .unset, .unset, .unset, .unset, .unset, .unset, .unset] [(.long (p3 >>> ((2 : Int32) &&& 0x3f).toInt64))]))
  refine own_go (fun _ k => XS.lstore X0.here hx rfl (hb hby at_20) rfl (l' := #[.val (.long p1), .second, .val (.long p2), .second, .val (.long p3), .second, .val (.int p4), .val (.int (own_n p4)), .val (.long (own_sr p1)), .second, .val (.long (own_sr p2)), .second, .val (.long (p3 >>> ((2 : Int32) &&& 0x3f).toInt64)), .second, .unset, .unset, .unset, .unset, .unset]) rfl k) ?_
  show own_Goes p e below (own_End s below _ _) (s₁.setTop (mkF m 22 #[.val (.long p1), .second, .val (.long p2), .second, .val (.long p3), .second, .val (.int p4), .val (.int (own_n p4)), .val (.long (own_sr p1)), .second, .val (.long (own_sr p2)), .second, .val (.long (p3 >>> ((2 : Int32) &&& 0x3f).toInt64)), .second, .unset, .unset, .unset, .unset, .unset] []))
  show own_Goes p e below (own_End s below _ _) (s₁.setTop (mkF m 22 #[.val (.long p1), .second, .val (.long p2), .second, .val (.long p3), .second, .val (.int p4), .val (.int (own_n p4)), .val (.long (own_sr p1)), .second, .val (.long (own_sr p2)), .second, .val (.long (own_sr p3)), .second, .unset, .unset, .unset, .unset, .unset] []))
  obtain ⟨T2, h2, X2, e2, E2, A2, D2, -, st2⟩ := newO X0 hx hZ hown (hw _ (List.mem_of_getElem? (i := 0) rfl)) (hw _ (List.mem_of_getElem? (i := 1) rfl)) (hw _ (List.mem_of_getElem? (i := 2) rfl)) e0 (g := (mkF m 22 #[.val (.long p1), .second, .val (.long p2), .second, .val (.long p3), .second, .val (.int p4), .val (.int (own_n p4)), .val (.long (own_sr p1)), .second, .val (.long (own_sr p2)), .second, .val (.long (own_sr p3)), .second, .unset, .unset, .unset, .unset, .unset] [])) rfl (hb hby at_22) (by decide) (by decide)
  obtain ⟨a, ga0⟩ : ∃ z, z = h0.size := ⟨_, rfl⟩
  rw [← ga0] at A2 D2 st2
  have ga : n0 ≤ a := by rw [ga0]; exact Z0
  have Z2 : n0 ≤ h2.size := Nat.le_trans Z0 E2.1
  refine own_go st2 ?_
  show own_Goes p e below (own_End s below _ _) (T2.setTop (mkF m 25 #[.val (.long p1), .second, .val (.long p2), .second, .val (.long p3), .second, .val (.int p4), .val (.int (own_n p4)), .val (.long (own_sr p1)), .second, .val (.long (own_sr p2)), .second, .val (.long (own_sr p3)), .second, .unset, .unset, .unset, .unset, .unset] [(.ref a)]))
  refine own_go (fun _ k => XS.dup X2.here hx rfl (hb hby at_25) rfl rfl k) ?_
  show own_Goes p e below (own_End s below _ _) (T2.setTop (mkF m 26 #[.val (.long p1), .second, .val (.long p2), .second, .val (.long p3), .second, .val (.int p4), .val (.int (own_n p4)), .val (.long (own_sr p1)), .second, .val (.long (own_sr p2)), .second, .val (.long (own_sr p3)), .second, .unset, .unset, .unset, .unset, .unset] [(.ref a), (.ref a)]))
  obtain ⟨v3, T3, L3, X3, ⟨u3, M3, K3, b, gb0, H3⟩, st3⟩ := own_callI X2 hx hZ (y := own_iniN) rfl hown (hw _ (List.mem_of_getElem? (i := 3) rfl)) (hw _ (List.mem_of_getElem? (i := 4) rfl)) (hw _ (List.mem_of_getElem? (i := 2) rfl)) (hw _ (List.mem_of_getElem? (i := 5) rfl)) (by decide) (own_ini l Z a0 hw h2 n0 a Z2 ga A2 (D2 (Or.inr (hw _ (List.mem_of_getElem? (i := 11) rfl))) (ty := .array .long) (by decide)) (D2 (Or.inl (hw _ (List.mem_of_getElem? (i := 26) rfl))) (ty := .long) (by decide)) (D2 (Or.inl (hw _ (List.mem_of_getElem? (i := 28) rfl))) (ty := .long) (by decide))) e2 (W := 1) (by decide) (by decide) (g := (mkF m 26 #[.val (.long p1), .second, .val (.long p2), .second, .val (.long p3), .second, .val (.int p4), .val (.int (own_n p4)), .val (.long (own_sr p1)), .second, .val (.long (own_sr p2)), .second, .val (.long (own_sr p3)), .second, .unset, .unset, .unset, .unset, .unset] [(.ref a), (.ref a)])) rfl (by rw [hml]; rfl) (a := a) (argsL := []) (rest := [(.ref a)]) pd_V rfl rfl (by show 2 * 0 + _ ≤ _; exact Nat.le_of_eq rfl) (hb hby at_26) rfl (by decide) (by decide)
  subst u3
  have N3 := Fr.app (Fr.nil n0) M3
  refine own_go st3 ?_
  show own_Goes p e below (own_End s below _ _) (T3.setTop (mkF m 29 #[.val (.long p1), .second, .val (.long p2), .second, .val (.long p3), .second, .val (.int p4), .val (.int (own_n p4)), .val (.long (own_sr p1)), .second, .val (.long (own_sr p2)), .second, .val (.long (own_sr p3)), .second, .unset, .unset, .unset, .unset, .unset] [(.ref a)]))
  refine own_go (fun _ k => XS.astore X3.here hx rfl (hb hby at_29) rfl rfl (l' := #[.val (.long p1), .second, .val (.long p2), .second, .val (.long p3), .second, .val (.int p4), .val (.int (own_n p4)), .val (.long (own_sr p1)), .second, .val (.long (own_sr p2)), .second, .val (.long (own_sr p3)), .second, .val (.ref a), .unset, .unset, .unset, .unset]) rfl k) ?_
  show own_Goes p e below (own_End s below _ _) (T3.setTop (mkF m 31 #[.val (.long p1), .second, .val (.long p2), .second, .val (.long p3), .second, .val (.int p4), .val (.int (own_n p4)), .val (.long (own_sr p1)), .second, .val (.long (own_sr p2)), .second, .val (.long (own_sr p3)), .second, .val (.ref a), .unset, .unset, .unset, .unset] []))
  refine own_go (fun _ k => XS.lconst X3.here hx rfl (hb hby at_31) k) ?_
  show own_Goes p e below (own_End s below _ _) (T3.setTop (mkF m 32 #[.val (.long p1), .second, .val (.long p2), .second, .val (.long p3), .second, .val (.int p4), .val (.int (own_n p4)), .val (.long (own_sr p1)), .second, .val (.long (own_sr p2)), .second, .val (.long (own_sr p3)), .second, .val (.ref a), .unset, .unset, .unset, .unset] [(.long (0 : Int64))]))
  refine own_go (fun _ k => XS.lstore X3.here hx rfl (hb hby at_32) rfl (l' := #[.val (.long p1), .second, .val (.long p2), .second, .val (.long p3), .second, .val (.int p4), .val (.int (own_n p4)), .val (.long (own_sr p1)), .second, .val (.long (own_sr p2)), .second, .val (.long (own_sr p3)), .second, .val (.ref a), .val (.long (0 : Int64)), .second, .unset, .unset]) rfl k) ?_
  show own_Goes p e below (own_End s below _ _) (T3.setTop (mkF m 34 #[.val (.long p1), .second, .val (.long p2), .second, .val (.long p3), .second, .val (.int p4), .val (.int (own_n p4)), .val (.long (own_sr p1)), .second, .val (.long (own_sr p2)), .second, .val (.long (own_sr p3)), .second, .val (.ref a), .val (.long (0 : Int64)), .second, .unset, .unset] []))
  have gb : n0 ≤ b := Nat.le_trans Z2 gb0
  rcases own_n_cases p4 with hn | hn | hn | hn
  · exact own_path0 l Z a0 hw ws p1 p2 p3 p4 n0 p e s m below meth c s₁ Bd hml hZ T3 _ X3 N3 hn a b ga gb _ H3
  · exact own_path1 l Z a0 hw ws p1 p2 p3 p4 n0 p e s m below meth c s₁ Bd hml hZ T3 _ X3 N3 hn a b ga gb _ H3
  · exact own_path2 l Z a0 hw ws p1 p2 p3 p4 n0 p e s m below meth c s₁ Bd hml hZ T3 _ X3 N3 hn a b ga gb _ H3
  · exact own_path3 l Z a0 hw ws p1 p2 p3 p4 n0 p e s m below meth c s₁ Bd hml hZ T3 _ X3 N3 hn a b ga gb _ H3
set_option maxRecDepth 65536 in
set_option maxHeartbeats 40000000 in
theorem comes_1 {Post : Tables → Env → Array Value → State → Outcome → State → Prop} (hpost : ∀ tb e args s v u, (limb_1_1.after args s (.returned v) u = true ∧ limb_1_2.after args s (.returned v) u = true ∧ True) → FrameEnd s (.returned v) u (Jvm.fieldLocs frame_1_writes args s ++ Jvm.arrayLocs frame_1_arrays args s ++ Jvm.staticLocs frame_1_statics s) room_1.cells room_1.slots → Post tb e args s (.returned v) u) :
    ArmFor flags0 classFile x code maxLocals ret World_1 tables_1 room_1 Calls_1 rest_1 Pre_1 Post := by
  intro l hfl _ _ p e ha hc hk s m args below hf hA hF happ hP
  obtain ⟨hcalls, hrest, hpre⟩ := hP
  obtain ⟨-, -, -, hnamed, -, -, -, hat⟩ := (Spec.applies_iff hf).mp happ
  obtain ⟨hg, hn⟩ := and_e (Cond.before_iff.mp (show (Jvm.Cond.and given_1 narrow_1).before args s = true from hpre))
  obtain ⟨g0, q0⟩ := and_e hg
  obtain ⟨g1, q1⟩ := and_e q0
  obtain ⟨g2, q2⟩ := and_e q1
  obtain ⟨g3, q3⟩ := and_e q2
  obtain ⟨w0, w1, w2, w3, rfl⟩ : ∃ w0 w1 w2 w3 : Value, args = #[w0, w1, w2, w3] := by
    have hs : args.size = 4 := by simpa [Cond.value, given_1] using g0
    obtain ⟨L⟩ := args
    match L, hs with
    | [w0, w1, w2, w3], _ => exact ⟨w0, w1, w2, w3, rfl⟩
  have hw := fun d (hd : d ∈ tables_1) => atoms_spec (ws := Jvm.Cond.code x code maxLocals ret :: tables_1) hat d (List.mem_cons_of_mem _ hd)
  obtain ⟨i0, z0⟩ := isL_v g1
  obtain rfl : w0 = (.long i0) := Option.some.inj z0
  obtain ⟨i1, z1⟩ := isL_v g2
  obtain rfl : w1 = (.long i1) := Option.some.inj z1
  obtain ⟨i2, z2⟩ := isL_v g3
  obtain rfl : w2 = (.long i2) := Option.some.inj z2
  obtain ⟨i3, z3⟩ := is_v q3
  obtain rfl : w3 = (.int i3) := Option.some.inj z3
  obtain ⟨n, o, h1, h2, h3, _, L, rfl, ⟨rfl, N⟩, hq⟩ := own_law l s _ hw tables_1 i0 i1 i2 i3 s.heap s.heap.size (Nat.le_refl _) p e ha hc hk s m _ below hf ((Spec.applies_iff_loose hf).mp happ).1 ⟨rfl, State.Warmed39.refl s, rfl⟩ trivial
  refine ⟨n, _, h1, h2, h3, hpost _ _ _ _ _ _ ⟨Cond.after_iff.mpr rfl, Cond.after_iff.mpr (eq_i res_at (Term.int_eval (1)) rfl), trivial⟩ ⟨hq.1, hq.2.1, hq.2.2.sift fun y hy => Or.inr (N y hy)⟩⟩
theorem main_1_1 : Claimed_1_1 := comes_1 fun _ _ _ _ _ _ h hF => ⟨h.1, hF⟩
theorem main_1_2 : Claimed_1_2 := comes_1 fun _ _ _ _ _ _ h hF => ⟨h.2.1, hF⟩
end Jvm.Pilot.@@N@@
namespace Jvm.Pilot.@@N@@
open Jvm Jvm.ClassFile Sem Op Lib Jvm.Free Jvm.Stand Jvm.Pilot.@@N@@.Jvm.D
/-! MADE BY PROGRAM (witnessworld.py) out of the Statement's table words and the real class files: 18 classes; the members and pool entries that the words name. The judged class is class 1, her method 1. -/
namespace start1
open Jvm.ClassFile
def u (s : String) : CpInfo := .utf8 (stringToUtf16 s)
/-- a pool by its gaps: so many unusable entries, then the entry; so many at the end -/
def gap : Nat → List CpInfo → List CpInfo
  | 0, r => r
  | n + 1, r => .unusable :: gap n r
def poolList (es : List (Nat × CpInfo)) (last : Nat) : List CpInfo := es.foldr (fun e r => gap e.1 (e.2 :: r)) (gap last [])
def pool (es : List (Nat × CpInfo)) (last : Nat) : Array CpInfo := ⟨poolList es last⟩
def fileOf (pool : Array CpInfo) (this : Nat) (attrs : Array Attribute := #[]) (ms : Array MethodInfo := #[]) (fl : Nat := 33) (sup : Nat := 0) (ifs : Array Nat := #[]) (fds : Array FieldInfo := #[]) : ClassFile where
  minorVersion := 0
  majorVersion := 65
  constantPool := pool
  accessFlags := fl
  thisClass := this
  superClass := sup
  interfaces := ifs
  fields := fds
  methods := ms
  attributes := attrs
def plain (name : String) (sup : Option ClassId) : Class where
  name := name
  kind := .ordinary
  loader := none
  accessFlags := 33
  super := sup
  interfaces := #[]
  cf := none
  fields := #[]
  methods := #[]
  instanceTypes := #[]
  staticTypes := #[]
  resolved := #[]
  callSites := []
  init := .initialized
  statics := none
  mirror := none

def pool0 : Array CpInfo := pool [(5, u "<init>"), (0, u "()V"), (1, .class_ 10), (1, u "java/lang/Object")] 113

def k0c0 : Code := { maxStack := 0, maxLocals := 1, code := object_method_1_code, exceptionTable := #[], attributes := #[] }
def k0m0 : Method := { name := "<init>", desc := "()V", sig := { parameters := [], returnType := none }, accessFlags := 1, code := some k0c0 }
/-- java/lang/Object -/
def k0 : Class := { plain "java/lang/Object" none with
  accessFlags := 33
  interfaces := #[]
  cf := some (fileOf pool0 8 #[] #[{ accessFlags := 1, nameIndex := 5, descriptorIndex := 6, attributes := #[] }] 33 0 #[] #[])
  fields := #[]
  methods := #[k0m0]
  instanceTypes := #[]
  staticTypes := #[]
  resolved := Array.replicate 124 none
  statics := none }

def pool1 : Array CpInfo := pool [(2, .class_ 4), (0, .nameAndType 5 6), (0, u "java/lang/Object"), (0, u "<init>"), (0, u "()V"), (0, .class_ 8), (0, u "com/example/holdfast/holdfast/cli/LatencyHistogram"), (0, .methodref 7 3), (0, .methodref 7 11), (0, .nameAndType 12 13), (0, u "record"), (0, u "(J)V"), (0, .methodref 15 16), (0, .class_ 17), (0, .nameAndType 18 19), (0, u "java/lang/Math"), (0, u "max"), (0, u "(JJ)J"), (0, .methodref 7 21), (0, .nameAndType 22 23), (0, u "mean"), (0, u "()D"), (0, .class_ 25), (0, u "com/example/holdfast/holdfast/cli/LatencyHistogramMeanPinLaw"), (2, u "law"), (0, u "(JJJI)Z")] 3

def k1m0 : Method := { name := "<init>", desc := "()V", sig := { parameters := [], returnType := none }, accessFlags := 1, code := none }
def k1c1 : Code := { maxStack := 6, maxLocals := 19, code := code, exceptionTable := #[], attributes := #[] }
def k1m1 : Method := { name := "law", desc := "(JJJI)Z", sig := { parameters := [.long, .long, .long, .int], returnType := some .boolean }, accessFlags := 9, code := some k1c1 }
/-- com/example/holdfast/holdfast/cli/LatencyHistogramMeanPinLaw -/
def k1 : Class := { plain "com/example/holdfast/holdfast/cli/LatencyHistogramMeanPinLaw" (some 0) with
  accessFlags := 49
  interfaces := #[]
  cf := some (fileOf pool1 24 #[] #[{ accessFlags := 1, nameIndex := 5, descriptorIndex := 6, attributes := #[] }, { accessFlags := 9, nameIndex := 28, descriptorIndex := 29, attributes := #[] }] 49 2 #[] #[])
  fields := #[]
  methods := #[k1m0, k1m1]
  instanceTypes := #[]
  staticTypes := #[]
  resolved := Array.replicate 33 none
  statics := none }

def pool2 : Array CpInfo := pool [(1, .class_ 2), (0, u "com/example/holdfast/holdfast/cli/LatencyHistogram"), (0, .class_ 4), (0, u "java/lang/Long"), (0, .methodref 6 7), (0, .class_ 8), (0, .nameAndType 9 10), (0, u "java/lang/Object"), (0, u "<init>"), (0, u "()V"), (0, .fieldref 1 12), (0, .nameAndType 13 14), (0, u "counts"), (0, u "[J"), (0, .methodref 16 17), (0, .class_ 18), (0, .nameAndType 19 20), (0, u "java/lang/Math"), (0, u "max"), (0, u "(JJ)J"), (0, .methodref 1 22), (0, .nameAndType 23 24), (0, u "bucket"), (0, u "(J)I"), (0, .fieldref 1 26), (0, .nameAndType 27 28), (0, u "count"), (0, u "J"), (0, .fieldref 1 30), (0, .nameAndType 31 28), (0, u "sum"), (8, .long 512), (1, .methodref 3 43), (0, .nameAndType 44 24), (0, u "numberOfLeadingZeros"), (0, u "EXACT_BITS"), (0, u "I"), (2, u "SPLIT_BITS"), (1, u "EXACT"), (1, u "SPLIT"), (1, u "DOUBLINGS"), (3, u "record"), (0, u "(J)V"), (3, u "mean"), (0, u "()D")] 4

def k2c0 : Code := { maxStack := 2, maxLocals := 1, code := prog_36_method_1_code, exceptionTable := #[], attributes := #[] }
def k2m0 : Method := { name := "<init>", desc := "()V", sig := { parameters := [], returnType := none }, accessFlags := 0, code := some k2c0 }
def k2c1 : Code := { maxStack := 6, maxLocals := 5, code := prog_36_method_2_code, exceptionTable := #[], attributes := #[] }
def k2m1 : Method := { name := "record", desc := "(J)V", sig := { parameters := [.long], returnType := none }, accessFlags := 0, code := some k2c1 }
def k2c2 : Code := { maxStack := 4, maxLocals := 1, code := prog_36_method_4_code, exceptionTable := #[], attributes := #[] }
def k2m2 : Method := { name := "mean", desc := "()D", sig := { parameters := [], returnType := some .double }, accessFlags := 0, code := some k2c2 }
def k2c3 : Code := { maxStack := 4, maxLocals := 5, code := prog_36_method_6_code, exceptionTable := #[], attributes := #[] }
def k2m3 : Method := { name := "bucket", desc := "(J)I", sig := { parameters := [.long], returnType := some .int }, accessFlags := 10, code := some k2c3 }
/-- com/example/holdfast/holdfast/cli/LatencyHistogram -/
def k2 : Class := { plain "com/example/holdfast/holdfast/cli/LatencyHistogram" (some 0) with
  accessFlags := 48
  interfaces := #[]
  cf := some (fileOf pool2 1 #[] #[{ accessFlags := 0, nameIndex := 9, descriptorIndex := 10, attributes := #[] }, { accessFlags := 0, nameIndex := 59, descriptorIndex := 60, attributes := #[] }, { accessFlags := 0, nameIndex := 64, descriptorIndex := 65, attributes := #[] }, { accessFlags := 10, nameIndex := 23, descriptorIndex := 24, attributes := #[] }] 48 6 #[] #[{ accessFlags := 26, nameIndex := 45, descriptorIndex := 46, attributes := #[] }, { accessFlags := 26, nameIndex := 49, descriptorIndex := 46, attributes := #[] }, { accessFlags := 26, nameIndex := 51, descriptorIndex := 46, attributes := #[] }, { accessFlags := 26, nameIndex := 53, descriptorIndex := 46, attributes := #[] }, { accessFlags := 26, nameIndex := 55, descriptorIndex := 46, attributes := #[] }, { accessFlags := 18, nameIndex := 13, descriptorIndex := 14, attributes := #[] }, { accessFlags := 2, nameIndex := 27, descriptorIndex := 28, attributes := #[] }, { accessFlags := 2, nameIndex := 31, descriptorIndex := 28, attributes := #[] }])
  fields := #[{ name := "EXACT_BITS", type := .int, accessFlags := 26, slot := 0, constantValue := 0 }, { name := "SPLIT_BITS", type := .int, accessFlags := 26, slot := 1, constantValue := 0 }, { name := "EXACT", type := .int, accessFlags := 26, slot := 2, constantValue := 0 }, { name := "SPLIT", type := .int, accessFlags := 26, slot := 3, constantValue := 0 }, { name := "DOUBLINGS", type := .int, accessFlags := 26, slot := 4, constantValue := 0 }, { name := "counts", type := (.array .long), accessFlags := 18, slot := 0, constantValue := 0 }, { name := "count", type := .long, accessFlags := 2, slot := 1, constantValue := 0 }, { name := "sum", type := .long, accessFlags := 2, slot := 2, constantValue := 0 }]
  methods := #[k2m0, k2m1, k2m2, k2m3]
  instanceTypes := #[(.array .long), .long, .long]
  staticTypes := #[.int, .int, .int, .int, .int]
  resolved := Array.replicate 70 none
  statics := none }

def pool3 : Array CpInfo := pool [(1, .class_ 2), (0, u "java/lang/Math"), (1, .class_ 6), (1, u "java/lang/Object"), (0, u "<init>"), (0, u "()V"), (89, .class_ 100), (1, u "java/lang/Math$RandomNumberGeneratorHolder"), (20, u "(JJ)J"), (50, u "negativeZeroFloatBits"), (0, u "J"), (2, u "negativeZeroDoubleBits"), (21, u "max"), (46, u "$assertionsDisabled"), (0, u "Z"), (91, u "twoToTheDoubleScaleDown"), (0, u "D"), (4, u "twoToTheDoubleScaleUp"), (9, u "E"), (3, u "PI"), (2, u "TAU"), (2, u "DEGREES_TO_RADIANS"), (0, u "RADIANS_TO_DEGREES")] 94

def k3m0 : Method := { name := "<init>", desc := "()V", sig := { parameters := [], returnType := none }, accessFlags := 2, code := none }
def k3c1 : Code := { maxStack := 4, maxLocals := 4, code := jdk_29_method_66_code, exceptionTable := #[], attributes := #[] }
def k3m1 : Method := { name := "max", desc := "(JJ)J", sig := { parameters := [.long, .long], returnType := some .long }, accessFlags := 9, code := some k3c1 }
/-- java/lang/Math -/
def k3 : Class := { plain "java/lang/Math" (some 0) with
  accessFlags := 49
  interfaces := #[]
  cf := some (fileOf pool3 1 #[.nestMembers #[98]] #[{ accessFlags := 2, nameIndex := 7, descriptorIndex := 8, attributes := #[] }, { accessFlags := 9, nameIndex := 198, descriptorIndex := 121, attributes := #[] }] 49 4 #[] #[{ accessFlags := 25, nameIndex := 354, descriptorIndex := 339, attributes := #[] }, { accessFlags := 25, nameIndex := 358, descriptorIndex := 339, attributes := #[] }, { accessFlags := 25, nameIndex := 361, descriptorIndex := 339, attributes := #[] }, { accessFlags := 26, nameIndex := 364, descriptorIndex := 339, attributes := #[] }, { accessFlags := 26, nameIndex := 365, descriptorIndex := 339, attributes := #[] }, { accessFlags := 26, nameIndex := 172, descriptorIndex := 173, attributes := #[] }, { accessFlags := 26, nameIndex := 176, descriptorIndex := 173, attributes := #[] }, { accessFlags := 8, nameIndex := 344, descriptorIndex := 339, attributes := #[] }, { accessFlags := 8, nameIndex := 338, descriptorIndex := 339, attributes := #[] }, { accessFlags := 4120, nameIndex := 245, descriptorIndex := 246, attributes := #[] }])
  fields := #[{ name := "E", type := .double, accessFlags := 25, slot := 0, constantValue := 0 }, { name := "PI", type := .double, accessFlags := 25, slot := 1, constantValue := 0 }, { name := "TAU", type := .double, accessFlags := 25, slot := 2, constantValue := 0 }, { name := "DEGREES_TO_RADIANS", type := .double, accessFlags := 26, slot := 3, constantValue := 0 }, { name := "RADIANS_TO_DEGREES", type := .double, accessFlags := 26, slot := 4, constantValue := 0 }, { name := "negativeZeroFloatBits", type := .long, accessFlags := 26, slot := 5, constantValue := 0 }, { name := "negativeZeroDoubleBits", type := .long, accessFlags := 26, slot := 6, constantValue := 0 }, { name := "twoToTheDoubleScaleUp", type := .double, accessFlags := 8, slot := 7, constantValue := 0 }, { name := "twoToTheDoubleScaleDown", type := .double, accessFlags := 8, slot := 8, constantValue := 0 }, { name := "$assertionsDisabled", type := .boolean, accessFlags := 4120, slot := 9, constantValue := 0 }]
  methods := #[k3m0, k3m1]
  instanceTypes := #[]
  staticTypes := #[.double, .double, .double, .double, .double, .long, .long, .double, .double, .boolean]
  resolved := Array.replicate 460 none
  statics := none }

def pool4 : Array CpInfo := pool [(1, .class_ 2), (0, u "java/io/Serializable"), (0, .class_ 4), (0, u "java/lang/Object")] 2

/-- java/io/Serializable -/
def k4 : Class := { plain "java/io/Serializable" (some 0) with
  accessFlags := 1537
  interfaces := #[]
  cf := some (fileOf pool4 1 #[] #[] 1537 3 #[] #[])
  fields := #[]
  methods := #[]
  instanceTypes := #[]
  staticTypes := #[]
  resolved := Array.replicate 7 none
  statics := none }

def pool5 : Array CpInfo := pool [(2, .class_ 4), (1, u "java/lang/Object"), (0, u "<init>"), (0, u "()V"), (1, .class_ 10), (1, u "java/lang/Number"), (2, .class_ 14), (0, u "java/io/Serializable"), (0, u "serialVersionUID"), (0, u "J")] 20

def k5m0 : Method := { name := "<init>", desc := "()V", sig := { parameters := [], returnType := none }, accessFlags := 1, code := none }
/-- java/lang/Number -/
def k5 : Class := { plain "java/lang/Number" (some 0) with
  accessFlags := 1057
  interfaces := #[4]
  cf := some (fileOf pool5 8 #[] #[{ accessFlags := 1, nameIndex := 5, descriptorIndex := 6, attributes := #[] }] 1057 2 #[13] #[{ accessFlags := 26, nameIndex := 15, descriptorIndex := 16, attributes := #[] }])
  fields := #[{ name := "serialVersionUID", type := .long, accessFlags := 26, slot := 0, constantValue := 0 }]
  methods := #[k5m0]
  instanceTypes := #[]
  staticTypes := #[.long]
  resolved := Array.replicate 37 none
  statics := none }

def pool6 : Array CpInfo := pool [(1, .class_ 2), (0, u "java/lang/Comparable"), (0, .class_ 4), (0, u "java/lang/Object")] 7

/-- java/lang/Comparable -/
def k6 : Class := { plain "java/lang/Comparable" (some 0) with
  accessFlags := 1537
  interfaces := #[]
  cf := some (fileOf pool6 1 #[] #[] 1537 3 #[] #[])
  fields := #[]
  methods := #[]
  instanceTypes := #[]
  staticTypes := #[]
  resolved := Array.replicate 12 none
  statics := none }

def pool7 : Array CpInfo := pool [(1, .class_ 2), (0, u "java/lang/constant/Constable"), (0, .class_ 4), (0, u "java/lang/Object")] 6

/-- java/lang/constant/Constable -/
def k7 : Class := { plain "java/lang/constant/Constable" (some 0) with
  accessFlags := 1537
  interfaces := #[]
  cf := some (fileOf pool7 1 #[] #[] 1537 3 #[] #[])
  fields := #[]
  methods := #[]
  instanceTypes := #[]
  staticTypes := #[]
  resolved := Array.replicate 11 none
  statics := none }

def pool8 : Array CpInfo := pool [(1, .class_ 2), (0, u "java/lang/constant/ConstantDesc"), (0, .class_ 4), (0, u "java/lang/Object")] 32

/-- java/lang/constant/ConstantDesc -/
def k8 : Class := { plain "java/lang/constant/ConstantDesc" (some 0) with
  accessFlags := 1537
  interfaces := #[]
  cf := some (fileOf pool8 1 #[] #[] 1537 3 #[] #[])
  fields := #[]
  methods := #[]
  instanceTypes := #[]
  staticTypes := #[]
  resolved := Array.replicate 37 none
  statics := none }

def pool9 : Array CpInfo := pool [(1, .class_ 2), (0, u "java/lang/Long"), (15, .class_ 20), (1, u "java/lang/Integer"), (79, u "numberOfLeadingZeros"), (0, u "(J)I"), (133, .class_ 237), (1, u "java/lang/Long$LongCache"), (33, .class_ 272), (0, u "java/lang/Number"), (2, u "value"), (0, u "J"), (31, .methodref 18 309), (0, .nameAndType 100 310), (0, u "(I)I"), (50, u "TYPE"), (0, u "Ljava/lang/Class;"), (0, .class_ 364), (0, u "java/lang/Comparable"), (0, .class_ 366), (0, u "java/lang/constant/Constable"), (0, .class_ 368), (0, u "java/lang/constant/ConstantDesc"), (0, u "MIN_VALUE"), (1, u "MAX_VALUE"), (4, u "SIZE"), (0, u "I"), (1, u "BYTES"), (1, u "serialVersionUID")] 142

def k9c0 : Code := { maxStack := 3, maxLocals := 3, code := jdk_35_method_48_code, exceptionTable := #[], attributes := #[] }
def k9m0 : Method := { name := "numberOfLeadingZeros", desc := "(J)I", sig := { parameters := [.long], returnType := some .int }, accessFlags := 9, code := some k9c0 }
/-- java/lang/Long -/
def k9 : Class := { plain "java/lang/Long" (some 5) with
  accessFlags := 49
  interfaces := #[6, 7, 8]
  cf := some (fileOf pool9 1 #[.nestMembers #[235]] #[{ accessFlags := 9, nameIndex := 100, descriptorIndex := 101, attributes := #[] }] 49 271 #[363, 365, 367] #[{ accessFlags := 25, nameIndex := 369, descriptorIndex := 276, attributes := #[] }, { accessFlags := 25, nameIndex := 371, descriptorIndex := 276, attributes := #[] }, { accessFlags := 25, nameIndex := 361, descriptorIndex := 362, attributes := #[] }, { accessFlags := 18, nameIndex := 275, descriptorIndex := 276, attributes := #[] }, { accessFlags := 25, nameIndex := 376, descriptorIndex := 377, attributes := #[] }, { accessFlags := 25, nameIndex := 379, descriptorIndex := 377, attributes := #[] }, { accessFlags := 26, nameIndex := 381, descriptorIndex := 276, attributes := #[] }])
  fields := #[{ name := "MIN_VALUE", type := .long, accessFlags := 25, slot := 0, constantValue := 0 }, { name := "MAX_VALUE", type := .long, accessFlags := 25, slot := 1, constantValue := 0 }, { name := "TYPE", type := (.object "java/lang/Class"), accessFlags := 25, slot := 2, constantValue := 0 }, { name := "value", type := .long, accessFlags := 18, slot := 0, constantValue := 0 }, { name := "SIZE", type := .int, accessFlags := 25, slot := 3, constantValue := 0 }, { name := "BYTES", type := .int, accessFlags := 25, slot := 4, constantValue := 0 }, { name := "serialVersionUID", type := .long, accessFlags := 26, slot := 5, constantValue := 0 }]
  methods := #[k9m0]
  instanceTypes := #[.long]
  staticTypes := #[.long, .long, (.object "java/lang/Class"), .int, .int, .long]
  resolved := Array.replicate 524 none
  statics := none }

def pool10 : Array CpInfo := pool [(1, .class_ 2), (0, u "java/lang/Integer"), (16, u "digits"), (0, u "[C"), (32, u "numberOfLeadingZeros"), (0, u "(I)I"), (30, u "DigitOnes"), (0, u "[B"), (2, u "DigitTens"), (99, .class_ 190), (0, u "java/lang/Integer$IntegerCache"), (3, u "I"), (8, .class_ 204), (0, u "java/lang/Number"), (2, u "value"), (56, .integer 65536), (37, u "TYPE"), (0, u "Ljava/lang/Class;"), (0, .class_ 305), (0, u "java/lang/Comparable"), (0, .class_ 307), (0, u "java/lang/constant/Constable"), (0, .class_ 309), (0, u "java/lang/constant/ConstantDesc"), (0, u "MIN_VALUE"), (1, u "MAX_VALUE"), (3, u "SIZE"), (1, u "BYTES"), (1, u "serialVersionUID"), (0, u "J")] 131

def k10c0 : Code := { maxStack := 3, maxLocals := 2, code := jdk_33_method_47_code, exceptionTable := #[], attributes := #[] }
def k10m0 : Method := { name := "numberOfLeadingZeros", desc := "(I)I", sig := { parameters := [.int], returnType := some .int }, accessFlags := 9, code := some k10c0 }
/-- java/lang/Integer -/
def k10 : Class := { plain "java/lang/Integer" (some 5) with
  accessFlags := 49
  interfaces := #[6, 7, 8]
  cf := some (fileOf pool10 1 #[.nestMembers #[189]] #[{ accessFlags := 9, nameIndex := 53, descriptorIndex := 54, attributes := #[] }] 49 203 #[304, 306, 308] #[{ accessFlags := 25, nameIndex := 310, descriptorIndex := 194, attributes := #[] }, { accessFlags := 25, nameIndex := 312, descriptorIndex := 194, attributes := #[] }, { accessFlags := 25, nameIndex := 302, descriptorIndex := 303, attributes := #[] }, { accessFlags := 24, nameIndex := 19, descriptorIndex := 20, attributes := #[] }, { accessFlags := 24, nameIndex := 89, descriptorIndex := 86, attributes := #[] }, { accessFlags := 24, nameIndex := 85, descriptorIndex := 86, attributes := #[] }, { accessFlags := 18, nameIndex := 207, descriptorIndex := 194, attributes := #[] }, { accessFlags := 25, nameIndex := 316, descriptorIndex := 194, attributes := #[] }, { accessFlags := 25, nameIndex := 318, descriptorIndex := 194, attributes := #[] }, { accessFlags := 26, nameIndex := 320, descriptorIndex := 321, attributes := #[] }])
  fields := #[{ name := "MIN_VALUE", type := .int, accessFlags := 25, slot := 0, constantValue := 0 }, { name := "MAX_VALUE", type := .int, accessFlags := 25, slot := 1, constantValue := 0 }, { name := "TYPE", type := (.object "java/lang/Class"), accessFlags := 25, slot := 2, constantValue := 0 }, { name := "digits", type := (.array .char), accessFlags := 24, slot := 3, constantValue := 0 }, { name := "DigitTens", type := (.array .byte), accessFlags := 24, slot := 4, constantValue := 0 }, { name := "DigitOnes", type := (.array .byte), accessFlags := 24, slot := 5, constantValue := 0 }, { name := "value", type := .int, accessFlags := 18, slot := 0, constantValue := 0 }, { name := "SIZE", type := .int, accessFlags := 25, slot := 6, constantValue := 0 }, { name := "BYTES", type := .int, accessFlags := 25, slot := 7, constantValue := 0 }, { name := "serialVersionUID", type := .long, accessFlags := 26, slot := 8, constantValue := 0 }]
  methods := #[k10m0]
  instanceTypes := #[.int]
  staticTypes := #[.int, .int, (.object "java/lang/Class"), (.array .char), (.array .byte), (.array .byte), .int, .int, .long]
  resolved := Array.replicate 453 none
  statics := none }

def pool11 : Array CpInfo := pool [(1, u "java/lang/Cloneable"), (0, .class_ 1), (0, u "java/lang/Object"), (0, .class_ 3)] 3

/-- java/lang/Cloneable -/
def k11 : Class := { plain "java/lang/Cloneable" (some 0) with
  accessFlags := 1537
  interfaces := #[]
  cf := some (fileOf pool11 2 #[] #[] 1537 4 #[] #[])
  fields := #[]
  methods := #[]
  instanceTypes := #[]
  staticTypes := #[]
  resolved := Array.replicate 8 none
  statics := none }

/-- the primitive byte -/
def k12 : Class := { plain "byte" none with kind := .primitive 'B', accessFlags := 0x411 }
/-- [B -/
def k13 : Class := { plain "[B" (some 0) with kind := .array 12 .byte, interfaces := #[11, 4], accessFlags := 1041 }

/-- the primitive int -/
def k14 : Class := { plain "int" none with kind := .primitive 'I', accessFlags := 0x411 }
/-- [I -/
def k15 : Class := { plain "[I" (some 0) with kind := .array 14 .int, interfaces := #[11, 4], accessFlags := 1041 }

/-- the primitive long -/
def k16 : Class := { plain "long" none with kind := .primitive 'J', accessFlags := 0x411 }
/-- [J -/
def k17 : Class := { plain "[J" (some 0) with kind := .array 16 .long, interfaces := #[11, 4], accessFlags := 1041 }

def heap : Heap := #[]
def classes : Array Class := #[k0, k1, k2, k3, k4, k5, k6, k7, k8, k9, k10, k11, k12, k13, k14, k15, k16, k17]
def interned : List (Array UInt16 × Addr) := []
def slotsUsed : Nat := 0
def theMethod : MethodId := ⟨1, 1⟩
def args0 : Array Value := #[.long 5, .long 1, .long 2, .int 3]
def aboutOver (below : List Frame) : State where
  vm := { classes := classes, interned := interned.toArray }
  heap := heap
  slotsUsed := slotsUsed
  threads := #[{ frames := .invoking theMethod args0 :: below }]
def below0 : List Frame := [.native { method := ⟨0, 0⟩, args := #[] }]
def about1 : State := aboutOver below0
def p0 : Program := .bare "" "" ""
def e0 : Env := launch0.env 0 0 0
theorem w_frames : about1.frames = Frame.invoking theMethod args0 :: below0 := rfl
set_option maxRecDepth 65536 in
theorem w_args : argsFit about1.vm theMethod args0 = true := by decide +kernel
set_option maxRecDepth 65536 in
theorem w_heap : heapFits about1 = true := by decide +kernel
set_option maxRecDepth 65536 in
theorem w_runnable : about1.curStatus? = some .runnable := by decide +kernel
set_option maxRecDepth 65536 in
theorem w_alone : about1.alone = true := by decide +kernel
set_option maxRecDepth 65536 in
theorem w_named : about1.methodNamed? x = some theMethod := by decide +kernel
set_option maxRecDepth 65536 in
theorem w_hears : about1.hears theMethod below0 = true := by decide +kernel
set_option maxRecDepth 65536 in
theorem w_ripe : about1.ripe theMethod args0 below0 = true := by decide +kernel
theorem w_running : about1.status = .running := rfl
set_option maxRecDepth 65536 in
theorem w_room : about1.hasRoom e0.platform room_1 = true :=
  launch0.hasRoom_least _ room_1 (by decide +kernel) (by decide +kernel) (by decide +kernel) (by decide +kernel) (by decide +kernel) (by decide +kernel)
theorem allAtoms_all (ts : List Jvm.Cond) (a : Array Jvm.Value) (st : Jvm.State) : (allAtoms ts).before a st = ts.all (fun c => c.before a st) := by
  induction ts with
  | nil => rfl
  | cons c t ih =>
    show (Jvm.Cond.and c (allAtoms t)).before a st = _
    rw [Jvm.Cond.before_and, ih, List.all_cons]
def words1 : List Jvm.Cond := Jvm.Cond.code x code maxLocals ret :: tables_1
/-- a 'code' word, met by the world's own term for the bytes: nothing is compared byte by byte -/
theorem code_word {y : MethodName} {bytes : ByteArray} {mx : Nat} {rt : Option FieldType} {a : Array Value} {s : State} {m : MethodId} {meth : Method} {c : Code} (h1 : s.methodNamed? y = some m) (h2 : s.vm.method? m = some meth) (h3 : meth.code = some c) (h4 : c.code = bytes)
    (h5 : (c.maxLocals == mx && c.exceptionTable.isEmpty && decide (c.maxStack ≤ mostOperands) && decide (meth.sig.returnType = rt) && !meth.locks && decide (parseMethodDescriptor y.desc = some meth.sig)) = true) : (Jvm.Cond.code y bytes mx rt).before a s = true := by
  simp only [Bool.and_eq_true, beq_iff_eq, Bool.not_eq_true', decide_eq_true_eq] at h5
  obtain ⟨⟨⟨⟨⟨g1, g2⟩, g3⟩, g4⟩, g5⟩, g6⟩ := h5
  simp [Cond.before, Cond.holds, Cond.value, h1, h2, h3, h4, g1, g2, g3, g4, g5, g6]
def isCode : Jvm.Cond → Bool
  | .code _ _ _ _ => true
  | _ => false
theorem all_split {L : List Jvm.Cond} {P : Jvm.Cond → Bool} (h1 : L.all (fun c => isCode c || P c) = true) (h2 : ∀ c ∈ L.filter isCode, P c = true) : L.all P = true := by
  refine List.all_eq_true.mpr fun c hc => ?_
  have h := List.all_eq_true.mp h1 c hc
  rcases Bool.eq_false_or_eq_true (isCode c) with hi | hi
  · exact h2 c (List.mem_filter.mpr ⟨hc, hi⟩)
  · simpa [hi] using h
set_option maxRecDepth 65536 in
theorem w_c0 : (Jvm.Cond.code x code maxLocals ret).before args0 about1 = true := code_word (m := ⟨1, 1⟩) (meth := k1m1) (c := k1c1) (by decide +kernel) rfl rfl rfl (by decide +kernel)
set_option maxRecDepth 65536 in
theorem w_c1 : (Jvm.Cond.code ({ cls := "com/example/holdfast/holdfast/cli/LatencyHistogram", name := "<init>", desc := "()V" } : Jvm.MethodName) prog_36_method_1_code (1 : Nat) (Option.none : Option Jvm.ClassFile.FieldType)).before args0 about1 = true := code_word (m := ⟨2, 0⟩) (meth := k2m0) (c := k2c0) (by decide +kernel) rfl rfl rfl (by decide +kernel)
set_option maxRecDepth 65536 in
theorem w_c2 : (Jvm.Cond.code ({ cls := "java/lang/Object", name := "<init>", desc := "()V" } : Jvm.MethodName) object_method_1_code (1 : Nat) (Option.none : Option Jvm.ClassFile.FieldType)).before args0 about1 = true := code_word (m := ⟨0, 0⟩) (meth := k0m0) (c := k0c0) (by decide +kernel) rfl rfl rfl (by decide +kernel)
set_option maxRecDepth 65536 in
theorem w_c3 : (Jvm.Cond.code ({ cls := "com/example/holdfast/holdfast/cli/LatencyHistogram", name := "record", desc := "(J)V" } : Jvm.MethodName) prog_36_method_2_code (5 : Nat) (Option.none : Option Jvm.ClassFile.FieldType)).before args0 about1 = true := code_word (m := ⟨2, 1⟩) (meth := k2m1) (c := k2c1) (by decide +kernel) rfl rfl rfl (by decide +kernel)
set_option maxRecDepth 65536 in
theorem w_c4 : (Jvm.Cond.code ({ cls := "java/lang/Math", name := "max", desc := "(JJ)J" } : Jvm.MethodName) jdk_29_method_66_code (4 : Nat) (Option.some Jvm.ClassFile.FieldType.long)).before args0 about1 = true := code_word (m := ⟨3, 1⟩) (meth := k3m1) (c := k3c1) (by decide +kernel) rfl rfl rfl (by decide +kernel)
set_option maxRecDepth 65536 in
theorem w_c5 : (Jvm.Cond.code ({ cls := "com/example/holdfast/holdfast/cli/LatencyHistogram", name := "bucket", desc := "(J)I" } : Jvm.MethodName) prog_36_method_6_code (5 : Nat) (Option.some Jvm.ClassFile.FieldType.int)).before args0 about1 = true := code_word (m := ⟨2, 3⟩) (meth := k2m3) (c := k2c3) (by decide +kernel) rfl rfl rfl (by decide +kernel)
set_option maxRecDepth 65536 in
theorem w_c6 : (Jvm.Cond.code ({ cls := "com/example/holdfast/holdfast/cli/LatencyHistogram", name := "mean", desc := "()D" } : Jvm.MethodName) prog_36_method_4_code (1 : Nat) (Option.some Jvm.ClassFile.FieldType.double)).before args0 about1 = true := code_word (m := ⟨2, 2⟩) (meth := k2m2) (c := k2c2) (by decide +kernel) rfl rfl rfl (by decide +kernel)
set_option maxRecDepth 65536 in
theorem w_c7 : (Jvm.Cond.code ({ cls := "java/lang/Long", name := "numberOfLeadingZeros", desc := "(J)I" } : Jvm.MethodName) jdk_35_method_48_code (3 : Nat) (Option.some Jvm.ClassFile.FieldType.int)).before args0 about1 = true := code_word (m := ⟨9, 0⟩) (meth := k9m0) (c := k9c0) (by decide +kernel) rfl rfl rfl (by decide +kernel)
set_option maxRecDepth 65536 in
theorem w_c8 : (Jvm.Cond.code ({ cls := "java/lang/Integer", name := "numberOfLeadingZeros", desc := "(I)I" } : Jvm.MethodName) jdk_33_method_47_code (2 : Nat) (Option.some Jvm.ClassFile.FieldType.int)).before args0 about1 = true := code_word (m := ⟨10, 0⟩) (meth := k10m0) (c := k10c0) (by decide +kernel) rfl rfl rfl (by decide +kernel)
def codes1 : List Jvm.Cond := [Jvm.Cond.code x code maxLocals ret, Jvm.Cond.code ({ cls := "com/example/holdfast/holdfast/cli/LatencyHistogram", name := "<init>", desc := "()V" } : Jvm.MethodName) prog_36_method_1_code (1 : Nat) (Option.none : Option Jvm.ClassFile.FieldType), Jvm.Cond.code ({ cls := "java/lang/Object", name := "<init>", desc := "()V" } : Jvm.MethodName) object_method_1_code (1 : Nat) (Option.none : Option Jvm.ClassFile.FieldType), Jvm.Cond.code ({ cls := "com/example/holdfast/holdfast/cli/LatencyHistogram", name := "record", desc := "(J)V" } : Jvm.MethodName) prog_36_method_2_code (5 : Nat) (Option.none : Option Jvm.ClassFile.FieldType), Jvm.Cond.code ({ cls := "java/lang/Math", name := "max", desc := "(JJ)J" } : Jvm.MethodName) jdk_29_method_66_code (4 : Nat) (Option.some Jvm.ClassFile.FieldType.long), Jvm.Cond.code ({ cls := "com/example/holdfast/holdfast/cli/LatencyHistogram", name := "bucket", desc := "(J)I" } : Jvm.MethodName) prog_36_method_6_code (5 : Nat) (Option.some Jvm.ClassFile.FieldType.int), Jvm.Cond.code ({ cls := "com/example/holdfast/holdfast/cli/LatencyHistogram", name := "mean", desc := "()D" } : Jvm.MethodName) prog_36_method_4_code (1 : Nat) (Option.some Jvm.ClassFile.FieldType.double), Jvm.Cond.code ({ cls := "java/lang/Long", name := "numberOfLeadingZeros", desc := "(J)I" } : Jvm.MethodName) jdk_35_method_48_code (3 : Nat) (Option.some Jvm.ClassFile.FieldType.int), Jvm.Cond.code ({ cls := "java/lang/Integer", name := "numberOfLeadingZeros", desc := "(I)I" } : Jvm.MethodName) jdk_33_method_47_code (2 : Nat) (Option.some Jvm.ClassFile.FieldType.int)]
set_option maxRecDepth 65536 in
theorem codes_eq : words1.filter isCode = codes1 := rfl
theorem w_codes : ∀ c ∈ words1.filter isCode, c.before args0 about1 = true := by
  rw [codes_eq]
  intro c hc
  simp only [codes1, List.mem_cons, List.not_mem_nil, or_false] at hc
  rcases hc with rfl | rfl | rfl | rfl | rfl | rfl | rfl | rfl | rfl
  · exact w_c0
  · exact w_c1
  · exact w_c2
  · exact w_c3
  · exact w_c4
  · exact w_c5
  · exact w_c6
  · exact w_c7
  · exact w_c8
set_option maxRecDepth 65536 in
theorem w_t1 : (words1.take 24).all (fun c => isCode c || c.before args0 about1) = true := by decide +kernel
set_option maxRecDepth 65536 in
theorem w_t2 : (words1.drop 24).all (fun c => isCode c || c.before args0 about1) = true := by decide +kernel
theorem w_tables : (allAtoms (Jvm.Cond.code x code maxLocals ret :: tables_1)).before args0 about1 = true := by
  rw [allAtoms_all]
  show words1.all (fun c => c.before args0 about1) = true
  refine all_split ?_ w_codes
  rw [← List.take_append_drop 24 words1, List.all_append, w_t1, w_t2]
  rfl
set_option maxRecDepth 65536 in
theorem w_case : (Jvm.Cond.and given_1 narrow_1).before args0 about1 = true := by decide +kernel
theorem w_applies : (headSpec (Jvm.Cond.code x code maxLocals ret :: tables_1) room_1).applies x e0.platform about1 = true :=
  (Spec.applies_iff w_frames).mpr ⟨w_running, w_runnable, w_alone, w_named, w_hears, w_ripe, w_room, w_tables⟩
theorem atStart : AtStart classFile x code maxLocals ret World_1 tables_1 room_1 Calls_1 rest_1 Pre_1 launch0 p0 e0 about1 theMethod args0 below0 :=
  ⟨lists_1, trivial, launch0.admits_env _ _ _, launch0.least_env, fairChoices_fair.cas, fairChoices_fair.clock, w_frames, w_args, w_heap, w_applies, trivial, trivial, w_case⟩
end start1
theorem witness_1 : WitnessClaimed_1 := ⟨start1.p0, start1.e0, start1.about1, start1.theMethod, start1.args0, start1.below0, start1.atStart⟩
end Jvm.Pilot.@@N@@
