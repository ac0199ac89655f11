import JvmDerived
import JvmDerived.Pilot.@@N@@Statement
import JvmDerived.Pilot.@@N@@Code
set_option linter.unusedVariables false
set_option linter.unusedSimpArgs false
@@BLOCK:NumsL.lean.txt@@
@@BLOCK:Masks.lean.txt@@
namespace Jvm.RoadKit
open Sem ClassFile Op Lib Jvm.Stand Jvm.Free Jvm.LawKit
section OwnGo
variable {p : Program} {l : Launch} {e : Env} {R : Room} {s : State} {m : MethodId} {args : Array Value} {below : List Frame} {meth : Method} {c : Code} {T : State} {locs : List Loc} {cells slots : Nat} {Z : State} {a0 : Array Value} {h : Heap}
/-- from A the run comes to an end of which P holds -/
def Go (p : Program) (e : Env) (below : List Frame) (P : State → Outcome → Prop) (A : State) : Prop := ∃ t o, Steps p.tables e below A t ∧ t.status = .running ∧ Ended t below o ∧ P t o
theorem Go.st {P : State → Outcome → Prop} {A B : State} (st : ∀ t, Steps p.tables e below A t → Steps p.tables e below B t) (k : Go p e below P A) : Go p e below P B := by
  obtain ⟨t, o, h1, h2⟩ := k
  exact ⟨t, o, st t h1, h2⟩
theorem Go.tr {P : State → Outcome → Prop} {A B : State} (st : Steps p.tables e below B A) (k : Go p e below P A) : Go p e below P B := Go.st (fun _ h => st.trans h) k
def Pst (s : State) (Q : Option Value → Heap → List Loc → Prop) (C S : Nat) : State → Outcome → Prop := fun t o => ∃ v L, o = .returned v ∧ Q v t.heap L ∧ FrameEnd s o t L C S
/-- a method's contract at the heap h0, for the arguments as -/
def Ct (l : Launch) (y : MethodName) (bytes : ByteArray) (maxL : Nat) (ret : Option FieldType) (ws : List Cond) (rm : Room) (Z : State) (as : Array Value) (h0 : Heap) (Q : Option Value → Heap → List Loc → Prop) : Prop :=
  MetFree l y (head1 (Cond.code y bytes maxL ret :: ws) rm) (fun a U => a = as ∧ Z.Warmed39 U.vm ∧ U.heap = h0) (fun _ _ _ _ _ => True) (fun _ U o U' => ∃ v L, o = .returned v ∧ Q v U'.heap L ∧ FrameEnd U o U' L rm.cells rm.slots)
theorem Ct.of {y : MethodName} {bytes : ByteArray} {maxL : Nat} {ret : Option FieldType} {ws : List Cond} {rm : Room} {as : Array Value} {h0 : Heap} {Q : Option Value → Heap → List Loc → Prop} {Ls : Array Slot}
    (hpl : plainFor y = true) (hef : ∀ m, entryFrame m as maxL = mkF m 0 Ls [])
    (body : ∀ (p : Program) (e : Env) (s : State) (m : MethodId) (below : List Frame) (meth : Method) (c : Code) (T : State), Stand p l e rm s m as below meth c T [] 0 0 → p.tables.exec = Jvm.exec → c.code = bytes → c.maxLocals = maxL → meth.sig.returnType = ret → meth.locks = false → s.vm.findClass y.cls = some m.cls → meth.name = y.name → Z.Warmed39 s.vm → T.heap = h0 →
      ∀ P : State → Outcome → Prop, P = Pst s Q rm.cells rm.slots → Go p e below P (T.setTop (mkF m 0 Ls []))) : Ct l y bytes maxL ret ws rm Z as h0 Q := by
  refine MetFree.of_bodySF hpl hisR ?_
  intro p e s m args below meth c s₁ Bd hml0 hP hK
  obtain ⟨rfl, hZ, hh⟩ := hP
  have X0 : Stand p l e rm s m args below meth c s₁ [] 0 0 := Stand.of_body Bd
  obtain ⟨t, o, h1, h2⟩ := body p e s m below meth c s₁ X0 Bd.exec Bd.bytes hml0 Bd.returns Bd.notSynchronized (findClass_of_methodNamed Bd.named) (name_of_methodNamed Bd.named Bd.method).1 hZ (by rw [← hh, Bd.state]; rfl) _ rfl
  exact ⟨t, o, castTop (hef m) h1, h2⟩
theorem goRet {t : FieldType} {i : Instr} {v w : Value} {pc : Nat} {Ls : Array Slot} {rest : List Value} {Q : Option Value → Heap → List Loc → Prop} {C S : Nat}
    (X : Stand p l e R s m args below meth c T locs cells slots) (hret : meth.sig.returnType = some t) (hlk : meth.locks = false)
    (st : ∀ {fs : List Frame}, (∀ (f : JFrame) (acts : List Action), f.method = m → f.locked = none → f.entered = [] → (doReturn e (T.setTop f) acts (some w)).1 = T.setFrames fs) → Steps p.tables e below (T.setTop (mkF m pc Ls (v :: rest))) (T.setFrames fs))
    (hc : cells ≤ C) (hs : slots ≤ S) (hQ : Q (some w) T.heap locs) : Go p e below (Pst s Q C S) (T.setTop (mkF m pc Ls (v :: rest))) := by
  obtain ⟨fs, hr, hrun, hended, hW, hsame⟩ := X.leave (v := some w) (fun h => by rw [hret] at h; cases h) hlk
  exact ⟨_, _, st hr, hrun, hended, _, _, rfl, hQ, ⟨_, rfl⟩, hW, hsame.mono hc hs⟩
theorem retI (X : Stand p l e R s m args below meth c T locs cells slots) (hx : p.tables.exec = Jvm.exec) {pc : Nat} {Ls : Array Slot} {z : Int32} {rest : List Value} (hret : meth.sig.returnType = some .int) (hd : decode c.code pc = .ok (.ireturn, 1)) {fs : List Frame}
    (hl : ∀ (f : JFrame) (acts : List Action), f.method = m → f.locked = none → f.entered = [] → (doReturn e (T.setTop f) acts (some (.int z))).1 = T.setFrames fs) : Steps p.tables e below (T.setTop (mkF m pc Ls (.int z :: rest))) (T.setFrames fs) :=
  retOut X hx hret rfl (Or.inl ⟨rfl, Or.inl rfl, z, rfl⟩) hd hl
theorem goI {pc : Nat} {Ls : Array Slot} {z : Int32} {rest : List Value} {Q : Option Value → Heap → List Loc → Prop} {C S : Nat} {P : State → Outcome → Prop}
    (X : Stand p l e R s m args below meth c T locs cells slots) (hx : p.tables.exec = Jvm.exec) (hret : meth.sig.returnType = some .int) (hlk : meth.locks = false) (hd : decode c.code pc = .ok (.ireturn, 1))
    (hP : P = Pst s Q C S) (hc : cells ≤ C) (hs : slots ≤ S) (hQ : Q (some (.int z)) T.heap locs) : Go p e below P (T.setTop (mkF m pc Ls (.int z :: rest))) := by
  subst hP
  exact goRet (i := .ireturn) X hret hlk (fun hr => retI X hx hret hd hr) hc hs hQ
theorem goN {pc : Nat} {Ls : Array Slot} {z : Int32} {t : FieldType} {rest : List Value} {Q : Option Value → Heap → List Loc → Prop} {C S : Nat} {P : State → Outcome → Prop}
    (X : Stand p l e R s m args below meth c T locs cells slots) (hx : p.tables.exec = Jvm.exec) (hret : meth.sig.returnType = some t) (ht : t = .boolean ∨ t = .byte ∨ t = .char ∨ t = .short) (hlk : meth.locks = false) (hd : decode c.code pc = .ok (.ireturn, 1))
    (hP : P = Pst s Q C S) (hc : cells ≤ C) (hs : slots ≤ S) (hQ : Q (some (.int (nar t z))) T.heap locs) : Go p e below P (T.setTop (mkF m pc Ls (.int z :: rest))) := by
  subst hP
  exact goRet (i := .ireturn) X hret hlk (fun hr => retN X hx hret ht hd hr) hc hs hQ
theorem goJ {pc : Nat} {Ls : Array Slot} {z : Int64} {rest : List Value} {Q : Option Value → Heap → List Loc → Prop} {C S : Nat} {P : State → Outcome → Prop}
    (X : Stand p l e R s m args below meth c T locs cells slots) (hx : p.tables.exec = Jvm.exec) (hret : meth.sig.returnType = some .long) (hlk : meth.locks = false) (hd : decode c.code pc = .ok (.lreturn, 1))
    (hP : P = Pst s Q C S) (hc : cells ≤ C) (hs : slots ≤ S) (hQ : Q (some (.long z)) T.heap locs) : Go p e below P (T.setTop (mkF m pc Ls (.long z :: rest))) := by
  subst hP
  exact goRet (i := .lreturn) X hret hlk (fun hr => retOut X hx hret rfl (Or.inr (Or.inl ⟨rfl, rfl, z, rfl⟩)) hd hr) hc hs hQ
theorem goA {pc : Nat} {Ls : Array Slot} {z : Addr} {t : FieldType} {rest : List Value} {Q : Option Value → Heap → List Loc → Prop} {C S : Nat} {P : State → Outcome → Prop}
    (X : Stand p l e R s m args below meth c T locs cells slots) (hx : p.tables.exec = Jvm.exec) (hret : meth.sig.returnType = some t) (ht : t.isReference = true) (hn : narrow t (.ref z) = .ref z) (hlk : meth.locks = false) (hd : decode c.code pc = .ok (.areturn, 1))
    (hP : P = Pst s Q C S) (hc : cells ≤ C) (hs : slots ≤ S) (hQ : Q (some (.ref z)) T.heap locs) : Go p e below P (T.setTop (mkF m pc Ls (.ref z :: rest))) := by
  subst hP
  exact goRet (i := .areturn) X hret hlk (fun hr => retOut X hx hret hn (Or.inr (Or.inr (Or.inr (Or.inr ⟨rfl, ht, rfl⟩)))) hd hr) hc hs hQ
theorem goV {pc : Nat} {Ls : Array Slot} {Q : Option Value → Heap → List Loc → Prop} {C S : Nat} {P : State → Outcome → Prop}
    (X : Stand p l e R s m args below meth c T locs cells slots) (hx : p.tables.exec = Jvm.exec) (hret : meth.sig.returnType = none) (hlk : meth.locks = false) (hd : decode c.code pc = .ok (.return_, 1))
    (hP : P = Pst s Q C S) (hc : cells ≤ C) (hs : slots ≤ S) (hQ : Q none T.heap locs) : Go p e below P (T.setTop (mkF m pc Ls [])) := by
  subst hP
  obtain ⟨fs, hr, hrun, hended, hW, hsame⟩ := X.leave (v := none) (fun _ => rfl) hlk
  exact ⟨_, _, X.returnOut hx hret hd hr, hrun, hended, _, _, rfl, hQ, ⟨_, rfl⟩, hW, hsame.mono hc hs⟩
/-- a static call by its contract -/
theorem callCt (X : Stand p l e R s m args below meth c T locs cells slots) (hx : p.tables.exec = Jvm.exec) (hZ : Z.Warmed39 s.vm) (eT : T.heap = h) {own : String} {index : Nat} {y : MethodName} {bytes : ByteArray} {maxL : Nat} {ret : Option FieldType} {rm : Room} {Q : Option Value → Heap → List Loc → Prop} {argsL rest : List Value}
    (hown : s.vm.findClass own = some m.cls) (w1 : (Cond.methodLink own index y).before a0 Z = true) (w2 : (Cond.static y).before a0 Z = true) (w3 : (Cond.initialized y.cls).before a0 Z = true) (w4 : (Cond.code y bytes maxL ret).before a0 Z = true)
    (hy : y.cls ≠ "java/lang/invoke/MethodHandle" ∧ y.cls ≠ "java/lang/invoke/VarHandle") (hM : Ct l y bytes maxL ret [] rm Z argsL.toArray h Q) {W : Nat} (hf : rm.frames + 1 ≤ R.frames) (hl : W + (maxL + 11) + rm.locals ≤ R.locals)
    {g : JFrame} (hg : g.method = m) (hsize : g.locals.size = c.maxLocals) (hlen : ∀ sig, parseMethodDescriptor y.desc = some sig → argsL.length = sig.parameters.length) (hstack : g.stack = argsL.reverse ++ rest) (hW : 2 * g.monitorRoom + (rest.map fun v => v.category).sum ≤ W)
    (hdg : decode c.code g.pc = .ok (.invokestatic index, 3)) (hc : cells + rm.cells ≤ R.cells) (hs : slots + rm.slots ≤ R.slots) :
    ∃ (v : Option Value) (T' : State) (L : List Loc), Stand p l e R s m args below meth c T' (locs ++ L) (cells + rm.cells) (slots + rm.slots) ∧ Q v T'.heap L ∧ ∀ target, Steps p.tables e below (T'.setTop { g with pc := g.pc + 3, stack := v.toList ++ rest }) target → Steps p.tables e below (T.setTop g) target := by
  subst eT
  obtain ⟨v, _, ⟨T', L', k', n'⟩, -, X', ⟨Lc, hQ, l18, y18, z18⟩, st⟩ := Jvm.LawKit.callS X hx (y := y) hown (mvT hZ w1) (mvT hZ w2) (mvT hZ w3) (mvT hZ w4) hy (backOf (W := W) hM hZ w4 w3 hf hl) hg hsize hlen hstack hW hdg (fun _ _ => ⟨rfl, rfl, hc, hs⟩)
  dsimp only [Pt.U, Pt.locs, Pt.cells, Pt.slots] at X' l18 y18 z18 st hQ
  subst l18 y18 z18
  exact ⟨v, T', Lc, X', hQ, st⟩
/-- a constructor by its contract -/
theorem callCtor (X : Stand p l e R s m args below meth c T locs cells slots) (hx : p.tables.exec = Jvm.exec) (hZ : Z.Warmed39 s.vm) (eT : T.heap = h) {own : String} {index : Nat} {y : MethodName} (hy1 : y.name = "<init>") {bytes : ByteArray} {maxL : Nat} {rm : Room} {Q : Option Value → Heap → List Loc → Prop} {a : Addr} {argsL rest : List Value}
    (hown : s.vm.findClass own = some m.cls) (w1 : (Cond.methodLink own index y).before a0 Z = true) (w2 : (Cond.instanceMethod y).before a0 Z = true) (w3 : (Cond.initialized y.cls).before a0 Z = true) (w4 : (Cond.code y bytes maxL none).before a0 Z = true)
    (hy : y.cls ≠ "java/lang/invoke/MethodHandle" ∧ y.cls ≠ "java/lang/invoke/VarHandle") (hM : Ct l y bytes maxL none [] rm Z (.ref a :: argsL).toArray h Q) {W : Nat} (hf : rm.frames + 1 ≤ R.frames) (hl : W + (maxL + 11) + rm.locals ≤ R.locals)
    {g : JFrame} (hg : g.method = m) (hsize : g.locals.size = c.maxLocals) (hlen : ∀ sig, parseMethodDescriptor y.desc = some sig → argsL.length = sig.parameters.length) (hstack : g.stack = argsL.reverse ++ .ref a :: rest) (hW : 2 * g.monitorRoom + (rest.map fun v => v.category).sum ≤ W)
    (hdg : decode c.code g.pc = .ok (.invokespecial index, 3)) (hc : cells + rm.cells ≤ R.cells) (hs : slots + rm.slots ≤ R.slots) :
    ∃ (v : Option Value) (T' : State) (L : List Loc), Stand p l e R s m args below meth c T' (locs ++ L) (cells + rm.cells) (slots + rm.slots) ∧ Q v T'.heap L ∧ ∀ target, Steps p.tables e below (T'.setTop { g with pc := g.pc + 3, stack := v.toList ++ rest }) target → Steps p.tables e below (T.setTop g) target := by
  subst eT
  obtain ⟨v, _, ⟨T', L', k', n'⟩, -, X', ⟨Lc, hQ, l18, y18, z18⟩, st⟩ := X.specialBack hx (y := y) hy1 hown (mvT hZ w1) (mvT hZ w2) (mvT hZ w4) hy (backOf (W := W) hM hZ w4 w3 hf hl) hg hsize (Steps.refl _) hlen hstack hW hdg (fun _ _ => ⟨rfl, rfl, hc, hs⟩)
  dsimp only [Pt.U, Pt.locs, Pt.cells, Pt.slots] at X' l18 y18 z18 st hQ
  subst l18 y18 z18
  exact ⟨v, T', Lc, X', hQ, fun _ k => st.trans k⟩
/-- an instance method that its own class selects, by its contract -/
theorem callCv (X : Stand p l e R s m args below meth c T locs cells slots) (hx : p.tables.exec = Jvm.exec) (hZ : Z.Warmed39 s.vm) (eT : T.heap = h) {own : String} {index : Nat} {y : MethodName} {bytes : ByteArray} {maxL : Nat} {ret : Option FieldType} {rm : Room} {Q : Option Value → Heap → List Loc → Prop} {a : Addr} {argsL rest : List Value}
    (hown : s.vm.findClass own = some m.cls) (w1 : (Cond.methodLink own index y).before a0 Z = true) (w5 : (Cond.declares y).before a0 Z = true) (w6 : (Cond.selects y.cls y y).before a0 Z = true) (w2 : (Cond.instanceMethod y).before a0 Z = true) (w3 : (Cond.initialized y.cls).before a0 Z = true) (w4 : (Cond.code y bytes maxL ret).before a0 Z = true)
    (hy : y.cls ≠ "java/lang/invoke/MethodHandle" ∧ y.cls ≠ "java/lang/invoke/VarHandle") (E : Exa Z h a y.cls) (hM : Ct l y bytes maxL ret [] rm Z (.ref a :: argsL).toArray h Q) {W : Nat} (hf : rm.frames + 1 ≤ R.frames) (hl : W + (maxL + 11) + rm.locals ≤ R.locals)
    {g : JFrame} (hg : g.method = m) (hsize : g.locals.size = c.maxLocals) (hlen : ∀ sig, parseMethodDescriptor y.desc = some sig → argsL.length = sig.parameters.length) (hstack : g.stack = argsL.reverse ++ .ref a :: rest) (hW : 2 * g.monitorRoom + (rest.map fun v => v.category).sum ≤ W)
    (hdg : decode c.code g.pc = .ok (.invokevirtual index, 3)) (hc : cells + rm.cells ≤ R.cells) (hs : slots + rm.slots ≤ R.slots) :
    ∃ (v : Option Value) (T' : State) (L : List Loc), Stand p l e R s m args below meth c T' (locs ++ L) (cells + rm.cells) (slots + rm.slots) ∧ Q v T'.heap L ∧ ∀ target, Steps p.tables e below (T'.setTop { g with pc := g.pc + 3, stack := v.toList ++ rest }) target → Steps p.tables e below (T.setTop g) target := by
  subst eT
  obtain ⟨cq, kq, qa, qb, qc⟩ := isOf hZ rfl E
  obtain ⟨v, _, ⟨T', L', k', n'⟩, -, X', ⟨Lc, hQ, l18, y18, z18⟩, st⟩ := X.virtualBack hx (y := y) (z := y) hown (mvT hZ w1) (mvT hZ w5) (notFace_of_selects (args := #[]) (mvT hZ w6)) (mvT hZ w6) (mvT hZ w2) hy (backOf (W := W) hM hZ w4 w3 hf hl) qa qc hg hsize (Steps.refl _) hlen hstack hW hdg (fun _ _ => ⟨rfl, rfl, hc, hs⟩)
  dsimp only [Pt.U, Pt.locs, Pt.cells, Pt.slots] at X' l18 y18 z18 st hQ
  subst l18 y18 z18
  exact ⟨v, T', Lc, X', hQ, fun _ k => st.trans k⟩
/-- a private instance method by its contract -/
theorem callCp (X : Stand p l e R s m args below meth c T locs cells slots) (hx : p.tables.exec = Jvm.exec) (hZ : Z.Warmed39 s.vm) (eT : T.heap = h) {own : String} {index : Nat} {y : MethodName} {bytes : ByteArray} {maxL k : Nat} {ret : Option FieldType} {rm : Room} {Q : Option Value → Heap → List Loc → Prop} {a : Addr} {argsL rest : List Value}
    (hown : s.vm.findClass own = some m.cls) (w1 : (Cond.methodLink own index y).before a0 Z = true) (w2 : (Cond.instanceMethod y).before a0 Z = true) (w7 : (Cond.privateMethod y).before a0 Z = true) (wi : (Cond.instantiable y.cls k).before a0 Z = true) (w3 : (Cond.initialized y.cls).before a0 Z = true) (w4 : (Cond.code y bytes maxL ret).before a0 Z = true)
    (hy : y.cls ≠ "java/lang/invoke/MethodHandle" ∧ y.cls ≠ "java/lang/invoke/VarHandle") (E : Exa Z h a y.cls) (hM : Ct l y bytes maxL ret [] rm Z (.ref a :: argsL).toArray h Q) {W : Nat} (hf : rm.frames + 1 ≤ R.frames) (hl : W + (maxL + 11) + rm.locals ≤ R.locals)
    {g : JFrame} (hg : g.method = m) (hsize : g.locals.size = c.maxLocals) (hlen : ∀ sig, parseMethodDescriptor y.desc = some sig → argsL.length = sig.parameters.length) (hstack : g.stack = argsL.reverse ++ .ref a :: rest) (hW : 2 * g.monitorRoom + (rest.map fun v => v.category).sum ≤ W)
    (hdg : decode c.code g.pc = .ok (.invokevirtual index, 3)) (hc : cells + rm.cells ≤ R.cells) (hs : slots + rm.slots ≤ R.slots) :
    ∃ (v : Option Value) (T' : State) (L : List Loc), Stand p l e R s m args below meth c T' (locs ++ L) (cells + rm.cells) (slots + rm.slots) ∧ Q v T'.heap L ∧ ∀ target, Steps p.tables e below (T'.setTop { g with pc := g.pc + 3, stack := v.toList ++ rest }) target → Steps p.tables e below (T.setTop g) target := by
  subst eT
  obtain ⟨cq, q1, q2⟩ := E.cell
  have hpriv : s.PrivateAt y := Cond.privateMethod_at (mvP hZ w7 (args := #[]))
  obtain ⟨cc, kk, i1, i2, -, i4, -⟩ := Cond.instantiable_spec (mvT (args := args) hZ wi)
  have hni : kk.isInterface = false := by simp only [Bool.or_eq_false_iff] at i4; exact i4.1
  have hsel := selects_self_of_private (args := args) i1 i2 hni hpriv (mvT hZ w2) hy
  obtain ⟨v, _, ⟨T', L', k', n'⟩, -, X', ⟨Lc, hQ, l18, y18, z18⟩, st⟩ := X.privateBack hx (y := y) hown (mvT hZ w1) (mvT hZ w2) hsel hpriv (mvT hZ w4) hy (backOf (W := W) hM hZ w4 w3 hf hl) hg hsize (Steps.refl _) q1 q2 hlen hstack hW hdg (fun _ _ => ⟨rfl, rfl, hc, hs⟩)
  dsimp only [Pt.U, Pt.locs, Pt.cells, Pt.slots] at X' l18 y18 z18 st hQ
  subst l18 y18 z18
  exact ⟨v, T', Lc, X', hQ, fun _ k => st.trans k⟩
end OwnGo
end Jvm.RoadKit
namespace Jvm.RoadKit
open Sem ClassFile Op Lib Jvm.Stand Jvm.Free Jvm.LawKit
section OwnAry
variable {p : Program} {l : Launch} {e : Env} {R : Room} {s : State} {m : MethodId} {args : Array Value} {below : List Frame} {meth : Method} {c : Code} {T : State} {locs : List Loc} {cells slots : Nat} {Z : State} {a0 : Array Value} {h h' : Heap} {a b : Addr} {ws : List Addr}
/-- the int j is the natural i -/
def IsN (j : Int32) (i : Nat) : Prop := ¬ j < 0 ∧ j.toNatClampNeg = i
def updN {α : Type} (f : Nat → α) (i : Nat) (x : α) : Nat → α := fun k => if k = i then x else f k
theorem updN_hit {α : Type} (f : Nat → α) (i : Nat) (x : α) : updN f i x i = x := if_pos rfl
theorem updN_miss {α : Type} {f : Nat → α} {i k : Nat} {x : α} (q : k ≠ i) : updN f i x k = f k := if_neg q
theorem isN_ofNat {n : Nat} (q : n < 2 ^ 31) : IsN (Int32.ofNat n) n := by
  have e : (Int32.ofNat n).toInt = n := len_toInt q
  exact ⟨by simp only [Int32.lt_iff_toInt_lt, e, Int32.reduceToInt]; omega, by simp only [Int32.toNatClampNeg, e]; omega⟩
theorem isN_of {j : Int32} {n : Nat} (q : j.toInt = n) : IsN j n :=
  ⟨by simp only [Int32.lt_iff_toInt_lt, q, Int32.reduceToInt]; omega, by simp only [Int32.toNatClampNeg, q]; omega⟩
theorem IsN.toInt {j : Int32} {n : Nat} (q : IsN j n) : j.toInt = n := by
  obtain ⟨q1, q2⟩ := q
  simp only [Int32.lt_iff_toInt_lt, Int32.reduceToInt, Int32.toNatClampNeg] at q1 q2; omega
/-- the array at a: of ty, n places; the place i holds mk (f i) -/
def Ary {α : Type} (Z : State) (h : Heap) (a : Addr) (ty : FieldType) (mk : α → Value) (n : Nat) (f : Nat → α) : Prop := ∃ c : Cell, Arr Z h a c ty ∧ c.slots.size = n ∧ n < 2 ^ 31 ∧ ∀ i, i < n → c.slots[i]? = some (mk (f i))
variable {α : Type} {ty : FieldType} {mk : α → Value} {n : Nat} {f f' : Nat → α}
theorem Ary.lt (V : Ary Z h a ty mk n f) : a < h.size := by obtain ⟨c, A, -⟩ := V; exact A.lt
theorem Ary.ext (V : Ary Z h a ty mk n f) (E : Ext h h') : Ary Z h' a ty mk n f := by obtain ⟨c, A, r⟩ := V; exact ⟨c, A.ext E, r⟩
theorem Ary.other {sl : Nat} {v : Value} (V : Ary Z h b ty mk n f) (W : Wr h h' a sl v) (q : b ≠ a) : Ary Z h' b ty mk n f := by obtain ⟨c, A, r⟩ := V; exact ⟨c, A.other W q, r⟩
theorem Ary.keep (V : Ary Z h a ty mk n f) (K : Keep h h' ws) (q : a ∉ ws) : Ary Z h' a ty mk n f := by obtain ⟨c, A, r⟩ := V; exact ⟨c, ⟨K.2.1 a c A.1 q, A.2⟩, r⟩
theorem Ary.congr (V : Ary Z h a ty mk n f) (q : ∀ i, i < n → f i = f' i) : Ary Z h a ty mk n f' := by
  obtain ⟨c, A, S, B, H⟩ := V; exact ⟨c, A, S, B, fun i hi => by rw [← q i hi]; exact H i hi⟩
theorem Ary.small (V : Ary Z h a ty mk n f) : n < 2 ^ 31 := by obtain ⟨c, A, S, B, H⟩ := V; exact B
theorem Ary.set {i : Nat} {x : α} (V : Ary Z h a ty mk n f) (W : Wr h h' a i (mk x)) : Ary Z h' a ty mk n (updN f i x) := by
  obtain ⟨c, A, S, B, H⟩ := V
  refine ⟨c.setSlot i (mk x), A.same W, by rw [sz_set]; exact S, B, fun k hk => ?_⟩
  by_cases e : k = i
  · subst e
    rw [updN_hit]
    exact Array.getElem?_setIfInBounds_self_of_lt (by omega)
  · rw [updN_miss e]
    exact (Array.getElem?_setIfInBounds_ne (Ne.symm e)).trans (H k hk)
theorem Ary.ne {C : String} {k : Nat} (V : Ary Z h a ty mk n f) (E : Exa Z h b C) (wi : (Cond.instantiable C k).before a0 Z = true) : b ≠ a := by
  obtain ⟨c, A, -⟩ := V; exact ne_arr E wi A
theorem Ary.new {k : ClassId} {z : Int32} {d : α} (A : Arr Z h a (newA k ty z) ty) (hz : IsN z n) (hd : defaultValue ty = mk d) : Ary Z h a ty mk n (fun _ => d) := by
  obtain ⟨h1, rfl⟩ := hz
  exact ⟨_, A, sz_new _ _ _, (back32 h1).2, fun i hi => by simp [newA, hi, hd]⟩
theorem aryLen (X : Stand p l e R s m args below meth c T locs cells slots) (hx : p.tables.exec = Jvm.exec) (hZ : Z.Warmed39 s.vm) (eT : T.heap = h) (V : Ary Z h a ty mk n f) {g : JFrame} (hg : g.method = m) {rest : List Value} (hs : g.stack = .ref a :: rest) (hd : decode c.code g.pc = .ok (.arraylength, 1)) :
    ∀ t, Steps p.tables e below (T.setTop { g with pc := g.pc + 1, stack := .int (Int32.ofNat n) :: rest }) t → Steps p.tables e below (T.setTop g) t := by
  obtain ⟨c', A, S, B, H⟩ := V
  intro t k
  exact X.arraylength hx (by rw [eT]; exact A.1) (State.isArrayOf_alike hZ.alike A.2.1) hg hs hd t (by rw [S]; exact k)
theorem aryLdI {f : Nat → Int32} (X : Stand p l e R s m args below meth c T locs cells slots) (hx : p.tables.exec = Jvm.exec) (hZ : Z.Warmed39 s.vm) (eT : T.heap = h) (V : Ary Z h a .int Value.int n f) {j : Int32} {i : Nat} (hj : IsN j i) (hi : i < n) {g : JFrame} (hg : g.method = m) {rest : List Value} (hs : g.stack = .int j :: .ref a :: rest) (hd : decode c.code g.pc = .ok (.iaload, 1)) :
    ∀ t, Steps p.tables e below (T.setTop { g with pc := g.pc + 1, stack := .int (f i) :: rest }) t → Steps p.tables e below (T.setTop g) t := by
  obtain ⟨c', A, S, B, H⟩ := V
  obtain ⟨h1, rfl⟩ := hj
  exact fun t k => X.iaload hx (by rw [eT]; exact A.1) (State.isArrayOf_alike hZ.alike A.2.1) A.2.2 (fun q => q.elim h1 (fun q => by omega)) (H _ hi) hg hs hd t k
theorem aryLdJ {f : Nat → Int64} (X : Stand p l e R s m args below meth c T locs cells slots) (hx : p.tables.exec = Jvm.exec) (hZ : Z.Warmed39 s.vm) (eT : T.heap = h) (V : Ary Z h a .long Value.long n f) {j : Int32} {i : Nat} (hj : IsN j i) (hi : i < n) {g : JFrame} (hg : g.method = m) {rest : List Value} (hs : g.stack = .int j :: .ref a :: rest) (hd : decode c.code g.pc = .ok (.laload, 1)) :
    ∀ t, Steps p.tables e below (T.setTop { g with pc := g.pc + 1, stack := .long (f i) :: rest }) t → Steps p.tables e below (T.setTop g) t := by
  obtain ⟨c', A, S, B, H⟩ := V
  obtain ⟨h1, rfl⟩ := hj
  exact fun t k => X.laload hx (by rw [eT]; exact A.1) (State.isArrayOf_alike hZ.alike A.2.1) A.2.2 (fun q => q.elim h1 (fun q => by omega)) (H _ hi) hg hs hd t k
theorem aryLdB {f : Nat → Int32} (X : Stand p l e R s m args below meth c T locs cells slots) (hx : p.tables.exec = Jvm.exec) (hZ : Z.Warmed39 s.vm) (eT : T.heap = h) (V : Ary Z h a .byte Value.int n f) {j : Int32} {i : Nat} (hj : IsN j i) (hi : i < n) {g : JFrame} (hg : g.method = m) {rest : List Value} (hs : g.stack = .int j :: .ref a :: rest) (hd : decode c.code g.pc = .ok (.baload, 1)) :
    ∀ t, Steps p.tables e below (T.setTop { g with pc := g.pc + 1, stack := .int (f i) :: rest }) t → Steps p.tables e below (T.setTop g) t := by
  obtain ⟨c', A, S, B, H⟩ := V
  obtain ⟨h1, rfl⟩ := hj
  exact fun t k => X.baloadBytes hx (by rw [eT]; exact A.1) (State.isArrayOf_alike hZ.alike A.2.1) A.2.2 (fun q => q.elim h1 (fun q => by omega)) (H _ hi) hg hs hd t k
theorem aryStI {f : Nat → Int32} (X : Stand p l e R s m args below meth c T locs cells slots) (hx : p.tables.exec = Jvm.exec) (hZ : Z.Warmed39 s.vm) (eT : T.heap = h) (V : Ary Z h a .int Value.int n f) {j x : Int32} {i : Nat} (hj : IsN j i) (hi : i < n) {g : JFrame} (hg : g.method = m) {rest : List Value} (hs : g.stack = .int x :: .int j :: .ref a :: rest) (hd : decode c.code g.pc = .ok (.iastore, 1)) :
    ∃ T' h', Stand p l e R s m args below meth c T' (locs ++ [⟨a, i⟩]) cells slots ∧ T'.heap = h' ∧ Wr h h' a i (.int x) ∧ Ary Z h' a .int Value.int n (updN f i x) ∧ ∀ target, Steps p.tables e below (T'.setTop { g with pc := g.pc + 1, stack := rest }) target → Steps p.tables e below (T.setTop g) target := by
  obtain ⟨c', A, S, B, H⟩ := id V
  obtain ⟨h1, rfl⟩ := hj
  obtain ⟨T', h', X', e', W', st⟩ := stI X hx hZ eT A (fun q => q.elim h1 (fun q => by omega)) hg hs hd
  exact ⟨T', h', X', e', W', V.set (mk := Value.int) W', st⟩
theorem aryStJ {f : Nat → Int64} (X : Stand p l e R s m args below meth c T locs cells slots) (hx : p.tables.exec = Jvm.exec) (hZ : Z.Warmed39 s.vm) (eT : T.heap = h) (V : Ary Z h a .long Value.long n f) {j : Int32} {x : Int64} {i : Nat} (hj : IsN j i) (hi : i < n) {g : JFrame} (hg : g.method = m) {rest : List Value} (hs : g.stack = .long x :: .int j :: .ref a :: rest) (hd : decode c.code g.pc = .ok (.lastore, 1)) :
    ∃ T' h', Stand p l e R s m args below meth c T' (locs ++ [⟨a, i⟩]) cells slots ∧ T'.heap = h' ∧ Wr h h' a i (.long x) ∧ Ary Z h' a .long Value.long n (updN f i x) ∧ ∀ target, Steps p.tables e below (T'.setTop { g with pc := g.pc + 1, stack := rest }) target → Steps p.tables e below (T.setTop g) target := by
  obtain ⟨c', A, S, B, H⟩ := id V
  obtain ⟨h1, rfl⟩ := hj
  obtain ⟨T', h', X', e', W', st⟩ := stJ X hx hZ eT A (fun q => q.elim h1 (fun q => by omega)) hg hs hd
  exact ⟨T', h', X', e', W', V.set (mk := Value.long) W', st⟩
theorem aryStB {f : Nat → Int32} (X : Stand p l e R s m args below meth c T locs cells slots) (hx : p.tables.exec = Jvm.exec) (hZ : Z.Warmed39 s.vm) (eT : T.heap = h) (V : Ary Z h a .byte Value.int n f) {j x : Int32} {i : Nat} (hj : IsN j i) (hi : i < n) {g : JFrame} (hg : g.method = m) {rest : List Value} (hs : g.stack = .int x :: .int j :: .ref a :: rest) (hd : decode c.code g.pc = .ok (.bastore, 1)) :
    ∃ T' h', Stand p l e R s m args below meth c T' (locs ++ [⟨a, i⟩]) cells slots ∧ T'.heap = h' ∧ Wr h h' a i (.int x.toInt8.toInt32) ∧ Ary Z h' a .byte Value.int n (updN f i x.toInt8.toInt32) ∧ ∀ target, Steps p.tables e below (T'.setTop { g with pc := g.pc + 1, stack := rest }) target → Steps p.tables e below (T.setTop g) target := by
  obtain ⟨c', A, S, B, H⟩ := id V
  obtain ⟨h1, rfl⟩ := hj
  obtain ⟨T', h', X', e', W', st⟩ := stB X hx hZ eT A (fun q => q.elim h1 (fun q => by omega)) hg hs hd
  exact ⟨T', h', X', e', W', V.set (mk := Value.int) W', st⟩
theorem aryStZ {f : Nat → Int32} (X : Stand p l e R s m args below meth c T locs cells slots) (hx : p.tables.exec = Jvm.exec) (hZ : Z.Warmed39 s.vm) (eT : T.heap = h) (V : Ary Z h a .boolean Value.int n f) {j x : Int32} {i : Nat} (hj : IsN j i) (hi : i < n) {g : JFrame} (hg : g.method = m) {rest : List Value} (hs : g.stack = .int x :: .int j :: .ref a :: rest) (hd : decode c.code g.pc = .ok (.bastore, 1)) :
    ∃ T' h', Stand p l e R s m args below meth c T' (locs ++ [⟨a, i⟩]) cells slots ∧ T'.heap = h' ∧ Wr h h' a i (.int (x &&& 1)) ∧ Ary Z h' a .boolean Value.int n (updN f i (x &&& 1)) ∧ ∀ target, Steps p.tables e below (T'.setTop { g with pc := g.pc + 1, stack := rest }) target → Steps p.tables e below (T.setTop g) target := by
  obtain ⟨c', A, S, B, H⟩ := id V
  obtain ⟨h1, rfl⟩ := hj
  obtain ⟨T', h', X', e', W', st⟩ := stZ X hx hZ eT A (fun q => q.elim h1 (fun q => by omega)) hg hs hd
  exact ⟨T', h', X', e', W', V.set (mk := Value.int) W', st⟩
end OwnAry
end Jvm.RoadKit
namespace Jvm.Kit
open Jvm.RoadKit
theorem own_gt (x y : Int64) : (0 : Int32) < lcmpW x y ↔ y.toInt < x.toInt := by
  rw [← Int64.lt_iff_toInt_lt]; unfold lcmpW
  by_cases h : y < x
  · simp [h]
  · by_cases h2 : x = y
    · subst h2; simp
    · simp [h, h2]
theorem own_lt (x y : Int64) : lcmpW x y < (0 : Int32) ↔ x.toInt < y.toInt := by
  have e : x.toInt < y.toInt ↔ ¬ y < x ∧ x ≠ y := by
    rw [Int64.lt_iff_toInt_lt, ne_eq, ← Int64.toInt_inj]; omega
  rw [e]; unfold lcmpW
  by_cases h : y < x
  · simp [h]
  · by_cases h2 : x = y
    · subst h2; simp
    · simp [h, h2]
theorem own_ceq (x y : Int64) : lcmpW x y = (0 : Int32) ↔ x = y := by
  unfold lcmpW
  by_cases h : y < x
  · simp [h]; intro q; subst q; exact absurd h (by simp)
  · by_cases h2 : x = y
    · subst h2; simp
    · simp [h, h2]
theorem own_lti {x : Int32} {r : Int32} {k : Int} (e : r.toInt = k) : x < r ↔ x.toInt < k := by rw [Int32.lt_iff_toInt_lt, e]
theorem own_gti {x : Int32} {r : Int32} {k : Int} (e : r.toInt = k) : r < x ↔ k < x.toInt := by rw [Int32.lt_iff_toInt_lt, e]
theorem own_m (a : Int32) : 0 ≤ (a &&& (2147483647 : Int32)).toInt := by
  have h := i32_and_bounds a (m := 2147483647) (by decide)
  rw [Kit.i32_nonneg] at h; exact h.1
theorem own_mk (a : Int32) {k : Int32} {n : Int} (hk : 0 ≤ k) (e : k.toInt = n) : 0 ≤ (a &&& k).toInt ∧ (a &&& k).toInt ≤ n := by
  have h := i32_and_bounds a hk
  rw [Kit.i32_nonneg, Int32.le_iff_toInt_le, e] at h; exact h
theorem own_rem {a b : Int32} (ha : 0 ≤ a.toInt) (hb : 0 < b.toInt) : 0 ≤ (a % b).toInt ∧ (a % b).toInt < b.toInt := by
  rw [i32_rem_nonneg ha]; exact ⟨Int.emod_nonneg _ (by omega), Int.emod_lt_of_pos _ hb⟩
theorem own_one : (1 : Int32).toInt = 1 := by decide
theorem own_zero : (0 : Int32).toInt = 0 := by decide
theorem own_zero64 : (0 : Int64).toInt = 0 := by decide
theorem own_one64 : (1 : Int64).toInt = 1 := by decide
theorem own_nz {a : Int32} (h : 0 < a.toInt) : a ≠ 0 := fun q => by rw [q] at h; exact absurd h (by decide)
end Jvm.Kit
namespace Jvm.Kit
theorem own_succ (i : Nat) : Int32.ofNat i + (1 : Int32) = Int32.ofNat (i + 1) := by rw [Int32.ofNat_add]; rfl
theorem own_tn {n : Nat} (q : n < 2 ^ 31) : (Int32.ofNat n).toInt = n := Jvm.RoadKit.len_toInt q
theorem own_ltN {i n : Nat} (hi : i < 2 ^ 31) (hn : n < 2 ^ 31) : Int32.ofNat i < Int32.ofNat n ↔ i < n := by
  rw [Int32.lt_iff_toInt_lt, own_tn hi, own_tn hn]; omega
theorem own_nat {j : Int32} (h : 0 ≤ j.toInt) : ∃ n : Nat, j = Int32.ofNat n ∧ n < 2 ^ 31 ∧ j.toInt = n := by
  have := j.toInt_lt
  have hn : j.toInt.toNat < 2 ^ 31 := by omega
  exact ⟨j.toInt.toNat, Int32.toInt_inj.mp (by rw [own_tn hn]; omega), hn, by omega⟩
end Jvm.Kit
namespace Jvm.Pilot.@@N@@
open Jvm Jvm.ClassFile Sem Op Lib Jvm.Free Jvm.Stand Jvm.LawKit Jvm.RoadKit Bundle Jvm.Pilot.@@N@@.Jvm.D
open Jvm.Kit
def own_us (w : Int64) (n : Nat) : Int64 := (UInt64.ofNat (w.toUInt64.toNat >>> n)).toInt64
theorem own_sh : ∀ n : Fin 64, (((Int32.ofNat n) &&& 0x3f).toInt64.toUInt64).toNat = n := by decide +kernel
theorem own_small (w : Int64) (n : Nat) : w.toUInt64.toNat >>> n < 2 ^ 64 := Nat.lt_of_le_of_lt (Nat.shiftRight_le _ _) w.toUInt64.toNat_lt
theorem own_lushr {y : Int32} {n : Nat} (hn : n < 64) (hy : y = Int32.ofNat n) (w : Int64) : ((w.toUInt64 >>> (y &&& 0x3f).toInt64.toUInt64).toInt64) = own_us w n := by
  subst hy; unfold own_us; congr 1
  apply UInt64.toNat_inj.mp
  rw [UInt64.toNat_shiftRight, own_sh ⟨n, hn⟩, UInt64.toNat_ofNat', Nat.mod_eq_of_lt (own_small w n)]
  show _ >>> (n % 64) = _
  rw [Nat.mod_eq_of_lt hn]
theorem own_us_us (w : Int64) (a b : Nat) : own_us (own_us w a) b = own_us w (a + b) := by
  unfold own_us; congr 2
  rw [UInt64.toUInt64_toInt64, UInt64.toNat_ofNat', Nat.mod_eq_of_lt (own_small w a), Nat.shiftRight_add]
theorem own_us_0 (w : Int64) : own_us w 0 = w := by
  unfold own_us; rw [Nat.shiftRight_zero, UInt64.ofNat_toNat, Int64.toInt64_toUInt64]
theorem own_us_z (w : Int64) (n : Nat) : own_us w n = 0 ↔ w.toUInt64.toNat < 2 ^ n := by
  have e : own_us w n = 0 ↔ w.toUInt64.toNat >>> n = 0 := by
    unfold own_us
    constructor
    · intro h
      have h2 : (UInt64.ofNat (w.toUInt64.toNat >>> n)).toInt64.toUInt64.toNat = 0 := by rw [h]; rfl
      rw [UInt64.toUInt64_toInt64, UInt64.toNat_ofNat', Nat.mod_eq_of_lt (own_small w n)] at h2; exact h2
    · intro h; rw [h]; rfl
  rw [e, Nat.shiftRight_eq_div_pow, Nat.div_eq_zero_iff]
  have := Nat.two_pow_pos n
  omega
theorem own_ti (w : Int64) : (0 ≤ w.toInt ↔ w.toUInt64.toNat < 2 ^ 63) ∧ (0 ≤ w.toInt → w.toInt = w.toUInt64.toNat) := by
  have e : w.toInt = w.toBitVec.toInt := rfl
  have e2 : w.toUInt64.toNat = w.toBitVec.toNat := rfl
  have := w.toBitVec.isLt
  rw [e, e2, BitVec.toInt_eq_toNat_cond]
  split <;> omega
def own_fits (w : Int64) (n : Nat) : Prop := n = 11 ∨ w.toUInt64.toNat < 2 ^ (7 * (n - 1))
def own_by (w : Int64) (k : Nat) : Int32 := (own_us w (7 * k) &&& (127 : Int64)).toInt32.toInt8.toInt32
def own_pr (u i : Int32) : Int32 := (u + (31 : Int32) * i).toInt8.toInt32
def own_w (w : Int64) (n i : Nat) (f : Nat → Int32) (j : Nat) : Int32 := if i < j ∧ j < n then own_by w (n - 1 - j) else f j
theorem own_idem (z : Int32) : z.toInt8.toInt32.toInt8.toInt32 = z.toInt8.toInt32 := by rw [Int8.toInt8_toInt32]
theorem own_mul (a b : Nat) : Int32.ofNat a * Int32.ofNat b = Int32.ofNat (a * b) := by rw [Int32.ofNat_mul]
theorem own_dn {n : Nat} (h : 1 ≤ n) : Int32.ofNat n - (1 : Int32) = Int32.ofNat (n - 1) := by
  obtain ⟨k, rfl⟩ : ∃ k, n = k + 1 := ⟨n - 1, by omega⟩
  rw [← own_succ, Int32.add_sub_cancel, Nat.add_sub_cancel]
theorem own_sb {a b : Nat} (h : b ≤ a) : Int32.ofNat a - Int32.ofNat b = Int32.ofNat (a - b) := by
  obtain ⟨k, rfl⟩ : ∃ k, a = k + b := ⟨a - b, by omega⟩
  rw [Int32.ofNat_add, Int32.add_sub_cancel, Nat.add_sub_cancel]
theorem own_7 {n : Nat} (h : 1 ≤ n) : (7 : Int32) * (Int32.ofNat n - (1 : Int32)) = Int32.ofNat (7 * (n - 1)) := by
  rw [own_dn h]; exact own_mul 7 _
theorem own_7i {n i : Nat} (h : 1 ≤ n) (hi : i ≤ n - 1) : (7 : Int32) * ((Int32.ofNat n - (1 : Int32)) - Int32.ofNat i) = Int32.ofNat (7 * (n - 1 - i)) := by
  rw [own_dn h, own_sb hi]; exact own_mul 7 _
theorem own_lenn (a : Int32) : ∃ n : Nat, (1 : Int32) + (a &&& (2147483647 : Int32)) % (11 : Int32) = Int32.ofNat n ∧ 1 ≤ n ∧ n ≤ 11 := by
  have q := own_rem (own_m a) (b := 11) (by decide)
  have e : (11 : Int32).toInt = 11 := by decide
  obtain ⟨n, e1, e2, e3⟩ := own_nat q.1
  exact ⟨n + 1, by rw [e1, Int32.add_comm, own_succ], by omega, by omega⟩
theorem own_shl : ∀ n : Fin 9, ((1 : Int64) <<< (((7 : Int32) * (Int32.ofNat (n + 1) - (1 : Int32))) &&& 0x3f).toInt64).toInt = (2 : Int) ^ (7 * (n : Nat)) := by decide +kernel
theorem own_fit9 {w : Int64} {n : Nat} (h1 : 1 ≤ n) (h2 : n ≤ 9) : own_fits w n ↔ 0 ≤ w.toInt ∧ w.toInt < ((1 : Int64) <<< (((7 : Int32) * (Int32.ofNat n - (1 : Int32))) &&& 0x3f).toInt64).toInt := by
  obtain ⟨k, rfl⟩ : ∃ k, n = k + 1 := ⟨n - 1, by omega⟩
  rw [own_shl ⟨k, by omega⟩]
  have t := own_ti w
  have hp : (2 : Nat) ^ (7 * k) ≤ 2 ^ 56 := Nat.pow_le_pow_right (by decide) (by omega)
  have hc : ((2 ^ (7 * k) : Nat) : Int) = (2 : Int) ^ (7 * k) := by rw [Int.natCast_pow]; rfl
  show own_fits w (k + 1) ↔ 0 ≤ w.toInt ∧ w.toInt < (2 : Int) ^ (7 * k)
  rw [← hc]
  unfold own_fits
  rw [Nat.add_sub_cancel]
  constructor
  · rintro (h | h)
    · omega
    · have h0 : 0 ≤ w.toInt := t.1.mpr (by omega)
      have := t.2 h0; omega
  · rintro ⟨h, g⟩
    have := t.2 h; omega
theorem own_fit10 {w : Int64} : own_fits w 10 ↔ 0 ≤ w.toInt := by
  unfold own_fits; have t := own_ti w; simp only [Nat.reduceSub, Nat.reduceMul]; omega
theorem d_method_3_0 : decode method_3_code 0 = .ok (.iload_n 0, 1) := by decide +kernel
theorem d_method_3_1 : decode method_3_code 1 = .ok (.bipush 31, 2) := by decide +kernel
theorem d_method_3_3 : decode method_3_code 3 = .ok (.iload_n 1, 1) := by decide +kernel
theorem d_method_3_4 : decode method_3_code 4 = .ok (.imul, 1) := by decide +kernel
theorem d_method_3_5 : decode method_3_code 5 = .ok (.iadd, 1) := by decide +kernel
theorem d_method_3_6 : decode method_3_code 6 = .ok (.i2b, 1) := by decide +kernel
theorem d_method_3_7 : decode method_3_code 7 = .ok (.ireturn, 1) := by decide +kernel
theorem pn_0 : plainName "com/example/numtrie/numtrie/index/TrieCodingWritePlacePinLaw" = true := by first | (simp [plainName, overriddenIn]; done) | decide +kernel
theorem ef_rmP (m : MethodId) (u : Int32) (i : Int32) : entryFrame m #[(.int u), (.int i)] 2 = mkF m 0 #[.val (.int u), .val (.int i)] [] := by first | (simp [entryFrame, mkF, argsToLocals, Value.category]; done) | rfl
set_option maxRecDepth 65536 in
set_option maxHeartbeats 40000000 in
theorem rmP (l : Launch) (Z : State) (a0 : Array Value) (hw : ∀ d ∈ tables_1, d.before a0 Z = true) (u : Int32) (i : Int32)  (h0 : Heap) (n0 : Nat) (Z0 : n0 ≤ h0.size)  :
    Ct l (⟨"com/example/numtrie/numtrie/index/TrieCodingWritePlacePinLaw", "pre", "(II)B"⟩ : MethodName) method_3_code 2 (some .byte) [] ({ frames := 0, cells := 0, slots := 0, locals := 0 } : Room) Z #[(.int u), (.int i)] h0 (fun v h L => v = some (.int (own_pr u i)) ∧ Fr n0 L ∧ h = h0) := by
  refine Ct.of (plainFor_of_name pn_0) (fun m => ef_rmP m u i) ?_
  intro p e s m below meth c T0 X0 hx hby hml hret hlk hown hnm hZ e0 P hP
  refine Go.st (fun _ kt => XS.iloadN X0.here hx rfl (hb hby d_method_3_0) rfl (XS.bipush X0.here hx rfl (hb hby d_method_3_1) (XS.iloadN X0.here hx rfl (hb hby d_method_3_3) rfl (XS.imul X0.here hx rfl (hb hby d_method_3_4) rfl (XS.iadd X0.here hx rfl (hb hby d_method_3_5) rfl (XS.i2b X0.here hx rfl (hb hby d_method_3_6) rfl kt)))))) ?_
  show Go p e below P (T0.setTop (mkF m 7 #[.val (.int u), .val (.int i)] [(.int ((u + ((31 : Int32) * i)).toInt8.toInt32))]))
  exact goN X0 hx (t := .byte) hret (by simp) hlk (hb hby d_method_3_7) hP (by decide) (by decide) ⟨congrArg (fun z => some (Value.int z)) (own_idem _), (Fr.nil n0), e0⟩
theorem d_prog_210_method_14_34 : decode prog_210_method_14_code 34 = .ok (.iload 7, 2) := by decide +kernel
theorem d_prog_210_method_14_36 : decode prog_210_method_14_code 36 = .ok (.ifCond .le 28, 3) := by decide +kernel
theorem d_prog_210_method_14_64 : decode prog_210_method_14_code 64 = .ok (.iconst 1, 1) := by decide +kernel
theorem d_prog_210_method_14_65 : decode prog_210_method_14_code 65 = .ok (.ireturn, 1) := by decide +kernel
theorem d_prog_210_method_14_39 : decode prog_210_method_14_code 39 = .ok (.aload_n 2, 1) := by decide +kernel
theorem d_prog_210_method_14_40 : decode prog_210_method_14_code 40 = .ok (.iload 7, 2) := by decide +kernel
theorem d_prog_210_method_14_42 : decode prog_210_method_14_code 42 = .ok (.lload 5, 2) := by decide +kernel
theorem d_prog_210_method_14_44 : decode prog_210_method_14_code 44 = .ok (.ldc2_w 82, 3) := by decide +kernel
theorem d_prog_210_method_14_47 : decode prog_210_method_14_code 47 = .ok (.land, 1) := by decide +kernel
theorem d_prog_210_method_14_48 : decode prog_210_method_14_code 48 = .ok (.l2i, 1) := by decide +kernel
theorem d_prog_210_method_14_49 : decode prog_210_method_14_code 49 = .ok (.i2b, 1) := by decide +kernel
theorem d_prog_210_method_14_50 : decode prog_210_method_14_code 50 = .ok (.bastore, 1) := by decide +kernel
theorem d_prog_210_method_14_51 : decode prog_210_method_14_code 51 = .ok (.lload 5, 2) := by decide +kernel
theorem d_prog_210_method_14_53 : decode prog_210_method_14_code 53 = .ok (.bipush 7, 2) := by decide +kernel
theorem d_prog_210_method_14_55 : decode prog_210_method_14_code 55 = .ok (.lushr, 1) := by decide +kernel
theorem d_prog_210_method_14_56 : decode prog_210_method_14_code 56 = .ok (.lstore 5, 2) := by decide +kernel
theorem d_prog_210_method_14_58 : decode prog_210_method_14_code 58 = .ok (.iinc 7 (-1), 3) := by decide +kernel
theorem d_prog_210_method_14_61 : decode prog_210_method_14_code 61 = .ok (.goto (-27), 3) := by decide +kernel
theorem d_prog_210_method_14_0 : decode prog_210_method_14_code 0 = .ok (.bipush 7, 2) := by decide +kernel
theorem d_prog_210_method_14_2 : decode prog_210_method_14_code 2 = .ok (.iload_n 3, 1) := by decide +kernel
theorem d_prog_210_method_14_3 : decode prog_210_method_14_code 3 = .ok (.iconst 1, 1) := by decide +kernel
theorem d_prog_210_method_14_4 : decode prog_210_method_14_code 4 = .ok (.isub, 1) := by decide +kernel
theorem d_prog_210_method_14_5 : decode prog_210_method_14_code 5 = .ok (.imul, 1) := by decide +kernel
theorem d_prog_210_method_14_6 : decode prog_210_method_14_code 6 = .ok (.istore 4, 2) := by decide +kernel
theorem d_prog_210_method_14_8 : decode prog_210_method_14_code 8 = .ok (.iload 4, 2) := by decide +kernel
theorem d_prog_210_method_14_10 : decode prog_210_method_14_code 10 = .ok (.bipush 64, 2) := by decide +kernel
theorem d_prog_210_method_14_12 : decode prog_210_method_14_code 12 = .ok (.if_icmp .ge 14, 3) := by decide +kernel
theorem d_prog_210_method_14_15 : decode prog_210_method_14_code 15 = .ok (.lload_n 0, 1) := by decide +kernel
theorem d_prog_210_method_14_16 : decode prog_210_method_14_code 16 = .ok (.iload 4, 2) := by decide +kernel
theorem d_prog_210_method_14_18 : decode prog_210_method_14_code 18 = .ok (.lushr, 1) := by decide +kernel
theorem d_prog_210_method_14_19 : decode prog_210_method_14_code 19 = .ok (.lconst 0, 1) := by decide +kernel
theorem d_prog_210_method_14_20 : decode prog_210_method_14_code 20 = .ok (.lcmp, 1) := by decide +kernel
theorem d_prog_210_method_14_21 : decode prog_210_method_14_code 21 = .ok (.ifCond .eq 5, 3) := by decide +kernel
theorem d_prog_210_method_14_26 : decode prog_210_method_14_code 26 = .ok (.lload_n 0, 1) := by decide +kernel
theorem d_prog_210_method_14_27 : decode prog_210_method_14_code 27 = .ok (.lstore 5, 2) := by decide +kernel
theorem d_prog_210_method_14_29 : decode prog_210_method_14_code 29 = .ok (.iload_n 3, 1) := by decide +kernel
theorem d_prog_210_method_14_30 : decode prog_210_method_14_code 30 = .ok (.iconst 1, 1) := by decide +kernel
theorem d_prog_210_method_14_31 : decode prog_210_method_14_code 31 = .ok (.isub, 1) := by decide +kernel
theorem d_prog_210_method_14_32 : decode prog_210_method_14_code 32 = .ok (.istore 7, 2) := by decide +kernel
theorem d_prog_210_method_14_24 : decode prog_210_method_14_code 24 = .ok (.iconst 0, 1) := by decide +kernel
theorem d_prog_210_method_14_25 : decode prog_210_method_14_code 25 = .ok (.ireturn, 1) := by decide +kernel
theorem pn_1 : plainName "com/example/numtrie/numtrie/index/TrieCoding" = true := by first | (simp [plainName, overriddenIn]; done) | decide +kernel
theorem ef_rmW (m : MethodId) (w : Int64) (a : Addr) (ll : Int32) : entryFrame m #[(.long w), (.ref a), (.int ll)] 8 = mkF m 0 #[.val (.long w), .second, .val (.ref a), .val (.int ll), .unset, .unset, .unset, .unset] [] := by first | (simp [entryFrame, mkF, argsToLocals, Value.category]; done) | rfl
set_option maxRecDepth 65536 in
set_option maxHeartbeats 40000000 in
theorem rmW (l : Launch) (Z : State) (a0 : Array Value) (hw : ∀ d ∈ tables_1, d.before a0 Z = true) (w : Int64) (a : Addr) (ll : Int32) (n : Nat) (f0 : Nat → Int32) (h0 : Heap) (n0 : Nat) (Z0 : n0 ≤ h0.size) (hl : ll = Int32.ofNat n) (hn1 : 1 ≤ n) (hn2 : n ≤ 11) (Va : Ary Z h0 a .byte Value.int 12 f0) (Ga : n0 ≤ a) :
    Ct l (⟨"com/example/numtrie/numtrie/index/TrieCoding", "writePlace", "(J[BI)Z"⟩ : MethodName) prog_210_method_14_code 8 (some .boolean) [] ({ frames := 0, cells := 0, slots := 0, locals := 0 } : Room) Z #[(.long w), (.ref a), (.int ll)] h0 (fun v h L => ∃ (r : Int32) (f' : Nat → Int32), v = some (.int r) ∧ Fr n0 L ∧ Keep h0 h [a] ∧ Ary Z h a .byte Value.int 12 f' ∧ ((own_fits w n ∧ r = 1 ∧ ∀ j, j < 12 → f' j = own_w w n 0 f0 j) ∨ (¬ own_fits w n ∧ r = 0 ∧ f' = f0))) := by
  refine Ct.of (plainFor_of_name pn_1) (fun m => ef_rmW m w a ll) ?_
  intro p e s m below meth c T0 X0 hx hby hml hret hlk hown hnm hZ e0 P hP
  subst hl
  have lp : own_fits w n → ∀ bb : Int32, Go p e below P (T0.setTop (mkF m 34 #[.val (.long w), .second, .val (.ref a), .val (.int (Int32.ofNat n)), .val (.int bb), .val (.long (own_us w (7 * (n - 1 - (n - 1))))), .second, .val (.int (Int32.ofNat (n - 1)))] [])) := by
    intro hfit bb0
    have loop1 : ∀ (i : Nat) (T2 : State) (Lk2 : List Loc) (f : Nat → Int32) (bb : Int32), Stand p l e ({ frames := 0, cells := 0, slots := 0, locals := 0 } : Room) s m #[(.long w), (.ref a), (.int (Int32.ofNat n))] below meth c T2 Lk2 0 0 → Fr n0 Lk2 → n0 ≤ T2.heap.size → Ary Z T2.heap a .byte Value.int 12 f → Keep h0 T2.heap [a] → i ≤ n - 1 → (∀ j, j < 12 → f j = own_w w n i f0 j) → Go p e below P (T2.setTop (mkF m 34 #[.val (.long w), .second, .val (.ref a), .val (.int (Int32.ofNat n)), .val (.int bb), .val (.long (own_us w (7 * (n - 1 - i)))), .second, .val (.int (Int32.ofNat i))] [])) := by
      intro i
      induction i with
      | zero =>
        intro T2 Lk2 f bb X2 N2 Z2 fc2_0 fc2_1 hin hf
        show Go p e below P (T2.setTop (mkF m 34 #[.val (.long w), .second, .val (.ref a), .val (.int (Int32.ofNat n)), .val (.int bb), .val (.long (own_us w (7 * (n - 1 - 0)))), .second, .val (.int (Int32.ofNat 0))] []))
        refine Go.st (fun _ kt => XS.iload X2.here hx rfl (hb hby d_prog_210_method_14_34) rfl (XS.ifYes X2.here hx rfl (pc0 := 36) (pc' := 64) rfl (hb hby d_prog_210_method_14_36) rfl ((if0 _ _).trans (flt (by decide)).2.2.2) (by decide) (by decide) (XS.iconst X2.here hx rfl (hb hby d_prog_210_method_14_64) kt))) ?_
        show Go p e below P (T2.setTop (mkF m 65 #[.val (.long w), .second, .val (.ref a), .val (.int (Int32.ofNat n)), .val (.int bb), .val (.long (own_us w (7 * (n - 1 - 0)))), .second, .val (.int (Int32.ofNat 0))] [(.int (1 : Int32))]))
        exact goN X2 hx (t := .boolean) hret (by simp) hlk (hb hby d_prog_210_method_14_65) hP (by decide) (by decide) ⟨1, f, rfl, N2, fc2_1, fc2_0, Or.inl ⟨hfit, rfl, hf⟩⟩
      | succ i ih2 =>
        intro T2 Lk2 f bb X2 N2 Z2 fc2_0 fc2_1 hin hf
        show Go p e below P (T2.setTop (mkF m 34 #[.val (.long w), .second, .val (.ref a), .val (.int (Int32.ofNat n)), .val (.int bb), .val (.long (own_us w (7 * (n - 1 - (i + 1))))), .second, .val (.int (Int32.ofNat (i + 1)))] []))
        refine Go.st (fun _ kt => XS.iload X2.here hx rfl (hb hby d_prog_210_method_14_34) rfl (XS.ifNo X2.here hx rfl (hb hby d_prog_210_method_14_36) rfl ((if0 _ _).trans (tlt (by rw [own_gti own_zero, own_tn (by omega)]; omega)).2.2.2) (XS.aloadN X2.here hx rfl (hb hby d_prog_210_method_14_39) rfl rfl (XS.iload X2.here hx rfl (hb hby d_prog_210_method_14_40) rfl (XS.lload X2.here hx rfl (hb hby d_prog_210_method_14_42) rfl (X2.ldc2Long hx hown (mvT hZ (hw _ (List.mem_of_getElem? (i := 10) rfl))) (g := (mkF m 44 #[.val (.long w), .second, .val (.ref a), .val (.int (Int32.ofNat n)), .val (.int bb), .val (.long (own_us w (7 * (n - 1 - (i + 1))))), .second, .val (.int (Int32.ofNat (i + 1)))] [(.long (own_us w (7 * (n - 1 - (i + 1))))), (.int (Int32.ofNat (i + 1))), (.ref a)])) rfl (hb hby d_prog_210_method_14_44) _ (XS.land X2.here hx rfl (hb hby d_prog_210_method_14_47) rfl (XS.l2i X2.here hx rfl (hb hby d_prog_210_method_14_48) rfl kt)))))))) ?_
        show Go p e below P (T2.setTop (mkF m 49 #[.val (.long w), .second, .val (.ref a), .val (.int (Int32.ofNat n)), .val (.int bb), .val (.long (own_us w (7 * (n - 1 - (i + 1))))), .second, .val (.int (Int32.ofNat (i + 1)))] [(.int (((own_us w (7 * (n - 1 - (i + 1)))) &&& (127 : Int64)).toInt32)), (.int (Int32.ofNat (i + 1))), (.ref a)]))
        refine Go.st (fun _ kt => XS.i2b X2.here hx rfl (hb hby d_prog_210_method_14_49) rfl kt) ?_
        show Go p e below P (T2.setTop (mkF m 50 #[.val (.long w), .second, .val (.ref a), .val (.int (Int32.ofNat n)), .val (.int bb), .val (.long (own_us w (7 * (n - 1 - (i + 1))))), .second, .val (.int (Int32.ofNat (i + 1)))] [(.int ((((own_us w (7 * (n - 1 - (i + 1)))) &&& (127 : Int64)).toInt32).toInt8.toInt32)), (.int (Int32.ofNat (i + 1))), (.ref a)]))
        obtain ⟨T3, h3, X3, e3, W3, V3, st3⟩ := aryStB X2 hx hZ rfl fc2_0 (j := (Int32.ofNat (i + 1))) (x := ((((own_us w (7 * (n - 1 - (i + 1)))) &&& (127 : Int64)).toInt32).toInt8.toInt32)) (i := (i + 1)) (isN_ofNat (by omega)) (by omega) (g := (mkF m 50 #[.val (.long w), .second, .val (.ref a), .val (.int (Int32.ofNat n)), .val (.int bb), .val (.long (own_us w (7 * (n - 1 - (i + 1))))), .second, .val (.int (Int32.ofNat (i + 1)))] [(.int ((((own_us w (7 * (n - 1 - (i + 1)))) &&& (127 : Int64)).toInt32).toInt8.toInt32)), (.int (Int32.ofNat (i + 1))), (.ref a)])) rfl rfl (hb hby d_prog_210_method_14_50)
        have K4 := Keep.wr fc2_1 W3 (Or.inl (List.mem_of_getElem? (i := 0) rfl))
        have Z5 : n0 ≤ h3.size := by rw [W3.size]; exact Z2
        have N6 := Fr.snoc X3 N2 Ga
        refine Go.st st3 ?_
        show Go p e below P (T3.setTop (mkF m 51 #[.val (.long w), .second, .val (.ref a), .val (.int (Int32.ofNat n)), .val (.int bb), .val (.long (own_us w (7 * (n - 1 - (i + 1))))), .second, .val (.int (Int32.ofNat (i + 1)))] []))
        refine Go.st (fun _ kt => XS.lload X3.here hx rfl (hb hby d_prog_210_method_14_51) rfl (XS.bipush X3.here hx rfl (hb hby d_prog_210_method_14_53) (XS.lushr X3.here hx rfl (hb hby d_prog_210_method_14_55) rfl kt))) ?_
        show Go p e below P (T3.setTop (mkF m 56 #[.val (.long w), .second, .val (.ref a), .val (.int (Int32.ofNat n)), .val (.int bb), .val (.long (own_us w (7 * (n - 1 - (i + 1))))), .second, .val (.int (Int32.ofNat (i + 1)))] [(.long (((own_us w (7 * (n - 1 - (i + 1)))).toUInt64 >>> ((7 : Int32) &&& 0x3f).toInt64.toUInt64).toInt64))]))
        rw [own_lushr (y := (7 : Int32)) (n := 7) (by decide) rfl, own_us_us, show 7 * (n - 1 - (i + 1)) + 7 = 7 * (n - 1 - i) from by omega]
        show Go p e below P (T3.setTop (mkF m 56 #[.val (.long w), .second, .val (.ref a), .val (.int (Int32.ofNat n)), .val (.int bb), .val (.long (own_us w (7 * (n - 1 - (i + 1))))), .second, .val (.int (Int32.ofNat (i + 1)))] [(.long (own_us w (7 * (n - 1 - i))))]))
        refine Go.st (fun _ kt => XS.lstore X3.here hx rfl (hb hby d_prog_210_method_14_56) rfl (l' := #[.val (.long w), .second, .val (.ref a), .val (.int (Int32.ofNat n)), .val (.int bb), .val (.long (own_us w (7 * (n - 1 - i)))), .second, .val (.int (Int32.ofNat (i + 1)))]) rfl (XS.iinc X3.here hx rfl (hb hby d_prog_210_method_14_58) rfl (l' := #[.val (.long w), .second, .val (.ref a), .val (.int (Int32.ofNat n)), .val (.int bb), .val (.long (own_us w (7 * (n - 1 - i)))), .second, .val (.int ((Int32.ofNat (i + 1)) + (-1 : Int32)))]) rfl (XS.goto X3.here hx rfl (pc0 := 61) (pc' := 34) rfl (hb hby d_prog_210_method_14_61) (by decide) (by decide) kt))) ?_
        show Go p e below P (T3.setTop (mkF m 34 #[.val (.long w), .second, .val (.ref a), .val (.int (Int32.ofNat n)), .val (.int bb), .val (.long (own_us w (7 * (n - 1 - i)))), .second, .val (.int ((Int32.ofNat (i + 1)) + (-1 : Int32)))] []))
        rw [show Int32.ofNat (i + 1) + (-1 : Int32) = Int32.ofNat i from by rw [← own_succ, Int32.add_assoc]; exact Int32.add_zero _]
        show Go p e below P (T3.setTop (mkF m 34 #[.val (.long w), .second, .val (.ref a), .val (.int (Int32.ofNat n)), .val (.int bb), .val (.long (own_us w (7 * (n - 1 - i)))), .second, .val (.int (Int32.ofNat i))] []))
        exact ih2  _ _ _ bb (X3.more (by decide) (by decide)) N6 (by rw [e3]; exact Z5) (by rw [e3]; exact V3) (by rw [e3]; exact K4) (by omega) (fun j hj => by
            by_cases e : j = i + 1
            · subst e; rw [updN_hit, own_idem]; unfold own_w own_by; rw [if_pos (by omega)]
            · rw [updN_miss e, hf j hj]; unfold own_w
              by_cases q : i + 1 < j ∧ j < n
              · rw [if_pos q, if_pos (by omega)]
              · rw [if_neg q, if_neg (by omega)])
    exact loop1 (n - 1) _ _ f0 bb0 (X0.more (by decide) (by decide)) (Fr.nil n0) (by rw [e0]; exact Z0) (by rw [e0]; exact Va) (by rw [e0]; exact (Keep.refl h0 [a])) (Nat.le_refl _) (fun j hj => by unfold own_w; rw [if_neg (by omega)])
  refine Go.st (fun _ kt => XS.bipush X0.here hx rfl (hb hby d_prog_210_method_14_0) (XS.iloadN X0.here hx rfl (hb hby d_prog_210_method_14_2) rfl (XS.iconst X0.here hx rfl (hb hby d_prog_210_method_14_3) (XS.isub X0.here hx rfl (hb hby d_prog_210_method_14_4) rfl (XS.imul X0.here hx rfl (hb hby d_prog_210_method_14_5) rfl kt))))) ?_
  show Go p e below P (T0.setTop (mkF m 6 #[.val (.long w), .second, .val (.ref a), .val (.int (Int32.ofNat n)), .unset, .unset, .unset, .unset] [(.int ((7 : Int32) * ((Int32.ofNat n) - (1 : Int32))))]))
  rw [own_7 hn1]
  show Go p e below P (T0.setTop (mkF m 6 #[.val (.long w), .second, .val (.ref a), .val (.int (Int32.ofNat n)), .unset, .unset, .unset, .unset] [(.int (Int32.ofNat (7 * (n - 1))))]))
  refine Go.st (fun _ kt => XS.istore X0.here hx rfl (hb hby d_prog_210_method_14_6) rfl (l' := #[.val (.long w), .second, .val (.ref a), .val (.int (Int32.ofNat n)), .val (.int (Int32.ofNat (7 * (n - 1)))), .unset, .unset, .unset]) rfl (XS.iload X0.here hx rfl (hb hby d_prog_210_method_14_8) rfl (XS.bipush X0.here hx rfl (hb hby d_prog_210_method_14_10) kt))) ?_
  show Go p e below P (T0.setTop (mkF m 12 #[.val (.long w), .second, .val (.ref a), .val (.int (Int32.ofNat n)), .val (.int (Int32.ofNat (7 * (n - 1)))), .unset, .unset, .unset] [(.int (64 : Int32)), (.int (Int32.ofNat (7 * (n - 1))))]))
  by_cases br7 : (Int32.ofNat (7 * (n - 1))) < (64 : Int32)
  · refine Go.st (fun _ kt => XS.icmpNo X0.here hx rfl (hb hby d_prog_210_method_14_12) rfl (tlt br7).2.1 kt) ?_
    show Go p e below P (T0.setTop (mkF m 15 #[.val (.long w), .second, .val (.ref a), .val (.int (Int32.ofNat n)), .val (.int (Int32.ofNat (7 * (n - 1)))), .unset, .unset, .unset] []))
    refine Go.st (fun _ kt => XS.lloadN X0.here hx rfl (hb hby d_prog_210_method_14_15) rfl (XS.iload X0.here hx rfl (hb hby d_prog_210_method_14_16) rfl (XS.lushr X0.here hx rfl (hb hby d_prog_210_method_14_18) rfl kt))) ?_
    show Go p e below P (T0.setTop (mkF m 19 #[.val (.long w), .second, .val (.ref a), .val (.int (Int32.ofNat n)), .val (.int (Int32.ofNat (7 * (n - 1)))), .unset, .unset, .unset] [(.long ((w.toUInt64 >>> ((Int32.ofNat (7 * (n - 1))) &&& 0x3f).toInt64.toUInt64).toInt64))]))
    rw [own_lushr (n := 7 * (n - 1)) (by rw [own_lti (k := 64) (by decide), own_tn (by omega)] at br7; omega) rfl]
    show Go p e below P (T0.setTop (mkF m 19 #[.val (.long w), .second, .val (.ref a), .val (.int (Int32.ofNat n)), .val (.int (Int32.ofNat (7 * (n - 1)))), .unset, .unset, .unset] [(.long (own_us w (7 * (n - 1))))]))
    refine Go.st (fun _ kt => XS.lconst X0.here hx rfl (hb hby d_prog_210_method_14_19) (XS.lcmp X0.here hx rfl (hb hby d_prog_210_method_14_20) rfl kt)) ?_
    show Go p e below P (T0.setTop (mkF m 21 #[.val (.long w), .second, .val (.ref a), .val (.int (Int32.ofNat n)), .val (.int (Int32.ofNat (7 * (n - 1)))), .unset, .unset, .unset] [(.int (lcmpW (own_us w (7 * (n - 1))) (0 : Int64)))]))
    by_cases br8 : (lcmpW (own_us w (7 * (n - 1))) (0 : Int64)) = (0 : Int32)
    · refine Go.st (fun _ kt => XS.ifYes X0.here hx rfl (pc0 := 21) (pc' := 26) rfl (hb hby d_prog_210_method_14_21) rfl ((if0 _ _).trans (teq br8).1) (by decide) (by decide) kt) ?_
      show Go p e below P (T0.setTop (mkF m 26 #[.val (.long w), .second, .val (.ref a), .val (.int (Int32.ofNat n)), .val (.int (Int32.ofNat (7 * (n - 1)))), .unset, .unset, .unset] []))
      refine Go.st (fun _ kt => XS.lloadN X0.here hx rfl (hb hby d_prog_210_method_14_26) rfl (XS.lstore X0.here hx rfl (hb hby d_prog_210_method_14_27) rfl (l' := #[.val (.long w), .second, .val (.ref a), .val (.int (Int32.ofNat n)), .val (.int (Int32.ofNat (7 * (n - 1)))), .val (.long w), .second, .unset]) rfl (XS.iloadN X0.here hx rfl (hb hby d_prog_210_method_14_29) rfl (XS.iconst X0.here hx rfl (hb hby d_prog_210_method_14_30) (XS.isub X0.here hx rfl (hb hby d_prog_210_method_14_31) rfl (XS.istore X0.here hx rfl (hb hby d_prog_210_method_14_32) rfl (l' := #[.val (.long w), .second, .val (.ref a), .val (.int (Int32.ofNat n)), .val (.int (Int32.ofNat (7 * (n - 1)))), .val (.long w), .second, .val (.int ((Int32.ofNat n) - (1 : Int32)))]) rfl kt)))))) ?_
      show Go p e below P (T0.setTop (mkF m 34 #[.val (.long w), .second, .val (.ref a), .val (.int (Int32.ofNat n)), .val (.int (Int32.ofNat (7 * (n - 1)))), .val (.long w), .second, .val (.int ((Int32.ofNat n) - (1 : Int32)))] []))
      have lp' := lp (Or.inr ((own_us_z _ _).mp ((own_ceq _ _).mp br8))) (Int32.ofNat (7 * (n - 1)))
      rw [show n - 1 - (n - 1) = 0 from by omega, Nat.mul_zero, own_us_0] at lp'
      rw [own_dn hn1]
      exact lp'
    · refine Go.st (fun _ kt => XS.ifNo X0.here hx rfl (hb hby d_prog_210_method_14_21) rfl ((if0 _ _).trans (feq br8).1) kt) ?_
      show Go p e below P (T0.setTop (mkF m 24 #[.val (.long w), .second, .val (.ref a), .val (.int (Int32.ofNat n)), .val (.int (Int32.ofNat (7 * (n - 1)))), .unset, .unset, .unset] []))
      refine Go.st (fun _ kt => XS.iconst X0.here hx rfl (hb hby d_prog_210_method_14_24) kt) ?_
      show Go p e below P (T0.setTop (mkF m 25 #[.val (.long w), .second, .val (.ref a), .val (.int (Int32.ofNat n)), .val (.int (Int32.ofNat (7 * (n - 1)))), .unset, .unset, .unset] [(.int (0 : Int32))]))
      exact goN X0 hx (t := .boolean) hret (by simp) hlk (hb hby d_prog_210_method_14_25) hP (by decide) (by decide) (by rw [e0]; exact ⟨0, f0, rfl, (Fr.nil n0), Keep.refl _ _, Va, Or.inr ⟨fun q => by
        rw [own_lti (k := 64) (by decide), own_tn (by omega)] at br7
        rcases q with q | q
        · omega
        · exact br8 ((own_ceq _ _).mpr ((own_us_z _ _).mpr q)), rfl, rfl⟩⟩)
  · refine Go.st (fun _ kt => XS.icmpYes X0.here hx rfl (pc0 := 12) (pc' := 26) rfl (hb hby d_prog_210_method_14_12) rfl (flt br7).2.1 (by decide) (by decide) kt) ?_
    show Go p e below P (T0.setTop (mkF m 26 #[.val (.long w), .second, .val (.ref a), .val (.int (Int32.ofNat n)), .val (.int (Int32.ofNat (7 * (n - 1)))), .unset, .unset, .unset] []))
    refine Go.st (fun _ kt => XS.lloadN X0.here hx rfl (hb hby d_prog_210_method_14_26) rfl (XS.lstore X0.here hx rfl (hb hby d_prog_210_method_14_27) rfl (l' := #[.val (.long w), .second, .val (.ref a), .val (.int (Int32.ofNat n)), .val (.int (Int32.ofNat (7 * (n - 1)))), .val (.long w), .second, .unset]) rfl (XS.iloadN X0.here hx rfl (hb hby d_prog_210_method_14_29) rfl (XS.iconst X0.here hx rfl (hb hby d_prog_210_method_14_30) (XS.isub X0.here hx rfl (hb hby d_prog_210_method_14_31) rfl (XS.istore X0.here hx rfl (hb hby d_prog_210_method_14_32) rfl (l' := #[.val (.long w), .second, .val (.ref a), .val (.int (Int32.ofNat n)), .val (.int (Int32.ofNat (7 * (n - 1)))), .val (.long w), .second, .val (.int ((Int32.ofNat n) - (1 : Int32)))]) rfl kt)))))) ?_
    show Go p e below P (T0.setTop (mkF m 34 #[.val (.long w), .second, .val (.ref a), .val (.int (Int32.ofNat n)), .val (.int (Int32.ofNat (7 * (n - 1)))), .val (.long w), .second, .val (.int ((Int32.ofNat n) - (1 : Int32)))] []))
    have lp' := lp (Or.inl (by rw [own_lti (k := 64) (by decide), own_tn (by omega)] at br7; omega)) (Int32.ofNat (7 * (n - 1)))
    rw [show n - 1 - (n - 1) = 0 from by omega, Nat.mul_zero, own_us_0] at lp'
    rw [own_dn hn1]
    exact lp'
theorem d_method_4_0 : decode method_4_code 0 = .ok (.iload 5, 2) := by decide +kernel
theorem d_method_4_2 : decode method_4_code 2 = .ok (.ifCond .eq 43, 3) := by decide +kernel
theorem d_method_4_5 : decode method_4_code 5 = .ok (.iload_n 1, 1) := by decide +kernel
theorem d_method_4_6 : decode method_4_code 6 = .ok (.iconst 1, 1) := by decide +kernel
theorem d_method_4_7 : decode method_4_code 7 = .ok (.if_icmp .lt 38, 3) := by decide +kernel
theorem d_method_4_45 : decode method_4_code 45 = .ok (.aload_n 0, 1) := by decide +kernel
theorem d_method_4_46 : decode method_4_code 46 = .ok (.iload_n 1, 1) := by decide +kernel
theorem d_method_4_47 : decode method_4_code 47 = .ok (.baload, 1) := by decide +kernel
theorem d_method_4_48 : decode method_4_code 48 = .ok (.iload 6, 2) := by decide +kernel
theorem d_method_4_50 : decode method_4_code 50 = .ok (.iload_n 1, 1) := by decide +kernel
theorem pd_2 : parseMethodDescriptor "(II)B" = some ⟨[.int, .int], some .byte⟩ := by decide +kernel
theorem d_method_4_51 : decode method_4_code 51 = .ok (.invokestatic 8, 3) := by decide +kernel
theorem d_method_4_54 : decode method_4_code 54 = .ok (.if_icmp .ne 7, 3) := by decide +kernel
theorem d_method_4_57 : decode method_4_code 57 = .ok (.iconst 1, 1) := by decide +kernel
theorem d_method_4_58 : decode method_4_code 58 = .ok (.goto 4, 3) := by decide +kernel
theorem d_method_4_62 : decode method_4_code 62 = .ok (.ireturn, 1) := by decide +kernel
theorem d_method_4_10 : decode method_4_code 10 = .ok (.iload_n 1, 1) := by decide +kernel
theorem d_method_4_11 : decode method_4_code 11 = .ok (.iload 4, 2) := by decide +kernel
theorem d_method_4_13 : decode method_4_code 13 = .ok (.if_icmp .ge 32, 3) := by decide +kernel
theorem d_method_4_16 : decode method_4_code 16 = .ok (.aload_n 0, 1) := by decide +kernel
theorem d_method_4_17 : decode method_4_code 17 = .ok (.iload_n 1, 1) := by decide +kernel
theorem d_method_4_18 : decode method_4_code 18 = .ok (.baload, 1) := by decide +kernel
theorem d_method_4_19 : decode method_4_code 19 = .ok (.lload_n 2, 1) := by decide +kernel
theorem d_method_4_20 : decode method_4_code 20 = .ok (.bipush 7, 2) := by decide +kernel
theorem d_method_4_22 : decode method_4_code 22 = .ok (.iload 4, 2) := by decide +kernel
theorem d_method_4_24 : decode method_4_code 24 = .ok (.iconst 1, 1) := by decide +kernel
theorem d_method_4_25 : decode method_4_code 25 = .ok (.isub, 1) := by decide +kernel
theorem d_method_4_26 : decode method_4_code 26 = .ok (.iload_n 1, 1) := by decide +kernel
theorem d_method_4_27 : decode method_4_code 27 = .ok (.isub, 1) := by decide +kernel
theorem d_method_4_28 : decode method_4_code 28 = .ok (.imul, 1) := by decide +kernel
theorem d_method_4_29 : decode method_4_code 29 = .ok (.lushr, 1) := by decide +kernel
theorem d_method_4_30 : decode method_4_code 30 = .ok (.ldc2_w 24, 3) := by decide +kernel
theorem d_method_4_33 : decode method_4_code 33 = .ok (.land, 1) := by decide +kernel
theorem d_method_4_34 : decode method_4_code 34 = .ok (.l2i, 1) := by decide +kernel
theorem d_method_4_35 : decode method_4_code 35 = .ok (.i2b, 1) := by decide +kernel
theorem d_method_4_36 : decode method_4_code 36 = .ok (.if_icmp .ne 7, 3) := by decide +kernel
theorem d_method_4_39 : decode method_4_code 39 = .ok (.iconst 1, 1) := by decide +kernel
theorem d_method_4_40 : decode method_4_code 40 = .ok (.goto 4, 3) := by decide +kernel
theorem d_method_4_44 : decode method_4_code 44 = .ok (.ireturn, 1) := by decide +kernel
theorem ef_rmK (m : MethodId) (a : Addr) (ii : Int32) (w : Int64) (ll : Int32) (ft : Int32) (u : Int32) : entryFrame m #[(.ref a), (.int ii), (.long w), (.int ll), (.int ft), (.int u)] 7 = mkF m 0 #[.val (.ref a), .val (.int ii), .val (.long w), .second, .val (.int ll), .val (.int ft), .val (.int u)] [] := by first | (simp [entryFrame, mkF, argsToLocals, Value.category]; done) | rfl
set_option maxRecDepth 65536 in
set_option maxHeartbeats 40000000 in
theorem rmK (l : Launch) (Z : State) (a0 : Array Value) (hw : ∀ d ∈ tables_1, d.before a0 Z = true) (a : Addr) (ii : Int32) (w : Int64) (ll : Int32) (ft : Int32) (u : Int32) (i n : Nat) (f : Nat → Int32) (h0 : Heap) (n0 : Nat) (Z0 : n0 ≤ h0.size) (hi : ii = Int32.ofNat i) (hl : ll = Int32.ofNat n) (hi12 : i < 12) (hn1 : 1 ≤ n) (hn2 : n ≤ 11) (Va : Ary Z h0 a .byte Value.int 12 f) (hft : (ft = 1 ∧ f i = own_w w n 0 (fun j => own_pr u (Int32.ofNat j)) i) ∨ (ft = 0 ∧ f i = own_pr u (Int32.ofNat i))) :
    Ct l (⟨"com/example/numtrie/numtrie/index/TrieCodingWritePlacePinLaw", "ok", "([BIJIZI)Z"⟩ : MethodName) method_4_code 7 (some .boolean) [] ({ frames := 1, cells := 0, slots := 0, locals := 14 } : Room) Z #[(.ref a), (.int ii), (.long w), (.int ll), (.int ft), (.int u)] h0 (fun v h L => v = some (.int 1) ∧ Fr n0 L ∧ h = h0) := by
  refine Ct.of (plainFor_of_name pn_0) (fun m => ef_rmK m a ii w ll ft u) ?_
  intro p e s m below meth c T0 X0 hx hby hml hret hlk hown hnm hZ e0 P hP
  subst hi hl
  rcases hft with ⟨rfl, hf⟩ | ⟨rfl, hf⟩
  · show Go p e below P (T0.setTop (mkF m 0 #[.val (.ref a), .val (.int (Int32.ofNat i)), .val (.long w), .second, .val (.int (Int32.ofNat n)), .val (.int (1 : Int32)), .val (.int u)] []))
    refine Go.st (fun _ kt => XS.iload X0.here hx rfl (hb hby d_method_4_0) rfl (XS.ifNo X0.here hx rfl (hb hby d_method_4_2) rfl ((if0 _ _).trans (feq (by decide : ¬ ((1 : Int32) = (0 : Int32)))).1) (XS.iloadN X0.here hx rfl (hb hby d_method_4_5) rfl (XS.iconst X0.here hx rfl (hb hby d_method_4_6) kt)))) ?_
    show Go p e below P (T0.setTop (mkF m 7 #[.val (.ref a), .val (.int (Int32.ofNat i)), .val (.long w), .second, .val (.int (Int32.ofNat n)), .val (.int (1 : Int32)), .val (.int u)] [(.int (1 : Int32)), (.int (Int32.ofNat i))]))
    by_cases br1 : (Int32.ofNat i) < (1 : Int32)
    · refine Go.st (fun _ kt => XS.icmpYes X0.here hx rfl (pc0 := 7) (pc' := 45) rfl (hb hby d_method_4_7) rfl (tlt br1).1 (by decide) (by decide) kt) ?_
      show Go p e below P (T0.setTop (mkF m 45 #[.val (.ref a), .val (.int (Int32.ofNat i)), .val (.long w), .second, .val (.int (Int32.ofNat n)), .val (.int (1 : Int32)), .val (.int u)] []))
      refine Go.st (fun _ kt => XS.aloadN X0.here hx rfl (hb hby d_method_4_45) rfl rfl (XS.iloadN X0.here hx rfl (hb hby d_method_4_46) rfl (aryLdB X0 hx hZ e0 Va (j := (Int32.ofNat i)) (i := i) (isN_ofNat (by omega)) hi12 (g := (mkF m 47 #[.val (.ref a), .val (.int (Int32.ofNat i)), .val (.long w), .second, .val (.int (Int32.ofNat n)), .val (.int (1 : Int32)), .val (.int u)] [(.int (Int32.ofNat i)), (.ref a)])) rfl rfl (hb hby d_method_4_47) _ (XS.iload X0.here hx rfl (hb hby d_method_4_48) rfl (XS.iloadN X0.here hx rfl (hb hby d_method_4_50) rfl kt))))) ?_
      show Go p e below P (T0.setTop (mkF m 51 #[.val (.ref a), .val (.int (Int32.ofNat i)), .val (.long w), .second, .val (.int (Int32.ofNat n)), .val (.int (1 : Int32)), .val (.int u)] [(.int (Int32.ofNat i)), (.int u), (.int (f i))]))
      obtain ⟨_, T2, Lc2, X2, ⟨rfl, Nq2, eq2⟩, st2⟩ := callCt X0 hx hZ e0 (y := (⟨"com/example/numtrie/numtrie/index/TrieCodingWritePlacePinLaw", "pre", "(II)B"⟩ : MethodName)) (argsL := [(.int u), (.int (Int32.ofNat i))]) (rest := [(.int (f i))]) hown (hw _ (List.mem_of_getElem? (i := 2) rfl)) (hw _ (List.mem_of_getElem? (i := 3) rfl)) (hw _ (List.mem_of_getElem? (i := 4) rfl)) (hw _ (List.mem_of_getElem? (i := 5) rfl)) (by decide) (rmP l Z a0 hw u (Int32.ofNat i) _ n0 Z0) (W := 1) (by decide) (by decide) (g := (mkF m 51 #[.val (.ref a), .val (.int (Int32.ofNat i)), .val (.long w), .second, .val (.int (Int32.ofNat n)), .val (.int (1 : Int32)), .val (.int u)] [(.int (Int32.ofNat i)), (.int u), (.int (f i))])) rfl (by rw [hml]; rfl) (lenOf pd_2 rfl) rfl (by show 2 * 0 + _ ≤ _; exact Nat.le_of_eq rfl) (hb hby d_method_4_51) (by decide) (by decide)
      have N2 := Fr.app (Fr.nil n0) Nq2
      have e2 : T2.heap = h0 := eq2
      refine Go.st st2 ?_
      show Go p e below P (T2.setTop (mkF m 54 #[.val (.ref a), .val (.int (Int32.ofNat i)), .val (.long w), .second, .val (.int (Int32.ofNat n)), .val (.int (1 : Int32)), .val (.int u)] [(.int (own_pr u (Int32.ofNat i))), (.int (f i))]))
      refine Go.st (fun _ kt => XS.icmpNo X2.here hx rfl (hb hby d_method_4_54) rfl (teq (by rw [own_lti (k := 1) (by decide), own_tn (by omega)] at br1; rw [hf]; unfold own_w; rw [if_neg (by omega)])).2 (XS.iconst X2.here hx rfl (hb hby d_method_4_57) (XS.goto X2.here hx rfl (pc0 := 58) (pc' := 62) rfl (hb hby d_method_4_58) (by decide) (by decide) kt))) ?_
      show Go p e below P (T2.setTop (mkF m 62 #[.val (.ref a), .val (.int (Int32.ofNat i)), .val (.long w), .second, .val (.int (Int32.ofNat n)), .val (.int (1 : Int32)), .val (.int u)] [(.int (1 : Int32))]))
      exact goN X2 hx (t := .boolean) hret (by simp) hlk (hb hby d_method_4_62) hP (by decide) (by decide) ⟨rfl, N2, e2⟩
    · refine Go.st (fun _ kt => XS.icmpNo X0.here hx rfl (hb hby d_method_4_7) rfl (flt br1).1 kt) ?_
      show Go p e below P (T0.setTop (mkF m 10 #[.val (.ref a), .val (.int (Int32.ofNat i)), .val (.long w), .second, .val (.int (Int32.ofNat n)), .val (.int (1 : Int32)), .val (.int u)] []))
      refine Go.st (fun _ kt => XS.iloadN X0.here hx rfl (hb hby d_method_4_10) rfl (XS.iload X0.here hx rfl (hb hby d_method_4_11) rfl kt)) ?_
      show Go p e below P (T0.setTop (mkF m 13 #[.val (.ref a), .val (.int (Int32.ofNat i)), .val (.long w), .second, .val (.int (Int32.ofNat n)), .val (.int (1 : Int32)), .val (.int u)] [(.int (Int32.ofNat n)), (.int (Int32.ofNat i))]))
      by_cases br3 : (Int32.ofNat i) < (Int32.ofNat n)
      · refine Go.st (fun _ kt => XS.icmpNo X0.here hx rfl (hb hby d_method_4_13) rfl (tlt br3).2.1 kt) ?_
        show Go p e below P (T0.setTop (mkF m 16 #[.val (.ref a), .val (.int (Int32.ofNat i)), .val (.long w), .second, .val (.int (Int32.ofNat n)), .val (.int (1 : Int32)), .val (.int u)] []))
        refine Go.st (fun _ kt => XS.aloadN X0.here hx rfl (hb hby d_method_4_16) rfl rfl (XS.iloadN X0.here hx rfl (hb hby d_method_4_17) rfl (aryLdB X0 hx hZ e0 Va (j := (Int32.ofNat i)) (i := i) (isN_ofNat (by omega)) hi12 (g := (mkF m 18 #[.val (.ref a), .val (.int (Int32.ofNat i)), .val (.long w), .second, .val (.int (Int32.ofNat n)), .val (.int (1 : Int32)), .val (.int u)] [(.int (Int32.ofNat i)), (.ref a)])) rfl rfl (hb hby d_method_4_18) _ (XS.lloadN X0.here hx rfl (hb hby d_method_4_19) rfl (XS.bipush X0.here hx rfl (hb hby d_method_4_20) (XS.iload X0.here hx rfl (hb hby d_method_4_22) rfl (XS.iconst X0.here hx rfl (hb hby d_method_4_24) (XS.isub X0.here hx rfl (hb hby d_method_4_25) rfl kt)))))))) ?_
        show Go p e below P (T0.setTop (mkF m 26 #[.val (.ref a), .val (.int (Int32.ofNat i)), .val (.long w), .second, .val (.int (Int32.ofNat n)), .val (.int (1 : Int32)), .val (.int u)] [(.int ((Int32.ofNat n) - (1 : Int32))), (.int (7 : Int32)), (.long w), (.int (f i))]))
        refine Go.st (fun _ kt => XS.iloadN X0.here hx rfl (hb hby d_method_4_26) rfl (XS.isub X0.here hx rfl (hb hby d_method_4_27) rfl (XS.imul X0.here hx rfl (hb hby d_method_4_28) rfl (XS.lushr X0.here hx rfl (hb hby d_method_4_29) rfl (X0.ldc2Long hx hown (mvT hZ (hw _ (List.mem_of_getElem? (i := 14) rfl))) (g := (mkF m 30 #[.val (.ref a), .val (.int (Int32.ofNat i)), .val (.long w), .second, .val (.int (Int32.ofNat n)), .val (.int (1 : Int32)), .val (.int u)] [(.long ((w.toUInt64 >>> (((7 : Int32) * (((Int32.ofNat n) - (1 : Int32)) - (Int32.ofNat i))) &&& 0x3f).toInt64.toUInt64).toInt64)), (.int (f i))])) rfl (hb hby d_method_4_30) _ (XS.land X0.here hx rfl (hb hby d_method_4_33) rfl (XS.l2i X0.here hx rfl (hb hby d_method_4_34) rfl (XS.i2b X0.here hx rfl (hb hby d_method_4_35) rfl kt)))))))) ?_
        show Go p e below P (T0.setTop (mkF m 36 #[.val (.ref a), .val (.int (Int32.ofNat i)), .val (.long w), .second, .val (.int (Int32.ofNat n)), .val (.int (1 : Int32)), .val (.int u)] [(.int (((((w.toUInt64 >>> (((7 : Int32) * (((Int32.ofNat n) - (1 : Int32)) - (Int32.ofNat i))) &&& 0x3f).toInt64.toUInt64).toInt64) &&& (127 : Int64)).toInt32).toInt8.toInt32)), (.int (f i))]))
        refine Go.st (fun _ kt => XS.icmpNo X0.here hx rfl (hb hby d_method_4_36) rfl (teq (by rw [own_lti (k := 1) (by decide), own_tn (by omega)] at br1; rw [own_ltN (by omega) (by omega)] at br3; rw [hf, own_7i hn1 (by omega), own_lushr (n := 7 * (n - 1 - i)) (by omega) rfl]; unfold own_w; rw [if_pos (by omega)]; rfl)).2 (XS.iconst X0.here hx rfl (hb hby d_method_4_39) (XS.goto X0.here hx rfl (pc0 := 40) (pc' := 44) rfl (hb hby d_method_4_40) (by decide) (by decide) kt))) ?_
        show Go p e below P (T0.setTop (mkF m 44 #[.val (.ref a), .val (.int (Int32.ofNat i)), .val (.long w), .second, .val (.int (Int32.ofNat n)), .val (.int (1 : Int32)), .val (.int u)] [(.int (1 : Int32))]))
        exact goN X0 hx (t := .boolean) hret (by simp) hlk (hb hby d_method_4_44) hP (by decide) (by decide) ⟨rfl, (Fr.nil n0), e0⟩
      · refine Go.st (fun _ kt => XS.icmpYes X0.here hx rfl (pc0 := 13) (pc' := 45) rfl (hb hby d_method_4_13) rfl (flt br3).2.1 (by decide) (by decide) kt) ?_
        show Go p e below P (T0.setTop (mkF m 45 #[.val (.ref a), .val (.int (Int32.ofNat i)), .val (.long w), .second, .val (.int (Int32.ofNat n)), .val (.int (1 : Int32)), .val (.int u)] []))
        refine Go.st (fun _ kt => XS.aloadN X0.here hx rfl (hb hby d_method_4_45) rfl rfl (XS.iloadN X0.here hx rfl (hb hby d_method_4_46) rfl (aryLdB X0 hx hZ e0 Va (j := (Int32.ofNat i)) (i := i) (isN_ofNat (by omega)) hi12 (g := (mkF m 47 #[.val (.ref a), .val (.int (Int32.ofNat i)), .val (.long w), .second, .val (.int (Int32.ofNat n)), .val (.int (1 : Int32)), .val (.int u)] [(.int (Int32.ofNat i)), (.ref a)])) rfl rfl (hb hby d_method_4_47) _ (XS.iload X0.here hx rfl (hb hby d_method_4_48) rfl (XS.iloadN X0.here hx rfl (hb hby d_method_4_50) rfl kt))))) ?_
        show Go p e below P (T0.setTop (mkF m 51 #[.val (.ref a), .val (.int (Int32.ofNat i)), .val (.long w), .second, .val (.int (Int32.ofNat n)), .val (.int (1 : Int32)), .val (.int u)] [(.int (Int32.ofNat i)), (.int u), (.int (f i))]))
        obtain ⟨_, T4, Lc4, X4, ⟨rfl, Nq4, eq4⟩, st4⟩ := callCt X0 hx hZ e0 (y := (⟨"com/example/numtrie/numtrie/index/TrieCodingWritePlacePinLaw", "pre", "(II)B"⟩ : MethodName)) (argsL := [(.int u), (.int (Int32.ofNat i))]) (rest := [(.int (f i))]) hown (hw _ (List.mem_of_getElem? (i := 2) rfl)) (hw _ (List.mem_of_getElem? (i := 3) rfl)) (hw _ (List.mem_of_getElem? (i := 4) rfl)) (hw _ (List.mem_of_getElem? (i := 5) rfl)) (by decide) (rmP l Z a0 hw u (Int32.ofNat i) _ n0 Z0) (W := 1) (by decide) (by decide) (g := (mkF m 51 #[.val (.ref a), .val (.int (Int32.ofNat i)), .val (.long w), .second, .val (.int (Int32.ofNat n)), .val (.int (1 : Int32)), .val (.int u)] [(.int (Int32.ofNat i)), (.int u), (.int (f i))])) rfl (by rw [hml]; rfl) (lenOf pd_2 rfl) rfl (by show 2 * 0 + _ ≤ _; exact Nat.le_of_eq rfl) (hb hby d_method_4_51) (by decide) (by decide)
        have N4 := Fr.app (Fr.nil n0) Nq4
        have e4 : T4.heap = h0 := eq4
        refine Go.st st4 ?_
        show Go p e below P (T4.setTop (mkF m 54 #[.val (.ref a), .val (.int (Int32.ofNat i)), .val (.long w), .second, .val (.int (Int32.ofNat n)), .val (.int (1 : Int32)), .val (.int u)] [(.int (own_pr u (Int32.ofNat i))), (.int (f i))]))
        refine Go.st (fun _ kt => XS.icmpNo X4.here hx rfl (hb hby d_method_4_54) rfl (teq (by rw [own_lti (k := 1) (by decide), own_tn (by omega)] at br1; rw [own_ltN (by omega) (by omega)] at br3; rw [hf]; unfold own_w; rw [if_neg (by omega)])).2 (XS.iconst X4.here hx rfl (hb hby d_method_4_57) (XS.goto X4.here hx rfl (pc0 := 58) (pc' := 62) rfl (hb hby d_method_4_58) (by decide) (by decide) kt))) ?_
        show Go p e below P (T4.setTop (mkF m 62 #[.val (.ref a), .val (.int (Int32.ofNat i)), .val (.long w), .second, .val (.int (Int32.ofNat n)), .val (.int (1 : Int32)), .val (.int u)] [(.int (1 : Int32))]))
        exact goN X4 hx (t := .boolean) hret (by simp) hlk (hb hby d_method_4_62) hP (by decide) (by decide) ⟨rfl, N4, e4⟩
  · show Go p e below P (T0.setTop (mkF m 0 #[.val (.ref a), .val (.int (Int32.ofNat i)), .val (.long w), .second, .val (.int (Int32.ofNat n)), .val (.int (0 : Int32)), .val (.int u)] []))
    refine Go.st (fun _ kt => XS.iload X0.here hx rfl (hb hby d_method_4_0) rfl (XS.ifYes X0.here hx rfl (pc0 := 2) (pc' := 45) rfl (hb hby d_method_4_2) rfl ((if0 _ _).trans (teq (by decide : (0 : Int32) = (0 : Int32))).1) (by decide) (by decide) (XS.aloadN X0.here hx rfl (hb hby d_method_4_45) rfl rfl (XS.iloadN X0.here hx rfl (hb hby d_method_4_46) rfl (aryLdB X0 hx hZ e0 Va (j := (Int32.ofNat i)) (i := i) (isN_ofNat (by omega)) hi12 (g := (mkF m 47 #[.val (.ref a), .val (.int (Int32.ofNat i)), .val (.long w), .second, .val (.int (Int32.ofNat n)), .val (.int (0 : Int32)), .val (.int u)] [(.int (Int32.ofNat i)), (.ref a)])) rfl rfl (hb hby d_method_4_47) _ (XS.iload X0.here hx rfl (hb hby d_method_4_48) rfl (XS.iloadN X0.here hx rfl (hb hby d_method_4_50) rfl kt))))))) ?_
    show Go p e below P (T0.setTop (mkF m 51 #[.val (.ref a), .val (.int (Int32.ofNat i)), .val (.long w), .second, .val (.int (Int32.ofNat n)), .val (.int (0 : Int32)), .val (.int u)] [(.int (Int32.ofNat i)), (.int u), (.int (f i))]))
    obtain ⟨_, T5, Lc5, X5, ⟨rfl, Nq5, eq5⟩, st5⟩ := callCt X0 hx hZ e0 (y := (⟨"com/example/numtrie/numtrie/index/TrieCodingWritePlacePinLaw", "pre", "(II)B"⟩ : MethodName)) (argsL := [(.int u), (.int (Int32.ofNat i))]) (rest := [(.int (f i))]) hown (hw _ (List.mem_of_getElem? (i := 2) rfl)) (hw _ (List.mem_of_getElem? (i := 3) rfl)) (hw _ (List.mem_of_getElem? (i := 4) rfl)) (hw _ (List.mem_of_getElem? (i := 5) rfl)) (by decide) (rmP l Z a0 hw u (Int32.ofNat i) _ n0 Z0) (W := 1) (by decide) (by decide) (g := (mkF m 51 #[.val (.ref a), .val (.int (Int32.ofNat i)), .val (.long w), .second, .val (.int (Int32.ofNat n)), .val (.int (0 : Int32)), .val (.int u)] [(.int (Int32.ofNat i)), (.int u), (.int (f i))])) rfl (by rw [hml]; rfl) (lenOf pd_2 rfl) rfl (by show 2 * 0 + _ ≤ _; exact Nat.le_of_eq rfl) (hb hby d_method_4_51) (by decide) (by decide)
    have N5 := Fr.app (Fr.nil n0) Nq5
    have e5 : T5.heap = h0 := eq5
    refine Go.st st5 ?_
    show Go p e below P (T5.setTop (mkF m 54 #[.val (.ref a), .val (.int (Int32.ofNat i)), .val (.long w), .second, .val (.int (Int32.ofNat n)), .val (.int (0 : Int32)), .val (.int u)] [(.int (own_pr u (Int32.ofNat i))), (.int (f i))]))
    refine Go.st (fun _ kt => XS.icmpNo X5.here hx rfl (hb hby d_method_4_54) rfl (teq hf).2 (XS.iconst X5.here hx rfl (hb hby d_method_4_57) (XS.goto X5.here hx rfl (pc0 := 58) (pc' := 62) rfl (hb hby d_method_4_58) (by decide) (by decide) kt))) ?_
    show Go p e below P (T5.setTop (mkF m 62 #[.val (.ref a), .val (.int (Int32.ofNat i)), .val (.long w), .second, .val (.int (Int32.ofNat n)), .val (.int (0 : Int32)), .val (.int u)] [(.int (1 : Int32))]))
    exact goN X5 hx (t := .boolean) hret (by simp) hlk (hb hby d_method_4_62) hP (by decide) (by decide) ⟨rfl, N5, e5⟩
theorem own_ofn' {n k : Nat} (hn : n < 2 ^ 31) (hk : k < 2 ^ 31) (h : Int32.ofNat n = Int32.ofNat k) : n = k := by
  have := congrArg Int32.toInt h
  rw [own_tn hn, own_tn hk] at this; omega
theorem pd_3 : parseMethodDescriptor "(J[BI)Z" = some ⟨[.long, (.array .byte), .int], some .boolean⟩ := by decide +kernel
theorem pd_4 : parseMethodDescriptor "([BIJIZI)Z" = some ⟨[(.array .byte), .int, .long, .int, .boolean, .int], some .boolean⟩ := by decide +kernel
theorem ef_rm0 (m : MethodId) (q : Int64) (k : Int32) (ln : Int32) (u : Int32) : entryFrame m #[(.long q), (.int k), (.int ln), (.int u)] maxLocals = mkF m 0 #[.val (.long q), .second, .val (.int k), .val (.int ln), .val (.int u), .unset, .unset, .unset, .unset, .unset, .unset] [] := by first | (simp [entryFrame, mkF, argsToLocals, Value.category, maxLocals]; done) | rfl
set_option maxRecDepth 65536 in
set_option maxHeartbeats 40000000 in
theorem rm0 (l : Launch) (Z : State) (a0 : Array Value) (hw : ∀ d ∈ tables_1, d.before a0 Z = true) (ws : List Jvm.Cond) (q : Int64) (k : Int32) (ln : Int32) (u : Int32)  (h0 : Heap) (n0 : Nat) (Z0 : n0 ≤ h0.size)  :
    Ct l x code maxLocals ret ws room_1 Z #[(.long q), (.int k), (.int ln), (.int u)] h0 (fun v h L => v = some (.int 1) ∧ Fr n0 L) := by
  refine Ct.of (plainFor_of_name pn_0) (fun m => ef_rm0 m q k ln u) ?_
  intro p e s m below meth c T0 X0 hx hby hml hret hlk hown hnm hZ e0 P hP
  refine Go.st (fun _ kt => XS.iconst X0.here hx rfl (hb hby at_0) (XS.iloadN X0.here hx rfl (hb hby at_1) rfl (X0.ldcInt hx hown (mvT hZ (hw _ (List.mem_of_getElem? (i := 0) rfl))) (g := (mkF m 2 #[.val (.long q), .second, .val (.int k), .val (.int ln), .val (.int u), .unset, .unset, .unset, .unset, .unset, .unset] [(.int ln), (.int (1 : Int32))])) rfl (hb hby at_2) _ (XS.iand X0.here hx rfl (hb hby at_4) rfl (XS.bipush X0.here hx rfl (hb hby at_5) (iremM X0 hx rfl (hb hby at_7) rfl (by decide) (XS.iadd X0.here hx rfl (hb hby at_8) rfl kt))))))) ?_
  show Go p e below P (T0.setTop (mkF m 9 #[.val (.long q), .second, .val (.int k), .val (.int ln), .val (.int u), .unset, .unset, .unset, .unset, .unset, .unset] [(.int ((1 : Int32) + ((ln &&& (2147483647 : Int32)) % (11 : Int32))))]))
  obtain ⟨n, hn, hn1, hn2⟩ := own_lenn ln
  rw [hn]
  show Go p e below P (T0.setTop (mkF m 9 #[.val (.long q), .second, .val (.int k), .val (.int ln), .val (.int u), .unset, .unset, .unset, .unset, .unset, .unset] [(.int (Int32.ofNat n))]))
  refine Go.st (fun _ kt => XS.istore X0.here hx rfl (hb hby at_9) rfl (l' := #[.val (.long q), .second, .val (.int k), .val (.int ln), .val (.int u), .val (.int (Int32.ofNat n)), .unset, .unset, .unset, .unset, .unset]) rfl (XS.lloadN X0.here hx rfl (hb hby at_11) rfl (XS.iloadN X0.here hx rfl (hb hby at_12) rfl (XS.bipush X0.here hx rfl (hb hby at_13) (XS.iand X0.here hx rfl (hb hby at_15) rfl (XS.lushr X0.here hx rfl (hb hby at_16) rfl kt)))))) ?_
  show Go p e below P (T0.setTop (mkF m 17 #[.val (.long q), .second, .val (.int k), .val (.int ln), .val (.int u), .val (.int (Int32.ofNat n)), .unset, .unset, .unset, .unset, .unset] [(.long ((q.toUInt64 >>> ((k &&& (63 : Int32)) &&& 0x3f).toInt64.toUInt64).toInt64))]))
  generalize ((q.toUInt64 >>> ((k &&& (63 : Int32)) &&& 0x3f).toInt64.toUInt64).toInt64) = w
  show Go p e below P (T0.setTop (mkF m 17 #[.val (.long q), .second, .val (.int k), .val (.int ln), .val (.int u), .val (.int (Int32.ofNat n)), .unset, .unset, .unset, .unset, .unset] [(.long w)]))
  refine Go.st (fun _ kt => XS.lstore X0.here hx rfl (hb hby at_17) rfl (l' := #[.val (.long q), .second, .val (.int k), .val (.int ln), .val (.int u), .val (.int (Int32.ofNat n)), .val (.long w), .second, .unset, .unset, .unset]) rfl (XS.bipush X0.here hx rfl (hb hby at_19) kt)) ?_
  show Go p e below P (T0.setTop (mkF m 21 #[.val (.long q), .second, .val (.int k), .val (.int ln), .val (.int u), .val (.int (Int32.ofNat n)), .val (.long w), .second, .unset, .unset, .unset] [(.int (12 : Int32))]))
  have hz1 : IsN (12 : Int32) 12 := ⟨by decide, by decide⟩
  obtain ⟨T1, h1, k1, X1, e1, E1, A1, st1⟩ := newP X0 hx hZ (hw _ (List.mem_of_getElem? (i := 1) rfl)) e0 (g := (mkF m 21 #[.val (.long q), .second, .val (.int k), .val (.int ln), .val (.int u), .val (.int (Int32.ofNat n)), .val (.long w), .second, .unset, .unset, .unset] [(.int (12 : Int32))])) rfl (hb hby at_21) rfl hz1.1 (cap := 12) (by rw [hz1.2]; exact (by decide)) (by decide) (by decide) (by decide)
  obtain ⟨b1, g1⟩ : ∃ z, z = h0.size := ⟨_, rfl⟩
  rw [← g1] at A1 st1
  have G1 : n0 ≤ b1 := Nat.le_trans Z0 (Nat.le_of_eq g1.symm)
  have V1 : Ary Z h1 b1 .byte Value.int 12 (fun _ => (0 : Int32)) := Ary.new A1 hz1 rfl
  have Z2 := Nat.le_trans Z0 E1.1
  refine Go.st st1 ?_
  show Go p e below P (T1.setTop (mkF m 23 #[.val (.long q), .second, .val (.int k), .val (.int ln), .val (.int u), .val (.int (Int32.ofNat n)), .val (.long w), .second, .unset, .unset, .unset] [(.ref b1)]))
  refine Go.st (fun _ kt => XS.astore X1.here hx rfl (hb hby at_23) rfl rfl (l' := #[.val (.long q), .second, .val (.int k), .val (.int ln), .val (.int u), .val (.int (Int32.ofNat n)), .val (.long w), .second, .val (.ref b1), .unset, .unset]) rfl (XS.aload X1.here hx rfl (hb hby at_25) rfl rfl (XS.iconst X1.here hx rfl (hb hby at_27) (XS.iload X1.here hx rfl (hb hby at_28) rfl (XS.iconst X1.here hx rfl (hb hby at_30) kt))))) ?_
  show Go p e below P (T1.setTop (mkF m 31 #[.val (.long q), .second, .val (.int k), .val (.int ln), .val (.int u), .val (.int (Int32.ofNat n)), .val (.long w), .second, .val (.ref b1), .unset, .unset] [(.int (0 : Int32)), (.int u), (.int (0 : Int32)), (.ref b1)]))
  obtain ⟨_, T3, Lc3, X3, ⟨rfl, Nq3, eq3⟩, st3⟩ := callCt X1 hx hZ e1 (y := (⟨"com/example/numtrie/numtrie/index/TrieCodingWritePlacePinLaw", "pre", "(II)B"⟩ : MethodName)) (argsL := [(.int u), (.int (0 : Int32))]) (rest := [(.int (0 : Int32)), (.ref b1)]) hown (hw _ (List.mem_of_getElem? (i := 2) rfl)) (hw _ (List.mem_of_getElem? (i := 3) rfl)) (hw _ (List.mem_of_getElem? (i := 4) rfl)) (hw _ (List.mem_of_getElem? (i := 5) rfl)) (by decide) (rmP l Z a0 hw u (0 : Int32) _ n0 Z2) (W := 2) (by decide) (by decide) (g := (mkF m 31 #[.val (.long q), .second, .val (.int k), .val (.int ln), .val (.int u), .val (.int (Int32.ofNat n)), .val (.long w), .second, .val (.ref b1), .unset, .unset] [(.int (0 : Int32)), (.int u), (.int (0 : Int32)), (.ref b1)])) rfl (by rw [hml]; rfl) (lenOf pd_2 rfl) rfl (by show 2 * 0 + _ ≤ _; exact Nat.le_of_eq rfl) (hb hby at_31) (by decide) (by decide)
  have N3 := Fr.app (Fr.nil n0) Nq3
  have e3 : T3.heap = h1 := eq3
  refine Go.st st3 ?_
  show Go p e below P (T3.setTop (mkF m 34 #[.val (.long q), .second, .val (.int k), .val (.int ln), .val (.int u), .val (.int (Int32.ofNat n)), .val (.long w), .second, .val (.ref b1), .unset, .unset] [(.int (own_pr u (0 : Int32))), (.int (0 : Int32)), (.ref b1)]))
  obtain ⟨T4, h4, X4, e4, W4, V4, st4⟩ := aryStB X3 hx hZ e3 V1 (j := (0 : Int32)) (x := (own_pr u (0 : Int32))) (i := 0) ⟨by decide, by decide⟩ (by decide) (g := (mkF m 34 #[.val (.long q), .second, .val (.int k), .val (.int ln), .val (.int u), .val (.int (Int32.ofNat n)), .val (.long w), .second, .val (.ref b1), .unset, .unset] [(.int (own_pr u (0 : Int32))), (.int (0 : Int32)), (.ref b1)])) rfl rfl (hb hby at_34)
  have Z5 : n0 ≤ h4.size := by rw [W4.size]; exact Z2
  have N6 := Fr.snoc X4 N3 G1
  refine Go.st st4 ?_
  show Go p e below P (T4.setTop (mkF m 35 #[.val (.long q), .second, .val (.int k), .val (.int ln), .val (.int u), .val (.int (Int32.ofNat n)), .val (.long w), .second, .val (.ref b1), .unset, .unset] []))
  refine Go.st (fun _ kt => XS.aload X4.here hx rfl (hb hby at_35) rfl rfl (XS.iconst X4.here hx rfl (hb hby at_37) (XS.iload X4.here hx rfl (hb hby at_38) rfl (XS.iconst X4.here hx rfl (hb hby at_40) kt)))) ?_
  show Go p e below P (T4.setTop (mkF m 41 #[.val (.long q), .second, .val (.int k), .val (.int ln), .val (.int u), .val (.int (Int32.ofNat n)), .val (.long w), .second, .val (.ref b1), .unset, .unset] [(.int (1 : Int32)), (.int u), (.int (1 : Int32)), (.ref b1)]))
  obtain ⟨_, T7, Lc7, X7, ⟨rfl, Nq7, eq7⟩, st7⟩ := callCt X4 hx hZ e4 (y := (⟨"com/example/numtrie/numtrie/index/TrieCodingWritePlacePinLaw", "pre", "(II)B"⟩ : MethodName)) (argsL := [(.int u), (.int (1 : Int32))]) (rest := [(.int (1 : Int32)), (.ref b1)]) hown (hw _ (List.mem_of_getElem? (i := 2) rfl)) (hw _ (List.mem_of_getElem? (i := 3) rfl)) (hw _ (List.mem_of_getElem? (i := 4) rfl)) (hw _ (List.mem_of_getElem? (i := 5) rfl)) (by decide) (rmP l Z a0 hw u (1 : Int32) _ n0 Z5) (W := 2) (by decide) (by decide) (g := (mkF m 41 #[.val (.long q), .second, .val (.int k), .val (.int ln), .val (.int u), .val (.int (Int32.ofNat n)), .val (.long w), .second, .val (.ref b1), .unset, .unset] [(.int (1 : Int32)), (.int u), (.int (1 : Int32)), (.ref b1)])) rfl (by rw [hml]; rfl) (lenOf pd_2 rfl) rfl (by show 2 * 0 + _ ≤ _; exact Nat.le_of_eq rfl) (hb hby at_41) (by decide) (by decide)
  have N7 := Fr.app N6 Nq7
  have e7 : T7.heap = h4 := eq7
  refine Go.st st7 ?_
  show Go p e below P (T7.setTop (mkF m 44 #[.val (.long q), .second, .val (.int k), .val (.int ln), .val (.int u), .val (.int (Int32.ofNat n)), .val (.long w), .second, .val (.ref b1), .unset, .unset] [(.int (own_pr u (1 : Int32))), (.int (1 : Int32)), (.ref b1)]))
  obtain ⟨T8, h8, X8, e8, W8, V8, st8⟩ := aryStB X7 hx hZ e7 V4 (j := (1 : Int32)) (x := (own_pr u (1 : Int32))) (i := 1) ⟨by decide, by decide⟩ (by decide) (g := (mkF m 44 #[.val (.long q), .second, .val (.int k), .val (.int ln), .val (.int u), .val (.int (Int32.ofNat n)), .val (.long w), .second, .val (.ref b1), .unset, .unset] [(.int (own_pr u (1 : Int32))), (.int (1 : Int32)), (.ref b1)])) rfl rfl (hb hby at_44)
  have Z9 : n0 ≤ h8.size := by rw [W8.size]; exact Z5
  have N10 := Fr.snoc X8 N7 G1
  refine Go.st st8 ?_
  show Go p e below P (T8.setTop (mkF m 45 #[.val (.long q), .second, .val (.int k), .val (.int ln), .val (.int u), .val (.int (Int32.ofNat n)), .val (.long w), .second, .val (.ref b1), .unset, .unset] []))
  refine Go.st (fun _ kt => XS.aload X8.here hx rfl (hb hby at_45) rfl rfl (XS.iconst X8.here hx rfl (hb hby at_47) (XS.iload X8.here hx rfl (hb hby at_48) rfl (XS.iconst X8.here hx rfl (hb hby at_50) kt)))) ?_
  show Go p e below P (T8.setTop (mkF m 51 #[.val (.long q), .second, .val (.int k), .val (.int ln), .val (.int u), .val (.int (Int32.ofNat n)), .val (.long w), .second, .val (.ref b1), .unset, .unset] [(.int (2 : Int32)), (.int u), (.int (2 : Int32)), (.ref b1)]))
  obtain ⟨_, T11, Lc11, X11, ⟨rfl, Nq11, eq11⟩, st11⟩ := callCt X8 hx hZ e8 (y := (⟨"com/example/numtrie/numtrie/index/TrieCodingWritePlacePinLaw", "pre", "(II)B"⟩ : MethodName)) (argsL := [(.int u), (.int (2 : Int32))]) (rest := [(.int (2 : Int32)), (.ref b1)]) hown (hw _ (List.mem_of_getElem? (i := 2) rfl)) (hw _ (List.mem_of_getElem? (i := 3) rfl)) (hw _ (List.mem_of_getElem? (i := 4) rfl)) (hw _ (List.mem_of_getElem? (i := 5) rfl)) (by decide) (rmP l Z a0 hw u (2 : Int32) _ n0 Z9) (W := 2) (by decide) (by decide) (g := (mkF m 51 #[.val (.long q), .second, .val (.int k), .val (.int ln), .val (.int u), .val (.int (Int32.ofNat n)), .val (.long w), .second, .val (.ref b1), .unset, .unset] [(.int (2 : Int32)), (.int u), (.int (2 : Int32)), (.ref b1)])) rfl (by rw [hml]; rfl) (lenOf pd_2 rfl) rfl (by show 2 * 0 + _ ≤ _; exact Nat.le_of_eq rfl) (hb hby at_51) (by decide) (by decide)
  have N11 := Fr.app N10 Nq11
  have e11 : T11.heap = h8 := eq11
  refine Go.st st11 ?_
  show Go p e below P (T11.setTop (mkF m 54 #[.val (.long q), .second, .val (.int k), .val (.int ln), .val (.int u), .val (.int (Int32.ofNat n)), .val (.long w), .second, .val (.ref b1), .unset, .unset] [(.int (own_pr u (2 : Int32))), (.int (2 : Int32)), (.ref b1)]))
  obtain ⟨T12, h12, X12, e12, W12, V12, st12⟩ := aryStB X11 hx hZ e11 V8 (j := (2 : Int32)) (x := (own_pr u (2 : Int32))) (i := 2) ⟨by decide, by decide⟩ (by decide) (g := (mkF m 54 #[.val (.long q), .second, .val (.int k), .val (.int ln), .val (.int u), .val (.int (Int32.ofNat n)), .val (.long w), .second, .val (.ref b1), .unset, .unset] [(.int (own_pr u (2 : Int32))), (.int (2 : Int32)), (.ref b1)])) rfl rfl (hb hby at_54)
  have Z13 : n0 ≤ h12.size := by rw [W12.size]; exact Z9
  have N14 := Fr.snoc X12 N11 G1
  refine Go.st st12 ?_
  show Go p e below P (T12.setTop (mkF m 55 #[.val (.long q), .second, .val (.int k), .val (.int ln), .val (.int u), .val (.int (Int32.ofNat n)), .val (.long w), .second, .val (.ref b1), .unset, .unset] []))
  refine Go.st (fun _ kt => XS.aload X12.here hx rfl (hb hby at_55) rfl rfl (XS.iconst X12.here hx rfl (hb hby at_57) (XS.iload X12.here hx rfl (hb hby at_58) rfl (XS.iconst X12.here hx rfl (hb hby at_60) kt)))) ?_
  show Go p e below P (T12.setTop (mkF m 61 #[.val (.long q), .second, .val (.int k), .val (.int ln), .val (.int u), .val (.int (Int32.ofNat n)), .val (.long w), .second, .val (.ref b1), .unset, .unset] [(.int (3 : Int32)), (.int u), (.int (3 : Int32)), (.ref b1)]))
  obtain ⟨_, T15, Lc15, X15, ⟨rfl, Nq15, eq15⟩, st15⟩ := callCt X12 hx hZ e12 (y := (⟨"com/example/numtrie/numtrie/index/TrieCodingWritePlacePinLaw", "pre", "(II)B"⟩ : MethodName)) (argsL := [(.int u), (.int (3 : Int32))]) (rest := [(.int (3 : Int32)), (.ref b1)]) hown (hw _ (List.mem_of_getElem? (i := 2) rfl)) (hw _ (List.mem_of_getElem? (i := 3) rfl)) (hw _ (List.mem_of_getElem? (i := 4) rfl)) (hw _ (List.mem_of_getElem? (i := 5) rfl)) (by decide) (rmP l Z a0 hw u (3 : Int32) _ n0 Z13) (W := 2) (by decide) (by decide) (g := (mkF m 61 #[.val (.long q), .second, .val (.int k), .val (.int ln), .val (.int u), .val (.int (Int32.ofNat n)), .val (.long w), .second, .val (.ref b1), .unset, .unset] [(.int (3 : Int32)), (.int u), (.int (3 : Int32)), (.ref b1)])) rfl (by rw [hml]; rfl) (lenOf pd_2 rfl) rfl (by show 2 * 0 + _ ≤ _; exact Nat.le_of_eq rfl) (hb hby at_61) (by decide) (by decide)
  have N15 := Fr.app N14 Nq15
  have e15 : T15.heap = h12 := eq15
  refine Go.st st15 ?_
  show Go p e below P (T15.setTop (mkF m 64 #[.val (.long q), .second, .val (.int k), .val (.int ln), .val (.int u), .val (.int (Int32.ofNat n)), .val (.long w), .second, .val (.ref b1), .unset, .unset] [(.int (own_pr u (3 : Int32))), (.int (3 : Int32)), (.ref b1)]))
  obtain ⟨T16, h16, X16, e16, W16, V16, st16⟩ := aryStB X15 hx hZ e15 V12 (j := (3 : Int32)) (x := (own_pr u (3 : Int32))) (i := 3) ⟨by decide, by decide⟩ (by decide) (g := (mkF m 64 #[.val (.long q), .second, .val (.int k), .val (.int ln), .val (.int u), .val (.int (Int32.ofNat n)), .val (.long w), .second, .val (.ref b1), .unset, .unset] [(.int (own_pr u (3 : Int32))), (.int (3 : Int32)), (.ref b1)])) rfl rfl (hb hby at_64)
  have Z17 : n0 ≤ h16.size := by rw [W16.size]; exact Z13
  have N18 := Fr.snoc X16 N15 G1
  refine Go.st st16 ?_
  show Go p e below P (T16.setTop (mkF m 65 #[.val (.long q), .second, .val (.int k), .val (.int ln), .val (.int u), .val (.int (Int32.ofNat n)), .val (.long w), .second, .val (.ref b1), .unset, .unset] []))
  refine Go.st (fun _ kt => XS.aload X16.here hx rfl (hb hby at_65) rfl rfl (XS.iconst X16.here hx rfl (hb hby at_67) (XS.iload X16.here hx rfl (hb hby at_68) rfl (XS.iconst X16.here hx rfl (hb hby at_70) kt)))) ?_
  show Go p e below P (T16.setTop (mkF m 71 #[.val (.long q), .second, .val (.int k), .val (.int ln), .val (.int u), .val (.int (Int32.ofNat n)), .val (.long w), .second, .val (.ref b1), .unset, .unset] [(.int (4 : Int32)), (.int u), (.int (4 : Int32)), (.ref b1)]))
  obtain ⟨_, T19, Lc19, X19, ⟨rfl, Nq19, eq19⟩, st19⟩ := callCt X16 hx hZ e16 (y := (⟨"com/example/numtrie/numtrie/index/TrieCodingWritePlacePinLaw", "pre", "(II)B"⟩ : MethodName)) (argsL := [(.int u), (.int (4 : Int32))]) (rest := [(.int (4 : Int32)), (.ref b1)]) hown (hw _ (List.mem_of_getElem? (i := 2) rfl)) (hw _ (List.mem_of_getElem? (i := 3) rfl)) (hw _ (List.mem_of_getElem? (i := 4) rfl)) (hw _ (List.mem_of_getElem? (i := 5) rfl)) (by decide) (rmP l Z a0 hw u (4 : Int32) _ n0 Z17) (W := 2) (by decide) (by decide) (g := (mkF m 71 #[.val (.long q), .second, .val (.int k), .val (.int ln), .val (.int u), .val (.int (Int32.ofNat n)), .val (.long w), .second, .val (.ref b1), .unset, .unset] [(.int (4 : Int32)), (.int u), (.int (4 : Int32)), (.ref b1)])) rfl (by rw [hml]; rfl) (lenOf pd_2 rfl) rfl (by show 2 * 0 + _ ≤ _; exact Nat.le_of_eq rfl) (hb hby at_71) (by decide) (by decide)
  have N19 := Fr.app N18 Nq19
  have e19 : T19.heap = h16 := eq19
  refine Go.st st19 ?_
  show Go p e below P (T19.setTop (mkF m 74 #[.val (.long q), .second, .val (.int k), .val (.int ln), .val (.int u), .val (.int (Int32.ofNat n)), .val (.long w), .second, .val (.ref b1), .unset, .unset] [(.int (own_pr u (4 : Int32))), (.int (4 : Int32)), (.ref b1)]))
  obtain ⟨T20, h20, X20, e20, W20, V20, st20⟩ := aryStB X19 hx hZ e19 V16 (j := (4 : Int32)) (x := (own_pr u (4 : Int32))) (i := 4) ⟨by decide, by decide⟩ (by decide) (g := (mkF m 74 #[.val (.long q), .second, .val (.int k), .val (.int ln), .val (.int u), .val (.int (Int32.ofNat n)), .val (.long w), .second, .val (.ref b1), .unset, .unset] [(.int (own_pr u (4 : Int32))), (.int (4 : Int32)), (.ref b1)])) rfl rfl (hb hby at_74)
  have Z21 : n0 ≤ h20.size := by rw [W20.size]; exact Z17
  have N22 := Fr.snoc X20 N19 G1
  refine Go.st st20 ?_
  show Go p e below P (T20.setTop (mkF m 75 #[.val (.long q), .second, .val (.int k), .val (.int ln), .val (.int u), .val (.int (Int32.ofNat n)), .val (.long w), .second, .val (.ref b1), .unset, .unset] []))
  refine Go.st (fun _ kt => XS.aload X20.here hx rfl (hb hby at_75) rfl rfl (XS.iconst X20.here hx rfl (hb hby at_77) (XS.iload X20.here hx rfl (hb hby at_78) rfl (XS.iconst X20.here hx rfl (hb hby at_80) kt)))) ?_
  show Go p e below P (T20.setTop (mkF m 81 #[.val (.long q), .second, .val (.int k), .val (.int ln), .val (.int u), .val (.int (Int32.ofNat n)), .val (.long w), .second, .val (.ref b1), .unset, .unset] [(.int (5 : Int32)), (.int u), (.int (5 : Int32)), (.ref b1)]))
  obtain ⟨_, T23, Lc23, X23, ⟨rfl, Nq23, eq23⟩, st23⟩ := callCt X20 hx hZ e20 (y := (⟨"com/example/numtrie/numtrie/index/TrieCodingWritePlacePinLaw", "pre", "(II)B"⟩ : MethodName)) (argsL := [(.int u), (.int (5 : Int32))]) (rest := [(.int (5 : Int32)), (.ref b1)]) hown (hw _ (List.mem_of_getElem? (i := 2) rfl)) (hw _ (List.mem_of_getElem? (i := 3) rfl)) (hw _ (List.mem_of_getElem? (i := 4) rfl)) (hw _ (List.mem_of_getElem? (i := 5) rfl)) (by decide) (rmP l Z a0 hw u (5 : Int32) _ n0 Z21) (W := 2) (by decide) (by decide) (g := (mkF m 81 #[.val (.long q), .second, .val (.int k), .val (.int ln), .val (.int u), .val (.int (Int32.ofNat n)), .val (.long w), .second, .val (.ref b1), .unset, .unset] [(.int (5 : Int32)), (.int u), (.int (5 : Int32)), (.ref b1)])) rfl (by rw [hml]; rfl) (lenOf pd_2 rfl) rfl (by show 2 * 0 + _ ≤ _; exact Nat.le_of_eq rfl) (hb hby at_81) (by decide) (by decide)
  have N23 := Fr.app N22 Nq23
  have e23 : T23.heap = h20 := eq23
  refine Go.st st23 ?_
  show Go p e below P (T23.setTop (mkF m 84 #[.val (.long q), .second, .val (.int k), .val (.int ln), .val (.int u), .val (.int (Int32.ofNat n)), .val (.long w), .second, .val (.ref b1), .unset, .unset] [(.int (own_pr u (5 : Int32))), (.int (5 : Int32)), (.ref b1)]))
  obtain ⟨T24, h24, X24, e24, W24, V24, st24⟩ := aryStB X23 hx hZ e23 V20 (j := (5 : Int32)) (x := (own_pr u (5 : Int32))) (i := 5) ⟨by decide, by decide⟩ (by decide) (g := (mkF m 84 #[.val (.long q), .second, .val (.int k), .val (.int ln), .val (.int u), .val (.int (Int32.ofNat n)), .val (.long w), .second, .val (.ref b1), .unset, .unset] [(.int (own_pr u (5 : Int32))), (.int (5 : Int32)), (.ref b1)])) rfl rfl (hb hby at_84)
  have Z25 : n0 ≤ h24.size := by rw [W24.size]; exact Z21
  have N26 := Fr.snoc X24 N23 G1
  refine Go.st st24 ?_
  show Go p e below P (T24.setTop (mkF m 85 #[.val (.long q), .second, .val (.int k), .val (.int ln), .val (.int u), .val (.int (Int32.ofNat n)), .val (.long w), .second, .val (.ref b1), .unset, .unset] []))
  refine Go.st (fun _ kt => XS.aload X24.here hx rfl (hb hby at_85) rfl rfl (XS.bipush X24.here hx rfl (hb hby at_87) (XS.iload X24.here hx rfl (hb hby at_89) rfl (XS.bipush X24.here hx rfl (hb hby at_91) kt)))) ?_
  show Go p e below P (T24.setTop (mkF m 93 #[.val (.long q), .second, .val (.int k), .val (.int ln), .val (.int u), .val (.int (Int32.ofNat n)), .val (.long w), .second, .val (.ref b1), .unset, .unset] [(.int (6 : Int32)), (.int u), (.int (6 : Int32)), (.ref b1)]))
  obtain ⟨_, T27, Lc27, X27, ⟨rfl, Nq27, eq27⟩, st27⟩ := callCt X24 hx hZ e24 (y := (⟨"com/example/numtrie/numtrie/index/TrieCodingWritePlacePinLaw", "pre", "(II)B"⟩ : MethodName)) (argsL := [(.int u), (.int (6 : Int32))]) (rest := [(.int (6 : Int32)), (.ref b1)]) hown (hw _ (List.mem_of_getElem? (i := 2) rfl)) (hw _ (List.mem_of_getElem? (i := 3) rfl)) (hw _ (List.mem_of_getElem? (i := 4) rfl)) (hw _ (List.mem_of_getElem? (i := 5) rfl)) (by decide) (rmP l Z a0 hw u (6 : Int32) _ n0 Z25) (W := 2) (by decide) (by decide) (g := (mkF m 93 #[.val (.long q), .second, .val (.int k), .val (.int ln), .val (.int u), .val (.int (Int32.ofNat n)), .val (.long w), .second, .val (.ref b1), .unset, .unset] [(.int (6 : Int32)), (.int u), (.int (6 : Int32)), (.ref b1)])) rfl (by rw [hml]; rfl) (lenOf pd_2 rfl) rfl (by show 2 * 0 + _ ≤ _; exact Nat.le_of_eq rfl) (hb hby at_93) (by decide) (by decide)
  have N27 := Fr.app N26 Nq27
  have e27 : T27.heap = h24 := eq27
  refine Go.st st27 ?_
  show Go p e below P (T27.setTop (mkF m 96 #[.val (.long q), .second, .val (.int k), .val (.int ln), .val (.int u), .val (.int (Int32.ofNat n)), .val (.long w), .second, .val (.ref b1), .unset, .unset] [(.int (own_pr u (6 : Int32))), (.int (6 : Int32)), (.ref b1)]))
  obtain ⟨T28, h28, X28, e28, W28, V28, st28⟩ := aryStB X27 hx hZ e27 V24 (j := (6 : Int32)) (x := (own_pr u (6 : Int32))) (i := 6) ⟨by decide, by decide⟩ (by decide) (g := (mkF m 96 #[.val (.long q), .second, .val (.int k), .val (.int ln), .val (.int u), .val (.int (Int32.ofNat n)), .val (.long w), .second, .val (.ref b1), .unset, .unset] [(.int (own_pr u (6 : Int32))), (.int (6 : Int32)), (.ref b1)])) rfl rfl (hb hby at_96)
  have Z29 : n0 ≤ h28.size := by rw [W28.size]; exact Z25
  have N30 := Fr.snoc X28 N27 G1
  refine Go.st st28 ?_
  show Go p e below P (T28.setTop (mkF m 97 #[.val (.long q), .second, .val (.int k), .val (.int ln), .val (.int u), .val (.int (Int32.ofNat n)), .val (.long w), .second, .val (.ref b1), .unset, .unset] []))
  refine Go.st (fun _ kt => XS.aload X28.here hx rfl (hb hby at_97) rfl rfl (XS.bipush X28.here hx rfl (hb hby at_99) (XS.iload X28.here hx rfl (hb hby at_101) rfl (XS.bipush X28.here hx rfl (hb hby at_103) kt)))) ?_
  show Go p e below P (T28.setTop (mkF m 105 #[.val (.long q), .second, .val (.int k), .val (.int ln), .val (.int u), .val (.int (Int32.ofNat n)), .val (.long w), .second, .val (.ref b1), .unset, .unset] [(.int (7 : Int32)), (.int u), (.int (7 : Int32)), (.ref b1)]))
  obtain ⟨_, T31, Lc31, X31, ⟨rfl, Nq31, eq31⟩, st31⟩ := callCt X28 hx hZ e28 (y := (⟨"com/example/numtrie/numtrie/index/TrieCodingWritePlacePinLaw", "pre", "(II)B"⟩ : MethodName)) (argsL := [(.int u), (.int (7 : Int32))]) (rest := [(.int (7 : Int32)), (.ref b1)]) hown (hw _ (List.mem_of_getElem? (i := 2) rfl)) (hw _ (List.mem_of_getElem? (i := 3) rfl)) (hw _ (List.mem_of_getElem? (i := 4) rfl)) (hw _ (List.mem_of_getElem? (i := 5) rfl)) (by decide) (rmP l Z a0 hw u (7 : Int32) _ n0 Z29) (W := 2) (by decide) (by decide) (g := (mkF m 105 #[.val (.long q), .second, .val (.int k), .val (.int ln), .val (.int u), .val (.int (Int32.ofNat n)), .val (.long w), .second, .val (.ref b1), .unset, .unset] [(.int (7 : Int32)), (.int u), (.int (7 : Int32)), (.ref b1)])) rfl (by rw [hml]; rfl) (lenOf pd_2 rfl) rfl (by show 2 * 0 + _ ≤ _; exact Nat.le_of_eq rfl) (hb hby at_105) (by decide) (by decide)
  have N31 := Fr.app N30 Nq31
  have e31 : T31.heap = h28 := eq31
  refine Go.st st31 ?_
  show Go p e below P (T31.setTop (mkF m 108 #[.val (.long q), .second, .val (.int k), .val (.int ln), .val (.int u), .val (.int (Int32.ofNat n)), .val (.long w), .second, .val (.ref b1), .unset, .unset] [(.int (own_pr u (7 : Int32))), (.int (7 : Int32)), (.ref b1)]))
  obtain ⟨T32, h32, X32, e32, W32, V32, st32⟩ := aryStB X31 hx hZ e31 V28 (j := (7 : Int32)) (x := (own_pr u (7 : Int32))) (i := 7) ⟨by decide, by decide⟩ (by decide) (g := (mkF m 108 #[.val (.long q), .second, .val (.int k), .val (.int ln), .val (.int u), .val (.int (Int32.ofNat n)), .val (.long w), .second, .val (.ref b1), .unset, .unset] [(.int (own_pr u (7 : Int32))), (.int (7 : Int32)), (.ref b1)])) rfl rfl (hb hby at_108)
  have Z33 : n0 ≤ h32.size := by rw [W32.size]; exact Z29
  have N34 := Fr.snoc X32 N31 G1
  refine Go.st st32 ?_
  show Go p e below P (T32.setTop (mkF m 109 #[.val (.long q), .second, .val (.int k), .val (.int ln), .val (.int u), .val (.int (Int32.ofNat n)), .val (.long w), .second, .val (.ref b1), .unset, .unset] []))
  refine Go.st (fun _ kt => XS.aload X32.here hx rfl (hb hby at_109) rfl rfl (XS.bipush X32.here hx rfl (hb hby at_111) (XS.iload X32.here hx rfl (hb hby at_113) rfl (XS.bipush X32.here hx rfl (hb hby at_115) kt)))) ?_
  show Go p e below P (T32.setTop (mkF m 117 #[.val (.long q), .second, .val (.int k), .val (.int ln), .val (.int u), .val (.int (Int32.ofNat n)), .val (.long w), .second, .val (.ref b1), .unset, .unset] [(.int (8 : Int32)), (.int u), (.int (8 : Int32)), (.ref b1)]))
  obtain ⟨_, T35, Lc35, X35, ⟨rfl, Nq35, eq35⟩, st35⟩ := callCt X32 hx hZ e32 (y := (⟨"com/example/numtrie/numtrie/index/TrieCodingWritePlacePinLaw", "pre", "(II)B"⟩ : MethodName)) (argsL := [(.int u), (.int (8 : Int32))]) (rest := [(.int (8 : Int32)), (.ref b1)]) hown (hw _ (List.mem_of_getElem? (i := 2) rfl)) (hw _ (List.mem_of_getElem? (i := 3) rfl)) (hw _ (List.mem_of_getElem? (i := 4) rfl)) (hw _ (List.mem_of_getElem? (i := 5) rfl)) (by decide) (rmP l Z a0 hw u (8 : Int32) _ n0 Z33) (W := 2) (by decide) (by decide) (g := (mkF m 117 #[.val (.long q), .second, .val (.int k), .val (.int ln), .val (.int u), .val (.int (Int32.ofNat n)), .val (.long w), .second, .val (.ref b1), .unset, .unset] [(.int (8 : Int32)), (.int u), (.int (8 : Int32)), (.ref b1)])) rfl (by rw [hml]; rfl) (lenOf pd_2 rfl) rfl (by show 2 * 0 + _ ≤ _; exact Nat.le_of_eq rfl) (hb hby at_117) (by decide) (by decide)
  have N35 := Fr.app N34 Nq35
  have e35 : T35.heap = h32 := eq35
  refine Go.st st35 ?_
  show Go p e below P (T35.setTop (mkF m 120 #[.val (.long q), .second, .val (.int k), .val (.int ln), .val (.int u), .val (.int (Int32.ofNat n)), .val (.long w), .second, .val (.ref b1), .unset, .unset] [(.int (own_pr u (8 : Int32))), (.int (8 : Int32)), (.ref b1)]))
  obtain ⟨T36, h36, X36, e36, W36, V36, st36⟩ := aryStB X35 hx hZ e35 V32 (j := (8 : Int32)) (x := (own_pr u (8 : Int32))) (i := 8) ⟨by decide, by decide⟩ (by decide) (g := (mkF m 120 #[.val (.long q), .second, .val (.int k), .val (.int ln), .val (.int u), .val (.int (Int32.ofNat n)), .val (.long w), .second, .val (.ref b1), .unset, .unset] [(.int (own_pr u (8 : Int32))), (.int (8 : Int32)), (.ref b1)])) rfl rfl (hb hby at_120)
  have Z37 : n0 ≤ h36.size := by rw [W36.size]; exact Z33
  have N38 := Fr.snoc X36 N35 G1
  refine Go.st st36 ?_
  show Go p e below P (T36.setTop (mkF m 121 #[.val (.long q), .second, .val (.int k), .val (.int ln), .val (.int u), .val (.int (Int32.ofNat n)), .val (.long w), .second, .val (.ref b1), .unset, .unset] []))
  refine Go.st (fun _ kt => XS.aload X36.here hx rfl (hb hby at_121) rfl rfl (XS.bipush X36.here hx rfl (hb hby at_123) (XS.iload X36.here hx rfl (hb hby at_125) rfl (XS.bipush X36.here hx rfl (hb hby at_127) kt)))) ?_
  show Go p e below P (T36.setTop (mkF m 129 #[.val (.long q), .second, .val (.int k), .val (.int ln), .val (.int u), .val (.int (Int32.ofNat n)), .val (.long w), .second, .val (.ref b1), .unset, .unset] [(.int (9 : Int32)), (.int u), (.int (9 : Int32)), (.ref b1)]))
  obtain ⟨_, T39, Lc39, X39, ⟨rfl, Nq39, eq39⟩, st39⟩ := callCt X36 hx hZ e36 (y := (⟨"com/example/numtrie/numtrie/index/TrieCodingWritePlacePinLaw", "pre", "(II)B"⟩ : MethodName)) (argsL := [(.int u), (.int (9 : Int32))]) (rest := [(.int (9 : Int32)), (.ref b1)]) hown (hw _ (List.mem_of_getElem? (i := 2) rfl)) (hw _ (List.mem_of_getElem? (i := 3) rfl)) (hw _ (List.mem_of_getElem? (i := 4) rfl)) (hw _ (List.mem_of_getElem? (i := 5) rfl)) (by decide) (rmP l Z a0 hw u (9 : Int32) _ n0 Z37) (W := 2) (by decide) (by decide) (g := (mkF m 129 #[.val (.long q), .second, .val (.int k), .val (.int ln), .val (.int u), .val (.int (Int32.ofNat n)), .val (.long w), .second, .val (.ref b1), .unset, .unset] [(.int (9 : Int32)), (.int u), (.int (9 : Int32)), (.ref b1)])) rfl (by rw [hml]; rfl) (lenOf pd_2 rfl) rfl (by show 2 * 0 + _ ≤ _; exact Nat.le_of_eq rfl) (hb hby at_129) (by decide) (by decide)
  have N39 := Fr.app N38 Nq39
  have e39 : T39.heap = h36 := eq39
  refine Go.st st39 ?_
  show Go p e below P (T39.setTop (mkF m 132 #[.val (.long q), .second, .val (.int k), .val (.int ln), .val (.int u), .val (.int (Int32.ofNat n)), .val (.long w), .second, .val (.ref b1), .unset, .unset] [(.int (own_pr u (9 : Int32))), (.int (9 : Int32)), (.ref b1)]))
  obtain ⟨T40, h40, X40, e40, W40, V40, st40⟩ := aryStB X39 hx hZ e39 V36 (j := (9 : Int32)) (x := (own_pr u (9 : Int32))) (i := 9) ⟨by decide, by decide⟩ (by decide) (g := (mkF m 132 #[.val (.long q), .second, .val (.int k), .val (.int ln), .val (.int u), .val (.int (Int32.ofNat n)), .val (.long w), .second, .val (.ref b1), .unset, .unset] [(.int (own_pr u (9 : Int32))), (.int (9 : Int32)), (.ref b1)])) rfl rfl (hb hby at_132)
  have Z41 : n0 ≤ h40.size := by rw [W40.size]; exact Z37
  have N42 := Fr.snoc X40 N39 G1
  refine Go.st st40 ?_
  show Go p e below P (T40.setTop (mkF m 133 #[.val (.long q), .second, .val (.int k), .val (.int ln), .val (.int u), .val (.int (Int32.ofNat n)), .val (.long w), .second, .val (.ref b1), .unset, .unset] []))
  refine Go.st (fun _ kt => XS.aload X40.here hx rfl (hb hby at_133) rfl rfl (XS.bipush X40.here hx rfl (hb hby at_135) (XS.iload X40.here hx rfl (hb hby at_137) rfl (XS.bipush X40.here hx rfl (hb hby at_139) kt)))) ?_
  show Go p e below P (T40.setTop (mkF m 141 #[.val (.long q), .second, .val (.int k), .val (.int ln), .val (.int u), .val (.int (Int32.ofNat n)), .val (.long w), .second, .val (.ref b1), .unset, .unset] [(.int (10 : Int32)), (.int u), (.int (10 : Int32)), (.ref b1)]))
  obtain ⟨_, T43, Lc43, X43, ⟨rfl, Nq43, eq43⟩, st43⟩ := callCt X40 hx hZ e40 (y := (⟨"com/example/numtrie/numtrie/index/TrieCodingWritePlacePinLaw", "pre", "(II)B"⟩ : MethodName)) (argsL := [(.int u), (.int (10 : Int32))]) (rest := [(.int (10 : Int32)), (.ref b1)]) hown (hw _ (List.mem_of_getElem? (i := 2) rfl)) (hw _ (List.mem_of_getElem? (i := 3) rfl)) (hw _ (List.mem_of_getElem? (i := 4) rfl)) (hw _ (List.mem_of_getElem? (i := 5) rfl)) (by decide) (rmP l Z a0 hw u (10 : Int32) _ n0 Z41) (W := 2) (by decide) (by decide) (g := (mkF m 141 #[.val (.long q), .second, .val (.int k), .val (.int ln), .val (.int u), .val (.int (Int32.ofNat n)), .val (.long w), .second, .val (.ref b1), .unset, .unset] [(.int (10 : Int32)), (.int u), (.int (10 : Int32)), (.ref b1)])) rfl (by rw [hml]; rfl) (lenOf pd_2 rfl) rfl (by show 2 * 0 + _ ≤ _; exact Nat.le_of_eq rfl) (hb hby at_141) (by decide) (by decide)
  have N43 := Fr.app N42 Nq43
  have e43 : T43.heap = h40 := eq43
  refine Go.st st43 ?_
  show Go p e below P (T43.setTop (mkF m 144 #[.val (.long q), .second, .val (.int k), .val (.int ln), .val (.int u), .val (.int (Int32.ofNat n)), .val (.long w), .second, .val (.ref b1), .unset, .unset] [(.int (own_pr u (10 : Int32))), (.int (10 : Int32)), (.ref b1)]))
  obtain ⟨T44, h44, X44, e44, W44, V44, st44⟩ := aryStB X43 hx hZ e43 V40 (j := (10 : Int32)) (x := (own_pr u (10 : Int32))) (i := 10) ⟨by decide, by decide⟩ (by decide) (g := (mkF m 144 #[.val (.long q), .second, .val (.int k), .val (.int ln), .val (.int u), .val (.int (Int32.ofNat n)), .val (.long w), .second, .val (.ref b1), .unset, .unset] [(.int (own_pr u (10 : Int32))), (.int (10 : Int32)), (.ref b1)])) rfl rfl (hb hby at_144)
  have Z45 : n0 ≤ h44.size := by rw [W44.size]; exact Z41
  have N46 := Fr.snoc X44 N43 G1
  refine Go.st st44 ?_
  show Go p e below P (T44.setTop (mkF m 145 #[.val (.long q), .second, .val (.int k), .val (.int ln), .val (.int u), .val (.int (Int32.ofNat n)), .val (.long w), .second, .val (.ref b1), .unset, .unset] []))
  refine Go.st (fun _ kt => XS.aload X44.here hx rfl (hb hby at_145) rfl rfl (XS.bipush X44.here hx rfl (hb hby at_147) (XS.iload X44.here hx rfl (hb hby at_149) rfl (XS.bipush X44.here hx rfl (hb hby at_151) kt)))) ?_
  show Go p e below P (T44.setTop (mkF m 153 #[.val (.long q), .second, .val (.int k), .val (.int ln), .val (.int u), .val (.int (Int32.ofNat n)), .val (.long w), .second, .val (.ref b1), .unset, .unset] [(.int (11 : Int32)), (.int u), (.int (11 : Int32)), (.ref b1)]))
  obtain ⟨_, T47, Lc47, X47, ⟨rfl, Nq47, eq47⟩, st47⟩ := callCt X44 hx hZ e44 (y := (⟨"com/example/numtrie/numtrie/index/TrieCodingWritePlacePinLaw", "pre", "(II)B"⟩ : MethodName)) (argsL := [(.int u), (.int (11 : Int32))]) (rest := [(.int (11 : Int32)), (.ref b1)]) hown (hw _ (List.mem_of_getElem? (i := 2) rfl)) (hw _ (List.mem_of_getElem? (i := 3) rfl)) (hw _ (List.mem_of_getElem? (i := 4) rfl)) (hw _ (List.mem_of_getElem? (i := 5) rfl)) (by decide) (rmP l Z a0 hw u (11 : Int32) _ n0 Z45) (W := 2) (by decide) (by decide) (g := (mkF m 153 #[.val (.long q), .second, .val (.int k), .val (.int ln), .val (.int u), .val (.int (Int32.ofNat n)), .val (.long w), .second, .val (.ref b1), .unset, .unset] [(.int (11 : Int32)), (.int u), (.int (11 : Int32)), (.ref b1)])) rfl (by rw [hml]; rfl) (lenOf pd_2 rfl) rfl (by show 2 * 0 + _ ≤ _; exact Nat.le_of_eq rfl) (hb hby at_153) (by decide) (by decide)
  have N47 := Fr.app N46 Nq47
  have e47 : T47.heap = h44 := eq47
  refine Go.st st47 ?_
  show Go p e below P (T47.setTop (mkF m 156 #[.val (.long q), .second, .val (.int k), .val (.int ln), .val (.int u), .val (.int (Int32.ofNat n)), .val (.long w), .second, .val (.ref b1), .unset, .unset] [(.int (own_pr u (11 : Int32))), (.int (11 : Int32)), (.ref b1)]))
  obtain ⟨T48, h48, X48, e48, W48, V48, st48⟩ := aryStB X47 hx hZ e47 V44 (j := (11 : Int32)) (x := (own_pr u (11 : Int32))) (i := 11) ⟨by decide, by decide⟩ (by decide) (g := (mkF m 156 #[.val (.long q), .second, .val (.int k), .val (.int ln), .val (.int u), .val (.int (Int32.ofNat n)), .val (.long w), .second, .val (.ref b1), .unset, .unset] [(.int (own_pr u (11 : Int32))), (.int (11 : Int32)), (.ref b1)])) rfl rfl (hb hby at_156)
  have Z49 : n0 ≤ h48.size := by rw [W48.size]; exact Z45
  have N50 := Fr.snoc X48 N47 G1
  refine Go.st st48 ?_
  show Go p e below P (T48.setTop (mkF m 157 #[.val (.long q), .second, .val (.int k), .val (.int ln), .val (.int u), .val (.int (Int32.ofNat n)), .val (.long w), .second, .val (.ref b1), .unset, .unset] []))
  have Vg51 := Ary.congr (f' := fun j => own_pr u (Int32.ofNat j)) V48 (fun j hj => by
    rcases (by omega : j = 0 ∨ j = 1 ∨ j = 2 ∨ j = 3 ∨ j = 4 ∨ j = 5 ∨ j = 6 ∨ j = 7 ∨ j = 8 ∨ j = 9 ∨ j = 10 ∨ j = 11) with rfl | rfl | rfl | rfl | rfl | rfl | rfl | rfl | rfl | rfl | rfl | rfl <;> exact own_idem _)
  have cut52 : ∀ ft : Int32, ((ft = 1 ∧ own_fits w n) ∨ (ft = 0 ∧ ¬ own_fits w n)) → Go p e below P (T48.setTop (mkF m 223 #[.val (.long q), .second, .val (.int k), .val (.int ln), .val (.int u), .val (.int (Int32.ofNat n)), .val (.long w), .second, .val (.ref b1), .val (.int ft), .unset] [])) := by
    intro ft hft
    refine Go.st (fun _ kt => XS.lload X48.here hx rfl (hb hby at_223) rfl (XS.aload X48.here hx rfl (hb hby at_225) rfl rfl (XS.iload X48.here hx rfl (hb hby at_227) rfl kt))) ?_
    show Go p e below P (T48.setTop (mkF m 229 #[.val (.long q), .second, .val (.int k), .val (.int ln), .val (.int u), .val (.int (Int32.ofNat n)), .val (.long w), .second, .val (.ref b1), .val (.int ft), .unset] [(.int (Int32.ofNat n)), (.ref b1), (.long w)]))
    obtain ⟨_, T53, Lc53, X53, ⟨r, f', rfl, Nq53, K53, Vw53, hw1⟩, st53⟩ := callCt X48 hx hZ e48 (y := (⟨"com/example/numtrie/numtrie/index/TrieCoding", "writePlace", "(J[BI)Z"⟩ : MethodName)) (argsL := [(.long w), (.ref b1), (.int (Int32.ofNat n))]) (rest := []) hown (hw _ (List.mem_of_getElem? (i := 6) rfl)) (hw _ (List.mem_of_getElem? (i := 7) rfl)) (hw _ (List.mem_of_getElem? (i := 8) rfl)) (hw _ (List.mem_of_getElem? (i := 9) rfl)) (by decide) (rmW l Z a0 hw w b1 (Int32.ofNat n) n _ _ n0 Z49 rfl hn1 hn2 Vg51 G1) (W := 0) (by decide) (by decide) (g := (mkF m 229 #[.val (.long q), .second, .val (.int k), .val (.int ln), .val (.int u), .val (.int (Int32.ofNat n)), .val (.long w), .second, .val (.ref b1), .val (.int ft), .unset] [(.int (Int32.ofNat n)), (.ref b1), (.long w)])) rfl (by rw [hml]; rfl) (lenOf pd_3 rfl) rfl (by show 2 * 0 + _ ≤ _; exact Nat.le_of_eq rfl) (hb hby at_229) (by decide) (by decide)
    have N53 := Fr.app N50 Nq53
    have Z54 := Nat.le_trans Z49 K53.1
    refine Go.st st53 ?_
    show Go p e below P (T53.setTop (mkF m 232 #[.val (.long q), .second, .val (.int k), .val (.int ln), .val (.int u), .val (.int (Int32.ofNat n)), .val (.long w), .second, .val (.ref b1), .val (.int ft), .unset] [(.int r)]))
    obtain ⟨hrf, hall⟩ : r = ft ∧ ∀ i, i < 12 → ((ft = 1 ∧ f' i = own_w w n 0 (fun j => own_pr u (Int32.ofNat j)) i) ∨ (ft = 0 ∧ f' i = own_pr u (Int32.ofNat i))) := by
      rcases hft with ⟨h1, h2⟩ | ⟨h1, h2⟩
      · rcases hw1 with ⟨g1, g2, g3⟩ | ⟨g1, g2, g3⟩
        · exact ⟨by rw [h1, g2], fun i hi => Or.inl ⟨h1, g3 i hi⟩⟩
        · exact absurd h2 g1
      · rcases hw1 with ⟨g1, g2, g3⟩ | ⟨g1, g2, g3⟩
        · exact absurd g1 h2
        · exact ⟨by rw [h1, g2], fun i hi => Or.inr ⟨h1, by rw [g3]⟩⟩
    refine Go.st (fun _ kt => XS.istore X53.here hx rfl (hb hby at_232) rfl (l' := #[.val (.long q), .second, .val (.int k), .val (.int ln), .val (.int u), .val (.int (Int32.ofNat n)), .val (.long w), .second, .val (.ref b1), .val (.int ft), .val (.int r)]) rfl (XS.iload X53.here hx rfl (hb hby at_234) rfl (XS.iload X53.here hx rfl (hb hby at_236) rfl (XS.icmpYes X53.here hx rfl (pc0 := 238) (pc' := 243) rfl (hb hby at_238) rfl (teq hrf).1 (by decide) (by decide) (XS.aload X53.here hx rfl (hb hby at_243) rfl rfl (XS.iconst X53.here hx rfl (hb hby at_245) (XS.lload X53.here hx rfl (hb hby at_246) rfl (XS.iload X53.here hx rfl (hb hby at_248) rfl kt)))))))) ?_
    show Go p e below P (T53.setTop (mkF m 250 #[.val (.long q), .second, .val (.int k), .val (.int ln), .val (.int u), .val (.int (Int32.ofNat n)), .val (.long w), .second, .val (.ref b1), .val (.int ft), .val (.int r)] [(.int (Int32.ofNat n)), (.long w), (.int (0 : Int32)), (.ref b1)]))
    refine Go.st (fun _ kt => XS.iload X53.here hx rfl (hb hby at_250) rfl (XS.iload X53.here hx rfl (hb hby at_252) rfl kt)) ?_
    show Go p e below P (T53.setTop (mkF m 254 #[.val (.long q), .second, .val (.int k), .val (.int ln), .val (.int u), .val (.int (Int32.ofNat n)), .val (.long w), .second, .val (.ref b1), .val (.int ft), .val (.int r)] [(.int u), (.int ft), (.int (Int32.ofNat n)), (.long w), (.int (0 : Int32)), (.ref b1)]))
    obtain ⟨_, T55, Lc55, X55, ⟨rfl, Nq55, eq55⟩, st55⟩ := callCt X53 hx hZ rfl (y := (⟨"com/example/numtrie/numtrie/index/TrieCodingWritePlacePinLaw", "ok", "([BIJIZI)Z"⟩ : MethodName)) (argsL := [(.ref b1), (.int (0 : Int32)), (.long w), (.int (Int32.ofNat n)), (.int ft), (.int u)]) (rest := []) hown (hw _ (List.mem_of_getElem? (i := 11) rfl)) (hw _ (List.mem_of_getElem? (i := 12) rfl)) (hw _ (List.mem_of_getElem? (i := 4) rfl)) (hw _ (List.mem_of_getElem? (i := 13) rfl)) (by decide) (rmK l Z a0 hw b1 (0 : Int32) w (Int32.ofNat n) ft u 0 n _ _ n0 Z54 rfl rfl (by decide) hn1 hn2 Vw53 (hall 0 (by decide))) (W := 0) (by decide) (by decide) (g := (mkF m 254 #[.val (.long q), .second, .val (.int k), .val (.int ln), .val (.int u), .val (.int (Int32.ofNat n)), .val (.long w), .second, .val (.ref b1), .val (.int ft), .val (.int r)] [(.int u), (.int ft), (.int (Int32.ofNat n)), (.long w), (.int (0 : Int32)), (.ref b1)])) rfl (by rw [hml]; rfl) (lenOf pd_4 rfl) rfl (by show 2 * 0 + _ ≤ _; exact Nat.le_of_eq rfl) (hb hby at_254) (by decide) (by decide)
    have N55 := Fr.app N53 Nq55
    have e55 : T55.heap = T53.heap := eq55
    refine Go.st st55 ?_
    show Go p e below P (T55.setTop (mkF m 257 #[.val (.long q), .second, .val (.int k), .val (.int ln), .val (.int u), .val (.int (Int32.ofNat n)), .val (.long w), .second, .val (.ref b1), .val (.int ft), .val (.int r)] [(.int (1 : Int32))]))
    refine Go.st (fun _ kt => XS.ifNo X55.here hx rfl (hb hby at_257) rfl ((if0 _ _).trans (feq (by decide : ¬ ((1 : Int32) = (0 : Int32)))).1) (XS.aload X55.here hx rfl (hb hby at_260) rfl rfl (XS.iconst X55.here hx rfl (hb hby at_262) (XS.lload X55.here hx rfl (hb hby at_263) rfl (XS.iload X55.here hx rfl (hb hby at_265) rfl (XS.iload X55.here hx rfl (hb hby at_267) rfl (XS.iload X55.here hx rfl (hb hby at_269) rfl kt))))))) ?_
    show Go p e below P (T55.setTop (mkF m 271 #[.val (.long q), .second, .val (.int k), .val (.int ln), .val (.int u), .val (.int (Int32.ofNat n)), .val (.long w), .second, .val (.ref b1), .val (.int ft), .val (.int r)] [(.int u), (.int ft), (.int (Int32.ofNat n)), (.long w), (.int (1 : Int32)), (.ref b1)]))
    obtain ⟨_, T56, Lc56, X56, ⟨rfl, Nq56, eq56⟩, st56⟩ := callCt X55 hx hZ e55 (y := (⟨"com/example/numtrie/numtrie/index/TrieCodingWritePlacePinLaw", "ok", "([BIJIZI)Z"⟩ : MethodName)) (argsL := [(.ref b1), (.int (1 : Int32)), (.long w), (.int (Int32.ofNat n)), (.int ft), (.int u)]) (rest := []) hown (hw _ (List.mem_of_getElem? (i := 11) rfl)) (hw _ (List.mem_of_getElem? (i := 12) rfl)) (hw _ (List.mem_of_getElem? (i := 4) rfl)) (hw _ (List.mem_of_getElem? (i := 13) rfl)) (by decide) (rmK l Z a0 hw b1 (1 : Int32) w (Int32.ofNat n) ft u 1 n _ _ n0 Z54 rfl rfl (by decide) hn1 hn2 Vw53 (hall 1 (by decide))) (W := 0) (by decide) (by decide) (g := (mkF m 271 #[.val (.long q), .second, .val (.int k), .val (.int ln), .val (.int u), .val (.int (Int32.ofNat n)), .val (.long w), .second, .val (.ref b1), .val (.int ft), .val (.int r)] [(.int u), (.int ft), (.int (Int32.ofNat n)), (.long w), (.int (1 : Int32)), (.ref b1)])) rfl (by rw [hml]; rfl) (lenOf pd_4 rfl) rfl (by show 2 * 0 + _ ≤ _; exact Nat.le_of_eq rfl) (hb hby at_271) (by decide) (by decide)
    have N56 := Fr.app N55 Nq56
    have e56 : T56.heap = T53.heap := eq56
    refine Go.st st56 ?_
    show Go p e below P (T56.setTop (mkF m 274 #[.val (.long q), .second, .val (.int k), .val (.int ln), .val (.int u), .val (.int (Int32.ofNat n)), .val (.long w), .second, .val (.ref b1), .val (.int ft), .val (.int r)] [(.int (1 : Int32))]))
    refine Go.st (fun _ kt => XS.ifNo X56.here hx rfl (hb hby at_274) rfl ((if0 _ _).trans (feq (by decide : ¬ ((1 : Int32) = (0 : Int32)))).1) (XS.aload X56.here hx rfl (hb hby at_277) rfl rfl (XS.iconst X56.here hx rfl (hb hby at_279) (XS.lload X56.here hx rfl (hb hby at_280) rfl (XS.iload X56.here hx rfl (hb hby at_282) rfl (XS.iload X56.here hx rfl (hb hby at_284) rfl (XS.iload X56.here hx rfl (hb hby at_286) rfl kt))))))) ?_
    show Go p e below P (T56.setTop (mkF m 288 #[.val (.long q), .second, .val (.int k), .val (.int ln), .val (.int u), .val (.int (Int32.ofNat n)), .val (.long w), .second, .val (.ref b1), .val (.int ft), .val (.int r)] [(.int u), (.int ft), (.int (Int32.ofNat n)), (.long w), (.int (2 : Int32)), (.ref b1)]))
    obtain ⟨_, T57, Lc57, X57, ⟨rfl, Nq57, eq57⟩, st57⟩ := callCt X56 hx hZ e56 (y := (⟨"com/example/numtrie/numtrie/index/TrieCodingWritePlacePinLaw", "ok", "([BIJIZI)Z"⟩ : MethodName)) (argsL := [(.ref b1), (.int (2 : Int32)), (.long w), (.int (Int32.ofNat n)), (.int ft), (.int u)]) (rest := []) hown (hw _ (List.mem_of_getElem? (i := 11) rfl)) (hw _ (List.mem_of_getElem? (i := 12) rfl)) (hw _ (List.mem_of_getElem? (i := 4) rfl)) (hw _ (List.mem_of_getElem? (i := 13) rfl)) (by decide) (rmK l Z a0 hw b1 (2 : Int32) w (Int32.ofNat n) ft u 2 n _ _ n0 Z54 rfl rfl (by decide) hn1 hn2 Vw53 (hall 2 (by decide))) (W := 0) (by decide) (by decide) (g := (mkF m 288 #[.val (.long q), .second, .val (.int k), .val (.int ln), .val (.int u), .val (.int (Int32.ofNat n)), .val (.long w), .second, .val (.ref b1), .val (.int ft), .val (.int r)] [(.int u), (.int ft), (.int (Int32.ofNat n)), (.long w), (.int (2 : Int32)), (.ref b1)])) rfl (by rw [hml]; rfl) (lenOf pd_4 rfl) rfl (by show 2 * 0 + _ ≤ _; exact Nat.le_of_eq rfl) (hb hby at_288) (by decide) (by decide)
    have N57 := Fr.app N56 Nq57
    have e57 : T57.heap = T53.heap := eq57
    refine Go.st st57 ?_
    show Go p e below P (T57.setTop (mkF m 291 #[.val (.long q), .second, .val (.int k), .val (.int ln), .val (.int u), .val (.int (Int32.ofNat n)), .val (.long w), .second, .val (.ref b1), .val (.int ft), .val (.int r)] [(.int (1 : Int32))]))
    refine Go.st (fun _ kt => XS.ifNo X57.here hx rfl (hb hby at_291) rfl ((if0 _ _).trans (feq (by decide : ¬ ((1 : Int32) = (0 : Int32)))).1) (XS.aload X57.here hx rfl (hb hby at_294) rfl rfl (XS.iconst X57.here hx rfl (hb hby at_296) (XS.lload X57.here hx rfl (hb hby at_297) rfl (XS.iload X57.here hx rfl (hb hby at_299) rfl (XS.iload X57.here hx rfl (hb hby at_301) rfl (XS.iload X57.here hx rfl (hb hby at_303) rfl kt))))))) ?_
    show Go p e below P (T57.setTop (mkF m 305 #[.val (.long q), .second, .val (.int k), .val (.int ln), .val (.int u), .val (.int (Int32.ofNat n)), .val (.long w), .second, .val (.ref b1), .val (.int ft), .val (.int r)] [(.int u), (.int ft), (.int (Int32.ofNat n)), (.long w), (.int (3 : Int32)), (.ref b1)]))
    obtain ⟨_, T58, Lc58, X58, ⟨rfl, Nq58, eq58⟩, st58⟩ := callCt X57 hx hZ e57 (y := (⟨"com/example/numtrie/numtrie/index/TrieCodingWritePlacePinLaw", "ok", "([BIJIZI)Z"⟩ : MethodName)) (argsL := [(.ref b1), (.int (3 : Int32)), (.long w), (.int (Int32.ofNat n)), (.int ft), (.int u)]) (rest := []) hown (hw _ (List.mem_of_getElem? (i := 11) rfl)) (hw _ (List.mem_of_getElem? (i := 12) rfl)) (hw _ (List.mem_of_getElem? (i := 4) rfl)) (hw _ (List.mem_of_getElem? (i := 13) rfl)) (by decide) (rmK l Z a0 hw b1 (3 : Int32) w (Int32.ofNat n) ft u 3 n _ _ n0 Z54 rfl rfl (by decide) hn1 hn2 Vw53 (hall 3 (by decide))) (W := 0) (by decide) (by decide) (g := (mkF m 305 #[.val (.long q), .second, .val (.int k), .val (.int ln), .val (.int u), .val (.int (Int32.ofNat n)), .val (.long w), .second, .val (.ref b1), .val (.int ft), .val (.int r)] [(.int u), (.int ft), (.int (Int32.ofNat n)), (.long w), (.int (3 : Int32)), (.ref b1)])) rfl (by rw [hml]; rfl) (lenOf pd_4 rfl) rfl (by show 2 * 0 + _ ≤ _; exact Nat.le_of_eq rfl) (hb hby at_305) (by decide) (by decide)
    have N58 := Fr.app N57 Nq58
    have e58 : T58.heap = T53.heap := eq58
    refine Go.st st58 ?_
    show Go p e below P (T58.setTop (mkF m 308 #[.val (.long q), .second, .val (.int k), .val (.int ln), .val (.int u), .val (.int (Int32.ofNat n)), .val (.long w), .second, .val (.ref b1), .val (.int ft), .val (.int r)] [(.int (1 : Int32))]))
    refine Go.st (fun _ kt => XS.ifNo X58.here hx rfl (hb hby at_308) rfl ((if0 _ _).trans (feq (by decide : ¬ ((1 : Int32) = (0 : Int32)))).1) (XS.aload X58.here hx rfl (hb hby at_311) rfl rfl (XS.iconst X58.here hx rfl (hb hby at_313) (XS.lload X58.here hx rfl (hb hby at_314) rfl (XS.iload X58.here hx rfl (hb hby at_316) rfl (XS.iload X58.here hx rfl (hb hby at_318) rfl (XS.iload X58.here hx rfl (hb hby at_320) rfl kt))))))) ?_
    show Go p e below P (T58.setTop (mkF m 322 #[.val (.long q), .second, .val (.int k), .val (.int ln), .val (.int u), .val (.int (Int32.ofNat n)), .val (.long w), .second, .val (.ref b1), .val (.int ft), .val (.int r)] [(.int u), (.int ft), (.int (Int32.ofNat n)), (.long w), (.int (4 : Int32)), (.ref b1)]))
    obtain ⟨_, T59, Lc59, X59, ⟨rfl, Nq59, eq59⟩, st59⟩ := callCt X58 hx hZ e58 (y := (⟨"com/example/numtrie/numtrie/index/TrieCodingWritePlacePinLaw", "ok", "([BIJIZI)Z"⟩ : MethodName)) (argsL := [(.ref b1), (.int (4 : Int32)), (.long w), (.int (Int32.ofNat n)), (.int ft), (.int u)]) (rest := []) hown (hw _ (List.mem_of_getElem? (i := 11) rfl)) (hw _ (List.mem_of_getElem? (i := 12) rfl)) (hw _ (List.mem_of_getElem? (i := 4) rfl)) (hw _ (List.mem_of_getElem? (i := 13) rfl)) (by decide) (rmK l Z a0 hw b1 (4 : Int32) w (Int32.ofNat n) ft u 4 n _ _ n0 Z54 rfl rfl (by decide) hn1 hn2 Vw53 (hall 4 (by decide))) (W := 0) (by decide) (by decide) (g := (mkF m 322 #[.val (.long q), .second, .val (.int k), .val (.int ln), .val (.int u), .val (.int (Int32.ofNat n)), .val (.long w), .second, .val (.ref b1), .val (.int ft), .val (.int r)] [(.int u), (.int ft), (.int (Int32.ofNat n)), (.long w), (.int (4 : Int32)), (.ref b1)])) rfl (by rw [hml]; rfl) (lenOf pd_4 rfl) rfl (by show 2 * 0 + _ ≤ _; exact Nat.le_of_eq rfl) (hb hby at_322) (by decide) (by decide)
    have N59 := Fr.app N58 Nq59
    have e59 : T59.heap = T53.heap := eq59
    refine Go.st st59 ?_
    show Go p e below P (T59.setTop (mkF m 325 #[.val (.long q), .second, .val (.int k), .val (.int ln), .val (.int u), .val (.int (Int32.ofNat n)), .val (.long w), .second, .val (.ref b1), .val (.int ft), .val (.int r)] [(.int (1 : Int32))]))
    refine Go.st (fun _ kt => XS.ifNo X59.here hx rfl (hb hby at_325) rfl ((if0 _ _).trans (feq (by decide : ¬ ((1 : Int32) = (0 : Int32)))).1) (XS.aload X59.here hx rfl (hb hby at_328) rfl rfl (XS.iconst X59.here hx rfl (hb hby at_330) (XS.lload X59.here hx rfl (hb hby at_331) rfl (XS.iload X59.here hx rfl (hb hby at_333) rfl (XS.iload X59.here hx rfl (hb hby at_335) rfl (XS.iload X59.here hx rfl (hb hby at_337) rfl kt))))))) ?_
    show Go p e below P (T59.setTop (mkF m 339 #[.val (.long q), .second, .val (.int k), .val (.int ln), .val (.int u), .val (.int (Int32.ofNat n)), .val (.long w), .second, .val (.ref b1), .val (.int ft), .val (.int r)] [(.int u), (.int ft), (.int (Int32.ofNat n)), (.long w), (.int (5 : Int32)), (.ref b1)]))
    obtain ⟨_, T60, Lc60, X60, ⟨rfl, Nq60, eq60⟩, st60⟩ := callCt X59 hx hZ e59 (y := (⟨"com/example/numtrie/numtrie/index/TrieCodingWritePlacePinLaw", "ok", "([BIJIZI)Z"⟩ : MethodName)) (argsL := [(.ref b1), (.int (5 : Int32)), (.long w), (.int (Int32.ofNat n)), (.int ft), (.int u)]) (rest := []) hown (hw _ (List.mem_of_getElem? (i := 11) rfl)) (hw _ (List.mem_of_getElem? (i := 12) rfl)) (hw _ (List.mem_of_getElem? (i := 4) rfl)) (hw _ (List.mem_of_getElem? (i := 13) rfl)) (by decide) (rmK l Z a0 hw b1 (5 : Int32) w (Int32.ofNat n) ft u 5 n _ _ n0 Z54 rfl rfl (by decide) hn1 hn2 Vw53 (hall 5 (by decide))) (W := 0) (by decide) (by decide) (g := (mkF m 339 #[.val (.long q), .second, .val (.int k), .val (.int ln), .val (.int u), .val (.int (Int32.ofNat n)), .val (.long w), .second, .val (.ref b1), .val (.int ft), .val (.int r)] [(.int u), (.int ft), (.int (Int32.ofNat n)), (.long w), (.int (5 : Int32)), (.ref b1)])) rfl (by rw [hml]; rfl) (lenOf pd_4 rfl) rfl (by show 2 * 0 + _ ≤ _; exact Nat.le_of_eq rfl) (hb hby at_339) (by decide) (by decide)
    have N60 := Fr.app N59 Nq60
    have e60 : T60.heap = T53.heap := eq60
    refine Go.st st60 ?_
    show Go p e below P (T60.setTop (mkF m 342 #[.val (.long q), .second, .val (.int k), .val (.int ln), .val (.int u), .val (.int (Int32.ofNat n)), .val (.long w), .second, .val (.ref b1), .val (.int ft), .val (.int r)] [(.int (1 : Int32))]))
    refine Go.st (fun _ kt => XS.ifNo X60.here hx rfl (hb hby at_342) rfl ((if0 _ _).trans (feq (by decide : ¬ ((1 : Int32) = (0 : Int32)))).1) (XS.aload X60.here hx rfl (hb hby at_345) rfl rfl (XS.bipush X60.here hx rfl (hb hby at_347) (XS.lload X60.here hx rfl (hb hby at_349) rfl (XS.iload X60.here hx rfl (hb hby at_351) rfl (XS.iload X60.here hx rfl (hb hby at_353) rfl (XS.iload X60.here hx rfl (hb hby at_355) rfl kt))))))) ?_
    show Go p e below P (T60.setTop (mkF m 357 #[.val (.long q), .second, .val (.int k), .val (.int ln), .val (.int u), .val (.int (Int32.ofNat n)), .val (.long w), .second, .val (.ref b1), .val (.int ft), .val (.int r)] [(.int u), (.int ft), (.int (Int32.ofNat n)), (.long w), (.int (6 : Int32)), (.ref b1)]))
    obtain ⟨_, T61, Lc61, X61, ⟨rfl, Nq61, eq61⟩, st61⟩ := callCt X60 hx hZ e60 (y := (⟨"com/example/numtrie/numtrie/index/TrieCodingWritePlacePinLaw", "ok", "([BIJIZI)Z"⟩ : MethodName)) (argsL := [(.ref b1), (.int (6 : Int32)), (.long w), (.int (Int32.ofNat n)), (.int ft), (.int u)]) (rest := []) hown (hw _ (List.mem_of_getElem? (i := 11) rfl)) (hw _ (List.mem_of_getElem? (i := 12) rfl)) (hw _ (List.mem_of_getElem? (i := 4) rfl)) (hw _ (List.mem_of_getElem? (i := 13) rfl)) (by decide) (rmK l Z a0 hw b1 (6 : Int32) w (Int32.ofNat n) ft u 6 n _ _ n0 Z54 rfl rfl (by decide) hn1 hn2 Vw53 (hall 6 (by decide))) (W := 0) (by decide) (by decide) (g := (mkF m 357 #[.val (.long q), .second, .val (.int k), .val (.int ln), .val (.int u), .val (.int (Int32.ofNat n)), .val (.long w), .second, .val (.ref b1), .val (.int ft), .val (.int r)] [(.int u), (.int ft), (.int (Int32.ofNat n)), (.long w), (.int (6 : Int32)), (.ref b1)])) rfl (by rw [hml]; rfl) (lenOf pd_4 rfl) rfl (by show 2 * 0 + _ ≤ _; exact Nat.le_of_eq rfl) (hb hby at_357) (by decide) (by decide)
    have N61 := Fr.app N60 Nq61
    have e61 : T61.heap = T53.heap := eq61
    refine Go.st st61 ?_
    show Go p e below P (T61.setTop (mkF m 360 #[.val (.long q), .second, .val (.int k), .val (.int ln), .val (.int u), .val (.int (Int32.ofNat n)), .val (.long w), .second, .val (.ref b1), .val (.int ft), .val (.int r)] [(.int (1 : Int32))]))
    refine Go.st (fun _ kt => XS.ifNo X61.here hx rfl (hb hby at_360) rfl ((if0 _ _).trans (feq (by decide : ¬ ((1 : Int32) = (0 : Int32)))).1) (XS.aload X61.here hx rfl (hb hby at_363) rfl rfl (XS.bipush X61.here hx rfl (hb hby at_365) (XS.lload X61.here hx rfl (hb hby at_367) rfl (XS.iload X61.here hx rfl (hb hby at_369) rfl (XS.iload X61.here hx rfl (hb hby at_371) rfl (XS.iload X61.here hx rfl (hb hby at_373) rfl kt))))))) ?_
    show Go p e below P (T61.setTop (mkF m 375 #[.val (.long q), .second, .val (.int k), .val (.int ln), .val (.int u), .val (.int (Int32.ofNat n)), .val (.long w), .second, .val (.ref b1), .val (.int ft), .val (.int r)] [(.int u), (.int ft), (.int (Int32.ofNat n)), (.long w), (.int (7 : Int32)), (.ref b1)]))
    obtain ⟨_, T62, Lc62, X62, ⟨rfl, Nq62, eq62⟩, st62⟩ := callCt X61 hx hZ e61 (y := (⟨"com/example/numtrie/numtrie/index/TrieCodingWritePlacePinLaw", "ok", "([BIJIZI)Z"⟩ : MethodName)) (argsL := [(.ref b1), (.int (7 : Int32)), (.long w), (.int (Int32.ofNat n)), (.int ft), (.int u)]) (rest := []) hown (hw _ (List.mem_of_getElem? (i := 11) rfl)) (hw _ (List.mem_of_getElem? (i := 12) rfl)) (hw _ (List.mem_of_getElem? (i := 4) rfl)) (hw _ (List.mem_of_getElem? (i := 13) rfl)) (by decide) (rmK l Z a0 hw b1 (7 : Int32) w (Int32.ofNat n) ft u 7 n _ _ n0 Z54 rfl rfl (by decide) hn1 hn2 Vw53 (hall 7 (by decide))) (W := 0) (by decide) (by decide) (g := (mkF m 375 #[.val (.long q), .second, .val (.int k), .val (.int ln), .val (.int u), .val (.int (Int32.ofNat n)), .val (.long w), .second, .val (.ref b1), .val (.int ft), .val (.int r)] [(.int u), (.int ft), (.int (Int32.ofNat n)), (.long w), (.int (7 : Int32)), (.ref b1)])) rfl (by rw [hml]; rfl) (lenOf pd_4 rfl) rfl (by show 2 * 0 + _ ≤ _; exact Nat.le_of_eq rfl) (hb hby at_375) (by decide) (by decide)
    have N62 := Fr.app N61 Nq62
    have e62 : T62.heap = T53.heap := eq62
    refine Go.st st62 ?_
    show Go p e below P (T62.setTop (mkF m 378 #[.val (.long q), .second, .val (.int k), .val (.int ln), .val (.int u), .val (.int (Int32.ofNat n)), .val (.long w), .second, .val (.ref b1), .val (.int ft), .val (.int r)] [(.int (1 : Int32))]))
    refine Go.st (fun _ kt => XS.ifNo X62.here hx rfl (hb hby at_378) rfl ((if0 _ _).trans (feq (by decide : ¬ ((1 : Int32) = (0 : Int32)))).1) (XS.aload X62.here hx rfl (hb hby at_381) rfl rfl (XS.bipush X62.here hx rfl (hb hby at_383) (XS.lload X62.here hx rfl (hb hby at_385) rfl (XS.iload X62.here hx rfl (hb hby at_387) rfl (XS.iload X62.here hx rfl (hb hby at_389) rfl (XS.iload X62.here hx rfl (hb hby at_391) rfl kt))))))) ?_
    show Go p e below P (T62.setTop (mkF m 393 #[.val (.long q), .second, .val (.int k), .val (.int ln), .val (.int u), .val (.int (Int32.ofNat n)), .val (.long w), .second, .val (.ref b1), .val (.int ft), .val (.int r)] [(.int u), (.int ft), (.int (Int32.ofNat n)), (.long w), (.int (8 : Int32)), (.ref b1)]))
    obtain ⟨_, T63, Lc63, X63, ⟨rfl, Nq63, eq63⟩, st63⟩ := callCt X62 hx hZ e62 (y := (⟨"com/example/numtrie/numtrie/index/TrieCodingWritePlacePinLaw", "ok", "([BIJIZI)Z"⟩ : MethodName)) (argsL := [(.ref b1), (.int (8 : Int32)), (.long w), (.int (Int32.ofNat n)), (.int ft), (.int u)]) (rest := []) hown (hw _ (List.mem_of_getElem? (i := 11) rfl)) (hw _ (List.mem_of_getElem? (i := 12) rfl)) (hw _ (List.mem_of_getElem? (i := 4) rfl)) (hw _ (List.mem_of_getElem? (i := 13) rfl)) (by decide) (rmK l Z a0 hw b1 (8 : Int32) w (Int32.ofNat n) ft u 8 n _ _ n0 Z54 rfl rfl (by decide) hn1 hn2 Vw53 (hall 8 (by decide))) (W := 0) (by decide) (by decide) (g := (mkF m 393 #[.val (.long q), .second, .val (.int k), .val (.int ln), .val (.int u), .val (.int (Int32.ofNat n)), .val (.long w), .second, .val (.ref b1), .val (.int ft), .val (.int r)] [(.int u), (.int ft), (.int (Int32.ofNat n)), (.long w), (.int (8 : Int32)), (.ref b1)])) rfl (by rw [hml]; rfl) (lenOf pd_4 rfl) rfl (by show 2 * 0 + _ ≤ _; exact Nat.le_of_eq rfl) (hb hby at_393) (by decide) (by decide)
    have N63 := Fr.app N62 Nq63
    have e63 : T63.heap = T53.heap := eq63
    refine Go.st st63 ?_
    show Go p e below P (T63.setTop (mkF m 396 #[.val (.long q), .second, .val (.int k), .val (.int ln), .val (.int u), .val (.int (Int32.ofNat n)), .val (.long w), .second, .val (.ref b1), .val (.int ft), .val (.int r)] [(.int (1 : Int32))]))
    refine Go.st (fun _ kt => XS.ifNo X63.here hx rfl (hb hby at_396) rfl ((if0 _ _).trans (feq (by decide : ¬ ((1 : Int32) = (0 : Int32)))).1) (XS.aload X63.here hx rfl (hb hby at_399) rfl rfl (XS.bipush X63.here hx rfl (hb hby at_401) (XS.lload X63.here hx rfl (hb hby at_403) rfl (XS.iload X63.here hx rfl (hb hby at_405) rfl (XS.iload X63.here hx rfl (hb hby at_407) rfl (XS.iload X63.here hx rfl (hb hby at_409) rfl kt))))))) ?_
    show Go p e below P (T63.setTop (mkF m 411 #[.val (.long q), .second, .val (.int k), .val (.int ln), .val (.int u), .val (.int (Int32.ofNat n)), .val (.long w), .second, .val (.ref b1), .val (.int ft), .val (.int r)] [(.int u), (.int ft), (.int (Int32.ofNat n)), (.long w), (.int (9 : Int32)), (.ref b1)]))
    obtain ⟨_, T64, Lc64, X64, ⟨rfl, Nq64, eq64⟩, st64⟩ := callCt X63 hx hZ e63 (y := (⟨"com/example/numtrie/numtrie/index/TrieCodingWritePlacePinLaw", "ok", "([BIJIZI)Z"⟩ : MethodName)) (argsL := [(.ref b1), (.int (9 : Int32)), (.long w), (.int (Int32.ofNat n)), (.int ft), (.int u)]) (rest := []) hown (hw _ (List.mem_of_getElem? (i := 11) rfl)) (hw _ (List.mem_of_getElem? (i := 12) rfl)) (hw _ (List.mem_of_getElem? (i := 4) rfl)) (hw _ (List.mem_of_getElem? (i := 13) rfl)) (by decide) (rmK l Z a0 hw b1 (9 : Int32) w (Int32.ofNat n) ft u 9 n _ _ n0 Z54 rfl rfl (by decide) hn1 hn2 Vw53 (hall 9 (by decide))) (W := 0) (by decide) (by decide) (g := (mkF m 411 #[.val (.long q), .second, .val (.int k), .val (.int ln), .val (.int u), .val (.int (Int32.ofNat n)), .val (.long w), .second, .val (.ref b1), .val (.int ft), .val (.int r)] [(.int u), (.int ft), (.int (Int32.ofNat n)), (.long w), (.int (9 : Int32)), (.ref b1)])) rfl (by rw [hml]; rfl) (lenOf pd_4 rfl) rfl (by show 2 * 0 + _ ≤ _; exact Nat.le_of_eq rfl) (hb hby at_411) (by decide) (by decide)
    have N64 := Fr.app N63 Nq64
    have e64 : T64.heap = T53.heap := eq64
    refine Go.st st64 ?_
    show Go p e below P (T64.setTop (mkF m 414 #[.val (.long q), .second, .val (.int k), .val (.int ln), .val (.int u), .val (.int (Int32.ofNat n)), .val (.long w), .second, .val (.ref b1), .val (.int ft), .val (.int r)] [(.int (1 : Int32))]))
    refine Go.st (fun _ kt => XS.ifNo X64.here hx rfl (hb hby at_414) rfl ((if0 _ _).trans (feq (by decide : ¬ ((1 : Int32) = (0 : Int32)))).1) (XS.aload X64.here hx rfl (hb hby at_417) rfl rfl (XS.bipush X64.here hx rfl (hb hby at_419) (XS.lload X64.here hx rfl (hb hby at_421) rfl (XS.iload X64.here hx rfl (hb hby at_423) rfl (XS.iload X64.here hx rfl (hb hby at_425) rfl (XS.iload X64.here hx rfl (hb hby at_427) rfl kt))))))) ?_
    show Go p e below P (T64.setTop (mkF m 429 #[.val (.long q), .second, .val (.int k), .val (.int ln), .val (.int u), .val (.int (Int32.ofNat n)), .val (.long w), .second, .val (.ref b1), .val (.int ft), .val (.int r)] [(.int u), (.int ft), (.int (Int32.ofNat n)), (.long w), (.int (10 : Int32)), (.ref b1)]))
    obtain ⟨_, T65, Lc65, X65, ⟨rfl, Nq65, eq65⟩, st65⟩ := callCt X64 hx hZ e64 (y := (⟨"com/example/numtrie/numtrie/index/TrieCodingWritePlacePinLaw", "ok", "([BIJIZI)Z"⟩ : MethodName)) (argsL := [(.ref b1), (.int (10 : Int32)), (.long w), (.int (Int32.ofNat n)), (.int ft), (.int u)]) (rest := []) hown (hw _ (List.mem_of_getElem? (i := 11) rfl)) (hw _ (List.mem_of_getElem? (i := 12) rfl)) (hw _ (List.mem_of_getElem? (i := 4) rfl)) (hw _ (List.mem_of_getElem? (i := 13) rfl)) (by decide) (rmK l Z a0 hw b1 (10 : Int32) w (Int32.ofNat n) ft u 10 n _ _ n0 Z54 rfl rfl (by decide) hn1 hn2 Vw53 (hall 10 (by decide))) (W := 0) (by decide) (by decide) (g := (mkF m 429 #[.val (.long q), .second, .val (.int k), .val (.int ln), .val (.int u), .val (.int (Int32.ofNat n)), .val (.long w), .second, .val (.ref b1), .val (.int ft), .val (.int r)] [(.int u), (.int ft), (.int (Int32.ofNat n)), (.long w), (.int (10 : Int32)), (.ref b1)])) rfl (by rw [hml]; rfl) (lenOf pd_4 rfl) rfl (by show 2 * 0 + _ ≤ _; exact Nat.le_of_eq rfl) (hb hby at_429) (by decide) (by decide)
    have N65 := Fr.app N64 Nq65
    have e65 : T65.heap = T53.heap := eq65
    refine Go.st st65 ?_
    show Go p e below P (T65.setTop (mkF m 432 #[.val (.long q), .second, .val (.int k), .val (.int ln), .val (.int u), .val (.int (Int32.ofNat n)), .val (.long w), .second, .val (.ref b1), .val (.int ft), .val (.int r)] [(.int (1 : Int32))]))
    refine Go.st (fun _ kt => XS.ifNo X65.here hx rfl (hb hby at_432) rfl ((if0 _ _).trans (feq (by decide : ¬ ((1 : Int32) = (0 : Int32)))).1) (XS.aload X65.here hx rfl (hb hby at_435) rfl rfl (XS.bipush X65.here hx rfl (hb hby at_437) (XS.lload X65.here hx rfl (hb hby at_439) rfl (XS.iload X65.here hx rfl (hb hby at_441) rfl (XS.iload X65.here hx rfl (hb hby at_443) rfl (XS.iload X65.here hx rfl (hb hby at_445) rfl kt))))))) ?_
    show Go p e below P (T65.setTop (mkF m 447 #[.val (.long q), .second, .val (.int k), .val (.int ln), .val (.int u), .val (.int (Int32.ofNat n)), .val (.long w), .second, .val (.ref b1), .val (.int ft), .val (.int r)] [(.int u), (.int ft), (.int (Int32.ofNat n)), (.long w), (.int (11 : Int32)), (.ref b1)]))
    obtain ⟨_, T66, Lc66, X66, ⟨rfl, Nq66, eq66⟩, st66⟩ := callCt X65 hx hZ e65 (y := (⟨"com/example/numtrie/numtrie/index/TrieCodingWritePlacePinLaw", "ok", "([BIJIZI)Z"⟩ : MethodName)) (argsL := [(.ref b1), (.int (11 : Int32)), (.long w), (.int (Int32.ofNat n)), (.int ft), (.int u)]) (rest := []) hown (hw _ (List.mem_of_getElem? (i := 11) rfl)) (hw _ (List.mem_of_getElem? (i := 12) rfl)) (hw _ (List.mem_of_getElem? (i := 4) rfl)) (hw _ (List.mem_of_getElem? (i := 13) rfl)) (by decide) (rmK l Z a0 hw b1 (11 : Int32) w (Int32.ofNat n) ft u 11 n _ _ n0 Z54 rfl rfl (by decide) hn1 hn2 Vw53 (hall 11 (by decide))) (W := 0) (by decide) (by decide) (g := (mkF m 447 #[.val (.long q), .second, .val (.int k), .val (.int ln), .val (.int u), .val (.int (Int32.ofNat n)), .val (.long w), .second, .val (.ref b1), .val (.int ft), .val (.int r)] [(.int u), (.int ft), (.int (Int32.ofNat n)), (.long w), (.int (11 : Int32)), (.ref b1)])) rfl (by rw [hml]; rfl) (lenOf pd_4 rfl) rfl (by show 2 * 0 + _ ≤ _; exact Nat.le_of_eq rfl) (hb hby at_447) (by decide) (by decide)
    have N66 := Fr.app N65 Nq66
    have e66 : T66.heap = T53.heap := eq66
    refine Go.st st66 ?_
    show Go p e below P (T66.setTop (mkF m 450 #[.val (.long q), .second, .val (.int k), .val (.int ln), .val (.int u), .val (.int (Int32.ofNat n)), .val (.long w), .second, .val (.ref b1), .val (.int ft), .val (.int r)] [(.int (1 : Int32))]))
    refine Go.st (fun _ kt => XS.ifNo X66.here hx rfl (hb hby at_450) rfl ((if0 _ _).trans (feq (by decide : ¬ ((1 : Int32) = (0 : Int32)))).1) (XS.iconst X66.here hx rfl (hb hby at_453) (XS.goto X66.here hx rfl (pc0 := 454) (pc' := 458) rfl (hb hby at_454) (by decide) (by decide) kt))) ?_
    show Go p e below P (T66.setTop (mkF m 458 #[.val (.long q), .second, .val (.int k), .val (.int ln), .val (.int u), .val (.int (Int32.ofNat n)), .val (.long w), .second, .val (.ref b1), .val (.int ft), .val (.int r)] [(.int (1 : Int32))]))
    exact goN X66 hx (t := .boolean) hret (by simp) hlk (hb hby at_458) hP (by decide) (by decide) ⟨rfl, N66⟩
  refine Go.st (fun _ kt => XS.iload X48.here hx rfl (hb hby at_157) rfl (XS.bipush X48.here hx rfl (hb hby at_159) kt)) ?_
  show Go p e below P (T48.setTop (mkF m 161 #[.val (.long q), .second, .val (.int k), .val (.int ln), .val (.int u), .val (.int (Int32.ofNat n)), .val (.long w), .second, .val (.ref b1), .unset, .unset] [(.int (11 : Int32)), (.int (Int32.ofNat n))]))
  by_cases br67 : (Int32.ofNat n) = (11 : Int32)
  · refine Go.st (fun _ kt => XS.icmpNo X48.here hx rfl (hb hby at_161) rfl (teq br67).2 kt) ?_
    show Go p e below P (T48.setTop (mkF m 164 #[.val (.long q), .second, .val (.int k), .val (.int ln), .val (.int u), .val (.int (Int32.ofNat n)), .val (.long w), .second, .val (.ref b1), .unset, .unset] []))
    refine Go.st (fun _ kt => XS.iconst X48.here hx rfl (hb hby at_164) (XS.istore X48.here hx rfl (hb hby at_165) rfl (l' := #[.val (.long q), .second, .val (.int k), .val (.int ln), .val (.int u), .val (.int (Int32.ofNat n)), .val (.long w), .second, .val (.ref b1), .val (.int (1 : Int32)), .unset]) rfl (XS.goto X48.here hx rfl (pc0 := 167) (pc' := 223) rfl (hb hby at_167) (by decide) (by decide) kt))) ?_
    show Go p e below P (T48.setTop (mkF m 223 #[.val (.long q), .second, .val (.int k), .val (.int ln), .val (.int u), .val (.int (Int32.ofNat n)), .val (.long w), .second, .val (.ref b1), .val (.int (1 : Int32)), .unset] []))
    have br67_n : n = 11 := own_ofn' (by omega) (by decide) br67
    exact cut52 _ (Or.inl ⟨rfl, Or.inl br67_n⟩)
  · refine Go.st (fun _ kt => XS.icmpYes X48.here hx rfl (pc0 := 161) (pc' := 170) rfl (hb hby at_161) rfl (feq br67).2 (by decide) (by decide) kt) ?_
    show Go p e below P (T48.setTop (mkF m 170 #[.val (.long q), .second, .val (.int k), .val (.int ln), .val (.int u), .val (.int (Int32.ofNat n)), .val (.long w), .second, .val (.ref b1), .unset, .unset] []))
    refine Go.st (fun _ kt => XS.iload X48.here hx rfl (hb hby at_170) rfl (XS.bipush X48.here hx rfl (hb hby at_172) kt)) ?_
    show Go p e below P (T48.setTop (mkF m 174 #[.val (.long q), .second, .val (.int k), .val (.int ln), .val (.int u), .val (.int (Int32.ofNat n)), .val (.long w), .second, .val (.ref b1), .unset, .unset] [(.int (10 : Int32)), (.int (Int32.ofNat n))]))
    by_cases br68 : (Int32.ofNat n) = (10 : Int32)
    · refine Go.st (fun _ kt => XS.icmpNo X48.here hx rfl (hb hby at_174) rfl (teq br68).2 kt) ?_
      show Go p e below P (T48.setTop (mkF m 177 #[.val (.long q), .second, .val (.int k), .val (.int ln), .val (.int u), .val (.int (Int32.ofNat n)), .val (.long w), .second, .val (.ref b1), .unset, .unset] []))
      refine Go.st (fun _ kt => XS.lload X48.here hx rfl (hb hby at_177) rfl (XS.lconst X48.here hx rfl (hb hby at_179) (XS.lcmp X48.here hx rfl (hb hby at_180) rfl kt))) ?_
      show Go p e below P (T48.setTop (mkF m 181 #[.val (.long q), .second, .val (.int k), .val (.int ln), .val (.int u), .val (.int (Int32.ofNat n)), .val (.long w), .second, .val (.ref b1), .unset, .unset] [(.int (lcmpW w (0 : Int64)))]))
      by_cases br69 : (lcmpW w (0 : Int64)) < (0 : Int32)
      · refine Go.st (fun _ kt => XS.ifYes X48.here hx rfl (pc0 := 181) (pc' := 188) rfl (hb hby at_181) rfl ((if0 _ _).trans (tlt br69).1) (by decide) (by decide) kt) ?_
        show Go p e below P (T48.setTop (mkF m 188 #[.val (.long q), .second, .val (.int k), .val (.int ln), .val (.int u), .val (.int (Int32.ofNat n)), .val (.long w), .second, .val (.ref b1), .unset, .unset] []))
        refine Go.st (fun _ kt => XS.iconst X48.here hx rfl (hb hby at_188) (XS.istore X48.here hx rfl (hb hby at_189) rfl (l' := #[.val (.long q), .second, .val (.int k), .val (.int ln), .val (.int u), .val (.int (Int32.ofNat n)), .val (.long w), .second, .val (.ref b1), .val (.int (0 : Int32)), .unset]) rfl (XS.goto X48.here hx rfl (pc0 := 191) (pc' := 223) rfl (hb hby at_191) (by decide) (by decide) kt))) ?_
        show Go p e below P (T48.setTop (mkF m 223 #[.val (.long q), .second, .val (.int k), .val (.int ln), .val (.int u), .val (.int (Int32.ofNat n)), .val (.long w), .second, .val (.ref b1), .val (.int (0 : Int32)), .unset] []))
        have br67_n : ¬ n = 11 := fun q => br67 (by rw [q]; rfl)
        have br68_n : n = 10 := own_ofn' (by omega) (by decide) br68
        rw [own_lt, own_zero64] at br69
        exact cut52 _ (Or.inr ⟨rfl, by rw [br68_n, own_fit10]; omega⟩)
      · refine Go.st (fun _ kt => XS.ifNo X48.here hx rfl (hb hby at_181) rfl ((if0 _ _).trans (flt br69).1) kt) ?_
        show Go p e below P (T48.setTop (mkF m 184 #[.val (.long q), .second, .val (.int k), .val (.int ln), .val (.int u), .val (.int (Int32.ofNat n)), .val (.long w), .second, .val (.ref b1), .unset, .unset] []))
        refine Go.st (fun _ kt => XS.iconst X48.here hx rfl (hb hby at_184) (XS.goto X48.here hx rfl (pc0 := 185) (pc' := 189) rfl (hb hby at_185) (by decide) (by decide) (XS.istore X48.here hx rfl (hb hby at_189) rfl (l' := #[.val (.long q), .second, .val (.int k), .val (.int ln), .val (.int u), .val (.int (Int32.ofNat n)), .val (.long w), .second, .val (.ref b1), .val (.int (1 : Int32)), .unset]) rfl (XS.goto X48.here hx rfl (pc0 := 191) (pc' := 223) rfl (hb hby at_191) (by decide) (by decide) kt)))) ?_
        show Go p e below P (T48.setTop (mkF m 223 #[.val (.long q), .second, .val (.int k), .val (.int ln), .val (.int u), .val (.int (Int32.ofNat n)), .val (.long w), .second, .val (.ref b1), .val (.int (1 : Int32)), .unset] []))
        have br67_n : ¬ n = 11 := fun q => br67 (by rw [q]; rfl)
        have br68_n : n = 10 := own_ofn' (by omega) (by decide) br68
        rw [own_lt, own_zero64] at br69
        exact cut52 _ (Or.inl ⟨rfl, by rw [br68_n]; exact own_fit10.mpr (by omega)⟩)
    · refine Go.st (fun _ kt => XS.icmpYes X48.here hx rfl (pc0 := 174) (pc' := 194) rfl (hb hby at_174) rfl (feq br68).2 (by decide) (by decide) kt) ?_
      show Go p e below P (T48.setTop (mkF m 194 #[.val (.long q), .second, .val (.int k), .val (.int ln), .val (.int u), .val (.int (Int32.ofNat n)), .val (.long w), .second, .val (.ref b1), .unset, .unset] []))
      refine Go.st (fun _ kt => XS.lload X48.here hx rfl (hb hby at_194) rfl (XS.lconst X48.here hx rfl (hb hby at_196) (XS.lcmp X48.here hx rfl (hb hby at_197) rfl kt))) ?_
      show Go p e below P (T48.setTop (mkF m 198 #[.val (.long q), .second, .val (.int k), .val (.int ln), .val (.int u), .val (.int (Int32.ofNat n)), .val (.long w), .second, .val (.ref b1), .unset, .unset] [(.int (lcmpW w (0 : Int64)))]))
      by_cases br70 : (lcmpW w (0 : Int64)) < (0 : Int32)
      · refine Go.st (fun _ kt => XS.ifYes X48.here hx rfl (pc0 := 198) (pc' := 220) rfl (hb hby at_198) rfl ((if0 _ _).trans (tlt br70).1) (by decide) (by decide) kt) ?_
        show Go p e below P (T48.setTop (mkF m 220 #[.val (.long q), .second, .val (.int k), .val (.int ln), .val (.int u), .val (.int (Int32.ofNat n)), .val (.long w), .second, .val (.ref b1), .unset, .unset] []))
        refine Go.st (fun _ kt => XS.iconst X48.here hx rfl (hb hby at_220) (XS.istore X48.here hx rfl (hb hby at_221) rfl (l' := #[.val (.long q), .second, .val (.int k), .val (.int ln), .val (.int u), .val (.int (Int32.ofNat n)), .val (.long w), .second, .val (.ref b1), .val (.int (0 : Int32)), .unset]) rfl kt)) ?_
        show Go p e below P (T48.setTop (mkF m 223 #[.val (.long q), .second, .val (.int k), .val (.int ln), .val (.int u), .val (.int (Int32.ofNat n)), .val (.long w), .second, .val (.ref b1), .val (.int (0 : Int32)), .unset] []))
        have br67_n : ¬ n = 11 := fun q => br67 (by rw [q]; rfl)
        have br68_n : ¬ n = 10 := fun q => br68 (by rw [q]; rfl)
        rw [own_lt, own_zero64] at br70
        exact cut52 _ (Or.inr ⟨rfl, fun q => by have := (own_fit9 hn1 (by omega)).mp q; omega⟩)
      · refine Go.st (fun _ kt => XS.ifNo X48.here hx rfl (hb hby at_198) rfl ((if0 _ _).trans (flt br70).1) kt) ?_
        show Go p e below P (T48.setTop (mkF m 201 #[.val (.long q), .second, .val (.int k), .val (.int ln), .val (.int u), .val (.int (Int32.ofNat n)), .val (.long w), .second, .val (.ref b1), .unset, .unset] []))
        refine Go.st (fun _ kt => XS.lload X48.here hx rfl (hb hby at_201) rfl (XS.lconst X48.here hx rfl (hb hby at_203) (XS.bipush X48.here hx rfl (hb hby at_204) (XS.iload X48.here hx rfl (hb hby at_206) rfl (XS.iconst X48.here hx rfl (hb hby at_208) (XS.isub X48.here hx rfl (hb hby at_209) rfl (XS.imul X48.here hx rfl (hb hby at_210) rfl (XS.lshl X48.here hx rfl (hb hby at_211) rfl kt)))))))) ?_
        show Go p e below P (T48.setTop (mkF m 212 #[.val (.long q), .second, .val (.int k), .val (.int ln), .val (.int u), .val (.int (Int32.ofNat n)), .val (.long w), .second, .val (.ref b1), .unset, .unset] [(.long ((1 : Int64) <<< (((7 : Int32) * ((Int32.ofNat n) - (1 : Int32))) &&& 0x3f).toInt64)), (.long w)]))
        refine Go.st (fun _ kt => XS.lcmp X48.here hx rfl (hb hby at_212) rfl kt) ?_
        show Go p e below P (T48.setTop (mkF m 213 #[.val (.long q), .second, .val (.int k), .val (.int ln), .val (.int u), .val (.int (Int32.ofNat n)), .val (.long w), .second, .val (.ref b1), .unset, .unset] [(.int (lcmpW w ((1 : Int64) <<< (((7 : Int32) * ((Int32.ofNat n) - (1 : Int32))) &&& 0x3f).toInt64)))]))
        by_cases br71 : (lcmpW w ((1 : Int64) <<< (((7 : Int32) * ((Int32.ofNat n) - (1 : Int32))) &&& 0x3f).toInt64)) < (0 : Int32)
        · refine Go.st (fun _ kt => XS.ifNo X48.here hx rfl (hb hby at_213) rfl ((if0 _ _).trans (tlt br71).2.1) kt) ?_
          show Go p e below P (T48.setTop (mkF m 216 #[.val (.long q), .second, .val (.int k), .val (.int ln), .val (.int u), .val (.int (Int32.ofNat n)), .val (.long w), .second, .val (.ref b1), .unset, .unset] []))
          refine Go.st (fun _ kt => XS.iconst X48.here hx rfl (hb hby at_216) (XS.goto X48.here hx rfl (pc0 := 217) (pc' := 221) rfl (hb hby at_217) (by decide) (by decide) (XS.istore X48.here hx rfl (hb hby at_221) rfl (l' := #[.val (.long q), .second, .val (.int k), .val (.int ln), .val (.int u), .val (.int (Int32.ofNat n)), .val (.long w), .second, .val (.ref b1), .val (.int (1 : Int32)), .unset]) rfl kt))) ?_
          show Go p e below P (T48.setTop (mkF m 223 #[.val (.long q), .second, .val (.int k), .val (.int ln), .val (.int u), .val (.int (Int32.ofNat n)), .val (.long w), .second, .val (.ref b1), .val (.int (1 : Int32)), .unset] []))
          have br67_n : ¬ n = 11 := fun q => br67 (by rw [q]; rfl)
          have br68_n : ¬ n = 10 := fun q => br68 (by rw [q]; rfl)
          rw [own_lt, own_zero64] at br70
          rw [own_lt] at br71
          exact cut52 _ (Or.inl ⟨rfl, (own_fit9 hn1 (by omega)).mpr ⟨by omega, br71⟩⟩)
        · refine Go.st (fun _ kt => XS.ifYes X48.here hx rfl (pc0 := 213) (pc' := 220) rfl (hb hby at_213) rfl ((if0 _ _).trans (flt br71).2.1) (by decide) (by decide) kt) ?_
          show Go p e below P (T48.setTop (mkF m 220 #[.val (.long q), .second, .val (.int k), .val (.int ln), .val (.int u), .val (.int (Int32.ofNat n)), .val (.long w), .second, .val (.ref b1), .unset, .unset] []))
          refine Go.st (fun _ kt => XS.iconst X48.here hx rfl (hb hby at_220) (XS.istore X48.here hx rfl (hb hby at_221) rfl (l' := #[.val (.long q), .second, .val (.int k), .val (.int ln), .val (.int u), .val (.int (Int32.ofNat n)), .val (.long w), .second, .val (.ref b1), .val (.int (0 : Int32)), .unset]) rfl kt)) ?_
          show Go p e below P (T48.setTop (mkF m 223 #[.val (.long q), .second, .val (.int k), .val (.int ln), .val (.int u), .val (.int (Int32.ofNat n)), .val (.long w), .second, .val (.ref b1), .val (.int (0 : Int32)), .unset] []))
          have br67_n : ¬ n = 11 := fun q => br67 (by rw [q]; rfl)
          have br68_n : ¬ n = 10 := fun q => br68 (by rw [q]; rfl)
          rw [own_lt, own_zero64] at br70
          rw [own_lt] at br71
          exact cut52 _ (Or.inr ⟨rfl, fun q => by have := (own_fit9 hn1 (by omega)).mp q; omega⟩)
set_option maxRecDepth 65536 in
set_option maxHeartbeats 40000000 in
theorem comes_1 {Post : Tables → Env → Array Value → State → Outcome → State → Prop} (hpost : ∀ tb e args s v u, (limb_1_1.after args s (.returned v) u = true ∧ limb_1_2.after args s (.returned v) u = true ∧ True) → FrameEnd s (.returned v) u (Jvm.fieldLocs frame_1_writes args s ++ Jvm.arrayLocs frame_1_arrays args s ++ Jvm.staticLocs frame_1_statics s) 16 128 → Post tb e args s (.returned v) u) :
    ArmFor flags0 classFile x code maxLocals ret World_1 tables_1 room_1 Calls_1 rest_1 Pre_1 Post := by
  intro l hfl _ _ p e ha hc hk s m args below hf hA hF happ hP
  obtain ⟨hcalls, hrest, hpre⟩ := hP
  obtain ⟨-, -, -, hnamed, -, -, -, hat⟩ := (Spec.applies_iff hf).mp happ
  obtain ⟨hg, hn⟩ := and_e (Cond.before_iff.mp (show (Jvm.Cond.and given_1 narrow_1).before args s = true from hpre))
  obtain ⟨g1, g2⟩ := and_e hg
  obtain ⟨g3, g4⟩ := and_e g2
  obtain ⟨g5, g6⟩ := and_e g4
  obtain ⟨g7, g8⟩ := and_e g6
  obtain ⟨w0, w1, w2, w3, rfl⟩ : ∃ w0 w1 w2 w3 : Value, args = #[w0, w1, w2, w3] := by
    have hs : args.size = 4 := by simpa [Cond.value, given_1] using g1
    obtain ⟨L⟩ := args
    match L, hs with
    | [w0, w1, w2, w3], _ => exact ⟨w0, w1, w2, w3, rfl⟩
  have hw := fun d (hd : d ∈ tables_1) => atoms_spec (ws := Jvm.Cond.code x code maxLocals ret :: tables_1) hat d (List.mem_cons_of_mem _ hd)
  obtain ⟨i0, ei0⟩ := isL_v g3
  obtain rfl : w0 = (.long i0) := Option.some.inj ei0
  obtain ⟨i1, ei1⟩ := is_v g5
  obtain rfl : w1 = (.int i1) := Option.some.inj ei1
  obtain ⟨i2, ei2⟩ := is_v g7
  obtain rfl : w2 = (.int i2) := Option.some.inj ei2
  obtain ⟨i3, ei3⟩ := is_v g8
  obtain rfl : w3 = (.int i3) := Option.some.inj ei3
  obtain ⟨n, o, h1, h2, h3, _, L, rfl, ⟨rfl, N⟩, hq⟩ := rm0 l s _ hw tables_1 i0 i1 i2 i3 s.heap s.heap.size (Nat.le_refl _) p e ha hc hk s m _ below hf ((Spec.applies_iff_loose hf).mp happ).1 ⟨rfl, State.Warmed39.refl s, rfl⟩ trivial
  refine ⟨n, _, h1, h2, h3, hpost _ _ _ _ _ _ ⟨Cond.after_iff.mpr rfl, Cond.after_iff.mpr (eq_i res_at (Term.int_eval (1)) rfl), trivial⟩ ⟨hq.1, hq.2.1, (hq.2.2.sift fun y hy => Or.inr (N y hy)).mono (by decide) (by decide)⟩⟩
theorem main_1_1 : Claimed_1_1 := comes_1 fun _ _ _ _ _ _ h hF => ⟨h.1, hF⟩
theorem main_1_2 : Claimed_1_2 := comes_1 fun _ _ _ _ _ _ h hF => ⟨h.2.1, hF⟩
end Jvm.Pilot.@@N@@
namespace Jvm.Pilot.@@N@@
open Jvm Jvm.ClassFile Sem Op Lib Jvm.Free Jvm.Stand Jvm.Pilot.@@N@@.Jvm.D
/-! MADE BY PROGRAM (witnessworld.py) out of the Statement's table words and the real class files: 12 classes; the members and pool entries that the words name. The judged class is class 1, her method 1. -/
namespace start1
open Jvm.ClassFile
def u (s : String) : CpInfo := .utf8 (stringToUtf16 s)
/-- a pool by its gaps: so many unusable entries, then the entry; so many at the end -/
def gap : Nat → List CpInfo → List CpInfo
  | 0, r => r
  | n + 1, r => .unusable :: gap n r
def poolList (es : List (Nat × CpInfo)) (last : Nat) : List CpInfo := es.foldr (fun e r => gap e.1 (e.2 :: r)) (gap last [])
def pool (es : List (Nat × CpInfo)) (last : Nat) : Array CpInfo := ⟨poolList es last⟩
def fileOf (pool : Array CpInfo) (this : Nat) (attrs : Array Attribute := #[]) (ms : Array MethodInfo := #[]) (fl : Nat := 33) (sup : Nat := 0) (ifs : Array Nat := #[]) (fds : Array FieldInfo := #[]) : ClassFile where
  minorVersion := 0
  majorVersion := 65
  constantPool := pool
  accessFlags := fl
  thisClass := this
  superClass := sup
  interfaces := ifs
  fields := fds
  methods := ms
  attributes := attrs
def plain (name : String) (sup : Option ClassId) : Class where
  name := name
  kind := .ordinary
  loader := none
  accessFlags := 33
  super := sup
  interfaces := #[]
  cf := none
  fields := #[]
  methods := #[]
  instanceTypes := #[]
  staticTypes := #[]
  resolved := #[]
  callSites := []
  init := .initialized
  statics := none
  mirror := none

def pool0 : Array CpInfo := pool [(5, u "<init>"), (0, u "()V"), (1, .class_ 10), (1, u "java/lang/Object")] 113

def k0m0 : Method := { name := "<init>", desc := "()V", sig := { parameters := [], returnType := none }, accessFlags := 1, code := none }
/-- java/lang/Object -/
def k0 : Class := { plain "java/lang/Object" none with
  accessFlags := 33
  interfaces := #[]
  cf := some (fileOf pool0 8 #[] #[{ accessFlags := 1, nameIndex := 5, descriptorIndex := 6, attributes := #[] }] 33 0 #[] #[])
  fields := #[]
  methods := #[k0m0]
  instanceTypes := #[]
  staticTypes := #[]
  resolved := Array.replicate 124 none
  statics := none }

def pool1 : Array CpInfo := pool [(2, .class_ 4), (1, u "java/lang/Object"), (0, u "<init>"), (0, u "()V"), (0, .integer 2147483647), (0, .methodref 9 10), (0, .class_ 11), (0, .nameAndType 12 13), (0, u "com/example/numtrie/numtrie/index/TrieCodingWritePlacePinLaw"), (0, u "pre"), (0, u "(II)B"), (0, .methodref 15 16), (0, .class_ 17), (0, .nameAndType 18 19), (0, u "com/example/numtrie/numtrie/index/TrieCoding"), (0, u "writePlace"), (0, u "(J[BI)Z"), (0, .methodref 9 21), (0, .nameAndType 22 23), (0, u "ok"), (0, u "([BIJIZI)Z"), (0, .long 127), (3, u "law"), (0, u "(JIII)Z")] 5

def k1m0 : Method := { name := "<init>", desc := "()V", sig := { parameters := [], returnType := none }, accessFlags := 1, code := none }
def k1c1 : Code := { maxStack := 7, maxLocals := 11, code := code, exceptionTable := #[], attributes := #[] }
def k1m1 : Method := { name := "law", desc := "(JIII)Z", sig := { parameters := [.long, .int, .int, .int], returnType := some .boolean }, accessFlags := 9, code := some k1c1 }
def k1c2 : Code := { maxStack := 3, maxLocals := 2, code := method_3_code, exceptionTable := #[], attributes := #[] }
def k1m2 : Method := { name := "pre", desc := "(II)B", sig := { parameters := [.int, .int], returnType := some .byte }, accessFlags := 10, code := some k1c2 }
def k1c3 : Code := { maxStack := 6, maxLocals := 7, code := method_4_code, exceptionTable := #[], attributes := #[] }
def k1m3 : Method := { name := "ok", desc := "([BIJIZI)Z", sig := { parameters := [(.array .byte), .int, .long, .int, .boolean, .int], returnType := some .boolean }, accessFlags := 10, code := some k1c3 }
/-- com/example/numtrie/numtrie/index/TrieCodingWritePlacePinLaw -/
def k1 : Class := { plain "com/example/numtrie/numtrie/index/TrieCodingWritePlacePinLaw" (some 0) with
  accessFlags := 49
  interfaces := #[]
  cf := some (fileOf pool1 9 #[] #[{ accessFlags := 1, nameIndex := 5, descriptorIndex := 6, attributes := #[] }, { accessFlags := 9, nameIndex := 28, descriptorIndex := 29, attributes := #[] }, { accessFlags := 10, nameIndex := 12, descriptorIndex := 13, attributes := #[] }, { accessFlags := 10, nameIndex := 22, descriptorIndex := 23, attributes := #[] }] 49 2 #[] #[])
  fields := #[]
  methods := #[k1m0, k1m1, k1m2, k1m3]
  instanceTypes := #[]
  staticTypes := #[]
  resolved := Array.replicate 35 none
  statics := none }

def pool2 : Array CpInfo := pool [(1, .class_ 2), (0, u "java/lang/constant/Constable"), (0, .class_ 4), (0, u "java/lang/Object")] 6

/-- java/lang/constant/Constable -/
def k2 : Class := { plain "java/lang/constant/Constable" (some 0) with
  accessFlags := 1537
  interfaces := #[]
  cf := some (fileOf pool2 1 #[] #[] 1537 3 #[] #[])
  fields := #[]
  methods := #[]
  instanceTypes := #[]
  staticTypes := #[]
  resolved := Array.replicate 11 none
  statics := none }

def pool3 : Array CpInfo := pool [(1, .class_ 2), (0, u "java/lang/Comparable"), (0, .class_ 4), (0, u "java/lang/Object")] 7

/-- java/lang/Comparable -/
def k3 : Class := { plain "java/lang/Comparable" (some 0) with
  accessFlags := 1537
  interfaces := #[]
  cf := some (fileOf pool3 1 #[] #[] 1537 3 #[] #[])
  fields := #[]
  methods := #[]
  instanceTypes := #[]
  staticTypes := #[]
  resolved := Array.replicate 12 none
  statics := none }

def pool4 : Array CpInfo := pool [(1, .class_ 2), (0, u "java/io/Serializable"), (0, .class_ 4), (0, u "java/lang/Object")] 2

/-- java/io/Serializable -/
def k4 : Class := { plain "java/io/Serializable" (some 0) with
  accessFlags := 1537
  interfaces := #[]
  cf := some (fileOf pool4 1 #[] #[] 1537 3 #[] #[])
  fields := #[]
  methods := #[]
  instanceTypes := #[]
  staticTypes := #[]
  resolved := Array.replicate 7 none
  statics := none }

def pool5 : Array CpInfo := pool [(2, .class_ 4), (1, u "java/lang/Enum"), (0, u "name"), (0, u "Ljava/lang/String;"), (2, u "ordinal"), (0, u "I"), (1, .class_ 14), (1, u "java/lang/Object"), (4, u "hash"), (86, .class_ 108), (1, u "java/lang/Enum$EnumDesc"), (2, .class_ 112), (0, u "java/lang/constant/Constable"), (0, .class_ 114), (0, u "java/lang/Comparable"), (0, .class_ 116), (0, u "java/io/Serializable")] 87

/-- java/lang/Enum -/
def k5 : Class := { plain "java/lang/Enum" (some 0) with
  accessFlags := 1057
  interfaces := #[2, 3, 4]
  cf := some (fileOf pool5 2 #[.nestMembers #[106]] #[] 1057 12 #[111, 113, 115] #[{ accessFlags := 18, nameIndex := 5, descriptorIndex := 6, attributes := #[] }, { accessFlags := 18, nameIndex := 9, descriptorIndex := 10, attributes := #[] }, { accessFlags := 2, nameIndex := 19, descriptorIndex := 10, attributes := #[] }])
  fields := #[{ name := "name", type := (.object "java/lang/String"), accessFlags := 18, slot := 0, constantValue := 0 }, { name := "ordinal", type := .int, accessFlags := 18, slot := 1, constantValue := 0 }, { name := "hash", type := .int, accessFlags := 2, slot := 2, constantValue := 0 }]
  methods := #[]
  instanceTypes := #[(.object "java/lang/String"), .int, .int]
  staticTypes := #[]
  resolved := Array.replicate 204 none
  statics := none }

def pool6 : Array CpInfo := pool [(1, .class_ 2), (0, u "com/example/numtrie/numtrie/index/TrieCoding"), (2, u "BITS_64"), (0, u "Lcom/example/numtrie/numtrie/index/TrieCoding;"), (2, u "BITS_32"), (2, u "$VALUES"), (0, u "[Lcom/example/numtrie/numtrie/index/TrieCoding;"), (6, .class_ 22), (1, u "java/lang/Enum"), (8, u "bits"), (0, u "I"), (2, u "shiftByte"), (2, u "signBit"), (0, u "J"), (6, u "valueMask"), (35, .long 127), (3, u "writePlace"), (0, u "(J[BI)Z"), (53, u "MAX_TERM_LENGTH"), (0, u "MAX_STEP"), (2, u "GROUP_BITS"), (1, u "GROUP_MASK")] 57

def k6c0 : Code := { maxStack := 6, maxLocals := 8, code := prog_210_method_14_code, exceptionTable := #[], attributes := #[] }
def k6m0 : Method := { name := "writePlace", desc := "(J[BI)Z", sig := { parameters := [.long, (.array .byte), .int], returnType := some .boolean }, accessFlags := 9, code := some k6c0 }
/-- com/example/numtrie/numtrie/index/TrieCoding -/
def k6 : Class := { plain "com/example/numtrie/numtrie/index/TrieCoding" (some 5) with
  accessFlags := 16432
  interfaces := #[]
  cf := some (fileOf pool6 1 #[] #[{ accessFlags := 9, nameIndex := 86, descriptorIndex := 87, attributes := #[] }] 16432 20 #[] #[{ accessFlags := 16409, nameIndex := 5, descriptorIndex := 6, attributes := #[] }, { accessFlags := 16409, nameIndex := 9, descriptorIndex := 6, attributes := #[] }, { accessFlags := 25, nameIndex := 142, descriptorIndex := 32, attributes := #[] }, { accessFlags := 25, nameIndex := 141, descriptorIndex := 32, attributes := #[] }, { accessFlags := 26, nameIndex := 145, descriptorIndex := 32, attributes := #[] }, { accessFlags := 26, nameIndex := 147, descriptorIndex := 32, attributes := #[] }, { accessFlags := 18, nameIndex := 31, descriptorIndex := 32, attributes := #[] }, { accessFlags := 18, nameIndex := 35, descriptorIndex := 32, attributes := #[] }, { accessFlags := 18, nameIndex := 38, descriptorIndex := 39, attributes := #[] }, { accessFlags := 18, nameIndex := 46, descriptorIndex := 39, attributes := #[] }, { accessFlags := 4122, nameIndex := 12, descriptorIndex := 13, attributes := #[] }])
  fields := #[{ name := "BITS_64", type := (.object "com/example/numtrie/numtrie/index/TrieCoding"), accessFlags := 16409, slot := 0, constantValue := 0 }, { name := "BITS_32", type := (.object "com/example/numtrie/numtrie/index/TrieCoding"), accessFlags := 16409, slot := 1, constantValue := 0 }, { name := "MAX_STEP", type := .int, accessFlags := 25, slot := 2, constantValue := 0 }, { name := "MAX_TERM_LENGTH", type := .int, accessFlags := 25, slot := 3, constantValue := 0 }, { name := "GROUP_BITS", type := .int, accessFlags := 26, slot := 4, constantValue := 0 }, { name := "GROUP_MASK", type := .int, accessFlags := 26, slot := 5, constantValue := 0 }, { name := "bits", type := .int, accessFlags := 18, slot := 3, constantValue := 0 }, { name := "shiftByte", type := .int, accessFlags := 18, slot := 4, constantValue := 0 }, { name := "signBit", type := .long, accessFlags := 18, slot := 5, constantValue := 0 }, { name := "valueMask", type := .long, accessFlags := 18, slot := 6, constantValue := 0 }, { name := "$VALUES", type := (.array (.object "com/example/numtrie/numtrie/index/TrieCoding")), accessFlags := 4122, slot := 6, constantValue := 0 }]
  methods := #[k6m0]
  instanceTypes := #[(.object "java/lang/String"), .int, .int, .int, .int, .long, .long]
  staticTypes := #[(.object "com/example/numtrie/numtrie/index/TrieCoding"), (.object "com/example/numtrie/numtrie/index/TrieCoding"), .int, .int, .int, .int, (.array (.object "com/example/numtrie/numtrie/index/TrieCoding"))]
  resolved := Array.replicate 205 none
  statics := none }

def pool7 : Array CpInfo := pool [(1, u "java/lang/Cloneable"), (0, .class_ 1), (0, u "java/lang/Object"), (0, .class_ 3)] 3

/-- java/lang/Cloneable -/
def k7 : Class := { plain "java/lang/Cloneable" (some 0) with
  accessFlags := 1537
  interfaces := #[]
  cf := some (fileOf pool7 2 #[] #[] 1537 4 #[] #[])
  fields := #[]
  methods := #[]
  instanceTypes := #[]
  staticTypes := #[]
  resolved := Array.replicate 8 none
  statics := none }

/-- the primitive byte -/
def k8 : Class := { plain "byte" none with kind := .primitive 'B', accessFlags := 0x411 }
/-- [B -/
def k9 : Class := { plain "[B" (some 0) with kind := .array 8 .byte, interfaces := #[7, 4], accessFlags := 1041 }

/-- the primitive int -/
def k10 : Class := { plain "int" none with kind := .primitive 'I', accessFlags := 0x411 }
/-- [I -/
def k11 : Class := { plain "[I" (some 0) with kind := .array 10 .int, interfaces := #[7, 4], accessFlags := 1041 }

def heap : Heap := #[]
def classes : Array Class := #[k0, k1, k2, k3, k4, k5, k6, k7, k8, k9, k10, k11]
def interned : List (Array UInt16 × Addr) := []
def slotsUsed : Nat := 0
def theMethod : MethodId := ⟨1, 1⟩
def args0 : Array Value := #[.long 5, .int 6, .int 7, .int 8]
def aboutOver (below : List Frame) : State where
  vm := { classes := classes, interned := interned.toArray }
  heap := heap
  slotsUsed := slotsUsed
  threads := #[{ frames := .invoking theMethod args0 :: below }]
def below0 : List Frame := [.native { method := ⟨0, 0⟩, args := #[] }]
def about1 : State := aboutOver below0
def p0 : Program := .bare "" "" ""
def e0 : Env := launch0.env 0 0 0
theorem w_frames : about1.frames = Frame.invoking theMethod args0 :: below0 := rfl
set_option maxRecDepth 65536 in
theorem w_args : argsFit about1.vm theMethod args0 = true := by decide +kernel
set_option maxRecDepth 65536 in
theorem w_heap : heapFits about1 = true := by decide +kernel
set_option maxRecDepth 65536 in
theorem w_runnable : about1.curStatus? = some .runnable := by decide +kernel
set_option maxRecDepth 65536 in
theorem w_alone : about1.alone = true := by decide +kernel
set_option maxRecDepth 65536 in
theorem w_named : about1.methodNamed? x = some theMethod := by decide +kernel
set_option maxRecDepth 65536 in
theorem w_hears : about1.hears theMethod below0 = true := by decide +kernel
set_option maxRecDepth 65536 in
theorem w_ripe : about1.ripe theMethod args0 below0 = true := by decide +kernel
theorem w_running : about1.status = .running := rfl
set_option maxRecDepth 65536 in
theorem w_room : about1.hasRoom e0.platform room_1 = true :=
  launch0.hasRoom_least _ room_1 (by decide +kernel) (by decide +kernel) (by decide +kernel) (by decide +kernel) (by decide +kernel) (by decide +kernel)
theorem allAtoms_all (ts : List Jvm.Cond) (a : Array Jvm.Value) (st : Jvm.State) : (allAtoms ts).before a st = ts.all (fun c => c.before a st) := by
  induction ts with
  | nil => rfl
  | cons c t ih =>
    show (Jvm.Cond.and c (allAtoms t)).before a st = _
    rw [Jvm.Cond.before_and, ih, List.all_cons]
def words1 : List Jvm.Cond := Jvm.Cond.code x code maxLocals ret :: tables_1
/-- a 'code' word, met by the world's own term for the bytes: nothing is compared byte by byte -/
theorem code_word {y : MethodName} {bytes : ByteArray} {mx : Nat} {rt : Option FieldType} {a : Array Value} {s : State} {m : MethodId} {meth : Method} {c : Code} (h1 : s.methodNamed? y = some m) (h2 : s.vm.method? m = some meth) (h3 : meth.code = some c) (h4 : c.code = bytes)
    (h5 : (c.maxLocals == mx && c.exceptionTable.isEmpty && decide (c.maxStack ≤ mostOperands) && decide (meth.sig.returnType = rt) && !meth.locks && decide (parseMethodDescriptor y.desc = some meth.sig)) = true) : (Jvm.Cond.code y bytes mx rt).before a s = true := by
  simp only [Bool.and_eq_true, beq_iff_eq, Bool.not_eq_true', decide_eq_true_eq] at h5
  obtain ⟨⟨⟨⟨⟨g1, g2⟩, g3⟩, g4⟩, g5⟩, g6⟩ := h5
  simp [Cond.before, Cond.holds, Cond.value, h1, h2, h3, h4, g1, g2, g3, g4, g5, g6]
def isCode : Jvm.Cond → Bool
  | .code _ _ _ _ => true
  | _ => false
theorem all_split {L : List Jvm.Cond} {P : Jvm.Cond → Bool} (h1 : L.all (fun c => isCode c || P c) = true) (h2 : ∀ c ∈ L.filter isCode, P c = true) : L.all P = true := by
  refine List.all_eq_true.mpr fun c hc => ?_
  have h := List.all_eq_true.mp h1 c hc
  rcases Bool.eq_false_or_eq_true (isCode c) with hi | hi
  · exact h2 c (List.mem_filter.mpr ⟨hc, hi⟩)
  · simpa [hi] using h
set_option maxRecDepth 65536 in
theorem w_c0 : (Jvm.Cond.code x code maxLocals ret).before args0 about1 = true := code_word (m := ⟨1, 1⟩) (meth := k1m1) (c := k1c1) (by decide +kernel) rfl rfl rfl (by decide +kernel)
set_option maxRecDepth 65536 in
theorem w_c1 : (Jvm.Cond.code ({ cls := "com/example/numtrie/numtrie/index/TrieCodingWritePlacePinLaw", name := "pre", desc := "(II)B" } : Jvm.MethodName) method_3_code (2 : Nat) (Option.some Jvm.ClassFile.FieldType.byte)).before args0 about1 = true := code_word (m := ⟨1, 2⟩) (meth := k1m2) (c := k1c2) (by decide +kernel) rfl rfl rfl (by decide +kernel)
set_option maxRecDepth 65536 in
theorem w_c2 : (Jvm.Cond.code ({ cls := "com/example/numtrie/numtrie/index/TrieCoding", name := "writePlace", desc := "(J[BI)Z" } : Jvm.MethodName) prog_210_method_14_code (8 : Nat) (Option.some Jvm.ClassFile.FieldType.boolean)).before args0 about1 = true := code_word (m := ⟨6, 0⟩) (meth := k6m0) (c := k6c0) (by decide +kernel) rfl rfl rfl (by decide +kernel)
set_option maxRecDepth 65536 in
theorem w_c3 : (Jvm.Cond.code ({ cls := "com/example/numtrie/numtrie/index/TrieCodingWritePlacePinLaw", name := "ok", desc := "([BIJIZI)Z" } : Jvm.MethodName) method_4_code (7 : Nat) (Option.some Jvm.ClassFile.FieldType.boolean)).before args0 about1 = true := code_word (m := ⟨1, 3⟩) (meth := k1m3) (c := k1c3) (by decide +kernel) rfl rfl rfl (by decide +kernel)
def codes1 : List Jvm.Cond := [Jvm.Cond.code x code maxLocals ret, Jvm.Cond.code ({ cls := "com/example/numtrie/numtrie/index/TrieCodingWritePlacePinLaw", name := "pre", desc := "(II)B" } : Jvm.MethodName) method_3_code (2 : Nat) (Option.some Jvm.ClassFile.FieldType.byte), Jvm.Cond.code ({ cls := "com/example/numtrie/numtrie/index/TrieCoding", name := "writePlace", desc := "(J[BI)Z" } : Jvm.MethodName) prog_210_method_14_code (8 : Nat) (Option.some Jvm.ClassFile.FieldType.boolean), Jvm.Cond.code ({ cls := "com/example/numtrie/numtrie/index/TrieCodingWritePlacePinLaw", name := "ok", desc := "([BIJIZI)Z" } : Jvm.MethodName) method_4_code (7 : Nat) (Option.some Jvm.ClassFile.FieldType.boolean)]
set_option maxRecDepth 65536 in
theorem codes_eq : words1.filter isCode = codes1 := rfl
theorem w_codes : ∀ c ∈ words1.filter isCode, c.before args0 about1 = true := by
  rw [codes_eq]
  intro c hc
  simp only [codes1, List.mem_cons, List.not_mem_nil, or_false] at hc
  rcases hc with rfl | rfl | rfl | rfl
  · exact w_c0
  · exact w_c1
  · exact w_c2
  · exact w_c3
set_option maxRecDepth 65536 in
theorem w_t1 : words1.all (fun c => isCode c || c.before args0 about1) = true := by decide +kernel
theorem w_tables : (allAtoms (Jvm.Cond.code x code maxLocals ret :: tables_1)).before args0 about1 = true := by
  rw [allAtoms_all]
  show words1.all (fun c => c.before args0 about1) = true
  refine all_split ?_ w_codes
  rw [w_t1]
set_option maxRecDepth 65536 in
theorem w_case : (Jvm.Cond.and given_1 narrow_1).before args0 about1 = true := by decide +kernel
theorem w_applies : (headSpec (Jvm.Cond.code x code maxLocals ret :: tables_1) room_1).applies x e0.platform about1 = true :=
  (Spec.applies_iff w_frames).mpr ⟨w_running, w_runnable, w_alone, w_named, w_hears, w_ripe, w_room, w_tables⟩
theorem atStart : AtStart classFile x code maxLocals ret World_1 tables_1 room_1 Calls_1 rest_1 Pre_1 launch0 p0 e0 about1 theMethod args0 below0 :=
  ⟨lists_1, trivial, launch0.admits_env _ _ _, launch0.least_env, fairChoices_fair.cas, fairChoices_fair.clock, w_frames, w_args, w_heap, w_applies, trivial, trivial, w_case⟩
end start1
theorem witness_1 : WitnessClaimed_1 := ⟨start1.p0, start1.e0, start1.about1, start1.theMethod, start1.args0, start1.below0, start1.atStart⟩
end Jvm.Pilot.@@N@@
