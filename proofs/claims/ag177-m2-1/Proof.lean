import JvmDerived
import JvmDerived.Pilot.@@N@@Statement
import JvmDerived.Pilot.@@N@@Code
set_option linter.unusedVariables false
set_option linter.unusedSimpArgs false
@@BLOCK:NumsL.lean.txt@@
@@BLOCK:Masks.lean.txt@@
namespace Jvm.RoadKit
open Sem ClassFile Op Lib Jvm.Stand Jvm.Free Jvm.LawKit
section OwnGo
variable {p : Program} {l : Launch} {e : Env} {R : Room} {s : State} {m : MethodId} {args : Array Value} {below : List Frame} {meth : Method} {c : Code} {T : State} {locs : List Loc} {cells slots : Nat} {Z : State} {a0 : Array Value} {h : Heap}
/-- from A the run comes to an end of which P holds -/
def Go (p : Program) (e : Env) (below : List Frame) (P : State → Outcome → Prop) (A : State) : Prop := ∃ t o, Steps p.tables e below A t ∧ t.status = .running ∧ Ended t below o ∧ P t o
theorem Go.st {P : State → Outcome → Prop} {A B : State} (st : ∀ t, Steps p.tables e below A t → Steps p.tables e below B t) (k : Go p e below P A) : Go p e below P B := by
  obtain ⟨t, o, h1, h2⟩ := k
  exact ⟨t, o, st t h1, h2⟩
theorem Go.tr {P : State → Outcome → Prop} {A B : State} (st : Steps p.tables e below B A) (k : Go p e below P A) : Go p e below P B := Go.st (fun _ h => st.trans h) k
def Pst (s : State) (Q : Option Value → Heap → List Loc → Prop) (C S : Nat) : State → Outcome → Prop := fun t o => ∃ v L, o = .returned v ∧ Q v t.heap L ∧ FrameEnd s o t L C S
/-- a method's contract at the heap h0, for the arguments as -/
def Ct (l : Launch) (y : MethodName) (bytes : ByteArray) (maxL : Nat) (ret : Option FieldType) (ws : List Cond) (rm : Room) (Z : State) (as : Array Value) (h0 : Heap) (Q : Option Value → Heap → List Loc → Prop) : Prop :=
  MetFree l y (head1 (Cond.code y bytes maxL ret :: ws) rm) (fun a U => a = as ∧ Z.Warmed39 U.vm ∧ U.heap = h0) (fun _ _ _ _ _ => True) (fun _ U o U' => ∃ v L, o = .returned v ∧ Q v U'.heap L ∧ FrameEnd U o U' L rm.cells rm.slots)
theorem Ct.of {y : MethodName} {bytes : ByteArray} {maxL : Nat} {ret : Option FieldType} {ws : List Cond} {rm : Room} {as : Array Value} {h0 : Heap} {Q : Option Value → Heap → List Loc → Prop} {Ls : Array Slot}
    (hpl : plainFor y = true) (hef : ∀ m, entryFrame m as maxL = mkF m 0 Ls [])
    (body : ∀ (p : Program) (e : Env) (s : State) (m : MethodId) (below : List Frame) (meth : Method) (c : Code) (T : State), Stand p l e rm s m as below meth c T [] 0 0 → p.tables.exec = Jvm.exec → c.code = bytes → c.maxLocals = maxL → meth.sig.returnType = ret → meth.locks = false → s.vm.findClass y.cls = some m.cls → meth.name = y.name → Z.Warmed39 s.vm → T.heap = h0 →
      ∀ P : State → Outcome → Prop, P = Pst s Q rm.cells rm.slots → Go p e below P (T.setTop (mkF m 0 Ls []))) : Ct l y bytes maxL ret ws rm Z as h0 Q := by
  refine MetFree.of_bodySF hpl hisR ?_
  intro p e s m args below meth c s₁ Bd hml0 hP hK
  obtain ⟨rfl, hZ, hh⟩ := hP
  have X0 : Stand p l e rm s m args below meth c s₁ [] 0 0 := Stand.of_body Bd
  obtain ⟨t, o, h1, h2⟩ := body p e s m below meth c s₁ X0 Bd.exec Bd.bytes hml0 Bd.returns Bd.notSynchronized (findClass_of_methodNamed Bd.named) (name_of_methodNamed Bd.named Bd.method).1 hZ (by rw [← hh, Bd.state]; rfl) _ rfl
  exact ⟨t, o, castTop (hef m) h1, h2⟩
theorem goRet {t : FieldType} {i : Instr} {v w : Value} {pc : Nat} {Ls : Array Slot} {rest : List Value} {Q : Option Value → Heap → List Loc → Prop} {C S : Nat}
    (X : Stand p l e R s m args below meth c T locs cells slots) (hret : meth.sig.returnType = some t) (hlk : meth.locks = false)
    (st : ∀ {fs : List Frame}, (∀ (f : JFrame) (acts : List Action), f.method = m → f.locked = none → f.entered = [] → (doReturn e (T.setTop f) acts (some w)).1 = T.setFrames fs) → Steps p.tables e below (T.setTop (mkF m pc Ls (v :: rest))) (T.setFrames fs))
    (hc : cells ≤ C) (hs : slots ≤ S) (hQ : Q (some w) T.heap locs) : Go p e below (Pst s Q C S) (T.setTop (mkF m pc Ls (v :: rest))) := by
  obtain ⟨fs, hr, hrun, hended, hW, hsame⟩ := X.leave (v := some w) (fun h => by rw [hret] at h; cases h) hlk
  exact ⟨_, _, st hr, hrun, hended, _, _, rfl, hQ, ⟨_, rfl⟩, hW, hsame.mono hc hs⟩
theorem retI (X : Stand p l e R s m args below meth c T locs cells slots) (hx : p.tables.exec = Jvm.exec) {pc : Nat} {Ls : Array Slot} {z : Int32} {rest : List Value} (hret : meth.sig.returnType = some .int) (hd : decode c.code pc = .ok (.ireturn, 1)) {fs : List Frame}
    (hl : ∀ (f : JFrame) (acts : List Action), f.method = m → f.locked = none → f.entered = [] → (doReturn e (T.setTop f) acts (some (.int z))).1 = T.setFrames fs) : Steps p.tables e below (T.setTop (mkF m pc Ls (.int z :: rest))) (T.setFrames fs) :=
  retOut X hx hret rfl (Or.inl ⟨rfl, Or.inl rfl, z, rfl⟩) hd hl
theorem goI {pc : Nat} {Ls : Array Slot} {z : Int32} {rest : List Value} {Q : Option Value → Heap → List Loc → Prop} {C S : Nat} {P : State → Outcome → Prop}
    (X : Stand p l e R s m args below meth c T locs cells slots) (hx : p.tables.exec = Jvm.exec) (hret : meth.sig.returnType = some .int) (hlk : meth.locks = false) (hd : decode c.code pc = .ok (.ireturn, 1))
    (hP : P = Pst s Q C S) (hc : cells ≤ C) (hs : slots ≤ S) (hQ : Q (some (.int z)) T.heap locs) : Go p e below P (T.setTop (mkF m pc Ls (.int z :: rest))) := by
  subst hP
  exact goRet (i := .ireturn) X hret hlk (fun hr => retI X hx hret hd hr) hc hs hQ
theorem goN {pc : Nat} {Ls : Array Slot} {z : Int32} {t : FieldType} {rest : List Value} {Q : Option Value → Heap → List Loc → Prop} {C S : Nat} {P : State → Outcome → Prop}
    (X : Stand p l e R s m args below meth c T locs cells slots) (hx : p.tables.exec = Jvm.exec) (hret : meth.sig.returnType = some t) (ht : t = .boolean ∨ t = .byte ∨ t = .char ∨ t = .short) (hlk : meth.locks = false) (hd : decode c.code pc = .ok (.ireturn, 1))
    (hP : P = Pst s Q C S) (hc : cells ≤ C) (hs : slots ≤ S) (hQ : Q (some (.int (nar t z))) T.heap locs) : Go p e below P (T.setTop (mkF m pc Ls (.int z :: rest))) := by
  subst hP
  exact goRet (i := .ireturn) X hret hlk (fun hr => retN X hx hret ht hd hr) hc hs hQ
theorem goJ {pc : Nat} {Ls : Array Slot} {z : Int64} {rest : List Value} {Q : Option Value → Heap → List Loc → Prop} {C S : Nat} {P : State → Outcome → Prop}
    (X : Stand p l e R s m args below meth c T locs cells slots) (hx : p.tables.exec = Jvm.exec) (hret : meth.sig.returnType = some .long) (hlk : meth.locks = false) (hd : decode c.code pc = .ok (.lreturn, 1))
    (hP : P = Pst s Q C S) (hc : cells ≤ C) (hs : slots ≤ S) (hQ : Q (some (.long z)) T.heap locs) : Go p e below P (T.setTop (mkF m pc Ls (.long z :: rest))) := by
  subst hP
  exact goRet (i := .lreturn) X hret hlk (fun hr => retOut X hx hret rfl (Or.inr (Or.inl ⟨rfl, rfl, z, rfl⟩)) hd hr) hc hs hQ
theorem goA {pc : Nat} {Ls : Array Slot} {z : Addr} {t : FieldType} {rest : List Value} {Q : Option Value → Heap → List Loc → Prop} {C S : Nat} {P : State → Outcome → Prop}
    (X : Stand p l e R s m args below meth c T locs cells slots) (hx : p.tables.exec = Jvm.exec) (hret : meth.sig.returnType = some t) (ht : t.isReference = true) (hn : narrow t (.ref z) = .ref z) (hlk : meth.locks = false) (hd : decode c.code pc = .ok (.areturn, 1))
    (hP : P = Pst s Q C S) (hc : cells ≤ C) (hs : slots ≤ S) (hQ : Q (some (.ref z)) T.heap locs) : Go p e below P (T.setTop (mkF m pc Ls (.ref z :: rest))) := by
  subst hP
  exact goRet (i := .areturn) X hret hlk (fun hr => retOut X hx hret hn (Or.inr (Or.inr (Or.inr (Or.inr ⟨rfl, ht, rfl⟩)))) hd hr) hc hs hQ
theorem goV {pc : Nat} {Ls : Array Slot} {Q : Option Value → Heap → List Loc → Prop} {C S : Nat} {P : State → Outcome → Prop}
    (X : Stand p l e R s m args below meth c T locs cells slots) (hx : p.tables.exec = Jvm.exec) (hret : meth.sig.returnType = none) (hlk : meth.locks = false) (hd : decode c.code pc = .ok (.return_, 1))
    (hP : P = Pst s Q C S) (hc : cells ≤ C) (hs : slots ≤ S) (hQ : Q none T.heap locs) : Go p e below P (T.setTop (mkF m pc Ls [])) := by
  subst hP
  obtain ⟨fs, hr, hrun, hended, hW, hsame⟩ := X.leave (v := none) (fun _ => rfl) hlk
  exact ⟨_, _, X.returnOut hx hret hd hr, hrun, hended, _, _, rfl, hQ, ⟨_, rfl⟩, hW, hsame.mono hc hs⟩
/-- a static call by its contract -/
theorem callCt (X : Stand p l e R s m args below meth c T locs cells slots) (hx : p.tables.exec = Jvm.exec) (hZ : Z.Warmed39 s.vm) (eT : T.heap = h) {own : String} {index : Nat} {y : MethodName} {bytes : ByteArray} {maxL : Nat} {ret : Option FieldType} {rm : Room} {Q : Option Value → Heap → List Loc → Prop} {argsL rest : List Value}
    (hown : s.vm.findClass own = some m.cls) (w1 : (Cond.methodLink own index y).before a0 Z = true) (w2 : (Cond.static y).before a0 Z = true) (w3 : (Cond.initialized y.cls).before a0 Z = true) (w4 : (Cond.code y bytes maxL ret).before a0 Z = true)
    (hy : y.cls ≠ "java/lang/invoke/MethodHandle" ∧ y.cls ≠ "java/lang/invoke/VarHandle") (hM : Ct l y bytes maxL ret [] rm Z argsL.toArray h Q) {W : Nat} (hf : rm.frames + 1 ≤ R.frames) (hl : W + (maxL + 11) + rm.locals ≤ R.locals)
    {g : JFrame} (hg : g.method = m) (hsize : g.locals.size = c.maxLocals) (hlen : ∀ sig, parseMethodDescriptor y.desc = some sig → argsL.length = sig.parameters.length) (hstack : g.stack = argsL.reverse ++ rest) (hW : 2 * g.monitorRoom + (rest.map fun v => v.category).sum ≤ W)
    (hdg : decode c.code g.pc = .ok (.invokestatic index, 3)) (hc : cells + rm.cells ≤ R.cells) (hs : slots + rm.slots ≤ R.slots) :
    ∃ (v : Option Value) (T' : State) (L : List Loc), Stand p l e R s m args below meth c T' (locs ++ L) (cells + rm.cells) (slots + rm.slots) ∧ Q v T'.heap L ∧ ∀ target, Steps p.tables e below (T'.setTop { g with pc := g.pc + 3, stack := v.toList ++ rest }) target → Steps p.tables e below (T.setTop g) target := by
  subst eT
  obtain ⟨v, _, ⟨T', L', k', n'⟩, -, X', ⟨Lc, hQ, l18, y18, z18⟩, st⟩ := Jvm.LawKit.callS X hx (y := y) hown (mvT hZ w1) (mvT hZ w2) (mvT hZ w3) (mvT hZ w4) hy (backOf (W := W) hM hZ w4 w3 hf hl) hg hsize hlen hstack hW hdg (fun _ _ => ⟨rfl, rfl, hc, hs⟩)
  dsimp only [Pt.U, Pt.locs, Pt.cells, Pt.slots] at X' l18 y18 z18 st hQ
  subst l18 y18 z18
  exact ⟨v, T', Lc, X', hQ, st⟩
/-- a constructor by its contract -/
theorem callCtor (X : Stand p l e R s m args below meth c T locs cells slots) (hx : p.tables.exec = Jvm.exec) (hZ : Z.Warmed39 s.vm) (eT : T.heap = h) {own : String} {index : Nat} {y : MethodName} (hy1 : y.name = "<init>") {bytes : ByteArray} {maxL : Nat} {rm : Room} {Q : Option Value → Heap → List Loc → Prop} {a : Addr} {argsL rest : List Value}
    (hown : s.vm.findClass own = some m.cls) (w1 : (Cond.methodLink own index y).before a0 Z = true) (w2 : (Cond.instanceMethod y).before a0 Z = true) (w3 : (Cond.initialized y.cls).before a0 Z = true) (w4 : (Cond.code y bytes maxL none).before a0 Z = true)
    (hy : y.cls ≠ "java/lang/invoke/MethodHandle" ∧ y.cls ≠ "java/lang/invoke/VarHandle") (hM : Ct l y bytes maxL none [] rm Z (.ref a :: argsL).toArray h Q) {W : Nat} (hf : rm.frames + 1 ≤ R.frames) (hl : W + (maxL + 11) + rm.locals ≤ R.locals)
    {g : JFrame} (hg : g.method = m) (hsize : g.locals.size = c.maxLocals) (hlen : ∀ sig, parseMethodDescriptor y.desc = some sig → argsL.length = sig.parameters.length) (hstack : g.stack = argsL.reverse ++ .ref a :: rest) (hW : 2 * g.monitorRoom + (rest.map fun v => v.category).sum ≤ W)
    (hdg : decode c.code g.pc = .ok (.invokespecial index, 3)) (hc : cells + rm.cells ≤ R.cells) (hs : slots + rm.slots ≤ R.slots) :
    ∃ (v : Option Value) (T' : State) (L : List Loc), Stand p l e R s m args below meth c T' (locs ++ L) (cells + rm.cells) (slots + rm.slots) ∧ Q v T'.heap L ∧ ∀ target, Steps p.tables e below (T'.setTop { g with pc := g.pc + 3, stack := v.toList ++ rest }) target → Steps p.tables e below (T.setTop g) target := by
  subst eT
  obtain ⟨v, _, ⟨T', L', k', n'⟩, -, X', ⟨Lc, hQ, l18, y18, z18⟩, st⟩ := X.specialBack hx (y := y) hy1 hown (mvT hZ w1) (mvT hZ w2) (mvT hZ w4) hy (backOf (W := W) hM hZ w4 w3 hf hl) hg hsize (Steps.refl _) hlen hstack hW hdg (fun _ _ => ⟨rfl, rfl, hc, hs⟩)
  dsimp only [Pt.U, Pt.locs, Pt.cells, Pt.slots] at X' l18 y18 z18 st hQ
  subst l18 y18 z18
  exact ⟨v, T', Lc, X', hQ, fun _ k => st.trans k⟩
/-- an instance method that its own class selects, by its contract -/
theorem callCv (X : Stand p l e R s m args below meth c T locs cells slots) (hx : p.tables.exec = Jvm.exec) (hZ : Z.Warmed39 s.vm) (eT : T.heap = h) {own : String} {index : Nat} {y : MethodName} {bytes : ByteArray} {maxL : Nat} {ret : Option FieldType} {rm : Room} {Q : Option Value → Heap → List Loc → Prop} {a : Addr} {argsL rest : List Value}
    (hown : s.vm.findClass own = some m.cls) (w1 : (Cond.methodLink own index y).before a0 Z = true) (w5 : (Cond.declares y).before a0 Z = true) (w6 : (Cond.selects y.cls y y).before a0 Z = true) (w2 : (Cond.instanceMethod y).before a0 Z = true) (w3 : (Cond.initialized y.cls).before a0 Z = true) (w4 : (Cond.code y bytes maxL ret).before a0 Z = true)
    (hy : y.cls ≠ "java/lang/invoke/MethodHandle" ∧ y.cls ≠ "java/lang/invoke/VarHandle") (E : Exa Z h a y.cls) (hM : Ct l y bytes maxL ret [] rm Z (.ref a :: argsL).toArray h Q) {W : Nat} (hf : rm.frames + 1 ≤ R.frames) (hl : W + (maxL + 11) + rm.locals ≤ R.locals)
    {g : JFrame} (hg : g.method = m) (hsize : g.locals.size = c.maxLocals) (hlen : ∀ sig, parseMethodDescriptor y.desc = some sig → argsL.length = sig.parameters.length) (hstack : g.stack = argsL.reverse ++ .ref a :: rest) (hW : 2 * g.monitorRoom + (rest.map fun v => v.category).sum ≤ W)
    (hdg : decode c.code g.pc = .ok (.invokevirtual index, 3)) (hc : cells + rm.cells ≤ R.cells) (hs : slots + rm.slots ≤ R.slots) :
    ∃ (v : Option Value) (T' : State) (L : List Loc), Stand p l e R s m args below meth c T' (locs ++ L) (cells + rm.cells) (slots + rm.slots) ∧ Q v T'.heap L ∧ ∀ target, Steps p.tables e below (T'.setTop { g with pc := g.pc + 3, stack := v.toList ++ rest }) target → Steps p.tables e below (T.setTop g) target := by
  subst eT
  obtain ⟨cq, kq, qa, qb, qc⟩ := isOf hZ rfl E
  obtain ⟨v, _, ⟨T', L', k', n'⟩, -, X', ⟨Lc, hQ, l18, y18, z18⟩, st⟩ := X.virtualBack hx (y := y) (z := y) hown (mvT hZ w1) (mvT hZ w5) (notFace_of_selects (args := #[]) (mvT hZ w6)) (mvT hZ w6) (mvT hZ w2) hy (backOf (W := W) hM hZ w4 w3 hf hl) qa qc hg hsize (Steps.refl _) hlen hstack hW hdg (fun _ _ => ⟨rfl, rfl, hc, hs⟩)
  dsimp only [Pt.U, Pt.locs, Pt.cells, Pt.slots] at X' l18 y18 z18 st hQ
  subst l18 y18 z18
  exact ⟨v, T', Lc, X', hQ, fun _ k => st.trans k⟩
/-- a private instance method by its contract -/
theorem callCp (X : Stand p l e R s m args below meth c T locs cells slots) (hx : p.tables.exec = Jvm.exec) (hZ : Z.Warmed39 s.vm) (eT : T.heap = h) {own : String} {index : Nat} {y : MethodName} {bytes : ByteArray} {maxL k : Nat} {ret : Option FieldType} {rm : Room} {Q : Option Value → Heap → List Loc → Prop} {a : Addr} {argsL rest : List Value}
    (hown : s.vm.findClass own = some m.cls) (w1 : (Cond.methodLink own index y).before a0 Z = true) (w2 : (Cond.instanceMethod y).before a0 Z = true) (w7 : (Cond.privateMethod y).before a0 Z = true) (wi : (Cond.instantiable y.cls k).before a0 Z = true) (w3 : (Cond.initialized y.cls).before a0 Z = true) (w4 : (Cond.code y bytes maxL ret).before a0 Z = true)
    (hy : y.cls ≠ "java/lang/invoke/MethodHandle" ∧ y.cls ≠ "java/lang/invoke/VarHandle") (E : Exa Z h a y.cls) (hM : Ct l y bytes maxL ret [] rm Z (.ref a :: argsL).toArray h Q) {W : Nat} (hf : rm.frames + 1 ≤ R.frames) (hl : W + (maxL + 11) + rm.locals ≤ R.locals)
    {g : JFrame} (hg : g.method = m) (hsize : g.locals.size = c.maxLocals) (hlen : ∀ sig, parseMethodDescriptor y.desc = some sig → argsL.length = sig.parameters.length) (hstack : g.stack = argsL.reverse ++ .ref a :: rest) (hW : 2 * g.monitorRoom + (rest.map fun v => v.category).sum ≤ W)
    (hdg : decode c.code g.pc = .ok (.invokevirtual index, 3)) (hc : cells + rm.cells ≤ R.cells) (hs : slots + rm.slots ≤ R.slots) :
    ∃ (v : Option Value) (T' : State) (L : List Loc), Stand p l e R s m args below meth c T' (locs ++ L) (cells + rm.cells) (slots + rm.slots) ∧ Q v T'.heap L ∧ ∀ target, Steps p.tables e below (T'.setTop { g with pc := g.pc + 3, stack := v.toList ++ rest }) target → Steps p.tables e below (T.setTop g) target := by
  subst eT
  obtain ⟨cq, q1, q2⟩ := E.cell
  have hpriv : s.PrivateAt y := Cond.privateMethod_at (mvP hZ w7 (args := #[]))
  obtain ⟨cc, kk, i1, i2, -, i4, -⟩ := Cond.instantiable_spec (mvT (args := args) hZ wi)
  have hni : kk.isInterface = false := by simp only [Bool.or_eq_false_iff] at i4; exact i4.1
  have hsel := selects_self_of_private (args := args) i1 i2 hni hpriv (mvT hZ w2) hy
  obtain ⟨v, _, ⟨T', L', k', n'⟩, -, X', ⟨Lc, hQ, l18, y18, z18⟩, st⟩ := X.privateBack hx (y := y) hown (mvT hZ w1) (mvT hZ w2) hsel hpriv (mvT hZ w4) hy (backOf (W := W) hM hZ w4 w3 hf hl) hg hsize (Steps.refl _) q1 q2 hlen hstack hW hdg (fun _ _ => ⟨rfl, rfl, hc, hs⟩)
  dsimp only [Pt.U, Pt.locs, Pt.cells, Pt.slots] at X' l18 y18 z18 st hQ
  subst l18 y18 z18
  exact ⟨v, T', Lc, X', hQ, fun _ k => st.trans k⟩
end OwnGo
end Jvm.RoadKit
namespace Jvm.RoadKit
open Sem ClassFile Op Lib Jvm.Stand Jvm.Free Jvm.LawKit
section OwnAry
variable {p : Program} {l : Launch} {e : Env} {R : Room} {s : State} {m : MethodId} {args : Array Value} {below : List Frame} {meth : Method} {c : Code} {T : State} {locs : List Loc} {cells slots : Nat} {Z : State} {a0 : Array Value} {h h' : Heap} {a b : Addr} {ws : List Addr}
/-- the int j is the natural i -/
def IsN (j : Int32) (i : Nat) : Prop := ¬ j < 0 ∧ j.toNatClampNeg = i
def updN {α : Type} (f : Nat → α) (i : Nat) (x : α) : Nat → α := fun k => if k = i then x else f k
theorem updN_hit {α : Type} (f : Nat → α) (i : Nat) (x : α) : updN f i x i = x := if_pos rfl
theorem updN_miss {α : Type} {f : Nat → α} {i k : Nat} {x : α} (q : k ≠ i) : updN f i x k = f k := if_neg q
theorem isN_ofNat {n : Nat} (q : n < 2 ^ 31) : IsN (Int32.ofNat n) n := by
  have e : (Int32.ofNat n).toInt = n := len_toInt q
  exact ⟨by simp only [Int32.lt_iff_toInt_lt, e, Int32.reduceToInt]; omega, by simp only [Int32.toNatClampNeg, e]; omega⟩
theorem isN_of {j : Int32} {n : Nat} (q : j.toInt = n) : IsN j n :=
  ⟨by simp only [Int32.lt_iff_toInt_lt, q, Int32.reduceToInt]; omega, by simp only [Int32.toNatClampNeg, q]; omega⟩
theorem IsN.toInt {j : Int32} {n : Nat} (q : IsN j n) : j.toInt = n := by
  obtain ⟨q1, q2⟩ := q
  simp only [Int32.lt_iff_toInt_lt, Int32.reduceToInt, Int32.toNatClampNeg] at q1 q2; omega
/-- the array at a: of ty, n places; the place i holds mk (f i) -/
def Ary {α : Type} (Z : State) (h : Heap) (a : Addr) (ty : FieldType) (mk : α → Value) (n : Nat) (f : Nat → α) : Prop := ∃ c : Cell, Arr Z h a c ty ∧ c.slots.size = n ∧ n < 2 ^ 31 ∧ ∀ i, i < n → c.slots[i]? = some (mk (f i))
variable {α : Type} {ty : FieldType} {mk : α → Value} {n : Nat} {f f' : Nat → α}
theorem Ary.lt (V : Ary Z h a ty mk n f) : a < h.size := by obtain ⟨c, A, -⟩ := V; exact A.lt
theorem Ary.ext (V : Ary Z h a ty mk n f) (E : Ext h h') : Ary Z h' a ty mk n f := by obtain ⟨c, A, r⟩ := V; exact ⟨c, A.ext E, r⟩
theorem Ary.other {sl : Nat} {v : Value} (V : Ary Z h b ty mk n f) (W : Wr h h' a sl v) (q : b ≠ a) : Ary Z h' b ty mk n f := by obtain ⟨c, A, r⟩ := V; exact ⟨c, A.other W q, r⟩
theorem Ary.keep (V : Ary Z h a ty mk n f) (K : Keep h h' ws) (q : a ∉ ws) : Ary Z h' a ty mk n f := by obtain ⟨c, A, r⟩ := V; exact ⟨c, ⟨K.2.1 a c A.1 q, A.2⟩, r⟩
theorem Ary.congr (V : Ary Z h a ty mk n f) (q : ∀ i, i < n → f i = f' i) : Ary Z h a ty mk n f' := by
  obtain ⟨c, A, S, B, H⟩ := V; exact ⟨c, A, S, B, fun i hi => by rw [← q i hi]; exact H i hi⟩
theorem Ary.small (V : Ary Z h a ty mk n f) : n < 2 ^ 31 := by obtain ⟨c, A, S, B, H⟩ := V; exact B
theorem Ary.set {i : Nat} {x : α} (V : Ary Z h a ty mk n f) (W : Wr h h' a i (mk x)) : Ary Z h' a ty mk n (updN f i x) := by
  obtain ⟨c, A, S, B, H⟩ := V
  refine ⟨c.setSlot i (mk x), A.same W, by rw [sz_set]; exact S, B, fun k hk => ?_⟩
  by_cases e : k = i
  · subst e
    rw [updN_hit]
    exact Array.getElem?_setIfInBounds_self_of_lt (by omega)
  · rw [updN_miss e]
    exact (Array.getElem?_setIfInBounds_ne (Ne.symm e)).trans (H k hk)
theorem Ary.ne {C : String} {k : Nat} (V : Ary Z h a ty mk n f) (E : Exa Z h b C) (wi : (Cond.instantiable C k).before a0 Z = true) : b ≠ a := by
  obtain ⟨c, A, -⟩ := V; exact ne_arr E wi A
theorem Ary.new {k : ClassId} {z : Int32} {d : α} (A : Arr Z h a (newA k ty z) ty) (hz : IsN z n) (hd : defaultValue ty = mk d) : Ary Z h a ty mk n (fun _ => d) := by
  obtain ⟨h1, rfl⟩ := hz
  exact ⟨_, A, sz_new _ _ _, (back32 h1).2, fun i hi => by simp [newA, hi, hd]⟩
theorem aryLen (X : Stand p l e R s m args below meth c T locs cells slots) (hx : p.tables.exec = Jvm.exec) (hZ : Z.Warmed39 s.vm) (eT : T.heap = h) (V : Ary Z h a ty mk n f) {g : JFrame} (hg : g.method = m) {rest : List Value} (hs : g.stack = .ref a :: rest) (hd : decode c.code g.pc = .ok (.arraylength, 1)) :
    ∀ t, Steps p.tables e below (T.setTop { g with pc := g.pc + 1, stack := .int (Int32.ofNat n) :: rest }) t → Steps p.tables e below (T.setTop g) t := by
  obtain ⟨c', A, S, B, H⟩ := V
  intro t k
  exact X.arraylength hx (by rw [eT]; exact A.1) (State.isArrayOf_alike hZ.alike A.2.1) hg hs hd t (by rw [S]; exact k)
theorem aryLdI {f : Nat → Int32} (X : Stand p l e R s m args below meth c T locs cells slots) (hx : p.tables.exec = Jvm.exec) (hZ : Z.Warmed39 s.vm) (eT : T.heap = h) (V : Ary Z h a .int Value.int n f) {j : Int32} {i : Nat} (hj : IsN j i) (hi : i < n) {g : JFrame} (hg : g.method = m) {rest : List Value} (hs : g.stack = .int j :: .ref a :: rest) (hd : decode c.code g.pc = .ok (.iaload, 1)) :
    ∀ t, Steps p.tables e below (T.setTop { g with pc := g.pc + 1, stack := .int (f i) :: rest }) t → Steps p.tables e below (T.setTop g) t := by
  obtain ⟨c', A, S, B, H⟩ := V
  obtain ⟨h1, rfl⟩ := hj
  exact fun t k => X.iaload hx (by rw [eT]; exact A.1) (State.isArrayOf_alike hZ.alike A.2.1) A.2.2 (fun q => q.elim h1 (fun q => by omega)) (H _ hi) hg hs hd t k
theorem aryLdJ {f : Nat → Int64} (X : Stand p l e R s m args below meth c T locs cells slots) (hx : p.tables.exec = Jvm.exec) (hZ : Z.Warmed39 s.vm) (eT : T.heap = h) (V : Ary Z h a .long Value.long n f) {j : Int32} {i : Nat} (hj : IsN j i) (hi : i < n) {g : JFrame} (hg : g.method = m) {rest : List Value} (hs : g.stack = .int j :: .ref a :: rest) (hd : decode c.code g.pc = .ok (.laload, 1)) :
    ∀ t, Steps p.tables e below (T.setTop { g with pc := g.pc + 1, stack := .long (f i) :: rest }) t → Steps p.tables e below (T.setTop g) t := by
  obtain ⟨c', A, S, B, H⟩ := V
  obtain ⟨h1, rfl⟩ := hj
  exact fun t k => X.laload hx (by rw [eT]; exact A.1) (State.isArrayOf_alike hZ.alike A.2.1) A.2.2 (fun q => q.elim h1 (fun q => by omega)) (H _ hi) hg hs hd t k
theorem aryLdB {f : Nat → Int32} (X : Stand p l e R s m args below meth c T locs cells slots) (hx : p.tables.exec = Jvm.exec) (hZ : Z.Warmed39 s.vm) (eT : T.heap = h) (V : Ary Z h a .byte Value.int n f) {j : Int32} {i : Nat} (hj : IsN j i) (hi : i < n) {g : JFrame} (hg : g.method = m) {rest : List Value} (hs : g.stack = .int j :: .ref a :: rest) (hd : decode c.code g.pc = .ok (.baload, 1)) :
    ∀ t, Steps p.tables e below (T.setTop { g with pc := g.pc + 1, stack := .int (f i) :: rest }) t → Steps p.tables e below (T.setTop g) t := by
  obtain ⟨c', A, S, B, H⟩ := V
  obtain ⟨h1, rfl⟩ := hj
  exact fun t k => X.baloadBytes hx (by rw [eT]; exact A.1) (State.isArrayOf_alike hZ.alike A.2.1) A.2.2 (fun q => q.elim h1 (fun q => by omega)) (H _ hi) hg hs hd t k
theorem aryStI {f : Nat → Int32} (X : Stand p l e R s m args below meth c T locs cells slots) (hx : p.tables.exec = Jvm.exec) (hZ : Z.Warmed39 s.vm) (eT : T.heap = h) (V : Ary Z h a .int Value.int n f) {j x : Int32} {i : Nat} (hj : IsN j i) (hi : i < n) {g : JFrame} (hg : g.method = m) {rest : List Value} (hs : g.stack = .int x :: .int j :: .ref a :: rest) (hd : decode c.code g.pc = .ok (.iastore, 1)) :
    ∃ T' h', Stand p l e R s m args below meth c T' (locs ++ [⟨a, i⟩]) cells slots ∧ T'.heap = h' ∧ Wr h h' a i (.int x) ∧ Ary Z h' a .int Value.int n (updN f i x) ∧ ∀ target, Steps p.tables e below (T'.setTop { g with pc := g.pc + 1, stack := rest }) target → Steps p.tables e below (T.setTop g) target := by
  obtain ⟨c', A, S, B, H⟩ := id V
  obtain ⟨h1, rfl⟩ := hj
  obtain ⟨T', h', X', e', W', st⟩ := stI X hx hZ eT A (fun q => q.elim h1 (fun q => by omega)) hg hs hd
  exact ⟨T', h', X', e', W', V.set (mk := Value.int) W', st⟩
theorem aryStJ {f : Nat → Int64} (X : Stand p l e R s m args below meth c T locs cells slots) (hx : p.tables.exec = Jvm.exec) (hZ : Z.Warmed39 s.vm) (eT : T.heap = h) (V : Ary Z h a .long Value.long n f) {j : Int32} {x : Int64} {i : Nat} (hj : IsN j i) (hi : i < n) {g : JFrame} (hg : g.method = m) {rest : List Value} (hs : g.stack = .long x :: .int j :: .ref a :: rest) (hd : decode c.code g.pc = .ok (.lastore, 1)) :
    ∃ T' h', Stand p l e R s m args below meth c T' (locs ++ [⟨a, i⟩]) cells slots ∧ T'.heap = h' ∧ Wr h h' a i (.long x) ∧ Ary Z h' a .long Value.long n (updN f i x) ∧ ∀ target, Steps p.tables e below (T'.setTop { g with pc := g.pc + 1, stack := rest }) target → Steps p.tables e below (T.setTop g) target := by
  obtain ⟨c', A, S, B, H⟩ := id V
  obtain ⟨h1, rfl⟩ := hj
  obtain ⟨T', h', X', e', W', st⟩ := stJ X hx hZ eT A (fun q => q.elim h1 (fun q => by omega)) hg hs hd
  exact ⟨T', h', X', e', W', V.set (mk := Value.long) W', st⟩
theorem aryStB {f : Nat → Int32} (X : Stand p l e R s m args below meth c T locs cells slots) (hx : p.tables.exec = Jvm.exec) (hZ : Z.Warmed39 s.vm) (eT : T.heap = h) (V : Ary Z h a .byte Value.int n f) {j x : Int32} {i : Nat} (hj : IsN j i) (hi : i < n) {g : JFrame} (hg : g.method = m) {rest : List Value} (hs : g.stack = .int x :: .int j :: .ref a :: rest) (hd : decode c.code g.pc = .ok (.bastore, 1)) :
    ∃ T' h', Stand p l e R s m args below meth c T' (locs ++ [⟨a, i⟩]) cells slots ∧ T'.heap = h' ∧ Wr h h' a i (.int x.toInt8.toInt32) ∧ Ary Z h' a .byte Value.int n (updN f i x.toInt8.toInt32) ∧ ∀ target, Steps p.tables e below (T'.setTop { g with pc := g.pc + 1, stack := rest }) target → Steps p.tables e below (T.setTop g) target := by
  obtain ⟨c', A, S, B, H⟩ := id V
  obtain ⟨h1, rfl⟩ := hj
  obtain ⟨T', h', X', e', W', st⟩ := stB X hx hZ eT A (fun q => q.elim h1 (fun q => by omega)) hg hs hd
  exact ⟨T', h', X', e', W', V.set (mk := Value.int) W', st⟩
theorem aryStZ {f : Nat → Int32} (X : Stand p l e R s m args below meth c T locs cells slots) (hx : p.tables.exec = Jvm.exec) (hZ : Z.Warmed39 s.vm) (eT : T.heap = h) (V : Ary Z h a .boolean Value.int n f) {j x : Int32} {i : Nat} (hj : IsN j i) (hi : i < n) {g : JFrame} (hg : g.method = m) {rest : List Value} (hs : g.stack = .int x :: .int j :: .ref a :: rest) (hd : decode c.code g.pc = .ok (.bastore, 1)) :
    ∃ T' h', Stand p l e R s m args below meth c T' (locs ++ [⟨a, i⟩]) cells slots ∧ T'.heap = h' ∧ Wr h h' a i (.int (x &&& 1)) ∧ Ary Z h' a .boolean Value.int n (updN f i (x &&& 1)) ∧ ∀ target, Steps p.tables e below (T'.setTop { g with pc := g.pc + 1, stack := rest }) target → Steps p.tables e below (T.setTop g) target := by
  obtain ⟨c', A, S, B, H⟩ := id V
  obtain ⟨h1, rfl⟩ := hj
  obtain ⟨T', h', X', e', W', st⟩ := stZ X hx hZ eT A (fun q => q.elim h1 (fun q => by omega)) hg hs hd
  exact ⟨T', h', X', e', W', V.set (mk := Value.int) W', st⟩
end OwnAry
end Jvm.RoadKit
namespace Jvm.Kit
open Jvm.RoadKit
theorem own_gt (x y : Int64) : (0 : Int32) < lcmpW x y ↔ y.toInt < x.toInt := by
  rw [← Int64.lt_iff_toInt_lt]; unfold lcmpW
  by_cases h : y < x
  · simp [h]
  · by_cases h2 : x = y
    · subst h2; simp
    · simp [h, h2]
theorem own_lt (x y : Int64) : lcmpW x y < (0 : Int32) ↔ x.toInt < y.toInt := by
  have e : x.toInt < y.toInt ↔ ¬ y < x ∧ x ≠ y := by
    rw [Int64.lt_iff_toInt_lt, ne_eq, ← Int64.toInt_inj]; omega
  rw [e]; unfold lcmpW
  by_cases h : y < x
  · simp [h]
  · by_cases h2 : x = y
    · subst h2; simp
    · simp [h, h2]
theorem own_ceq (x y : Int64) : lcmpW x y = (0 : Int32) ↔ x = y := by
  unfold lcmpW
  by_cases h : y < x
  · simp [h]; intro q; subst q; exact absurd h (by simp)
  · by_cases h2 : x = y
    · subst h2; simp
    · simp [h, h2]
theorem own_lti {x : Int32} {r : Int32} {k : Int} (e : r.toInt = k) : x < r ↔ x.toInt < k := by rw [Int32.lt_iff_toInt_lt, e]
theorem own_gti {x : Int32} {r : Int32} {k : Int} (e : r.toInt = k) : r < x ↔ k < x.toInt := by rw [Int32.lt_iff_toInt_lt, e]
theorem own_m (a : Int32) : 0 ≤ (a &&& (2147483647 : Int32)).toInt := by
  have h := i32_and_bounds a (m := 2147483647) (by decide)
  rw [Kit.i32_nonneg] at h; exact h.1
theorem own_mk (a : Int32) {k : Int32} {n : Int} (hk : 0 ≤ k) (e : k.toInt = n) : 0 ≤ (a &&& k).toInt ∧ (a &&& k).toInt ≤ n := by
  have h := i32_and_bounds a hk
  rw [Kit.i32_nonneg, Int32.le_iff_toInt_le, e] at h; exact h
theorem own_rem {a b : Int32} (ha : 0 ≤ a.toInt) (hb : 0 < b.toInt) : 0 ≤ (a % b).toInt ∧ (a % b).toInt < b.toInt := by
  rw [i32_rem_nonneg ha]; exact ⟨Int.emod_nonneg _ (by omega), Int.emod_lt_of_pos _ hb⟩
theorem own_one : (1 : Int32).toInt = 1 := by decide
theorem own_zero : (0 : Int32).toInt = 0 := by decide
theorem own_zero64 : (0 : Int64).toInt = 0 := by decide
theorem own_one64 : (1 : Int64).toInt = 1 := by decide
theorem own_nz {a : Int32} (h : 0 < a.toInt) : a ≠ 0 := fun q => by rw [q] at h; exact absurd h (by decide)
end Jvm.Kit
namespace Jvm.Kit
theorem own_succ (i : Nat) : Int32.ofNat i + (1 : Int32) = Int32.ofNat (i + 1) := by rw [Int32.ofNat_add]; rfl
theorem own_tn {n : Nat} (q : n < 2 ^ 31) : (Int32.ofNat n).toInt = n := Jvm.RoadKit.len_toInt q
theorem own_ltN {i n : Nat} (hi : i < 2 ^ 31) (hn : n < 2 ^ 31) : Int32.ofNat i < Int32.ofNat n ↔ i < n := by
  rw [Int32.lt_iff_toInt_lt, own_tn hi, own_tn hn]; omega
theorem own_nat {j : Int32} (h : 0 ≤ j.toInt) : ∃ n : Nat, j = Int32.ofNat n ∧ n < 2 ^ 31 ∧ j.toInt = n := by
  have := j.toInt_lt
  have hn : j.toInt.toNat < 2 ^ 31 := by omega
  exact ⟨j.toInt.toNat, Int32.toInt_inj.mp (by rw [own_tn hn]; omega), hn, by omega⟩
end Jvm.Kit
namespace Jvm.Pilot.@@N@@
open Jvm Jvm.ClassFile Sem Op Lib Jvm.Free Jvm.Stand Jvm.LawKit Jvm.RoadKit Bundle Jvm.Pilot.@@N@@.Jvm.D
open Jvm.Kit
def own_cnt (f : Nat → Int32) (v : Int32) : Nat := (if f 0 = v then 1 else 0) + (if f 1 = v then 1 else 0) + (if f 2 = v then 1 else 0) + (if f 3 = v then 1 else 0) + (if f 4 = v then 1 else 0)
def own_sw (f : Nat → Int32) (i : Nat) : Nat → Int32 := updN (updN f i (f (i + 1))) (i + 1) (f i)
theorem own_sw_l (f : Nat → Int32) (i : Nat) : own_sw f i i = f (i + 1) := by unfold own_sw; rw [updN_miss (by omega), updN_hit]
theorem own_sw_r (f : Nat → Int32) (i : Nat) : own_sw f i (i + 1) = f i := by unfold own_sw; rw [updN_hit]
theorem own_sw_o (f : Nat → Int32) (i k : Nat) (h1 : k ≠ i) (h2 : k ≠ i + 1) : own_sw f i k = f k := by unfold own_sw; rw [updN_miss h2, updN_miss h1]
theorem own_cnt_sw (f : Nat → Int32) (i : Nat) (hi : i < 4) (v : Int32) : own_cnt (own_sw f i) v = own_cnt f v := by
  rcases (by omega : i = 0 ∨ i = 1 ∨ i = 2 ∨ i = 3) with rfl | rfl | rfl | rfl <;> simp only [own_cnt, own_sw, updN] <;> simp <;> omega
theorem own_cnt_congr {f g : Nat → Int32} (h : ∀ k, k < 5 → f k = g k) (v : Int32) : own_cnt f v = own_cnt g v := by
  unfold own_cnt; rw [h 0 (by omega), h 1 (by omega), h 2 (by omega), h 3 (by omega), h 4 (by omega)]
/-- g is f, its places from F to T put in order -/
def own_S (F T : Nat) (f g : Nat → Int32) : Prop := (∀ i j, F ≤ i → i < j → j < T → (g i).toInt ≤ (g j).toInt) ∧ (∀ k, k < 5 → (k < F ∨ T ≤ k) → g k = f k) ∧ ∀ v, own_cnt g v = own_cnt f v
theorem own_one_way {F T : Nat} {f g h : Nat → Int32} (hg : own_S F T f g) (hh : own_S F T f h) (k : Nat) (hk : k < 5) (ih : ∀ j, j < k → g j = h j) : ¬ (g k).toInt < (h k).toInt := by
  intro lt
  obtain ⟨s1, o1, c1⟩ := hg
  obtain ⟨s2, o2, c2⟩ := hh
  have hin : ¬ (k < F ∨ T ≤ k) := fun q => by rw [o1 k hk q, o2 k hk q] at lt; omega
  have e := (c1 (g k)).trans (c2 (g k)).symm
  have t : ∀ j, j < 5 → (if h j = g k then 1 else 0) ≤ (if g j = g k then 1 else 0) := fun j hj => by
    by_cases q1 : j < k
    · rw [ih j q1]; exact Nat.le_refl _
    · by_cases q2 : j < T
      · have : h j ≠ g k := fun q => by
          by_cases q3 : j = k
          · subst q3; rw [q] at lt; omega
          · have := s2 k j (by omega) (by omega) q2; rw [q] at this; omega
        rw [if_neg this]; exact Nat.zero_le _
      · rw [o1 j hj (by omega), o2 j hj (by omega)]; exact Nat.le_refl _
  have tk : (if h k = g k then 1 else 0) + 1 ≤ (if g k = g k then 1 else 0) := by
    rw [if_neg (fun q => by rw [q] at lt; omega), if_pos rfl]; exact Nat.le_refl _
  have t0 := t 0 (by omega); have t1 := t 1 (by omega); have t2 := t 2 (by omega); have t3 := t 3 (by omega); have t4 := t 4 (by omega)
  unfold own_cnt at e
  rcases (by omega : k = 0 ∨ k = 1 ∨ k = 2 ∨ k = 3 ∨ k = 4) with rfl | rfl | rfl | rfl | rfl <;> omega
theorem own_uniq {F T : Nat} {f g h : Nat → Int32} (hg : own_S F T f g) (hh : own_S F T f h) : ∀ k, k < 5 → g k = h k := by
  have : ∀ n k, k < n → k < 5 → g k = h k := by
    intro n
    induction n with
    | zero => intro k hk; omega
    | succ n ih =>
      intro k hk h5
      have l1 := own_one_way hg hh k h5 (fun j hj => ih j (by omega) (by omega))
      have l2 := own_one_way hh hg k h5 (fun j hj => (ih j (by omega) (by omega)).symm)
      exact Int32.toInt_inj.mp (by omega)
  exact fun k hk => this (k + 1) k (by omega) hk
/-- one comparison and exchange -/
def own_cx (F T i : Nat) (f : Nat → Int32) : Nat → Int32 := if F ≤ i ∧ i + 1 < T ∧ (f (i + 1)).toInt < (f i).toInt then own_sw f i else f
def own_pass (F T : Nat) : Nat → (Nat → Int32) → (Nat → Int32)
  | 0, f => f
  | k + 1, f => own_cx F T k (own_pass F T k f)
def own_up (F T q : Nat) (f : Nat → Int32) : Prop := ∀ i j, F ≤ i → i < j → j < T → q ≤ j → (f i).toInt ≤ (f j).toInt
theorem own_cx_out {F T i : Nat} {f : Nat → Int32} (k : Nat) (h : k < F ∨ T ≤ k) : own_cx F T i f k = f k := by
  unfold own_cx
  by_cases q : F ≤ i ∧ i + 1 < T ∧ (f (i + 1)).toInt < (f i).toInt
  · rw [if_pos q, own_sw_o f i k (by omega) (by omega)]
  · rw [if_neg q]
theorem own_cx_cnt {F T i : Nat} {f : Nat → Int32} (hi : i < 4) (v : Int32) : own_cnt (own_cx F T i f) v = own_cnt f v := by
  unfold own_cx
  by_cases q : F ≤ i ∧ i + 1 < T ∧ (f (i + 1)).toInt < (f i).toInt
  · rw [if_pos q, own_cnt_sw f i hi]
  · rw [if_neg q]
theorem own_cx_far {F T i : Nat} {f : Nat → Int32} (k : Nat) (h : i + 1 < k) : own_cx F T i f k = f k := by
  unfold own_cx
  by_cases q : F ≤ i ∧ i + 1 < T ∧ (f (i + 1)).toInt < (f i).toInt
  · rw [if_pos q, own_sw_o f i k (by omega) (by omega)]
  · rw [if_neg q]
theorem own_cx_up {F T i q : Nat} {f : Nat → Int32} (hi : i + 1 < q) (h : own_up F T q f) : own_up F T q (own_cx F T i f) := by
  intro a b h1 h2 h3 h4
  rw [own_cx_far b (by omega)]
  unfold own_cx
  by_cases c : F ≤ i ∧ i + 1 < T ∧ (f (i + 1)).toInt < (f i).toInt
  · rw [if_pos c]
    by_cases e1 : a = i
    · subst e1; rw [own_sw_l]; exact h (a + 1) b (by omega) (by omega) h3 h4
    · by_cases e2 : a = i + 1
      · subst e2; rw [own_sw_r]; exact h i b (by omega) (by omega) h3 h4
      · rw [own_sw_o f i a e1 e2]; exact h a b h1 h2 h3 h4
  · rw [if_neg c]; exact h a b h1 h2 h3 h4
theorem own_pass_up {F T q : Nat} {f : Nat → Int32} (h : own_up F T (q + 1) f) : ∀ k, k ≤ q → own_up F T (q + 1) (own_pass F T k f) ∧ ∀ j, F ≤ j → j ≤ k → k < T → (own_pass F T k f j).toInt ≤ (own_pass F T k f k).toInt := by
  intro k
  induction k with
  | zero => intro _; exact ⟨h, fun j h1 h2 h3 => by rw [(by omega : j = 0)]; exact Int.le_refl _⟩
  | succ k ih =>
    intro hk
    obtain ⟨i1, i2⟩ := ih (by omega)
    refine ⟨own_cx_up (by omega) i1, fun j h1 h2 h3 => ?_⟩
    show (own_cx F T k (own_pass F T k f) j).toInt ≤ (own_cx F T k (own_pass F T k f) (k + 1)).toInt
    generalize own_pass F T k f = g at i2 ⊢
    unfold own_cx
    by_cases c : F ≤ k ∧ k + 1 < T ∧ (g (k + 1)).toInt < (g k).toInt
    · rw [if_pos c, own_sw_r]
      by_cases e1 : j = k + 1
      · subst e1; rw [own_sw_r]; exact Int.le_refl _
      · by_cases e2 : j = k
        · subst e2; rw [own_sw_l]; omega
        · rw [own_sw_o g k j e2 e1]; exact i2 j h1 (by omega) (by omega)
    · rw [if_neg c]
      by_cases e1 : j = k + 1
      · subst e1; exact Int.le_refl _
      · have := i2 j h1 (by omega) (by omega); omega
theorem own_pass_next {F T q : Nat} {f : Nat → Int32} (h : own_up F T (q + 1) f) : own_up F T q (own_pass F T q f) := by
  obtain ⟨h1, h2⟩ := own_pass_up h q (Nat.le_refl _)
  intro i j a1 a2 a3 a4
  by_cases e : j = q
  · subst e; exact h2 i a1 (by omega) a3
  · exact h1 i j a1 a2 a3 (by omega)
theorem own_pass_keep {F T : Nat} {f : Nat → Int32} : ∀ k, k ≤ 4 → (∀ j, (j < F ∨ T ≤ j) → own_pass F T k f j = f j) ∧ ∀ v, own_cnt (own_pass F T k f) v = own_cnt f v := by
  intro k
  induction k with
  | zero => intro _; exact ⟨fun _ _ => rfl, fun _ => rfl⟩
  | succ k ih =>
    intro hk
    obtain ⟨i1, i2⟩ := ih (by omega)
    exact ⟨fun j hj => by show own_cx F T k (own_pass F T k f) j = f j; rw [own_cx_out j hj, i1 j hj], fun v => by show own_cnt (own_cx F T k (own_pass F T k f)) v = _; rw [own_cx_cnt (by omega), i2]⟩
theorem own_net {F T : Nat} {f : Nat → Int32} (hT : T ≤ 5) : own_S F T f (own_pass F T 1 (own_pass F T 2 (own_pass F T 3 (own_pass F T 4 f)))) := by
  have u5 : own_up F T (4 + 1) f := fun i j _ _ _ _ => by omega
  have u1 := own_pass_next (q := 1) (own_pass_next (q := 2) (own_pass_next (q := 3) (own_pass_next (q := 4) u5)))
  refine ⟨fun i j h1 h2 h3 => u1 i j h1 h2 h3 (by omega), fun k _ hk => ?_, fun v => ?_⟩
  · rw [(own_pass_keep 1 (by omega)).1 k hk, (own_pass_keep 2 (by omega)).1 k hk, (own_pass_keep 3 (by omega)).1 k hk, (own_pass_keep 4 (by omega)).1 k hk]
  · rw [(own_pass_keep 1 (by omega)).2, (own_pass_keep 2 (by omega)).2, (own_pass_keep 3 (by omega)).2, (own_pass_keep 4 (by omega)).2]
/-- while x = h p is carried down -/
def own_ins (F i p : Nat) (h : Nat → Int32) : Prop := ∀ a b, F ≤ a → a < b → b ≤ i → b ≠ p → (h a).toInt ≤ (h b).toInt
theorem own_ins_step {F i p : Nat} {h : Nat → Int32} (H : own_ins F i (p + 1) h) (hp : p + 1 ≤ i) (hF : F ≤ p) (lt : (h (p + 1)).toInt < (h p).toInt) : own_ins F i p (own_sw h p) := by
  intro a b h1 h2 h3 h4
  by_cases e1 : b = p + 1
  · subst e1; rw [own_sw_r]
    by_cases e2 : a = p
    · subst e2; rw [own_sw_l]; omega
    · rw [own_sw_o h p a e2 (by omega)]; exact H a p h1 (by omega) (by omega) (by omega)
  · rw [own_sw_o h p b h4 e1]
    by_cases e2 : a = p
    · subst e2; rw [own_sw_l]; exact H (a + 1) b (by omega) (by omega) h3 (by omega)
    · by_cases e3 : a = p + 1
      · subst e3; rw [own_sw_r]; exact H p b (by omega) (by omega) h3 (by omega)
      · rw [own_sw_o h p a e2 e3]; exact H a b h1 h2 h3 e1
theorem own_ins_end {F i p : Nat} {h : Nat → Int32} (H : own_ins F i p h) (hF : F ≤ p) (hp : p ≤ i) (c : p = F ∨ (h (p - 1)).toInt ≤ (h p).toInt) : ∀ a b, F ≤ a → a < b → b < i + 1 → (h a).toInt ≤ (h b).toInt := by
  intro a b h1 h2 h3
  by_cases e : b = p
  · subst e
    rcases c with c | c
    · omega
    · by_cases e2 : a = b - 1
      · subst e2; exact c
      · have := H a (b - 1) h1 (by omega) (by omega) (by omega); omega
  · exact H a b h1 h2 (by omega) e

theorem own_cx_f {F T i : Nat} {f : Nat → Int32} (h : ¬ (F ≤ i ∧ i + 1 < T ∧ (f (i + 1)).toInt < (f i).toInt)) : own_cx F T i f = f := if_neg h
theorem own_cx_t {F T i : Nat} {f : Nat → Int32} (h : F ≤ i ∧ i + 1 < T ∧ (f (i + 1)).toInt < (f i).toInt) : own_cx F T i f = updN (updN f i (f (i + 1))) (i + 1) (f i) := if_pos h
theorem own_pm {p : Nat} (hp : p + 1 < 2 ^ 31) : (Int32.ofNat p - (1 : Int32)).toInt = (p : Int) - 1 := by
  rw [i32_sub (by rw [own_tn (by omega), own_one]; omega) (by rw [own_tn (by omega), own_one]; omega), own_tn (by omega), own_one]
theorem own_back (p : Nat) : Int32.ofNat p - (1 : Int32) + (1 : Int32) = Int32.ofNat p := by rw [Int32.sub_add_cancel]
theorem own_down (p : Nat) : Int32.ofNat (p + 1) - (1 : Int32) = Int32.ofNat p := by rw [← own_succ, Int32.add_sub_cancel]
theorem own_down2 (p : Nat) : Int32.ofNat p + (-1 : Int32) = Int32.ofNat p - (1 : Int32) := by rw [Int32.sub_eq_add_neg]
theorem own_F (a : Int32) : ∃ F : Nat, (a &&& (7 : Int32)) % (6 : Int32) = Int32.ofNat F ∧ F ≤ 5 := by
  have h := own_mk a (k := 7) (n := 7) (by decide) (by decide)
  have q := own_rem h.1 (b := 6) (by decide)
  have e : (6 : Int32).toInt = 6 := by decide
  obtain ⟨n, e1, e2, e3⟩ := own_nat q.1
  exact ⟨n, e1, by omega⟩
theorem own_6F {F : Nat} (h : F ≤ 5) : ((6 : Int32) - Int32.ofNat F).toInt = 6 - F := by
  have e : (6 : Int32).toInt = 6 := by decide
  rw [i32_sub (by rw [e, own_tn (by omega)]; omega) (by rw [e, own_tn (by omega)]; omega), e, own_tn (by omega)]
theorem own_T (a : Int32) {F : Nat} (h : F ≤ 5) : ∃ T : Nat, Int32.ofNat F + (((a.toUInt32 >>> ((3 : Int32) &&& 31).toUInt32).toInt32) &&& (7 : Int32)) % ((6 : Int32) - Int32.ofNat F) = Int32.ofNat T ∧ F ≤ T ∧ T ≤ 5 := by
  have h1 := own_mk ((a.toUInt32 >>> ((3 : Int32) &&& 31).toUInt32).toInt32) (k := 7) (n := 7) (by decide) (by decide)
  have q := own_rem h1.1 (b := (6 : Int32) - Int32.ofNat F) (by rw [own_6F h]; omega)
  rw [own_6F h] at q
  obtain ⟨n, e1, e2, e3⟩ := own_nat q.1
  rw [e3] at q
  exact ⟨F + n, by rw [e1, Int32.ofNat_add], by omega, by omega⟩
theorem d_method_2_0 : decode method_2_code 0 = .ok (.iload_n 1, 1) := by decide +kernel
theorem d_method_2_1 : decode method_2_code 1 = .ok (.iload_n 2, 1) := by decide +kernel
theorem d_method_2_2 : decode method_2_code 2 = .ok (.if_icmp .lt 41, 3) := by decide +kernel
theorem d_method_2_43 : decode method_2_code 43 = .ok (.return_, 1) := by decide +kernel
theorem d_method_2_5 : decode method_2_code 5 = .ok (.iload_n 1, 1) := by decide +kernel
theorem d_method_2_6 : decode method_2_code 6 = .ok (.iconst 1, 1) := by decide +kernel
theorem d_method_2_7 : decode method_2_code 7 = .ok (.iadd, 1) := by decide +kernel
theorem d_method_2_8 : decode method_2_code 8 = .ok (.iload_n 3, 1) := by decide +kernel
theorem d_method_2_9 : decode method_2_code 9 = .ok (.if_icmp .ge 34, 3) := by decide +kernel
theorem d_method_2_12 : decode method_2_code 12 = .ok (.aload_n 0, 1) := by decide +kernel
theorem d_method_2_13 : decode method_2_code 13 = .ok (.iload_n 1, 1) := by decide +kernel
theorem d_method_2_14 : decode method_2_code 14 = .ok (.iaload, 1) := by decide +kernel
theorem d_method_2_15 : decode method_2_code 15 = .ok (.aload_n 0, 1) := by decide +kernel
theorem d_method_2_16 : decode method_2_code 16 = .ok (.iload_n 1, 1) := by decide +kernel
theorem d_method_2_17 : decode method_2_code 17 = .ok (.iconst 1, 1) := by decide +kernel
theorem d_method_2_18 : decode method_2_code 18 = .ok (.iadd, 1) := by decide +kernel
theorem d_method_2_19 : decode method_2_code 19 = .ok (.iaload, 1) := by decide +kernel
theorem d_method_2_20 : decode method_2_code 20 = .ok (.if_icmp .le 23, 3) := by decide +kernel
theorem d_method_2_23 : decode method_2_code 23 = .ok (.aload_n 0, 1) := by decide +kernel
theorem d_method_2_24 : decode method_2_code 24 = .ok (.iload_n 1, 1) := by decide +kernel
theorem d_method_2_25 : decode method_2_code 25 = .ok (.iaload, 1) := by decide +kernel
theorem d_method_2_26 : decode method_2_code 26 = .ok (.istore 4, 2) := by decide +kernel
theorem d_method_2_28 : decode method_2_code 28 = .ok (.aload_n 0, 1) := by decide +kernel
theorem d_method_2_29 : decode method_2_code 29 = .ok (.iload_n 1, 1) := by decide +kernel
theorem d_method_2_30 : decode method_2_code 30 = .ok (.aload_n 0, 1) := by decide +kernel
theorem d_method_2_31 : decode method_2_code 31 = .ok (.iload_n 1, 1) := by decide +kernel
theorem d_method_2_32 : decode method_2_code 32 = .ok (.iconst 1, 1) := by decide +kernel
theorem d_method_2_33 : decode method_2_code 33 = .ok (.iadd, 1) := by decide +kernel
theorem d_method_2_34 : decode method_2_code 34 = .ok (.iaload, 1) := by decide +kernel
theorem d_method_2_35 : decode method_2_code 35 = .ok (.iastore, 1) := by decide +kernel
theorem d_method_2_36 : decode method_2_code 36 = .ok (.aload_n 0, 1) := by decide +kernel
theorem d_method_2_37 : decode method_2_code 37 = .ok (.iload_n 1, 1) := by decide +kernel
theorem d_method_2_38 : decode method_2_code 38 = .ok (.iconst 1, 1) := by decide +kernel
theorem d_method_2_39 : decode method_2_code 39 = .ok (.iadd, 1) := by decide +kernel
theorem d_method_2_40 : decode method_2_code 40 = .ok (.iload 4, 2) := by decide +kernel
theorem d_method_2_42 : decode method_2_code 42 = .ok (.iastore, 1) := by decide +kernel
theorem pn_0 : plainName "com/example/numtrie/numtrie/index/FieldTermsInsertionSortPinLaw" = true := by first | (simp [plainName, overriddenIn]; done) | decide +kernel
theorem ef_rmX (m : MethodId) (a : Addr) (ii : Int32) (fF : Int32) (fT : Int32) : entryFrame m #[(.ref a), (.int ii), (.int fF), (.int fT)] 5 = mkF m 0 #[.val (.ref a), .val (.int ii), .val (.int fF), .val (.int fT), .unset] [] := by first | (simp [entryFrame, mkF, argsToLocals, Value.category]; done) | rfl
set_option maxRecDepth 65536 in
set_option maxHeartbeats 40000000 in
theorem rmX (l : Launch) (Z : State) (a0 : Array Value) (hw : ∀ d ∈ tables_1, d.before a0 Z = true) (a : Addr) (ii : Int32) (fF : Int32) (fT : Int32) (i F T : Nat) (f : Nat → Int32) (h0 : Heap) (n0 : Nat) (Z0 : n0 ≤ h0.size) (hi : ii = Int32.ofNat i) (hF : fF = Int32.ofNat F) (hT : fT = Int32.ofNat T) (hi4 : i < 4) (hF5 : F ≤ 5) (hT5 : T ≤ 5) (Va : Ary Z h0 a .int Value.int 5 f) (Ga : n0 ≤ a) :
    Ct l (⟨"com/example/numtrie/numtrie/index/FieldTermsInsertionSortPinLaw", "cx", "([IIII)V"⟩ : MethodName) method_2_code 5 none [] ({ frames := 0, cells := 0, slots := 0, locals := 0 } : Room) Z #[(.ref a), (.int ii), (.int fF), (.int fT)] h0 (fun v h L => v = none ∧ Fr n0 L ∧ Keep h0 h [a] ∧ Ary Z h a .int Value.int 5 (own_cx F T i f)) := by
  refine Ct.of (plainFor_of_name pn_0) (fun m => ef_rmX m a ii fF fT) ?_
  intro p e s m below meth c T0 X0 hx hby hml hret hlk hown hnm hZ e0 P hP
  subst hi hF hT
  refine Go.st (fun _ kt => XS.iloadN X0.here hx rfl (hb hby d_method_2_0) rfl (XS.iloadN X0.here hx rfl (hb hby d_method_2_1) rfl kt)) ?_
  show Go p e below P (T0.setTop (mkF m 2 #[.val (.ref a), .val (.int (Int32.ofNat i)), .val (.int (Int32.ofNat F)), .val (.int (Int32.ofNat T)), .unset] [(.int (Int32.ofNat F)), (.int (Int32.ofNat i))]))
  by_cases br1 : (Int32.ofNat i) < (Int32.ofNat F)
  · refine Go.st (fun _ kt => XS.icmpYes X0.here hx rfl (pc0 := 2) (pc' := 43) rfl (hb hby d_method_2_2) rfl (tlt br1).1 (by decide) (by decide) kt) ?_
    show Go p e below P (T0.setTop (mkF m 43 #[.val (.ref a), .val (.int (Int32.ofNat i)), .val (.int (Int32.ofNat F)), .val (.int (Int32.ofNat T)), .unset] []))
    exact goV X0 hx hret hlk (hb hby d_method_2_43) hP (by decide) (by decide) (by rw [e0]; exact ⟨rfl, (Fr.nil n0), (Keep.refl h0 [a]), (by rw [own_ltN (by omega) (by omega)] at br1; rw [own_cx_f (by omega)]; exact Va)⟩)
  · refine Go.st (fun _ kt => XS.icmpNo X0.here hx rfl (hb hby d_method_2_2) rfl (flt br1).1 kt) ?_
    show Go p e below P (T0.setTop (mkF m 5 #[.val (.ref a), .val (.int (Int32.ofNat i)), .val (.int (Int32.ofNat F)), .val (.int (Int32.ofNat T)), .unset] []))
    refine Go.st (fun _ kt => XS.iloadN X0.here hx rfl (hb hby d_method_2_5) rfl (XS.iconst X0.here hx rfl (hb hby d_method_2_6) (XS.iadd X0.here hx rfl (hb hby d_method_2_7) rfl (XS.iloadN X0.here hx rfl (hb hby d_method_2_8) rfl kt)))) ?_
    show Go p e below P (T0.setTop (mkF m 9 #[.val (.ref a), .val (.int (Int32.ofNat i)), .val (.int (Int32.ofNat F)), .val (.int (Int32.ofNat T)), .unset] [(.int (Int32.ofNat T)), (.int ((Int32.ofNat i) + (1 : Int32)))]))
    by_cases br2 : ((Int32.ofNat i) + (1 : Int32)) < (Int32.ofNat T)
    · refine Go.st (fun _ kt => XS.icmpNo X0.here hx rfl (hb hby d_method_2_9) rfl (tlt br2).2.1 kt) ?_
      show Go p e below P (T0.setTop (mkF m 12 #[.val (.ref a), .val (.int (Int32.ofNat i)), .val (.int (Int32.ofNat F)), .val (.int (Int32.ofNat T)), .unset] []))
      refine Go.st (fun _ kt => XS.aloadN X0.here hx rfl (hb hby d_method_2_12) rfl rfl (XS.iloadN X0.here hx rfl (hb hby d_method_2_13) rfl (aryLdI X0 hx hZ e0 Va (j := (Int32.ofNat i)) (i := i) (isN_ofNat (by omega)) (by omega) (g := (mkF m 14 #[.val (.ref a), .val (.int (Int32.ofNat i)), .val (.int (Int32.ofNat F)), .val (.int (Int32.ofNat T)), .unset] [(.int (Int32.ofNat i)), (.ref a)])) rfl rfl (hb hby d_method_2_14) _ (XS.aloadN X0.here hx rfl (hb hby d_method_2_15) rfl rfl (XS.iloadN X0.here hx rfl (hb hby d_method_2_16) rfl (XS.iconst X0.here hx rfl (hb hby d_method_2_17) (XS.iadd X0.here hx rfl (hb hby d_method_2_18) rfl (aryLdI X0 hx hZ e0 Va (j := ((Int32.ofNat i) + (1 : Int32))) (i := (i + 1)) (by rw [own_succ]; exact isN_ofNat (by omega)) (by omega) (g := (mkF m 19 #[.val (.ref a), .val (.int (Int32.ofNat i)), .val (.int (Int32.ofNat F)), .val (.int (Int32.ofNat T)), .unset] [(.int ((Int32.ofNat i) + (1 : Int32))), (.ref a), (.int (f i))])) rfl rfl (hb hby d_method_2_19) _ kt)))))))) ?_
      show Go p e below P (T0.setTop (mkF m 20 #[.val (.ref a), .val (.int (Int32.ofNat i)), .val (.int (Int32.ofNat F)), .val (.int (Int32.ofNat T)), .unset] [(.int (f (i + 1))), (.int (f i))]))
      by_cases br3 : (f (i + 1)) < (f i)
      · refine Go.st (fun _ kt => XS.icmpNo X0.here hx rfl (hb hby d_method_2_20) rfl (tlt br3).2.2.2 kt) ?_
        show Go p e below P (T0.setTop (mkF m 23 #[.val (.ref a), .val (.int (Int32.ofNat i)), .val (.int (Int32.ofNat F)), .val (.int (Int32.ofNat T)), .unset] []))
        refine Go.st (fun _ kt => XS.aloadN X0.here hx rfl (hb hby d_method_2_23) rfl rfl (XS.iloadN X0.here hx rfl (hb hby d_method_2_24) rfl (aryLdI X0 hx hZ e0 Va (j := (Int32.ofNat i)) (i := i) (isN_ofNat (by omega)) (by omega) (g := (mkF m 25 #[.val (.ref a), .val (.int (Int32.ofNat i)), .val (.int (Int32.ofNat F)), .val (.int (Int32.ofNat T)), .unset] [(.int (Int32.ofNat i)), (.ref a)])) rfl rfl (hb hby d_method_2_25) _ (XS.istore X0.here hx rfl (hb hby d_method_2_26) rfl (l' := #[.val (.ref a), .val (.int (Int32.ofNat i)), .val (.int (Int32.ofNat F)), .val (.int (Int32.ofNat T)), .val (.int (f i))]) rfl (XS.aloadN X0.here hx rfl (hb hby d_method_2_28) rfl rfl (XS.iloadN X0.here hx rfl (hb hby d_method_2_29) rfl (XS.aloadN X0.here hx rfl (hb hby d_method_2_30) rfl rfl (XS.iloadN X0.here hx rfl (hb hby d_method_2_31) rfl kt)))))))) ?_
        show Go p e below P (T0.setTop (mkF m 32 #[.val (.ref a), .val (.int (Int32.ofNat i)), .val (.int (Int32.ofNat F)), .val (.int (Int32.ofNat T)), .val (.int (f i))] [(.int (Int32.ofNat i)), (.ref a), (.int (Int32.ofNat i)), (.ref a)]))
        refine Go.st (fun _ kt => XS.iconst X0.here hx rfl (hb hby d_method_2_32) (XS.iadd X0.here hx rfl (hb hby d_method_2_33) rfl (aryLdI X0 hx hZ e0 Va (j := ((Int32.ofNat i) + (1 : Int32))) (i := (i + 1)) (by rw [own_succ]; exact isN_ofNat (by omega)) (by omega) (g := (mkF m 34 #[.val (.ref a), .val (.int (Int32.ofNat i)), .val (.int (Int32.ofNat F)), .val (.int (Int32.ofNat T)), .val (.int (f i))] [(.int ((Int32.ofNat i) + (1 : Int32))), (.ref a), (.int (Int32.ofNat i)), (.ref a)])) rfl rfl (hb hby d_method_2_34) _ kt))) ?_
        show Go p e below P (T0.setTop (mkF m 35 #[.val (.ref a), .val (.int (Int32.ofNat i)), .val (.int (Int32.ofNat F)), .val (.int (Int32.ofNat T)), .val (.int (f i))] [(.int (f (i + 1))), (.int (Int32.ofNat i)), (.ref a)]))
        obtain ⟨T4, h4, X4, e4, W4, V4, st4⟩ := aryStI X0 hx hZ e0 Va (j := (Int32.ofNat i)) (x := (f (i + 1))) (i := i) (isN_ofNat (by omega)) (by omega) (g := (mkF m 35 #[.val (.ref a), .val (.int (Int32.ofNat i)), .val (.int (Int32.ofNat F)), .val (.int (Int32.ofNat T)), .val (.int (f i))] [(.int (f (i + 1))), (.int (Int32.ofNat i)), (.ref a)])) rfl rfl (hb hby d_method_2_35)
        have K5 := Keep.wr (Keep.refl h0 [a]) W4 (Or.inl (List.mem_of_getElem? (i := 0) rfl))
        have Z6 : n0 ≤ h4.size := by rw [W4.size]; exact Z0
        have N7 := Fr.snoc X4 (Fr.nil n0) Ga
        refine Go.st st4 ?_
        show Go p e below P (T4.setTop (mkF m 36 #[.val (.ref a), .val (.int (Int32.ofNat i)), .val (.int (Int32.ofNat F)), .val (.int (Int32.ofNat T)), .val (.int (f i))] []))
        refine Go.st (fun _ kt => XS.aloadN X4.here hx rfl (hb hby d_method_2_36) rfl rfl (XS.iloadN X4.here hx rfl (hb hby d_method_2_37) rfl (XS.iconst X4.here hx rfl (hb hby d_method_2_38) (XS.iadd X4.here hx rfl (hb hby d_method_2_39) rfl (XS.iload X4.here hx rfl (hb hby d_method_2_40) rfl kt))))) ?_
        show Go p e below P (T4.setTop (mkF m 42 #[.val (.ref a), .val (.int (Int32.ofNat i)), .val (.int (Int32.ofNat F)), .val (.int (Int32.ofNat T)), .val (.int (f i))] [(.int (f i)), (.int ((Int32.ofNat i) + (1 : Int32))), (.ref a)]))
        obtain ⟨T8, h8, X8, e8, W8, V8, st8⟩ := aryStI X4 hx hZ e4 V4 (j := ((Int32.ofNat i) + (1 : Int32))) (x := (f i)) (i := (i + 1)) (by rw [own_succ]; exact isN_ofNat (by omega)) (by omega) (g := (mkF m 42 #[.val (.ref a), .val (.int (Int32.ofNat i)), .val (.int (Int32.ofNat F)), .val (.int (Int32.ofNat T)), .val (.int (f i))] [(.int (f i)), (.int ((Int32.ofNat i) + (1 : Int32))), (.ref a)])) rfl rfl (hb hby d_method_2_42)
        have K9 := Keep.wr K5 W8 (Or.inl (List.mem_of_getElem? (i := 0) rfl))
        have Z10 : n0 ≤ h8.size := by rw [W8.size]; exact Z6
        have N11 := Fr.snoc X8 N7 Ga
        refine Go.st st8 ?_
        show Go p e below P (T8.setTop (mkF m 43 #[.val (.ref a), .val (.int (Int32.ofNat i)), .val (.int (Int32.ofNat F)), .val (.int (Int32.ofNat T)), .val (.int (f i))] []))
        exact goV X8 hx hret hlk (hb hby d_method_2_43) hP (by decide) (by decide) (by rw [e8]; exact ⟨rfl, N11, K9, (by rw [own_ltN (by omega) (by omega)] at br1; rw [own_succ, own_ltN (by omega) (by omega)] at br2; rw [Int32.lt_iff_toInt_lt] at br3; rw [own_cx_t (by omega)]; exact V8)⟩)
      · refine Go.st (fun _ kt => XS.icmpYes X0.here hx rfl (pc0 := 20) (pc' := 43) rfl (hb hby d_method_2_20) rfl (flt br3).2.2.2 (by decide) (by decide) kt) ?_
        show Go p e below P (T0.setTop (mkF m 43 #[.val (.ref a), .val (.int (Int32.ofNat i)), .val (.int (Int32.ofNat F)), .val (.int (Int32.ofNat T)), .unset] []))
        exact goV X0 hx hret hlk (hb hby d_method_2_43) hP (by decide) (by decide) (by rw [e0]; exact ⟨rfl, (Fr.nil n0), (Keep.refl h0 [a]), (by rw [own_ltN (by omega) (by omega)] at br1; rw [own_succ, own_ltN (by omega) (by omega)] at br2; rw [Int32.lt_iff_toInt_lt] at br3; rw [own_cx_f (by omega)]; exact Va)⟩)
    · refine Go.st (fun _ kt => XS.icmpYes X0.here hx rfl (pc0 := 9) (pc' := 43) rfl (hb hby d_method_2_9) rfl (flt br2).2.1 (by decide) (by decide) kt) ?_
      show Go p e below P (T0.setTop (mkF m 43 #[.val (.ref a), .val (.int (Int32.ofNat i)), .val (.int (Int32.ofNat F)), .val (.int (Int32.ofNat T)), .unset] []))
      exact goV X0 hx hret hlk (hb hby d_method_2_43) hP (by decide) (by decide) (by rw [e0]; exact ⟨rfl, (Fr.nil n0), (Keep.refl h0 [a]), (by rw [own_ltN (by omega) (by omega)] at br1; rw [own_succ, own_ltN (by omega) (by omega)] at br2; rw [own_cx_f (by omega)]; exact Va)⟩)
theorem d_prog_83_method_18_4 : decode prog_83_method_18_code 4 = .ok (.iload_n 3, 1) := by decide +kernel
theorem d_prog_83_method_18_5 : decode prog_83_method_18_code 5 = .ok (.iload_n 2, 1) := by decide +kernel
theorem d_prog_83_method_18_6 : decode prog_83_method_18_code 6 = .ok (.if_icmp .ge 58, 3) := by decide +kernel
theorem d_prog_83_method_18_64 : decode prog_83_method_18_code 64 = .ok (.return_, 1) := by decide +kernel
theorem d_prog_83_method_18_50 : decode prog_83_method_18_code 50 = .ok (.aload_n 0, 1) := by decide +kernel
theorem d_prog_83_method_18_51 : decode prog_83_method_18_code 51 = .ok (.iload 5, 2) := by decide +kernel
theorem d_prog_83_method_18_53 : decode prog_83_method_18_code 53 = .ok (.iconst 1, 1) := by decide +kernel
theorem d_prog_83_method_18_54 : decode prog_83_method_18_code 54 = .ok (.iadd, 1) := by decide +kernel
theorem d_prog_83_method_18_55 : decode prog_83_method_18_code 55 = .ok (.iload 4, 2) := by decide +kernel
theorem d_prog_83_method_18_57 : decode prog_83_method_18_code 57 = .ok (.iastore, 1) := by decide +kernel
theorem d_prog_83_method_18_58 : decode prog_83_method_18_code 58 = .ok (.iinc 3 1, 3) := by decide +kernel
theorem d_prog_83_method_18_61 : decode prog_83_method_18_code 61 = .ok (.goto (-57), 3) := by decide +kernel
theorem d_prog_83_method_18_19 : decode prog_83_method_18_code 19 = .ok (.iload 5, 2) := by decide +kernel
theorem d_prog_83_method_18_21 : decode prog_83_method_18_code 21 = .ok (.iload_n 1, 1) := by decide +kernel
theorem d_prog_83_method_18_22 : decode prog_83_method_18_code 22 = .ok (.if_icmp .lt 28, 3) := by decide +kernel
theorem d_prog_83_method_18_25 : decode prog_83_method_18_code 25 = .ok (.aload_n 0, 1) := by decide +kernel
theorem d_prog_83_method_18_26 : decode prog_83_method_18_code 26 = .ok (.iload 5, 2) := by decide +kernel
theorem d_prog_83_method_18_28 : decode prog_83_method_18_code 28 = .ok (.iaload, 1) := by decide +kernel
theorem d_prog_83_method_18_29 : decode prog_83_method_18_code 29 = .ok (.iload 4, 2) := by decide +kernel
theorem d_prog_83_method_18_31 : decode prog_83_method_18_code 31 = .ok (.if_icmp .le 19, 3) := by decide +kernel
theorem d_prog_83_method_18_34 : decode prog_83_method_18_code 34 = .ok (.aload_n 0, 1) := by decide +kernel
theorem d_prog_83_method_18_35 : decode prog_83_method_18_code 35 = .ok (.iload 5, 2) := by decide +kernel
theorem d_prog_83_method_18_37 : decode prog_83_method_18_code 37 = .ok (.iconst 1, 1) := by decide +kernel
theorem d_prog_83_method_18_38 : decode prog_83_method_18_code 38 = .ok (.iadd, 1) := by decide +kernel
theorem d_prog_83_method_18_39 : decode prog_83_method_18_code 39 = .ok (.aload_n 0, 1) := by decide +kernel
theorem d_prog_83_method_18_40 : decode prog_83_method_18_code 40 = .ok (.iload 5, 2) := by decide +kernel
theorem d_prog_83_method_18_42 : decode prog_83_method_18_code 42 = .ok (.iaload, 1) := by decide +kernel
theorem d_prog_83_method_18_43 : decode prog_83_method_18_code 43 = .ok (.iastore, 1) := by decide +kernel
theorem d_prog_83_method_18_44 : decode prog_83_method_18_code 44 = .ok (.iinc 5 (-1), 3) := by decide +kernel
theorem d_prog_83_method_18_47 : decode prog_83_method_18_code 47 = .ok (.goto (-28), 3) := by decide +kernel
theorem d_prog_83_method_18_9 : decode prog_83_method_18_code 9 = .ok (.aload_n 0, 1) := by decide +kernel
theorem d_prog_83_method_18_10 : decode prog_83_method_18_code 10 = .ok (.iload_n 3, 1) := by decide +kernel
theorem d_prog_83_method_18_11 : decode prog_83_method_18_code 11 = .ok (.iaload, 1) := by decide +kernel
theorem d_prog_83_method_18_12 : decode prog_83_method_18_code 12 = .ok (.istore 4, 2) := by decide +kernel
theorem d_prog_83_method_18_14 : decode prog_83_method_18_code 14 = .ok (.iload_n 3, 1) := by decide +kernel
theorem d_prog_83_method_18_15 : decode prog_83_method_18_code 15 = .ok (.iconst 1, 1) := by decide +kernel
theorem d_prog_83_method_18_16 : decode prog_83_method_18_code 16 = .ok (.isub, 1) := by decide +kernel
theorem d_prog_83_method_18_17 : decode prog_83_method_18_code 17 = .ok (.istore 5, 2) := by decide +kernel
theorem d_prog_83_method_18_0 : decode prog_83_method_18_code 0 = .ok (.iload_n 1, 1) := by decide +kernel
theorem d_prog_83_method_18_1 : decode prog_83_method_18_code 1 = .ok (.iconst 1, 1) := by decide +kernel
theorem d_prog_83_method_18_2 : decode prog_83_method_18_code 2 = .ok (.iadd, 1) := by decide +kernel
theorem d_prog_83_method_18_3 : decode prog_83_method_18_code 3 = .ok (.istore_n 3, 1) := by decide +kernel
theorem pn_1 : plainName "com/example/numtrie/numtrie/index/FieldTerms" = true := by first | (simp [plainName, overriddenIn]; done) | decide +kernel
theorem ef_rmS (m : MethodId) (a : Addr) (fF : Int32) (fT : Int32) : entryFrame m #[(.ref a), (.int fF), (.int fT)] 6 = mkF m 0 #[.val (.ref a), .val (.int fF), .val (.int fT), .unset, .unset, .unset] [] := by first | (simp [entryFrame, mkF, argsToLocals, Value.category]; done) | rfl
set_option maxRecDepth 65536 in
set_option maxHeartbeats 40000000 in
theorem rmS (l : Launch) (Z : State) (a0 : Array Value) (hw : ∀ d ∈ tables_1, d.before a0 Z = true) (a : Addr) (fF : Int32) (fT : Int32) (F T : Nat) (f0 : Nat → Int32) (h0 : Heap) (n0 : Nat) (Z0 : n0 ≤ h0.size) (hF : fF = Int32.ofNat F) (hT : fT = Int32.ofNat T) (hFT : F ≤ T) (hT5 : T ≤ 5) (Va : Ary Z h0 a .int Value.int 5 f0) (Ga : n0 ≤ a) :
    Ct l (⟨"com/example/numtrie/numtrie/index/FieldTerms", "insertionSort", "([III)V"⟩ : MethodName) prog_83_method_18_code 6 none [] ({ frames := 0, cells := 0, slots := 0, locals := 0 } : Room) Z #[(.ref a), (.int fF), (.int fT)] h0 (fun v h L => v = none ∧ Fr n0 L ∧ Keep h0 h [a] ∧ ∃ G, Ary Z h a .int Value.int 5 G ∧ own_S F T f0 G) := by
  refine Ct.of (plainFor_of_name pn_1) (fun m => ef_rmS m a fF fT) ?_
  intro p e s m below meth c T0 X0 hx hby hml hret hlk hown hnm hZ e0 P hP
  subst hF hT
  have loop1 : ∀ (d : Nat) (T2 : State) (Lk2 : List Loc) (i : Nat) (f : Nat → Int32) (o4 o5 : Slot), Stand p l e ({ frames := 0, cells := 0, slots := 0, locals := 0 } : Room) s m #[(.ref a), (.int (Int32.ofNat F)), (.int (Int32.ofNat T))] below meth c T2 Lk2 0 0 → Fr n0 Lk2 → n0 ≤ T2.heap.size → Ary Z T2.heap a .int Value.int 5 f → Keep h0 T2.heap [a] → i + d = T → F + 1 ≤ i → (∀ a b, F ≤ a → a < b → b < i → (f a).toInt ≤ (f b).toInt) → (∀ k, k < 5 → (k < F ∨ i ≤ k) → f k = f0 k) → (∀ v, own_cnt f v = own_cnt f0 v) → (o4 = .unset ∨ ∃ w, o4 = .val w ∧ w.category = 1) → (o5 = .unset ∨ ∃ w, o5 = .val w ∧ w.category = 1) → Go p e below P (T2.setTop (mkF m 4 #[.val (.ref a), .val (.int (Int32.ofNat F)), .val (.int (Int32.ofNat T)), .val (.int (Int32.ofNat i)), o4, o5] [])) := by
    intro d
    induction d with
    | zero =>
      intro T2 Lk2 i f o4 o5 X2 N2 Z2 fc2_0 fc2_1 hid hFi hso hou hcn ho4 ho5
      show Go p e below P (T2.setTop (mkF m 4 #[.val (.ref a), .val (.int (Int32.ofNat F)), .val (.int (Int32.ofNat T)), .val (.int (Int32.ofNat i)), o4, o5] []))
      refine Go.st (fun _ kt => XS.iloadN X2.here hx rfl (hb hby d_prog_83_method_18_4) rfl (XS.iloadN X2.here hx rfl (hb hby d_prog_83_method_18_5) rfl (XS.icmpYes X2.here hx rfl (pc0 := 6) (pc' := 64) rfl (hb hby d_prog_83_method_18_6) rfl (flt (fun q => by rw [own_ltN (by omega) (by omega)] at q; omega)).2.1 (by decide) (by decide) kt))) ?_
      show Go p e below P (T2.setTop (mkF m 64 #[.val (.ref a), .val (.int (Int32.ofNat F)), .val (.int (Int32.ofNat T)), .val (.int (Int32.ofNat i)), o4, o5] []))
      exact goV X2 hx hret hlk (hb hby d_prog_83_method_18_64) hP (by decide) (by decide) ⟨rfl, N2, fc2_1, f, fc2_0, fun a b h1 h2 h3 => hso a b h1 h2 (by omega), fun k h1 h2 => hou k h1 (by omega), hcn⟩
    | succ d ih2 =>
      intro T2 Lk2 i f o4 o5 X2 N2 Z2 fc2_0 fc2_1 hid hFi hso hou hcn ho4 ho5
      show Go p e below P (T2.setTop (mkF m 4 #[.val (.ref a), .val (.int (Int32.ofNat F)), .val (.int (Int32.ofNat T)), .val (.int (Int32.ofNat i)), o4, o5] []))
      have cut3 : ∀ (T4 : State) (Lk4 : List Loc) (pp : Nat) (f' hh : Nat → Int32), Stand p l e ({ frames := 0, cells := 0, slots := 0, locals := 0 } : Room) s m #[(.ref a), (.int (Int32.ofNat F)), (.int (Int32.ofNat T))] below meth c T4 Lk4 0 0 → Fr n0 Lk4 → n0 ≤ T4.heap.size → Ary Z T4.heap a .int Value.int 5 f' → Keep h0 T4.heap [a] → F ≤ pp → pp ≤ i → (pp = F ∨ (hh (pp - 1)).toInt ≤ (hh pp).toInt) → own_ins F i pp hh → (∀ k, k < 5 → k ≠ pp → f' k = hh k) → (∀ k, k < 5 → (k < F ∨ i + 1 ≤ k) → hh k = f0 k) → (∀ v, own_cnt hh v = own_cnt f0 v) → Go p e below P (T4.setTop (mkF m 50 #[.val (.ref a), .val (.int (Int32.ofNat F)), .val (.int (Int32.ofNat T)), .val (.int (Int32.ofNat i)), .val (.int (hh pp)), .val (.int (Int32.ofNat pp - (1 : Int32)))] [])) := by
        intro T4 Lk4 pp f' hh X4 N4 Z4 fc4_0 fc4_1 hFp hpi hst hin hfh hou' hcn'
        have hpe : ∀ k, k < 5 → updN f' pp (hh pp) k = hh k := fun k hk => by
          by_cases e : k = pp
          · subst e; rw [updN_hit]
          · rw [updN_miss e]; exact hfh k hk e
        refine Go.st (fun _ kt => XS.aloadN X4.here hx rfl (hb hby d_prog_83_method_18_50) rfl rfl (XS.iload X4.here hx rfl (hb hby d_prog_83_method_18_51) rfl (XS.iconst X4.here hx rfl (hb hby d_prog_83_method_18_53) (XS.iadd X4.here hx rfl (hb hby d_prog_83_method_18_54) rfl (XS.iload X4.here hx rfl (hb hby d_prog_83_method_18_55) rfl kt))))) ?_
        show Go p e below P (T4.setTop (mkF m 57 #[.val (.ref a), .val (.int (Int32.ofNat F)), .val (.int (Int32.ofNat T)), .val (.int (Int32.ofNat i)), .val (.int (hh pp)), .val (.int (Int32.ofNat pp - (1 : Int32)))] [(.int (hh pp)), (.int ((Int32.ofNat pp - (1 : Int32)) + (1 : Int32))), (.ref a)]))
        obtain ⟨T5, h5, X5, e5, W5, V5, st5⟩ := aryStI X4 hx hZ rfl fc4_0 (j := ((Int32.ofNat pp - (1 : Int32)) + (1 : Int32))) (x := (hh pp)) (i := pp) (by rw [own_back]; exact isN_ofNat (by omega)) (by omega) (g := (mkF m 57 #[.val (.ref a), .val (.int (Int32.ofNat F)), .val (.int (Int32.ofNat T)), .val (.int (Int32.ofNat i)), .val (.int (hh pp)), .val (.int (Int32.ofNat pp - (1 : Int32)))] [(.int (hh pp)), (.int ((Int32.ofNat pp - (1 : Int32)) + (1 : Int32))), (.ref a)])) rfl rfl (hb hby d_prog_83_method_18_57)
        have K6 := Keep.wr fc4_1 W5 (Or.inl (List.mem_of_getElem? (i := 0) rfl))
        have Z7 : n0 ≤ h5.size := by rw [W5.size]; exact Z4
        have N8 := Fr.snoc X5 N4 Ga
        refine Go.st st5 ?_
        show Go p e below P (T5.setTop (mkF m 58 #[.val (.ref a), .val (.int (Int32.ofNat F)), .val (.int (Int32.ofNat T)), .val (.int (Int32.ofNat i)), .val (.int (hh pp)), .val (.int (Int32.ofNat pp - (1 : Int32)))] []))
        refine Go.st (fun _ kt => XS.iinc X5.here hx rfl (hb hby d_prog_83_method_18_58) rfl (l' := #[.val (.ref a), .val (.int (Int32.ofNat F)), .val (.int (Int32.ofNat T)), .val (.int ((Int32.ofNat i) + (1 : Int32))), .val (.int (hh pp)), .val (.int (Int32.ofNat pp - (1 : Int32)))]) rfl (XS.goto X5.here hx rfl (pc0 := 61) (pc' := 4) rfl (hb hby d_prog_83_method_18_61) (by decide) (by decide) kt)) ?_
        show Go p e below P (T5.setTop (mkF m 4 #[.val (.ref a), .val (.int (Int32.ofNat F)), .val (.int (Int32.ofNat T)), .val (.int ((Int32.ofNat i) + (1 : Int32))), .val (.int (hh pp)), .val (.int (Int32.ofNat pp - (1 : Int32)))] []))
        rw [own_succ]
        exact ih2  _ _ (i + 1) (updN f' pp (hh pp)) _ _ (X5.more (by decide) (by decide)) N8 (by rw [e5]; exact Z7) (by rw [e5]; exact V5) (by rw [e5]; exact K6) (by omega) (by omega) (fun a b h1 h2 h3 => by rw [hpe a (by omega), hpe b (by omega)]; exact own_ins_end hin hFp hpi hst a b h1 h2 (by omega)) (fun k h1 h2 => by rw [hpe k h1]; exact hou' k h1 (by omega)) (fun v => by rw [own_cnt_congr hpe]; exact hcn' v) (Or.inr ⟨_, rfl, rfl⟩) (Or.inr ⟨_, rfl, rfl⟩)
      have loop9 : ∀ (pp : Nat) (T10 : State) (Lk10 : List Loc) (f' hh : Nat → Int32), Stand p l e ({ frames := 0, cells := 0, slots := 0, locals := 0 } : Room) s m #[(.ref a), (.int (Int32.ofNat F)), (.int (Int32.ofNat T))] below meth c T10 Lk10 0 0 → Fr n0 Lk10 → n0 ≤ T10.heap.size → Ary Z T10.heap a .int Value.int 5 f' → Keep h0 T10.heap [a] → F ≤ pp → pp ≤ i → own_ins F i pp hh → (∀ k, k < 5 → k ≠ pp → f' k = hh k) → (∀ k, k < 5 → (k < F ∨ i + 1 ≤ k) → hh k = f0 k) → (∀ v, own_cnt hh v = own_cnt f0 v) → Go p e below P (T10.setTop (mkF m 19 #[.val (.ref a), .val (.int (Int32.ofNat F)), .val (.int (Int32.ofNat T)), .val (.int (Int32.ofNat i)), .val (.int (hh pp)), .val (.int (Int32.ofNat pp - (1 : Int32)))] [])) := by
        intro pp
        induction pp with
        | zero =>
          intro T10 Lk10 f' hh X10 N10 Z10 fc10_0 fc10_1 hFp hpi hin hfh hou' hcn'
          show Go p e below P (T10.setTop (mkF m 19 #[.val (.ref a), .val (.int (Int32.ofNat F)), .val (.int (Int32.ofNat T)), .val (.int (Int32.ofNat i)), .val (.int (hh 0)), .val (.int (Int32.ofNat 0 - (1 : Int32)))] []))
          refine Go.st (fun _ kt => XS.iload X10.here hx rfl (hb hby d_prog_83_method_18_19) rfl (XS.iloadN X10.here hx rfl (hb hby d_prog_83_method_18_21) rfl (XS.icmpYes X10.here hx rfl (pc0 := 22) (pc' := 50) rfl (hb hby d_prog_83_method_18_22) rfl (tlt (by rw [Int32.lt_iff_toInt_lt, own_pm (by omega), own_tn (by omega)]; omega)).1 (by decide) (by decide) kt))) ?_
          show Go p e below P (T10.setTop (mkF m 50 #[.val (.ref a), .val (.int (Int32.ofNat F)), .val (.int (Int32.ofNat T)), .val (.int (Int32.ofNat i)), .val (.int (hh 0)), .val (.int (Int32.ofNat 0 - (1 : Int32)))] []))
          exact cut3 _ _ 0 f' hh (X10.more (by decide) (by decide)) N10 Z10 fc10_0 fc10_1 hFp hpi (Or.inl (by omega)) hin hfh hou' hcn'
        | succ pp ih10 =>
          intro T10 Lk10 f' hh X10 N10 Z10 fc10_0 fc10_1 hFp hpi hin hfh hou' hcn'
          show Go p e below P (T10.setTop (mkF m 19 #[.val (.ref a), .val (.int (Int32.ofNat F)), .val (.int (Int32.ofNat T)), .val (.int (Int32.ofNat i)), .val (.int (hh (pp + 1))), .val (.int (Int32.ofNat (pp + 1) - (1 : Int32)))] []))
          refine Go.st (fun _ kt => XS.iload X10.here hx rfl (hb hby d_prog_83_method_18_19) rfl (XS.iloadN X10.here hx rfl (hb hby d_prog_83_method_18_21) rfl kt)) ?_
          show Go p e below P (T10.setTop (mkF m 22 #[.val (.ref a), .val (.int (Int32.ofNat F)), .val (.int (Int32.ofNat T)), .val (.int (Int32.ofNat i)), .val (.int (hh (pp + 1))), .val (.int (Int32.ofNat (pp + 1) - (1 : Int32)))] [(.int (Int32.ofNat F)), (.int (Int32.ofNat (pp + 1) - (1 : Int32)))]))
          by_cases br11 : (Int32.ofNat (pp + 1) - (1 : Int32)) < (Int32.ofNat F)
          · refine Go.st (fun _ kt => XS.icmpYes X10.here hx rfl (pc0 := 22) (pc' := 50) rfl (hb hby d_prog_83_method_18_22) rfl (tlt br11).1 (by decide) (by decide) kt) ?_
            show Go p e below P (T10.setTop (mkF m 50 #[.val (.ref a), .val (.int (Int32.ofNat F)), .val (.int (Int32.ofNat T)), .val (.int (Int32.ofNat i)), .val (.int (hh (pp + 1))), .val (.int (Int32.ofNat (pp + 1) - (1 : Int32)))] []))
            exact cut3 _ _ (pp + 1) f' hh (X10.more (by decide) (by decide)) N10 Z10 fc10_0 fc10_1 hFp hpi (Or.inl (by rw [Int32.lt_iff_toInt_lt, own_pm (by omega), own_tn (by omega)] at br11; omega)) hin hfh hou' hcn'
          · refine Go.st (fun _ kt => XS.icmpNo X10.here hx rfl (hb hby d_prog_83_method_18_22) rfl (flt br11).1 kt) ?_
            show Go p e below P (T10.setTop (mkF m 25 #[.val (.ref a), .val (.int (Int32.ofNat F)), .val (.int (Int32.ofNat T)), .val (.int (Int32.ofNat i)), .val (.int (hh (pp + 1))), .val (.int (Int32.ofNat (pp + 1) - (1 : Int32)))] []))
            refine Go.st (fun _ kt => XS.aloadN X10.here hx rfl (hb hby d_prog_83_method_18_25) rfl rfl (XS.iload X10.here hx rfl (hb hby d_prog_83_method_18_26) rfl (aryLdI X10 hx hZ rfl fc10_0 (j := (Int32.ofNat (pp + 1) - (1 : Int32))) (i := pp) (by rw [own_down]; exact isN_ofNat (by omega)) (by omega) (g := (mkF m 28 #[.val (.ref a), .val (.int (Int32.ofNat F)), .val (.int (Int32.ofNat T)), .val (.int (Int32.ofNat i)), .val (.int (hh (pp + 1))), .val (.int (Int32.ofNat (pp + 1) - (1 : Int32)))] [(.int (Int32.ofNat (pp + 1) - (1 : Int32))), (.ref a)])) rfl rfl (hb hby d_prog_83_method_18_28) _ (XS.iload X10.here hx rfl (hb hby d_prog_83_method_18_29) rfl kt)))) ?_
            show Go p e below P (T10.setTop (mkF m 31 #[.val (.ref a), .val (.int (Int32.ofNat F)), .val (.int (Int32.ofNat T)), .val (.int (Int32.ofNat i)), .val (.int (hh (pp + 1))), .val (.int (Int32.ofNat (pp + 1) - (1 : Int32)))] [(.int (hh (pp + 1))), (.int (f' pp))]))
            by_cases br12 : (hh (pp + 1)) < (f' pp)
            · refine Go.st (fun _ kt => XS.icmpNo X10.here hx rfl (hb hby d_prog_83_method_18_31) rfl (tlt br12).2.2.2 kt) ?_
              show Go p e below P (T10.setTop (mkF m 34 #[.val (.ref a), .val (.int (Int32.ofNat F)), .val (.int (Int32.ofNat T)), .val (.int (Int32.ofNat i)), .val (.int (hh (pp + 1))), .val (.int (Int32.ofNat (pp + 1) - (1 : Int32)))] []))
              refine Go.st (fun _ kt => XS.aloadN X10.here hx rfl (hb hby d_prog_83_method_18_34) rfl rfl (XS.iload X10.here hx rfl (hb hby d_prog_83_method_18_35) rfl (XS.iconst X10.here hx rfl (hb hby d_prog_83_method_18_37) (XS.iadd X10.here hx rfl (hb hby d_prog_83_method_18_38) rfl (XS.aloadN X10.here hx rfl (hb hby d_prog_83_method_18_39) rfl rfl (XS.iload X10.here hx rfl (hb hby d_prog_83_method_18_40) rfl (aryLdI X10 hx hZ rfl fc10_0 (j := (Int32.ofNat (pp + 1) - (1 : Int32))) (i := pp) (by rw [own_down]; exact isN_ofNat (by omega)) (by omega) (g := (mkF m 42 #[.val (.ref a), .val (.int (Int32.ofNat F)), .val (.int (Int32.ofNat T)), .val (.int (Int32.ofNat i)), .val (.int (hh (pp + 1))), .val (.int (Int32.ofNat (pp + 1) - (1 : Int32)))] [(.int (Int32.ofNat (pp + 1) - (1 : Int32))), (.ref a), (.int ((Int32.ofNat (pp + 1) - (1 : Int32)) + (1 : Int32))), (.ref a)])) rfl rfl (hb hby d_prog_83_method_18_42) _ kt))))))) ?_
              show Go p e below P (T10.setTop (mkF m 43 #[.val (.ref a), .val (.int (Int32.ofNat F)), .val (.int (Int32.ofNat T)), .val (.int (Int32.ofNat i)), .val (.int (hh (pp + 1))), .val (.int (Int32.ofNat (pp + 1) - (1 : Int32)))] [(.int (f' pp)), (.int ((Int32.ofNat (pp + 1) - (1 : Int32)) + (1 : Int32))), (.ref a)]))
              obtain ⟨T13, h13, X13, e13, W13, V13, st13⟩ := aryStI X10 hx hZ rfl fc10_0 (j := ((Int32.ofNat (pp + 1) - (1 : Int32)) + (1 : Int32))) (x := (f' pp)) (i := (pp + 1)) (by rw [own_back]; exact isN_ofNat (by omega)) (by omega) (g := (mkF m 43 #[.val (.ref a), .val (.int (Int32.ofNat F)), .val (.int (Int32.ofNat T)), .val (.int (Int32.ofNat i)), .val (.int (hh (pp + 1))), .val (.int (Int32.ofNat (pp + 1) - (1 : Int32)))] [(.int (f' pp)), (.int ((Int32.ofNat (pp + 1) - (1 : Int32)) + (1 : Int32))), (.ref a)])) rfl rfl (hb hby d_prog_83_method_18_43)
              have K14 := Keep.wr fc10_1 W13 (Or.inl (List.mem_of_getElem? (i := 0) rfl))
              have Z15 : n0 ≤ h13.size := by rw [W13.size]; exact Z10
              have N16 := Fr.snoc X13 N10 Ga
              refine Go.st st13 ?_
              show Go p e below P (T13.setTop (mkF m 44 #[.val (.ref a), .val (.int (Int32.ofNat F)), .val (.int (Int32.ofNat T)), .val (.int (Int32.ofNat i)), .val (.int (hh (pp + 1))), .val (.int (Int32.ofNat (pp + 1) - (1 : Int32)))] []))
              refine Go.st (fun _ kt => XS.iinc X13.here hx rfl (hb hby d_prog_83_method_18_44) rfl (l' := #[.val (.ref a), .val (.int (Int32.ofNat F)), .val (.int (Int32.ofNat T)), .val (.int (Int32.ofNat i)), .val (.int (hh (pp + 1))), .val (.int ((Int32.ofNat (pp + 1) - (1 : Int32)) + (-1 : Int32)))]) rfl (XS.goto X13.here hx rfl (pc0 := 47) (pc' := 19) rfl (hb hby d_prog_83_method_18_47) (by decide) (by decide) kt)) ?_
              show Go p e below P (T13.setTop (mkF m 19 #[.val (.ref a), .val (.int (Int32.ofNat F)), .val (.int (Int32.ofNat T)), .val (.int (Int32.ofNat i)), .val (.int (hh (pp + 1))), .val (.int ((Int32.ofNat (pp + 1) - (1 : Int32)) + (-1 : Int32)))] []))
              rw [Int32.lt_iff_toInt_lt, own_pm (by omega), own_tn (by omega)] at br11
              rw [Int32.lt_iff_toInt_lt, hfh pp (by omega) (by omega)] at br12
              rw [own_down, own_down2, show hh (pp + 1) = own_sw hh pp pp from (own_sw_l hh pp).symm]
              exact ih10  _ _ (updN f' (pp + 1) (f' pp)) (own_sw hh pp) (X13.more (by decide) (by decide)) N16 (by rw [e13]; exact Z15) (by rw [e13]; exact V13) (by rw [e13]; exact K14) (by omega) (by omega) (own_ins_step hin (by omega) (by omega) (by omega)) (fun k hk hne => by
                    by_cases e : k = pp + 1
                    · subst e; rw [updN_hit, own_sw_r]; exact hfh pp (by omega) (by omega)
                    · rw [updN_miss e, own_sw_o hh pp k hne e]; exact hfh k hk e) (fun k h1 h2 => by rw [own_sw_o hh pp k (by omega) (by omega)]; exact hou' k h1 h2) (fun v => by rw [own_cnt_sw hh pp (by omega)]; exact hcn' v)
            · refine Go.st (fun _ kt => XS.icmpYes X10.here hx rfl (pc0 := 31) (pc' := 50) rfl (hb hby d_prog_83_method_18_31) rfl (flt br12).2.2.2 (by decide) (by decide) kt) ?_
              show Go p e below P (T10.setTop (mkF m 50 #[.val (.ref a), .val (.int (Int32.ofNat F)), .val (.int (Int32.ofNat T)), .val (.int (Int32.ofNat i)), .val (.int (hh (pp + 1))), .val (.int (Int32.ofNat (pp + 1) - (1 : Int32)))] []))
              exact cut3 _ _ (pp + 1) f' hh (X10.more (by decide) (by decide)) N10 Z10 fc10_0 fc10_1 hFp hpi (Or.inr (by rw [Int32.lt_iff_toInt_lt] at br12; rw [hfh pp (by omega) (by omega)] at br12; show (hh pp).toInt ≤ _; omega)) hin hfh hou' hcn'
      refine Go.st (fun _ kt => XS.iloadN X2.here hx rfl (hb hby d_prog_83_method_18_4) rfl (XS.iloadN X2.here hx rfl (hb hby d_prog_83_method_18_5) rfl (XS.icmpNo X2.here hx rfl (hb hby d_prog_83_method_18_6) rfl (tlt ((own_ltN (by omega) (by omega)).mpr (by omega))).2.1 (XS.aloadN X2.here hx rfl (hb hby d_prog_83_method_18_9) rfl rfl (XS.iloadN X2.here hx rfl (hb hby d_prog_83_method_18_10) rfl (aryLdI X2 hx hZ rfl fc2_0 (j := (Int32.ofNat i)) (i := i) (isN_ofNat (by omega)) (by omega) (g := (mkF m 11 #[.val (.ref a), .val (.int (Int32.ofNat F)), .val (.int (Int32.ofNat T)), .val (.int (Int32.ofNat i)), o4, o5] [(.int (Int32.ofNat i)), (.ref a)])) rfl rfl (hb hby d_prog_83_method_18_11) _ (XS.istore X2.here hx rfl (hb hby d_prog_83_method_18_12) rfl (l' := #[.val (.ref a), .val (.int (Int32.ofNat F)), .val (.int (Int32.ofNat T)), .val (.int (Int32.ofNat i)), .val (.int (f i)), o5]) (XS.store1 rfl ho4 rfl) (XS.iloadN X2.here hx rfl (hb hby d_prog_83_method_18_14) rfl kt)))))))) ?_
      show Go p e below P (T2.setTop (mkF m 15 #[.val (.ref a), .val (.int (Int32.ofNat F)), .val (.int (Int32.ofNat T)), .val (.int (Int32.ofNat i)), .val (.int (f i)), o5] [(.int (Int32.ofNat i))]))
      refine Go.st (fun _ kt => XS.iconst X2.here hx rfl (hb hby d_prog_83_method_18_15) (XS.isub X2.here hx rfl (hb hby d_prog_83_method_18_16) rfl (XS.istore X2.here hx rfl (hb hby d_prog_83_method_18_17) rfl (l' := #[.val (.ref a), .val (.int (Int32.ofNat F)), .val (.int (Int32.ofNat T)), .val (.int (Int32.ofNat i)), .val (.int (f i)), .val (.int ((Int32.ofNat i) - (1 : Int32)))]) (XS.store1 rfl ho5 rfl) kt))) ?_
      show Go p e below P (T2.setTop (mkF m 19 #[.val (.ref a), .val (.int (Int32.ofNat F)), .val (.int (Int32.ofNat T)), .val (.int (Int32.ofNat i)), .val (.int (f i)), .val (.int ((Int32.ofNat i) - (1 : Int32)))] []))
      exact loop9 i _ _ f f (X2.more (by decide) (by decide)) N2 Z2 fc2_0 fc2_1 (by omega) (Nat.le_refl _) (fun a b h1 h2 h3 h4 => hso a b h1 h2 (by omega)) (fun k _ _ => rfl) (fun k h1 h2 => hou k h1 (by omega)) hcn
  by_cases hT1 : F + 1 ≤ T
  · show Go p e below P (T0.setTop (mkF m 0 #[.val (.ref a), .val (.int (Int32.ofNat F)), .val (.int (Int32.ofNat T)), .unset, .unset, .unset] []))
    refine Go.st (fun _ kt => XS.iloadN X0.here hx rfl (hb hby d_prog_83_method_18_0) rfl (XS.iconst X0.here hx rfl (hb hby d_prog_83_method_18_1) (XS.iadd X0.here hx rfl (hb hby d_prog_83_method_18_2) rfl (XS.istoreN X0.here hx rfl (hb hby d_prog_83_method_18_3) rfl (l' := #[.val (.ref a), .val (.int (Int32.ofNat F)), .val (.int (Int32.ofNat T)), .val (.int ((Int32.ofNat F) + (1 : Int32))), .unset, .unset]) rfl kt)))) ?_
    show Go p e below P (T0.setTop (mkF m 4 #[.val (.ref a), .val (.int (Int32.ofNat F)), .val (.int (Int32.ofNat T)), .val (.int ((Int32.ofNat F) + (1 : Int32))), .unset, .unset] []))
    rw [own_succ]
    exact loop1 (T - (F + 1)) _ _ (F + 1) f0 _ _ (X0.more (by decide) (by decide)) (Fr.nil n0) (by rw [e0]; exact Z0) (by rw [e0]; exact Va) (by rw [e0]; exact (Keep.refl h0 [a])) (by omega) (Nat.le_refl _) (fun a b h1 h2 h3 => by omega) (fun k _ _ => rfl) (fun _ => rfl) (Or.inl rfl) (Or.inl rfl)
  · show Go p e below P (T0.setTop (mkF m 0 #[.val (.ref a), .val (.int (Int32.ofNat F)), .val (.int (Int32.ofNat T)), .unset, .unset, .unset] []))
    refine Go.st (fun _ kt => XS.iloadN X0.here hx rfl (hb hby d_prog_83_method_18_0) rfl (XS.iconst X0.here hx rfl (hb hby d_prog_83_method_18_1) (XS.iadd X0.here hx rfl (hb hby d_prog_83_method_18_2) rfl (XS.istoreN X0.here hx rfl (hb hby d_prog_83_method_18_3) rfl (l' := #[.val (.ref a), .val (.int (Int32.ofNat F)), .val (.int (Int32.ofNat T)), .val (.int ((Int32.ofNat F) + (1 : Int32))), .unset, .unset]) rfl (XS.iloadN X0.here hx rfl (hb hby d_prog_83_method_18_4) rfl (XS.iloadN X0.here hx rfl (hb hby d_prog_83_method_18_5) rfl (XS.icmpYes X0.here hx rfl (pc0 := 6) (pc' := 64) rfl (hb hby d_prog_83_method_18_6) rfl (flt (fun q => by rw [own_succ, own_ltN (by omega) (by omega)] at q; omega)).2.1 (by decide) (by decide) kt))))))) ?_
    show Go p e below P (T0.setTop (mkF m 64 #[.val (.ref a), .val (.int (Int32.ofNat F)), .val (.int (Int32.ofNat T)), .val (.int ((Int32.ofNat F) + (1 : Int32))), .unset, .unset] []))
    exact goV X0 hx hret hlk (hb hby d_prog_83_method_18_64) hP (by decide) (by decide) (by rw [e0]; exact ⟨rfl, (Fr.nil n0), (Keep.refl h0 [a]), f0, Va, fun a b h1 h2 h3 => by omega, fun k h1 h2 => rfl, fun _ => rfl⟩)
theorem pd_2 : parseMethodDescriptor "([III)V" = some ⟨[(.array .int), .int, .int], none⟩ := by decide +kernel
theorem pd_3 : parseMethodDescriptor "([IIII)V" = some ⟨[(.array .int), .int, .int, .int], none⟩ := by decide +kernel
theorem ef_rm0 (m : MethodId) (a : Int32) (b : Int32) (cc : Int32) (d : Int32) (ee : Int32) (ss : Int32) : entryFrame m #[(.int a), (.int b), (.int cc), (.int d), (.int ee), (.int ss)] maxLocals = mkF m 0 #[.val (.int a), .val (.int b), .val (.int cc), .val (.int d), .val (.int ee), .val (.int ss), .unset, .unset, .unset, .unset] [] := by first | (simp [entryFrame, mkF, argsToLocals, Value.category, maxLocals]; done) | rfl
set_option maxRecDepth 65536 in
set_option maxHeartbeats 40000000 in
theorem rm0 (l : Launch) (Z : State) (a0 : Array Value) (hw : ∀ d ∈ tables_1, d.before a0 Z = true) (ws : List Jvm.Cond) (a : Int32) (b : Int32) (cc : Int32) (d : Int32) (ee : Int32) (ss : Int32)  (h0 : Heap) (n0 : Nat) (Z0 : n0 ≤ h0.size)  :
    Ct l x code maxLocals ret ws room_1 Z #[(.int a), (.int b), (.int cc), (.int d), (.int ee), (.int ss)] h0 (fun v h L => v = some (.int 1) ∧ Fr n0 L) := by
  refine Ct.of (plainFor_of_name pn_0) (fun m => ef_rm0 m a b cc d ee ss) ?_
  intro p e s m below meth c T0 X0 hx hby hml hret hlk hown hnm hZ e0 P hP
  refine Go.st (fun _ kt => XS.iload X0.here hx rfl (hb hby at_0) rfl (XS.bipush X0.here hx rfl (hb hby at_2) (XS.iand X0.here hx rfl (hb hby at_4) rfl (XS.bipush X0.here hx rfl (hb hby at_5) (iremM X0 hx rfl (hb hby at_7) rfl (by decide) kt))))) ?_
  show Go p e below P (T0.setTop (mkF m 8 #[.val (.int a), .val (.int b), .val (.int cc), .val (.int d), .val (.int ee), .val (.int ss), .unset, .unset, .unset, .unset] [(.int ((ss &&& (7 : Int32)) % (6 : Int32)))]))
  obtain ⟨F, hF, hF5⟩ := own_F ss
  rw [hF]
  show Go p e below P (T0.setTop (mkF m 8 #[.val (.int a), .val (.int b), .val (.int cc), .val (.int d), .val (.int ee), .val (.int ss), .unset, .unset, .unset, .unset] [(.int (Int32.ofNat F))]))
  refine Go.st (fun _ kt => XS.istore X0.here hx rfl (hb hby at_8) rfl (l' := #[.val (.int a), .val (.int b), .val (.int cc), .val (.int d), .val (.int ee), .val (.int ss), .val (.int (Int32.ofNat F)), .unset, .unset, .unset]) rfl (XS.iload X0.here hx rfl (hb hby at_10) rfl (XS.iload X0.here hx rfl (hb hby at_12) rfl (XS.iconst X0.here hx rfl (hb hby at_14) (XS.iushr X0.here hx rfl (hb hby at_15) rfl (XS.bipush X0.here hx rfl (hb hby at_16) (XS.iand X0.here hx rfl (hb hby at_18) rfl (XS.bipush X0.here hx rfl (hb hby at_19) kt)))))))) ?_
  show Go p e below P (T0.setTop (mkF m 21 #[.val (.int a), .val (.int b), .val (.int cc), .val (.int d), .val (.int ee), .val (.int ss), .val (.int (Int32.ofNat F)), .unset, .unset, .unset] [(.int (6 : Int32)), (.int (((ss.toUInt32 >>> ((3 : Int32) &&& 31).toUInt32).toInt32) &&& (7 : Int32))), (.int (Int32.ofNat F))]))
  refine Go.st (fun _ kt => XS.iload X0.here hx rfl (hb hby at_21) rfl (XS.isub X0.here hx rfl (hb hby at_23) rfl (iremM X0 hx rfl (hb hby at_24) rfl (own_nz (by rw [own_6F hF5]; omega)) (XS.iadd X0.here hx rfl (hb hby at_25) rfl kt)))) ?_
  show Go p e below P (T0.setTop (mkF m 26 #[.val (.int a), .val (.int b), .val (.int cc), .val (.int d), .val (.int ee), .val (.int ss), .val (.int (Int32.ofNat F)), .unset, .unset, .unset] [(.int ((Int32.ofNat F) + ((((ss.toUInt32 >>> ((3 : Int32) &&& 31).toUInt32).toInt32) &&& (7 : Int32)) % ((6 : Int32) - (Int32.ofNat F)))))]))
  obtain ⟨T, hT, hFT, hT5⟩ := own_T ss hF5
  rw [hT]
  show Go p e below P (T0.setTop (mkF m 26 #[.val (.int a), .val (.int b), .val (.int cc), .val (.int d), .val (.int ee), .val (.int ss), .val (.int (Int32.ofNat F)), .unset, .unset, .unset] [(.int (Int32.ofNat T))]))
  refine Go.st (fun _ kt => XS.istore X0.here hx rfl (hb hby at_26) rfl (l' := #[.val (.int a), .val (.int b), .val (.int cc), .val (.int d), .val (.int ee), .val (.int ss), .val (.int (Int32.ofNat F)), .val (.int (Int32.ofNat T)), .unset, .unset]) rfl (XS.iconst X0.here hx rfl (hb hby at_28) kt)) ?_
  show Go p e below P (T0.setTop (mkF m 29 #[.val (.int a), .val (.int b), .val (.int cc), .val (.int d), .val (.int ee), .val (.int ss), .val (.int (Int32.ofNat F)), .val (.int (Int32.ofNat T)), .unset, .unset] [(.int (5 : Int32))]))
  have hz1 : IsN (5 : Int32) 5 := ⟨by decide, by decide⟩
  obtain ⟨T1, h1, k1, X1, e1, E1, A1, st1⟩ := newP X0 hx hZ (hw _ (List.mem_of_getElem? (i := 0) rfl)) e0 (g := (mkF m 29 #[.val (.int a), .val (.int b), .val (.int cc), .val (.int d), .val (.int ee), .val (.int ss), .val (.int (Int32.ofNat F)), .val (.int (Int32.ofNat T)), .unset, .unset] [(.int (5 : Int32))])) rfl (hb hby at_29) rfl hz1.1 (cap := 5) (by rw [hz1.2]; exact (by decide)) (by decide) (by decide) (by decide)
  obtain ⟨b1, g1⟩ : ∃ z, z = h0.size := ⟨_, rfl⟩
  rw [← g1] at A1 st1
  have G1 : n0 ≤ b1 := Nat.le_trans Z0 (Nat.le_of_eq g1.symm)
  have V1 : Ary Z h1 b1 .int Value.int 5 (fun _ => (0 : Int32)) := Ary.new A1 hz1 rfl
  have Z2 := Nat.le_trans Z0 E1.1
  refine Go.st st1 ?_
  show Go p e below P (T1.setTop (mkF m 31 #[.val (.int a), .val (.int b), .val (.int cc), .val (.int d), .val (.int ee), .val (.int ss), .val (.int (Int32.ofNat F)), .val (.int (Int32.ofNat T)), .unset, .unset] [(.ref b1)]))
  refine Go.st (fun _ kt => XS.dup X1.here hx rfl (hb hby at_31) rfl rfl (XS.iconst X1.here hx rfl (hb hby at_32) (XS.iloadN X1.here hx rfl (hb hby at_33) rfl kt))) ?_
  show Go p e below P (T1.setTop (mkF m 34 #[.val (.int a), .val (.int b), .val (.int cc), .val (.int d), .val (.int ee), .val (.int ss), .val (.int (Int32.ofNat F)), .val (.int (Int32.ofNat T)), .unset, .unset] [(.int a), (.int (0 : Int32)), (.ref b1), (.ref b1)]))
  obtain ⟨T3, h3, X3, e3, W3, V3, st3⟩ := aryStI X1 hx hZ e1 V1 (j := (0 : Int32)) (x := a) (i := 0) ⟨by decide, by decide⟩ (by decide) (g := (mkF m 34 #[.val (.int a), .val (.int b), .val (.int cc), .val (.int d), .val (.int ee), .val (.int ss), .val (.int (Int32.ofNat F)), .val (.int (Int32.ofNat T)), .unset, .unset] [(.int a), (.int (0 : Int32)), (.ref b1), (.ref b1)])) rfl rfl (hb hby at_34)
  have Z4 : n0 ≤ h3.size := by rw [W3.size]; exact Z2
  have N5 := Fr.snoc X3 (Fr.nil n0) G1
  refine Go.st st3 ?_
  show Go p e below P (T3.setTop (mkF m 35 #[.val (.int a), .val (.int b), .val (.int cc), .val (.int d), .val (.int ee), .val (.int ss), .val (.int (Int32.ofNat F)), .val (.int (Int32.ofNat T)), .unset, .unset] [(.ref b1)]))
  refine Go.st (fun _ kt => XS.dup X3.here hx rfl (hb hby at_35) rfl rfl (XS.iconst X3.here hx rfl (hb hby at_36) (XS.iloadN X3.here hx rfl (hb hby at_37) rfl kt))) ?_
  show Go p e below P (T3.setTop (mkF m 38 #[.val (.int a), .val (.int b), .val (.int cc), .val (.int d), .val (.int ee), .val (.int ss), .val (.int (Int32.ofNat F)), .val (.int (Int32.ofNat T)), .unset, .unset] [(.int b), (.int (1 : Int32)), (.ref b1), (.ref b1)]))
  obtain ⟨T6, h6, X6, e6, W6, V6, st6⟩ := aryStI X3 hx hZ e3 V3 (j := (1 : Int32)) (x := b) (i := 1) ⟨by decide, by decide⟩ (by decide) (g := (mkF m 38 #[.val (.int a), .val (.int b), .val (.int cc), .val (.int d), .val (.int ee), .val (.int ss), .val (.int (Int32.ofNat F)), .val (.int (Int32.ofNat T)), .unset, .unset] [(.int b), (.int (1 : Int32)), (.ref b1), (.ref b1)])) rfl rfl (hb hby at_38)
  have Z7 : n0 ≤ h6.size := by rw [W6.size]; exact Z4
  have N8 := Fr.snoc X6 N5 G1
  refine Go.st st6 ?_
  show Go p e below P (T6.setTop (mkF m 39 #[.val (.int a), .val (.int b), .val (.int cc), .val (.int d), .val (.int ee), .val (.int ss), .val (.int (Int32.ofNat F)), .val (.int (Int32.ofNat T)), .unset, .unset] [(.ref b1)]))
  refine Go.st (fun _ kt => XS.dup X6.here hx rfl (hb hby at_39) rfl rfl (XS.iconst X6.here hx rfl (hb hby at_40) (XS.iloadN X6.here hx rfl (hb hby at_41) rfl kt))) ?_
  show Go p e below P (T6.setTop (mkF m 42 #[.val (.int a), .val (.int b), .val (.int cc), .val (.int d), .val (.int ee), .val (.int ss), .val (.int (Int32.ofNat F)), .val (.int (Int32.ofNat T)), .unset, .unset] [(.int cc), (.int (2 : Int32)), (.ref b1), (.ref b1)]))
  obtain ⟨T9, h9, X9, e9, W9, V9, st9⟩ := aryStI X6 hx hZ e6 V6 (j := (2 : Int32)) (x := cc) (i := 2) ⟨by decide, by decide⟩ (by decide) (g := (mkF m 42 #[.val (.int a), .val (.int b), .val (.int cc), .val (.int d), .val (.int ee), .val (.int ss), .val (.int (Int32.ofNat F)), .val (.int (Int32.ofNat T)), .unset, .unset] [(.int cc), (.int (2 : Int32)), (.ref b1), (.ref b1)])) rfl rfl (hb hby at_42)
  have Z10 : n0 ≤ h9.size := by rw [W9.size]; exact Z7
  have N11 := Fr.snoc X9 N8 G1
  refine Go.st st9 ?_
  show Go p e below P (T9.setTop (mkF m 43 #[.val (.int a), .val (.int b), .val (.int cc), .val (.int d), .val (.int ee), .val (.int ss), .val (.int (Int32.ofNat F)), .val (.int (Int32.ofNat T)), .unset, .unset] [(.ref b1)]))
  refine Go.st (fun _ kt => XS.dup X9.here hx rfl (hb hby at_43) rfl rfl (XS.iconst X9.here hx rfl (hb hby at_44) (XS.iloadN X9.here hx rfl (hb hby at_45) rfl kt))) ?_
  show Go p e below P (T9.setTop (mkF m 46 #[.val (.int a), .val (.int b), .val (.int cc), .val (.int d), .val (.int ee), .val (.int ss), .val (.int (Int32.ofNat F)), .val (.int (Int32.ofNat T)), .unset, .unset] [(.int d), (.int (3 : Int32)), (.ref b1), (.ref b1)]))
  obtain ⟨T12, h12, X12, e12, W12, V12, st12⟩ := aryStI X9 hx hZ e9 V9 (j := (3 : Int32)) (x := d) (i := 3) ⟨by decide, by decide⟩ (by decide) (g := (mkF m 46 #[.val (.int a), .val (.int b), .val (.int cc), .val (.int d), .val (.int ee), .val (.int ss), .val (.int (Int32.ofNat F)), .val (.int (Int32.ofNat T)), .unset, .unset] [(.int d), (.int (3 : Int32)), (.ref b1), (.ref b1)])) rfl rfl (hb hby at_46)
  have Z13 : n0 ≤ h12.size := by rw [W12.size]; exact Z10
  have N14 := Fr.snoc X12 N11 G1
  refine Go.st st12 ?_
  show Go p e below P (T12.setTop (mkF m 47 #[.val (.int a), .val (.int b), .val (.int cc), .val (.int d), .val (.int ee), .val (.int ss), .val (.int (Int32.ofNat F)), .val (.int (Int32.ofNat T)), .unset, .unset] [(.ref b1)]))
  refine Go.st (fun _ kt => XS.dup X12.here hx rfl (hb hby at_47) rfl rfl (XS.iconst X12.here hx rfl (hb hby at_48) (XS.iload X12.here hx rfl (hb hby at_49) rfl kt))) ?_
  show Go p e below P (T12.setTop (mkF m 51 #[.val (.int a), .val (.int b), .val (.int cc), .val (.int d), .val (.int ee), .val (.int ss), .val (.int (Int32.ofNat F)), .val (.int (Int32.ofNat T)), .unset, .unset] [(.int ee), (.int (4 : Int32)), (.ref b1), (.ref b1)]))
  obtain ⟨T15, h15, X15, e15, W15, V15, st15⟩ := aryStI X12 hx hZ e12 V12 (j := (4 : Int32)) (x := ee) (i := 4) ⟨by decide, by decide⟩ (by decide) (g := (mkF m 51 #[.val (.int a), .val (.int b), .val (.int cc), .val (.int d), .val (.int ee), .val (.int ss), .val (.int (Int32.ofNat F)), .val (.int (Int32.ofNat T)), .unset, .unset] [(.int ee), (.int (4 : Int32)), (.ref b1), (.ref b1)])) rfl rfl (hb hby at_51)
  have Z16 : n0 ≤ h15.size := by rw [W15.size]; exact Z13
  have N17 := Fr.snoc X15 N14 G1
  refine Go.st st15 ?_
  show Go p e below P (T15.setTop (mkF m 52 #[.val (.int a), .val (.int b), .val (.int cc), .val (.int d), .val (.int ee), .val (.int ss), .val (.int (Int32.ofNat F)), .val (.int (Int32.ofNat T)), .unset, .unset] [(.ref b1)]))
  refine Go.st (fun _ kt => XS.astore X15.here hx rfl (hb hby at_52) rfl rfl (l' := #[.val (.int a), .val (.int b), .val (.int cc), .val (.int d), .val (.int ee), .val (.int ss), .val (.int (Int32.ofNat F)), .val (.int (Int32.ofNat T)), .val (.ref b1), .unset]) rfl (XS.iconst X15.here hx rfl (hb hby at_54) kt)) ?_
  show Go p e below P (T15.setTop (mkF m 55 #[.val (.int a), .val (.int b), .val (.int cc), .val (.int d), .val (.int ee), .val (.int ss), .val (.int (Int32.ofNat F)), .val (.int (Int32.ofNat T)), .val (.ref b1), .unset] [(.int (5 : Int32))]))
  have hz18 : IsN (5 : Int32) 5 := ⟨by decide, by decide⟩
  obtain ⟨T18, h18, k18, X18, e18, E18, A18, st18⟩ := newP X15 hx hZ (hw _ (List.mem_of_getElem? (i := 0) rfl)) e15 (g := (mkF m 55 #[.val (.int a), .val (.int b), .val (.int cc), .val (.int d), .val (.int ee), .val (.int ss), .val (.int (Int32.ofNat F)), .val (.int (Int32.ofNat T)), .val (.ref b1), .unset] [(.int (5 : Int32))])) rfl (hb hby at_55) rfl hz18.1 (cap := 5) (by rw [hz18.2]; exact (by decide)) (by decide) (by decide) (by decide)
  obtain ⟨b18, g18⟩ : ∃ z, z = h15.size := ⟨_, rfl⟩
  rw [← g18] at A18 st18
  have ne19 : b1 ≠ b18 := Nat.ne_of_lt (Nat.lt_of_lt_of_le V15.lt (Nat.le_of_eq g18.symm))
  have G18 : n0 ≤ b18 := Nat.le_trans Z16 (Nat.le_of_eq g18.symm)
  have V18 : Ary Z h18 b18 .int Value.int 5 (fun _ => (0 : Int32)) := Ary.new A18 hz18 rfl
  have Z20 := Nat.le_trans Z16 E18.1
  refine Go.st st18 ?_
  show Go p e below P (T18.setTop (mkF m 57 #[.val (.int a), .val (.int b), .val (.int cc), .val (.int d), .val (.int ee), .val (.int ss), .val (.int (Int32.ofNat F)), .val (.int (Int32.ofNat T)), .val (.ref b1), .unset] [(.ref b18)]))
  refine Go.st (fun _ kt => XS.dup X18.here hx rfl (hb hby at_57) rfl rfl (XS.iconst X18.here hx rfl (hb hby at_58) (XS.iloadN X18.here hx rfl (hb hby at_59) rfl kt))) ?_
  show Go p e below P (T18.setTop (mkF m 60 #[.val (.int a), .val (.int b), .val (.int cc), .val (.int d), .val (.int ee), .val (.int ss), .val (.int (Int32.ofNat F)), .val (.int (Int32.ofNat T)), .val (.ref b1), .unset] [(.int a), (.int (0 : Int32)), (.ref b18), (.ref b18)]))
  obtain ⟨T21, h21, X21, e21, W21, V21, st21⟩ := aryStI X18 hx hZ e18 V18 (j := (0 : Int32)) (x := a) (i := 0) ⟨by decide, by decide⟩ (by decide) (g := (mkF m 60 #[.val (.int a), .val (.int b), .val (.int cc), .val (.int d), .val (.int ee), .val (.int ss), .val (.int (Int32.ofNat F)), .val (.int (Int32.ofNat T)), .val (.ref b1), .unset] [(.int a), (.int (0 : Int32)), (.ref b18), (.ref b18)])) rfl rfl (hb hby at_60)
  have Z22 : n0 ≤ h21.size := by rw [W21.size]; exact Z20
  have N23 := Fr.snoc X21 N17 G18
  refine Go.st st21 ?_
  show Go p e below P (T21.setTop (mkF m 61 #[.val (.int a), .val (.int b), .val (.int cc), .val (.int d), .val (.int ee), .val (.int ss), .val (.int (Int32.ofNat F)), .val (.int (Int32.ofNat T)), .val (.ref b1), .unset] [(.ref b18)]))
  refine Go.st (fun _ kt => XS.dup X21.here hx rfl (hb hby at_61) rfl rfl (XS.iconst X21.here hx rfl (hb hby at_62) (XS.iloadN X21.here hx rfl (hb hby at_63) rfl kt))) ?_
  show Go p e below P (T21.setTop (mkF m 64 #[.val (.int a), .val (.int b), .val (.int cc), .val (.int d), .val (.int ee), .val (.int ss), .val (.int (Int32.ofNat F)), .val (.int (Int32.ofNat T)), .val (.ref b1), .unset] [(.int b), (.int (1 : Int32)), (.ref b18), (.ref b18)]))
  obtain ⟨T24, h24, X24, e24, W24, V24, st24⟩ := aryStI X21 hx hZ e21 V21 (j := (1 : Int32)) (x := b) (i := 1) ⟨by decide, by decide⟩ (by decide) (g := (mkF m 64 #[.val (.int a), .val (.int b), .val (.int cc), .val (.int d), .val (.int ee), .val (.int ss), .val (.int (Int32.ofNat F)), .val (.int (Int32.ofNat T)), .val (.ref b1), .unset] [(.int b), (.int (1 : Int32)), (.ref b18), (.ref b18)])) rfl rfl (hb hby at_64)
  have Z25 : n0 ≤ h24.size := by rw [W24.size]; exact Z22
  have N26 := Fr.snoc X24 N23 G18
  refine Go.st st24 ?_
  show Go p e below P (T24.setTop (mkF m 65 #[.val (.int a), .val (.int b), .val (.int cc), .val (.int d), .val (.int ee), .val (.int ss), .val (.int (Int32.ofNat F)), .val (.int (Int32.ofNat T)), .val (.ref b1), .unset] [(.ref b18)]))
  refine Go.st (fun _ kt => XS.dup X24.here hx rfl (hb hby at_65) rfl rfl (XS.iconst X24.here hx rfl (hb hby at_66) (XS.iloadN X24.here hx rfl (hb hby at_67) rfl kt))) ?_
  show Go p e below P (T24.setTop (mkF m 68 #[.val (.int a), .val (.int b), .val (.int cc), .val (.int d), .val (.int ee), .val (.int ss), .val (.int (Int32.ofNat F)), .val (.int (Int32.ofNat T)), .val (.ref b1), .unset] [(.int cc), (.int (2 : Int32)), (.ref b18), (.ref b18)]))
  obtain ⟨T27, h27, X27, e27, W27, V27, st27⟩ := aryStI X24 hx hZ e24 V24 (j := (2 : Int32)) (x := cc) (i := 2) ⟨by decide, by decide⟩ (by decide) (g := (mkF m 68 #[.val (.int a), .val (.int b), .val (.int cc), .val (.int d), .val (.int ee), .val (.int ss), .val (.int (Int32.ofNat F)), .val (.int (Int32.ofNat T)), .val (.ref b1), .unset] [(.int cc), (.int (2 : Int32)), (.ref b18), (.ref b18)])) rfl rfl (hb hby at_68)
  have Z28 : n0 ≤ h27.size := by rw [W27.size]; exact Z25
  have N29 := Fr.snoc X27 N26 G18
  refine Go.st st27 ?_
  show Go p e below P (T27.setTop (mkF m 69 #[.val (.int a), .val (.int b), .val (.int cc), .val (.int d), .val (.int ee), .val (.int ss), .val (.int (Int32.ofNat F)), .val (.int (Int32.ofNat T)), .val (.ref b1), .unset] [(.ref b18)]))
  refine Go.st (fun _ kt => XS.dup X27.here hx rfl (hb hby at_69) rfl rfl (XS.iconst X27.here hx rfl (hb hby at_70) (XS.iloadN X27.here hx rfl (hb hby at_71) rfl kt))) ?_
  show Go p e below P (T27.setTop (mkF m 72 #[.val (.int a), .val (.int b), .val (.int cc), .val (.int d), .val (.int ee), .val (.int ss), .val (.int (Int32.ofNat F)), .val (.int (Int32.ofNat T)), .val (.ref b1), .unset] [(.int d), (.int (3 : Int32)), (.ref b18), (.ref b18)]))
  obtain ⟨T30, h30, X30, e30, W30, V30, st30⟩ := aryStI X27 hx hZ e27 V27 (j := (3 : Int32)) (x := d) (i := 3) ⟨by decide, by decide⟩ (by decide) (g := (mkF m 72 #[.val (.int a), .val (.int b), .val (.int cc), .val (.int d), .val (.int ee), .val (.int ss), .val (.int (Int32.ofNat F)), .val (.int (Int32.ofNat T)), .val (.ref b1), .unset] [(.int d), (.int (3 : Int32)), (.ref b18), (.ref b18)])) rfl rfl (hb hby at_72)
  have Z31 : n0 ≤ h30.size := by rw [W30.size]; exact Z28
  have N32 := Fr.snoc X30 N29 G18
  refine Go.st st30 ?_
  show Go p e below P (T30.setTop (mkF m 73 #[.val (.int a), .val (.int b), .val (.int cc), .val (.int d), .val (.int ee), .val (.int ss), .val (.int (Int32.ofNat F)), .val (.int (Int32.ofNat T)), .val (.ref b1), .unset] [(.ref b18)]))
  refine Go.st (fun _ kt => XS.dup X30.here hx rfl (hb hby at_73) rfl rfl (XS.iconst X30.here hx rfl (hb hby at_74) (XS.iload X30.here hx rfl (hb hby at_75) rfl kt))) ?_
  show Go p e below P (T30.setTop (mkF m 77 #[.val (.int a), .val (.int b), .val (.int cc), .val (.int d), .val (.int ee), .val (.int ss), .val (.int (Int32.ofNat F)), .val (.int (Int32.ofNat T)), .val (.ref b1), .unset] [(.int ee), (.int (4 : Int32)), (.ref b18), (.ref b18)]))
  obtain ⟨T33, h33, X33, e33, W33, V33, st33⟩ := aryStI X30 hx hZ e30 V30 (j := (4 : Int32)) (x := ee) (i := 4) ⟨by decide, by decide⟩ (by decide) (g := (mkF m 77 #[.val (.int a), .val (.int b), .val (.int cc), .val (.int d), .val (.int ee), .val (.int ss), .val (.int (Int32.ofNat F)), .val (.int (Int32.ofNat T)), .val (.ref b1), .unset] [(.int ee), (.int (4 : Int32)), (.ref b18), (.ref b18)])) rfl rfl (hb hby at_77)
  have Z34 : n0 ≤ h33.size := by rw [W33.size]; exact Z31
  have N35 := Fr.snoc X33 N32 G18
  refine Go.st st33 ?_
  show Go p e below P (T33.setTop (mkF m 78 #[.val (.int a), .val (.int b), .val (.int cc), .val (.int d), .val (.int ee), .val (.int ss), .val (.int (Int32.ofNat F)), .val (.int (Int32.ofNat T)), .val (.ref b1), .unset] [(.ref b18)]))
  refine Go.st (fun _ kt => XS.astore X33.here hx rfl (hb hby at_78) rfl rfl (l' := #[.val (.int a), .val (.int b), .val (.int cc), .val (.int d), .val (.int ee), .val (.int ss), .val (.int (Int32.ofNat F)), .val (.int (Int32.ofNat T)), .val (.ref b1), .val (.ref b18)]) rfl kt) ?_
  show Go p e below P (T33.setTop (mkF m 80 #[.val (.int a), .val (.int b), .val (.int cc), .val (.int d), .val (.int ee), .val (.int ss), .val (.int (Int32.ofNat F)), .val (.int (Int32.ofNat T)), .val (.ref b1), .val (.ref b18)] []))
  obtain ⟨f0, hf0⟩ : ∃ z : Nat → Int32, z = (updN (updN (updN (updN (updN (fun _ => (0 : Int32)) 0 a) 1 b) 2 cc) 3 d) 4 ee) := ⟨_, rfl⟩
  have f37 := ((((((V15.ext E18).other W21 ne19).other W24 ne19).other W27 ne19).other W30 ne19).other W33 ne19)
  have Vf36 := f37
  rw [← hf0] at Vf36
  have Vf38 := V33
  rw [← hf0] at Vf38
  refine Go.st (fun _ kt => XS.aload X33.here hx rfl (hb hby at_80) rfl rfl (XS.iload X33.here hx rfl (hb hby at_82) rfl (XS.iload X33.here hx rfl (hb hby at_84) rfl kt))) ?_
  show Go p e below P (T33.setTop (mkF m 86 #[.val (.int a), .val (.int b), .val (.int cc), .val (.int d), .val (.int ee), .val (.int ss), .val (.int (Int32.ofNat F)), .val (.int (Int32.ofNat T)), .val (.ref b1), .val (.ref b18)] [(.int (Int32.ofNat T)), (.int (Int32.ofNat F)), (.ref b1)]))
  obtain ⟨_, T39, Lc39, X39, ⟨rfl, Nq39, K39, Gs, Vs39, hS⟩, st39⟩ := callCt X33 hx hZ e33 (y := (⟨"com/example/numtrie/numtrie/index/FieldTerms", "insertionSort", "([III)V"⟩ : MethodName)) (argsL := [(.ref b1), (.int (Int32.ofNat F)), (.int (Int32.ofNat T))]) (rest := []) hown (hw _ (List.mem_of_getElem? (i := 1) rfl)) (hw _ (List.mem_of_getElem? (i := 2) rfl)) (hw _ (List.mem_of_getElem? (i := 3) rfl)) (hw _ (List.mem_of_getElem? (i := 4) rfl)) (by decide) (rmS l Z a0 hw b1 _ _ F T _ _ n0 Z34 rfl rfl hFT hT5 Vf36 G1) (W := 0) (by decide) (by decide) (g := (mkF m 86 #[.val (.int a), .val (.int b), .val (.int cc), .val (.int d), .val (.int ee), .val (.int ss), .val (.int (Int32.ofNat F)), .val (.int (Int32.ofNat T)), .val (.ref b1), .val (.ref b18)] [(.int (Int32.ofNat T)), (.int (Int32.ofNat F)), (.ref b1)])) rfl (by rw [hml]; rfl) (lenOf pd_2 rfl) rfl (by show 2 * 0 + _ ≤ _; exact Nat.le_of_eq rfl) (hb hby at_86) (by decide) (by decide)
  have N39 := Fr.app N35 Nq39
  have Z40 := Nat.le_trans Z34 K39.1
  refine Go.st st39 ?_
  show Go p e below P (T39.setTop (mkF m 89 #[.val (.int a), .val (.int b), .val (.int cc), .val (.int d), .val (.int ee), .val (.int ss), .val (.int (Int32.ofNat F)), .val (.int (Int32.ofNat T)), .val (.ref b1), .val (.ref b18)] []))
  refine Go.st (fun _ kt => XS.aload X39.here hx rfl (hb hby at_89) rfl rfl (XS.iconst X39.here hx rfl (hb hby at_91) (XS.iload X39.here hx rfl (hb hby at_92) rfl (XS.iload X39.here hx rfl (hb hby at_94) rfl kt)))) ?_
  show Go p e below P (T39.setTop (mkF m 96 #[.val (.int a), .val (.int b), .val (.int cc), .val (.int d), .val (.int ee), .val (.int ss), .val (.int (Int32.ofNat F)), .val (.int (Int32.ofNat T)), .val (.ref b1), .val (.ref b18)] [(.int (Int32.ofNat T)), (.int (Int32.ofNat F)), (.int (0 : Int32)), (.ref b18)]))
  have f42 := (Vf38.keep K39 (ninS (Ne.symm ne19) nin0))
  obtain ⟨_, T41, Lc41, X41, ⟨rfl, Nq41, K41, Vx41⟩, st41⟩ := callCt X39 hx hZ rfl (y := (⟨"com/example/numtrie/numtrie/index/FieldTermsInsertionSortPinLaw", "cx", "([IIII)V"⟩ : MethodName)) (argsL := [(.ref b18), (.int (0 : Int32)), (.int (Int32.ofNat F)), (.int (Int32.ofNat T))]) (rest := []) hown (hw _ (List.mem_of_getElem? (i := 5) rfl)) (hw _ (List.mem_of_getElem? (i := 6) rfl)) (hw _ (List.mem_of_getElem? (i := 7) rfl)) (hw _ (List.mem_of_getElem? (i := 8) rfl)) (by decide) (rmX l Z a0 hw b18 (0 : Int32) _ _ 0 F T _ _ n0 Z40 rfl rfl rfl (by decide) hF5 hT5 f42 G18) (W := 0) (by decide) (by decide) (g := (mkF m 96 #[.val (.int a), .val (.int b), .val (.int cc), .val (.int d), .val (.int ee), .val (.int ss), .val (.int (Int32.ofNat F)), .val (.int (Int32.ofNat T)), .val (.ref b1), .val (.ref b18)] [(.int (Int32.ofNat T)), (.int (Int32.ofNat F)), (.int (0 : Int32)), (.ref b18)])) rfl (by rw [hml]; rfl) (lenOf pd_3 rfl) rfl (by show 2 * 0 + _ ≤ _; exact Nat.le_of_eq rfl) (hb hby at_96) (by decide) (by decide)
  have N41 := Fr.app N39 Nq41
  have Z43 := Nat.le_trans Z40 K41.1
  refine Go.st st41 ?_
  show Go p e below P (T41.setTop (mkF m 99 #[.val (.int a), .val (.int b), .val (.int cc), .val (.int d), .val (.int ee), .val (.int ss), .val (.int (Int32.ofNat F)), .val (.int (Int32.ofNat T)), .val (.ref b1), .val (.ref b18)] []))
  refine Go.st (fun _ kt => XS.aload X41.here hx rfl (hb hby at_99) rfl rfl (XS.iconst X41.here hx rfl (hb hby at_101) (XS.iload X41.here hx rfl (hb hby at_102) rfl (XS.iload X41.here hx rfl (hb hby at_104) rfl kt)))) ?_
  show Go p e below P (T41.setTop (mkF m 106 #[.val (.int a), .val (.int b), .val (.int cc), .val (.int d), .val (.int ee), .val (.int ss), .val (.int (Int32.ofNat F)), .val (.int (Int32.ofNat T)), .val (.ref b1), .val (.ref b18)] [(.int (Int32.ofNat T)), (.int (Int32.ofNat F)), (.int (1 : Int32)), (.ref b18)]))
  obtain ⟨_, T44, Lc44, X44, ⟨rfl, Nq44, K44, Vx44⟩, st44⟩ := callCt X41 hx hZ rfl (y := (⟨"com/example/numtrie/numtrie/index/FieldTermsInsertionSortPinLaw", "cx", "([IIII)V"⟩ : MethodName)) (argsL := [(.ref b18), (.int (1 : Int32)), (.int (Int32.ofNat F)), (.int (Int32.ofNat T))]) (rest := []) hown (hw _ (List.mem_of_getElem? (i := 5) rfl)) (hw _ (List.mem_of_getElem? (i := 6) rfl)) (hw _ (List.mem_of_getElem? (i := 7) rfl)) (hw _ (List.mem_of_getElem? (i := 8) rfl)) (by decide) (rmX l Z a0 hw b18 (1 : Int32) _ _ 1 F T _ _ n0 Z43 rfl rfl rfl (by decide) hF5 hT5 Vx41 G18) (W := 0) (by decide) (by decide) (g := (mkF m 106 #[.val (.int a), .val (.int b), .val (.int cc), .val (.int d), .val (.int ee), .val (.int ss), .val (.int (Int32.ofNat F)), .val (.int (Int32.ofNat T)), .val (.ref b1), .val (.ref b18)] [(.int (Int32.ofNat T)), (.int (Int32.ofNat F)), (.int (1 : Int32)), (.ref b18)])) rfl (by rw [hml]; rfl) (lenOf pd_3 rfl) rfl (by show 2 * 0 + _ ≤ _; exact Nat.le_of_eq rfl) (hb hby at_106) (by decide) (by decide)
  have N44 := Fr.app N41 Nq44
  have Z45 := Nat.le_trans Z43 K44.1
  refine Go.st st44 ?_
  show Go p e below P (T44.setTop (mkF m 109 #[.val (.int a), .val (.int b), .val (.int cc), .val (.int d), .val (.int ee), .val (.int ss), .val (.int (Int32.ofNat F)), .val (.int (Int32.ofNat T)), .val (.ref b1), .val (.ref b18)] []))
  refine Go.st (fun _ kt => XS.aload X44.here hx rfl (hb hby at_109) rfl rfl (XS.iconst X44.here hx rfl (hb hby at_111) (XS.iload X44.here hx rfl (hb hby at_112) rfl (XS.iload X44.here hx rfl (hb hby at_114) rfl kt)))) ?_
  show Go p e below P (T44.setTop (mkF m 116 #[.val (.int a), .val (.int b), .val (.int cc), .val (.int d), .val (.int ee), .val (.int ss), .val (.int (Int32.ofNat F)), .val (.int (Int32.ofNat T)), .val (.ref b1), .val (.ref b18)] [(.int (Int32.ofNat T)), (.int (Int32.ofNat F)), (.int (2 : Int32)), (.ref b18)]))
  obtain ⟨_, T46, Lc46, X46, ⟨rfl, Nq46, K46, Vx46⟩, st46⟩ := callCt X44 hx hZ rfl (y := (⟨"com/example/numtrie/numtrie/index/FieldTermsInsertionSortPinLaw", "cx", "([IIII)V"⟩ : MethodName)) (argsL := [(.ref b18), (.int (2 : Int32)), (.int (Int32.ofNat F)), (.int (Int32.ofNat T))]) (rest := []) hown (hw _ (List.mem_of_getElem? (i := 5) rfl)) (hw _ (List.mem_of_getElem? (i := 6) rfl)) (hw _ (List.mem_of_getElem? (i := 7) rfl)) (hw _ (List.mem_of_getElem? (i := 8) rfl)) (by decide) (rmX l Z a0 hw b18 (2 : Int32) _ _ 2 F T _ _ n0 Z45 rfl rfl rfl (by decide) hF5 hT5 Vx44 G18) (W := 0) (by decide) (by decide) (g := (mkF m 116 #[.val (.int a), .val (.int b), .val (.int cc), .val (.int d), .val (.int ee), .val (.int ss), .val (.int (Int32.ofNat F)), .val (.int (Int32.ofNat T)), .val (.ref b1), .val (.ref b18)] [(.int (Int32.ofNat T)), (.int (Int32.ofNat F)), (.int (2 : Int32)), (.ref b18)])) rfl (by rw [hml]; rfl) (lenOf pd_3 rfl) rfl (by show 2 * 0 + _ ≤ _; exact Nat.le_of_eq rfl) (hb hby at_116) (by decide) (by decide)
  have N46 := Fr.app N44 Nq46
  have Z47 := Nat.le_trans Z45 K46.1
  refine Go.st st46 ?_
  show Go p e below P (T46.setTop (mkF m 119 #[.val (.int a), .val (.int b), .val (.int cc), .val (.int d), .val (.int ee), .val (.int ss), .val (.int (Int32.ofNat F)), .val (.int (Int32.ofNat T)), .val (.ref b1), .val (.ref b18)] []))
  refine Go.st (fun _ kt => XS.aload X46.here hx rfl (hb hby at_119) rfl rfl (XS.iconst X46.here hx rfl (hb hby at_121) (XS.iload X46.here hx rfl (hb hby at_122) rfl (XS.iload X46.here hx rfl (hb hby at_124) rfl kt)))) ?_
  show Go p e below P (T46.setTop (mkF m 126 #[.val (.int a), .val (.int b), .val (.int cc), .val (.int d), .val (.int ee), .val (.int ss), .val (.int (Int32.ofNat F)), .val (.int (Int32.ofNat T)), .val (.ref b1), .val (.ref b18)] [(.int (Int32.ofNat T)), (.int (Int32.ofNat F)), (.int (3 : Int32)), (.ref b18)]))
  obtain ⟨_, T48, Lc48, X48, ⟨rfl, Nq48, K48, Vx48⟩, st48⟩ := callCt X46 hx hZ rfl (y := (⟨"com/example/numtrie/numtrie/index/FieldTermsInsertionSortPinLaw", "cx", "([IIII)V"⟩ : MethodName)) (argsL := [(.ref b18), (.int (3 : Int32)), (.int (Int32.ofNat F)), (.int (Int32.ofNat T))]) (rest := []) hown (hw _ (List.mem_of_getElem? (i := 5) rfl)) (hw _ (List.mem_of_getElem? (i := 6) rfl)) (hw _ (List.mem_of_getElem? (i := 7) rfl)) (hw _ (List.mem_of_getElem? (i := 8) rfl)) (by decide) (rmX l Z a0 hw b18 (3 : Int32) _ _ 3 F T _ _ n0 Z47 rfl rfl rfl (by decide) hF5 hT5 Vx46 G18) (W := 0) (by decide) (by decide) (g := (mkF m 126 #[.val (.int a), .val (.int b), .val (.int cc), .val (.int d), .val (.int ee), .val (.int ss), .val (.int (Int32.ofNat F)), .val (.int (Int32.ofNat T)), .val (.ref b1), .val (.ref b18)] [(.int (Int32.ofNat T)), (.int (Int32.ofNat F)), (.int (3 : Int32)), (.ref b18)])) rfl (by rw [hml]; rfl) (lenOf pd_3 rfl) rfl (by show 2 * 0 + _ ≤ _; exact Nat.le_of_eq rfl) (hb hby at_126) (by decide) (by decide)
  have N48 := Fr.app N46 Nq48
  have Z49 := Nat.le_trans Z47 K48.1
  refine Go.st st48 ?_
  show Go p e below P (T48.setTop (mkF m 129 #[.val (.int a), .val (.int b), .val (.int cc), .val (.int d), .val (.int ee), .val (.int ss), .val (.int (Int32.ofNat F)), .val (.int (Int32.ofNat T)), .val (.ref b1), .val (.ref b18)] []))
  refine Go.st (fun _ kt => XS.aload X48.here hx rfl (hb hby at_129) rfl rfl (XS.iconst X48.here hx rfl (hb hby at_131) (XS.iload X48.here hx rfl (hb hby at_132) rfl (XS.iload X48.here hx rfl (hb hby at_134) rfl kt)))) ?_
  show Go p e below P (T48.setTop (mkF m 136 #[.val (.int a), .val (.int b), .val (.int cc), .val (.int d), .val (.int ee), .val (.int ss), .val (.int (Int32.ofNat F)), .val (.int (Int32.ofNat T)), .val (.ref b1), .val (.ref b18)] [(.int (Int32.ofNat T)), (.int (Int32.ofNat F)), (.int (0 : Int32)), (.ref b18)]))
  obtain ⟨_, T50, Lc50, X50, ⟨rfl, Nq50, K50, Vx50⟩, st50⟩ := callCt X48 hx hZ rfl (y := (⟨"com/example/numtrie/numtrie/index/FieldTermsInsertionSortPinLaw", "cx", "([IIII)V"⟩ : MethodName)) (argsL := [(.ref b18), (.int (0 : Int32)), (.int (Int32.ofNat F)), (.int (Int32.ofNat T))]) (rest := []) hown (hw _ (List.mem_of_getElem? (i := 5) rfl)) (hw _ (List.mem_of_getElem? (i := 6) rfl)) (hw _ (List.mem_of_getElem? (i := 7) rfl)) (hw _ (List.mem_of_getElem? (i := 8) rfl)) (by decide) (rmX l Z a0 hw b18 (0 : Int32) _ _ 0 F T _ _ n0 Z49 rfl rfl rfl (by decide) hF5 hT5 Vx48 G18) (W := 0) (by decide) (by decide) (g := (mkF m 136 #[.val (.int a), .val (.int b), .val (.int cc), .val (.int d), .val (.int ee), .val (.int ss), .val (.int (Int32.ofNat F)), .val (.int (Int32.ofNat T)), .val (.ref b1), .val (.ref b18)] [(.int (Int32.ofNat T)), (.int (Int32.ofNat F)), (.int (0 : Int32)), (.ref b18)])) rfl (by rw [hml]; rfl) (lenOf pd_3 rfl) rfl (by show 2 * 0 + _ ≤ _; exact Nat.le_of_eq rfl) (hb hby at_136) (by decide) (by decide)
  have N50 := Fr.app N48 Nq50
  have Z51 := Nat.le_trans Z49 K50.1
  refine Go.st st50 ?_
  show Go p e below P (T50.setTop (mkF m 139 #[.val (.int a), .val (.int b), .val (.int cc), .val (.int d), .val (.int ee), .val (.int ss), .val (.int (Int32.ofNat F)), .val (.int (Int32.ofNat T)), .val (.ref b1), .val (.ref b18)] []))
  refine Go.st (fun _ kt => XS.aload X50.here hx rfl (hb hby at_139) rfl rfl (XS.iconst X50.here hx rfl (hb hby at_141) (XS.iload X50.here hx rfl (hb hby at_142) rfl (XS.iload X50.here hx rfl (hb hby at_144) rfl kt)))) ?_
  show Go p e below P (T50.setTop (mkF m 146 #[.val (.int a), .val (.int b), .val (.int cc), .val (.int d), .val (.int ee), .val (.int ss), .val (.int (Int32.ofNat F)), .val (.int (Int32.ofNat T)), .val (.ref b1), .val (.ref b18)] [(.int (Int32.ofNat T)), (.int (Int32.ofNat F)), (.int (1 : Int32)), (.ref b18)]))
  obtain ⟨_, T52, Lc52, X52, ⟨rfl, Nq52, K52, Vx52⟩, st52⟩ := callCt X50 hx hZ rfl (y := (⟨"com/example/numtrie/numtrie/index/FieldTermsInsertionSortPinLaw", "cx", "([IIII)V"⟩ : MethodName)) (argsL := [(.ref b18), (.int (1 : Int32)), (.int (Int32.ofNat F)), (.int (Int32.ofNat T))]) (rest := []) hown (hw _ (List.mem_of_getElem? (i := 5) rfl)) (hw _ (List.mem_of_getElem? (i := 6) rfl)) (hw _ (List.mem_of_getElem? (i := 7) rfl)) (hw _ (List.mem_of_getElem? (i := 8) rfl)) (by decide) (rmX l Z a0 hw b18 (1 : Int32) _ _ 1 F T _ _ n0 Z51 rfl rfl rfl (by decide) hF5 hT5 Vx50 G18) (W := 0) (by decide) (by decide) (g := (mkF m 146 #[.val (.int a), .val (.int b), .val (.int cc), .val (.int d), .val (.int ee), .val (.int ss), .val (.int (Int32.ofNat F)), .val (.int (Int32.ofNat T)), .val (.ref b1), .val (.ref b18)] [(.int (Int32.ofNat T)), (.int (Int32.ofNat F)), (.int (1 : Int32)), (.ref b18)])) rfl (by rw [hml]; rfl) (lenOf pd_3 rfl) rfl (by show 2 * 0 + _ ≤ _; exact Nat.le_of_eq rfl) (hb hby at_146) (by decide) (by decide)
  have N52 := Fr.app N50 Nq52
  have Z53 := Nat.le_trans Z51 K52.1
  refine Go.st st52 ?_
  show Go p e below P (T52.setTop (mkF m 149 #[.val (.int a), .val (.int b), .val (.int cc), .val (.int d), .val (.int ee), .val (.int ss), .val (.int (Int32.ofNat F)), .val (.int (Int32.ofNat T)), .val (.ref b1), .val (.ref b18)] []))
  refine Go.st (fun _ kt => XS.aload X52.here hx rfl (hb hby at_149) rfl rfl (XS.iconst X52.here hx rfl (hb hby at_151) (XS.iload X52.here hx rfl (hb hby at_152) rfl (XS.iload X52.here hx rfl (hb hby at_154) rfl kt)))) ?_
  show Go p e below P (T52.setTop (mkF m 156 #[.val (.int a), .val (.int b), .val (.int cc), .val (.int d), .val (.int ee), .val (.int ss), .val (.int (Int32.ofNat F)), .val (.int (Int32.ofNat T)), .val (.ref b1), .val (.ref b18)] [(.int (Int32.ofNat T)), (.int (Int32.ofNat F)), (.int (2 : Int32)), (.ref b18)]))
  obtain ⟨_, T54, Lc54, X54, ⟨rfl, Nq54, K54, Vx54⟩, st54⟩ := callCt X52 hx hZ rfl (y := (⟨"com/example/numtrie/numtrie/index/FieldTermsInsertionSortPinLaw", "cx", "([IIII)V"⟩ : MethodName)) (argsL := [(.ref b18), (.int (2 : Int32)), (.int (Int32.ofNat F)), (.int (Int32.ofNat T))]) (rest := []) hown (hw _ (List.mem_of_getElem? (i := 5) rfl)) (hw _ (List.mem_of_getElem? (i := 6) rfl)) (hw _ (List.mem_of_getElem? (i := 7) rfl)) (hw _ (List.mem_of_getElem? (i := 8) rfl)) (by decide) (rmX l Z a0 hw b18 (2 : Int32) _ _ 2 F T _ _ n0 Z53 rfl rfl rfl (by decide) hF5 hT5 Vx52 G18) (W := 0) (by decide) (by decide) (g := (mkF m 156 #[.val (.int a), .val (.int b), .val (.int cc), .val (.int d), .val (.int ee), .val (.int ss), .val (.int (Int32.ofNat F)), .val (.int (Int32.ofNat T)), .val (.ref b1), .val (.ref b18)] [(.int (Int32.ofNat T)), (.int (Int32.ofNat F)), (.int (2 : Int32)), (.ref b18)])) rfl (by rw [hml]; rfl) (lenOf pd_3 rfl) rfl (by show 2 * 0 + _ ≤ _; exact Nat.le_of_eq rfl) (hb hby at_156) (by decide) (by decide)
  have N54 := Fr.app N52 Nq54
  have Z55 := Nat.le_trans Z53 K54.1
  refine Go.st st54 ?_
  show Go p e below P (T54.setTop (mkF m 159 #[.val (.int a), .val (.int b), .val (.int cc), .val (.int d), .val (.int ee), .val (.int ss), .val (.int (Int32.ofNat F)), .val (.int (Int32.ofNat T)), .val (.ref b1), .val (.ref b18)] []))
  refine Go.st (fun _ kt => XS.aload X54.here hx rfl (hb hby at_159) rfl rfl (XS.iconst X54.here hx rfl (hb hby at_161) (XS.iload X54.here hx rfl (hb hby at_162) rfl (XS.iload X54.here hx rfl (hb hby at_164) rfl kt)))) ?_
  show Go p e below P (T54.setTop (mkF m 166 #[.val (.int a), .val (.int b), .val (.int cc), .val (.int d), .val (.int ee), .val (.int ss), .val (.int (Int32.ofNat F)), .val (.int (Int32.ofNat T)), .val (.ref b1), .val (.ref b18)] [(.int (Int32.ofNat T)), (.int (Int32.ofNat F)), (.int (0 : Int32)), (.ref b18)]))
  obtain ⟨_, T56, Lc56, X56, ⟨rfl, Nq56, K56, Vx56⟩, st56⟩ := callCt X54 hx hZ rfl (y := (⟨"com/example/numtrie/numtrie/index/FieldTermsInsertionSortPinLaw", "cx", "([IIII)V"⟩ : MethodName)) (argsL := [(.ref b18), (.int (0 : Int32)), (.int (Int32.ofNat F)), (.int (Int32.ofNat T))]) (rest := []) hown (hw _ (List.mem_of_getElem? (i := 5) rfl)) (hw _ (List.mem_of_getElem? (i := 6) rfl)) (hw _ (List.mem_of_getElem? (i := 7) rfl)) (hw _ (List.mem_of_getElem? (i := 8) rfl)) (by decide) (rmX l Z a0 hw b18 (0 : Int32) _ _ 0 F T _ _ n0 Z55 rfl rfl rfl (by decide) hF5 hT5 Vx54 G18) (W := 0) (by decide) (by decide) (g := (mkF m 166 #[.val (.int a), .val (.int b), .val (.int cc), .val (.int d), .val (.int ee), .val (.int ss), .val (.int (Int32.ofNat F)), .val (.int (Int32.ofNat T)), .val (.ref b1), .val (.ref b18)] [(.int (Int32.ofNat T)), (.int (Int32.ofNat F)), (.int (0 : Int32)), (.ref b18)])) rfl (by rw [hml]; rfl) (lenOf pd_3 rfl) rfl (by show 2 * 0 + _ ≤ _; exact Nat.le_of_eq rfl) (hb hby at_166) (by decide) (by decide)
  have N56 := Fr.app N54 Nq56
  have Z57 := Nat.le_trans Z55 K56.1
  refine Go.st st56 ?_
  show Go p e below P (T56.setTop (mkF m 169 #[.val (.int a), .val (.int b), .val (.int cc), .val (.int d), .val (.int ee), .val (.int ss), .val (.int (Int32.ofNat F)), .val (.int (Int32.ofNat T)), .val (.ref b1), .val (.ref b18)] []))
  refine Go.st (fun _ kt => XS.aload X56.here hx rfl (hb hby at_169) rfl rfl (XS.iconst X56.here hx rfl (hb hby at_171) (XS.iload X56.here hx rfl (hb hby at_172) rfl (XS.iload X56.here hx rfl (hb hby at_174) rfl kt)))) ?_
  show Go p e below P (T56.setTop (mkF m 176 #[.val (.int a), .val (.int b), .val (.int cc), .val (.int d), .val (.int ee), .val (.int ss), .val (.int (Int32.ofNat F)), .val (.int (Int32.ofNat T)), .val (.ref b1), .val (.ref b18)] [(.int (Int32.ofNat T)), (.int (Int32.ofNat F)), (.int (1 : Int32)), (.ref b18)]))
  obtain ⟨_, T58, Lc58, X58, ⟨rfl, Nq58, K58, Vx58⟩, st58⟩ := callCt X56 hx hZ rfl (y := (⟨"com/example/numtrie/numtrie/index/FieldTermsInsertionSortPinLaw", "cx", "([IIII)V"⟩ : MethodName)) (argsL := [(.ref b18), (.int (1 : Int32)), (.int (Int32.ofNat F)), (.int (Int32.ofNat T))]) (rest := []) hown (hw _ (List.mem_of_getElem? (i := 5) rfl)) (hw _ (List.mem_of_getElem? (i := 6) rfl)) (hw _ (List.mem_of_getElem? (i := 7) rfl)) (hw _ (List.mem_of_getElem? (i := 8) rfl)) (by decide) (rmX l Z a0 hw b18 (1 : Int32) _ _ 1 F T _ _ n0 Z57 rfl rfl rfl (by decide) hF5 hT5 Vx56 G18) (W := 0) (by decide) (by decide) (g := (mkF m 176 #[.val (.int a), .val (.int b), .val (.int cc), .val (.int d), .val (.int ee), .val (.int ss), .val (.int (Int32.ofNat F)), .val (.int (Int32.ofNat T)), .val (.ref b1), .val (.ref b18)] [(.int (Int32.ofNat T)), (.int (Int32.ofNat F)), (.int (1 : Int32)), (.ref b18)])) rfl (by rw [hml]; rfl) (lenOf pd_3 rfl) rfl (by show 2 * 0 + _ ≤ _; exact Nat.le_of_eq rfl) (hb hby at_176) (by decide) (by decide)
  have N58 := Fr.app N56 Nq58
  have Z59 := Nat.le_trans Z57 K58.1
  refine Go.st st58 ?_
  show Go p e below P (T58.setTop (mkF m 179 #[.val (.int a), .val (.int b), .val (.int cc), .val (.int d), .val (.int ee), .val (.int ss), .val (.int (Int32.ofNat F)), .val (.int (Int32.ofNat T)), .val (.ref b1), .val (.ref b18)] []))
  refine Go.st (fun _ kt => XS.aload X58.here hx rfl (hb hby at_179) rfl rfl (XS.iconst X58.here hx rfl (hb hby at_181) (XS.iload X58.here hx rfl (hb hby at_182) rfl (XS.iload X58.here hx rfl (hb hby at_184) rfl kt)))) ?_
  show Go p e below P (T58.setTop (mkF m 186 #[.val (.int a), .val (.int b), .val (.int cc), .val (.int d), .val (.int ee), .val (.int ss), .val (.int (Int32.ofNat F)), .val (.int (Int32.ofNat T)), .val (.ref b1), .val (.ref b18)] [(.int (Int32.ofNat T)), (.int (Int32.ofNat F)), (.int (0 : Int32)), (.ref b18)]))
  obtain ⟨_, T60, Lc60, X60, ⟨rfl, Nq60, K60, Vx60⟩, st60⟩ := callCt X58 hx hZ rfl (y := (⟨"com/example/numtrie/numtrie/index/FieldTermsInsertionSortPinLaw", "cx", "([IIII)V"⟩ : MethodName)) (argsL := [(.ref b18), (.int (0 : Int32)), (.int (Int32.ofNat F)), (.int (Int32.ofNat T))]) (rest := []) hown (hw _ (List.mem_of_getElem? (i := 5) rfl)) (hw _ (List.mem_of_getElem? (i := 6) rfl)) (hw _ (List.mem_of_getElem? (i := 7) rfl)) (hw _ (List.mem_of_getElem? (i := 8) rfl)) (by decide) (rmX l Z a0 hw b18 (0 : Int32) _ _ 0 F T _ _ n0 Z59 rfl rfl rfl (by decide) hF5 hT5 Vx58 G18) (W := 0) (by decide) (by decide) (g := (mkF m 186 #[.val (.int a), .val (.int b), .val (.int cc), .val (.int d), .val (.int ee), .val (.int ss), .val (.int (Int32.ofNat F)), .val (.int (Int32.ofNat T)), .val (.ref b1), .val (.ref b18)] [(.int (Int32.ofNat T)), (.int (Int32.ofNat F)), (.int (0 : Int32)), (.ref b18)])) rfl (by rw [hml]; rfl) (lenOf pd_3 rfl) rfl (by show 2 * 0 + _ ≤ _; exact Nat.le_of_eq rfl) (hb hby at_186) (by decide) (by decide)
  have N60 := Fr.app N58 Nq60
  have Z61 := Nat.le_trans Z59 K60.1
  refine Go.st st60 ?_
  show Go p e below P (T60.setTop (mkF m 189 #[.val (.int a), .val (.int b), .val (.int cc), .val (.int d), .val (.int ee), .val (.int ss), .val (.int (Int32.ofNat F)), .val (.int (Int32.ofNat T)), .val (.ref b1), .val (.ref b18)] []))
  have f62 := ((((((((((Vs39.keep K41 (ninS ne19 nin0)).keep K44 (ninS ne19 nin0)).keep K46 (ninS ne19 nin0)).keep K48 (ninS ne19 nin0)).keep K50 (ninS ne19 nin0)).keep K52 (ninS ne19 nin0)).keep K54 (ninS ne19 nin0)).keep K56 (ninS ne19 nin0)).keep K58 (ninS ne19 nin0)).keep K60 (ninS ne19 nin0))
  refine Go.st (fun _ kt => XS.aload X60.here hx rfl (hb hby at_189) rfl rfl (XS.iconst X60.here hx rfl (hb hby at_191) (aryLdI X60 hx hZ rfl f62 (j := (0 : Int32)) (i := 0) ⟨by decide, by decide⟩ (by decide) (g := (mkF m 192 #[.val (.int a), .val (.int b), .val (.int cc), .val (.int d), .val (.int ee), .val (.int ss), .val (.int (Int32.ofNat F)), .val (.int (Int32.ofNat T)), .val (.ref b1), .val (.ref b18)] [(.int (0 : Int32)), (.ref b1)])) rfl rfl (hb hby at_192) _ (XS.aload X60.here hx rfl (hb hby at_193) rfl rfl (XS.iconst X60.here hx rfl (hb hby at_195) (aryLdI X60 hx hZ rfl Vx60 (j := (0 : Int32)) (i := 0) ⟨by decide, by decide⟩ (by decide) (g := (mkF m 196 #[.val (.int a), .val (.int b), .val (.int cc), .val (.int d), .val (.int ee), .val (.int ss), .val (.int (Int32.ofNat F)), .val (.int (Int32.ofNat T)), .val (.ref b1), .val (.ref b18)] [(.int (0 : Int32)), (.ref b18), (.int (Gs 0))])) rfl rfl (hb hby at_196) _ (XS.icmpNo X60.here hx rfl (hb hby at_197) rfl (teq (own_uniq hS (own_net hT5) 0 (by decide))).2 (XS.aload X60.here hx rfl (hb hby at_200) rfl rfl kt)))))))) ?_
  show Go p e below P (T60.setTop (mkF m 202 #[.val (.int a), .val (.int b), .val (.int cc), .val (.int d), .val (.int ee), .val (.int ss), .val (.int (Int32.ofNat F)), .val (.int (Int32.ofNat T)), .val (.ref b1), .val (.ref b18)] [(.ref b1)]))
  refine Go.st (fun _ kt => XS.iconst X60.here hx rfl (hb hby at_202) (aryLdI X60 hx hZ rfl f62 (j := (1 : Int32)) (i := 1) ⟨by decide, by decide⟩ (by decide) (g := (mkF m 203 #[.val (.int a), .val (.int b), .val (.int cc), .val (.int d), .val (.int ee), .val (.int ss), .val (.int (Int32.ofNat F)), .val (.int (Int32.ofNat T)), .val (.ref b1), .val (.ref b18)] [(.int (1 : Int32)), (.ref b1)])) rfl rfl (hb hby at_203) _ (XS.aload X60.here hx rfl (hb hby at_204) rfl rfl (XS.iconst X60.here hx rfl (hb hby at_206) (aryLdI X60 hx hZ rfl Vx60 (j := (1 : Int32)) (i := 1) ⟨by decide, by decide⟩ (by decide) (g := (mkF m 207 #[.val (.int a), .val (.int b), .val (.int cc), .val (.int d), .val (.int ee), .val (.int ss), .val (.int (Int32.ofNat F)), .val (.int (Int32.ofNat T)), .val (.ref b1), .val (.ref b18)] [(.int (1 : Int32)), (.ref b18), (.int (Gs 1))])) rfl rfl (hb hby at_207) _ (XS.icmpNo X60.here hx rfl (hb hby at_208) rfl (teq (own_uniq hS (own_net hT5) 1 (by decide))).2 (XS.aload X60.here hx rfl (hb hby at_211) rfl rfl (XS.iconst X60.here hx rfl (hb hby at_213) kt)))))))) ?_
  show Go p e below P (T60.setTop (mkF m 214 #[.val (.int a), .val (.int b), .val (.int cc), .val (.int d), .val (.int ee), .val (.int ss), .val (.int (Int32.ofNat F)), .val (.int (Int32.ofNat T)), .val (.ref b1), .val (.ref b18)] [(.int (2 : Int32)), (.ref b1)]))
  refine Go.st (fun _ kt => aryLdI X60 hx hZ rfl f62 (j := (2 : Int32)) (i := 2) ⟨by decide, by decide⟩ (by decide) (g := (mkF m 214 #[.val (.int a), .val (.int b), .val (.int cc), .val (.int d), .val (.int ee), .val (.int ss), .val (.int (Int32.ofNat F)), .val (.int (Int32.ofNat T)), .val (.ref b1), .val (.ref b18)] [(.int (2 : Int32)), (.ref b1)])) rfl rfl (hb hby at_214) _ (XS.aload X60.here hx rfl (hb hby at_215) rfl rfl (XS.iconst X60.here hx rfl (hb hby at_217) (aryLdI X60 hx hZ rfl Vx60 (j := (2 : Int32)) (i := 2) ⟨by decide, by decide⟩ (by decide) (g := (mkF m 218 #[.val (.int a), .val (.int b), .val (.int cc), .val (.int d), .val (.int ee), .val (.int ss), .val (.int (Int32.ofNat F)), .val (.int (Int32.ofNat T)), .val (.ref b1), .val (.ref b18)] [(.int (2 : Int32)), (.ref b18), (.int (Gs 2))])) rfl rfl (hb hby at_218) _ (XS.icmpNo X60.here hx rfl (hb hby at_219) rfl (teq (own_uniq hS (own_net hT5) 2 (by decide))).2 (XS.aload X60.here hx rfl (hb hby at_222) rfl rfl (XS.iconst X60.here hx rfl (hb hby at_224) (aryLdI X60 hx hZ rfl f62 (j := (3 : Int32)) (i := 3) ⟨by decide, by decide⟩ (by decide) (g := (mkF m 225 #[.val (.int a), .val (.int b), .val (.int cc), .val (.int d), .val (.int ee), .val (.int ss), .val (.int (Int32.ofNat F)), .val (.int (Int32.ofNat T)), .val (.ref b1), .val (.ref b18)] [(.int (3 : Int32)), (.ref b1)])) rfl rfl (hb hby at_225) _ kt)))))))) ?_
  show Go p e below P (T60.setTop (mkF m 226 #[.val (.int a), .val (.int b), .val (.int cc), .val (.int d), .val (.int ee), .val (.int ss), .val (.int (Int32.ofNat F)), .val (.int (Int32.ofNat T)), .val (.ref b1), .val (.ref b18)] [(.int (Gs 3))]))
  refine Go.st (fun _ kt => XS.aload X60.here hx rfl (hb hby at_226) rfl rfl (XS.iconst X60.here hx rfl (hb hby at_228) (aryLdI X60 hx hZ rfl Vx60 (j := (3 : Int32)) (i := 3) ⟨by decide, by decide⟩ (by decide) (g := (mkF m 229 #[.val (.int a), .val (.int b), .val (.int cc), .val (.int d), .val (.int ee), .val (.int ss), .val (.int (Int32.ofNat F)), .val (.int (Int32.ofNat T)), .val (.ref b1), .val (.ref b18)] [(.int (3 : Int32)), (.ref b18), (.int (Gs 3))])) rfl rfl (hb hby at_229) _ (XS.icmpNo X60.here hx rfl (hb hby at_230) rfl (teq (own_uniq hS (own_net hT5) 3 (by decide))).2 (XS.aload X60.here hx rfl (hb hby at_233) rfl rfl (XS.iconst X60.here hx rfl (hb hby at_235) (aryLdI X60 hx hZ rfl f62 (j := (4 : Int32)) (i := 4) ⟨by decide, by decide⟩ (by decide) (g := (mkF m 236 #[.val (.int a), .val (.int b), .val (.int cc), .val (.int d), .val (.int ee), .val (.int ss), .val (.int (Int32.ofNat F)), .val (.int (Int32.ofNat T)), .val (.ref b1), .val (.ref b18)] [(.int (4 : Int32)), (.ref b1)])) rfl rfl (hb hby at_236) _ (XS.aload X60.here hx rfl (hb hby at_237) rfl rfl kt)))))))) ?_
  show Go p e below P (T60.setTop (mkF m 239 #[.val (.int a), .val (.int b), .val (.int cc), .val (.int d), .val (.int ee), .val (.int ss), .val (.int (Int32.ofNat F)), .val (.int (Int32.ofNat T)), .val (.ref b1), .val (.ref b18)] [(.ref b18), (.int (Gs 4))]))
  refine Go.st (fun _ kt => XS.iconst X60.here hx rfl (hb hby at_239) (aryLdI X60 hx hZ rfl Vx60 (j := (4 : Int32)) (i := 4) ⟨by decide, by decide⟩ (by decide) (g := (mkF m 240 #[.val (.int a), .val (.int b), .val (.int cc), .val (.int d), .val (.int ee), .val (.int ss), .val (.int (Int32.ofNat F)), .val (.int (Int32.ofNat T)), .val (.ref b1), .val (.ref b18)] [(.int (4 : Int32)), (.ref b18), (.int (Gs 4))])) rfl rfl (hb hby at_240) _ (XS.icmpNo X60.here hx rfl (hb hby at_241) rfl (teq (own_uniq hS (own_net hT5) 4 (by decide))).2 (XS.iconst X60.here hx rfl (hb hby at_244) (XS.goto X60.here hx rfl (pc0 := 245) (pc' := 249) rfl (hb hby at_245) (by decide) (by decide) kt))))) ?_
  show Go p e below P (T60.setTop (mkF m 249 #[.val (.int a), .val (.int b), .val (.int cc), .val (.int d), .val (.int ee), .val (.int ss), .val (.int (Int32.ofNat F)), .val (.int (Int32.ofNat T)), .val (.ref b1), .val (.ref b18)] [(.int (1 : Int32))]))
  exact goN X60 hx (t := .boolean) hret (by simp) hlk (hb hby at_249) hP (by decide) (by decide) ⟨rfl, N60⟩
set_option maxRecDepth 65536 in
set_option maxHeartbeats 40000000 in
theorem comes_1 {Post : Tables → Env → Array Value → State → Outcome → State → Prop} (hpost : ∀ tb e args s v u, (limb_1_1.after args s (.returned v) u = true ∧ limb_1_2.after args s (.returned v) u = true ∧ True) → FrameEnd s (.returned v) u (Jvm.fieldLocs frame_1_writes args s ++ Jvm.arrayLocs frame_1_arrays args s ++ Jvm.staticLocs frame_1_statics s) 16 128 → Post tb e args s (.returned v) u) :
    ArmFor flags0 classFile x code maxLocals ret World_1 tables_1 room_1 Calls_1 rest_1 Pre_1 Post := by
  intro l hfl _ _ p e ha hc hk s m args below hf hA hF happ hP
  obtain ⟨hcalls, hrest, hpre⟩ := hP
  obtain ⟨-, -, -, hnamed, -, -, -, hat⟩ := (Spec.applies_iff hf).mp happ
  obtain ⟨hg, hn⟩ := and_e (Cond.before_iff.mp (show (Jvm.Cond.and given_1 narrow_1).before args s = true from hpre))
  obtain ⟨g1, g2⟩ := and_e hg
  obtain ⟨g3, g4⟩ := and_e g2
  obtain ⟨g5, g6⟩ := and_e g4
  obtain ⟨g7, g8⟩ := and_e g6
  obtain ⟨g9, g10⟩ := and_e g8
  obtain ⟨g11, g12⟩ := and_e g10
  obtain ⟨w0, w1, w2, w3, w4, w5, rfl⟩ : ∃ w0 w1 w2 w3 w4 w5 : Value, args = #[w0, w1, w2, w3, w4, w5] := by
    have hs : args.size = 6 := by simpa [Cond.value, given_1] using g1
    obtain ⟨L⟩ := args
    match L, hs with
    | [w0, w1, w2, w3, w4, w5], _ => exact ⟨w0, w1, w2, w3, w4, w5, rfl⟩
  have hw := fun d (hd : d ∈ tables_1) => atoms_spec (ws := Jvm.Cond.code x code maxLocals ret :: tables_1) hat d (List.mem_cons_of_mem _ hd)
  obtain ⟨i0, ei0⟩ := is_v g3
  obtain rfl : w0 = (.int i0) := Option.some.inj ei0
  obtain ⟨i1, ei1⟩ := is_v g5
  obtain rfl : w1 = (.int i1) := Option.some.inj ei1
  obtain ⟨i2, ei2⟩ := is_v g7
  obtain rfl : w2 = (.int i2) := Option.some.inj ei2
  obtain ⟨i3, ei3⟩ := is_v g9
  obtain rfl : w3 = (.int i3) := Option.some.inj ei3
  obtain ⟨i4, ei4⟩ := is_v g11
  obtain rfl : w4 = (.int i4) := Option.some.inj ei4
  obtain ⟨i5, ei5⟩ := is_v g12
  obtain rfl : w5 = (.int i5) := Option.some.inj ei5
  obtain ⟨n, o, h1, h2, h3, _, L, rfl, ⟨rfl, N⟩, hq⟩ := rm0 l s _ hw tables_1 i0 i1 i2 i3 i4 i5 s.heap s.heap.size (Nat.le_refl _) p e ha hc hk s m _ below hf ((Spec.applies_iff_loose hf).mp happ).1 ⟨rfl, State.Warmed39.refl s, rfl⟩ trivial
  refine ⟨n, _, h1, h2, h3, hpost _ _ _ _ _ _ ⟨Cond.after_iff.mpr rfl, Cond.after_iff.mpr (eq_i res_at (Term.int_eval (1)) rfl), trivial⟩ ⟨hq.1, hq.2.1, (hq.2.2.sift fun y hy => Or.inr (N y hy)).mono (by decide) (by decide)⟩⟩
theorem main_1_1 : Claimed_1_1 := comes_1 fun _ _ _ _ _ _ h hF => ⟨h.1, hF⟩
theorem main_1_2 : Claimed_1_2 := comes_1 fun _ _ _ _ _ _ h hF => ⟨h.2.1, hF⟩
end Jvm.Pilot.@@N@@
namespace Jvm.Pilot.@@N@@
open Jvm Jvm.ClassFile Sem Op Lib Jvm.Free Jvm.Stand Jvm.Pilot.@@N@@.Jvm.D
/-! MADE BY PROGRAM (witnessworld.py) out of the Statement's table words and the real class files: 13 classes; the members and pool entries that the words name. The judged class is class 1, her method 2. -/
namespace start1
open Jvm.ClassFile
def u (s : String) : CpInfo := .utf8 (stringToUtf16 s)
/-- a pool by its gaps: so many unusable entries, then the entry; so many at the end -/
def gap : Nat → List CpInfo → List CpInfo
  | 0, r => r
  | n + 1, r => .unusable :: gap n r
def poolList (es : List (Nat × CpInfo)) (last : Nat) : List CpInfo := es.foldr (fun e r => gap e.1 (e.2 :: r)) (gap last [])
def pool (es : List (Nat × CpInfo)) (last : Nat) : Array CpInfo := ⟨poolList es last⟩
def fileOf (pool : Array CpInfo) (this : Nat) (attrs : Array Attribute := #[]) (ms : Array MethodInfo := #[]) (fl : Nat := 33) (sup : Nat := 0) (ifs : Array Nat := #[]) (fds : Array FieldInfo := #[]) : ClassFile where
  minorVersion := 0
  majorVersion := 65
  constantPool := pool
  accessFlags := fl
  thisClass := this
  superClass := sup
  interfaces := ifs
  fields := fds
  methods := ms
  attributes := attrs
def plain (name : String) (sup : Option ClassId) : Class where
  name := name
  kind := .ordinary
  loader := none
  accessFlags := 33
  super := sup
  interfaces := #[]
  cf := none
  fields := #[]
  methods := #[]
  instanceTypes := #[]
  staticTypes := #[]
  resolved := #[]
  callSites := []
  init := .initialized
  statics := none
  mirror := none

def pool0 : Array CpInfo := pool [(5, u "<init>"), (0, u "()V"), (1, .class_ 10), (1, u "java/lang/Object")] 113

def k0m0 : Method := { name := "<init>", desc := "()V", sig := { parameters := [], returnType := none }, accessFlags := 1, code := none }
/-- java/lang/Object -/
def k0 : Class := { plain "java/lang/Object" none with
  accessFlags := 33
  interfaces := #[]
  cf := some (fileOf pool0 8 #[] #[{ accessFlags := 1, nameIndex := 5, descriptorIndex := 6, attributes := #[] }] 33 0 #[] #[])
  fields := #[]
  methods := #[k0m0]
  instanceTypes := #[]
  staticTypes := #[]
  resolved := Array.replicate 124 none
  statics := none }

def pool1 : Array CpInfo := pool [(2, .class_ 4), (1, u "java/lang/Object"), (0, u "<init>"), (0, u "()V"), (0, .methodref 8 9), (0, .class_ 10), (0, .nameAndType 11 12), (0, u "com/example/numtrie/numtrie/index/FieldTerms"), (0, u "insertionSort"), (0, u "([III)V"), (0, .methodref 14 15), (0, .class_ 16), (0, .nameAndType 17 18), (0, u "com/example/numtrie/numtrie/index/FieldTermsInsertionSortPinLaw"), (0, u "cx"), (0, u "([IIII)V"), (3, u "law"), (0, u "(IIIIII)Z")] 4

def k1m0 : Method := { name := "<init>", desc := "()V", sig := { parameters := [], returnType := none }, accessFlags := 2, code := none }
def k1c1 : Code := { maxStack := 5, maxLocals := 5, code := method_2_code, exceptionTable := #[], attributes := #[] }
def k1m1 : Method := { name := "cx", desc := "([IIII)V", sig := { parameters := [(.array .int), .int, .int, .int], returnType := none }, accessFlags := 10, code := some k1c1 }
def k1c2 : Code := { maxStack := 4, maxLocals := 10, code := code, exceptionTable := #[], attributes := #[] }
def k1m2 : Method := { name := "law", desc := "(IIIIII)Z", sig := { parameters := [.int, .int, .int, .int, .int, .int], returnType := some .boolean }, accessFlags := 9, code := some k1c2 }
/-- com/example/numtrie/numtrie/index/FieldTermsInsertionSortPinLaw -/
def k1 : Class := { plain "com/example/numtrie/numtrie/index/FieldTermsInsertionSortPinLaw" (some 0) with
  accessFlags := 49
  interfaces := #[]
  cf := some (fileOf pool1 14 #[] #[{ accessFlags := 2, nameIndex := 5, descriptorIndex := 6, attributes := #[] }, { accessFlags := 10, nameIndex := 17, descriptorIndex := 18, attributes := #[] }, { accessFlags := 9, nameIndex := 22, descriptorIndex := 23, attributes := #[] }] 49 2 #[] #[])
  fields := #[]
  methods := #[k1m0, k1m1, k1m2]
  instanceTypes := #[]
  staticTypes := #[]
  resolved := Array.replicate 28 none
  statics := none }

def pool2 : Array CpInfo := pool [(1, .class_ 2), (0, u "com/example/numtrie/numtrie/index/FieldRecords$1"), (4, .class_ 8), (0, u "com/example/numtrie/numtrie/index/FieldRecords"), (0, .class_ 10), (0, u "java/lang/Object"), (18, .class_ 30), (0, u "com/example/numtrie/numtrie/index/FieldRecords$TermsOpener")] 2

/-- com/example/numtrie/numtrie/index/FieldRecords -/
def k2 : Class := { plain "com/example/numtrie/numtrie/index/FieldRecords" (some 0) with
  accessFlags := 1536
  interfaces := #[]
  cf := some (fileOf pool2 7 #[.nestMembers #[29, 1]] #[] 1536 9 #[] #[])
  fields := #[]
  methods := #[]
  instanceTypes := #[]
  staticTypes := #[]
  resolved := Array.replicate 33 none
  statics := none }

def pool3 : Array CpInfo := pool [(1, .class_ 2), (0, u "java/lang/AutoCloseable"), (0, .class_ 4), (0, u "java/lang/Object")] 7

/-- java/lang/AutoCloseable -/
def k3 : Class := { plain "java/lang/AutoCloseable" (some 0) with
  accessFlags := 1537
  interfaces := #[]
  cf := some (fileOf pool3 1 #[] #[] 1537 3 #[] #[])
  fields := #[]
  methods := #[]
  instanceTypes := #[]
  staticTypes := #[]
  resolved := Array.replicate 12 none
  statics := none }

def pool4 : Array CpInfo := pool [(1, .class_ 2), (0, u "java/io/Closeable"), (0, .class_ 4), (0, u "java/lang/Object"), (0, .class_ 6), (0, u "java/lang/AutoCloseable")] 7

/-- java/io/Closeable -/
def k4 : Class := { plain "java/io/Closeable" (some 0) with
  accessFlags := 1537
  interfaces := #[3]
  cf := some (fileOf pool4 1 #[] #[] 1537 3 #[5] #[])
  fields := #[]
  methods := #[]
  instanceTypes := #[]
  staticTypes := #[]
  resolved := Array.replicate 14 none
  statics := none }

def pool5 : Array CpInfo := pool [(2, .class_ 4), (1, u "com/example/numtrie/numtrie/index/SortedTerms"), (8, .class_ 14), (0, u "java/lang/Object"), (0, .class_ 16), (0, u "java/io/Closeable"), (16, .class_ 34), (0, u "com/example/numtrie/numtrie/index/SortedTerms$Target")] 2

/-- com/example/numtrie/numtrie/index/SortedTerms -/
def k5 : Class := { plain "com/example/numtrie/numtrie/index/SortedTerms" (some 0) with
  accessFlags := 1536
  interfaces := #[4]
  cf := some (fileOf pool5 2 #[.nestMembers #[33]] #[] 1536 13 #[15] #[])
  fields := #[]
  methods := #[]
  instanceTypes := #[]
  staticTypes := #[]
  resolved := Array.replicate 37 none
  statics := none }

def pool6 : Array CpInfo := pool [(3, .class_ 4), (0, u "com/example/numtrie/numtrie/index/FieldTerms"), (1, .class_ 8), (1, u "java/lang/Object"), (5, u "[[I"), (2, u "ends"), (2, u "next"), (2, u "shift"), (0, u "I"), (7, u "term"), (0, u "[B"), (5, u "entry"), (0, u "Lcom/example/numtrie/numtrie/index/TermEntry;"), (2, u "values"), (0, u "[J"), (2, u "count"), (2, u "records"), (0, u "[I"), (2, u "bitmap"), (2, u "coding"), (0, u "Lcom/example/numtrie/numtrie/index/TrieCoding;"), (2, u "shifts"), (5, u "to"), (42, u "largest"), (16, u "ordering"), (0, u "Z"), (7, .class_ 137), (0, u "com/example/numtrie/numtrie/index/FieldTerms$1"), (7, u "from"), (31, u "insertionSort"), (0, u "([III)V"), (14, .class_ 194), (0, u "com/example/numtrie/numtrie/index/FieldRecords"), (0, .class_ 196), (0, u "com/example/numtrie/numtrie/index/SortedTerms"), (0, u "BYTES_PER_RECORD"), (2, u "DIGIT_BITS"), (1, u "DIGITS"), (1, u "MAX_INSERTED"), (1, u "MAX_BITMAP_WORDS_PER_RECORD")] 28

def k6c0 : Code := { maxStack := 4, maxLocals := 6, code := prog_83_method_18_code, exceptionTable := #[], attributes := #[] }
def k6m0 : Method := { name := "insertionSort", desc := "([III)V", sig := { parameters := [(.array .int), .int, .int], returnType := none }, accessFlags := 8, code := some k6c0 }
/-- com/example/numtrie/numtrie/index/FieldTerms -/
def k6 : Class := { plain "com/example/numtrie/numtrie/index/FieldTerms" (some 0) with
  accessFlags := 48
  interfaces := #[2, 5]
  cf := some (fileOf pool6 3 #[.nestMembers #[136]] #[{ accessFlags := 8, nameIndex := 177, descriptorIndex := 178, attributes := #[] }] 48 6 #[193, 195] #[{ accessFlags := 24, nameIndex := 197, descriptorIndex := 24, attributes := #[] }, { accessFlags := 26, nameIndex := 200, descriptorIndex := 24, attributes := #[] }, { accessFlags := 26, nameIndex := 202, descriptorIndex := 24, attributes := #[] }, { accessFlags := 24, nameIndex := 204, descriptorIndex := 24, attributes := #[] }, { accessFlags := 26, nameIndex := 206, descriptorIndex := 24, attributes := #[] }, { accessFlags := 18, nameIndex := 43, descriptorIndex := 44, attributes := #[] }, { accessFlags := 18, nameIndex := 47, descriptorIndex := 24, attributes := #[] }, { accessFlags := 18, nameIndex := 50, descriptorIndex := 51, attributes := #[] }, { accessFlags := 18, nameIndex := 54, descriptorIndex := 44, attributes := #[] }, { accessFlags := 18, nameIndex := 17, descriptorIndex := 14, attributes := #[] }, { accessFlags := 18, nameIndex := 20, descriptorIndex := 14, attributes := #[] }, { accessFlags := 18, nameIndex := 57, descriptorIndex := 58, attributes := #[] }, { accessFlags := 18, nameIndex := 61, descriptorIndex := 51, attributes := #[] }, { accessFlags := 2, nameIndex := 23, descriptorIndex := 24, attributes := #[] }, { accessFlags := 2, nameIndex := 145, descriptorIndex := 24, attributes := #[] }, { accessFlags := 2, nameIndex := 67, descriptorIndex := 24, attributes := #[] }, { accessFlags := 18, nameIndex := 32, descriptorIndex := 33, attributes := #[] }, { accessFlags := 18, nameIndex := 39, descriptorIndex := 40, attributes := #[] }, { accessFlags := 2, nameIndex := 110, descriptorIndex := 51, attributes := #[] }, { accessFlags := 2, nameIndex := 127, descriptorIndex := 128, attributes := #[] }])
  fields := #[{ name := "BYTES_PER_RECORD", type := .int, accessFlags := 24, slot := 0, constantValue := 0 }, { name := "DIGIT_BITS", type := .int, accessFlags := 26, slot := 1, constantValue := 0 }, { name := "DIGITS", type := .int, accessFlags := 26, slot := 2, constantValue := 0 }, { name := "MAX_INSERTED", type := .int, accessFlags := 24, slot := 3, constantValue := 0 }, { name := "MAX_BITMAP_WORDS_PER_RECORD", type := .int, accessFlags := 26, slot := 4, constantValue := 0 }, { name := "values", type := (.array .long), accessFlags := 18, slot := 0, constantValue := 0 }, { name := "count", type := .int, accessFlags := 18, slot := 1, constantValue := 0 }, { name := "records", type := (.array .int), accessFlags := 18, slot := 2, constantValue := 0 }, { name := "bitmap", type := (.array .long), accessFlags := 18, slot := 3, constantValue := 0 }, { name := "ends", type := (.array (.array .int)), accessFlags := 18, slot := 4, constantValue := 0 }, { name := "next", type := (.array (.array .int)), accessFlags := 18, slot := 5, constantValue := 0 }, { name := "coding", type := (.object "com/example/numtrie/numtrie/index/TrieCoding"), accessFlags := 18, slot := 6, constantValue := 0 }, { name := "shifts", type := (.array .int), accessFlags := 18, slot := 7, constantValue := 0 }, { name := "shift", type := .int, accessFlags := 2, slot := 8, constantValue := 0 }, { name := "from", type := .int, accessFlags := 2, slot := 9, constantValue := 0 }, { name := "to", type := .int, accessFlags := 2, slot := 10, constantValue := 0 }, { name := "term", type := (.array .byte), accessFlags := 18, slot := 11, constantValue := 0 }, { name := "entry", type := (.object "com/example/numtrie/numtrie/index/TermEntry"), accessFlags := 18, slot := 12, constantValue := 0 }, { name := "largest", type := (.array .int), accessFlags := 2, slot := 13, constantValue := 0 }, { name := "ordering", type := .boolean, accessFlags := 2, slot := 14, constantValue := 0 }]
  methods := #[k6m0]
  instanceTypes := #[(.array .long), .int, (.array .int), (.array .long), (.array (.array .int)), (.array (.array .int)), (.object "com/example/numtrie/numtrie/index/TrieCoding"), (.array .int), .int, .int, .int, (.array .byte), (.object "com/example/numtrie/numtrie/index/TermEntry"), (.array .int), .boolean]
  staticTypes := #[.int, .int, .int, .int, .int]
  resolved := Array.replicate 235 none
  statics := none }

def pool7 : Array CpInfo := pool [(1, u "java/lang/Cloneable"), (0, .class_ 1), (0, u "java/lang/Object"), (0, .class_ 3)] 3

/-- java/lang/Cloneable -/
def k7 : Class := { plain "java/lang/Cloneable" (some 0) with
  accessFlags := 1537
  interfaces := #[]
  cf := some (fileOf pool7 2 #[] #[] 1537 4 #[] #[])
  fields := #[]
  methods := #[]
  instanceTypes := #[]
  staticTypes := #[]
  resolved := Array.replicate 8 none
  statics := none }

def pool8 : Array CpInfo := pool [(1, u "java/io/Serializable"), (0, .class_ 1), (0, u "java/lang/Object"), (0, .class_ 3)] 3

/-- java/io/Serializable -/
def k8 : Class := { plain "java/io/Serializable" (some 0) with
  accessFlags := 1537
  interfaces := #[]
  cf := some (fileOf pool8 2 #[] #[] 1537 4 #[] #[])
  fields := #[]
  methods := #[]
  instanceTypes := #[]
  staticTypes := #[]
  resolved := Array.replicate 8 none
  statics := none }

/-- the primitive byte -/
def k9 : Class := { plain "byte" none with kind := .primitive 'B', accessFlags := 0x411 }
/-- [B -/
def k10 : Class := { plain "[B" (some 0) with kind := .array 9 .byte, interfaces := #[7, 8], accessFlags := 1041 }

/-- the primitive int -/
def k11 : Class := { plain "int" none with kind := .primitive 'I', accessFlags := 0x411 }
/-- [I -/
def k12 : Class := { plain "[I" (some 0) with kind := .array 11 .int, interfaces := #[7, 8], accessFlags := 1041 }

def heap : Heap := #[]
def classes : Array Class := #[k0, k1, k2, k3, k4, k5, k6, k7, k8, k9, k10, k11, k12]
def interned : List (Array UInt16 × Addr) := []
def slotsUsed : Nat := 0
def theMethod : MethodId := ⟨1, 2⟩
def args0 : Array Value := #[.int 5, .int 6, .int 7, .int 8, .int 9, .int 10]
def aboutOver (below : List Frame) : State where
  vm := { classes := classes, interned := interned.toArray }
  heap := heap
  slotsUsed := slotsUsed
  threads := #[{ frames := .invoking theMethod args0 :: below }]
def below0 : List Frame := [.native { method := ⟨0, 0⟩, args := #[] }]
def about1 : State := aboutOver below0
def p0 : Program := .bare "" "" ""
def e0 : Env := launch0.env 0 0 0
theorem w_frames : about1.frames = Frame.invoking theMethod args0 :: below0 := rfl
set_option maxRecDepth 65536 in
theorem w_args : argsFit about1.vm theMethod args0 = true := by decide +kernel
set_option maxRecDepth 65536 in
theorem w_heap : heapFits about1 = true := by decide +kernel
set_option maxRecDepth 65536 in
theorem w_runnable : about1.curStatus? = some .runnable := by decide +kernel
set_option maxRecDepth 65536 in
theorem w_alone : about1.alone = true := by decide +kernel
set_option maxRecDepth 65536 in
theorem w_named : about1.methodNamed? x = some theMethod := by decide +kernel
set_option maxRecDepth 65536 in
theorem w_hears : about1.hears theMethod below0 = true := by decide +kernel
set_option maxRecDepth 65536 in
theorem w_ripe : about1.ripe theMethod args0 below0 = true := by decide +kernel
theorem w_running : about1.status = .running := rfl
set_option maxRecDepth 65536 in
theorem w_room : about1.hasRoom e0.platform room_1 = true :=
  launch0.hasRoom_least _ room_1 (by decide +kernel) (by decide +kernel) (by decide +kernel) (by decide +kernel) (by decide +kernel) (by decide +kernel)
theorem allAtoms_all (ts : List Jvm.Cond) (a : Array Jvm.Value) (st : Jvm.State) : (allAtoms ts).before a st = ts.all (fun c => c.before a st) := by
  induction ts with
  | nil => rfl
  | cons c t ih =>
    show (Jvm.Cond.and c (allAtoms t)).before a st = _
    rw [Jvm.Cond.before_and, ih, List.all_cons]
def words1 : List Jvm.Cond := Jvm.Cond.code x code maxLocals ret :: tables_1
/-- a 'code' word, met by the world's own term for the bytes: nothing is compared byte by byte -/
theorem code_word {y : MethodName} {bytes : ByteArray} {mx : Nat} {rt : Option FieldType} {a : Array Value} {s : State} {m : MethodId} {meth : Method} {c : Code} (h1 : s.methodNamed? y = some m) (h2 : s.vm.method? m = some meth) (h3 : meth.code = some c) (h4 : c.code = bytes)
    (h5 : (c.maxLocals == mx && c.exceptionTable.isEmpty && decide (c.maxStack ≤ mostOperands) && decide (meth.sig.returnType = rt) && !meth.locks && decide (parseMethodDescriptor y.desc = some meth.sig)) = true) : (Jvm.Cond.code y bytes mx rt).before a s = true := by
  simp only [Bool.and_eq_true, beq_iff_eq, Bool.not_eq_true', decide_eq_true_eq] at h5
  obtain ⟨⟨⟨⟨⟨g1, g2⟩, g3⟩, g4⟩, g5⟩, g6⟩ := h5
  simp [Cond.before, Cond.holds, Cond.value, h1, h2, h3, h4, g1, g2, g3, g4, g5, g6]
def isCode : Jvm.Cond → Bool
  | .code _ _ _ _ => true
  | _ => false
theorem all_split {L : List Jvm.Cond} {P : Jvm.Cond → Bool} (h1 : L.all (fun c => isCode c || P c) = true) (h2 : ∀ c ∈ L.filter isCode, P c = true) : L.all P = true := by
  refine List.all_eq_true.mpr fun c hc => ?_
  have h := List.all_eq_true.mp h1 c hc
  rcases Bool.eq_false_or_eq_true (isCode c) with hi | hi
  · exact h2 c (List.mem_filter.mpr ⟨hc, hi⟩)
  · simpa [hi] using h
set_option maxRecDepth 65536 in
theorem w_c0 : (Jvm.Cond.code x code maxLocals ret).before args0 about1 = true := code_word (m := ⟨1, 2⟩) (meth := k1m2) (c := k1c2) (by decide +kernel) rfl rfl rfl (by decide +kernel)
set_option maxRecDepth 65536 in
theorem w_c1 : (Jvm.Cond.code ({ cls := "com/example/numtrie/numtrie/index/FieldTerms", name := "insertionSort", desc := "([III)V" } : Jvm.MethodName) prog_83_method_18_code (6 : Nat) (Option.none : Option Jvm.ClassFile.FieldType)).before args0 about1 = true := code_word (m := ⟨6, 0⟩) (meth := k6m0) (c := k6c0) (by decide +kernel) rfl rfl rfl (by decide +kernel)
set_option maxRecDepth 65536 in
theorem w_c2 : (Jvm.Cond.code ({ cls := "com/example/numtrie/numtrie/index/FieldTermsInsertionSortPinLaw", name := "cx", desc := "([IIII)V" } : Jvm.MethodName) method_2_code (5 : Nat) (Option.none : Option Jvm.ClassFile.FieldType)).before args0 about1 = true := code_word (m := ⟨1, 1⟩) (meth := k1m1) (c := k1c1) (by decide +kernel) rfl rfl rfl (by decide +kernel)
def codes1 : List Jvm.Cond := [Jvm.Cond.code x code maxLocals ret, Jvm.Cond.code ({ cls := "com/example/numtrie/numtrie/index/FieldTerms", name := "insertionSort", desc := "([III)V" } : Jvm.MethodName) prog_83_method_18_code (6 : Nat) (Option.none : Option Jvm.ClassFile.FieldType), Jvm.Cond.code ({ cls := "com/example/numtrie/numtrie/index/FieldTermsInsertionSortPinLaw", name := "cx", desc := "([IIII)V" } : Jvm.MethodName) method_2_code (5 : Nat) (Option.none : Option Jvm.ClassFile.FieldType)]
set_option maxRecDepth 65536 in
theorem codes_eq : words1.filter isCode = codes1 := rfl
theorem w_codes : ∀ c ∈ words1.filter isCode, c.before args0 about1 = true := by
  rw [codes_eq]
  intro c hc
  simp only [codes1, List.mem_cons, List.not_mem_nil, or_false] at hc
  rcases hc with rfl | rfl | rfl
  · exact w_c0
  · exact w_c1
  · exact w_c2
set_option maxRecDepth 65536 in
theorem w_t1 : words1.all (fun c => isCode c || c.before args0 about1) = true := by decide +kernel
theorem w_tables : (allAtoms (Jvm.Cond.code x code maxLocals ret :: tables_1)).before args0 about1 = true := by
  rw [allAtoms_all]
  show words1.all (fun c => c.before args0 about1) = true
  refine all_split ?_ w_codes
  rw [w_t1]
set_option maxRecDepth 65536 in
theorem w_case : (Jvm.Cond.and given_1 narrow_1).before args0 about1 = true := by decide +kernel
theorem w_applies : (headSpec (Jvm.Cond.code x code maxLocals ret :: tables_1) room_1).applies x e0.platform about1 = true :=
  (Spec.applies_iff w_frames).mpr ⟨w_running, w_runnable, w_alone, w_named, w_hears, w_ripe, w_room, w_tables⟩
theorem atStart : AtStart classFile x code maxLocals ret World_1 tables_1 room_1 Calls_1 rest_1 Pre_1 launch0 p0 e0 about1 theMethod args0 below0 :=
  ⟨lists_1, trivial, launch0.admits_env _ _ _, launch0.least_env, fairChoices_fair.cas, fairChoices_fair.clock, w_frames, w_args, w_heap, w_applies, trivial, trivial, w_case⟩
end start1
theorem witness_1 : WitnessClaimed_1 := ⟨start1.p0, start1.e0, start1.about1, start1.theMethod, start1.args0, start1.below0, start1.atStart⟩
end Jvm.Pilot.@@N@@
