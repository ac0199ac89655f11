import JvmDerived
import JvmDerived.Pilot.@@N@@Statement
import JvmDerived.Pilot.@@N@@Code
set_option linter.unusedVariables false
set_option linter.unusedSimpArgs false
@@BLOCK:NumsL.lean.txt@@
@@BLOCK:Masks.lean.txt@@
namespace Jvm.RoadKit
open Sem ClassFile Op Lib Jvm.Stand Jvm.Free Jvm.LawKit
section OwnGo
variable {p : Program} {l : Launch} {e : Env} {R : Room} {s : State} {m : MethodId} {args : Array Value} {below : List Frame} {meth : Method} {c : Code} {T : State} {locs : List Loc} {cells slots : Nat} {Z : State} {a0 : Array Value} {h : Heap}
/-- from A the run comes to an end of which P holds -/
def Go (p : Program) (e : Env) (below : List Frame) (P : State → Outcome → Prop) (A : State) : Prop := ∃ t o, Steps p.tables e below A t ∧ t.status = .running ∧ Ended t below o ∧ P t o
theorem Go.st {P : State → Outcome → Prop} {A B : State} (st : ∀ t, Steps p.tables e below A t → Steps p.tables e below B t) (k : Go p e below P A) : Go p e below P B := by
  obtain ⟨t, o, h1, h2⟩ := k
  exact ⟨t, o, st t h1, h2⟩
theorem Go.tr {P : State → Outcome → Prop} {A B : State} (st : Steps p.tables e below B A) (k : Go p e below P A) : Go p e below P B := Go.st (fun _ h => st.trans h) k
def Pst (s : State) (Q : Option Value → Heap → List Loc → Prop) (C S : Nat) : State → Outcome → Prop := fun t o => ∃ v L, o = .returned v ∧ Q v t.heap L ∧ FrameEnd s o t L C S
/-- a method's contract at the heap h0, for the arguments as -/
def Ct (l : Launch) (y : MethodName) (bytes : ByteArray) (maxL : Nat) (ret : Option FieldType) (ws : List Cond) (rm : Room) (Z : State) (as : Array Value) (h0 : Heap) (Q : Option Value → Heap → List Loc → Prop) : Prop :=
  MetFree l y (head1 (Cond.code y bytes maxL ret :: ws) rm) (fun a U => a = as ∧ Z.Warmed39 U.vm ∧ U.heap = h0) (fun _ _ _ _ _ => True) (fun _ U o U' => ∃ v L, o = .returned v ∧ Q v U'.heap L ∧ FrameEnd U o U' L rm.cells rm.slots)
theorem Ct.of {y : MethodName} {bytes : ByteArray} {maxL : Nat} {ret : Option FieldType} {ws : List Cond} {rm : Room} {as : Array Value} {h0 : Heap} {Q : Option Value → Heap → List Loc → Prop} {Ls : Array Slot}
    (hpl : plainFor y = true) (hef : ∀ m, entryFrame m as maxL = mkF m 0 Ls [])
    (body : ∀ (p : Program) (e : Env) (s : State) (m : MethodId) (below : List Frame) (meth : Method) (c : Code) (T : State), Stand p l e rm s m as below meth c T [] 0 0 → p.tables.exec = Jvm.exec → c.code = bytes → c.maxLocals = maxL → meth.sig.returnType = ret → meth.locks = false → s.vm.findClass y.cls = some m.cls → meth.name = y.name → Z.Warmed39 s.vm → T.heap = h0 →
      ∀ P : State → Outcome → Prop, P = Pst s Q rm.cells rm.slots → Go p e below P (T.setTop (mkF m 0 Ls []))) : Ct l y bytes maxL ret ws rm Z as h0 Q := by
  refine MetFree.of_bodySF hpl hisR ?_
  intro p e s m args below meth c s₁ Bd hml0 hP hK
  obtain ⟨rfl, hZ, hh⟩ := hP
  have X0 : Stand p l e rm s m args below meth c s₁ [] 0 0 := Stand.of_body Bd
  obtain ⟨t, o, h1, h2⟩ := body p e s m below meth c s₁ X0 Bd.exec Bd.bytes hml0 Bd.returns Bd.notSynchronized (findClass_of_methodNamed Bd.named) (name_of_methodNamed Bd.named Bd.method).1 hZ (by rw [← hh, Bd.state]; rfl) _ rfl
  exact ⟨t, o, castTop (hef m) h1, h2⟩
theorem goRet {t : FieldType} {i : Instr} {v w : Value} {pc : Nat} {Ls : Array Slot} {rest : List Value} {Q : Option Value → Heap → List Loc → Prop} {C S : Nat}
    (X : Stand p l e R s m args below meth c T locs cells slots) (hret : meth.sig.returnType = some t) (hlk : meth.locks = false)
    (st : ∀ {fs : List Frame}, (∀ (f : JFrame) (acts : List Action), f.method = m → f.locked = none → f.entered = [] → (doReturn e (T.setTop f) acts (some w)).1 = T.setFrames fs) → Steps p.tables e below (T.setTop (mkF m pc Ls (v :: rest))) (T.setFrames fs))
    (hc : cells ≤ C) (hs : slots ≤ S) (hQ : Q (some w) T.heap locs) : Go p e below (Pst s Q C S) (T.setTop (mkF m pc Ls (v :: rest))) := by
  obtain ⟨fs, hr, hrun, hended, hW, hsame⟩ := X.leave (v := some w) (fun h => by rw [hret] at h; cases h) hlk
  exact ⟨_, _, st hr, hrun, hended, _, _, rfl, hQ, ⟨_, rfl⟩, hW, hsame.mono hc hs⟩
theorem retI (X : Stand p l e R s m args below meth c T locs cells slots) (hx : p.tables.exec = Jvm.exec) {pc : Nat} {Ls : Array Slot} {z : Int32} {rest : List Value} (hret : meth.sig.returnType = some .int) (hd : decode c.code pc = .ok (.ireturn, 1)) {fs : List Frame}
    (hl : ∀ (f : JFrame) (acts : List Action), f.method = m → f.locked = none → f.entered = [] → (doReturn e (T.setTop f) acts (some (.int z))).1 = T.setFrames fs) : Steps p.tables e below (T.setTop (mkF m pc Ls (.int z :: rest))) (T.setFrames fs) :=
  retOut X hx hret rfl (Or.inl ⟨rfl, Or.inl rfl, z, rfl⟩) hd hl
theorem goI {pc : Nat} {Ls : Array Slot} {z : Int32} {rest : List Value} {Q : Option Value → Heap → List Loc → Prop} {C S : Nat} {P : State → Outcome → Prop}
    (X : Stand p l e R s m args below meth c T locs cells slots) (hx : p.tables.exec = Jvm.exec) (hret : meth.sig.returnType = some .int) (hlk : meth.locks = false) (hd : decode c.code pc = .ok (.ireturn, 1))
    (hP : P = Pst s Q C S) (hc : cells ≤ C) (hs : slots ≤ S) (hQ : Q (some (.int z)) T.heap locs) : Go p e below P (T.setTop (mkF m pc Ls (.int z :: rest))) := by
  subst hP
  exact goRet (i := .ireturn) X hret hlk (fun hr => retI X hx hret hd hr) hc hs hQ
theorem goN {pc : Nat} {Ls : Array Slot} {z : Int32} {t : FieldType} {rest : List Value} {Q : Option Value → Heap → List Loc → Prop} {C S : Nat} {P : State → Outcome → Prop}
    (X : Stand p l e R s m args below meth c T locs cells slots) (hx : p.tables.exec = Jvm.exec) (hret : meth.sig.returnType = some t) (ht : t = .boolean ∨ t = .byte ∨ t = .char ∨ t = .short) (hlk : meth.locks = false) (hd : decode c.code pc = .ok (.ireturn, 1))
    (hP : P = Pst s Q C S) (hc : cells ≤ C) (hs : slots ≤ S) (hQ : Q (some (.int (nar t z))) T.heap locs) : Go p e below P (T.setTop (mkF m pc Ls (.int z :: rest))) := by
  subst hP
  exact goRet (i := .ireturn) X hret hlk (fun hr => retN X hx hret ht hd hr) hc hs hQ
theorem goJ {pc : Nat} {Ls : Array Slot} {z : Int64} {rest : List Value} {Q : Option Value → Heap → List Loc → Prop} {C S : Nat} {P : State → Outcome → Prop}
    (X : Stand p l e R s m args below meth c T locs cells slots) (hx : p.tables.exec = Jvm.exec) (hret : meth.sig.returnType = some .long) (hlk : meth.locks = false) (hd : decode c.code pc = .ok (.lreturn, 1))
    (hP : P = Pst s Q C S) (hc : cells ≤ C) (hs : slots ≤ S) (hQ : Q (some (.long z)) T.heap locs) : Go p e below P (T.setTop (mkF m pc Ls (.long z :: rest))) := by
  subst hP
  exact goRet (i := .lreturn) X hret hlk (fun hr => retOut X hx hret rfl (Or.inr (Or.inl ⟨rfl, rfl, z, rfl⟩)) hd hr) hc hs hQ
theorem goA {pc : Nat} {Ls : Array Slot} {z : Addr} {t : FieldType} {rest : List Value} {Q : Option Value → Heap → List Loc → Prop} {C S : Nat} {P : State → Outcome → Prop}
    (X : Stand p l e R s m args below meth c T locs cells slots) (hx : p.tables.exec = Jvm.exec) (hret : meth.sig.returnType = some t) (ht : t.isReference = true) (hn : narrow t (.ref z) = .ref z) (hlk : meth.locks = false) (hd : decode c.code pc = .ok (.areturn, 1))
    (hP : P = Pst s Q C S) (hc : cells ≤ C) (hs : slots ≤ S) (hQ : Q (some (.ref z)) T.heap locs) : Go p e below P (T.setTop (mkF m pc Ls (.ref z :: rest))) := by
  subst hP
  exact goRet (i := .areturn) X hret hlk (fun hr => retOut X hx hret hn (Or.inr (Or.inr (Or.inr (Or.inr ⟨rfl, ht, rfl⟩)))) hd hr) hc hs hQ
theorem goV {pc : Nat} {Ls : Array Slot} {Q : Option Value → Heap → List Loc → Prop} {C S : Nat} {P : State → Outcome → Prop}
    (X : Stand p l e R s m args below meth c T locs cells slots) (hx : p.tables.exec = Jvm.exec) (hret : meth.sig.returnType = none) (hlk : meth.locks = false) (hd : decode c.code pc = .ok (.return_, 1))
    (hP : P = Pst s Q C S) (hc : cells ≤ C) (hs : slots ≤ S) (hQ : Q none T.heap locs) : Go p e below P (T.setTop (mkF m pc Ls [])) := by
  subst hP
  obtain ⟨fs, hr, hrun, hended, hW, hsame⟩ := X.leave (v := none) (fun _ => rfl) hlk
  exact ⟨_, _, X.returnOut hx hret hd hr, hrun, hended, _, _, rfl, hQ, ⟨_, rfl⟩, hW, hsame.mono hc hs⟩
/-- a static call by its contract -/
theorem callCt (X : Stand p l e R s m args below meth c T locs cells slots) (hx : p.tables.exec = Jvm.exec) (hZ : Z.Warmed39 s.vm) (eT : T.heap = h) {own : String} {index : Nat} {y : MethodName} {bytes : ByteArray} {maxL : Nat} {ret : Option FieldType} {rm : Room} {Q : Option Value → Heap → List Loc → Prop} {argsL rest : List Value}
    (hown : s.vm.findClass own = some m.cls) (w1 : (Cond.methodLink own index y).before a0 Z = true) (w2 : (Cond.static y).before a0 Z = true) (w3 : (Cond.initialized y.cls).before a0 Z = true) (w4 : (Cond.code y bytes maxL ret).before a0 Z = true)
    (hy : y.cls ≠ "java/lang/invoke/MethodHandle" ∧ y.cls ≠ "java/lang/invoke/VarHandle") (hM : Ct l y bytes maxL ret [] rm Z argsL.toArray h Q) {W : Nat} (hf : rm.frames + 1 ≤ R.frames) (hl : W + (maxL + 11) + rm.locals ≤ R.locals)
    {g : JFrame} (hg : g.method = m) (hsize : g.locals.size = c.maxLocals) (hlen : ∀ sig, parseMethodDescriptor y.desc = some sig → argsL.length = sig.parameters.length) (hstack : g.stack = argsL.reverse ++ rest) (hW : 2 * g.monitorRoom + (rest.map fun v => v.category).sum ≤ W)
    (hdg : decode c.code g.pc = .ok (.invokestatic index, 3)) (hc : cells + rm.cells ≤ R.cells) (hs : slots + rm.slots ≤ R.slots) :
    ∃ (v : Option Value) (T' : State) (L : List Loc), Stand p l e R s m args below meth c T' (locs ++ L) (cells + rm.cells) (slots + rm.slots) ∧ Q v T'.heap L ∧ ∀ target, Steps p.tables e below (T'.setTop { g with pc := g.pc + 3, stack := v.toList ++ rest }) target → Steps p.tables e below (T.setTop g) target := by
  subst eT
  obtain ⟨v, _, ⟨T', L', k', n'⟩, -, X', ⟨Lc, hQ, l18, y18, z18⟩, st⟩ := Jvm.LawKit.callS X hx (y := y) hown (mvT hZ w1) (mvT hZ w2) (mvT hZ w3) (mvT hZ w4) hy (backOf (W := W) hM hZ w4 w3 hf hl) hg hsize hlen hstack hW hdg (fun _ _ => ⟨rfl, rfl, hc, hs⟩)
  dsimp only [Pt.U, Pt.locs, Pt.cells, Pt.slots] at X' l18 y18 z18 st hQ
  subst l18 y18 z18
  exact ⟨v, T', Lc, X', hQ, st⟩
/-- a constructor by its contract -/
theorem callCtor (X : Stand p l e R s m args below meth c T locs cells slots) (hx : p.tables.exec = Jvm.exec) (hZ : Z.Warmed39 s.vm) (eT : T.heap = h) {own : String} {index : Nat} {y : MethodName} (hy1 : y.name = "<init>") {bytes : ByteArray} {maxL : Nat} {rm : Room} {Q : Option Value → Heap → List Loc → Prop} {a : Addr} {argsL rest : List Value}
    (hown : s.vm.findClass own = some m.cls) (w1 : (Cond.methodLink own index y).before a0 Z = true) (w2 : (Cond.instanceMethod y).before a0 Z = true) (w3 : (Cond.initialized y.cls).before a0 Z = true) (w4 : (Cond.code y bytes maxL none).before a0 Z = true)
    (hy : y.cls ≠ "java/lang/invoke/MethodHandle" ∧ y.cls ≠ "java/lang/invoke/VarHandle") (hM : Ct l y bytes maxL none [] rm Z (.ref a :: argsL).toArray h Q) {W : Nat} (hf : rm.frames + 1 ≤ R.frames) (hl : W + (maxL + 11) + rm.locals ≤ R.locals)
    {g : JFrame} (hg : g.method = m) (hsize : g.locals.size = c.maxLocals) (hlen : ∀ sig, parseMethodDescriptor y.desc = some sig → argsL.length = sig.parameters.length) (hstack : g.stack = argsL.reverse ++ .ref a :: rest) (hW : 2 * g.monitorRoom + (rest.map fun v => v.category).sum ≤ W)
    (hdg : decode c.code g.pc = .ok (.invokespecial index, 3)) (hc : cells + rm.cells ≤ R.cells) (hs : slots + rm.slots ≤ R.slots) :
    ∃ (v : Option Value) (T' : State) (L : List Loc), Stand p l e R s m args below meth c T' (locs ++ L) (cells + rm.cells) (slots + rm.slots) ∧ Q v T'.heap L ∧ ∀ target, Steps p.tables e below (T'.setTop { g with pc := g.pc + 3, stack := v.toList ++ rest }) target → Steps p.tables e below (T.setTop g) target := by
  subst eT
  obtain ⟨v, _, ⟨T', L', k', n'⟩, -, X', ⟨Lc, hQ, l18, y18, z18⟩, st⟩ := X.specialBack hx (y := y) hy1 hown (mvT hZ w1) (mvT hZ w2) (mvT hZ w4) hy (backOf (W := W) hM hZ w4 w3 hf hl) hg hsize (Steps.refl _) hlen hstack hW hdg (fun _ _ => ⟨rfl, rfl, hc, hs⟩)
  dsimp only [Pt.U, Pt.locs, Pt.cells, Pt.slots] at X' l18 y18 z18 st hQ
  subst l18 y18 z18
  exact ⟨v, T', Lc, X', hQ, fun _ k => st.trans k⟩
/-- an instance method that its own class selects, by its contract -/
theorem callCv (X : Stand p l e R s m args below meth c T locs cells slots) (hx : p.tables.exec = Jvm.exec) (hZ : Z.Warmed39 s.vm) (eT : T.heap = h) {own : String} {index : Nat} {y : MethodName} {bytes : ByteArray} {maxL : Nat} {ret : Option FieldType} {rm : Room} {Q : Option Value → Heap → List Loc → Prop} {a : Addr} {argsL rest : List Value}
    (hown : s.vm.findClass own = some m.cls) (w1 : (Cond.methodLink own index y).before a0 Z = true) (w5 : (Cond.declares y).before a0 Z = true) (w6 : (Cond.selects y.cls y y).before a0 Z = true) (w2 : (Cond.instanceMethod y).before a0 Z = true) (w3 : (Cond.initialized y.cls).before a0 Z = true) (w4 : (Cond.code y bytes maxL ret).before a0 Z = true)
    (hy : y.cls ≠ "java/lang/invoke/MethodHandle" ∧ y.cls ≠ "java/lang/invoke/VarHandle") (E : Exa Z h a y.cls) (hM : Ct l y bytes maxL ret [] rm Z (.ref a :: argsL).toArray h Q) {W : Nat} (hf : rm.frames + 1 ≤ R.frames) (hl : W + (maxL + 11) + rm.locals ≤ R.locals)
    {g : JFrame} (hg : g.method = m) (hsize : g.locals.size = c.maxLocals) (hlen : ∀ sig, parseMethodDescriptor y.desc = some sig → argsL.length = sig.parameters.length) (hstack : g.stack = argsL.reverse ++ .ref a :: rest) (hW : 2 * g.monitorRoom + (rest.map fun v => v.category).sum ≤ W)
    (hdg : decode c.code g.pc = .ok (.invokevirtual index, 3)) (hc : cells + rm.cells ≤ R.cells) (hs : slots + rm.slots ≤ R.slots) :
    ∃ (v : Option Value) (T' : State) (L : List Loc), Stand p l e R s m args below meth c T' (locs ++ L) (cells + rm.cells) (slots + rm.slots) ∧ Q v T'.heap L ∧ ∀ target, Steps p.tables e below (T'.setTop { g with pc := g.pc + 3, stack := v.toList ++ rest }) target → Steps p.tables e below (T.setTop g) target := by
  subst eT
  obtain ⟨cq, kq, qa, qb, qc⟩ := isOf hZ rfl E
  obtain ⟨v, _, ⟨T', L', k', n'⟩, -, X', ⟨Lc, hQ, l18, y18, z18⟩, st⟩ := X.virtualBack hx (y := y) (z := y) hown (mvT hZ w1) (mvT hZ w5) (notFace_of_selects (args := #[]) (mvT hZ w6)) (mvT hZ w6) (mvT hZ w2) hy (backOf (W := W) hM hZ w4 w3 hf hl) qa qc hg hsize (Steps.refl _) hlen hstack hW hdg (fun _ _ => ⟨rfl, rfl, hc, hs⟩)
  dsimp only [Pt.U, Pt.locs, Pt.cells, Pt.slots] at X' l18 y18 z18 st hQ
  subst l18 y18 z18
  exact ⟨v, T', Lc, X', hQ, fun _ k => st.trans k⟩
/-- a private instance method by its contract -/
theorem callCp (X : Stand p l e R s m args below meth c T locs cells slots) (hx : p.tables.exec = Jvm.exec) (hZ : Z.Warmed39 s.vm) (eT : T.heap = h) {own : String} {index : Nat} {y : MethodName} {bytes : ByteArray} {maxL k : Nat} {ret : Option FieldType} {rm : Room} {Q : Option Value → Heap → List Loc → Prop} {a : Addr} {argsL rest : List Value}
    (hown : s.vm.findClass own = some m.cls) (w1 : (Cond.methodLink own index y).before a0 Z = true) (w2 : (Cond.instanceMethod y).before a0 Z = true) (w7 : (Cond.privateMethod y).before a0 Z = true) (wi : (Cond.instantiable y.cls k).before a0 Z = true) (w3 : (Cond.initialized y.cls).before a0 Z = true) (w4 : (Cond.code y bytes maxL ret).before a0 Z = true)
    (hy : y.cls ≠ "java/lang/invoke/MethodHandle" ∧ y.cls ≠ "java/lang/invoke/VarHandle") (E : Exa Z h a y.cls) (hM : Ct l y bytes maxL ret [] rm Z (.ref a :: argsL).toArray h Q) {W : Nat} (hf : rm.frames + 1 ≤ R.frames) (hl : W + (maxL + 11) + rm.locals ≤ R.locals)
    {g : JFrame} (hg : g.method = m) (hsize : g.locals.size = c.maxLocals) (hlen : ∀ sig, parseMethodDescriptor y.desc = some sig → argsL.length = sig.parameters.length) (hstack : g.stack = argsL.reverse ++ .ref a :: rest) (hW : 2 * g.monitorRoom + (rest.map fun v => v.category).sum ≤ W)
    (hdg : decode c.code g.pc = .ok (.invokevirtual index, 3)) (hc : cells + rm.cells ≤ R.cells) (hs : slots + rm.slots ≤ R.slots) :
    ∃ (v : Option Value) (T' : State) (L : List Loc), Stand p l e R s m args below meth c T' (locs ++ L) (cells + rm.cells) (slots + rm.slots) ∧ Q v T'.heap L ∧ ∀ target, Steps p.tables e below (T'.setTop { g with pc := g.pc + 3, stack := v.toList ++ rest }) target → Steps p.tables e below (T.setTop g) target := by
  subst eT
  obtain ⟨cq, q1, q2⟩ := E.cell
  have hpriv : s.PrivateAt y := Cond.privateMethod_at (mvP hZ w7 (args := #[]))
  obtain ⟨cc, kk, i1, i2, -, i4, -⟩ := Cond.instantiable_spec (mvT (args := args) hZ wi)
  have hni : kk.isInterface = false := by simp only [Bool.or_eq_false_iff] at i4; exact i4.1
  have hsel := selects_self_of_private (args := args) i1 i2 hni hpriv (mvT hZ w2) hy
  obtain ⟨v, _, ⟨T', L', k', n'⟩, -, X', ⟨Lc, hQ, l18, y18, z18⟩, st⟩ := X.privateBack hx (y := y) hown (mvT hZ w1) (mvT hZ w2) hsel hpriv (mvT hZ w4) hy (backOf (W := W) hM hZ w4 w3 hf hl) hg hsize (Steps.refl _) q1 q2 hlen hstack hW hdg (fun _ _ => ⟨rfl, rfl, hc, hs⟩)
  dsimp only [Pt.U, Pt.locs, Pt.cells, Pt.slots] at X' l18 y18 z18 st hQ
  subst l18 y18 z18
  exact ⟨v, T', Lc, X', hQ, fun _ k => st.trans k⟩
end OwnGo
end Jvm.RoadKit
namespace Jvm.RoadKit
open Sem ClassFile Op Lib Jvm.Stand Jvm.Free Jvm.LawKit
section OwnAry
variable {p : Program} {l : Launch} {e : Env} {R : Room} {s : State} {m : MethodId} {args : Array Value} {below : List Frame} {meth : Method} {c : Code} {T : State} {locs : List Loc} {cells slots : Nat} {Z : State} {a0 : Array Value} {h h' : Heap} {a b : Addr} {ws : List Addr}
/-- the int j is the natural i -/
def IsN (j : Int32) (i : Nat) : Prop := ¬ j < 0 ∧ j.toNatClampNeg = i
def updN {α : Type} (f : Nat → α) (i : Nat) (x : α) : Nat → α := fun k => if k = i then x else f k
theorem updN_hit {α : Type} (f : Nat → α) (i : Nat) (x : α) : updN f i x i = x := if_pos rfl
theorem updN_miss {α : Type} {f : Nat → α} {i k : Nat} {x : α} (q : k ≠ i) : updN f i x k = f k := if_neg q
theorem isN_ofNat {n : Nat} (q : n < 2 ^ 31) : IsN (Int32.ofNat n) n := by
  have e : (Int32.ofNat n).toInt = n := len_toInt q
  exact ⟨by simp only [Int32.lt_iff_toInt_lt, e, Int32.reduceToInt]; omega, by simp only [Int32.toNatClampNeg, e]; omega⟩
theorem isN_of {j : Int32} {n : Nat} (q : j.toInt = n) : IsN j n :=
  ⟨by simp only [Int32.lt_iff_toInt_lt, q, Int32.reduceToInt]; omega, by simp only [Int32.toNatClampNeg, q]; omega⟩
theorem IsN.toInt {j : Int32} {n : Nat} (q : IsN j n) : j.toInt = n := by
  obtain ⟨q1, q2⟩ := q
  simp only [Int32.lt_iff_toInt_lt, Int32.reduceToInt, Int32.toNatClampNeg] at q1 q2; omega
/-- the array at a: of ty, n places; the place i holds mk (f i) -/
def Ary {α : Type} (Z : State) (h : Heap) (a : Addr) (ty : FieldType) (mk : α → Value) (n : Nat) (f : Nat → α) : Prop := ∃ c : Cell, Arr Z h a c ty ∧ c.slots.size = n ∧ n < 2 ^ 31 ∧ ∀ i, i < n → c.slots[i]? = some (mk (f i))
variable {α : Type} {ty : FieldType} {mk : α → Value} {n : Nat} {f f' : Nat → α}
theorem Ary.lt (V : Ary Z h a ty mk n f) : a < h.size := by obtain ⟨c, A, -⟩ := V; exact A.lt
theorem Ary.ext (V : Ary Z h a ty mk n f) (E : Ext h h') : Ary Z h' a ty mk n f := by obtain ⟨c, A, r⟩ := V; exact ⟨c, A.ext E, r⟩
theorem Ary.other {sl : Nat} {v : Value} (V : Ary Z h b ty mk n f) (W : Wr h h' a sl v) (q : b ≠ a) : Ary Z h' b ty mk n f := by obtain ⟨c, A, r⟩ := V; exact ⟨c, A.other W q, r⟩
theorem Ary.keep (V : Ary Z h a ty mk n f) (K : Keep h h' ws) (q : a ∉ ws) : Ary Z h' a ty mk n f := by obtain ⟨c, A, r⟩ := V; exact ⟨c, ⟨K.2.1 a c A.1 q, A.2⟩, r⟩
theorem Ary.congr (V : Ary Z h a ty mk n f) (q : ∀ i, i < n → f i = f' i) : Ary Z h a ty mk n f' := by
  obtain ⟨c, A, S, B, H⟩ := V; exact ⟨c, A, S, B, fun i hi => by rw [← q i hi]; exact H i hi⟩
theorem Ary.small (V : Ary Z h a ty mk n f) : n < 2 ^ 31 := by obtain ⟨c, A, S, B, H⟩ := V; exact B
theorem Ary.set {i : Nat} {x : α} (V : Ary Z h a ty mk n f) (W : Wr h h' a i (mk x)) : Ary Z h' a ty mk n (updN f i x) := by
  obtain ⟨c, A, S, B, H⟩ := V
  refine ⟨c.setSlot i (mk x), A.same W, by rw [sz_set]; exact S, B, fun k hk => ?_⟩
  by_cases e : k = i
  · subst e
    rw [updN_hit]
    exact Array.getElem?_setIfInBounds_self_of_lt (by omega)
  · rw [updN_miss e]
    exact (Array.getElem?_setIfInBounds_ne (Ne.symm e)).trans (H k hk)
theorem Ary.ne {C : String} {k : Nat} (V : Ary Z h a ty mk n f) (E : Exa Z h b C) (wi : (Cond.instantiable C k).before a0 Z = true) : b ≠ a := by
  obtain ⟨c, A, -⟩ := V; exact ne_arr E wi A
theorem Ary.new {k : ClassId} {z : Int32} {d : α} (A : Arr Z h a (newA k ty z) ty) (hz : IsN z n) (hd : defaultValue ty = mk d) : Ary Z h a ty mk n (fun _ => d) := by
  obtain ⟨h1, rfl⟩ := hz
  exact ⟨_, A, sz_new _ _ _, (back32 h1).2, fun i hi => by simp [newA, hi, hd]⟩
theorem aryLen (X : Stand p l e R s m args below meth c T locs cells slots) (hx : p.tables.exec = Jvm.exec) (hZ : Z.Warmed39 s.vm) (eT : T.heap = h) (V : Ary Z h a ty mk n f) {g : JFrame} (hg : g.method = m) {rest : List Value} (hs : g.stack = .ref a :: rest) (hd : decode c.code g.pc = .ok (.arraylength, 1)) :
    ∀ t, Steps p.tables e below (T.setTop { g with pc := g.pc + 1, stack := .int (Int32.ofNat n) :: rest }) t → Steps p.tables e below (T.setTop g) t := by
  obtain ⟨c', A, S, B, H⟩ := V
  intro t k
  exact X.arraylength hx (by rw [eT]; exact A.1) (State.isArrayOf_alike hZ.alike A.2.1) hg hs hd t (by rw [S]; exact k)
theorem aryLdI {f : Nat → Int32} (X : Stand p l e R s m args below meth c T locs cells slots) (hx : p.tables.exec = Jvm.exec) (hZ : Z.Warmed39 s.vm) (eT : T.heap = h) (V : Ary Z h a .int Value.int n f) {j : Int32} {i : Nat} (hj : IsN j i) (hi : i < n) {g : JFrame} (hg : g.method = m) {rest : List Value} (hs : g.stack = .int j :: .ref a :: rest) (hd : decode c.code g.pc = .ok (.iaload, 1)) :
    ∀ t, Steps p.tables e below (T.setTop { g with pc := g.pc + 1, stack := .int (f i) :: rest }) t → Steps p.tables e below (T.setTop g) t := by
  obtain ⟨c', A, S, B, H⟩ := V
  obtain ⟨h1, rfl⟩ := hj
  exact fun t k => X.iaload hx (by rw [eT]; exact A.1) (State.isArrayOf_alike hZ.alike A.2.1) A.2.2 (fun q => q.elim h1 (fun q => by omega)) (H _ hi) hg hs hd t k
theorem aryLdJ {f : Nat → Int64} (X : Stand p l e R s m args below meth c T locs cells slots) (hx : p.tables.exec = Jvm.exec) (hZ : Z.Warmed39 s.vm) (eT : T.heap = h) (V : Ary Z h a .long Value.long n f) {j : Int32} {i : Nat} (hj : IsN j i) (hi : i < n) {g : JFrame} (hg : g.method = m) {rest : List Value} (hs : g.stack = .int j :: .ref a :: rest) (hd : decode c.code g.pc = .ok (.laload, 1)) :
    ∀ t, Steps p.tables e below (T.setTop { g with pc := g.pc + 1, stack := .long (f i) :: rest }) t → Steps p.tables e below (T.setTop g) t := by
  obtain ⟨c', A, S, B, H⟩ := V
  obtain ⟨h1, rfl⟩ := hj
  exact fun t k => X.laload hx (by rw [eT]; exact A.1) (State.isArrayOf_alike hZ.alike A.2.1) A.2.2 (fun q => q.elim h1 (fun q => by omega)) (H _ hi) hg hs hd t k
theorem aryLdB {f : Nat → Int32} (X : Stand p l e R s m args below meth c T locs cells slots) (hx : p.tables.exec = Jvm.exec) (hZ : Z.Warmed39 s.vm) (eT : T.heap = h) (V : Ary Z h a .byte Value.int n f) {j : Int32} {i : Nat} (hj : IsN j i) (hi : i < n) {g : JFrame} (hg : g.method = m) {rest : List Value} (hs : g.stack = .int j :: .ref a :: rest) (hd : decode c.code g.pc = .ok (.baload, 1)) :
    ∀ t, Steps p.tables e below (T.setTop { g with pc := g.pc + 1, stack := .int (f i) :: rest }) t → Steps p.tables e below (T.setTop g) t := by
  obtain ⟨c', A, S, B, H⟩ := V
  obtain ⟨h1, rfl⟩ := hj
  exact fun t k => X.baloadBytes hx (by rw [eT]; exact A.1) (State.isArrayOf_alike hZ.alike A.2.1) A.2.2 (fun q => q.elim h1 (fun q => by omega)) (H _ hi) hg hs hd t k
theorem aryStI {f : Nat → Int32} (X : Stand p l e R s m args below meth c T locs cells slots) (hx : p.tables.exec = Jvm.exec) (hZ : Z.Warmed39 s.vm) (eT : T.heap = h) (V : Ary Z h a .int Value.int n f) {j x : Int32} {i : Nat} (hj : IsN j i) (hi : i < n) {g : JFrame} (hg : g.method = m) {rest : List Value} (hs : g.stack = .int x :: .int j :: .ref a :: rest) (hd : decode c.code g.pc = .ok (.iastore, 1)) :
    ∃ T' h', Stand p l e R s m args below meth c T' (locs ++ [⟨a, i⟩]) cells slots ∧ T'.heap = h' ∧ Wr h h' a i (.int x) ∧ Ary Z h' a .int Value.int n (updN f i x) ∧ ∀ target, Steps p.tables e below (T'.setTop { g with pc := g.pc + 1, stack := rest }) target → Steps p.tables e below (T.setTop g) target := by
  obtain ⟨c', A, S, B, H⟩ := id V
  obtain ⟨h1, rfl⟩ := hj
  obtain ⟨T', h', X', e', W', st⟩ := stI X hx hZ eT A (fun q => q.elim h1 (fun q => by omega)) hg hs hd
  exact ⟨T', h', X', e', W', V.set (mk := Value.int) W', st⟩
theorem aryStJ {f : Nat → Int64} (X : Stand p l e R s m args below meth c T locs cells slots) (hx : p.tables.exec = Jvm.exec) (hZ : Z.Warmed39 s.vm) (eT : T.heap = h) (V : Ary Z h a .long Value.long n f) {j : Int32} {x : Int64} {i : Nat} (hj : IsN j i) (hi : i < n) {g : JFrame} (hg : g.method = m) {rest : List Value} (hs : g.stack = .long x :: .int j :: .ref a :: rest) (hd : decode c.code g.pc = .ok (.lastore, 1)) :
    ∃ T' h', Stand p l e R s m args below meth c T' (locs ++ [⟨a, i⟩]) cells slots ∧ T'.heap = h' ∧ Wr h h' a i (.long x) ∧ Ary Z h' a .long Value.long n (updN f i x) ∧ ∀ target, Steps p.tables e below (T'.setTop { g with pc := g.pc + 1, stack := rest }) target → Steps p.tables e below (T.setTop g) target := by
  obtain ⟨c', A, S, B, H⟩ := id V
  obtain ⟨h1, rfl⟩ := hj
  obtain ⟨T', h', X', e', W', st⟩ := stJ X hx hZ eT A (fun q => q.elim h1 (fun q => by omega)) hg hs hd
  exact ⟨T', h', X', e', W', V.set (mk := Value.long) W', st⟩
theorem aryStB {f : Nat → Int32} (X : Stand p l e R s m args below meth c T locs cells slots) (hx : p.tables.exec = Jvm.exec) (hZ : Z.Warmed39 s.vm) (eT : T.heap = h) (V : Ary Z h a .byte Value.int n f) {j x : Int32} {i : Nat} (hj : IsN j i) (hi : i < n) {g : JFrame} (hg : g.method = m) {rest : List Value} (hs : g.stack = .int x :: .int j :: .ref a :: rest) (hd : decode c.code g.pc = .ok (.bastore, 1)) :
    ∃ T' h', Stand p l e R s m args below meth c T' (locs ++ [⟨a, i⟩]) cells slots ∧ T'.heap = h' ∧ Wr h h' a i (.int x.toInt8.toInt32) ∧ Ary Z h' a .byte Value.int n (updN f i x.toInt8.toInt32) ∧ ∀ target, Steps p.tables e below (T'.setTop { g with pc := g.pc + 1, stack := rest }) target → Steps p.tables e below (T.setTop g) target := by
  obtain ⟨c', A, S, B, H⟩ := id V
  obtain ⟨h1, rfl⟩ := hj
  obtain ⟨T', h', X', e', W', st⟩ := stB X hx hZ eT A (fun q => q.elim h1 (fun q => by omega)) hg hs hd
  exact ⟨T', h', X', e', W', V.set (mk := Value.int) W', st⟩
theorem aryStZ {f : Nat → Int32} (X : Stand p l e R s m args below meth c T locs cells slots) (hx : p.tables.exec = Jvm.exec) (hZ : Z.Warmed39 s.vm) (eT : T.heap = h) (V : Ary Z h a .boolean Value.int n f) {j x : Int32} {i : Nat} (hj : IsN j i) (hi : i < n) {g : JFrame} (hg : g.method = m) {rest : List Value} (hs : g.stack = .int x :: .int j :: .ref a :: rest) (hd : decode c.code g.pc = .ok (.bastore, 1)) :
    ∃ T' h', Stand p l e R s m args below meth c T' (locs ++ [⟨a, i⟩]) cells slots ∧ T'.heap = h' ∧ Wr h h' a i (.int (x &&& 1)) ∧ Ary Z h' a .boolean Value.int n (updN f i (x &&& 1)) ∧ ∀ target, Steps p.tables e below (T'.setTop { g with pc := g.pc + 1, stack := rest }) target → Steps p.tables e below (T.setTop g) target := by
  obtain ⟨c', A, S, B, H⟩ := id V
  obtain ⟨h1, rfl⟩ := hj
  obtain ⟨T', h', X', e', W', st⟩ := stZ X hx hZ eT A (fun q => q.elim h1 (fun q => by omega)) hg hs hd
  exact ⟨T', h', X', e', W', V.set (mk := Value.int) W', st⟩
end OwnAry
end Jvm.RoadKit
namespace Jvm.Kit
open Jvm.RoadKit
theorem own_gt (x y : Int64) : (0 : Int32) < lcmpW x y ↔ y.toInt < x.toInt := by
  rw [← Int64.lt_iff_toInt_lt]; unfold lcmpW
  by_cases h : y < x
  · simp [h]
  · by_cases h2 : x = y
    · subst h2; simp
    · simp [h, h2]
theorem own_lt (x y : Int64) : lcmpW x y < (0 : Int32) ↔ x.toInt < y.toInt := by
  have e : x.toInt < y.toInt ↔ ¬ y < x ∧ x ≠ y := by
    rw [Int64.lt_iff_toInt_lt, ne_eq, ← Int64.toInt_inj]; omega
  rw [e]; unfold lcmpW
  by_cases h : y < x
  · simp [h]
  · by_cases h2 : x = y
    · subst h2; simp
    · simp [h, h2]
theorem own_ceq (x y : Int64) : lcmpW x y = (0 : Int32) ↔ x = y := by
  unfold lcmpW
  by_cases h : y < x
  · simp [h]; intro q; subst q; exact absurd h (by simp)
  · by_cases h2 : x = y
    · subst h2; simp
    · simp [h, h2]
theorem own_lti {x : Int32} {r : Int32} {k : Int} (e : r.toInt = k) : x < r ↔ x.toInt < k := by rw [Int32.lt_iff_toInt_lt, e]
theorem own_gti {x : Int32} {r : Int32} {k : Int} (e : r.toInt = k) : r < x ↔ k < x.toInt := by rw [Int32.lt_iff_toInt_lt, e]
theorem own_m (a : Int32) : 0 ≤ (a &&& (2147483647 : Int32)).toInt := by
  have h := i32_and_bounds a (m := 2147483647) (by decide)
  rw [Kit.i32_nonneg] at h; exact h.1
theorem own_mk (a : Int32) {k : Int32} {n : Int} (hk : 0 ≤ k) (e : k.toInt = n) : 0 ≤ (a &&& k).toInt ∧ (a &&& k).toInt ≤ n := by
  have h := i32_and_bounds a hk
  rw [Kit.i32_nonneg, Int32.le_iff_toInt_le, e] at h; exact h
theorem own_rem {a b : Int32} (ha : 0 ≤ a.toInt) (hb : 0 < b.toInt) : 0 ≤ (a % b).toInt ∧ (a % b).toInt < b.toInt := by
  rw [i32_rem_nonneg ha]; exact ⟨Int.emod_nonneg _ (by omega), Int.emod_lt_of_pos _ hb⟩
theorem own_one : (1 : Int32).toInt = 1 := by decide
theorem own_zero : (0 : Int32).toInt = 0 := by decide
theorem own_zero64 : (0 : Int64).toInt = 0 := by decide
theorem own_one64 : (1 : Int64).toInt = 1 := by decide
theorem own_nz {a : Int32} (h : 0 < a.toInt) : a ≠ 0 := fun q => by rw [q] at h; exact absurd h (by decide)
end Jvm.Kit
namespace Jvm.Kit
theorem own_succ (i : Nat) : Int32.ofNat i + (1 : Int32) = Int32.ofNat (i + 1) := by rw [Int32.ofNat_add]; rfl
theorem own_tn {n : Nat} (q : n < 2 ^ 31) : (Int32.ofNat n).toInt = n := Jvm.RoadKit.len_toInt q
theorem own_ltN {i n : Nat} (hi : i < 2 ^ 31) (hn : n < 2 ^ 31) : Int32.ofNat i < Int32.ofNat n ↔ i < n := by
  rw [Int32.lt_iff_toInt_lt, own_tn hi, own_tn hn]; omega
theorem own_nat {j : Int32} (h : 0 ≤ j.toInt) : ∃ n : Nat, j = Int32.ofNat n ∧ n < 2 ^ 31 ∧ j.toInt = n := by
  have := j.toInt_lt
  have hn : j.toInt.toNat < 2 ^ 31 := by omega
  exact ⟨j.toInt.toNat, Int32.toInt_inj.mp (by rw [own_tn hn]; omega), hn, by omega⟩
end Jvm.Kit
namespace Jvm.RoadKit
open Sem ClassFile Op Lib Jvm.Stand Jvm.Free Jvm.LawKit
section OwnCopy
variable {p : Program} {l : Launch} {e : Env} {R : Room} {s : State} {m : MethodId} {args : Array Value} {below : List Frame} {meth : Method} {c : Code} {T : State} {locs : List Loc} {cells slots : Nat} {Z : State} {a0 : Array Value} {h h' : Heap} {a b : Addr} {ws : List Addr}
/-- the object at a is of the class of int arrays -/
def ClsI (Z : State) (h : Heap) (a : Addr) : Prop := ∃ cell : Cell, h[a]? = some cell ∧ Z.vm.findClass "[I" = some cell.cls
theorem ClsI.ext (F : ClsI Z h a) (E : Ext h h') : ClsI Z h' a := by obtain ⟨c, h1, h2⟩ := F; exact ⟨c, E.2 _ _ h1, h2⟩
theorem ClsI.wr {sl : Nat} {v : Value} (F : ClsI Z h b) (W : Wr h h' a sl v) : ClsI Z h' b := by
  obtain ⟨c, h1, h2⟩ := F
  obtain ⟨c', e1, e2, -⟩ := wr_at W h1
  exact ⟨c', e1, by rw [e2]; exact h2⟩
theorem ClsI.keep (F : ClsI Z h a) (K : Keep h h' ws) : ClsI Z h' a := by
  obtain ⟨c, h1, h2⟩ := F
  obtain ⟨c', e1, e2, -⟩ := K.2.2 a c h1
  exact ⟨c', e1, by rw [e2]; exact h2⟩
theorem newI (X : Stand p l e R s m args below meth c T locs cells slots) (hx : p.tables.exec = Jvm.exec) (hZ : Z.Warmed39 s.vm) (w : (Cond.arrayClass .int).before a0 Z = true) (eT : T.heap = h) {n : Nat} {j : Int32} (hj : j = Int32.ofNat n) (hn : n ≤ 134217728)
    {g : JFrame} (hg : g.method = m) (hd : decode c.code g.pc = .ok (.newarray .int, 2)) {rest : List Value} (hs : g.stack = .int j :: rest) (hc : cells + 1 ≤ R.cells) (hl : slots + n ≤ R.slots) :
    ∃ T' h', Stand p l e R s m args below meth c T' locs (cells + 1) (slots + n) ∧ T'.heap = h' ∧ Ext h h' ∧ Ary Z h' h.size .int Value.int n (fun _ => (0 : Int32)) ∧ ClsI Z h' h.size ∧
      ∀ target, Steps p.tables e below (T'.setTop { g with pc := g.pc + 2, stack := .ref h.size :: rest }) target → Steps p.tables e below (T.setTop g) target := by
  obtain ⟨T', B, X', A, hB, -, hp, hf, st⟩ := X.anew hx (atype := .int) (mvA hZ w) hj (by show n * 4 ≤ _; omega) (by omega) hg hd hs hc hl
  subst eT
  have hal : Z.vm.Alike T'.vm := hZ.alike.trans X'.warmed.alike
  have hN : T'.heap[T.heap.size]? = some B := by rw [hp]; simp
  refine ⟨T', _, X', rfl, ext_of fun a q => ?_, ⟨B, ⟨hN, State.isArrayOf_alike hal.symm A.2.1, A.2.2.1⟩, by rw [hB]; simp, by omega, fun i hi => by rw [hB]; simp [newarray.typeOf, defaultValue, hi]⟩, ⟨B, hN, ?_⟩, st⟩
  · rw [hp]; exact Array.getElem?_push_lt q |>.trans (Array.getElem?_eq_getElem q).symm
  · rw [← hZ.alike.findClass]; exact hf
theorem callCopy (X : Stand p l e R s m args below meth c T locs cells slots) (hx : p.tables.exec = Jvm.exec) (hZ : Z.Warmed39 s.vm) (eT : T.heap = h) {k n W index : Nat} {f : Nat → Int32} (V : Ary Z h a .int Value.int k f) (K : ClsI Z h a) (hn : n ≤ 134217728)
    {own : String} (hown : s.vm.findClass own = some m.cls) (w1 : (Cond.methodLink own index JA.CopyOfI.yN).before a0 Z = true) (w2 : (Cond.static JA.CopyOfI.yN).before a0 Z = true) (w3 : (Cond.initialized "java/util/Arrays").before a0 Z = true) (w4 : (Cond.code JA.CopyOfI.yN JA.CopyOfI.yB 3 (some (.array .int))).before a0 Z = true)
    (hsite : ∀ w ∈ JA.CopyOfI.site, w.before args s = true) (hf : 2 ≤ R.frames) (hlo : W + 54 ≤ R.locals)
    {g : JFrame} (hg : g.method = m) (hsize : g.locals.size = c.maxLocals) {rest : List Value} (hs : g.stack = .int (Int32.ofNat n) :: .ref a :: rest) (hW : 2 * g.monitorRoom + (rest.map fun v => v.category).sum ≤ W) (hd : decode c.code g.pc = .ok (.invokestatic index, 3)) (hc : cells + 1 ≤ R.cells) (hl : slots + n ≤ R.slots) :
    ∃ T' h', Stand p l e R s m args below meth c T' locs (cells + 1) (slots + n) ∧ T'.heap = h' ∧ Ext h h' ∧ Ary Z h' h.size .int Value.int n (fun i => if i < k then f i else (0 : Int32)) ∧ ClsI Z h' h.size ∧
      ∀ target, Steps p.tables e below (T'.setTop { g with pc := g.pc + 3, stack := .ref h.size :: rest }) target → Steps p.tables e below (T.setTop g) target := by
  subst eT
  obtain ⟨A, hA, hsz, hk, hv⟩ := V
  obtain ⟨A', q1, q2⟩ := K
  cases hA.1.symm.trans q1
  have htab : JA.CopyOfI.tab.before args s = true := XT.unparts (mvT hZ w4) (fun w hw => by
    rcases List.mem_cons.mp hw with rfl | hw
    · exact mvT hZ w3
    · exact hsite w hw)
  have hP : ∀ vm₁ : Vm, s.WarmedH vm₁ → JA.CopyOfI.P a A n [Value.ref a, .int (Int32.ofNat n)].toArray (T.setVm vm₁) := fun vm₁ hw => by
    have hal : Z.vm.Alike vm₁ := hZ.alike.trans hw.alike
    refine ⟨rfl, ⟨hA.1, State.isArrayOf_alike hal hA.2.1, hA.2.2, by omega⟩, ?_, fun i v hi => ?_, hn⟩
    · show vm₁.findClass "[I" = _
      rw [hal.findClass]; exact q2
    · have hlt := (Array.getElem?_eq_some_iff.mp hi).1
      cases hi.symm.trans (hv i (by omega)); rfl
  obtain ⟨v, vm₁, ⟨T', L', k', n'⟩, hw1, X', ⟨hE, l18, y18, z18⟩, st⟩ := Jvm.LawKit.callS X hx (y := JA.CopyOfI.yN) hown (mvT hZ w1) (mvT hZ w2) (mvT hZ w3) (mvT hZ w4) (by decide) (JA.CopyOfI.pays (W := W) (len := 3) a A n htab hf hlo) hg hsize (argsL := [.ref a, .int (Int32.ofNat n)]) (rest := rest) (lenOf (ps := [.array .int, .int]) (r := some (.array .int)) (by decide +kernel) rfl) hs hW hd (fun vm₁ hw => ⟨hc, hl, hP vm₁ hw⟩)
  dsimp only [Pt.U, Pt.locs, Pt.cells, Pt.slots] at X' l18 y18 z18 st hE
  subst l18 y18 z18
  obtain ⟨rfl, B, b1, b2, b3, b4, b5, b6⟩ := hE
  have hal : Z.vm.Alike T'.vm := hZ.alike.trans X'.warmed.alike
  refine ⟨T', _, by simpa using X', rfl, ⟨?_, fun x cx hx => b6 x cx hx⟩, ⟨B, ⟨b1.1, State.isArrayOf_alike hal.symm b1.2.1, b1.2.2.1⟩, b4, by omega, fun i hi => ?_⟩, ⟨B, b1.1, by rw [← hal.findClass]; exact b3⟩, st⟩
  · have := (Array.getElem?_eq_some_iff.mp b1.1).1
    exact Nat.le_of_lt this
  · rw [b5 i hi]
    show some (A.slots.getD i (defaultValue .int)) = some (Value.int (if i < k then f i else 0))
    by_cases q : i < k
    · rw [if_pos q]
      have := hv i q
      simp [Array.getD_eq_getD_getElem?, this]
    · rw [if_neg q]
      simp [Array.getD_eq_getD_getElem?, Array.getElem?_eq_none (show A.slots.size ≤ i by omega), defaultValue]
end OwnCopy
end Jvm.RoadKit
namespace Jvm.Pilot.@@N@@
open Jvm Jvm.ClassFile Sem Op Lib Jvm.Free Jvm.Stand Jvm.LawKit Jvm.RoadKit Bundle Jvm.Pilot.@@N@@.Jvm.D
open Jvm.Kit
def own_IL (Z : State) (h : Heap) (n0 : Nat) (b : Addr) (len cap : Nat) (xs : Nat → Int32) : Prop := ∃ (t : Addr) (f : Nat → Int32), Exa Z h b "com/example/cartulary/cartulary/seda/IntList" ∧ Fld Z h b "com/example/cartulary/cartulary/seda/IntList" "values" "[I" (.ref t) ∧ Fld Z h b "com/example/cartulary/cartulary/seda/IntList" "size" "I" (.int (Int32.ofNat len)) ∧ Ary Z h t .int Value.int cap f ∧ ClsI Z h t ∧ n0 ≤ t ∧ len ≤ cap ∧ ∀ i, i < len → f i = xs i
theorem own_site {Z s : State} {a0 args : Array Value} (hZ : Z.Warmed39 s.vm) (hw : ∀ d ∈ tables_1, d.before a0 Z = true) : ∀ w ∈ JA.CopyOfI.site, w.before args s = true :=
  List.forall_mem_cons.mpr ⟨mvT hZ (hw _ (List.mem_of_getElem? (i := 59) rfl)), List.forall_mem_cons.mpr ⟨mvT hZ (hw _ (List.mem_of_getElem? (i := 60) rfl)), List.forall_mem_cons.mpr ⟨mvA hZ (hw _ (List.mem_of_getElem? (i := 9) rfl)), List.forall_mem_cons.mpr ⟨XT.unparts (mvT hZ (hw _ (List.mem_of_getElem? (i := 36) rfl))) (List.forall_mem_cons.mpr ⟨mvT hZ (hw _ (List.mem_of_getElem? (i := 35) rfl)), fun _ q => nomatch q⟩), List.forall_mem_cons.mpr ⟨mvT hZ (hw _ (List.mem_of_getElem? (i := 52) rfl)), List.forall_mem_cons.mpr ⟨mvT hZ (hw _ (List.mem_of_getElem? (i := 53) rfl)), List.forall_mem_cons.mpr ⟨mvT hZ (hw _ (List.mem_of_getElem? (i := 57) rfl)), List.forall_mem_cons.mpr ⟨mvT hZ (hw _ (List.mem_of_getElem? (i := 55) rfl)), List.forall_mem_cons.mpr ⟨mvT hZ (hw _ (List.mem_of_getElem? (i := 56) rfl)), List.forall_mem_cons.mpr ⟨mvT hZ (hw _ (List.mem_of_getElem? (i := 58) rfl)), List.forall_mem_cons.mpr ⟨mvT hZ (hw _ (List.mem_of_getElem? (i := 33) rfl)), List.forall_mem_cons.mpr ⟨mvT hZ (hw _ (List.mem_of_getElem? (i := 34) rfl)), List.forall_mem_cons.mpr ⟨mvT hZ (hw _ (List.mem_of_getElem? (i := 37) rfl)), List.forall_mem_cons.mpr ⟨mvT hZ (hw _ (List.mem_of_getElem? (i := 40) rfl)), List.forall_mem_cons.mpr ⟨mvT hZ (hw _ (List.mem_of_getElem? (i := 38) rfl)), List.forall_mem_cons.mpr ⟨mvT hZ (hw _ (List.mem_of_getElem? (i := 39) rfl)), fun _ q => nomatch q⟩⟩⟩⟩⟩⟩⟩⟩⟩⟩⟩⟩⟩⟩⟩⟩
theorem own_grow : ∀ n : Fin 4, (Int32.ofNat n + (Int32.ofNat n >>> ((1 : Int32) &&& 31))) + (1 : Int32) = Int32.ofNat ((n : Nat) + (n : Nat) / 2 + 1) := by decide +kernel
theorem own_ofn {n k : Nat} (hn : n < 2 ^ 31) (hk : k < 2 ^ 31) (h : Int32.ofNat n = Int32.ofNat k) : n = k := by
  have := congrArg Int32.toInt h
  rw [own_tn hn, own_tn hk] at this; omega
theorem own_t5 (z : Int32) : z = 0 ∨ z = 1 ∨ z = 2 ∨ z = 3 ∨ (¬ z = 0 ∧ ¬ z = 1 ∧ ¬ z = 2 ∧ ¬ z = 3) := by
  by_cases h0 : z = 0
  · exact Or.inl h0
  · by_cases h1 : z = 1
    · exact Or.inr (Or.inl h1)
    · by_cases h2 : z = 2
      · exact Or.inr (Or.inr (Or.inl h2))
      · by_cases h3 : z = 3
        · exact Or.inr (Or.inr (Or.inr (Or.inl h3)))
        · exact Or.inr (Or.inr (Or.inr (Or.inr ⟨h0, h1, h2, h3⟩)))
theorem d_prog_30_method_1_0 : decode prog_30_method_1_code 0 = .ok (.aload_n 0, 1) := by decide +kernel
theorem d_prog_30_method_1_1 : decode prog_30_method_1_code 1 = .ok (.invokespecial 1, 3) := by decide +kernel
theorem d_prog_30_method_1_4 : decode prog_30_method_1_code 4 = .ok (.aload_n 0, 1) := by decide +kernel
theorem d_prog_30_method_1_5 : decode prog_30_method_1_code 5 = .ok (.sipush 1024, 3) := by decide +kernel
theorem d_prog_30_method_1_8 : decode prog_30_method_1_code 8 = .ok (.newarray .int, 2) := by decide +kernel
theorem d_prog_30_method_1_10 : decode prog_30_method_1_code 10 = .ok (.putfield 7, 3) := by decide +kernel
theorem d_prog_30_method_1_13 : decode prog_30_method_1_code 13 = .ok (.return_, 1) := by decide +kernel
theorem pn_0 : plainName "com/example/cartulary/cartulary/seda/IntList" = true := by first | (simp [plainName, overriddenIn]; done) | decide +kernel
theorem ef_rmI (m : MethodId) (b : Addr) : entryFrame m #[(.ref b)] 1 = mkF m 0 #[.val (.ref b)] [] := by first | (simp [entryFrame, mkF, argsToLocals, Value.category]; done) | rfl
set_option maxRecDepth 65536 in
set_option maxHeartbeats 40000000 in
theorem rmI (l : Launch) (Z : State) (a0 : Array Value) (hw : ∀ d ∈ tables_1, d.before a0 Z = true) (b : Addr)  (h0 : Heap) (n0 : Nat) (Z0 : n0 ≤ h0.size) (Eb : Exa Z h0 b "com/example/cartulary/cartulary/seda/IntList") (Fv : Fld Z h0 b "com/example/cartulary/cartulary/seda/IntList" "values" "[I" .null) (Fs : Fld Z h0 b "com/example/cartulary/cartulary/seda/IntList" "size" "I" (.int (0 : Int32))) (Gb : n0 ≤ b) :
    Ct l (⟨"com/example/cartulary/cartulary/seda/IntList", "<init>", "()V"⟩ : MethodName) prog_30_method_1_code 1 none [] ({ frames := 1, cells := 1, slots := 1024, locals := 12 } : Room) Z #[(.ref b)] h0 (fun v h L => v = none ∧ Fr n0 L ∧ h0.size ≤ h.size ∧ own_IL Z h n0 b 0 1024 (fun _ => (0 : Int32))) := by
  refine Ct.of (plainFor_of_name pn_0) (fun m => ef_rmI m b) ?_
  intro p e s m below meth c T0 X0 hx hby hml hret hlk hown hnm hZ e0 P hP
  refine Go.st (fun _ kt => XS.aloadN X0.here hx rfl (hb hby d_prog_30_method_1_0) rfl rfl kt) ?_
  show Go p e below P (T0.setTop (mkF m 1 #[.val (.ref b)] [(.ref b)]))
  obtain ⟨T1, X1, e1, st1⟩ := initO X0 hx hZ hown (hw _ (List.mem_of_getElem? (i := 6) rfl)) (hw _ (List.mem_of_getElem? (i := 7) rfl)) (hw _ (List.mem_of_getElem? (i := 8) rfl)) e0 (g := (mkF m 1 #[.val (.ref b)] [(.ref b)])) rfl (by rw [hml]; rfl) rfl (hb hby d_prog_30_method_1_1) (by decide) (W := 0) (by show 2 * 0 + _ ≤ _; exact Nat.le_of_eq rfl) (by decide)
  refine Go.st st1 ?_
  show Go p e below P (T1.setTop (mkF m 4 #[.val (.ref b)] []))
  refine Go.st (fun _ kt => XS.aloadN X1.here hx rfl (hb hby d_prog_30_method_1_4) rfl rfl (XS.sipush X1.here hx rfl (hb hby d_prog_30_method_1_5) kt)) ?_
  show Go p e below P (T1.setTop (mkF m 8 #[.val (.ref b)] [(.int (1024 : Int32)), (.ref b)]))
  obtain ⟨T2, h2, X2, e2, E2, V2, C2, st2⟩ := newI X1 hx hZ (hw _ (List.mem_of_getElem? (i := 9) rfl)) e1 (n := 1024) rfl (by decide) (g := (mkF m 8 #[.val (.ref b)] [(.int (1024 : Int32)), (.ref b)])) rfl (hb hby d_prog_30_method_1_8) rfl (by decide) (by decide)
  obtain ⟨b2, g2⟩ : ∃ z, z = h0.size := ⟨_, rfl⟩
  rw [← g2] at V2 C2 st2
  have ne3 : b ≠ b2 := Nat.ne_of_lt (Nat.lt_of_lt_of_le Eb.lt (Nat.le_of_eq g2.symm))
  have G2 : n0 ≤ b2 := Nat.le_trans Z0 (Nat.le_of_eq g2.symm)
  have SZ2 : h0.size ≤ b2 := Nat.le_trans (Keep.refl h0 [b]).1 (Nat.le_of_eq g2.symm)
  have K4 := Keep.ext (Keep.refl h0 [b]) E2
  have Z5 := Nat.le_trans Z0 E2.1
  refine Go.st st2 ?_
  show Go p e below P (T2.setTop (mkF m 10 #[.val (.ref b)] [(.ref b2), (.ref b)]))
  have f7 := (Fv.ext E2)
  have f8 := (Eb.ext E2)
  obtain ⟨T6, h6, X6, e6, W6, st6⟩ := putF X2 hx hZ hown (host := "") (Or.inl (hw _ (List.mem_of_getElem? (i := 10) rfl))) Via.refl e2 f7 f8 (Or.inl (hw _ (List.mem_of_getElem? (i := 11) rfl))) (hw _ (List.mem_of_getElem? (i := 1) rfl)) (ty := (.array .int)) (by decide) rfl rfl (g := (mkF m 10 #[.val (.ref b)] [(.ref b2), (.ref b)])) rfl rfl (hb hby d_prog_30_method_1_10)
  have Fw6 := Fld.same W6 f7
  have K9 := Keep.wr K4 W6 (Or.inl (List.mem_of_getElem? (i := 0) rfl))
  have Z10 : n0 ≤ h6.size := by rw [W6.size]; exact Z5
  have N11 := Fr.snoc X6 (Fr.nil n0) Gb
  refine Go.st st6 ?_
  show Go p e below P (T6.setTop (mkF m 13 #[.val (.ref b)] []))
  have f12 := (f8.wr W6)
  have f13 := ((Fs.ext E2).other W6 (Or.inr (slot_ne (Or.inl (hw _ (List.mem_of_getElem? (i := 18) rfl))) (Or.inl (hw _ (List.mem_of_getElem? (i := 11) rfl))) (by decide) (t := .int) (t' := (.array .int)) (by decide) (by decide))))
  have f14 := (V2.other W6 (Ne.symm ne3))
  have f15 := (C2.wr W6)
  exact goV X6 hx hret hlk (hb hby d_prog_30_method_1_13) hP (by decide) (by decide) (by rw [e6]; exact ⟨rfl, N11, K9.1, b2, _, f12, Fw6, f13, f14, f15, G2, by decide, fun i hi => by omega⟩)
theorem d_prog_30_method_2_0 : decode prog_30_method_2_code 0 = .ok (.aload_n 0, 1) := by decide +kernel
theorem d_prog_30_method_2_1 : decode prog_30_method_2_code 1 = .ok (.getfield 13, 3) := by decide +kernel
theorem d_prog_30_method_2_4 : decode prog_30_method_2_code 4 = .ok (.aload_n 0, 1) := by decide +kernel
theorem d_prog_30_method_2_5 : decode prog_30_method_2_code 5 = .ok (.getfield 7, 3) := by decide +kernel
theorem d_prog_30_method_2_8 : decode prog_30_method_2_code 8 = .ok (.arraylength, 1) := by decide +kernel
theorem d_prog_30_method_2_9 : decode prog_30_method_2_code 9 = .ok (.if_icmp .ne 27, 3) := by decide +kernel
theorem d_prog_30_method_2_12 : decode prog_30_method_2_code 12 = .ok (.aload_n 0, 1) := by decide +kernel
theorem d_prog_30_method_2_13 : decode prog_30_method_2_code 13 = .ok (.aload_n 0, 1) := by decide +kernel
theorem d_prog_30_method_2_14 : decode prog_30_method_2_code 14 = .ok (.getfield 7, 3) := by decide +kernel
theorem d_prog_30_method_2_17 : decode prog_30_method_2_code 17 = .ok (.aload_n 0, 1) := by decide +kernel
theorem d_prog_30_method_2_18 : decode prog_30_method_2_code 18 = .ok (.getfield 13, 3) := by decide +kernel
theorem d_prog_30_method_2_21 : decode prog_30_method_2_code 21 = .ok (.aload_n 0, 1) := by decide +kernel
theorem d_prog_30_method_2_22 : decode prog_30_method_2_code 22 = .ok (.getfield 13, 3) := by decide +kernel
theorem d_prog_30_method_2_25 : decode prog_30_method_2_code 25 = .ok (.iconst 1, 1) := by decide +kernel
theorem d_prog_30_method_2_26 : decode prog_30_method_2_code 26 = .ok (.ishr, 1) := by decide +kernel
theorem d_prog_30_method_2_27 : decode prog_30_method_2_code 27 = .ok (.iadd, 1) := by decide +kernel
theorem d_prog_30_method_2_28 : decode prog_30_method_2_code 28 = .ok (.iconst 1, 1) := by decide +kernel
theorem d_prog_30_method_2_29 : decode prog_30_method_2_code 29 = .ok (.iadd, 1) := by decide +kernel
theorem d_prog_30_method_2_30 : decode prog_30_method_2_code 30 = .ok (.invokestatic 17, 3) := by decide +kernel
theorem d_prog_30_method_2_33 : decode prog_30_method_2_code 33 = .ok (.putfield 7, 3) := by decide +kernel
theorem d_prog_30_method_2_36 : decode prog_30_method_2_code 36 = .ok (.aload_n 0, 1) := by decide +kernel
theorem d_prog_30_method_2_37 : decode prog_30_method_2_code 37 = .ok (.getfield 7, 3) := by decide +kernel
theorem d_prog_30_method_2_40 : decode prog_30_method_2_code 40 = .ok (.aload_n 0, 1) := by decide +kernel
theorem d_prog_30_method_2_41 : decode prog_30_method_2_code 41 = .ok (.getfield 13, 3) := by decide +kernel
theorem d_prog_30_method_2_44 : decode prog_30_method_2_code 44 = .ok (.iload_n 1, 1) := by decide +kernel
theorem d_prog_30_method_2_45 : decode prog_30_method_2_code 45 = .ok (.iastore, 1) := by decide +kernel
theorem d_prog_30_method_2_46 : decode prog_30_method_2_code 46 = .ok (.aload_n 0, 1) := by decide +kernel
theorem d_prog_30_method_2_47 : decode prog_30_method_2_code 47 = .ok (.dup, 1) := by decide +kernel
theorem d_prog_30_method_2_48 : decode prog_30_method_2_code 48 = .ok (.getfield 13, 3) := by decide +kernel
theorem d_prog_30_method_2_51 : decode prog_30_method_2_code 51 = .ok (.iconst 1, 1) := by decide +kernel
theorem d_prog_30_method_2_52 : decode prog_30_method_2_code 52 = .ok (.iadd, 1) := by decide +kernel
theorem d_prog_30_method_2_53 : decode prog_30_method_2_code 53 = .ok (.putfield 13, 3) := by decide +kernel
theorem d_prog_30_method_2_56 : decode prog_30_method_2_code 56 = .ok (.return_, 1) := by decide +kernel
theorem ef_rmA (m : MethodId) (b : Addr) (x0 : Int32) : entryFrame m #[(.ref b), (.int x0)] 2 = mkF m 0 #[.val (.ref b), .val (.int x0)] [] := by first | (simp [entryFrame, mkF, argsToLocals, Value.category]; done) | rfl
set_option maxRecDepth 65536 in
set_option maxHeartbeats 40000000 in
theorem rmA (l : Launch) (Z : State) (a0 : Array Value) (hw : ∀ d ∈ tables_1, d.before a0 Z = true) (b : Addr) (x0 : Int32) (len cap : Nat) (xs : Nat → Int32) (h0 : Heap) (n0 : Nat) (Z0 : n0 ≤ h0.size) (Ib : own_IL Z h0 n0 b len cap xs) (Gb : n0 ≤ b) (hl : len ≤ 3) :
    Ct l (⟨"com/example/cartulary/cartulary/seda/IntList", "add", "(I)V"⟩ : MethodName) prog_30_method_2_code 2 none [] ({ frames := 2, cells := 1, slots := 5, locals := 55 } : Room) Z #[(.ref b), (.int x0)] h0 (fun v h L => v = none ∧ Fr n0 L ∧ h0.size ≤ h.size ∧ ∃ cap', own_IL Z h n0 b (len + 1) cap' (updN xs len x0)) := by
  refine Ct.of (plainFor_of_name pn_0) (fun m => ef_rmA m b x0) ?_
  intro p e s m below meth c T0 X0 hx hby hml hret hlk hown hnm hZ e0 P hP
  obtain ⟨t, f, Eb, Fv, Fs, Vt, Ct', Gt, hlc, hfx⟩ := Ib
  have hcs := Vt.small
  refine Go.st (fun _ kt => XS.aloadN X0.here hx rfl (hb hby d_prog_30_method_2_0) rfl rfl kt) ?_
  show Go p e below P (T0.setTop (mkF m 1 #[.val (.ref b), .val (.int x0)] [(.ref b)]))
  obtain ⟨T1, X1, e1, st1⟩ := getF X0 hx hZ hown (host := "") (Or.inl (hw _ (List.mem_of_getElem? (i := 17) rfl))) Via.refl e0 Fs (g := (mkF m 1 #[.val (.ref b), .val (.int x0)] [(.ref b)])) rfl rfl (hb hby d_prog_30_method_2_1)
  refine Go.st st1 ?_
  show Go p e below P (T1.setTop (mkF m 4 #[.val (.ref b), .val (.int x0)] [(.int (Int32.ofNat len))]))
  refine Go.st (fun _ kt => XS.aloadN X1.here hx rfl (hb hby d_prog_30_method_2_4) rfl rfl kt) ?_
  show Go p e below P (T1.setTop (mkF m 5 #[.val (.ref b), .val (.int x0)] [(.ref b), (.int (Int32.ofNat len))]))
  obtain ⟨T2, X2, e2, st2⟩ := getF X1 hx hZ hown (host := "") (Or.inl (hw _ (List.mem_of_getElem? (i := 10) rfl))) Via.refl e1 Fv (g := (mkF m 5 #[.val (.ref b), .val (.int x0)] [(.ref b), (.int (Int32.ofNat len))])) rfl rfl (hb hby d_prog_30_method_2_5)
  refine Go.st st2 ?_
  show Go p e below P (T2.setTop (mkF m 8 #[.val (.ref b), .val (.int x0)] [(.ref t), (.int (Int32.ofNat len))]))
  refine Go.st (fun _ kt => aryLen X2 hx hZ e2 Vt (g := (mkF m 8 #[.val (.ref b), .val (.int x0)] [(.ref t), (.int (Int32.ofNat len))])) rfl rfl (hb hby d_prog_30_method_2_8) _ kt) ?_
  show Go p e below P (T2.setTop (mkF m 9 #[.val (.ref b), .val (.int x0)] [(.int (Int32.ofNat cap)), (.int (Int32.ofNat len))]))
  by_cases br3 : (Int32.ofNat len) = (Int32.ofNat cap)
  · refine Go.st (fun _ kt => XS.icmpNo X2.here hx rfl (hb hby d_prog_30_method_2_9) rfl (teq br3).2 kt) ?_
    show Go p e below P (T2.setTop (mkF m 12 #[.val (.ref b), .val (.int x0)] []))
    refine Go.st (fun _ kt => XS.aloadN X2.here hx rfl (hb hby d_prog_30_method_2_12) rfl rfl (XS.aloadN X2.here hx rfl (hb hby d_prog_30_method_2_13) rfl rfl kt)) ?_
    show Go p e below P (T2.setTop (mkF m 14 #[.val (.ref b), .val (.int x0)] [(.ref b), (.ref b)]))
    obtain ⟨T4, X4, e4, st4⟩ := getF X2 hx hZ hown (host := "") (Or.inl (hw _ (List.mem_of_getElem? (i := 10) rfl))) Via.refl e2 Fv (g := (mkF m 14 #[.val (.ref b), .val (.int x0)] [(.ref b), (.ref b)])) rfl rfl (hb hby d_prog_30_method_2_14)
    refine Go.st st4 ?_
    show Go p e below P (T4.setTop (mkF m 17 #[.val (.ref b), .val (.int x0)] [(.ref t), (.ref b)]))
    refine Go.st (fun _ kt => XS.aloadN X4.here hx rfl (hb hby d_prog_30_method_2_17) rfl rfl kt) ?_
    show Go p e below P (T4.setTop (mkF m 18 #[.val (.ref b), .val (.int x0)] [(.ref b), (.ref t), (.ref b)]))
    obtain ⟨T5, X5, e5, st5⟩ := getF X4 hx hZ hown (host := "") (Or.inl (hw _ (List.mem_of_getElem? (i := 17) rfl))) Via.refl e4 Fs (g := (mkF m 18 #[.val (.ref b), .val (.int x0)] [(.ref b), (.ref t), (.ref b)])) rfl rfl (hb hby d_prog_30_method_2_18)
    refine Go.st st5 ?_
    show Go p e below P (T5.setTop (mkF m 21 #[.val (.ref b), .val (.int x0)] [(.int (Int32.ofNat len)), (.ref t), (.ref b)]))
    refine Go.st (fun _ kt => XS.aloadN X5.here hx rfl (hb hby d_prog_30_method_2_21) rfl rfl kt) ?_
    show Go p e below P (T5.setTop (mkF m 22 #[.val (.ref b), .val (.int x0)] [(.ref b), (.int (Int32.ofNat len)), (.ref t), (.ref b)]))
    obtain ⟨T6, X6, e6, st6⟩ := getF X5 hx hZ hown (host := "") (Or.inl (hw _ (List.mem_of_getElem? (i := 17) rfl))) Via.refl e5 Fs (g := (mkF m 22 #[.val (.ref b), .val (.int x0)] [(.ref b), (.int (Int32.ofNat len)), (.ref t), (.ref b)])) rfl rfl (hb hby d_prog_30_method_2_22)
    refine Go.st st6 ?_
    show Go p e below P (T6.setTop (mkF m 25 #[.val (.ref b), .val (.int x0)] [(.int (Int32.ofNat len)), (.int (Int32.ofNat len)), (.ref t), (.ref b)]))
    refine Go.st (fun _ kt => XS.iconst X6.here hx rfl (hb hby d_prog_30_method_2_25) (XS.ishr X6.here hx rfl (hb hby d_prog_30_method_2_26) rfl (XS.iadd X6.here hx rfl (hb hby d_prog_30_method_2_27) rfl (XS.iconst X6.here hx rfl (hb hby d_prog_30_method_2_28) (XS.iadd X6.here hx rfl (hb hby d_prog_30_method_2_29) rfl kt))))) ?_
    show Go p e below P (T6.setTop (mkF m 30 #[.val (.ref b), .val (.int x0)] [(.int (((Int32.ofNat len) + ((Int32.ofNat len) >>> ((1 : Int32) &&& 31))) + (1 : Int32))), (.ref t), (.ref b)]))
    rw [own_grow ⟨len, by omega⟩]
    show Go p e below P (T6.setTop (mkF m 30 #[.val (.ref b), .val (.int x0)] [(.int (Int32.ofNat (len + len / 2 + 1))), (.ref t), (.ref b)]))
    have hcap7 : (len + len / 2 + 1) ≤ 5 := (by omega)
    obtain ⟨T7, h7, Y7, e7, E7, V7, C7, st7⟩ := callCopy X6 hx hZ e6 (n := (len + len / 2 + 1)) (W := 1) Vt Ct' (by omega) hown (hw _ (List.mem_of_getElem? (i := 29) rfl)) (hw _ (List.mem_of_getElem? (i := 30) rfl)) (hw _ (List.mem_of_getElem? (i := 31) rfl)) (hw _ (List.mem_of_getElem? (i := 32) rfl)) (own_site hZ hw) (by decide) (by decide) (g := (mkF m 30 #[.val (.ref b), .val (.int x0)] [(.int (Int32.ofNat (len + len / 2 + 1))), (.ref t), (.ref b)])) rfl (by rw [hml]; rfl) (rest := [(.ref b)]) rfl (by show 2 * 0 + _ ≤ _; exact Nat.le_of_eq rfl) (hb hby d_prog_30_method_2_30) (by decide) (Nat.le_trans (Nat.add_le_add_left hcap7 _) (by decide))
    have X7 := Y7.more (Nat.le_refl _) (Nat.add_le_add_left hcap7 _)
    obtain ⟨b7, g7⟩ : ∃ z, z = h0.size := ⟨_, rfl⟩
    rw [← g7] at V7 C7 st7
    have ne8 : b ≠ b7 := Nat.ne_of_lt (Nat.lt_of_lt_of_le Eb.lt (Nat.le_of_eq g7.symm))
    have ne9 : t ≠ b7 := Nat.ne_of_lt (Nat.lt_of_lt_of_le Vt.lt (Nat.le_of_eq g7.symm))
    have G7 : n0 ≤ b7 := Nat.le_trans Z0 (Nat.le_of_eq g7.symm)
    have SZ7 : h0.size ≤ b7 := Nat.le_trans (Keep.refl h0 [b, t]).1 (Nat.le_of_eq g7.symm)
    have K10 := Keep.ext (Keep.refl h0 [b, t]) E7
    have Z11 := Nat.le_trans Z0 E7.1
    refine Go.st st7 ?_
    show Go p e below P (T7.setTop (mkF m 33 #[.val (.ref b), .val (.int x0)] [(.ref b7), (.ref b)]))
    have f13 := (Fv.ext E7)
    have f14 := (Eb.ext E7)
    have f16 := (Vt.ext E7)
    have ne15 := Ary.ne f16 f14 (hw _ (List.mem_of_getElem? (i := 1) rfl))
    obtain ⟨T12, h12, X12, e12, W12, st12⟩ := putF X7 hx hZ hown (host := "") (Or.inl (hw _ (List.mem_of_getElem? (i := 10) rfl))) Via.refl e7 f13 f14 (Or.inl (hw _ (List.mem_of_getElem? (i := 11) rfl))) (hw _ (List.mem_of_getElem? (i := 1) rfl)) (ty := (.array .int)) (by decide) rfl rfl (g := (mkF m 33 #[.val (.ref b), .val (.int x0)] [(.ref b7), (.ref b)])) rfl rfl (hb hby d_prog_30_method_2_33)
    have Fw12 := Fld.same W12 f13
    have K17 := Keep.wr K10 W12 (Or.inl (List.mem_of_getElem? (i := 0) rfl))
    have Z18 : n0 ≤ h12.size := by rw [W12.size]; exact Z11
    have N19 := Fr.snoc X12 (Fr.nil n0) Gb
    refine Go.st st12 ?_
    show Go p e below P (T12.setTop (mkF m 36 #[.val (.ref b), .val (.int x0)] []))
    refine Go.st (fun _ kt => XS.aloadN X12.here hx rfl (hb hby d_prog_30_method_2_36) rfl rfl kt) ?_
    show Go p e below P (T12.setTop (mkF m 37 #[.val (.ref b), .val (.int x0)] [(.ref b)]))
    obtain ⟨T20, X20, e20, st20⟩ := getF X12 hx hZ hown (host := "") (Or.inl (hw _ (List.mem_of_getElem? (i := 10) rfl))) Via.refl e12 Fw12 (g := (mkF m 37 #[.val (.ref b), .val (.int x0)] [(.ref b)])) rfl rfl (hb hby d_prog_30_method_2_37)
    refine Go.st st20 ?_
    show Go p e below P (T20.setTop (mkF m 40 #[.val (.ref b), .val (.int x0)] [(.ref b7)]))
    refine Go.st (fun _ kt => XS.aloadN X20.here hx rfl (hb hby d_prog_30_method_2_40) rfl rfl kt) ?_
    show Go p e below P (T20.setTop (mkF m 41 #[.val (.ref b), .val (.int x0)] [(.ref b), (.ref b7)]))
    have f22 := ((Fs.ext E7).other W12 (Or.inr (slot_ne (Or.inl (hw _ (List.mem_of_getElem? (i := 18) rfl))) (Or.inl (hw _ (List.mem_of_getElem? (i := 11) rfl))) (by decide) (t := .int) (t' := (.array .int)) (by decide) (by decide))))
    obtain ⟨T21, X21, e21, st21⟩ := getF X20 hx hZ hown (host := "") (Or.inl (hw _ (List.mem_of_getElem? (i := 17) rfl))) Via.refl e20 f22 (g := (mkF m 41 #[.val (.ref b), .val (.int x0)] [(.ref b), (.ref b7)])) rfl rfl (hb hby d_prog_30_method_2_41)
    refine Go.st st21 ?_
    show Go p e below P (T21.setTop (mkF m 44 #[.val (.ref b), .val (.int x0)] [(.int (Int32.ofNat len)), (.ref b7)]))
    refine Go.st (fun _ kt => XS.iloadN X21.here hx rfl (hb hby d_prog_30_method_2_44) rfl kt) ?_
    show Go p e below P (T21.setTop (mkF m 45 #[.val (.ref b), .val (.int x0)] [(.int x0), (.int (Int32.ofNat len)), (.ref b7)]))
    have f23 := (V7.other W12 (Ne.symm ne8))
    obtain ⟨T24, h24, X24, e24, W24, V24, st24⟩ := aryStI X21 hx hZ e21 f23 (j := (Int32.ofNat len)) (x := x0) (i := len) (isN_ofNat (by omega)) (by omega) (g := (mkF m 45 #[.val (.ref b), .val (.int x0)] [(.int x0), (.int (Int32.ofNat len)), (.ref b7)])) rfl rfl (hb hby d_prog_30_method_2_45)
    have K25 := Keep.wr K17 W24 (Or.inr SZ7)
    have Z26 : n0 ≤ h24.size := by rw [W24.size]; exact Z18
    have N27 := Fr.snoc X24 N19 G7
    refine Go.st st24 ?_
    show Go p e below P (T24.setTop (mkF m 46 #[.val (.ref b), .val (.int x0)] []))
    refine Go.st (fun _ kt => XS.aloadN X24.here hx rfl (hb hby d_prog_30_method_2_46) rfl rfl (XS.dup X24.here hx rfl (hb hby d_prog_30_method_2_47) rfl rfl kt)) ?_
    show Go p e below P (T24.setTop (mkF m 48 #[.val (.ref b), .val (.int x0)] [(.ref b), (.ref b)]))
    have f29 := (f22.other W24 (Or.inl ne8))
    obtain ⟨T28, X28, e28, st28⟩ := getF X24 hx hZ hown (host := "") (Or.inl (hw _ (List.mem_of_getElem? (i := 17) rfl))) Via.refl e24 f29 (g := (mkF m 48 #[.val (.ref b), .val (.int x0)] [(.ref b), (.ref b)])) rfl rfl (hb hby d_prog_30_method_2_48)
    refine Go.st st28 ?_
    show Go p e below P (T28.setTop (mkF m 51 #[.val (.ref b), .val (.int x0)] [(.int (Int32.ofNat len)), (.ref b)]))
    refine Go.st (fun _ kt => XS.iconst X28.here hx rfl (hb hby d_prog_30_method_2_51) (XS.iadd X28.here hx rfl (hb hby d_prog_30_method_2_52) rfl kt)) ?_
    show Go p e below P (T28.setTop (mkF m 53 #[.val (.ref b), .val (.int x0)] [(.int ((Int32.ofNat len) + (1 : Int32))), (.ref b)]))
    have f31 := ((f14.wr W12).wr W24)
    obtain ⟨T30, h30, X30, e30, W30, st30⟩ := putF X28 hx hZ hown (host := "") (Or.inl (hw _ (List.mem_of_getElem? (i := 17) rfl))) Via.refl e28 f29 f31 (Or.inl (hw _ (List.mem_of_getElem? (i := 18) rfl))) (hw _ (List.mem_of_getElem? (i := 1) rfl)) (ty := .int) (by decide) rfl rfl (g := (mkF m 53 #[.val (.ref b), .val (.int x0)] [(.int ((Int32.ofNat len) + (1 : Int32))), (.ref b)])) rfl rfl (hb hby d_prog_30_method_2_53)
    have Fw30 := Fld.same W30 f29
    have K32 := Keep.wr K25 W30 (Or.inl (List.mem_of_getElem? (i := 0) rfl))
    have Z33 : n0 ≤ h30.size := by rw [W30.size]; exact Z26
    have N34 := Fr.snoc X30 N27 Gb
    refine Go.st st30 ?_
    show Go p e below P (T30.setTop (mkF m 56 #[.val (.ref b), .val (.int x0)] []))
    have f35 := (f31.wr W30)
    have f36 := ((Fw12.other W24 (Or.inl ne8)).other W30 (Or.inr (slot_ne (Or.inl (hw _ (List.mem_of_getElem? (i := 11) rfl))) (Or.inl (hw _ (List.mem_of_getElem? (i := 18) rfl))) (by decide) (t := (.array .int)) (t' := .int) (by decide) (by decide))))
    have f37 := (V24.other W30 (Ne.symm ne8))
    have f38 := (((C7.wr W12).wr W24).wr W30)
    exact goV X30 hx hret hlk (hb hby d_prog_30_method_2_56) hP (by decide) (by decide) (by rw [e30]; exact ⟨rfl, N34, K32.1, _, b7, _, f35, f36, (by rw [← own_succ]; exact Fw30), f37, f38, G7, (show len + 1 ≤ len + len / 2 + 1 by omega), fun i hi => by
        by_cases e : i = len
        · subst e; rw [updN_hit, updN_hit]
        · rw [updN_miss e, updN_miss e]; rw [if_pos (by omega)]; exact hfx i (by omega)⟩)
  · refine Go.st (fun _ kt => XS.icmpYes X2.here hx rfl (pc0 := 9) (pc' := 36) rfl (hb hby d_prog_30_method_2_9) rfl (feq br3).2 (by decide) (by decide) kt) ?_
    show Go p e below P (T2.setTop (mkF m 36 #[.val (.ref b), .val (.int x0)] []))
    refine Go.st (fun _ kt => XS.aloadN X2.here hx rfl (hb hby d_prog_30_method_2_36) rfl rfl kt) ?_
    show Go p e below P (T2.setTop (mkF m 37 #[.val (.ref b), .val (.int x0)] [(.ref b)]))
    obtain ⟨T39, X39, e39, st39⟩ := getF X2 hx hZ hown (host := "") (Or.inl (hw _ (List.mem_of_getElem? (i := 10) rfl))) Via.refl e2 Fv (g := (mkF m 37 #[.val (.ref b), .val (.int x0)] [(.ref b)])) rfl rfl (hb hby d_prog_30_method_2_37)
    refine Go.st st39 ?_
    show Go p e below P (T39.setTop (mkF m 40 #[.val (.ref b), .val (.int x0)] [(.ref t)]))
    refine Go.st (fun _ kt => XS.aloadN X39.here hx rfl (hb hby d_prog_30_method_2_40) rfl rfl kt) ?_
    show Go p e below P (T39.setTop (mkF m 41 #[.val (.ref b), .val (.int x0)] [(.ref b), (.ref t)]))
    obtain ⟨T40, X40, e40, st40⟩ := getF X39 hx hZ hown (host := "") (Or.inl (hw _ (List.mem_of_getElem? (i := 17) rfl))) Via.refl e39 Fs (g := (mkF m 41 #[.val (.ref b), .val (.int x0)] [(.ref b), (.ref t)])) rfl rfl (hb hby d_prog_30_method_2_41)
    refine Go.st st40 ?_
    show Go p e below P (T40.setTop (mkF m 44 #[.val (.ref b), .val (.int x0)] [(.int (Int32.ofNat len)), (.ref t)]))
    refine Go.st (fun _ kt => XS.iloadN X40.here hx rfl (hb hby d_prog_30_method_2_44) rfl kt) ?_
    show Go p e below P (T40.setTop (mkF m 45 #[.val (.ref b), .val (.int x0)] [(.int x0), (.int (Int32.ofNat len)), (.ref t)]))
    have ne42 := Ary.ne Vt Eb (hw _ (List.mem_of_getElem? (i := 1) rfl))
    obtain ⟨T41, h41, X41, e41, W41, V41, st41⟩ := aryStI X40 hx hZ e40 Vt (j := (Int32.ofNat len)) (x := x0) (i := len) (isN_ofNat (by omega)) (by have q : len ≠ cap := fun q => br3 (by rw [q]); omega) (g := (mkF m 45 #[.val (.ref b), .val (.int x0)] [(.int x0), (.int (Int32.ofNat len)), (.ref t)])) rfl rfl (hb hby d_prog_30_method_2_45)
    have K43 := Keep.wr (Keep.refl h0 [b, t]) W41 (Or.inl (List.mem_of_getElem? (i := 1) rfl))
    have Z44 : n0 ≤ h41.size := by rw [W41.size]; exact Z0
    have N45 := Fr.snoc X41 (Fr.nil n0) Gt
    refine Go.st st41 ?_
    show Go p e below P (T41.setTop (mkF m 46 #[.val (.ref b), .val (.int x0)] []))
    refine Go.st (fun _ kt => XS.aloadN X41.here hx rfl (hb hby d_prog_30_method_2_46) rfl rfl (XS.dup X41.here hx rfl (hb hby d_prog_30_method_2_47) rfl rfl kt)) ?_
    show Go p e below P (T41.setTop (mkF m 48 #[.val (.ref b), .val (.int x0)] [(.ref b), (.ref b)]))
    have f47 := (Fs.other W41 (Or.inl ne42))
    obtain ⟨T46, X46, e46, st46⟩ := getF X41 hx hZ hown (host := "") (Or.inl (hw _ (List.mem_of_getElem? (i := 17) rfl))) Via.refl e41 f47 (g := (mkF m 48 #[.val (.ref b), .val (.int x0)] [(.ref b), (.ref b)])) rfl rfl (hb hby d_prog_30_method_2_48)
    refine Go.st st46 ?_
    show Go p e below P (T46.setTop (mkF m 51 #[.val (.ref b), .val (.int x0)] [(.int (Int32.ofNat len)), (.ref b)]))
    refine Go.st (fun _ kt => XS.iconst X46.here hx rfl (hb hby d_prog_30_method_2_51) (XS.iadd X46.here hx rfl (hb hby d_prog_30_method_2_52) rfl kt)) ?_
    show Go p e below P (T46.setTop (mkF m 53 #[.val (.ref b), .val (.int x0)] [(.int ((Int32.ofNat len) + (1 : Int32))), (.ref b)]))
    have f49 := (Eb.wr W41)
    obtain ⟨T48, h48, X48, e48, W48, st48⟩ := putF X46 hx hZ hown (host := "") (Or.inl (hw _ (List.mem_of_getElem? (i := 17) rfl))) Via.refl e46 f47 f49 (Or.inl (hw _ (List.mem_of_getElem? (i := 18) rfl))) (hw _ (List.mem_of_getElem? (i := 1) rfl)) (ty := .int) (by decide) rfl rfl (g := (mkF m 53 #[.val (.ref b), .val (.int x0)] [(.int ((Int32.ofNat len) + (1 : Int32))), (.ref b)])) rfl rfl (hb hby d_prog_30_method_2_53)
    have Fw48 := Fld.same W48 f47
    have K50 := Keep.wr K43 W48 (Or.inl (List.mem_of_getElem? (i := 0) rfl))
    have Z51 : n0 ≤ h48.size := by rw [W48.size]; exact Z44
    have N52 := Fr.snoc X48 N45 Gb
    refine Go.st st48 ?_
    show Go p e below P (T48.setTop (mkF m 56 #[.val (.ref b), .val (.int x0)] []))
    have f53 := (f49.wr W48)
    have f54 := ((Fv.other W41 (Or.inl ne42)).other W48 (Or.inr (slot_ne (Or.inl (hw _ (List.mem_of_getElem? (i := 11) rfl))) (Or.inl (hw _ (List.mem_of_getElem? (i := 18) rfl))) (by decide) (t := (.array .int)) (t' := .int) (by decide) (by decide))))
    have f55 := (V41.other W48 (Ne.symm ne42))
    have f56 := ((Ct'.wr W41).wr W48)
    exact goV X48 hx hret hlk (hb hby d_prog_30_method_2_56) hP (by decide) (by decide) (by rw [e48]; exact ⟨rfl, N52, K50.1, _, t, _, f53, f54, (by rw [← own_succ]; exact Fw48), f55, f56, Gt, (by have q : len ≠ cap := fun q => br3 (by rw [q]); omega), fun i hi => by
        by_cases e : i = len
        · subst e; rw [updN_hit, updN_hit]
        · rw [updN_miss e, updN_miss e]; exact hfx i (by omega)⟩)
theorem d_prog_30_method_5_0 : decode prog_30_method_5_code 0 = .ok (.aload_n 0, 1) := by decide +kernel
theorem d_prog_30_method_5_1 : decode prog_30_method_5_code 1 = .ok (.getfield 7, 3) := by decide +kernel
theorem d_prog_30_method_5_4 : decode prog_30_method_5_code 4 = .ok (.aload_n 0, 1) := by decide +kernel
theorem d_prog_30_method_5_5 : decode prog_30_method_5_code 5 = .ok (.getfield 13, 3) := by decide +kernel
theorem d_prog_30_method_5_8 : decode prog_30_method_5_code 8 = .ok (.invokestatic 17, 3) := by decide +kernel
theorem d_prog_30_method_5_11 : decode prog_30_method_5_code 11 = .ok (.areturn, 1) := by decide +kernel
theorem ef_rmT (m : MethodId) (b : Addr) : entryFrame m #[(.ref b)] 1 = mkF m 0 #[.val (.ref b)] [] := by first | (simp [entryFrame, mkF, argsToLocals, Value.category]; done) | rfl
set_option maxRecDepth 65536 in
set_option maxHeartbeats 40000000 in
theorem rmT (l : Launch) (Z : State) (a0 : Array Value) (hw : ∀ d ∈ tables_1, d.before a0 Z = true) (b : Addr) (len cap : Nat) (xs : Nat → Int32) (h0 : Heap) (n0 : Nat) (Z0 : n0 ≤ h0.size) (Ib : own_IL Z h0 n0 b len cap xs) (hl : len ≤ 4) :
    Ct l (⟨"com/example/cartulary/cartulary/seda/IntList", "toArray", "()[I"⟩ : MethodName) prog_30_method_5_code 1 (some (.array .int)) [] ({ frames := 2, cells := 1, slots := 4, locals := 54 } : Room) Z #[(.ref b)] h0 (fun v h L => ∃ t' : Addr, v = some (.ref t') ∧ Fr n0 L ∧ Keep h0 h [] ∧ Ary Z h t' .int Value.int len xs ∧ ClsI Z h t' ∧ n0 ≤ t' ∧ h0.size ≤ t') := by
  refine Ct.of (plainFor_of_name pn_0) (fun m => ef_rmT m b) ?_
  intro p e s m below meth c T0 X0 hx hby hml hret hlk hown hnm hZ e0 P hP
  obtain ⟨t, f, Eb, Fv, Fs, Vt, Ct', Gt, hlc, hfx⟩ := Ib
  have hcs := Vt.small
  refine Go.st (fun _ kt => XS.aloadN X0.here hx rfl (hb hby d_prog_30_method_5_0) rfl rfl kt) ?_
  show Go p e below P (T0.setTop (mkF m 1 #[.val (.ref b)] [(.ref b)]))
  obtain ⟨T1, X1, e1, st1⟩ := getF X0 hx hZ hown (host := "") (Or.inl (hw _ (List.mem_of_getElem? (i := 10) rfl))) Via.refl e0 Fv (g := (mkF m 1 #[.val (.ref b)] [(.ref b)])) rfl rfl (hb hby d_prog_30_method_5_1)
  refine Go.st st1 ?_
  show Go p e below P (T1.setTop (mkF m 4 #[.val (.ref b)] [(.ref t)]))
  refine Go.st (fun _ kt => XS.aloadN X1.here hx rfl (hb hby d_prog_30_method_5_4) rfl rfl kt) ?_
  show Go p e below P (T1.setTop (mkF m 5 #[.val (.ref b)] [(.ref b), (.ref t)]))
  obtain ⟨T2, X2, e2, st2⟩ := getF X1 hx hZ hown (host := "") (Or.inl (hw _ (List.mem_of_getElem? (i := 17) rfl))) Via.refl e1 Fs (g := (mkF m 5 #[.val (.ref b)] [(.ref b), (.ref t)])) rfl rfl (hb hby d_prog_30_method_5_5)
  refine Go.st st2 ?_
  show Go p e below P (T2.setTop (mkF m 8 #[.val (.ref b)] [(.int (Int32.ofNat len)), (.ref t)]))
  have hcap3 : len ≤ 4 := hl
  obtain ⟨T3, h3, Y3, e3, E3, V3, C3, st3⟩ := callCopy X2 hx hZ e2 (n := len) (W := 0) Vt Ct' (by omega) hown (hw _ (List.mem_of_getElem? (i := 29) rfl)) (hw _ (List.mem_of_getElem? (i := 30) rfl)) (hw _ (List.mem_of_getElem? (i := 31) rfl)) (hw _ (List.mem_of_getElem? (i := 32) rfl)) (own_site hZ hw) (by decide) (by decide) (g := (mkF m 8 #[.val (.ref b)] [(.int (Int32.ofNat len)), (.ref t)])) rfl (by rw [hml]; rfl) (rest := []) rfl (by show 2 * 0 + _ ≤ _; exact Nat.le_of_eq rfl) (hb hby d_prog_30_method_5_8) (by decide) (Nat.le_trans (Nat.add_le_add_left hcap3 _) (by decide))
  have X3 := Y3.more (Nat.le_refl _) (Nat.add_le_add_left hcap3 _)
  obtain ⟨b3, g3⟩ : ∃ z, z = h0.size := ⟨_, rfl⟩
  rw [← g3] at V3 C3 st3
  have ne4 : b ≠ b3 := Nat.ne_of_lt (Nat.lt_of_lt_of_le Eb.lt (Nat.le_of_eq g3.symm))
  have ne5 : t ≠ b3 := Nat.ne_of_lt (Nat.lt_of_lt_of_le Vt.lt (Nat.le_of_eq g3.symm))
  have G3 : n0 ≤ b3 := Nat.le_trans Z0 (Nat.le_of_eq g3.symm)
  have SZ3 : h0.size ≤ b3 := Nat.le_trans (Keep.refl h0 []).1 (Nat.le_of_eq g3.symm)
  have K6 := Keep.ext (Keep.refl h0 []) E3
  have Z7 := Nat.le_trans Z0 E3.1
  refine Go.st st3 ?_
  show Go p e below P (T3.setTop (mkF m 11 #[.val (.ref b)] [(.ref b3)]))
  exact goA X3 hx hret rfl rfl hlk (hb hby d_prog_30_method_5_11) hP (by decide) (by decide) (by rw [e3]; exact ⟨b3, rfl, (Fr.nil n0), K6, Ary.congr V3 (fun i hi => by rw [if_pos (by omega)]; exact hfx i hi), C3, G3, SZ3⟩)
theorem d_prog_30_method_6_0 : decode prog_30_method_6_code 0 = .ok (.aload_n 0, 1) := by decide +kernel
theorem d_prog_30_method_6_1 : decode prog_30_method_6_code 1 = .ok (.aload_n 0, 1) := by decide +kernel
theorem pd_1 : parseMethodDescriptor "()[I" = some ⟨[], some (.array .int)⟩ := by decide +kernel
theorem d_prog_30_method_6_2 : decode prog_30_method_6_code 2 = .ok (.invokevirtual 32, 3) := by decide +kernel
theorem d_prog_30_method_6_5 : decode prog_30_method_6_code 5 = .ok (.putfield 7, 3) := by decide +kernel
theorem d_prog_30_method_6_8 : decode prog_30_method_6_code 8 = .ok (.return_, 1) := by decide +kernel
theorem ef_rmTr (m : MethodId) (b : Addr) : entryFrame m #[(.ref b)] 1 = mkF m 0 #[.val (.ref b)] [] := by first | (simp [entryFrame, mkF, argsToLocals, Value.category]; done) | rfl
set_option maxRecDepth 65536 in
set_option maxHeartbeats 40000000 in
theorem rmTr (l : Launch) (Z : State) (a0 : Array Value) (hw : ∀ d ∈ tables_1, d.before a0 Z = true) (b : Addr) (len cap : Nat) (xs : Nat → Int32) (h0 : Heap) (n0 : Nat) (Z0 : n0 ≤ h0.size) (Ib : own_IL Z h0 n0 b len cap xs) (Gb : n0 ≤ b) (hl : len ≤ 4) :
    Ct l (⟨"com/example/cartulary/cartulary/seda/IntList", "trimToSize", "()V"⟩ : MethodName) prog_30_method_6_code 1 none [] ({ frames := 3, cells := 1, slots := 4, locals := 67 } : Room) Z #[(.ref b)] h0 (fun v h L => v = none ∧ Fr n0 L ∧ h0.size ≤ h.size ∧ own_IL Z h n0 b len len xs) := by
  refine Ct.of (plainFor_of_name pn_0) (fun m => ef_rmTr m b) ?_
  intro p e s m below meth c T0 X0 hx hby hml hret hlk hown hnm hZ e0 P hP
  have Ib' := Ib
  obtain ⟨t, f, Eb, Fv, Fs, Vt, Ct', Gt, hlc, hfx⟩ := Ib
  have hcs := Vt.small
  refine Go.st (fun _ kt => XS.aloadN X0.here hx rfl (hb hby d_prog_30_method_6_0) rfl rfl (XS.aloadN X0.here hx rfl (hb hby d_prog_30_method_6_1) rfl rfl kt)) ?_
  show Go p e below P (T0.setTop (mkF m 2 #[.val (.ref b)] [(.ref b), (.ref b)]))
  obtain ⟨_, T1, Lc1, X1, ⟨ta1, rfl, Nq1, K1, Vt1, Ct1, Gt1, Sz1⟩, st1⟩ := callCv X0 hx hZ e0 (y := (⟨"com/example/cartulary/cartulary/seda/IntList", "toArray", "()[I"⟩ : MethodName)) (a := b) (argsL := []) (rest := [(.ref b)]) hown (hw _ (List.mem_of_getElem? (i := 24) rfl)) (hw _ (List.mem_of_getElem? (i := 25) rfl)) (hw _ (List.mem_of_getElem? (i := 27) rfl)) (hw _ (List.mem_of_getElem? (i := 26) rfl)) (hw _ (List.mem_of_getElem? (i := 2) rfl)) (hw _ (List.mem_of_getElem? (i := 28) rfl)) (by decide) Eb (rmT l Z a0 hw b len cap xs _ n0 Z0 Ib' hl) (W := 1) (by decide) (by decide) (g := (mkF m 2 #[.val (.ref b)] [(.ref b), (.ref b)])) rfl (by rw [hml]; rfl) (lenOf pd_1 rfl) rfl (by show 2 * 0 + _ ≤ _; exact Nat.le_of_eq rfl) (hb hby d_prog_30_method_6_2) (by decide) (by decide)
  have N1 := Fr.app (Fr.nil n0) Nq1
  have K2 := Keep.trans (Keep.refl h0 [b]) K1 all0
  have Z3 := Nat.le_trans Z0 K1.1
  refine Go.st st1 ?_
  show Go p e below P (T1.setTop (mkF m 5 #[.val (.ref b)] [(.ref ta1), (.ref b)]))
  have f5 := (Fv.keep K1 nin0)
  have f6 := (Eb.keep K1)
  have ne7 := Ary.ne Vt1 f6 (hw _ (List.mem_of_getElem? (i := 1) rfl))
  obtain ⟨T4, h4, X4, e4, W4, st4⟩ := putF X1 hx hZ hown (host := "") (Or.inl (hw _ (List.mem_of_getElem? (i := 10) rfl))) Via.refl rfl f5 f6 (Or.inl (hw _ (List.mem_of_getElem? (i := 11) rfl))) (hw _ (List.mem_of_getElem? (i := 1) rfl)) (ty := (.array .int)) (by decide) rfl rfl (g := (mkF m 5 #[.val (.ref b)] [(.ref ta1), (.ref b)])) rfl rfl (hb hby d_prog_30_method_6_5)
  have Fw4 := Fld.same W4 f5
  have K8 := Keep.wr K2 W4 (Or.inl (List.mem_of_getElem? (i := 0) rfl))
  have Z9 : n0 ≤ h4.size := by rw [W4.size]; exact Z3
  have N10 := Fr.snoc X4 N1 Gb
  refine Go.st st4 ?_
  show Go p e below P (T4.setTop (mkF m 8 #[.val (.ref b)] []))
  have f11 := (f6.wr W4)
  have f12 := ((Fs.keep K1 nin0).other W4 (Or.inr (slot_ne (Or.inl (hw _ (List.mem_of_getElem? (i := 18) rfl))) (Or.inl (hw _ (List.mem_of_getElem? (i := 11) rfl))) (by decide) (t := .int) (t' := (.array .int)) (by decide) (by decide))))
  have f13 := (Vt1.other W4 (Ne.symm ne7))
  have f14 := (Ct1.wr W4)
  exact goV X4 hx hret hlk (hb hby d_prog_30_method_6_8) hP (by decide) (by decide) (by rw [e4]; exact ⟨rfl, N10, K8.1, ta1, _, f11, Fw4, f12, f13, f14, Gt1, Nat.le_refl _, fun i hi => rfl⟩)
theorem d_prog_30_method_3_0 : decode prog_30_method_3_code 0 = .ok (.iload_n 1, 1) := by decide +kernel
theorem d_prog_30_method_3_1 : decode prog_30_method_3_code 1 = .ok (.ifCond .lt 11, 3) := by decide +kernel
theorem d_prog_30_method_3_4 : decode prog_30_method_3_code 4 = .ok (.iload_n 1, 1) := by decide +kernel
theorem d_prog_30_method_3_5 : decode prog_30_method_3_code 5 = .ok (.aload_n 0, 1) := by decide +kernel
theorem d_prog_30_method_3_6 : decode prog_30_method_3_code 6 = .ok (.getfield 13, 3) := by decide +kernel
theorem d_prog_30_method_3_9 : decode prog_30_method_3_code 9 = .ok (.if_icmp .lt 21, 3) := by decide +kernel
theorem d_prog_30_method_3_30 : decode prog_30_method_3_code 30 = .ok (.aload_n 0, 1) := by decide +kernel
theorem d_prog_30_method_3_31 : decode prog_30_method_3_code 31 = .ok (.getfield 7, 3) := by decide +kernel
theorem d_prog_30_method_3_34 : decode prog_30_method_3_code 34 = .ok (.iload_n 1, 1) := by decide +kernel
theorem d_prog_30_method_3_35 : decode prog_30_method_3_code 35 = .ok (.iaload, 1) := by decide +kernel
theorem d_prog_30_method_3_36 : decode prog_30_method_3_code 36 = .ok (.ireturn, 1) := by decide +kernel
theorem ef_rmG (m : MethodId) (b : Addr) (ii : Int32) : entryFrame m #[(.ref b), (.int ii)] 2 = mkF m 0 #[.val (.ref b), .val (.int ii)] [] := by first | (simp [entryFrame, mkF, argsToLocals, Value.category]; done) | rfl
set_option maxRecDepth 65536 in
set_option maxHeartbeats 40000000 in
theorem rmG (l : Launch) (Z : State) (a0 : Array Value) (hw : ∀ d ∈ tables_1, d.before a0 Z = true) (b : Addr) (ii : Int32) (len cap : Nat) (xs : Nat → Int32) (i : Nat) (h0 : Heap) (n0 : Nat) (Z0 : n0 ≤ h0.size) (Ib : own_IL Z h0 n0 b len cap xs) (hl : len ≤ 4) (hi : ii = Int32.ofNat i) (hil : i < len) :
    Ct l (⟨"com/example/cartulary/cartulary/seda/IntList", "get", "(I)I"⟩ : MethodName) prog_30_method_3_code 2 (some .int) [] ({ frames := 0, cells := 0, slots := 0, locals := 0 } : Room) Z #[(.ref b), (.int ii)] h0 (fun v h L => v = some (.int (xs i)) ∧ Fr n0 L ∧ h = h0) := by
  refine Ct.of (plainFor_of_name pn_0) (fun m => ef_rmG m b ii) ?_
  intro p e s m below meth c T0 X0 hx hby hml hret hlk hown hnm hZ e0 P hP
  obtain ⟨t, f, Eb, Fv, Fs, Vt, Ct', Gt, hlc, hfx⟩ := Ib
  have hcs := Vt.small
  subst hi
  refine Go.st (fun _ kt => XS.iloadN X0.here hx rfl (hb hby d_prog_30_method_3_0) rfl (XS.ifNo X0.here hx rfl (hb hby d_prog_30_method_3_1) rfl ((if0 _ _).trans (flt (fun q => by rw [own_lti own_zero, own_tn (by omega)] at q; omega)).1) (XS.iloadN X0.here hx rfl (hb hby d_prog_30_method_3_4) rfl (XS.aloadN X0.here hx rfl (hb hby d_prog_30_method_3_5) rfl rfl kt)))) ?_
  show Go p e below P (T0.setTop (mkF m 6 #[.val (.ref b), .val (.int (Int32.ofNat i))] [(.ref b), (.int (Int32.ofNat i))]))
  obtain ⟨T1, X1, e1, st1⟩ := getF X0 hx hZ hown (host := "") (Or.inl (hw _ (List.mem_of_getElem? (i := 17) rfl))) Via.refl e0 Fs (g := (mkF m 6 #[.val (.ref b), .val (.int (Int32.ofNat i))] [(.ref b), (.int (Int32.ofNat i))])) rfl rfl (hb hby d_prog_30_method_3_6)
  refine Go.st st1 ?_
  show Go p e below P (T1.setTop (mkF m 9 #[.val (.ref b), .val (.int (Int32.ofNat i))] [(.int (Int32.ofNat len)), (.int (Int32.ofNat i))]))
  refine Go.st (fun _ kt => XS.icmpYes X1.here hx rfl (pc0 := 9) (pc' := 30) rfl (hb hby d_prog_30_method_3_9) rfl (tlt ((own_ltN (by omega) (by omega)).mpr hil)).1 (by decide) (by decide) (XS.aloadN X1.here hx rfl (hb hby d_prog_30_method_3_30) rfl rfl kt)) ?_
  show Go p e below P (T1.setTop (mkF m 31 #[.val (.ref b), .val (.int (Int32.ofNat i))] [(.ref b)]))
  obtain ⟨T2, X2, e2, st2⟩ := getF X1 hx hZ hown (host := "") (Or.inl (hw _ (List.mem_of_getElem? (i := 10) rfl))) Via.refl e1 Fv (g := (mkF m 31 #[.val (.ref b), .val (.int (Int32.ofNat i))] [(.ref b)])) rfl rfl (hb hby d_prog_30_method_3_31)
  refine Go.st st2 ?_
  show Go p e below P (T2.setTop (mkF m 34 #[.val (.ref b), .val (.int (Int32.ofNat i))] [(.ref t)]))
  refine Go.st (fun _ kt => XS.iloadN X2.here hx rfl (hb hby d_prog_30_method_3_34) rfl (aryLdI X2 hx hZ e2 Vt (j := (Int32.ofNat i)) (i := i) (isN_ofNat (by omega)) (by omega) (g := (mkF m 35 #[.val (.ref b), .val (.int (Int32.ofNat i))] [(.int (Int32.ofNat i)), (.ref t)])) rfl rfl (hb hby d_prog_30_method_3_35) _ kt)) ?_
  show Go p e below P (T2.setTop (mkF m 36 #[.val (.ref b), .val (.int (Int32.ofNat i))] [(.int (f i))]))
  exact goI X2 hx hret hlk (hb hby d_prog_30_method_3_36) hP (by decide) (by decide) ⟨by rw [hfx i hil], (Fr.nil n0), e2⟩
theorem d_prog_30_method_4_0 : decode prog_30_method_4_code 0 = .ok (.aload_n 0, 1) := by decide +kernel
theorem d_prog_30_method_4_1 : decode prog_30_method_4_code 1 = .ok (.getfield 13, 3) := by decide +kernel
theorem d_prog_30_method_4_4 : decode prog_30_method_4_code 4 = .ok (.ireturn, 1) := by decide +kernel
theorem ef_rmSz (m : MethodId) (b : Addr) : entryFrame m #[(.ref b)] 1 = mkF m 0 #[.val (.ref b)] [] := by first | (simp [entryFrame, mkF, argsToLocals, Value.category]; done) | rfl
set_option maxRecDepth 65536 in
set_option maxHeartbeats 40000000 in
theorem rmSz (l : Launch) (Z : State) (a0 : Array Value) (hw : ∀ d ∈ tables_1, d.before a0 Z = true) (b : Addr) (len cap : Nat) (xs : Nat → Int32) (h0 : Heap) (n0 : Nat) (Z0 : n0 ≤ h0.size) (Ib : own_IL Z h0 n0 b len cap xs) :
    Ct l (⟨"com/example/cartulary/cartulary/seda/IntList", "size", "()I"⟩ : MethodName) prog_30_method_4_code 1 (some .int) [] ({ frames := 0, cells := 0, slots := 0, locals := 0 } : Room) Z #[(.ref b)] h0 (fun v h L => v = some (.int (Int32.ofNat len)) ∧ Fr n0 L ∧ h = h0) := by
  refine Ct.of (plainFor_of_name pn_0) (fun m => ef_rmSz m b) ?_
  intro p e s m below meth c T0 X0 hx hby hml hret hlk hown hnm hZ e0 P hP
  obtain ⟨t, f, Eb, Fv, Fs, Vt, Ct', Gt, hlc, hfx⟩ := Ib
  have hcs := Vt.small
  refine Go.st (fun _ kt => XS.aloadN X0.here hx rfl (hb hby d_prog_30_method_4_0) rfl rfl kt) ?_
  show Go p e below P (T0.setTop (mkF m 1 #[.val (.ref b)] [(.ref b)]))
  obtain ⟨T1, X1, e1, st1⟩ := getF X0 hx hZ hown (host := "") (Or.inl (hw _ (List.mem_of_getElem? (i := 17) rfl))) Via.refl e0 Fs (g := (mkF m 1 #[.val (.ref b)] [(.ref b)])) rfl rfl (hb hby d_prog_30_method_4_1)
  refine Go.st st1 ?_
  show Go p e below P (T1.setTop (mkF m 4 #[.val (.ref b)] [(.int (Int32.ofNat len))]))
  exact goI X1 hx hret hlk (hb hby d_prog_30_method_4_4) hP (by decide) (by decide) ⟨rfl, (Fr.nil n0), e1⟩
theorem pd_2 : parseMethodDescriptor "()V" = some ⟨[], none⟩ := by decide +kernel
theorem pd_3 : parseMethodDescriptor "(I)V" = some ⟨[.int], none⟩ := by decide +kernel
theorem pd_4 : parseMethodDescriptor "()I" = some ⟨[], some .int⟩ := by decide +kernel
theorem pd_5 : parseMethodDescriptor "(I)I" = some ⟨[.int], some .int⟩ := by decide +kernel
theorem pn_6 : plainName "com/example/cartulary/cartulary/seda/IntListAddPinLaw" = true := by first | (simp [plainName, overriddenIn]; done) | decide +kernel
theorem ef_rm0 (m : MethodId) (a : Int32) (bb : Int32) (cc : Int32) (md : Int32) : entryFrame m #[(.int a), (.int bb), (.int cc), (.int md)] maxLocals = mkF m 0 #[.val (.int a), .val (.int bb), .val (.int cc), .val (.int md), .unset, .unset, .unset] [] := by first | (simp [entryFrame, mkF, argsToLocals, Value.category, maxLocals]; done) | rfl
set_option maxRecDepth 65536 in
set_option maxHeartbeats 40000000 in
theorem rm0 (l : Launch) (Z : State) (a0 : Array Value) (hw : ∀ d ∈ tables_1, d.before a0 Z = true) (ws : List Jvm.Cond) (a : Int32) (bb : Int32) (cc : Int32) (md : Int32)  (h0 : Heap) (n0 : Nat) (Z0 : n0 ≤ h0.size)  :
    Ct l x code maxLocals ret ws room_1 Z #[(.int a), (.int bb), (.int cc), (.int md)] h0 (fun v h L => v = some (.int 1) ∧ Fr n0 L) := by
  refine Ct.of (plainFor_of_name pn_6) (fun m => ef_rm0 m a bb cc md) ?_
  intro p e s m below meth c T0 X0 hx hby hml hret hlk hown hnm hZ e0 P hP
  refine Go.st (fun _ kt => XS.iloadN X0.here hx rfl (hb hby at_0) rfl (XS.bipush X0.here hx rfl (hb hby at_1) (XS.iand X0.here hx rfl (hb hby at_3) rfl (XS.istore X0.here hx rfl (hb hby at_4) rfl (l' := #[.val (.int a), .val (.int bb), .val (.int cc), .val (.int md), .val (.int (md &&& (7 : Int32))), .unset, .unset]) rfl kt)))) ?_
  show Go p e below P (T0.setTop (mkF m 6 #[.val (.int a), .val (.int bb), .val (.int cc), .val (.int md), .val (.int (md &&& (7 : Int32))), .unset, .unset] []))
  obtain ⟨T1, h1, X1, e1, E1, A1, D1, -, st1⟩ := newO X0 hx hZ hown (hw _ (List.mem_of_getElem? (i := 0) rfl)) (hw _ (List.mem_of_getElem? (i := 1) rfl)) (hw _ (List.mem_of_getElem? (i := 2) rfl)) e0 (g := (mkF m 6 #[.val (.int a), .val (.int bb), .val (.int cc), .val (.int md), .val (.int (md &&& (7 : Int32))), .unset, .unset] [])) rfl (hb hby at_6) (by decide) (by decide)
  obtain ⟨b1, g1⟩ : ∃ z, z = h0.size := ⟨_, rfl⟩
  rw [← g1] at A1 D1 st1
  have G1 : n0 ≤ b1 := Nat.le_trans Z0 (Nat.le_of_eq g1.symm)
  have F1_values : Fld Z h1 b1 "com/example/cartulary/cartulary/seda/IntList" "values" "[I" .null := D1 (Or.inl (hw _ (List.mem_of_getElem? (i := 11) rfl))) (ty := (.array .int)) (by decide)
  have F1_size : Fld Z h1 b1 "com/example/cartulary/cartulary/seda/IntList" "size" "I" (.int (0 : Int32)) := D1 (Or.inl (hw _ (List.mem_of_getElem? (i := 18) rfl))) (ty := .int) (by decide)
  have Z2 := Nat.le_trans Z0 E1.1
  refine Go.st st1 ?_
  show Go p e below P (T1.setTop (mkF m 9 #[.val (.int a), .val (.int bb), .val (.int cc), .val (.int md), .val (.int (md &&& (7 : Int32))), .unset, .unset] [(.ref b1)]))
  refine Go.st (fun _ kt => XS.dup X1.here hx rfl (hb hby at_9) rfl rfl kt) ?_
  show Go p e below P (T1.setTop (mkF m 10 #[.val (.int a), .val (.int bb), .val (.int cc), .val (.int md), .val (.int (md &&& (7 : Int32))), .unset, .unset] [(.ref b1), (.ref b1)]))
  obtain ⟨_, T3, Lc3, X3, ⟨rfl, Nq3, K3, IL3⟩, st3⟩ := callCtor X1 hx hZ e1 (y := (⟨"com/example/cartulary/cartulary/seda/IntList", "<init>", "()V"⟩ : MethodName)) rfl (a := b1) (argsL := []) (rest := [(.ref b1)]) hown (hw _ (List.mem_of_getElem? (i := 3) rfl)) (hw _ (List.mem_of_getElem? (i := 4) rfl)) (hw _ (List.mem_of_getElem? (i := 2) rfl)) (hw _ (List.mem_of_getElem? (i := 5) rfl)) (by decide) (rmI l Z a0 hw b1 _ n0 Z2 A1 F1_values F1_size G1) (W := 1) (by decide) (by decide) (g := (mkF m 10 #[.val (.int a), .val (.int bb), .val (.int cc), .val (.int md), .val (.int (md &&& (7 : Int32))), .unset, .unset] [(.ref b1), (.ref b1)])) rfl (by rw [hml]; rfl) (lenOf pd_2 rfl) rfl (by show 2 * 0 + _ ≤ _; exact Nat.le_of_eq rfl) (hb hby at_10) (by decide) (by decide)
  have N3 := Fr.app (Fr.nil n0) Nq3
  have Z4 := Nat.le_trans Z2 K3
  refine Go.st st3 ?_
  show Go p e below P (T3.setTop (mkF m 13 #[.val (.int a), .val (.int bb), .val (.int cc), .val (.int md), .val (.int (md &&& (7 : Int32))), .unset, .unset] [(.ref b1)]))
  refine Go.st (fun _ kt => XS.astore X3.here hx rfl (hb hby at_13) rfl rfl (l' := #[.val (.int a), .val (.int bb), .val (.int cc), .val (.int md), .val (.int (md &&& (7 : Int32))), .val (.ref b1), .unset]) rfl kt) ?_
  show Go p e below P (T3.setTop (mkF m 15 #[.val (.int a), .val (.int bb), .val (.int cc), .val (.int md), .val (.int (md &&& (7 : Int32))), .val (.ref b1), .unset] []))
  generalize md &&& (7 : Int32) = z
  show Go p e below P (T3.setTop (mkF m 15 #[.val (.int a), .val (.int bb), .val (.int cc), .val (.int md), .val (.int z), .val (.ref b1), .unset] []))
  rcases own_t5 z with rfl | rfl | rfl | rfl | ⟨z0, z1, z2, z3⟩
  · show Go p e below P (T3.setTop (mkF m 15 #[.val (.int a), .val (.int bb), .val (.int cc), .val (.int md), .val (.int (0 : Int32)), .val (.ref b1), .unset] []))
    refine Go.st (fun _ kt => XS.iload X3.here hx rfl (hb hby at_15) rfl (XS.ifNo X3.here hx rfl (hb hby at_17) rfl ((if0 _ _).trans (teq (by decide : (0 : Int32) = (0 : Int32))).2) (XS.aload X3.here hx rfl (hb hby at_20) rfl rfl kt))) ?_
    show Go p e below P (T3.setTop (mkF m 22 #[.val (.int a), .val (.int bb), .val (.int cc), .val (.int md), .val (.int (0 : Int32)), .val (.ref b1), .unset] [(.ref b1)]))
    obtain ⟨_, T5, Lc5, X5, ⟨rfl, Nq5, K5, IL5⟩, st5⟩ := callCv X3 hx hZ rfl (y := (⟨"com/example/cartulary/cartulary/seda/IntList", "trimToSize", "()V"⟩ : MethodName)) (a := b1) (argsL := []) (rest := []) hown (hw _ (List.mem_of_getElem? (i := 19) rfl)) (hw _ (List.mem_of_getElem? (i := 20) rfl)) (hw _ (List.mem_of_getElem? (i := 22) rfl)) (hw _ (List.mem_of_getElem? (i := 21) rfl)) (hw _ (List.mem_of_getElem? (i := 2) rfl)) (hw _ (List.mem_of_getElem? (i := 23) rfl)) (by decide) (by obtain ⟨_, _, q, _⟩ := IL3; exact q) (rmTr l Z a0 hw b1 0 _ _ _ n0 Z4 IL3 G1 (by decide)) (W := 0) (by decide) (by decide) (g := (mkF m 22 #[.val (.int a), .val (.int bb), .val (.int cc), .val (.int md), .val (.int (0 : Int32)), .val (.ref b1), .unset] [(.ref b1)])) rfl (by rw [hml]; rfl) (lenOf pd_2 rfl) rfl (by show 2 * 0 + _ ≤ _; exact Nat.le_of_eq rfl) (hb hby at_22) (by decide) (by decide)
    have N5 := Fr.app N3 Nq5
    have Z6 := Nat.le_trans Z4 K5
    refine Go.st st5 ?_
    show Go p e below P (T5.setTop (mkF m 25 #[.val (.int a), .val (.int bb), .val (.int cc), .val (.int md), .val (.int (0 : Int32)), .val (.ref b1), .unset] []))
    refine Go.st (fun _ kt => XS.aload X5.here hx rfl (hb hby at_25) rfl rfl (XS.iloadN X5.here hx rfl (hb hby at_27) rfl kt)) ?_
    show Go p e below P (T5.setTop (mkF m 28 #[.val (.int a), .val (.int bb), .val (.int cc), .val (.int md), .val (.int (0 : Int32)), .val (.ref b1), .unset] [(.int a), (.ref b1)]))
    obtain ⟨_, T7, Lc7, X7, ⟨rfl, Nq7, K7, cp7, IL7⟩, st7⟩ := callCv X5 hx hZ rfl (y := (⟨"com/example/cartulary/cartulary/seda/IntList", "add", "(I)V"⟩ : MethodName)) (a := b1) (argsL := [(.int a)]) (rest := []) hown (hw _ (List.mem_of_getElem? (i := 12) rfl)) (hw _ (List.mem_of_getElem? (i := 13) rfl)) (hw _ (List.mem_of_getElem? (i := 15) rfl)) (hw _ (List.mem_of_getElem? (i := 14) rfl)) (hw _ (List.mem_of_getElem? (i := 2) rfl)) (hw _ (List.mem_of_getElem? (i := 16) rfl)) (by decide) (by obtain ⟨_, _, q, _⟩ := IL5; exact q) (rmA l Z a0 hw b1 a 0 _ _ _ n0 Z6 IL5 G1 (by decide)) (W := 0) (by decide) (by decide) (g := (mkF m 28 #[.val (.int a), .val (.int bb), .val (.int cc), .val (.int md), .val (.int (0 : Int32)), .val (.ref b1), .unset] [(.int a), (.ref b1)])) rfl (by rw [hml]; rfl) (lenOf pd_3 rfl) rfl (by show 2 * 0 + _ ≤ _; exact Nat.le_of_eq rfl) (hb hby at_28) (by decide) (by decide)
    have N7 := Fr.app N5 Nq7
    have Z8 := Nat.le_trans Z6 K7
    refine Go.st st7 ?_
    show Go p e below P (T7.setTop (mkF m 31 #[.val (.int a), .val (.int bb), .val (.int cc), .val (.int md), .val (.int (0 : Int32)), .val (.ref b1), .unset] []))
    refine Go.st (fun _ kt => XS.iload X7.here hx rfl (hb hby at_31) rfl (XS.iconst X7.here hx rfl (hb hby at_33) (XS.icmpYes X7.here hx rfl (pc0 := 34) (pc' := 42) rfl (hb hby at_34) rfl (feq (by decide : ¬ ((0 : Int32) = (1 : Int32)))).2 (by decide) (by decide) (XS.aload X7.here hx rfl (hb hby at_42) rfl rfl (XS.iloadN X7.here hx rfl (hb hby at_44) rfl kt))))) ?_
    show Go p e below P (T7.setTop (mkF m 45 #[.val (.int a), .val (.int bb), .val (.int cc), .val (.int md), .val (.int (0 : Int32)), .val (.ref b1), .unset] [(.int bb), (.ref b1)]))
    obtain ⟨_, T9, Lc9, X9, ⟨rfl, Nq9, K9, cp9, IL9⟩, st9⟩ := callCv X7 hx hZ rfl (y := (⟨"com/example/cartulary/cartulary/seda/IntList", "add", "(I)V"⟩ : MethodName)) (a := b1) (argsL := [(.int bb)]) (rest := []) hown (hw _ (List.mem_of_getElem? (i := 12) rfl)) (hw _ (List.mem_of_getElem? (i := 13) rfl)) (hw _ (List.mem_of_getElem? (i := 15) rfl)) (hw _ (List.mem_of_getElem? (i := 14) rfl)) (hw _ (List.mem_of_getElem? (i := 2) rfl)) (hw _ (List.mem_of_getElem? (i := 16) rfl)) (by decide) (by obtain ⟨_, _, q, _⟩ := IL7; exact q) (rmA l Z a0 hw b1 bb 1 _ _ _ n0 Z8 IL7 G1 (by decide)) (W := 0) (by decide) (by decide) (g := (mkF m 45 #[.val (.int a), .val (.int bb), .val (.int cc), .val (.int md), .val (.int (0 : Int32)), .val (.ref b1), .unset] [(.int bb), (.ref b1)])) rfl (by rw [hml]; rfl) (lenOf pd_3 rfl) rfl (by show 2 * 0 + _ ≤ _; exact Nat.le_of_eq rfl) (hb hby at_45) (by decide) (by decide)
    have N9 := Fr.app N7 Nq9
    have Z10 := Nat.le_trans Z8 K9
    refine Go.st st9 ?_
    show Go p e below P (T9.setTop (mkF m 48 #[.val (.int a), .val (.int bb), .val (.int cc), .val (.int md), .val (.int (0 : Int32)), .val (.ref b1), .unset] []))
    refine Go.st (fun _ kt => XS.iload X9.here hx rfl (hb hby at_48) rfl (XS.iconst X9.here hx rfl (hb hby at_50) (XS.icmpYes X9.here hx rfl (pc0 := 51) (pc' := 59) rfl (hb hby at_51) rfl (feq (by decide : ¬ ((0 : Int32) = (2 : Int32)))).2 (by decide) (by decide) (XS.aload X9.here hx rfl (hb hby at_59) rfl rfl (XS.iloadN X9.here hx rfl (hb hby at_61) rfl kt))))) ?_
    show Go p e below P (T9.setTop (mkF m 62 #[.val (.int a), .val (.int bb), .val (.int cc), .val (.int md), .val (.int (0 : Int32)), .val (.ref b1), .unset] [(.int cc), (.ref b1)]))
    obtain ⟨_, T11, Lc11, X11, ⟨rfl, Nq11, K11, cp11, IL11⟩, st11⟩ := callCv X9 hx hZ rfl (y := (⟨"com/example/cartulary/cartulary/seda/IntList", "add", "(I)V"⟩ : MethodName)) (a := b1) (argsL := [(.int cc)]) (rest := []) hown (hw _ (List.mem_of_getElem? (i := 12) rfl)) (hw _ (List.mem_of_getElem? (i := 13) rfl)) (hw _ (List.mem_of_getElem? (i := 15) rfl)) (hw _ (List.mem_of_getElem? (i := 14) rfl)) (hw _ (List.mem_of_getElem? (i := 2) rfl)) (hw _ (List.mem_of_getElem? (i := 16) rfl)) (by decide) (by obtain ⟨_, _, q, _⟩ := IL9; exact q) (rmA l Z a0 hw b1 cc 2 _ _ _ n0 Z10 IL9 G1 (by decide)) (W := 0) (by decide) (by decide) (g := (mkF m 62 #[.val (.int a), .val (.int bb), .val (.int cc), .val (.int md), .val (.int (0 : Int32)), .val (.ref b1), .unset] [(.int cc), (.ref b1)])) rfl (by rw [hml]; rfl) (lenOf pd_3 rfl) rfl (by show 2 * 0 + _ ≤ _; exact Nat.le_of_eq rfl) (hb hby at_62) (by decide) (by decide)
    have N11 := Fr.app N9 Nq11
    have Z12 := Nat.le_trans Z10 K11
    refine Go.st st11 ?_
    show Go p e below P (T11.setTop (mkF m 65 #[.val (.int a), .val (.int bb), .val (.int cc), .val (.int md), .val (.int (0 : Int32)), .val (.ref b1), .unset] []))
    refine Go.st (fun _ kt => XS.iload X11.here hx rfl (hb hby at_65) rfl (XS.iconst X11.here hx rfl (hb hby at_67) (XS.icmpYes X11.here hx rfl (pc0 := 68) (pc' := 76) rfl (hb hby at_68) rfl (feq (by decide : ¬ ((0 : Int32) = (3 : Int32)))).2 (by decide) (by decide) (XS.aload X11.here hx rfl (hb hby at_76) rfl rfl kt)))) ?_
    show Go p e below P (T11.setTop (mkF m 78 #[.val (.int a), .val (.int bb), .val (.int cc), .val (.int md), .val (.int (0 : Int32)), .val (.ref b1), .unset] [(.ref b1)]))
    obtain ⟨_, T13, Lc13, X13, ⟨rfl, Nq13, eq13⟩, st13⟩ := callCv X11 hx hZ rfl (y := (⟨"com/example/cartulary/cartulary/seda/IntList", "size", "()I"⟩ : MethodName)) (a := b1) (argsL := []) (rest := []) hown (hw _ (List.mem_of_getElem? (i := 41) rfl)) (hw _ (List.mem_of_getElem? (i := 42) rfl)) (hw _ (List.mem_of_getElem? (i := 44) rfl)) (hw _ (List.mem_of_getElem? (i := 43) rfl)) (hw _ (List.mem_of_getElem? (i := 2) rfl)) (hw _ (List.mem_of_getElem? (i := 45) rfl)) (by decide) (by obtain ⟨_, _, q, _⟩ := IL11; exact q) (rmSz l Z a0 hw b1 3 _ _ _ n0 Z12 IL11) (W := 0) (by decide) (by decide) (g := (mkF m 78 #[.val (.int a), .val (.int bb), .val (.int cc), .val (.int md), .val (.int (0 : Int32)), .val (.ref b1), .unset] [(.ref b1)])) rfl (by rw [hml]; rfl) (lenOf pd_4 rfl) rfl (by show 2 * 0 + _ ≤ _; exact Nat.le_of_eq rfl) (hb hby at_78) (by decide) (by decide)
    have N13 := Fr.app N11 Nq13
    have e13 : T13.heap = T11.heap := eq13
    refine Go.st st13 ?_
    show Go p e below P (T13.setTop (mkF m 81 #[.val (.int a), .val (.int bb), .val (.int cc), .val (.int md), .val (.int (0 : Int32)), .val (.ref b1), .unset] [(.int (3 : Int32))]))
    refine Go.st (fun _ kt => XS.iconst X13.here hx rfl (hb hby at_81) (XS.icmpYes X13.here hx rfl (pc0 := 82) (pc' := 87) rfl (hb hby at_82) rfl (teq (by decide : (3 : Int32) = (3 : Int32))).1 (by decide) (by decide) (XS.aload X13.here hx rfl (hb hby at_87) rfl rfl kt))) ?_
    show Go p e below P (T13.setTop (mkF m 89 #[.val (.int a), .val (.int bb), .val (.int cc), .val (.int md), .val (.int (0 : Int32)), .val (.ref b1), .unset] [(.ref b1)]))
    obtain ⟨_, T14, Lc14, X14, ⟨ta14, rfl, Nq14, K14, Vt14, Ct14, Gt14, Sz14⟩, st14⟩ := callCv X13 hx hZ e13 (y := (⟨"com/example/cartulary/cartulary/seda/IntList", "toArray", "()[I"⟩ : MethodName)) (a := b1) (argsL := []) (rest := []) hown (hw _ (List.mem_of_getElem? (i := 46) rfl)) (hw _ (List.mem_of_getElem? (i := 25) rfl)) (hw _ (List.mem_of_getElem? (i := 27) rfl)) (hw _ (List.mem_of_getElem? (i := 26) rfl)) (hw _ (List.mem_of_getElem? (i := 2) rfl)) (hw _ (List.mem_of_getElem? (i := 28) rfl)) (by decide) (by obtain ⟨_, _, q, _⟩ := IL11; exact q) (rmT l Z a0 hw b1 3 _ _ _ n0 Z12 IL11 (by decide)) (W := 0) (by decide) (by decide) (g := (mkF m 89 #[.val (.int a), .val (.int bb), .val (.int cc), .val (.int md), .val (.int (0 : Int32)), .val (.ref b1), .unset] [(.ref b1)])) rfl (by rw [hml]; rfl) (lenOf pd_1 rfl) rfl (by show 2 * 0 + _ ≤ _; exact Nat.le_of_eq rfl) (hb hby at_89) (by decide) (by decide)
    have N14 := Fr.app N13 Nq14
    have Z15 := Nat.le_trans Z12 K14.1
    have IL16 : own_IL Z T14.heap n0 b1 3 cp11 (updN (updN (updN (fun _ => (0 : Int32)) 0 a) 1 bb) 2 cc) := by
        obtain ⟨t, f, q1, q2, q3, q4, q5, q6, q7, q8⟩ := IL11
        exact ⟨t, f, q1.keep K14, q2.keep K14 nin0, q3.keep K14 nin0, q4.keep K14 nin0, q5.keep K14, q6, q7, q8⟩
    refine Go.st st14 ?_
    show Go p e below P (T14.setTop (mkF m 92 #[.val (.int a), .val (.int bb), .val (.int cc), .val (.int md), .val (.int (0 : Int32)), .val (.ref b1), .unset] [(.ref ta14)]))
    refine Go.st (fun _ kt => XS.astore X14.here hx rfl (hb hby at_92) rfl rfl (l' := #[.val (.int a), .val (.int bb), .val (.int cc), .val (.int md), .val (.int (0 : Int32)), .val (.ref b1), .val (.ref ta14)]) rfl (XS.aload X14.here hx rfl (hb hby at_94) rfl rfl (aryLen X14 hx hZ rfl Vt14 (g := (mkF m 96 #[.val (.int a), .val (.int bb), .val (.int cc), .val (.int md), .val (.int (0 : Int32)), .val (.ref b1), .val (.ref ta14)] [(.ref ta14)])) rfl rfl (hb hby at_96) _ (XS.iconst X14.here hx rfl (hb hby at_97) (XS.icmpYes X14.here hx rfl (pc0 := 98) (pc' := 103) rfl (hb hby at_98) rfl (teq (by decide : (3 : Int32) = (3 : Int32))).1 (by decide) (by decide) (XS.aload X14.here hx rfl (hb hby at_103) rfl rfl (XS.iconst X14.here hx rfl (hb hby at_105) (aryLdI X14 hx hZ rfl Vt14 (j := (0 : Int32)) (i := 0) ⟨by decide, by decide⟩ (by decide) (g := (mkF m 106 #[.val (.int a), .val (.int bb), .val (.int cc), .val (.int md), .val (.int (0 : Int32)), .val (.ref b1), .val (.ref ta14)] [(.int (0 : Int32)), (.ref ta14)])) rfl rfl (hb hby at_106) _ kt)))))))) ?_
    show Go p e below P (T14.setTop (mkF m 107 #[.val (.int a), .val (.int bb), .val (.int cc), .val (.int md), .val (.int (0 : Int32)), .val (.ref b1), .val (.ref ta14)] [(.int a)]))
    refine Go.st (fun _ kt => XS.iloadN X14.here hx rfl (hb hby at_107) rfl (XS.icmpNo X14.here hx rfl (hb hby at_108) rfl (teq rfl).2 (XS.aload X14.here hx rfl (hb hby at_111) rfl rfl (XS.iconst X14.here hx rfl (hb hby at_113) (aryLdI X14 hx hZ rfl Vt14 (j := (1 : Int32)) (i := 1) ⟨by decide, by decide⟩ (by decide) (g := (mkF m 114 #[.val (.int a), .val (.int bb), .val (.int cc), .val (.int md), .val (.int (0 : Int32)), .val (.ref b1), .val (.ref ta14)] [(.int (1 : Int32)), (.ref ta14)])) rfl rfl (hb hby at_114) _ (XS.iloadN X14.here hx rfl (hb hby at_115) rfl (XS.icmpNo X14.here hx rfl (hb hby at_116) rfl (teq rfl).2 (XS.aload X14.here hx rfl (hb hby at_119) rfl rfl kt)))))))) ?_
    show Go p e below P (T14.setTop (mkF m 121 #[.val (.int a), .val (.int bb), .val (.int cc), .val (.int md), .val (.int (0 : Int32)), .val (.ref b1), .val (.ref ta14)] [(.ref ta14)]))
    refine Go.st (fun _ kt => XS.iconst X14.here hx rfl (hb hby at_121) (aryLdI X14 hx hZ rfl Vt14 (j := (2 : Int32)) (i := 2) ⟨by decide, by decide⟩ (by decide) (g := (mkF m 122 #[.val (.int a), .val (.int bb), .val (.int cc), .val (.int md), .val (.int (0 : Int32)), .val (.ref b1), .val (.ref ta14)] [(.int (2 : Int32)), (.ref ta14)])) rfl rfl (hb hby at_122) _ (XS.iloadN X14.here hx rfl (hb hby at_123) rfl (XS.icmpYes X14.here hx rfl (pc0 := 124) (pc' := 129) rfl (hb hby at_124) rfl (teq rfl).1 (by decide) (by decide) (XS.aload X14.here hx rfl (hb hby at_129) rfl rfl (XS.iconst X14.here hx rfl (hb hby at_131) kt)))))) ?_
    show Go p e below P (T14.setTop (mkF m 132 #[.val (.int a), .val (.int bb), .val (.int cc), .val (.int md), .val (.int (0 : Int32)), .val (.ref b1), .val (.ref ta14)] [(.int (0 : Int32)), (.ref b1)]))
    obtain ⟨_, T17, Lc17, X17, ⟨rfl, Nq17, eq17⟩, st17⟩ := callCv X14 hx hZ rfl (y := (⟨"com/example/cartulary/cartulary/seda/IntList", "get", "(I)I"⟩ : MethodName)) (a := b1) (argsL := [(.int (0 : Int32))]) (rest := []) hown (hw _ (List.mem_of_getElem? (i := 47) rfl)) (hw _ (List.mem_of_getElem? (i := 48) rfl)) (hw _ (List.mem_of_getElem? (i := 50) rfl)) (hw _ (List.mem_of_getElem? (i := 49) rfl)) (hw _ (List.mem_of_getElem? (i := 2) rfl)) (hw _ (List.mem_of_getElem? (i := 51) rfl)) (by decide) (by obtain ⟨_, _, q, _⟩ := IL16; exact q) (rmG l Z a0 hw b1 (0 : Int32) 3 _ _ 0 _ n0 Z15 IL16 (by decide) rfl (by decide)) (W := 0) (by decide) (by decide) (g := (mkF m 132 #[.val (.int a), .val (.int bb), .val (.int cc), .val (.int md), .val (.int (0 : Int32)), .val (.ref b1), .val (.ref ta14)] [(.int (0 : Int32)), (.ref b1)])) rfl (by rw [hml]; rfl) (lenOf pd_5 rfl) rfl (by show 2 * 0 + _ ≤ _; exact Nat.le_of_eq rfl) (hb hby at_132) (by decide) (by decide)
    have N17 := Fr.app N14 Nq17
    have e17 : T17.heap = T14.heap := eq17
    refine Go.st st17 ?_
    show Go p e below P (T17.setTop (mkF m 135 #[.val (.int a), .val (.int bb), .val (.int cc), .val (.int md), .val (.int (0 : Int32)), .val (.ref b1), .val (.ref ta14)] [(.int a)]))
    refine Go.st (fun _ kt => XS.iloadN X17.here hx rfl (hb hby at_135) rfl (XS.icmpNo X17.here hx rfl (hb hby at_136) rfl (teq rfl).2 (XS.aload X17.here hx rfl (hb hby at_139) rfl rfl (XS.iconst X17.here hx rfl (hb hby at_141) kt)))) ?_
    show Go p e below P (T17.setTop (mkF m 142 #[.val (.int a), .val (.int bb), .val (.int cc), .val (.int md), .val (.int (0 : Int32)), .val (.ref b1), .val (.ref ta14)] [(.int (2 : Int32)), (.ref b1)]))
    obtain ⟨_, T18, Lc18, X18, ⟨rfl, Nq18, eq18⟩, st18⟩ := callCv X17 hx hZ e17 (y := (⟨"com/example/cartulary/cartulary/seda/IntList", "get", "(I)I"⟩ : MethodName)) (a := b1) (argsL := [(.int (2 : Int32))]) (rest := []) hown (hw _ (List.mem_of_getElem? (i := 47) rfl)) (hw _ (List.mem_of_getElem? (i := 48) rfl)) (hw _ (List.mem_of_getElem? (i := 50) rfl)) (hw _ (List.mem_of_getElem? (i := 49) rfl)) (hw _ (List.mem_of_getElem? (i := 2) rfl)) (hw _ (List.mem_of_getElem? (i := 51) rfl)) (by decide) (by obtain ⟨_, _, q, _⟩ := IL16; exact q) (rmG l Z a0 hw b1 (2 : Int32) 3 _ _ 2 _ n0 Z15 IL16 (by decide) rfl (by decide)) (W := 0) (by decide) (by decide) (g := (mkF m 142 #[.val (.int a), .val (.int bb), .val (.int cc), .val (.int md), .val (.int (0 : Int32)), .val (.ref b1), .val (.ref ta14)] [(.int (2 : Int32)), (.ref b1)])) rfl (by rw [hml]; rfl) (lenOf pd_5 rfl) rfl (by show 2 * 0 + _ ≤ _; exact Nat.le_of_eq rfl) (hb hby at_142) (by decide) (by decide)
    have N18 := Fr.app N17 Nq18
    have e18 : T18.heap = T14.heap := eq18
    refine Go.st st18 ?_
    show Go p e below P (T18.setTop (mkF m 145 #[.val (.int a), .val (.int bb), .val (.int cc), .val (.int md), .val (.int (0 : Int32)), .val (.ref b1), .val (.ref ta14)] [(.int cc)]))
    refine Go.st (fun _ kt => XS.iloadN X18.here hx rfl (hb hby at_145) rfl (XS.icmpNo X18.here hx rfl (hb hby at_146) rfl (teq rfl).2 (XS.iconst X18.here hx rfl (hb hby at_149) (XS.goto X18.here hx rfl (pc0 := 150) (pc' := 154) rfl (hb hby at_150) (by decide) (by decide) kt)))) ?_
    show Go p e below P (T18.setTop (mkF m 154 #[.val (.int a), .val (.int bb), .val (.int cc), .val (.int md), .val (.int (0 : Int32)), .val (.ref b1), .val (.ref ta14)] [(.int (1 : Int32))]))
    exact goN X18 hx (t := .boolean) hret (by simp) hlk (hb hby at_154) hP (by decide) (by decide) ⟨rfl, N18⟩
  · show Go p e below P (T3.setTop (mkF m 15 #[.val (.int a), .val (.int bb), .val (.int cc), .val (.int md), .val (.int (1 : Int32)), .val (.ref b1), .unset] []))
    refine Go.st (fun _ kt => XS.iload X3.here hx rfl (hb hby at_15) rfl (XS.ifYes X3.here hx rfl (pc0 := 17) (pc' := 25) rfl (hb hby at_17) rfl ((if0 _ _).trans (feq (by decide : ¬ ((1 : Int32) = (0 : Int32)))).2) (by decide) (by decide) (XS.aload X3.here hx rfl (hb hby at_25) rfl rfl (XS.iloadN X3.here hx rfl (hb hby at_27) rfl kt)))) ?_
    show Go p e below P (T3.setTop (mkF m 28 #[.val (.int a), .val (.int bb), .val (.int cc), .val (.int md), .val (.int (1 : Int32)), .val (.ref b1), .unset] [(.int a), (.ref b1)]))
    obtain ⟨_, T19, Lc19, X19, ⟨rfl, Nq19, K19, cp19, IL19⟩, st19⟩ := callCv X3 hx hZ rfl (y := (⟨"com/example/cartulary/cartulary/seda/IntList", "add", "(I)V"⟩ : MethodName)) (a := b1) (argsL := [(.int a)]) (rest := []) hown (hw _ (List.mem_of_getElem? (i := 12) rfl)) (hw _ (List.mem_of_getElem? (i := 13) rfl)) (hw _ (List.mem_of_getElem? (i := 15) rfl)) (hw _ (List.mem_of_getElem? (i := 14) rfl)) (hw _ (List.mem_of_getElem? (i := 2) rfl)) (hw _ (List.mem_of_getElem? (i := 16) rfl)) (by decide) (by obtain ⟨_, _, q, _⟩ := IL3; exact q) (rmA l Z a0 hw b1 a 0 _ _ _ n0 Z4 IL3 G1 (by decide)) (W := 0) (by decide) (by decide) (g := (mkF m 28 #[.val (.int a), .val (.int bb), .val (.int cc), .val (.int md), .val (.int (1 : Int32)), .val (.ref b1), .unset] [(.int a), (.ref b1)])) rfl (by rw [hml]; rfl) (lenOf pd_3 rfl) rfl (by show 2 * 0 + _ ≤ _; exact Nat.le_of_eq rfl) (hb hby at_28) (by decide) (by decide)
    have N19 := Fr.app N3 Nq19
    have Z20 := Nat.le_trans Z4 K19
    refine Go.st st19 ?_
    show Go p e below P (T19.setTop (mkF m 31 #[.val (.int a), .val (.int bb), .val (.int cc), .val (.int md), .val (.int (1 : Int32)), .val (.ref b1), .unset] []))
    refine Go.st (fun _ kt => XS.iload X19.here hx rfl (hb hby at_31) rfl (XS.iconst X19.here hx rfl (hb hby at_33) (XS.icmpNo X19.here hx rfl (hb hby at_34) rfl (teq (by decide : (1 : Int32) = (1 : Int32))).2 (XS.aload X19.here hx rfl (hb hby at_37) rfl rfl kt)))) ?_
    show Go p e below P (T19.setTop (mkF m 39 #[.val (.int a), .val (.int bb), .val (.int cc), .val (.int md), .val (.int (1 : Int32)), .val (.ref b1), .unset] [(.ref b1)]))
    obtain ⟨_, T21, Lc21, X21, ⟨rfl, Nq21, K21, IL21⟩, st21⟩ := callCv X19 hx hZ rfl (y := (⟨"com/example/cartulary/cartulary/seda/IntList", "trimToSize", "()V"⟩ : MethodName)) (a := b1) (argsL := []) (rest := []) hown (hw _ (List.mem_of_getElem? (i := 19) rfl)) (hw _ (List.mem_of_getElem? (i := 20) rfl)) (hw _ (List.mem_of_getElem? (i := 22) rfl)) (hw _ (List.mem_of_getElem? (i := 21) rfl)) (hw _ (List.mem_of_getElem? (i := 2) rfl)) (hw _ (List.mem_of_getElem? (i := 23) rfl)) (by decide) (by obtain ⟨_, _, q, _⟩ := IL19; exact q) (rmTr l Z a0 hw b1 1 _ _ _ n0 Z20 IL19 G1 (by decide)) (W := 0) (by decide) (by decide) (g := (mkF m 39 #[.val (.int a), .val (.int bb), .val (.int cc), .val (.int md), .val (.int (1 : Int32)), .val (.ref b1), .unset] [(.ref b1)])) rfl (by rw [hml]; rfl) (lenOf pd_2 rfl) rfl (by show 2 * 0 + _ ≤ _; exact Nat.le_of_eq rfl) (hb hby at_39) (by decide) (by decide)
    have N21 := Fr.app N19 Nq21
    have Z22 := Nat.le_trans Z20 K21
    refine Go.st st21 ?_
    show Go p e below P (T21.setTop (mkF m 42 #[.val (.int a), .val (.int bb), .val (.int cc), .val (.int md), .val (.int (1 : Int32)), .val (.ref b1), .unset] []))
    refine Go.st (fun _ kt => XS.aload X21.here hx rfl (hb hby at_42) rfl rfl (XS.iloadN X21.here hx rfl (hb hby at_44) rfl kt)) ?_
    show Go p e below P (T21.setTop (mkF m 45 #[.val (.int a), .val (.int bb), .val (.int cc), .val (.int md), .val (.int (1 : Int32)), .val (.ref b1), .unset] [(.int bb), (.ref b1)]))
    obtain ⟨_, T23, Lc23, X23, ⟨rfl, Nq23, K23, cp23, IL23⟩, st23⟩ := callCv X21 hx hZ rfl (y := (⟨"com/example/cartulary/cartulary/seda/IntList", "add", "(I)V"⟩ : MethodName)) (a := b1) (argsL := [(.int bb)]) (rest := []) hown (hw _ (List.mem_of_getElem? (i := 12) rfl)) (hw _ (List.mem_of_getElem? (i := 13) rfl)) (hw _ (List.mem_of_getElem? (i := 15) rfl)) (hw _ (List.mem_of_getElem? (i := 14) rfl)) (hw _ (List.mem_of_getElem? (i := 2) rfl)) (hw _ (List.mem_of_getElem? (i := 16) rfl)) (by decide) (by obtain ⟨_, _, q, _⟩ := IL21; exact q) (rmA l Z a0 hw b1 bb 1 _ _ _ n0 Z22 IL21 G1 (by decide)) (W := 0) (by decide) (by decide) (g := (mkF m 45 #[.val (.int a), .val (.int bb), .val (.int cc), .val (.int md), .val (.int (1 : Int32)), .val (.ref b1), .unset] [(.int bb), (.ref b1)])) rfl (by rw [hml]; rfl) (lenOf pd_3 rfl) rfl (by show 2 * 0 + _ ≤ _; exact Nat.le_of_eq rfl) (hb hby at_45) (by decide) (by decide)
    have N23 := Fr.app N21 Nq23
    have Z24 := Nat.le_trans Z22 K23
    refine Go.st st23 ?_
    show Go p e below P (T23.setTop (mkF m 48 #[.val (.int a), .val (.int bb), .val (.int cc), .val (.int md), .val (.int (1 : Int32)), .val (.ref b1), .unset] []))
    refine Go.st (fun _ kt => XS.iload X23.here hx rfl (hb hby at_48) rfl (XS.iconst X23.here hx rfl (hb hby at_50) (XS.icmpYes X23.here hx rfl (pc0 := 51) (pc' := 59) rfl (hb hby at_51) rfl (feq (by decide : ¬ ((1 : Int32) = (2 : Int32)))).2 (by decide) (by decide) (XS.aload X23.here hx rfl (hb hby at_59) rfl rfl (XS.iloadN X23.here hx rfl (hb hby at_61) rfl kt))))) ?_
    show Go p e below P (T23.setTop (mkF m 62 #[.val (.int a), .val (.int bb), .val (.int cc), .val (.int md), .val (.int (1 : Int32)), .val (.ref b1), .unset] [(.int cc), (.ref b1)]))
    obtain ⟨_, T25, Lc25, X25, ⟨rfl, Nq25, K25, cp25, IL25⟩, st25⟩ := callCv X23 hx hZ rfl (y := (⟨"com/example/cartulary/cartulary/seda/IntList", "add", "(I)V"⟩ : MethodName)) (a := b1) (argsL := [(.int cc)]) (rest := []) hown (hw _ (List.mem_of_getElem? (i := 12) rfl)) (hw _ (List.mem_of_getElem? (i := 13) rfl)) (hw _ (List.mem_of_getElem? (i := 15) rfl)) (hw _ (List.mem_of_getElem? (i := 14) rfl)) (hw _ (List.mem_of_getElem? (i := 2) rfl)) (hw _ (List.mem_of_getElem? (i := 16) rfl)) (by decide) (by obtain ⟨_, _, q, _⟩ := IL23; exact q) (rmA l Z a0 hw b1 cc 2 _ _ _ n0 Z24 IL23 G1 (by decide)) (W := 0) (by decide) (by decide) (g := (mkF m 62 #[.val (.int a), .val (.int bb), .val (.int cc), .val (.int md), .val (.int (1 : Int32)), .val (.ref b1), .unset] [(.int cc), (.ref b1)])) rfl (by rw [hml]; rfl) (lenOf pd_3 rfl) rfl (by show 2 * 0 + _ ≤ _; exact Nat.le_of_eq rfl) (hb hby at_62) (by decide) (by decide)
    have N25 := Fr.app N23 Nq25
    have Z26 := Nat.le_trans Z24 K25
    refine Go.st st25 ?_
    show Go p e below P (T25.setTop (mkF m 65 #[.val (.int a), .val (.int bb), .val (.int cc), .val (.int md), .val (.int (1 : Int32)), .val (.ref b1), .unset] []))
    refine Go.st (fun _ kt => XS.iload X25.here hx rfl (hb hby at_65) rfl (XS.iconst X25.here hx rfl (hb hby at_67) (XS.icmpYes X25.here hx rfl (pc0 := 68) (pc' := 76) rfl (hb hby at_68) rfl (feq (by decide : ¬ ((1 : Int32) = (3 : Int32)))).2 (by decide) (by decide) (XS.aload X25.here hx rfl (hb hby at_76) rfl rfl kt)))) ?_
    show Go p e below P (T25.setTop (mkF m 78 #[.val (.int a), .val (.int bb), .val (.int cc), .val (.int md), .val (.int (1 : Int32)), .val (.ref b1), .unset] [(.ref b1)]))
    obtain ⟨_, T27, Lc27, X27, ⟨rfl, Nq27, eq27⟩, st27⟩ := callCv X25 hx hZ rfl (y := (⟨"com/example/cartulary/cartulary/seda/IntList", "size", "()I"⟩ : MethodName)) (a := b1) (argsL := []) (rest := []) hown (hw _ (List.mem_of_getElem? (i := 41) rfl)) (hw _ (List.mem_of_getElem? (i := 42) rfl)) (hw _ (List.mem_of_getElem? (i := 44) rfl)) (hw _ (List.mem_of_getElem? (i := 43) rfl)) (hw _ (List.mem_of_getElem? (i := 2) rfl)) (hw _ (List.mem_of_getElem? (i := 45) rfl)) (by decide) (by obtain ⟨_, _, q, _⟩ := IL25; exact q) (rmSz l Z a0 hw b1 3 _ _ _ n0 Z26 IL25) (W := 0) (by decide) (by decide) (g := (mkF m 78 #[.val (.int a), .val (.int bb), .val (.int cc), .val (.int md), .val (.int (1 : Int32)), .val (.ref b1), .unset] [(.ref b1)])) rfl (by rw [hml]; rfl) (lenOf pd_4 rfl) rfl (by show 2 * 0 + _ ≤ _; exact Nat.le_of_eq rfl) (hb hby at_78) (by decide) (by decide)
    have N27 := Fr.app N25 Nq27
    have e27 : T27.heap = T25.heap := eq27
    refine Go.st st27 ?_
    show Go p e below P (T27.setTop (mkF m 81 #[.val (.int a), .val (.int bb), .val (.int cc), .val (.int md), .val (.int (1 : Int32)), .val (.ref b1), .unset] [(.int (3 : Int32))]))
    refine Go.st (fun _ kt => XS.iconst X27.here hx rfl (hb hby at_81) (XS.icmpYes X27.here hx rfl (pc0 := 82) (pc' := 87) rfl (hb hby at_82) rfl (teq (by decide : (3 : Int32) = (3 : Int32))).1 (by decide) (by decide) (XS.aload X27.here hx rfl (hb hby at_87) rfl rfl kt))) ?_
    show Go p e below P (T27.setTop (mkF m 89 #[.val (.int a), .val (.int bb), .val (.int cc), .val (.int md), .val (.int (1 : Int32)), .val (.ref b1), .unset] [(.ref b1)]))
    obtain ⟨_, T28, Lc28, X28, ⟨ta28, rfl, Nq28, K28, Vt28, Ct28, Gt28, Sz28⟩, st28⟩ := callCv X27 hx hZ e27 (y := (⟨"com/example/cartulary/cartulary/seda/IntList", "toArray", "()[I"⟩ : MethodName)) (a := b1) (argsL := []) (rest := []) hown (hw _ (List.mem_of_getElem? (i := 46) rfl)) (hw _ (List.mem_of_getElem? (i := 25) rfl)) (hw _ (List.mem_of_getElem? (i := 27) rfl)) (hw _ (List.mem_of_getElem? (i := 26) rfl)) (hw _ (List.mem_of_getElem? (i := 2) rfl)) (hw _ (List.mem_of_getElem? (i := 28) rfl)) (by decide) (by obtain ⟨_, _, q, _⟩ := IL25; exact q) (rmT l Z a0 hw b1 3 _ _ _ n0 Z26 IL25 (by decide)) (W := 0) (by decide) (by decide) (g := (mkF m 89 #[.val (.int a), .val (.int bb), .val (.int cc), .val (.int md), .val (.int (1 : Int32)), .val (.ref b1), .unset] [(.ref b1)])) rfl (by rw [hml]; rfl) (lenOf pd_1 rfl) rfl (by show 2 * 0 + _ ≤ _; exact Nat.le_of_eq rfl) (hb hby at_89) (by decide) (by decide)
    have N28 := Fr.app N27 Nq28
    have Z29 := Nat.le_trans Z26 K28.1
    have IL30 : own_IL Z T28.heap n0 b1 3 cp25 (updN (updN (updN (fun _ => (0 : Int32)) 0 a) 1 bb) 2 cc) := by
        obtain ⟨t, f, q1, q2, q3, q4, q5, q6, q7, q8⟩ := IL25
        exact ⟨t, f, q1.keep K28, q2.keep K28 nin0, q3.keep K28 nin0, q4.keep K28 nin0, q5.keep K28, q6, q7, q8⟩
    refine Go.st st28 ?_
    show Go p e below P (T28.setTop (mkF m 92 #[.val (.int a), .val (.int bb), .val (.int cc), .val (.int md), .val (.int (1 : Int32)), .val (.ref b1), .unset] [(.ref ta28)]))
    refine Go.st (fun _ kt => XS.astore X28.here hx rfl (hb hby at_92) rfl rfl (l' := #[.val (.int a), .val (.int bb), .val (.int cc), .val (.int md), .val (.int (1 : Int32)), .val (.ref b1), .val (.ref ta28)]) rfl (XS.aload X28.here hx rfl (hb hby at_94) rfl rfl (aryLen X28 hx hZ rfl Vt28 (g := (mkF m 96 #[.val (.int a), .val (.int bb), .val (.int cc), .val (.int md), .val (.int (1 : Int32)), .val (.ref b1), .val (.ref ta28)] [(.ref ta28)])) rfl rfl (hb hby at_96) _ (XS.iconst X28.here hx rfl (hb hby at_97) (XS.icmpYes X28.here hx rfl (pc0 := 98) (pc' := 103) rfl (hb hby at_98) rfl (teq (by decide : (3 : Int32) = (3 : Int32))).1 (by decide) (by decide) (XS.aload X28.here hx rfl (hb hby at_103) rfl rfl (XS.iconst X28.here hx rfl (hb hby at_105) (aryLdI X28 hx hZ rfl Vt28 (j := (0 : Int32)) (i := 0) ⟨by decide, by decide⟩ (by decide) (g := (mkF m 106 #[.val (.int a), .val (.int bb), .val (.int cc), .val (.int md), .val (.int (1 : Int32)), .val (.ref b1), .val (.ref ta28)] [(.int (0 : Int32)), (.ref ta28)])) rfl rfl (hb hby at_106) _ kt)))))))) ?_
    show Go p e below P (T28.setTop (mkF m 107 #[.val (.int a), .val (.int bb), .val (.int cc), .val (.int md), .val (.int (1 : Int32)), .val (.ref b1), .val (.ref ta28)] [(.int a)]))
    refine Go.st (fun _ kt => XS.iloadN X28.here hx rfl (hb hby at_107) rfl (XS.icmpNo X28.here hx rfl (hb hby at_108) rfl (teq rfl).2 (XS.aload X28.here hx rfl (hb hby at_111) rfl rfl (XS.iconst X28.here hx rfl (hb hby at_113) (aryLdI X28 hx hZ rfl Vt28 (j := (1 : Int32)) (i := 1) ⟨by decide, by decide⟩ (by decide) (g := (mkF m 114 #[.val (.int a), .val (.int bb), .val (.int cc), .val (.int md), .val (.int (1 : Int32)), .val (.ref b1), .val (.ref ta28)] [(.int (1 : Int32)), (.ref ta28)])) rfl rfl (hb hby at_114) _ (XS.iloadN X28.here hx rfl (hb hby at_115) rfl (XS.icmpNo X28.here hx rfl (hb hby at_116) rfl (teq rfl).2 (XS.aload X28.here hx rfl (hb hby at_119) rfl rfl kt)))))))) ?_
    show Go p e below P (T28.setTop (mkF m 121 #[.val (.int a), .val (.int bb), .val (.int cc), .val (.int md), .val (.int (1 : Int32)), .val (.ref b1), .val (.ref ta28)] [(.ref ta28)]))
    refine Go.st (fun _ kt => XS.iconst X28.here hx rfl (hb hby at_121) (aryLdI X28 hx hZ rfl Vt28 (j := (2 : Int32)) (i := 2) ⟨by decide, by decide⟩ (by decide) (g := (mkF m 122 #[.val (.int a), .val (.int bb), .val (.int cc), .val (.int md), .val (.int (1 : Int32)), .val (.ref b1), .val (.ref ta28)] [(.int (2 : Int32)), (.ref ta28)])) rfl rfl (hb hby at_122) _ (XS.iloadN X28.here hx rfl (hb hby at_123) rfl (XS.icmpYes X28.here hx rfl (pc0 := 124) (pc' := 129) rfl (hb hby at_124) rfl (teq rfl).1 (by decide) (by decide) (XS.aload X28.here hx rfl (hb hby at_129) rfl rfl (XS.iconst X28.here hx rfl (hb hby at_131) kt)))))) ?_
    show Go p e below P (T28.setTop (mkF m 132 #[.val (.int a), .val (.int bb), .val (.int cc), .val (.int md), .val (.int (1 : Int32)), .val (.ref b1), .val (.ref ta28)] [(.int (0 : Int32)), (.ref b1)]))
    obtain ⟨_, T31, Lc31, X31, ⟨rfl, Nq31, eq31⟩, st31⟩ := callCv X28 hx hZ rfl (y := (⟨"com/example/cartulary/cartulary/seda/IntList", "get", "(I)I"⟩ : MethodName)) (a := b1) (argsL := [(.int (0 : Int32))]) (rest := []) hown (hw _ (List.mem_of_getElem? (i := 47) rfl)) (hw _ (List.mem_of_getElem? (i := 48) rfl)) (hw _ (List.mem_of_getElem? (i := 50) rfl)) (hw _ (List.mem_of_getElem? (i := 49) rfl)) (hw _ (List.mem_of_getElem? (i := 2) rfl)) (hw _ (List.mem_of_getElem? (i := 51) rfl)) (by decide) (by obtain ⟨_, _, q, _⟩ := IL30; exact q) (rmG l Z a0 hw b1 (0 : Int32) 3 _ _ 0 _ n0 Z29 IL30 (by decide) rfl (by decide)) (W := 0) (by decide) (by decide) (g := (mkF m 132 #[.val (.int a), .val (.int bb), .val (.int cc), .val (.int md), .val (.int (1 : Int32)), .val (.ref b1), .val (.ref ta28)] [(.int (0 : Int32)), (.ref b1)])) rfl (by rw [hml]; rfl) (lenOf pd_5 rfl) rfl (by show 2 * 0 + _ ≤ _; exact Nat.le_of_eq rfl) (hb hby at_132) (by decide) (by decide)
    have N31 := Fr.app N28 Nq31
    have e31 : T31.heap = T28.heap := eq31
    refine Go.st st31 ?_
    show Go p e below P (T31.setTop (mkF m 135 #[.val (.int a), .val (.int bb), .val (.int cc), .val (.int md), .val (.int (1 : Int32)), .val (.ref b1), .val (.ref ta28)] [(.int a)]))
    refine Go.st (fun _ kt => XS.iloadN X31.here hx rfl (hb hby at_135) rfl (XS.icmpNo X31.here hx rfl (hb hby at_136) rfl (teq rfl).2 (XS.aload X31.here hx rfl (hb hby at_139) rfl rfl (XS.iconst X31.here hx rfl (hb hby at_141) kt)))) ?_
    show Go p e below P (T31.setTop (mkF m 142 #[.val (.int a), .val (.int bb), .val (.int cc), .val (.int md), .val (.int (1 : Int32)), .val (.ref b1), .val (.ref ta28)] [(.int (2 : Int32)), (.ref b1)]))
    obtain ⟨_, T32, Lc32, X32, ⟨rfl, Nq32, eq32⟩, st32⟩ := callCv X31 hx hZ e31 (y := (⟨"com/example/cartulary/cartulary/seda/IntList", "get", "(I)I"⟩ : MethodName)) (a := b1) (argsL := [(.int (2 : Int32))]) (rest := []) hown (hw _ (List.mem_of_getElem? (i := 47) rfl)) (hw _ (List.mem_of_getElem? (i := 48) rfl)) (hw _ (List.mem_of_getElem? (i := 50) rfl)) (hw _ (List.mem_of_getElem? (i := 49) rfl)) (hw _ (List.mem_of_getElem? (i := 2) rfl)) (hw _ (List.mem_of_getElem? (i := 51) rfl)) (by decide) (by obtain ⟨_, _, q, _⟩ := IL30; exact q) (rmG l Z a0 hw b1 (2 : Int32) 3 _ _ 2 _ n0 Z29 IL30 (by decide) rfl (by decide)) (W := 0) (by decide) (by decide) (g := (mkF m 142 #[.val (.int a), .val (.int bb), .val (.int cc), .val (.int md), .val (.int (1 : Int32)), .val (.ref b1), .val (.ref ta28)] [(.int (2 : Int32)), (.ref b1)])) rfl (by rw [hml]; rfl) (lenOf pd_5 rfl) rfl (by show 2 * 0 + _ ≤ _; exact Nat.le_of_eq rfl) (hb hby at_142) (by decide) (by decide)
    have N32 := Fr.app N31 Nq32
    have e32 : T32.heap = T28.heap := eq32
    refine Go.st st32 ?_
    show Go p e below P (T32.setTop (mkF m 145 #[.val (.int a), .val (.int bb), .val (.int cc), .val (.int md), .val (.int (1 : Int32)), .val (.ref b1), .val (.ref ta28)] [(.int cc)]))
    refine Go.st (fun _ kt => XS.iloadN X32.here hx rfl (hb hby at_145) rfl (XS.icmpNo X32.here hx rfl (hb hby at_146) rfl (teq rfl).2 (XS.iconst X32.here hx rfl (hb hby at_149) (XS.goto X32.here hx rfl (pc0 := 150) (pc' := 154) rfl (hb hby at_150) (by decide) (by decide) kt)))) ?_
    show Go p e below P (T32.setTop (mkF m 154 #[.val (.int a), .val (.int bb), .val (.int cc), .val (.int md), .val (.int (1 : Int32)), .val (.ref b1), .val (.ref ta28)] [(.int (1 : Int32))]))
    exact goN X32 hx (t := .boolean) hret (by simp) hlk (hb hby at_154) hP (by decide) (by decide) ⟨rfl, N32⟩
  · show Go p e below P (T3.setTop (mkF m 15 #[.val (.int a), .val (.int bb), .val (.int cc), .val (.int md), .val (.int (2 : Int32)), .val (.ref b1), .unset] []))
    refine Go.st (fun _ kt => XS.iload X3.here hx rfl (hb hby at_15) rfl (XS.ifYes X3.here hx rfl (pc0 := 17) (pc' := 25) rfl (hb hby at_17) rfl ((if0 _ _).trans (feq (by decide : ¬ ((2 : Int32) = (0 : Int32)))).2) (by decide) (by decide) (XS.aload X3.here hx rfl (hb hby at_25) rfl rfl (XS.iloadN X3.here hx rfl (hb hby at_27) rfl kt)))) ?_
    show Go p e below P (T3.setTop (mkF m 28 #[.val (.int a), .val (.int bb), .val (.int cc), .val (.int md), .val (.int (2 : Int32)), .val (.ref b1), .unset] [(.int a), (.ref b1)]))
    obtain ⟨_, T33, Lc33, X33, ⟨rfl, Nq33, K33, cp33, IL33⟩, st33⟩ := callCv X3 hx hZ rfl (y := (⟨"com/example/cartulary/cartulary/seda/IntList", "add", "(I)V"⟩ : MethodName)) (a := b1) (argsL := [(.int a)]) (rest := []) hown (hw _ (List.mem_of_getElem? (i := 12) rfl)) (hw _ (List.mem_of_getElem? (i := 13) rfl)) (hw _ (List.mem_of_getElem? (i := 15) rfl)) (hw _ (List.mem_of_getElem? (i := 14) rfl)) (hw _ (List.mem_of_getElem? (i := 2) rfl)) (hw _ (List.mem_of_getElem? (i := 16) rfl)) (by decide) (by obtain ⟨_, _, q, _⟩ := IL3; exact q) (rmA l Z a0 hw b1 a 0 _ _ _ n0 Z4 IL3 G1 (by decide)) (W := 0) (by decide) (by decide) (g := (mkF m 28 #[.val (.int a), .val (.int bb), .val (.int cc), .val (.int md), .val (.int (2 : Int32)), .val (.ref b1), .unset] [(.int a), (.ref b1)])) rfl (by rw [hml]; rfl) (lenOf pd_3 rfl) rfl (by show 2 * 0 + _ ≤ _; exact Nat.le_of_eq rfl) (hb hby at_28) (by decide) (by decide)
    have N33 := Fr.app N3 Nq33
    have Z34 := Nat.le_trans Z4 K33
    refine Go.st st33 ?_
    show Go p e below P (T33.setTop (mkF m 31 #[.val (.int a), .val (.int bb), .val (.int cc), .val (.int md), .val (.int (2 : Int32)), .val (.ref b1), .unset] []))
    refine Go.st (fun _ kt => XS.iload X33.here hx rfl (hb hby at_31) rfl (XS.iconst X33.here hx rfl (hb hby at_33) (XS.icmpYes X33.here hx rfl (pc0 := 34) (pc' := 42) rfl (hb hby at_34) rfl (feq (by decide : ¬ ((2 : Int32) = (1 : Int32)))).2 (by decide) (by decide) (XS.aload X33.here hx rfl (hb hby at_42) rfl rfl (XS.iloadN X33.here hx rfl (hb hby at_44) rfl kt))))) ?_
    show Go p e below P (T33.setTop (mkF m 45 #[.val (.int a), .val (.int bb), .val (.int cc), .val (.int md), .val (.int (2 : Int32)), .val (.ref b1), .unset] [(.int bb), (.ref b1)]))
    obtain ⟨_, T35, Lc35, X35, ⟨rfl, Nq35, K35, cp35, IL35⟩, st35⟩ := callCv X33 hx hZ rfl (y := (⟨"com/example/cartulary/cartulary/seda/IntList", "add", "(I)V"⟩ : MethodName)) (a := b1) (argsL := [(.int bb)]) (rest := []) hown (hw _ (List.mem_of_getElem? (i := 12) rfl)) (hw _ (List.mem_of_getElem? (i := 13) rfl)) (hw _ (List.mem_of_getElem? (i := 15) rfl)) (hw _ (List.mem_of_getElem? (i := 14) rfl)) (hw _ (List.mem_of_getElem? (i := 2) rfl)) (hw _ (List.mem_of_getElem? (i := 16) rfl)) (by decide) (by obtain ⟨_, _, q, _⟩ := IL33; exact q) (rmA l Z a0 hw b1 bb 1 _ _ _ n0 Z34 IL33 G1 (by decide)) (W := 0) (by decide) (by decide) (g := (mkF m 45 #[.val (.int a), .val (.int bb), .val (.int cc), .val (.int md), .val (.int (2 : Int32)), .val (.ref b1), .unset] [(.int bb), (.ref b1)])) rfl (by rw [hml]; rfl) (lenOf pd_3 rfl) rfl (by show 2 * 0 + _ ≤ _; exact Nat.le_of_eq rfl) (hb hby at_45) (by decide) (by decide)
    have N35 := Fr.app N33 Nq35
    have Z36 := Nat.le_trans Z34 K35
    refine Go.st st35 ?_
    show Go p e below P (T35.setTop (mkF m 48 #[.val (.int a), .val (.int bb), .val (.int cc), .val (.int md), .val (.int (2 : Int32)), .val (.ref b1), .unset] []))
    refine Go.st (fun _ kt => XS.iload X35.here hx rfl (hb hby at_48) rfl (XS.iconst X35.here hx rfl (hb hby at_50) (XS.icmpNo X35.here hx rfl (hb hby at_51) rfl (teq (by decide : (2 : Int32) = (2 : Int32))).2 (XS.aload X35.here hx rfl (hb hby at_54) rfl rfl kt)))) ?_
    show Go p e below P (T35.setTop (mkF m 56 #[.val (.int a), .val (.int bb), .val (.int cc), .val (.int md), .val (.int (2 : Int32)), .val (.ref b1), .unset] [(.ref b1)]))
    obtain ⟨_, T37, Lc37, X37, ⟨rfl, Nq37, K37, IL37⟩, st37⟩ := callCv X35 hx hZ rfl (y := (⟨"com/example/cartulary/cartulary/seda/IntList", "trimToSize", "()V"⟩ : MethodName)) (a := b1) (argsL := []) (rest := []) hown (hw _ (List.mem_of_getElem? (i := 19) rfl)) (hw _ (List.mem_of_getElem? (i := 20) rfl)) (hw _ (List.mem_of_getElem? (i := 22) rfl)) (hw _ (List.mem_of_getElem? (i := 21) rfl)) (hw _ (List.mem_of_getElem? (i := 2) rfl)) (hw _ (List.mem_of_getElem? (i := 23) rfl)) (by decide) (by obtain ⟨_, _, q, _⟩ := IL35; exact q) (rmTr l Z a0 hw b1 2 _ _ _ n0 Z36 IL35 G1 (by decide)) (W := 0) (by decide) (by decide) (g := (mkF m 56 #[.val (.int a), .val (.int bb), .val (.int cc), .val (.int md), .val (.int (2 : Int32)), .val (.ref b1), .unset] [(.ref b1)])) rfl (by rw [hml]; rfl) (lenOf pd_2 rfl) rfl (by show 2 * 0 + _ ≤ _; exact Nat.le_of_eq rfl) (hb hby at_56) (by decide) (by decide)
    have N37 := Fr.app N35 Nq37
    have Z38 := Nat.le_trans Z36 K37
    refine Go.st st37 ?_
    show Go p e below P (T37.setTop (mkF m 59 #[.val (.int a), .val (.int bb), .val (.int cc), .val (.int md), .val (.int (2 : Int32)), .val (.ref b1), .unset] []))
    refine Go.st (fun _ kt => XS.aload X37.here hx rfl (hb hby at_59) rfl rfl (XS.iloadN X37.here hx rfl (hb hby at_61) rfl kt)) ?_
    show Go p e below P (T37.setTop (mkF m 62 #[.val (.int a), .val (.int bb), .val (.int cc), .val (.int md), .val (.int (2 : Int32)), .val (.ref b1), .unset] [(.int cc), (.ref b1)]))
    obtain ⟨_, T39, Lc39, X39, ⟨rfl, Nq39, K39, cp39, IL39⟩, st39⟩ := callCv X37 hx hZ rfl (y := (⟨"com/example/cartulary/cartulary/seda/IntList", "add", "(I)V"⟩ : MethodName)) (a := b1) (argsL := [(.int cc)]) (rest := []) hown (hw _ (List.mem_of_getElem? (i := 12) rfl)) (hw _ (List.mem_of_getElem? (i := 13) rfl)) (hw _ (List.mem_of_getElem? (i := 15) rfl)) (hw _ (List.mem_of_getElem? (i := 14) rfl)) (hw _ (List.mem_of_getElem? (i := 2) rfl)) (hw _ (List.mem_of_getElem? (i := 16) rfl)) (by decide) (by obtain ⟨_, _, q, _⟩ := IL37; exact q) (rmA l Z a0 hw b1 cc 2 _ _ _ n0 Z38 IL37 G1 (by decide)) (W := 0) (by decide) (by decide) (g := (mkF m 62 #[.val (.int a), .val (.int bb), .val (.int cc), .val (.int md), .val (.int (2 : Int32)), .val (.ref b1), .unset] [(.int cc), (.ref b1)])) rfl (by rw [hml]; rfl) (lenOf pd_3 rfl) rfl (by show 2 * 0 + _ ≤ _; exact Nat.le_of_eq rfl) (hb hby at_62) (by decide) (by decide)
    have N39 := Fr.app N37 Nq39
    have Z40 := Nat.le_trans Z38 K39
    refine Go.st st39 ?_
    show Go p e below P (T39.setTop (mkF m 65 #[.val (.int a), .val (.int bb), .val (.int cc), .val (.int md), .val (.int (2 : Int32)), .val (.ref b1), .unset] []))
    refine Go.st (fun _ kt => XS.iload X39.here hx rfl (hb hby at_65) rfl (XS.iconst X39.here hx rfl (hb hby at_67) (XS.icmpYes X39.here hx rfl (pc0 := 68) (pc' := 76) rfl (hb hby at_68) rfl (feq (by decide : ¬ ((2 : Int32) = (3 : Int32)))).2 (by decide) (by decide) (XS.aload X39.here hx rfl (hb hby at_76) rfl rfl kt)))) ?_
    show Go p e below P (T39.setTop (mkF m 78 #[.val (.int a), .val (.int bb), .val (.int cc), .val (.int md), .val (.int (2 : Int32)), .val (.ref b1), .unset] [(.ref b1)]))
    obtain ⟨_, T41, Lc41, X41, ⟨rfl, Nq41, eq41⟩, st41⟩ := callCv X39 hx hZ rfl (y := (⟨"com/example/cartulary/cartulary/seda/IntList", "size", "()I"⟩ : MethodName)) (a := b1) (argsL := []) (rest := []) hown (hw _ (List.mem_of_getElem? (i := 41) rfl)) (hw _ (List.mem_of_getElem? (i := 42) rfl)) (hw _ (List.mem_of_getElem? (i := 44) rfl)) (hw _ (List.mem_of_getElem? (i := 43) rfl)) (hw _ (List.mem_of_getElem? (i := 2) rfl)) (hw _ (List.mem_of_getElem? (i := 45) rfl)) (by decide) (by obtain ⟨_, _, q, _⟩ := IL39; exact q) (rmSz l Z a0 hw b1 3 _ _ _ n0 Z40 IL39) (W := 0) (by decide) (by decide) (g := (mkF m 78 #[.val (.int a), .val (.int bb), .val (.int cc), .val (.int md), .val (.int (2 : Int32)), .val (.ref b1), .unset] [(.ref b1)])) rfl (by rw [hml]; rfl) (lenOf pd_4 rfl) rfl (by show 2 * 0 + _ ≤ _; exact Nat.le_of_eq rfl) (hb hby at_78) (by decide) (by decide)
    have N41 := Fr.app N39 Nq41
    have e41 : T41.heap = T39.heap := eq41
    refine Go.st st41 ?_
    show Go p e below P (T41.setTop (mkF m 81 #[.val (.int a), .val (.int bb), .val (.int cc), .val (.int md), .val (.int (2 : Int32)), .val (.ref b1), .unset] [(.int (3 : Int32))]))
    refine Go.st (fun _ kt => XS.iconst X41.here hx rfl (hb hby at_81) (XS.icmpYes X41.here hx rfl (pc0 := 82) (pc' := 87) rfl (hb hby at_82) rfl (teq (by decide : (3 : Int32) = (3 : Int32))).1 (by decide) (by decide) (XS.aload X41.here hx rfl (hb hby at_87) rfl rfl kt))) ?_
    show Go p e below P (T41.setTop (mkF m 89 #[.val (.int a), .val (.int bb), .val (.int cc), .val (.int md), .val (.int (2 : Int32)), .val (.ref b1), .unset] [(.ref b1)]))
    obtain ⟨_, T42, Lc42, X42, ⟨ta42, rfl, Nq42, K42, Vt42, Ct42, Gt42, Sz42⟩, st42⟩ := callCv X41 hx hZ e41 (y := (⟨"com/example/cartulary/cartulary/seda/IntList", "toArray", "()[I"⟩ : MethodName)) (a := b1) (argsL := []) (rest := []) hown (hw _ (List.mem_of_getElem? (i := 46) rfl)) (hw _ (List.mem_of_getElem? (i := 25) rfl)) (hw _ (List.mem_of_getElem? (i := 27) rfl)) (hw _ (List.mem_of_getElem? (i := 26) rfl)) (hw _ (List.mem_of_getElem? (i := 2) rfl)) (hw _ (List.mem_of_getElem? (i := 28) rfl)) (by decide) (by obtain ⟨_, _, q, _⟩ := IL39; exact q) (rmT l Z a0 hw b1 3 _ _ _ n0 Z40 IL39 (by decide)) (W := 0) (by decide) (by decide) (g := (mkF m 89 #[.val (.int a), .val (.int bb), .val (.int cc), .val (.int md), .val (.int (2 : Int32)), .val (.ref b1), .unset] [(.ref b1)])) rfl (by rw [hml]; rfl) (lenOf pd_1 rfl) rfl (by show 2 * 0 + _ ≤ _; exact Nat.le_of_eq rfl) (hb hby at_89) (by decide) (by decide)
    have N42 := Fr.app N41 Nq42
    have Z43 := Nat.le_trans Z40 K42.1
    have IL44 : own_IL Z T42.heap n0 b1 3 cp39 (updN (updN (updN (fun _ => (0 : Int32)) 0 a) 1 bb) 2 cc) := by
        obtain ⟨t, f, q1, q2, q3, q4, q5, q6, q7, q8⟩ := IL39
        exact ⟨t, f, q1.keep K42, q2.keep K42 nin0, q3.keep K42 nin0, q4.keep K42 nin0, q5.keep K42, q6, q7, q8⟩
    refine Go.st st42 ?_
    show Go p e below P (T42.setTop (mkF m 92 #[.val (.int a), .val (.int bb), .val (.int cc), .val (.int md), .val (.int (2 : Int32)), .val (.ref b1), .unset] [(.ref ta42)]))
    refine Go.st (fun _ kt => XS.astore X42.here hx rfl (hb hby at_92) rfl rfl (l' := #[.val (.int a), .val (.int bb), .val (.int cc), .val (.int md), .val (.int (2 : Int32)), .val (.ref b1), .val (.ref ta42)]) rfl (XS.aload X42.here hx rfl (hb hby at_94) rfl rfl (aryLen X42 hx hZ rfl Vt42 (g := (mkF m 96 #[.val (.int a), .val (.int bb), .val (.int cc), .val (.int md), .val (.int (2 : Int32)), .val (.ref b1), .val (.ref ta42)] [(.ref ta42)])) rfl rfl (hb hby at_96) _ (XS.iconst X42.here hx rfl (hb hby at_97) (XS.icmpYes X42.here hx rfl (pc0 := 98) (pc' := 103) rfl (hb hby at_98) rfl (teq (by decide : (3 : Int32) = (3 : Int32))).1 (by decide) (by decide) (XS.aload X42.here hx rfl (hb hby at_103) rfl rfl (XS.iconst X42.here hx rfl (hb hby at_105) (aryLdI X42 hx hZ rfl Vt42 (j := (0 : Int32)) (i := 0) ⟨by decide, by decide⟩ (by decide) (g := (mkF m 106 #[.val (.int a), .val (.int bb), .val (.int cc), .val (.int md), .val (.int (2 : Int32)), .val (.ref b1), .val (.ref ta42)] [(.int (0 : Int32)), (.ref ta42)])) rfl rfl (hb hby at_106) _ kt)))))))) ?_
    show Go p e below P (T42.setTop (mkF m 107 #[.val (.int a), .val (.int bb), .val (.int cc), .val (.int md), .val (.int (2 : Int32)), .val (.ref b1), .val (.ref ta42)] [(.int a)]))
    refine Go.st (fun _ kt => XS.iloadN X42.here hx rfl (hb hby at_107) rfl (XS.icmpNo X42.here hx rfl (hb hby at_108) rfl (teq rfl).2 (XS.aload X42.here hx rfl (hb hby at_111) rfl rfl (XS.iconst X42.here hx rfl (hb hby at_113) (aryLdI X42 hx hZ rfl Vt42 (j := (1 : Int32)) (i := 1) ⟨by decide, by decide⟩ (by decide) (g := (mkF m 114 #[.val (.int a), .val (.int bb), .val (.int cc), .val (.int md), .val (.int (2 : Int32)), .val (.ref b1), .val (.ref ta42)] [(.int (1 : Int32)), (.ref ta42)])) rfl rfl (hb hby at_114) _ (XS.iloadN X42.here hx rfl (hb hby at_115) rfl (XS.icmpNo X42.here hx rfl (hb hby at_116) rfl (teq rfl).2 (XS.aload X42.here hx rfl (hb hby at_119) rfl rfl kt)))))))) ?_
    show Go p e below P (T42.setTop (mkF m 121 #[.val (.int a), .val (.int bb), .val (.int cc), .val (.int md), .val (.int (2 : Int32)), .val (.ref b1), .val (.ref ta42)] [(.ref ta42)]))
    refine Go.st (fun _ kt => XS.iconst X42.here hx rfl (hb hby at_121) (aryLdI X42 hx hZ rfl Vt42 (j := (2 : Int32)) (i := 2) ⟨by decide, by decide⟩ (by decide) (g := (mkF m 122 #[.val (.int a), .val (.int bb), .val (.int cc), .val (.int md), .val (.int (2 : Int32)), .val (.ref b1), .val (.ref ta42)] [(.int (2 : Int32)), (.ref ta42)])) rfl rfl (hb hby at_122) _ (XS.iloadN X42.here hx rfl (hb hby at_123) rfl (XS.icmpYes X42.here hx rfl (pc0 := 124) (pc' := 129) rfl (hb hby at_124) rfl (teq rfl).1 (by decide) (by decide) (XS.aload X42.here hx rfl (hb hby at_129) rfl rfl (XS.iconst X42.here hx rfl (hb hby at_131) kt)))))) ?_
    show Go p e below P (T42.setTop (mkF m 132 #[.val (.int a), .val (.int bb), .val (.int cc), .val (.int md), .val (.int (2 : Int32)), .val (.ref b1), .val (.ref ta42)] [(.int (0 : Int32)), (.ref b1)]))
    obtain ⟨_, T45, Lc45, X45, ⟨rfl, Nq45, eq45⟩, st45⟩ := callCv X42 hx hZ rfl (y := (⟨"com/example/cartulary/cartulary/seda/IntList", "get", "(I)I"⟩ : MethodName)) (a := b1) (argsL := [(.int (0 : Int32))]) (rest := []) hown (hw _ (List.mem_of_getElem? (i := 47) rfl)) (hw _ (List.mem_of_getElem? (i := 48) rfl)) (hw _ (List.mem_of_getElem? (i := 50) rfl)) (hw _ (List.mem_of_getElem? (i := 49) rfl)) (hw _ (List.mem_of_getElem? (i := 2) rfl)) (hw _ (List.mem_of_getElem? (i := 51) rfl)) (by decide) (by obtain ⟨_, _, q, _⟩ := IL44; exact q) (rmG l Z a0 hw b1 (0 : Int32) 3 _ _ 0 _ n0 Z43 IL44 (by decide) rfl (by decide)) (W := 0) (by decide) (by decide) (g := (mkF m 132 #[.val (.int a), .val (.int bb), .val (.int cc), .val (.int md), .val (.int (2 : Int32)), .val (.ref b1), .val (.ref ta42)] [(.int (0 : Int32)), (.ref b1)])) rfl (by rw [hml]; rfl) (lenOf pd_5 rfl) rfl (by show 2 * 0 + _ ≤ _; exact Nat.le_of_eq rfl) (hb hby at_132) (by decide) (by decide)
    have N45 := Fr.app N42 Nq45
    have e45 : T45.heap = T42.heap := eq45
    refine Go.st st45 ?_
    show Go p e below P (T45.setTop (mkF m 135 #[.val (.int a), .val (.int bb), .val (.int cc), .val (.int md), .val (.int (2 : Int32)), .val (.ref b1), .val (.ref ta42)] [(.int a)]))
    refine Go.st (fun _ kt => XS.iloadN X45.here hx rfl (hb hby at_135) rfl (XS.icmpNo X45.here hx rfl (hb hby at_136) rfl (teq rfl).2 (XS.aload X45.here hx rfl (hb hby at_139) rfl rfl (XS.iconst X45.here hx rfl (hb hby at_141) kt)))) ?_
    show Go p e below P (T45.setTop (mkF m 142 #[.val (.int a), .val (.int bb), .val (.int cc), .val (.int md), .val (.int (2 : Int32)), .val (.ref b1), .val (.ref ta42)] [(.int (2 : Int32)), (.ref b1)]))
    obtain ⟨_, T46, Lc46, X46, ⟨rfl, Nq46, eq46⟩, st46⟩ := callCv X45 hx hZ e45 (y := (⟨"com/example/cartulary/cartulary/seda/IntList", "get", "(I)I"⟩ : MethodName)) (a := b1) (argsL := [(.int (2 : Int32))]) (rest := []) hown (hw _ (List.mem_of_getElem? (i := 47) rfl)) (hw _ (List.mem_of_getElem? (i := 48) rfl)) (hw _ (List.mem_of_getElem? (i := 50) rfl)) (hw _ (List.mem_of_getElem? (i := 49) rfl)) (hw _ (List.mem_of_getElem? (i := 2) rfl)) (hw _ (List.mem_of_getElem? (i := 51) rfl)) (by decide) (by obtain ⟨_, _, q, _⟩ := IL44; exact q) (rmG l Z a0 hw b1 (2 : Int32) 3 _ _ 2 _ n0 Z43 IL44 (by decide) rfl (by decide)) (W := 0) (by decide) (by decide) (g := (mkF m 142 #[.val (.int a), .val (.int bb), .val (.int cc), .val (.int md), .val (.int (2 : Int32)), .val (.ref b1), .val (.ref ta42)] [(.int (2 : Int32)), (.ref b1)])) rfl (by rw [hml]; rfl) (lenOf pd_5 rfl) rfl (by show 2 * 0 + _ ≤ _; exact Nat.le_of_eq rfl) (hb hby at_142) (by decide) (by decide)
    have N46 := Fr.app N45 Nq46
    have e46 : T46.heap = T42.heap := eq46
    refine Go.st st46 ?_
    show Go p e below P (T46.setTop (mkF m 145 #[.val (.int a), .val (.int bb), .val (.int cc), .val (.int md), .val (.int (2 : Int32)), .val (.ref b1), .val (.ref ta42)] [(.int cc)]))
    refine Go.st (fun _ kt => XS.iloadN X46.here hx rfl (hb hby at_145) rfl (XS.icmpNo X46.here hx rfl (hb hby at_146) rfl (teq rfl).2 (XS.iconst X46.here hx rfl (hb hby at_149) (XS.goto X46.here hx rfl (pc0 := 150) (pc' := 154) rfl (hb hby at_150) (by decide) (by decide) kt)))) ?_
    show Go p e below P (T46.setTop (mkF m 154 #[.val (.int a), .val (.int bb), .val (.int cc), .val (.int md), .val (.int (2 : Int32)), .val (.ref b1), .val (.ref ta42)] [(.int (1 : Int32))]))
    exact goN X46 hx (t := .boolean) hret (by simp) hlk (hb hby at_154) hP (by decide) (by decide) ⟨rfl, N46⟩
  · show Go p e below P (T3.setTop (mkF m 15 #[.val (.int a), .val (.int bb), .val (.int cc), .val (.int md), .val (.int (3 : Int32)), .val (.ref b1), .unset] []))
    refine Go.st (fun _ kt => XS.iload X3.here hx rfl (hb hby at_15) rfl (XS.ifYes X3.here hx rfl (pc0 := 17) (pc' := 25) rfl (hb hby at_17) rfl ((if0 _ _).trans (feq (by decide : ¬ ((3 : Int32) = (0 : Int32)))).2) (by decide) (by decide) (XS.aload X3.here hx rfl (hb hby at_25) rfl rfl (XS.iloadN X3.here hx rfl (hb hby at_27) rfl kt)))) ?_
    show Go p e below P (T3.setTop (mkF m 28 #[.val (.int a), .val (.int bb), .val (.int cc), .val (.int md), .val (.int (3 : Int32)), .val (.ref b1), .unset] [(.int a), (.ref b1)]))
    obtain ⟨_, T47, Lc47, X47, ⟨rfl, Nq47, K47, cp47, IL47⟩, st47⟩ := callCv X3 hx hZ rfl (y := (⟨"com/example/cartulary/cartulary/seda/IntList", "add", "(I)V"⟩ : MethodName)) (a := b1) (argsL := [(.int a)]) (rest := []) hown (hw _ (List.mem_of_getElem? (i := 12) rfl)) (hw _ (List.mem_of_getElem? (i := 13) rfl)) (hw _ (List.mem_of_getElem? (i := 15) rfl)) (hw _ (List.mem_of_getElem? (i := 14) rfl)) (hw _ (List.mem_of_getElem? (i := 2) rfl)) (hw _ (List.mem_of_getElem? (i := 16) rfl)) (by decide) (by obtain ⟨_, _, q, _⟩ := IL3; exact q) (rmA l Z a0 hw b1 a 0 _ _ _ n0 Z4 IL3 G1 (by decide)) (W := 0) (by decide) (by decide) (g := (mkF m 28 #[.val (.int a), .val (.int bb), .val (.int cc), .val (.int md), .val (.int (3 : Int32)), .val (.ref b1), .unset] [(.int a), (.ref b1)])) rfl (by rw [hml]; rfl) (lenOf pd_3 rfl) rfl (by show 2 * 0 + _ ≤ _; exact Nat.le_of_eq rfl) (hb hby at_28) (by decide) (by decide)
    have N47 := Fr.app N3 Nq47
    have Z48 := Nat.le_trans Z4 K47
    refine Go.st st47 ?_
    show Go p e below P (T47.setTop (mkF m 31 #[.val (.int a), .val (.int bb), .val (.int cc), .val (.int md), .val (.int (3 : Int32)), .val (.ref b1), .unset] []))
    refine Go.st (fun _ kt => XS.iload X47.here hx rfl (hb hby at_31) rfl (XS.iconst X47.here hx rfl (hb hby at_33) (XS.icmpYes X47.here hx rfl (pc0 := 34) (pc' := 42) rfl (hb hby at_34) rfl (feq (by decide : ¬ ((3 : Int32) = (1 : Int32)))).2 (by decide) (by decide) (XS.aload X47.here hx rfl (hb hby at_42) rfl rfl (XS.iloadN X47.here hx rfl (hb hby at_44) rfl kt))))) ?_
    show Go p e below P (T47.setTop (mkF m 45 #[.val (.int a), .val (.int bb), .val (.int cc), .val (.int md), .val (.int (3 : Int32)), .val (.ref b1), .unset] [(.int bb), (.ref b1)]))
    obtain ⟨_, T49, Lc49, X49, ⟨rfl, Nq49, K49, cp49, IL49⟩, st49⟩ := callCv X47 hx hZ rfl (y := (⟨"com/example/cartulary/cartulary/seda/IntList", "add", "(I)V"⟩ : MethodName)) (a := b1) (argsL := [(.int bb)]) (rest := []) hown (hw _ (List.mem_of_getElem? (i := 12) rfl)) (hw _ (List.mem_of_getElem? (i := 13) rfl)) (hw _ (List.mem_of_getElem? (i := 15) rfl)) (hw _ (List.mem_of_getElem? (i := 14) rfl)) (hw _ (List.mem_of_getElem? (i := 2) rfl)) (hw _ (List.mem_of_getElem? (i := 16) rfl)) (by decide) (by obtain ⟨_, _, q, _⟩ := IL47; exact q) (rmA l Z a0 hw b1 bb 1 _ _ _ n0 Z48 IL47 G1 (by decide)) (W := 0) (by decide) (by decide) (g := (mkF m 45 #[.val (.int a), .val (.int bb), .val (.int cc), .val (.int md), .val (.int (3 : Int32)), .val (.ref b1), .unset] [(.int bb), (.ref b1)])) rfl (by rw [hml]; rfl) (lenOf pd_3 rfl) rfl (by show 2 * 0 + _ ≤ _; exact Nat.le_of_eq rfl) (hb hby at_45) (by decide) (by decide)
    have N49 := Fr.app N47 Nq49
    have Z50 := Nat.le_trans Z48 K49
    refine Go.st st49 ?_
    show Go p e below P (T49.setTop (mkF m 48 #[.val (.int a), .val (.int bb), .val (.int cc), .val (.int md), .val (.int (3 : Int32)), .val (.ref b1), .unset] []))
    refine Go.st (fun _ kt => XS.iload X49.here hx rfl (hb hby at_48) rfl (XS.iconst X49.here hx rfl (hb hby at_50) (XS.icmpYes X49.here hx rfl (pc0 := 51) (pc' := 59) rfl (hb hby at_51) rfl (feq (by decide : ¬ ((3 : Int32) = (2 : Int32)))).2 (by decide) (by decide) (XS.aload X49.here hx rfl (hb hby at_59) rfl rfl (XS.iloadN X49.here hx rfl (hb hby at_61) rfl kt))))) ?_
    show Go p e below P (T49.setTop (mkF m 62 #[.val (.int a), .val (.int bb), .val (.int cc), .val (.int md), .val (.int (3 : Int32)), .val (.ref b1), .unset] [(.int cc), (.ref b1)]))
    obtain ⟨_, T51, Lc51, X51, ⟨rfl, Nq51, K51, cp51, IL51⟩, st51⟩ := callCv X49 hx hZ rfl (y := (⟨"com/example/cartulary/cartulary/seda/IntList", "add", "(I)V"⟩ : MethodName)) (a := b1) (argsL := [(.int cc)]) (rest := []) hown (hw _ (List.mem_of_getElem? (i := 12) rfl)) (hw _ (List.mem_of_getElem? (i := 13) rfl)) (hw _ (List.mem_of_getElem? (i := 15) rfl)) (hw _ (List.mem_of_getElem? (i := 14) rfl)) (hw _ (List.mem_of_getElem? (i := 2) rfl)) (hw _ (List.mem_of_getElem? (i := 16) rfl)) (by decide) (by obtain ⟨_, _, q, _⟩ := IL49; exact q) (rmA l Z a0 hw b1 cc 2 _ _ _ n0 Z50 IL49 G1 (by decide)) (W := 0) (by decide) (by decide) (g := (mkF m 62 #[.val (.int a), .val (.int bb), .val (.int cc), .val (.int md), .val (.int (3 : Int32)), .val (.ref b1), .unset] [(.int cc), (.ref b1)])) rfl (by rw [hml]; rfl) (lenOf pd_3 rfl) rfl (by show 2 * 0 + _ ≤ _; exact Nat.le_of_eq rfl) (hb hby at_62) (by decide) (by decide)
    have N51 := Fr.app N49 Nq51
    have Z52 := Nat.le_trans Z50 K51
    refine Go.st st51 ?_
    show Go p e below P (T51.setTop (mkF m 65 #[.val (.int a), .val (.int bb), .val (.int cc), .val (.int md), .val (.int (3 : Int32)), .val (.ref b1), .unset] []))
    refine Go.st (fun _ kt => XS.iload X51.here hx rfl (hb hby at_65) rfl (XS.iconst X51.here hx rfl (hb hby at_67) (XS.icmpNo X51.here hx rfl (hb hby at_68) rfl (teq (by decide : (3 : Int32) = (3 : Int32))).2 (XS.aload X51.here hx rfl (hb hby at_71) rfl rfl kt)))) ?_
    show Go p e below P (T51.setTop (mkF m 73 #[.val (.int a), .val (.int bb), .val (.int cc), .val (.int md), .val (.int (3 : Int32)), .val (.ref b1), .unset] [(.ref b1)]))
    obtain ⟨_, T53, Lc53, X53, ⟨rfl, Nq53, K53, IL53⟩, st53⟩ := callCv X51 hx hZ rfl (y := (⟨"com/example/cartulary/cartulary/seda/IntList", "trimToSize", "()V"⟩ : MethodName)) (a := b1) (argsL := []) (rest := []) hown (hw _ (List.mem_of_getElem? (i := 19) rfl)) (hw _ (List.mem_of_getElem? (i := 20) rfl)) (hw _ (List.mem_of_getElem? (i := 22) rfl)) (hw _ (List.mem_of_getElem? (i := 21) rfl)) (hw _ (List.mem_of_getElem? (i := 2) rfl)) (hw _ (List.mem_of_getElem? (i := 23) rfl)) (by decide) (by obtain ⟨_, _, q, _⟩ := IL51; exact q) (rmTr l Z a0 hw b1 3 _ _ _ n0 Z52 IL51 G1 (by decide)) (W := 0) (by decide) (by decide) (g := (mkF m 73 #[.val (.int a), .val (.int bb), .val (.int cc), .val (.int md), .val (.int (3 : Int32)), .val (.ref b1), .unset] [(.ref b1)])) rfl (by rw [hml]; rfl) (lenOf pd_2 rfl) rfl (by show 2 * 0 + _ ≤ _; exact Nat.le_of_eq rfl) (hb hby at_73) (by decide) (by decide)
    have N53 := Fr.app N51 Nq53
    have Z54 := Nat.le_trans Z52 K53
    refine Go.st st53 ?_
    show Go p e below P (T53.setTop (mkF m 76 #[.val (.int a), .val (.int bb), .val (.int cc), .val (.int md), .val (.int (3 : Int32)), .val (.ref b1), .unset] []))
    refine Go.st (fun _ kt => XS.aload X53.here hx rfl (hb hby at_76) rfl rfl kt) ?_
    show Go p e below P (T53.setTop (mkF m 78 #[.val (.int a), .val (.int bb), .val (.int cc), .val (.int md), .val (.int (3 : Int32)), .val (.ref b1), .unset] [(.ref b1)]))
    obtain ⟨_, T55, Lc55, X55, ⟨rfl, Nq55, eq55⟩, st55⟩ := callCv X53 hx hZ rfl (y := (⟨"com/example/cartulary/cartulary/seda/IntList", "size", "()I"⟩ : MethodName)) (a := b1) (argsL := []) (rest := []) hown (hw _ (List.mem_of_getElem? (i := 41) rfl)) (hw _ (List.mem_of_getElem? (i := 42) rfl)) (hw _ (List.mem_of_getElem? (i := 44) rfl)) (hw _ (List.mem_of_getElem? (i := 43) rfl)) (hw _ (List.mem_of_getElem? (i := 2) rfl)) (hw _ (List.mem_of_getElem? (i := 45) rfl)) (by decide) (by obtain ⟨_, _, q, _⟩ := IL53; exact q) (rmSz l Z a0 hw b1 3 _ _ _ n0 Z54 IL53) (W := 0) (by decide) (by decide) (g := (mkF m 78 #[.val (.int a), .val (.int bb), .val (.int cc), .val (.int md), .val (.int (3 : Int32)), .val (.ref b1), .unset] [(.ref b1)])) rfl (by rw [hml]; rfl) (lenOf pd_4 rfl) rfl (by show 2 * 0 + _ ≤ _; exact Nat.le_of_eq rfl) (hb hby at_78) (by decide) (by decide)
    have N55 := Fr.app N53 Nq55
    have e55 : T55.heap = T53.heap := eq55
    refine Go.st st55 ?_
    show Go p e below P (T55.setTop (mkF m 81 #[.val (.int a), .val (.int bb), .val (.int cc), .val (.int md), .val (.int (3 : Int32)), .val (.ref b1), .unset] [(.int (3 : Int32))]))
    refine Go.st (fun _ kt => XS.iconst X55.here hx rfl (hb hby at_81) (XS.icmpYes X55.here hx rfl (pc0 := 82) (pc' := 87) rfl (hb hby at_82) rfl (teq (by decide : (3 : Int32) = (3 : Int32))).1 (by decide) (by decide) (XS.aload X55.here hx rfl (hb hby at_87) rfl rfl kt))) ?_
    show Go p e below P (T55.setTop (mkF m 89 #[.val (.int a), .val (.int bb), .val (.int cc), .val (.int md), .val (.int (3 : Int32)), .val (.ref b1), .unset] [(.ref b1)]))
    obtain ⟨_, T56, Lc56, X56, ⟨ta56, rfl, Nq56, K56, Vt56, Ct56, Gt56, Sz56⟩, st56⟩ := callCv X55 hx hZ e55 (y := (⟨"com/example/cartulary/cartulary/seda/IntList", "toArray", "()[I"⟩ : MethodName)) (a := b1) (argsL := []) (rest := []) hown (hw _ (List.mem_of_getElem? (i := 46) rfl)) (hw _ (List.mem_of_getElem? (i := 25) rfl)) (hw _ (List.mem_of_getElem? (i := 27) rfl)) (hw _ (List.mem_of_getElem? (i := 26) rfl)) (hw _ (List.mem_of_getElem? (i := 2) rfl)) (hw _ (List.mem_of_getElem? (i := 28) rfl)) (by decide) (by obtain ⟨_, _, q, _⟩ := IL53; exact q) (rmT l Z a0 hw b1 3 _ _ _ n0 Z54 IL53 (by decide)) (W := 0) (by decide) (by decide) (g := (mkF m 89 #[.val (.int a), .val (.int bb), .val (.int cc), .val (.int md), .val (.int (3 : Int32)), .val (.ref b1), .unset] [(.ref b1)])) rfl (by rw [hml]; rfl) (lenOf pd_1 rfl) rfl (by show 2 * 0 + _ ≤ _; exact Nat.le_of_eq rfl) (hb hby at_89) (by decide) (by decide)
    have N56 := Fr.app N55 Nq56
    have Z57 := Nat.le_trans Z54 K56.1
    have IL58 : own_IL Z T56.heap n0 b1 3 3 (updN (updN (updN (fun _ => (0 : Int32)) 0 a) 1 bb) 2 cc) := by
        obtain ⟨t, f, q1, q2, q3, q4, q5, q6, q7, q8⟩ := IL53
        exact ⟨t, f, q1.keep K56, q2.keep K56 nin0, q3.keep K56 nin0, q4.keep K56 nin0, q5.keep K56, q6, q7, q8⟩
    refine Go.st st56 ?_
    show Go p e below P (T56.setTop (mkF m 92 #[.val (.int a), .val (.int bb), .val (.int cc), .val (.int md), .val (.int (3 : Int32)), .val (.ref b1), .unset] [(.ref ta56)]))
    refine Go.st (fun _ kt => XS.astore X56.here hx rfl (hb hby at_92) rfl rfl (l' := #[.val (.int a), .val (.int bb), .val (.int cc), .val (.int md), .val (.int (3 : Int32)), .val (.ref b1), .val (.ref ta56)]) rfl (XS.aload X56.here hx rfl (hb hby at_94) rfl rfl (aryLen X56 hx hZ rfl Vt56 (g := (mkF m 96 #[.val (.int a), .val (.int bb), .val (.int cc), .val (.int md), .val (.int (3 : Int32)), .val (.ref b1), .val (.ref ta56)] [(.ref ta56)])) rfl rfl (hb hby at_96) _ (XS.iconst X56.here hx rfl (hb hby at_97) (XS.icmpYes X56.here hx rfl (pc0 := 98) (pc' := 103) rfl (hb hby at_98) rfl (teq (by decide : (3 : Int32) = (3 : Int32))).1 (by decide) (by decide) (XS.aload X56.here hx rfl (hb hby at_103) rfl rfl (XS.iconst X56.here hx rfl (hb hby at_105) (aryLdI X56 hx hZ rfl Vt56 (j := (0 : Int32)) (i := 0) ⟨by decide, by decide⟩ (by decide) (g := (mkF m 106 #[.val (.int a), .val (.int bb), .val (.int cc), .val (.int md), .val (.int (3 : Int32)), .val (.ref b1), .val (.ref ta56)] [(.int (0 : Int32)), (.ref ta56)])) rfl rfl (hb hby at_106) _ kt)))))))) ?_
    show Go p e below P (T56.setTop (mkF m 107 #[.val (.int a), .val (.int bb), .val (.int cc), .val (.int md), .val (.int (3 : Int32)), .val (.ref b1), .val (.ref ta56)] [(.int a)]))
    refine Go.st (fun _ kt => XS.iloadN X56.here hx rfl (hb hby at_107) rfl (XS.icmpNo X56.here hx rfl (hb hby at_108) rfl (teq rfl).2 (XS.aload X56.here hx rfl (hb hby at_111) rfl rfl (XS.iconst X56.here hx rfl (hb hby at_113) (aryLdI X56 hx hZ rfl Vt56 (j := (1 : Int32)) (i := 1) ⟨by decide, by decide⟩ (by decide) (g := (mkF m 114 #[.val (.int a), .val (.int bb), .val (.int cc), .val (.int md), .val (.int (3 : Int32)), .val (.ref b1), .val (.ref ta56)] [(.int (1 : Int32)), (.ref ta56)])) rfl rfl (hb hby at_114) _ (XS.iloadN X56.here hx rfl (hb hby at_115) rfl (XS.icmpNo X56.here hx rfl (hb hby at_116) rfl (teq rfl).2 (XS.aload X56.here hx rfl (hb hby at_119) rfl rfl kt)))))))) ?_
    show Go p e below P (T56.setTop (mkF m 121 #[.val (.int a), .val (.int bb), .val (.int cc), .val (.int md), .val (.int (3 : Int32)), .val (.ref b1), .val (.ref ta56)] [(.ref ta56)]))
    refine Go.st (fun _ kt => XS.iconst X56.here hx rfl (hb hby at_121) (aryLdI X56 hx hZ rfl Vt56 (j := (2 : Int32)) (i := 2) ⟨by decide, by decide⟩ (by decide) (g := (mkF m 122 #[.val (.int a), .val (.int bb), .val (.int cc), .val (.int md), .val (.int (3 : Int32)), .val (.ref b1), .val (.ref ta56)] [(.int (2 : Int32)), (.ref ta56)])) rfl rfl (hb hby at_122) _ (XS.iloadN X56.here hx rfl (hb hby at_123) rfl (XS.icmpYes X56.here hx rfl (pc0 := 124) (pc' := 129) rfl (hb hby at_124) rfl (teq rfl).1 (by decide) (by decide) (XS.aload X56.here hx rfl (hb hby at_129) rfl rfl (XS.iconst X56.here hx rfl (hb hby at_131) kt)))))) ?_
    show Go p e below P (T56.setTop (mkF m 132 #[.val (.int a), .val (.int bb), .val (.int cc), .val (.int md), .val (.int (3 : Int32)), .val (.ref b1), .val (.ref ta56)] [(.int (0 : Int32)), (.ref b1)]))
    obtain ⟨_, T59, Lc59, X59, ⟨rfl, Nq59, eq59⟩, st59⟩ := callCv X56 hx hZ rfl (y := (⟨"com/example/cartulary/cartulary/seda/IntList", "get", "(I)I"⟩ : MethodName)) (a := b1) (argsL := [(.int (0 : Int32))]) (rest := []) hown (hw _ (List.mem_of_getElem? (i := 47) rfl)) (hw _ (List.mem_of_getElem? (i := 48) rfl)) (hw _ (List.mem_of_getElem? (i := 50) rfl)) (hw _ (List.mem_of_getElem? (i := 49) rfl)) (hw _ (List.mem_of_getElem? (i := 2) rfl)) (hw _ (List.mem_of_getElem? (i := 51) rfl)) (by decide) (by obtain ⟨_, _, q, _⟩ := IL58; exact q) (rmG l Z a0 hw b1 (0 : Int32) 3 _ _ 0 _ n0 Z57 IL58 (by decide) rfl (by decide)) (W := 0) (by decide) (by decide) (g := (mkF m 132 #[.val (.int a), .val (.int bb), .val (.int cc), .val (.int md), .val (.int (3 : Int32)), .val (.ref b1), .val (.ref ta56)] [(.int (0 : Int32)), (.ref b1)])) rfl (by rw [hml]; rfl) (lenOf pd_5 rfl) rfl (by show 2 * 0 + _ ≤ _; exact Nat.le_of_eq rfl) (hb hby at_132) (by decide) (by decide)
    have N59 := Fr.app N56 Nq59
    have e59 : T59.heap = T56.heap := eq59
    refine Go.st st59 ?_
    show Go p e below P (T59.setTop (mkF m 135 #[.val (.int a), .val (.int bb), .val (.int cc), .val (.int md), .val (.int (3 : Int32)), .val (.ref b1), .val (.ref ta56)] [(.int a)]))
    refine Go.st (fun _ kt => XS.iloadN X59.here hx rfl (hb hby at_135) rfl (XS.icmpNo X59.here hx rfl (hb hby at_136) rfl (teq rfl).2 (XS.aload X59.here hx rfl (hb hby at_139) rfl rfl (XS.iconst X59.here hx rfl (hb hby at_141) kt)))) ?_
    show Go p e below P (T59.setTop (mkF m 142 #[.val (.int a), .val (.int bb), .val (.int cc), .val (.int md), .val (.int (3 : Int32)), .val (.ref b1), .val (.ref ta56)] [(.int (2 : Int32)), (.ref b1)]))
    obtain ⟨_, T60, Lc60, X60, ⟨rfl, Nq60, eq60⟩, st60⟩ := callCv X59 hx hZ e59 (y := (⟨"com/example/cartulary/cartulary/seda/IntList", "get", "(I)I"⟩ : MethodName)) (a := b1) (argsL := [(.int (2 : Int32))]) (rest := []) hown (hw _ (List.mem_of_getElem? (i := 47) rfl)) (hw _ (List.mem_of_getElem? (i := 48) rfl)) (hw _ (List.mem_of_getElem? (i := 50) rfl)) (hw _ (List.mem_of_getElem? (i := 49) rfl)) (hw _ (List.mem_of_getElem? (i := 2) rfl)) (hw _ (List.mem_of_getElem? (i := 51) rfl)) (by decide) (by obtain ⟨_, _, q, _⟩ := IL58; exact q) (rmG l Z a0 hw b1 (2 : Int32) 3 _ _ 2 _ n0 Z57 IL58 (by decide) rfl (by decide)) (W := 0) (by decide) (by decide) (g := (mkF m 142 #[.val (.int a), .val (.int bb), .val (.int cc), .val (.int md), .val (.int (3 : Int32)), .val (.ref b1), .val (.ref ta56)] [(.int (2 : Int32)), (.ref b1)])) rfl (by rw [hml]; rfl) (lenOf pd_5 rfl) rfl (by show 2 * 0 + _ ≤ _; exact Nat.le_of_eq rfl) (hb hby at_142) (by decide) (by decide)
    have N60 := Fr.app N59 Nq60
    have e60 : T60.heap = T56.heap := eq60
    refine Go.st st60 ?_
    show Go p e below P (T60.setTop (mkF m 145 #[.val (.int a), .val (.int bb), .val (.int cc), .val (.int md), .val (.int (3 : Int32)), .val (.ref b1), .val (.ref ta56)] [(.int cc)]))
    refine Go.st (fun _ kt => XS.iloadN X60.here hx rfl (hb hby at_145) rfl (XS.icmpNo X60.here hx rfl (hb hby at_146) rfl (teq rfl).2 (XS.iconst X60.here hx rfl (hb hby at_149) (XS.goto X60.here hx rfl (pc0 := 150) (pc' := 154) rfl (hb hby at_150) (by decide) (by decide) kt)))) ?_
    show Go p e below P (T60.setTop (mkF m 154 #[.val (.int a), .val (.int bb), .val (.int cc), .val (.int md), .val (.int (3 : Int32)), .val (.ref b1), .val (.ref ta56)] [(.int (1 : Int32))]))
    exact goN X60 hx (t := .boolean) hret (by simp) hlk (hb hby at_154) hP (by decide) (by decide) ⟨rfl, N60⟩
  · show Go p e below P (T3.setTop (mkF m 15 #[.val (.int a), .val (.int bb), .val (.int cc), .val (.int md), .val (.int z), .val (.ref b1), .unset] []))
    refine Go.st (fun _ kt => XS.iload X3.here hx rfl (hb hby at_15) rfl (XS.ifYes X3.here hx rfl (pc0 := 17) (pc' := 25) rfl (hb hby at_17) rfl ((if0 _ _).trans (feq z0).2) (by decide) (by decide) (XS.aload X3.here hx rfl (hb hby at_25) rfl rfl (XS.iloadN X3.here hx rfl (hb hby at_27) rfl kt)))) ?_
    show Go p e below P (T3.setTop (mkF m 28 #[.val (.int a), .val (.int bb), .val (.int cc), .val (.int md), .val (.int z), .val (.ref b1), .unset] [(.int a), (.ref b1)]))
    obtain ⟨_, T61, Lc61, X61, ⟨rfl, Nq61, K61, cp61, IL61⟩, st61⟩ := callCv X3 hx hZ rfl (y := (⟨"com/example/cartulary/cartulary/seda/IntList", "add", "(I)V"⟩ : MethodName)) (a := b1) (argsL := [(.int a)]) (rest := []) hown (hw _ (List.mem_of_getElem? (i := 12) rfl)) (hw _ (List.mem_of_getElem? (i := 13) rfl)) (hw _ (List.mem_of_getElem? (i := 15) rfl)) (hw _ (List.mem_of_getElem? (i := 14) rfl)) (hw _ (List.mem_of_getElem? (i := 2) rfl)) (hw _ (List.mem_of_getElem? (i := 16) rfl)) (by decide) (by obtain ⟨_, _, q, _⟩ := IL3; exact q) (rmA l Z a0 hw b1 a 0 _ _ _ n0 Z4 IL3 G1 (by decide)) (W := 0) (by decide) (by decide) (g := (mkF m 28 #[.val (.int a), .val (.int bb), .val (.int cc), .val (.int md), .val (.int z), .val (.ref b1), .unset] [(.int a), (.ref b1)])) rfl (by rw [hml]; rfl) (lenOf pd_3 rfl) rfl (by show 2 * 0 + _ ≤ _; exact Nat.le_of_eq rfl) (hb hby at_28) (by decide) (by decide)
    have N61 := Fr.app N3 Nq61
    have Z62 := Nat.le_trans Z4 K61
    refine Go.st st61 ?_
    show Go p e below P (T61.setTop (mkF m 31 #[.val (.int a), .val (.int bb), .val (.int cc), .val (.int md), .val (.int z), .val (.ref b1), .unset] []))
    refine Go.st (fun _ kt => XS.iload X61.here hx rfl (hb hby at_31) rfl (XS.iconst X61.here hx rfl (hb hby at_33) (XS.icmpYes X61.here hx rfl (pc0 := 34) (pc' := 42) rfl (hb hby at_34) rfl (feq z1).2 (by decide) (by decide) (XS.aload X61.here hx rfl (hb hby at_42) rfl rfl (XS.iloadN X61.here hx rfl (hb hby at_44) rfl kt))))) ?_
    show Go p e below P (T61.setTop (mkF m 45 #[.val (.int a), .val (.int bb), .val (.int cc), .val (.int md), .val (.int z), .val (.ref b1), .unset] [(.int bb), (.ref b1)]))
    obtain ⟨_, T63, Lc63, X63, ⟨rfl, Nq63, K63, cp63, IL63⟩, st63⟩ := callCv X61 hx hZ rfl (y := (⟨"com/example/cartulary/cartulary/seda/IntList", "add", "(I)V"⟩ : MethodName)) (a := b1) (argsL := [(.int bb)]) (rest := []) hown (hw _ (List.mem_of_getElem? (i := 12) rfl)) (hw _ (List.mem_of_getElem? (i := 13) rfl)) (hw _ (List.mem_of_getElem? (i := 15) rfl)) (hw _ (List.mem_of_getElem? (i := 14) rfl)) (hw _ (List.mem_of_getElem? (i := 2) rfl)) (hw _ (List.mem_of_getElem? (i := 16) rfl)) (by decide) (by obtain ⟨_, _, q, _⟩ := IL61; exact q) (rmA l Z a0 hw b1 bb 1 _ _ _ n0 Z62 IL61 G1 (by decide)) (W := 0) (by decide) (by decide) (g := (mkF m 45 #[.val (.int a), .val (.int bb), .val (.int cc), .val (.int md), .val (.int z), .val (.ref b1), .unset] [(.int bb), (.ref b1)])) rfl (by rw [hml]; rfl) (lenOf pd_3 rfl) rfl (by show 2 * 0 + _ ≤ _; exact Nat.le_of_eq rfl) (hb hby at_45) (by decide) (by decide)
    have N63 := Fr.app N61 Nq63
    have Z64 := Nat.le_trans Z62 K63
    refine Go.st st63 ?_
    show Go p e below P (T63.setTop (mkF m 48 #[.val (.int a), .val (.int bb), .val (.int cc), .val (.int md), .val (.int z), .val (.ref b1), .unset] []))
    refine Go.st (fun _ kt => XS.iload X63.here hx rfl (hb hby at_48) rfl (XS.iconst X63.here hx rfl (hb hby at_50) (XS.icmpYes X63.here hx rfl (pc0 := 51) (pc' := 59) rfl (hb hby at_51) rfl (feq z2).2 (by decide) (by decide) (XS.aload X63.here hx rfl (hb hby at_59) rfl rfl (XS.iloadN X63.here hx rfl (hb hby at_61) rfl kt))))) ?_
    show Go p e below P (T63.setTop (mkF m 62 #[.val (.int a), .val (.int bb), .val (.int cc), .val (.int md), .val (.int z), .val (.ref b1), .unset] [(.int cc), (.ref b1)]))
    obtain ⟨_, T65, Lc65, X65, ⟨rfl, Nq65, K65, cp65, IL65⟩, st65⟩ := callCv X63 hx hZ rfl (y := (⟨"com/example/cartulary/cartulary/seda/IntList", "add", "(I)V"⟩ : MethodName)) (a := b1) (argsL := [(.int cc)]) (rest := []) hown (hw _ (List.mem_of_getElem? (i := 12) rfl)) (hw _ (List.mem_of_getElem? (i := 13) rfl)) (hw _ (List.mem_of_getElem? (i := 15) rfl)) (hw _ (List.mem_of_getElem? (i := 14) rfl)) (hw _ (List.mem_of_getElem? (i := 2) rfl)) (hw _ (List.mem_of_getElem? (i := 16) rfl)) (by decide) (by obtain ⟨_, _, q, _⟩ := IL63; exact q) (rmA l Z a0 hw b1 cc 2 _ _ _ n0 Z64 IL63 G1 (by decide)) (W := 0) (by decide) (by decide) (g := (mkF m 62 #[.val (.int a), .val (.int bb), .val (.int cc), .val (.int md), .val (.int z), .val (.ref b1), .unset] [(.int cc), (.ref b1)])) rfl (by rw [hml]; rfl) (lenOf pd_3 rfl) rfl (by show 2 * 0 + _ ≤ _; exact Nat.le_of_eq rfl) (hb hby at_62) (by decide) (by decide)
    have N65 := Fr.app N63 Nq65
    have Z66 := Nat.le_trans Z64 K65
    refine Go.st st65 ?_
    show Go p e below P (T65.setTop (mkF m 65 #[.val (.int a), .val (.int bb), .val (.int cc), .val (.int md), .val (.int z), .val (.ref b1), .unset] []))
    refine Go.st (fun _ kt => XS.iload X65.here hx rfl (hb hby at_65) rfl (XS.iconst X65.here hx rfl (hb hby at_67) (XS.icmpYes X65.here hx rfl (pc0 := 68) (pc' := 76) rfl (hb hby at_68) rfl (feq z3).2 (by decide) (by decide) (XS.aload X65.here hx rfl (hb hby at_76) rfl rfl kt)))) ?_
    show Go p e below P (T65.setTop (mkF m 78 #[.val (.int a), .val (.int bb), .val (.int cc), .val (.int md), .val (.int z), .val (.ref b1), .unset] [(.ref b1)]))
    obtain ⟨_, T67, Lc67, X67, ⟨rfl, Nq67, eq67⟩, st67⟩ := callCv X65 hx hZ rfl (y := (⟨"com/example/cartulary/cartulary/seda/IntList", "size", "()I"⟩ : MethodName)) (a := b1) (argsL := []) (rest := []) hown (hw _ (List.mem_of_getElem? (i := 41) rfl)) (hw _ (List.mem_of_getElem? (i := 42) rfl)) (hw _ (List.mem_of_getElem? (i := 44) rfl)) (hw _ (List.mem_of_getElem? (i := 43) rfl)) (hw _ (List.mem_of_getElem? (i := 2) rfl)) (hw _ (List.mem_of_getElem? (i := 45) rfl)) (by decide) (by obtain ⟨_, _, q, _⟩ := IL65; exact q) (rmSz l Z a0 hw b1 3 _ _ _ n0 Z66 IL65) (W := 0) (by decide) (by decide) (g := (mkF m 78 #[.val (.int a), .val (.int bb), .val (.int cc), .val (.int md), .val (.int z), .val (.ref b1), .unset] [(.ref b1)])) rfl (by rw [hml]; rfl) (lenOf pd_4 rfl) rfl (by show 2 * 0 + _ ≤ _; exact Nat.le_of_eq rfl) (hb hby at_78) (by decide) (by decide)
    have N67 := Fr.app N65 Nq67
    have e67 : T67.heap = T65.heap := eq67
    refine Go.st st67 ?_
    show Go p e below P (T67.setTop (mkF m 81 #[.val (.int a), .val (.int bb), .val (.int cc), .val (.int md), .val (.int z), .val (.ref b1), .unset] [(.int (3 : Int32))]))
    refine Go.st (fun _ kt => XS.iconst X67.here hx rfl (hb hby at_81) (XS.icmpYes X67.here hx rfl (pc0 := 82) (pc' := 87) rfl (hb hby at_82) rfl (teq (by decide : (3 : Int32) = (3 : Int32))).1 (by decide) (by decide) (XS.aload X67.here hx rfl (hb hby at_87) rfl rfl kt))) ?_
    show Go p e below P (T67.setTop (mkF m 89 #[.val (.int a), .val (.int bb), .val (.int cc), .val (.int md), .val (.int z), .val (.ref b1), .unset] [(.ref b1)]))
    obtain ⟨_, T68, Lc68, X68, ⟨ta68, rfl, Nq68, K68, Vt68, Ct68, Gt68, Sz68⟩, st68⟩ := callCv X67 hx hZ e67 (y := (⟨"com/example/cartulary/cartulary/seda/IntList", "toArray", "()[I"⟩ : MethodName)) (a := b1) (argsL := []) (rest := []) hown (hw _ (List.mem_of_getElem? (i := 46) rfl)) (hw _ (List.mem_of_getElem? (i := 25) rfl)) (hw _ (List.mem_of_getElem? (i := 27) rfl)) (hw _ (List.mem_of_getElem? (i := 26) rfl)) (hw _ (List.mem_of_getElem? (i := 2) rfl)) (hw _ (List.mem_of_getElem? (i := 28) rfl)) (by decide) (by obtain ⟨_, _, q, _⟩ := IL65; exact q) (rmT l Z a0 hw b1 3 _ _ _ n0 Z66 IL65 (by decide)) (W := 0) (by decide) (by decide) (g := (mkF m 89 #[.val (.int a), .val (.int bb), .val (.int cc), .val (.int md), .val (.int z), .val (.ref b1), .unset] [(.ref b1)])) rfl (by rw [hml]; rfl) (lenOf pd_1 rfl) rfl (by show 2 * 0 + _ ≤ _; exact Nat.le_of_eq rfl) (hb hby at_89) (by decide) (by decide)
    have N68 := Fr.app N67 Nq68
    have Z69 := Nat.le_trans Z66 K68.1
    have IL70 : own_IL Z T68.heap n0 b1 3 cp65 (updN (updN (updN (fun _ => (0 : Int32)) 0 a) 1 bb) 2 cc) := by
        obtain ⟨t, f, q1, q2, q3, q4, q5, q6, q7, q8⟩ := IL65
        exact ⟨t, f, q1.keep K68, q2.keep K68 nin0, q3.keep K68 nin0, q4.keep K68 nin0, q5.keep K68, q6, q7, q8⟩
    refine Go.st st68 ?_
    show Go p e below P (T68.setTop (mkF m 92 #[.val (.int a), .val (.int bb), .val (.int cc), .val (.int md), .val (.int z), .val (.ref b1), .unset] [(.ref ta68)]))
    refine Go.st (fun _ kt => XS.astore X68.here hx rfl (hb hby at_92) rfl rfl (l' := #[.val (.int a), .val (.int bb), .val (.int cc), .val (.int md), .val (.int z), .val (.ref b1), .val (.ref ta68)]) rfl (XS.aload X68.here hx rfl (hb hby at_94) rfl rfl (aryLen X68 hx hZ rfl Vt68 (g := (mkF m 96 #[.val (.int a), .val (.int bb), .val (.int cc), .val (.int md), .val (.int z), .val (.ref b1), .val (.ref ta68)] [(.ref ta68)])) rfl rfl (hb hby at_96) _ (XS.iconst X68.here hx rfl (hb hby at_97) (XS.icmpYes X68.here hx rfl (pc0 := 98) (pc' := 103) rfl (hb hby at_98) rfl (teq (by decide : (3 : Int32) = (3 : Int32))).1 (by decide) (by decide) (XS.aload X68.here hx rfl (hb hby at_103) rfl rfl (XS.iconst X68.here hx rfl (hb hby at_105) (aryLdI X68 hx hZ rfl Vt68 (j := (0 : Int32)) (i := 0) ⟨by decide, by decide⟩ (by decide) (g := (mkF m 106 #[.val (.int a), .val (.int bb), .val (.int cc), .val (.int md), .val (.int z), .val (.ref b1), .val (.ref ta68)] [(.int (0 : Int32)), (.ref ta68)])) rfl rfl (hb hby at_106) _ kt)))))))) ?_
    show Go p e below P (T68.setTop (mkF m 107 #[.val (.int a), .val (.int bb), .val (.int cc), .val (.int md), .val (.int z), .val (.ref b1), .val (.ref ta68)] [(.int a)]))
    refine Go.st (fun _ kt => XS.iloadN X68.here hx rfl (hb hby at_107) rfl (XS.icmpNo X68.here hx rfl (hb hby at_108) rfl (teq rfl).2 (XS.aload X68.here hx rfl (hb hby at_111) rfl rfl (XS.iconst X68.here hx rfl (hb hby at_113) (aryLdI X68 hx hZ rfl Vt68 (j := (1 : Int32)) (i := 1) ⟨by decide, by decide⟩ (by decide) (g := (mkF m 114 #[.val (.int a), .val (.int bb), .val (.int cc), .val (.int md), .val (.int z), .val (.ref b1), .val (.ref ta68)] [(.int (1 : Int32)), (.ref ta68)])) rfl rfl (hb hby at_114) _ (XS.iloadN X68.here hx rfl (hb hby at_115) rfl (XS.icmpNo X68.here hx rfl (hb hby at_116) rfl (teq rfl).2 (XS.aload X68.here hx rfl (hb hby at_119) rfl rfl kt)))))))) ?_
    show Go p e below P (T68.setTop (mkF m 121 #[.val (.int a), .val (.int bb), .val (.int cc), .val (.int md), .val (.int z), .val (.ref b1), .val (.ref ta68)] [(.ref ta68)]))
    refine Go.st (fun _ kt => XS.iconst X68.here hx rfl (hb hby at_121) (aryLdI X68 hx hZ rfl Vt68 (j := (2 : Int32)) (i := 2) ⟨by decide, by decide⟩ (by decide) (g := (mkF m 122 #[.val (.int a), .val (.int bb), .val (.int cc), .val (.int md), .val (.int z), .val (.ref b1), .val (.ref ta68)] [(.int (2 : Int32)), (.ref ta68)])) rfl rfl (hb hby at_122) _ (XS.iloadN X68.here hx rfl (hb hby at_123) rfl (XS.icmpYes X68.here hx rfl (pc0 := 124) (pc' := 129) rfl (hb hby at_124) rfl (teq rfl).1 (by decide) (by decide) (XS.aload X68.here hx rfl (hb hby at_129) rfl rfl (XS.iconst X68.here hx rfl (hb hby at_131) kt)))))) ?_
    show Go p e below P (T68.setTop (mkF m 132 #[.val (.int a), .val (.int bb), .val (.int cc), .val (.int md), .val (.int z), .val (.ref b1), .val (.ref ta68)] [(.int (0 : Int32)), (.ref b1)]))
    obtain ⟨_, T71, Lc71, X71, ⟨rfl, Nq71, eq71⟩, st71⟩ := callCv X68 hx hZ rfl (y := (⟨"com/example/cartulary/cartulary/seda/IntList", "get", "(I)I"⟩ : MethodName)) (a := b1) (argsL := [(.int (0 : Int32))]) (rest := []) hown (hw _ (List.mem_of_getElem? (i := 47) rfl)) (hw _ (List.mem_of_getElem? (i := 48) rfl)) (hw _ (List.mem_of_getElem? (i := 50) rfl)) (hw _ (List.mem_of_getElem? (i := 49) rfl)) (hw _ (List.mem_of_getElem? (i := 2) rfl)) (hw _ (List.mem_of_getElem? (i := 51) rfl)) (by decide) (by obtain ⟨_, _, q, _⟩ := IL70; exact q) (rmG l Z a0 hw b1 (0 : Int32) 3 _ _ 0 _ n0 Z69 IL70 (by decide) rfl (by decide)) (W := 0) (by decide) (by decide) (g := (mkF m 132 #[.val (.int a), .val (.int bb), .val (.int cc), .val (.int md), .val (.int z), .val (.ref b1), .val (.ref ta68)] [(.int (0 : Int32)), (.ref b1)])) rfl (by rw [hml]; rfl) (lenOf pd_5 rfl) rfl (by show 2 * 0 + _ ≤ _; exact Nat.le_of_eq rfl) (hb hby at_132) (by decide) (by decide)
    have N71 := Fr.app N68 Nq71
    have e71 : T71.heap = T68.heap := eq71
    refine Go.st st71 ?_
    show Go p e below P (T71.setTop (mkF m 135 #[.val (.int a), .val (.int bb), .val (.int cc), .val (.int md), .val (.int z), .val (.ref b1), .val (.ref ta68)] [(.int a)]))
    refine Go.st (fun _ kt => XS.iloadN X71.here hx rfl (hb hby at_135) rfl (XS.icmpNo X71.here hx rfl (hb hby at_136) rfl (teq rfl).2 (XS.aload X71.here hx rfl (hb hby at_139) rfl rfl (XS.iconst X71.here hx rfl (hb hby at_141) kt)))) ?_
    show Go p e below P (T71.setTop (mkF m 142 #[.val (.int a), .val (.int bb), .val (.int cc), .val (.int md), .val (.int z), .val (.ref b1), .val (.ref ta68)] [(.int (2 : Int32)), (.ref b1)]))
    obtain ⟨_, T72, Lc72, X72, ⟨rfl, Nq72, eq72⟩, st72⟩ := callCv X71 hx hZ e71 (y := (⟨"com/example/cartulary/cartulary/seda/IntList", "get", "(I)I"⟩ : MethodName)) (a := b1) (argsL := [(.int (2 : Int32))]) (rest := []) hown (hw _ (List.mem_of_getElem? (i := 47) rfl)) (hw _ (List.mem_of_getElem? (i := 48) rfl)) (hw _ (List.mem_of_getElem? (i := 50) rfl)) (hw _ (List.mem_of_getElem? (i := 49) rfl)) (hw _ (List.mem_of_getElem? (i := 2) rfl)) (hw _ (List.mem_of_getElem? (i := 51) rfl)) (by decide) (by obtain ⟨_, _, q, _⟩ := IL70; exact q) (rmG l Z a0 hw b1 (2 : Int32) 3 _ _ 2 _ n0 Z69 IL70 (by decide) rfl (by decide)) (W := 0) (by decide) (by decide) (g := (mkF m 142 #[.val (.int a), .val (.int bb), .val (.int cc), .val (.int md), .val (.int z), .val (.ref b1), .val (.ref ta68)] [(.int (2 : Int32)), (.ref b1)])) rfl (by rw [hml]; rfl) (lenOf pd_5 rfl) rfl (by show 2 * 0 + _ ≤ _; exact Nat.le_of_eq rfl) (hb hby at_142) (by decide) (by decide)
    have N72 := Fr.app N71 Nq72
    have e72 : T72.heap = T68.heap := eq72
    refine Go.st st72 ?_
    show Go p e below P (T72.setTop (mkF m 145 #[.val (.int a), .val (.int bb), .val (.int cc), .val (.int md), .val (.int z), .val (.ref b1), .val (.ref ta68)] [(.int cc)]))
    refine Go.st (fun _ kt => XS.iloadN X72.here hx rfl (hb hby at_145) rfl (XS.icmpNo X72.here hx rfl (hb hby at_146) rfl (teq rfl).2 (XS.iconst X72.here hx rfl (hb hby at_149) (XS.goto X72.here hx rfl (pc0 := 150) (pc' := 154) rfl (hb hby at_150) (by decide) (by decide) kt)))) ?_
    show Go p e below P (T72.setTop (mkF m 154 #[.val (.int a), .val (.int bb), .val (.int cc), .val (.int md), .val (.int z), .val (.ref b1), .val (.ref ta68)] [(.int (1 : Int32))]))
    exact goN X72 hx (t := .boolean) hret (by simp) hlk (hb hby at_154) hP (by decide) (by decide) ⟨rfl, N72⟩
set_option maxRecDepth 65536 in
set_option maxHeartbeats 40000000 in
theorem comes_1 {Post : Tables → Env → Array Value → State → Outcome → State → Prop} (hpost : ∀ tb e args s v u, (limb_1_1.after args s (.returned v) u = true ∧ limb_1_2.after args s (.returned v) u = true ∧ True) → FrameEnd s (.returned v) u (Jvm.fieldLocs frame_1_writes args s ++ Jvm.arrayLocs frame_1_arrays args s ++ Jvm.staticLocs frame_1_statics s) 24 2176 → Post tb e args s (.returned v) u) :
    ArmFor flags0 classFile x code maxLocals ret World_1 tables_1 room_1 Calls_1 rest_1 Pre_1 Post := by
  intro l hfl _ _ p e ha hc hk s m args below hf hA hF happ hP
  obtain ⟨hcalls, hrest, hpre⟩ := hP
  obtain ⟨-, -, -, hnamed, -, -, -, hat⟩ := (Spec.applies_iff hf).mp happ
  obtain ⟨hg, hn⟩ := and_e (Cond.before_iff.mp (show (Jvm.Cond.and given_1 narrow_1).before args s = true from hpre))
  obtain ⟨g1, g2⟩ := and_e hg
  obtain ⟨g3, g4⟩ := and_e g2
  obtain ⟨g5, g6⟩ := and_e g4
  obtain ⟨g7, g8⟩ := and_e g6
  obtain ⟨w0, w1, w2, w3, rfl⟩ : ∃ w0 w1 w2 w3 : Value, args = #[w0, w1, w2, w3] := by
    have hs : args.size = 4 := by simpa [Cond.value, given_1] using g1
    obtain ⟨L⟩ := args
    match L, hs with
    | [w0, w1, w2, w3], _ => exact ⟨w0, w1, w2, w3, rfl⟩
  have hw := fun d (hd : d ∈ tables_1) => atoms_spec (ws := Jvm.Cond.code x code maxLocals ret :: tables_1) hat d (List.mem_cons_of_mem _ hd)
  obtain ⟨i0, ei0⟩ := is_v g3
  obtain rfl : w0 = (.int i0) := Option.some.inj ei0
  obtain ⟨i1, ei1⟩ := is_v g5
  obtain rfl : w1 = (.int i1) := Option.some.inj ei1
  obtain ⟨i2, ei2⟩ := is_v g7
  obtain rfl : w2 = (.int i2) := Option.some.inj ei2
  obtain ⟨i3, ei3⟩ := is_v g8
  obtain rfl : w3 = (.int i3) := Option.some.inj ei3
  obtain ⟨n, o, h1, h2, h3, _, L, rfl, ⟨rfl, N⟩, hq⟩ := rm0 l s _ hw tables_1 i0 i1 i2 i3 s.heap s.heap.size (Nat.le_refl _) p e ha hc hk s m _ below hf ((Spec.applies_iff_loose hf).mp happ).1 ⟨rfl, State.Warmed39.refl s, rfl⟩ trivial
  refine ⟨n, _, h1, h2, h3, hpost _ _ _ _ _ _ ⟨Cond.after_iff.mpr rfl, Cond.after_iff.mpr (eq_i res_at (Term.int_eval (1)) rfl), trivial⟩ ⟨hq.1, hq.2.1, (hq.2.2.sift fun y hy => Or.inr (N y hy)).mono (by decide) (by decide)⟩⟩
theorem main_1_1 : Claimed_1_1 := comes_1 fun _ _ _ _ _ _ h hF => ⟨h.1, hF⟩
theorem main_1_2 : Claimed_1_2 := comes_1 fun _ _ _ _ _ _ h hF => ⟨h.2.1, hF⟩
end Jvm.Pilot.@@N@@
namespace Jvm.Pilot.@@N@@
open Jvm Jvm.ClassFile Sem Op Lib Jvm.Free Jvm.Stand Jvm.Pilot.@@N@@.Jvm.D
/-! MADE BY PROGRAM (witnessworld.py) out of the Statement's table words and the real class files: 12 classes; the members and pool entries that the words name. The judged class is class 1, her method 1. -/
namespace start1
open Jvm.ClassFile
def u (s : String) : CpInfo := .utf8 (stringToUtf16 s)
/-- a pool by its gaps: so many unusable entries, then the entry; so many at the end -/
def gap : Nat → List CpInfo → List CpInfo
  | 0, r => r
  | n + 1, r => .unusable :: gap n r
def poolList (es : List (Nat × CpInfo)) (last : Nat) : List CpInfo := es.foldr (fun e r => gap e.1 (e.2 :: r)) (gap last [])
def pool (es : List (Nat × CpInfo)) (last : Nat) : Array CpInfo := ⟨poolList es last⟩
def fileOf (pool : Array CpInfo) (this : Nat) (attrs : Array Attribute := #[]) (ms : Array MethodInfo := #[]) (fl : Nat := 33) (sup : Nat := 0) (ifs : Array Nat := #[]) (fds : Array FieldInfo := #[]) : ClassFile where
  minorVersion := 0
  majorVersion := 65
  constantPool := pool
  accessFlags := fl
  thisClass := this
  superClass := sup
  interfaces := ifs
  fields := fds
  methods := ms
  attributes := attrs
def plain (name : String) (sup : Option ClassId) : Class where
  name := name
  kind := .ordinary
  loader := none
  accessFlags := 33
  super := sup
  interfaces := #[]
  cf := none
  fields := #[]
  methods := #[]
  instanceTypes := #[]
  staticTypes := #[]
  resolved := #[]
  callSites := []
  init := .initialized
  statics := none
  mirror := none

def pool0 : Array CpInfo := pool [(5, u "<init>"), (0, u "()V"), (1, .class_ 10), (1, u "java/lang/Object"), (85, u "clone"), (0, u "()Ljava/lang/Object;")] 26

def k0c0 : Code := { maxStack := 0, maxLocals := 1, code := object_method_1_code, exceptionTable := #[], attributes := #[] }
def k0m0 : Method := { name := "<init>", desc := "()V", sig := { parameters := [], returnType := none }, accessFlags := 1, code := some k0c0 }
def k0m1 : Method := { name := "clone", desc := "()Ljava/lang/Object;", sig := { parameters := [], returnType := some (.object "java/lang/Object") }, accessFlags := 260, code := none }
/-- java/lang/Object -/
def k0 : Class := { plain "java/lang/Object" none with
  accessFlags := 33
  interfaces := #[]
  cf := some (fileOf pool0 8 #[] #[{ accessFlags := 1, nameIndex := 5, descriptorIndex := 6, attributes := #[] }, { accessFlags := 260, nameIndex := 96, descriptorIndex := 97, attributes := #[] }] 33 0 #[] #[])
  fields := #[]
  methods := #[k0m0, k0m1]
  instanceTypes := #[]
  staticTypes := #[]
  resolved := Array.replicate 124 none
  statics := none }

def pool1 : Array CpInfo := pool [(2, .class_ 4), (0, .nameAndType 5 6), (0, u "java/lang/Object"), (0, u "<init>"), (0, u "()V"), (0, .class_ 8), (0, u "com/example/cartulary/cartulary/seda/IntList"), (0, .methodref 7 3), (0, .methodref 7 11), (0, .nameAndType 12 6), (0, u "trimToSize"), (0, .methodref 7 14), (0, .nameAndType 15 16), (0, u "add"), (0, u "(I)V"), (0, .methodref 7 18), (0, .nameAndType 19 20), (0, u "size"), (0, u "()I"), (0, .methodref 7 22), (0, .nameAndType 23 24), (0, u "toArray"), (0, u "()[I"), (0, .methodref 7 26), (0, .nameAndType 27 28), (0, u "get"), (0, u "(I)I"), (0, .class_ 30), (0, u "com/example/cartulary/cartulary/seda/IntListAddPinLaw"), (2, u "law"), (0, u "(IIII)Z")] 5

def k1m0 : Method := { name := "<init>", desc := "()V", sig := { parameters := [], returnType := none }, accessFlags := 2, code := none }
def k1c1 : Code := { maxStack := 2, maxLocals := 7, code := code, exceptionTable := #[], attributes := #[] }
def k1m1 : Method := { name := "law", desc := "(IIII)Z", sig := { parameters := [.int, .int, .int, .int], returnType := some .boolean }, accessFlags := 9, code := some k1c1 }
/-- com/example/cartulary/cartulary/seda/IntListAddPinLaw -/
def k1 : Class := { plain "com/example/cartulary/cartulary/seda/IntListAddPinLaw" (some 0) with
  accessFlags := 49
  interfaces := #[]
  cf := some (fileOf pool1 29 #[] #[{ accessFlags := 2, nameIndex := 5, descriptorIndex := 6, attributes := #[] }, { accessFlags := 9, nameIndex := 33, descriptorIndex := 34, attributes := #[] }] 49 2 #[] #[])
  fields := #[]
  methods := #[k1m0, k1m1]
  instanceTypes := #[]
  staticTypes := #[]
  resolved := Array.replicate 40 none
  statics := none }

def pool2 : Array CpInfo := pool [(1, .methodref 2 3), (0, .class_ 4), (0, .nameAndType 5 6), (0, u "java/lang/Object"), (0, u "<init>"), (0, u "()V"), (0, .fieldref 8 9), (0, .class_ 10), (0, .nameAndType 11 12), (0, u "com/example/cartulary/cartulary/seda/IntList"), (0, u "values"), (0, u "[I"), (0, .fieldref 8 14), (0, .nameAndType 15 16), (0, u "size"), (0, u "I"), (0, .methodref 18 19), (0, .class_ 20), (0, .nameAndType 21 22), (0, u "java/util/Arrays"), (0, u "copyOf"), (0, u "([II)[I"), (9, .methodref 8 33), (0, .nameAndType 34 35), (0, u "toArray"), (0, u "()[I"), (2, u "add"), (0, u "(I)V"), (1, u "get"), (0, u "(I)I"), (0, u "()I"), (0, u "trimToSize")] 17

def k2c0 : Code := { maxStack := 2, maxLocals := 1, code := prog_30_method_1_code, exceptionTable := #[], attributes := #[] }
def k2m0 : Method := { name := "<init>", desc := "()V", sig := { parameters := [], returnType := none }, accessFlags := 1, code := some k2c0 }
def k2c1 : Code := { maxStack := 5, maxLocals := 2, code := prog_30_method_2_code, exceptionTable := #[], attributes := #[] }
def k2m1 : Method := { name := "add", desc := "(I)V", sig := { parameters := [.int], returnType := none }, accessFlags := 1, code := some k2c1 }
def k2c2 : Code := { maxStack := 4, maxLocals := 2, code := prog_30_method_3_code, exceptionTable := #[], attributes := #[] }
def k2m2 : Method := { name := "get", desc := "(I)I", sig := { parameters := [.int], returnType := some .int }, accessFlags := 1, code := some k2c2 }
def k2c3 : Code := { maxStack := 1, maxLocals := 1, code := prog_30_method_4_code, exceptionTable := #[], attributes := #[] }
def k2m3 : Method := { name := "size", desc := "()I", sig := { parameters := [], returnType := some .int }, accessFlags := 1, code := some k2c3 }
def k2c4 : Code := { maxStack := 2, maxLocals := 1, code := prog_30_method_5_code, exceptionTable := #[], attributes := #[] }
def k2m4 : Method := { name := "toArray", desc := "()[I", sig := { parameters := [], returnType := some (.array .int) }, accessFlags := 1, code := some k2c4 }
def k2c5 : Code := { maxStack := 2, maxLocals := 1, code := prog_30_method_6_code, exceptionTable := #[], attributes := #[] }
def k2m5 : Method := { name := "trimToSize", desc := "()V", sig := { parameters := [], returnType := none }, accessFlags := 1, code := some k2c5 }
/-- com/example/cartulary/cartulary/seda/IntList -/
def k2 : Class := { plain "com/example/cartulary/cartulary/seda/IntList" (some 0) with
  accessFlags := 49
  interfaces := #[]
  cf := some (fileOf pool2 8 #[] #[{ accessFlags := 1, nameIndex := 5, descriptorIndex := 6, attributes := #[] }, { accessFlags := 1, nameIndex := 38, descriptorIndex := 39, attributes := #[] }, { accessFlags := 1, nameIndex := 41, descriptorIndex := 42, attributes := #[] }, { accessFlags := 1, nameIndex := 15, descriptorIndex := 43, attributes := #[] }, { accessFlags := 1, nameIndex := 34, descriptorIndex := 35, attributes := #[] }, { accessFlags := 1, nameIndex := 44, descriptorIndex := 6, attributes := #[] }] 49 2 #[] #[{ accessFlags := 2, nameIndex := 11, descriptorIndex := 12, attributes := #[] }, { accessFlags := 2, nameIndex := 15, descriptorIndex := 16, attributes := #[] }])
  fields := #[{ name := "values", type := (.array .int), accessFlags := 2, slot := 0, constantValue := 0 }, { name := "size", type := .int, accessFlags := 2, slot := 1, constantValue := 0 }]
  methods := #[k2m0, k2m1, k2m2, k2m3, k2m4, k2m5]
  instanceTypes := #[(.array .int), .int]
  staticTypes := #[]
  resolved := Array.replicate 62 none
  statics := none }

def pool3 : Array CpInfo := pool [(2, .class_ 4), (1, u "java/lang/Object"), (0, u "<init>"), (0, u "()V"), (7, .class_ 16), (1, u "java/util/Arrays"), (57, .class_ 76), (1, u "java/util/Arrays$NaturalOrder"), (32, u "()Ljava/lang/Object;"), (3, .class_ 115), (1, u "java/util/Arrays$LegacyMergeSort"), (1, u "Z"), (10, .nameAndType 129 109), (0, u "clone"), (20, .methodref 151 152), (0, .class_ 153), (0, .nameAndType 154 155), (0, u "java/lang/System"), (0, u "arraycopy"), (0, u "(Ljava/lang/Object;ILjava/lang/Object;II)V"), (146, u "copyOf"), (1, .methodref 305 306), (0, .class_ 307), (0, .nameAndType 308 309), (0, u "java/lang/Math"), (0, u "min"), (0, u "(II)I"), (6, .methodref 317 128), (0, .class_ 318), (0, u "[I"), (56, .class_ 376), (0, u "java/util/Arrays$ArrayList"), (68, u "$assertionsDisabled"), (269, u "MIN_ARRAY_SORT_GRAN"), (0, u "I"), (2, u "INSERTIONSORT_THRESHOLD"), (151, u "([II)[I"), (103, .class_ 976), (0, u "java/util/Arrays$ArrayItr")] 52

def k3m0 : Method := { name := "<init>", desc := "()V", sig := { parameters := [], returnType := none }, accessFlags := 2, code := none }
def k3c1 : Code := { maxStack := 6, maxLocals := 3, code := jdk_65_method_123_code, exceptionTable := #[], attributes := #[] }
def k3m1 : Method := { name := "copyOf", desc := "([II)[I", sig := { parameters := [(.array .int), .int], returnType := some (.array .int) }, accessFlags := 9, code := some k3c1 }
/-- java/util/Arrays -/
def k3 : Class := { plain "java/util/Arrays" (some 0) with
  accessFlags := 49
  interfaces := #[]
  cf := some (fileOf pool3 14 #[.nestMembers #[975, 375, 113, 74]] #[{ accessFlags := 2, nameIndex := 5, descriptorIndex := 6, attributes := #[] }, { accessFlags := 9, nameIndex := 302, descriptorIndex := 871, attributes := #[] }] 49 2 #[] #[{ accessFlags := 26, nameIndex := 715, descriptorIndex := 716, attributes := #[] }, { accessFlags := 26, nameIndex := 719, descriptorIndex := 716, attributes := #[] }, { accessFlags := 4120, nameIndex := 445, descriptorIndex := 117, attributes := #[] }])
  fields := #[{ name := "MIN_ARRAY_SORT_GRAN", type := .int, accessFlags := 26, slot := 0, constantValue := 0 }, { name := "INSERTIONSORT_THRESHOLD", type := .int, accessFlags := 26, slot := 1, constantValue := 0 }, { name := "$assertionsDisabled", type := .boolean, accessFlags := 4120, slot := 2, constantValue := 0 }]
  methods := #[k3m0, k3m1]
  instanceTypes := #[]
  staticTypes := #[.int, .int, .boolean]
  resolved := Array.replicate 1029 none
  statics := none }

def pool4 : Array CpInfo := pool [(1, .class_ 2), (0, u "java/lang/Math"), (1, .class_ 6), (1, u "java/lang/Object"), (0, u "<init>"), (0, u "()V"), (89, .class_ 100), (1, u "java/lang/Math$RandomNumberGeneratorHolder"), (71, u "negativeZeroFloatBits"), (0, u "J"), (2, u "negativeZeroDoubleBits"), (24, u "min"), (43, u "$assertionsDisabled"), (0, u "Z"), (88, u "(II)I"), (2, u "twoToTheDoubleScaleDown"), (0, u "D"), (4, u "twoToTheDoubleScaleUp"), (9, u "E"), (3, u "PI"), (2, u "TAU"), (2, u "DEGREES_TO_RADIANS"), (0, u "RADIANS_TO_DEGREES")] 94

def k4m0 : Method := { name := "<init>", desc := "()V", sig := { parameters := [], returnType := none }, accessFlags := 2, code := none }
def k4c1 : Code := { maxStack := 2, maxLocals := 2, code := jdk_29_method_69_code, exceptionTable := #[], attributes := #[] }
def k4m1 : Method := { name := "min", desc := "(II)I", sig := { parameters := [.int, .int], returnType := some .int }, accessFlags := 9, code := some k4c1 }
/-- java/lang/Math -/
def k4 : Class := { plain "java/lang/Math" (some 0) with
  accessFlags := 49
  interfaces := #[]
  cf := some (fileOf pool4 1 #[.nestMembers #[98]] #[{ accessFlags := 2, nameIndex := 7, descriptorIndex := 8, attributes := #[] }, { accessFlags := 9, nameIndex := 201, descriptorIndex := 335, attributes := #[] }] 49 4 #[] #[{ accessFlags := 25, nameIndex := 354, descriptorIndex := 339, attributes := #[] }, { accessFlags := 25, nameIndex := 358, descriptorIndex := 339, attributes := #[] }, { accessFlags := 25, nameIndex := 361, descriptorIndex := 339, attributes := #[] }, { accessFlags := 26, nameIndex := 364, descriptorIndex := 339, attributes := #[] }, { accessFlags := 26, nameIndex := 365, descriptorIndex := 339, attributes := #[] }, { accessFlags := 26, nameIndex := 172, descriptorIndex := 173, attributes := #[] }, { accessFlags := 26, nameIndex := 176, descriptorIndex := 173, attributes := #[] }, { accessFlags := 8, nameIndex := 344, descriptorIndex := 339, attributes := #[] }, { accessFlags := 8, nameIndex := 338, descriptorIndex := 339, attributes := #[] }, { accessFlags := 4120, nameIndex := 245, descriptorIndex := 246, attributes := #[] }])
  fields := #[{ name := "E", type := .double, accessFlags := 25, slot := 0, constantValue := 0 }, { name := "PI", type := .double, accessFlags := 25, slot := 1, constantValue := 0 }, { name := "TAU", type := .double, accessFlags := 25, slot := 2, constantValue := 0 }, { name := "DEGREES_TO_RADIANS", type := .double, accessFlags := 26, slot := 3, constantValue := 0 }, { name := "RADIANS_TO_DEGREES", type := .double, accessFlags := 26, slot := 4, constantValue := 0 }, { name := "negativeZeroFloatBits", type := .long, accessFlags := 26, slot := 5, constantValue := 0 }, { name := "negativeZeroDoubleBits", type := .long, accessFlags := 26, slot := 6, constantValue := 0 }, { name := "twoToTheDoubleScaleUp", type := .double, accessFlags := 8, slot := 7, constantValue := 0 }, { name := "twoToTheDoubleScaleDown", type := .double, accessFlags := 8, slot := 8, constantValue := 0 }, { name := "$assertionsDisabled", type := .boolean, accessFlags := 4120, slot := 9, constantValue := 0 }]
  methods := #[k4m0, k4m1]
  instanceTypes := #[]
  staticTypes := #[.double, .double, .double, .double, .double, .long, .long, .double, .double, .boolean]
  resolved := Array.replicate 460 none
  statics := none }

def pool5 : Array CpInfo := pool [(2, .class_ 4), (1, u "java/lang/Object"), (0, u "<init>"), (0, u "()V"), (1, .class_ 10), (1, u "java/lang/System"), (0, u "allowSecurityManager"), (0, u "I"), (16, u "cons"), (0, u "Ljava/io/Console;"), (77, .class_ 110), (1, u "java/lang/System$CallersHolder"), (43, u "initialErrStream"), (0, u "Ljava/io/PrintStream;"), (19, u "security"), (0, u "Ljava/lang/SecurityManager;"), (31, .class_ 209), (0, u "java/lang/System$1"), (7, u "props"), (0, u "Ljava/util/Properties;"), (2, u "lineSeparator"), (0, u "Ljava/lang/String;"), (96, .class_ 321), (1, u "java/lang/System$LoggerFinder"), (5, .class_ 328), (0, u "java/lang/System$Logger"), (67, u "err"), (2, u "out"), (91, u "notSupportedJnuEncoding"), (15, u "in"), (17, u "initialIn"), (0, u "Ljava/io/InputStream;"), (35, u "bootLayer"), (0, u "Ljava/lang/ModuleLayer;"), (99, .class_ 664), (0, u "java/lang/System$2"), (9, u "NEVER"), (2, u "MAYBE"), (49, u "arraycopy"), (0, u "(Ljava/lang/Object;ILjava/lang/Object;II)V"), (72, .class_ 802), (0, u "java/lang/System$Logger$Level")] 31

def k5m0 : Method := { name := "<init>", desc := "()V", sig := { parameters := [], returnType := none }, accessFlags := 2, code := none }
def k5m1 : Method := { name := "arraycopy", desc := "(Ljava/lang/Object;ILjava/lang/Object;II)V", sig := { parameters := [(.object "java/lang/Object"), .int, (.object "java/lang/Object"), .int, .int], returnType := none }, accessFlags := 265, code := none }
/-- java/lang/System -/
def k5 : Class := { plain "java/lang/System" (some 0) with
  accessFlags := 49
  interfaces := #[]
  cf := some (fileOf pool5 8 #[.nestMembers #[319, 327, 801, 108, 663, 208]] #[{ accessFlags := 2, nameIndex := 5, descriptorIndex := 6, attributes := #[] }, { accessFlags := 265, nameIndex := 727, descriptorIndex := 728, attributes := #[] }] 49 2 #[] #[{ accessFlags := 25, nameIndex := 507, descriptorIndex := 526, attributes := #[] }, { accessFlags := 25, nameIndex := 399, descriptorIndex := 155, attributes := #[] }, { accessFlags := 25, nameIndex := 396, descriptorIndex := 155, attributes := #[] }, { accessFlags := 10, nameIndex := 525, descriptorIndex := 526, attributes := #[] }, { accessFlags := 26, nameIndex := 674, descriptorIndex := 12, attributes := #[] }, { accessFlags := 26, nameIndex := 677, descriptorIndex := 12, attributes := #[] }, { accessFlags := 10, nameIndex := 11, descriptorIndex := 12, attributes := #[] }, { accessFlags := 74, nameIndex := 175, descriptorIndex := 176, attributes := #[] }, { accessFlags := 10, nameIndex := 491, descriptorIndex := 222, attributes := #[] }, { accessFlags := 74, nameIndex := 29, descriptorIndex := 30, attributes := #[] }, { accessFlags := 74, nameIndex := 154, descriptorIndex := 155, attributes := #[] }, { accessFlags := 10, nameIndex := 217, descriptorIndex := 218, attributes := #[] }, { accessFlags := 10, nameIndex := 221, descriptorIndex := 222, attributes := #[] }, { accessFlags := 8, nameIndex := 562, descriptorIndex := 563, attributes := #[] }])
  fields := #[{ name := "in", type := (.object "java/io/InputStream"), accessFlags := 25, slot := 0, constantValue := 0 }, { name := "out", type := (.object "java/io/PrintStream"), accessFlags := 25, slot := 1, constantValue := 0 }, { name := "err", type := (.object "java/io/PrintStream"), accessFlags := 25, slot := 2, constantValue := 0 }, { name := "initialIn", type := (.object "java/io/InputStream"), accessFlags := 10, slot := 3, constantValue := 0 }, { name := "NEVER", type := .int, accessFlags := 26, slot := 4, constantValue := 0 }, { name := "MAYBE", type := .int, accessFlags := 26, slot := 5, constantValue := 0 }, { name := "allowSecurityManager", type := .int, accessFlags := 10, slot := 6, constantValue := 0 }, { name := "security", type := (.object "java/lang/SecurityManager"), accessFlags := 74, slot := 7, constantValue := 0 }, { name := "notSupportedJnuEncoding", type := (.object "java/lang/String"), accessFlags := 10, slot := 8, constantValue := 0 }, { name := "cons", type := (.object "java/io/Console"), accessFlags := 74, slot := 9, constantValue := 0 }, { name := "initialErrStream", type := (.object "java/io/PrintStream"), accessFlags := 74, slot := 10, constantValue := 0 }, { name := "props", type := (.object "java/util/Properties"), accessFlags := 10, slot := 11, constantValue := 0 }, { name := "lineSeparator", type := (.object "java/lang/String"), accessFlags := 10, slot := 12, constantValue := 0 }, { name := "bootLayer", type := (.object "java/lang/ModuleLayer"), accessFlags := 8, slot := 13, constantValue := 0 }]
  methods := #[k5m0, k5m1]
  instanceTypes := #[]
  staticTypes := #[(.object "java/io/InputStream"), (.object "java/io/PrintStream"), (.object "java/io/PrintStream"), (.object "java/io/InputStream"), .int, .int, .int, (.object "java/lang/SecurityManager"), (.object "java/lang/String"), (.object "java/io/Console"), (.object "java/io/PrintStream"), (.object "java/util/Properties"), (.object "java/lang/String"), (.object "java/lang/ModuleLayer")]
  resolved := Array.replicate 834 none
  statics := none }

def pool6 : Array CpInfo := pool [(1, .class_ 2), (0, u "java/lang/Cloneable"), (0, .class_ 4), (0, u "java/lang/Object")] 2

/-- java/lang/Cloneable -/
def k6 : Class := { plain "java/lang/Cloneable" (some 0) with
  accessFlags := 1537
  interfaces := #[]
  cf := some (fileOf pool6 1 #[] #[] 1537 3 #[] #[])
  fields := #[]
  methods := #[]
  instanceTypes := #[]
  staticTypes := #[]
  resolved := Array.replicate 7 none
  statics := none }

def pool7 : Array CpInfo := pool [(1, u "java/io/Serializable"), (0, .class_ 1), (0, u "java/lang/Object"), (0, .class_ 3)] 3

/-- java/io/Serializable -/
def k7 : Class := { plain "java/io/Serializable" (some 0) with
  accessFlags := 1537
  interfaces := #[]
  cf := some (fileOf pool7 2 #[] #[] 1537 4 #[] #[])
  fields := #[]
  methods := #[]
  instanceTypes := #[]
  staticTypes := #[]
  resolved := Array.replicate 8 none
  statics := none }

/-- the primitive byte -/
def k8 : Class := { plain "byte" none with kind := .primitive 'B', accessFlags := 0x411 }
/-- [B -/
def k9 : Class := { plain "[B" (some 0) with kind := .array 8 .byte, interfaces := #[6, 7], accessFlags := 1041 }

/-- the primitive int -/
def k10 : Class := { plain "int" none with kind := .primitive 'I', accessFlags := 0x411 }
/-- [I -/
def k11 : Class := { plain "[I" (some 0) with kind := .array 10 .int, interfaces := #[6, 7], accessFlags := 1041 }

def heap : Heap := #[]
def classes : Array Class := #[k0, k1, k2, k3, k4, k5, k6, k7, k8, k9, k10, k11]
def interned : List (Array UInt16 × Addr) := []
def slotsUsed : Nat := 0
def theMethod : MethodId := ⟨1, 1⟩
def args0 : Array Value := #[.int 5, .int 6, .int 7, .int 2]
def aboutOver (below : List Frame) : State where
  vm := { classes := classes, interned := interned.toArray }
  heap := heap
  slotsUsed := slotsUsed
  threads := #[{ frames := .invoking theMethod args0 :: below }]
def below0 : List Frame := [.native { method := ⟨0, 0⟩, args := #[] }]
def about1 : State := aboutOver below0
def p0 : Program := .bare "" "" ""
def e0 : Env := launch0.env 0 0 0
theorem w_frames : about1.frames = Frame.invoking theMethod args0 :: below0 := rfl
set_option maxRecDepth 65536 in
theorem w_args : argsFit about1.vm theMethod args0 = true := by decide +kernel
set_option maxRecDepth 65536 in
theorem w_heap : heapFits about1 = true := by decide +kernel
set_option maxRecDepth 65536 in
theorem w_runnable : about1.curStatus? = some .runnable := by decide +kernel
set_option maxRecDepth 65536 in
theorem w_alone : about1.alone = true := by decide +kernel
set_option maxRecDepth 65536 in
theorem w_named : about1.methodNamed? x = some theMethod := by decide +kernel
set_option maxRecDepth 65536 in
theorem w_hears : about1.hears theMethod below0 = true := by decide +kernel
set_option maxRecDepth 65536 in
theorem w_ripe : about1.ripe theMethod args0 below0 = true := by decide +kernel
theorem w_running : about1.status = .running := rfl
set_option maxRecDepth 65536 in
theorem w_room : about1.hasRoom e0.platform room_1 = true :=
  launch0.hasRoom_least _ room_1 (by decide +kernel) (by decide +kernel) (by decide +kernel) (by decide +kernel) (by decide +kernel) (by decide +kernel)
theorem allAtoms_all (ts : List Jvm.Cond) (a : Array Jvm.Value) (st : Jvm.State) : (allAtoms ts).before a st = ts.all (fun c => c.before a st) := by
  induction ts with
  | nil => rfl
  | cons c t ih =>
    show (Jvm.Cond.and c (allAtoms t)).before a st = _
    rw [Jvm.Cond.before_and, ih, List.all_cons]
def words1 : List Jvm.Cond := Jvm.Cond.code x code maxLocals ret :: tables_1
/-- a 'code' word, met by the world's own term for the bytes: nothing is compared byte by byte -/
theorem code_word {y : MethodName} {bytes : ByteArray} {mx : Nat} {rt : Option FieldType} {a : Array Value} {s : State} {m : MethodId} {meth : Method} {c : Code} (h1 : s.methodNamed? y = some m) (h2 : s.vm.method? m = some meth) (h3 : meth.code = some c) (h4 : c.code = bytes)
    (h5 : (c.maxLocals == mx && c.exceptionTable.isEmpty && decide (c.maxStack ≤ mostOperands) && decide (meth.sig.returnType = rt) && !meth.locks && decide (parseMethodDescriptor y.desc = some meth.sig)) = true) : (Jvm.Cond.code y bytes mx rt).before a s = true := by
  simp only [Bool.and_eq_true, beq_iff_eq, Bool.not_eq_true', decide_eq_true_eq] at h5
  obtain ⟨⟨⟨⟨⟨g1, g2⟩, g3⟩, g4⟩, g5⟩, g6⟩ := h5
  simp [Cond.before, Cond.holds, Cond.value, h1, h2, h3, h4, g1, g2, g3, g4, g5, g6]
def isCode : Jvm.Cond → Bool
  | .code _ _ _ _ => true
  | _ => false
theorem all_split {L : List Jvm.Cond} {P : Jvm.Cond → Bool} (h1 : L.all (fun c => isCode c || P c) = true) (h2 : ∀ c ∈ L.filter isCode, P c = true) : L.all P = true := by
  refine List.all_eq_true.mpr fun c hc => ?_
  have h := List.all_eq_true.mp h1 c hc
  rcases Bool.eq_false_or_eq_true (isCode c) with hi | hi
  · exact h2 c (List.mem_filter.mpr ⟨hc, hi⟩)
  · simpa [hi] using h
set_option maxRecDepth 65536 in
theorem w_c0 : (Jvm.Cond.code x code maxLocals ret).before args0 about1 = true := code_word (m := ⟨1, 1⟩) (meth := k1m1) (c := k1c1) (by decide +kernel) rfl rfl rfl (by decide +kernel)
set_option maxRecDepth 65536 in
theorem w_c1 : (Jvm.Cond.code ({ cls := "com/example/cartulary/cartulary/seda/IntList", name := "<init>", desc := "()V" } : Jvm.MethodName) prog_30_method_1_code (1 : Nat) (Option.none : Option Jvm.ClassFile.FieldType)).before args0 about1 = true := code_word (m := ⟨2, 0⟩) (meth := k2m0) (c := k2c0) (by decide +kernel) rfl rfl rfl (by decide +kernel)
set_option maxRecDepth 65536 in
theorem w_c2 : (Jvm.Cond.code ({ cls := "java/lang/Object", name := "<init>", desc := "()V" } : Jvm.MethodName) object_method_1_code (1 : Nat) (Option.none : Option Jvm.ClassFile.FieldType)).before args0 about1 = true := code_word (m := ⟨0, 0⟩) (meth := k0m0) (c := k0c0) (by decide +kernel) rfl rfl rfl (by decide +kernel)
set_option maxRecDepth 65536 in
theorem w_c3 : (Jvm.Cond.code ({ cls := "com/example/cartulary/cartulary/seda/IntList", name := "add", desc := "(I)V" } : Jvm.MethodName) prog_30_method_2_code (2 : Nat) (Option.none : Option Jvm.ClassFile.FieldType)).before args0 about1 = true := code_word (m := ⟨2, 1⟩) (meth := k2m1) (c := k2c1) (by decide +kernel) rfl rfl rfl (by decide +kernel)
set_option maxRecDepth 65536 in
theorem w_c4 : (Jvm.Cond.code ({ cls := "com/example/cartulary/cartulary/seda/IntList", name := "trimToSize", desc := "()V" } : Jvm.MethodName) prog_30_method_6_code (1 : Nat) (Option.none : Option Jvm.ClassFile.FieldType)).before args0 about1 = true := code_word (m := ⟨2, 5⟩) (meth := k2m5) (c := k2c5) (by decide +kernel) rfl rfl rfl (by decide +kernel)
set_option maxRecDepth 65536 in
theorem w_c5 : (Jvm.Cond.code ({ cls := "com/example/cartulary/cartulary/seda/IntList", name := "toArray", desc := "()[I" } : Jvm.MethodName) prog_30_method_5_code (1 : Nat) (Option.some (Jvm.ClassFile.FieldType.array Jvm.ClassFile.FieldType.int))).before args0 about1 = true := code_word (m := ⟨2, 4⟩) (meth := k2m4) (c := k2c4) (by decide +kernel) rfl rfl rfl (by decide +kernel)
set_option maxRecDepth 65536 in
theorem w_c6 : (Jvm.Cond.code ({ cls := "java/util/Arrays", name := "copyOf", desc := "([II)[I" } : Jvm.MethodName) jdk_65_method_123_code (3 : Nat) (Option.some (Jvm.ClassFile.FieldType.array Jvm.ClassFile.FieldType.int))).before args0 about1 = true := code_word (m := ⟨3, 1⟩) (meth := k3m1) (c := k3c1) (by decide +kernel) rfl rfl rfl (by decide +kernel)
set_option maxRecDepth 65536 in
theorem w_c7 : (Jvm.Cond.code ({ cls := "java/lang/Math", name := "min", desc := "(II)I" } : Jvm.MethodName) jdk_29_method_69_code (2 : Nat) (Option.some Jvm.ClassFile.FieldType.int)).before args0 about1 = true := code_word (m := ⟨4, 1⟩) (meth := k4m1) (c := k4c1) (by decide +kernel) rfl rfl rfl (by decide +kernel)
set_option maxRecDepth 65536 in
theorem w_c8 : (Jvm.Cond.code ({ cls := "com/example/cartulary/cartulary/seda/IntList", name := "size", desc := "()I" } : Jvm.MethodName) prog_30_method_4_code (1 : Nat) (Option.some Jvm.ClassFile.FieldType.int)).before args0 about1 = true := code_word (m := ⟨2, 3⟩) (meth := k2m3) (c := k2c3) (by decide +kernel) rfl rfl rfl (by decide +kernel)
set_option maxRecDepth 65536 in
theorem w_c9 : (Jvm.Cond.code ({ cls := "com/example/cartulary/cartulary/seda/IntList", name := "get", desc := "(I)I" } : Jvm.MethodName) prog_30_method_3_code (2 : Nat) (Option.some Jvm.ClassFile.FieldType.int)).before args0 about1 = true := code_word (m := ⟨2, 2⟩) (meth := k2m2) (c := k2c2) (by decide +kernel) rfl rfl rfl (by decide +kernel)
def codes1 : List Jvm.Cond := [Jvm.Cond.code x code maxLocals ret, Jvm.Cond.code ({ cls := "com/example/cartulary/cartulary/seda/IntList", name := "<init>", desc := "()V" } : Jvm.MethodName) prog_30_method_1_code (1 : Nat) (Option.none : Option Jvm.ClassFile.FieldType), Jvm.Cond.code ({ cls := "java/lang/Object", name := "<init>", desc := "()V" } : Jvm.MethodName) object_method_1_code (1 : Nat) (Option.none : Option Jvm.ClassFile.FieldType), Jvm.Cond.code ({ cls := "com/example/cartulary/cartulary/seda/IntList", name := "add", desc := "(I)V" } : Jvm.MethodName) prog_30_method_2_code (2 : Nat) (Option.none : Option Jvm.ClassFile.FieldType), Jvm.Cond.code ({ cls := "com/example/cartulary/cartulary/seda/IntList", name := "trimToSize", desc := "()V" } : Jvm.MethodName) prog_30_method_6_code (1 : Nat) (Option.none : Option Jvm.ClassFile.FieldType), Jvm.Cond.code ({ cls := "com/example/cartulary/cartulary/seda/IntList", name := "toArray", desc := "()[I" } : Jvm.MethodName) prog_30_method_5_code (1 : Nat) (Option.some (Jvm.ClassFile.FieldType.array Jvm.ClassFile.FieldType.int)), Jvm.Cond.code ({ cls := "java/util/Arrays", name := "copyOf", desc := "([II)[I" } : Jvm.MethodName) jdk_65_method_123_code (3 : Nat) (Option.some (Jvm.ClassFile.FieldType.array Jvm.ClassFile.FieldType.int)), Jvm.Cond.code ({ cls := "java/lang/Math", name := "min", desc := "(II)I" } : Jvm.MethodName) jdk_29_method_69_code (2 : Nat) (Option.some Jvm.ClassFile.FieldType.int), Jvm.Cond.code ({ cls := "com/example/cartulary/cartulary/seda/IntList", name := "size", desc := "()I" } : Jvm.MethodName) prog_30_method_4_code (1 : Nat) (Option.some Jvm.ClassFile.FieldType.int), Jvm.Cond.code ({ cls := "com/example/cartulary/cartulary/seda/IntList", name := "get", desc := "(I)I" } : Jvm.MethodName) prog_30_method_3_code (2 : Nat) (Option.some Jvm.ClassFile.FieldType.int)]
set_option maxRecDepth 65536 in
theorem codes_eq : words1.filter isCode = codes1 := rfl
theorem w_codes : ∀ c ∈ words1.filter isCode, c.before args0 about1 = true := by
  rw [codes_eq]
  intro c hc
  simp only [codes1, List.mem_cons, List.not_mem_nil, or_false] at hc
  rcases hc with rfl | rfl | rfl | rfl | rfl | rfl | rfl | rfl | rfl | rfl
  · exact w_c0
  · exact w_c1
  · exact w_c2
  · exact w_c3
  · exact w_c4
  · exact w_c5
  · exact w_c6
  · exact w_c7
  · exact w_c8
  · exact w_c9
set_option maxRecDepth 65536 in
theorem w_t1 : (words1.take 24).all (fun c => isCode c || c.before args0 about1) = true := by decide +kernel
set_option maxRecDepth 65536 in
theorem w_t2 : ((words1.drop 24).take 24).all (fun c => isCode c || c.before args0 about1) = true := by decide +kernel
set_option maxRecDepth 65536 in
theorem w_t3 : ((words1.drop 24).drop 24).all (fun c => isCode c || c.before args0 about1) = true := by decide +kernel
theorem w_tables : (allAtoms (Jvm.Cond.code x code maxLocals ret :: tables_1)).before args0 about1 = true := by
  rw [allAtoms_all]
  show words1.all (fun c => c.before args0 about1) = true
  refine all_split ?_ w_codes
  rw [← List.take_append_drop 24 words1, List.all_append, w_t1, ← List.take_append_drop 24 (words1.drop 24), List.all_append, w_t2, w_t3]
  rfl
set_option maxRecDepth 65536 in
theorem w_case : (Jvm.Cond.and given_1 narrow_1).before args0 about1 = true := by decide +kernel
theorem w_applies : (headSpec (Jvm.Cond.code x code maxLocals ret :: tables_1) room_1).applies x e0.platform about1 = true :=
  (Spec.applies_iff w_frames).mpr ⟨w_running, w_runnable, w_alone, w_named, w_hears, w_ripe, w_room, w_tables⟩
theorem atStart : AtStart classFile x code maxLocals ret World_1 tables_1 room_1 Calls_1 rest_1 Pre_1 launch0 p0 e0 about1 theMethod args0 below0 :=
  ⟨lists_1, trivial, launch0.admits_env _ _ _, launch0.least_env, fairChoices_fair.cas, fairChoices_fair.clock, w_frames, w_args, w_heap, w_applies, trivial, trivial, w_case⟩
end start1
theorem witness_1 : WitnessClaimed_1 := ⟨start1.p0, start1.e0, start1.about1, start1.theMethod, start1.args0, start1.below0, start1.atStart⟩
end Jvm.Pilot.@@N@@
