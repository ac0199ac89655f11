import JvmDerived
import JvmDerived.Pilot.@@N@@Statement
import JvmDerived.Pilot.@@N@@Code
set_option linter.unusedVariables false
set_option linter.unusedSimpArgs false
@@BLOCK:NumsL.lean.txt@@
@@BLOCK:Masks.lean.txt@@
namespace Jvm.RoadKit
open Sem ClassFile Op Lib Jvm.Stand Jvm.Free Jvm.LawKit
section OwnGo
variable {p : Program} {l : Launch} {e : Env} {R : Room} {s : State} {m : MethodId} {args : Array Value} {below : List Frame} {meth : Method} {c : Code} {T : State} {locs : List Loc} {cells slots : Nat} {Z : State} {a0 : Array Value} {h : Heap}
/-- from A the run comes to an end of which P holds -/
def Go (p : Program) (e : Env) (below : List Frame) (P : State → Outcome → Prop) (A : State) : Prop := ∃ t o, Steps p.tables e below A t ∧ t.status = .running ∧ Ended t below o ∧ P t o
theorem Go.st {P : State → Outcome → Prop} {A B : State} (st : ∀ t, Steps p.tables e below A t → Steps p.tables e below B t) (k : Go p e below P A) : Go p e below P B := by
  obtain ⟨t, o, h1, h2⟩ := k
  exact ⟨t, o, st t h1, h2⟩
theorem Go.tr {P : State → Outcome → Prop} {A B : State} (st : Steps p.tables e below B A) (k : Go p e below P A) : Go p e below P B := Go.st (fun _ h => st.trans h) k
def Pst (s : State) (Q : Option Value → Heap → List Loc → Prop) (C S : Nat) : State → Outcome → Prop := fun t o => ∃ v L, o = .returned v ∧ Q v t.heap L ∧ FrameEnd s o t L C S
/-- a method's contract at the heap h0, for the arguments as -/
def Ct (l : Launch) (y : MethodName) (bytes : ByteArray) (maxL : Nat) (ret : Option FieldType) (ws : List Cond) (rm : Room) (Z : State) (as : Array Value) (h0 : Heap) (Q : Option Value → Heap → List Loc → Prop) : Prop :=
  MetFree l y (head1 (Cond.code y bytes maxL ret :: ws) rm) (fun a U => a = as ∧ Z.Warmed39 U.vm ∧ U.heap = h0) (fun _ _ _ _ _ => True) (fun _ U o U' => ∃ v L, o = .returned v ∧ Q v U'.heap L ∧ FrameEnd U o U' L rm.cells rm.slots)
theorem Ct.of {y : MethodName} {bytes : ByteArray} {maxL : Nat} {ret : Option FieldType} {ws : List Cond} {rm : Room} {as : Array Value} {h0 : Heap} {Q : Option Value → Heap → List Loc → Prop} {Ls : Array Slot}
    (hpl : plainFor y = true) (hef : ∀ m, entryFrame m as maxL = mkF m 0 Ls [])
    (body : ∀ (p : Program) (e : Env) (s : State) (m : MethodId) (below : List Frame) (meth : Method) (c : Code) (T : State), Stand p l e rm s m as below meth c T [] 0 0 → p.tables.exec = Jvm.exec → c.code = bytes → c.maxLocals = maxL → meth.sig.returnType = ret → meth.locks = false → s.vm.findClass y.cls = some m.cls → meth.name = y.name → Z.Warmed39 s.vm → T.heap = h0 →
      ∀ P : State → Outcome → Prop, P = Pst s Q rm.cells rm.slots → Go p e below P (T.setTop (mkF m 0 Ls []))) : Ct l y bytes maxL ret ws rm Z as h0 Q := by
  refine MetFree.of_bodySF hpl hisR ?_
  intro p e s m args below meth c s₁ Bd hml0 hP hK
  obtain ⟨rfl, hZ, hh⟩ := hP
  have X0 : Stand p l e rm s m args below meth c s₁ [] 0 0 := Stand.of_body Bd
  obtain ⟨t, o, h1, h2⟩ := body p e s m below meth c s₁ X0 Bd.exec Bd.bytes hml0 Bd.returns Bd.notSynchronized (findClass_of_methodNamed Bd.named) (name_of_methodNamed Bd.named Bd.method).1 hZ (by rw [← hh, Bd.state]; rfl) _ rfl
  exact ⟨t, o, castTop (hef m) h1, h2⟩
theorem goRet {t : FieldType} {i : Instr} {v w : Value} {pc : Nat} {Ls : Array Slot} {rest : List Value} {Q : Option Value → Heap → List Loc → Prop} {C S : Nat}
    (X : Stand p l e R s m args below meth c T locs cells slots) (hret : meth.sig.returnType = some t) (hlk : meth.locks = false)
    (st : ∀ {fs : List Frame}, (∀ (f : JFrame) (acts : List Action), f.method = m → f.locked = none → f.entered = [] → (doReturn e (T.setTop f) acts (some w)).1 = T.setFrames fs) → Steps p.tables e below (T.setTop (mkF m pc Ls (v :: rest))) (T.setFrames fs))
    (hc : cells ≤ C) (hs : slots ≤ S) (hQ : Q (some w) T.heap locs) : Go p e below (Pst s Q C S) (T.setTop (mkF m pc Ls (v :: rest))) := by
  obtain ⟨fs, hr, hrun, hended, hW, hsame⟩ := X.leave (v := some w) (fun h => by rw [hret] at h; cases h) hlk
  exact ⟨_, _, st hr, hrun, hended, _, _, rfl, hQ, ⟨_, rfl⟩, hW, hsame.mono hc hs⟩
theorem retI (X : Stand p l e R s m args below meth c T locs cells slots) (hx : p.tables.exec = Jvm.exec) {pc : Nat} {Ls : Array Slot} {z : Int32} {rest : List Value} (hret : meth.sig.returnType = some .int) (hd : decode c.code pc = .ok (.ireturn, 1)) {fs : List Frame}
    (hl : ∀ (f : JFrame) (acts : List Action), f.method = m → f.locked = none → f.entered = [] → (doReturn e (T.setTop f) acts (some (.int z))).1 = T.setFrames fs) : Steps p.tables e below (T.setTop (mkF m pc Ls (.int z :: rest))) (T.setFrames fs) :=
  retOut X hx hret rfl (Or.inl ⟨rfl, Or.inl rfl, z, rfl⟩) hd hl
theorem goI {pc : Nat} {Ls : Array Slot} {z : Int32} {rest : List Value} {Q : Option Value → Heap → List Loc → Prop} {C S : Nat} {P : State → Outcome → Prop}
    (X : Stand p l e R s m args below meth c T locs cells slots) (hx : p.tables.exec = Jvm.exec) (hret : meth.sig.returnType = some .int) (hlk : meth.locks = false) (hd : decode c.code pc = .ok (.ireturn, 1))
    (hP : P = Pst s Q C S) (hc : cells ≤ C) (hs : slots ≤ S) (hQ : Q (some (.int z)) T.heap locs) : Go p e below P (T.setTop (mkF m pc Ls (.int z :: rest))) := by
  subst hP
  exact goRet (i := .ireturn) X hret hlk (fun hr => retI X hx hret hd hr) hc hs hQ
theorem goN {pc : Nat} {Ls : Array Slot} {z : Int32} {t : FieldType} {rest : List Value} {Q : Option Value → Heap → List Loc → Prop} {C S : Nat} {P : State → Outcome → Prop}
    (X : Stand p l e R s m args below meth c T locs cells slots) (hx : p.tables.exec = Jvm.exec) (hret : meth.sig.returnType = some t) (ht : t = .boolean ∨ t = .byte ∨ t = .char ∨ t = .short) (hlk : meth.locks = false) (hd : decode c.code pc = .ok (.ireturn, 1))
    (hP : P = Pst s Q C S) (hc : cells ≤ C) (hs : slots ≤ S) (hQ : Q (some (.int (nar t z))) T.heap locs) : Go p e below P (T.setTop (mkF m pc Ls (.int z :: rest))) := by
  subst hP
  exact goRet (i := .ireturn) X hret hlk (fun hr => retN X hx hret ht hd hr) hc hs hQ
theorem goJ {pc : Nat} {Ls : Array Slot} {z : Int64} {rest : List Value} {Q : Option Value → Heap → List Loc → Prop} {C S : Nat} {P : State → Outcome → Prop}
    (X : Stand p l e R s m args below meth c T locs cells slots) (hx : p.tables.exec = Jvm.exec) (hret : meth.sig.returnType = some .long) (hlk : meth.locks = false) (hd : decode c.code pc = .ok (.lreturn, 1))
    (hP : P = Pst s Q C S) (hc : cells ≤ C) (hs : slots ≤ S) (hQ : Q (some (.long z)) T.heap locs) : Go p e below P (T.setTop (mkF m pc Ls (.long z :: rest))) := by
  subst hP
  exact goRet (i := .lreturn) X hret hlk (fun hr => retOut X hx hret rfl (Or.inr (Or.inl ⟨rfl, rfl, z, rfl⟩)) hd hr) hc hs hQ
theorem goA {pc : Nat} {Ls : Array Slot} {z : Addr} {t : FieldType} {rest : List Value} {Q : Option Value → Heap → List Loc → Prop} {C S : Nat} {P : State → Outcome → Prop}
    (X : Stand p l e R s m args below meth c T locs cells slots) (hx : p.tables.exec = Jvm.exec) (hret : meth.sig.returnType = some t) (ht : t.isReference = true) (hn : narrow t (.ref z) = .ref z) (hlk : meth.locks = false) (hd : decode c.code pc = .ok (.areturn, 1))
    (hP : P = Pst s Q C S) (hc : cells ≤ C) (hs : slots ≤ S) (hQ : Q (some (.ref z)) T.heap locs) : Go p e below P (T.setTop (mkF m pc Ls (.ref z :: rest))) := by
  subst hP
  exact goRet (i := .areturn) X hret hlk (fun hr => retOut X hx hret hn (Or.inr (Or.inr (Or.inr (Or.inr ⟨rfl, ht, rfl⟩)))) hd hr) hc hs hQ
theorem goV {pc : Nat} {Ls : Array Slot} {Q : Option Value → Heap → List Loc → Prop} {C S : Nat} {P : State → Outcome → Prop}
    (X : Stand p l e R s m args below meth c T locs cells slots) (hx : p.tables.exec = Jvm.exec) (hret : meth.sig.returnType = none) (hlk : meth.locks = false) (hd : decode c.code pc = .ok (.return_, 1))
    (hP : P = Pst s Q C S) (hc : cells ≤ C) (hs : slots ≤ S) (hQ : Q none T.heap locs) : Go p e below P (T.setTop (mkF m pc Ls [])) := by
  subst hP
  obtain ⟨fs, hr, hrun, hended, hW, hsame⟩ := X.leave (v := none) (fun _ => rfl) hlk
  exact ⟨_, _, X.returnOut hx hret hd hr, hrun, hended, _, _, rfl, hQ, ⟨_, rfl⟩, hW, hsame.mono hc hs⟩
/-- a static call by its contract -/
theorem callCt (X : Stand p l e R s m args below meth c T locs cells slots) (hx : p.tables.exec = Jvm.exec) (hZ : Z.Warmed39 s.vm) (eT : T.heap = h) {own : String} {index : Nat} {y : MethodName} {bytes : ByteArray} {maxL : Nat} {ret : Option FieldType} {rm : Room} {Q : Option Value → Heap → List Loc → Prop} {argsL rest : List Value}
    (hown : s.vm.findClass own = some m.cls) (w1 : (Cond.methodLink own index y).before a0 Z = true) (w2 : (Cond.static y).before a0 Z = true) (w3 : (Cond.initialized y.cls).before a0 Z = true) (w4 : (Cond.code y bytes maxL ret).before a0 Z = true)
    (hy : y.cls ≠ "java/lang/invoke/MethodHandle" ∧ y.cls ≠ "java/lang/invoke/VarHandle") (hM : Ct l y bytes maxL ret [] rm Z argsL.toArray h Q) {W : Nat} (hf : rm.frames + 1 ≤ R.frames) (hl : W + (maxL + 11) + rm.locals ≤ R.locals)
    {g : JFrame} (hg : g.method = m) (hsize : g.locals.size = c.maxLocals) (hlen : ∀ sig, parseMethodDescriptor y.desc = some sig → argsL.length = sig.parameters.length) (hstack : g.stack = argsL.reverse ++ rest) (hW : 2 * g.monitorRoom + (rest.map fun v => v.category).sum ≤ W)
    (hdg : decode c.code g.pc = .ok (.invokestatic index, 3)) (hc : cells + rm.cells ≤ R.cells) (hs : slots + rm.slots ≤ R.slots) :
    ∃ (v : Option Value) (T' : State) (L : List Loc), Stand p l e R s m args below meth c T' (locs ++ L) (cells + rm.cells) (slots + rm.slots) ∧ Q v T'.heap L ∧ ∀ target, Steps p.tables e below (T'.setTop { g with pc := g.pc + 3, stack := v.toList ++ rest }) target → Steps p.tables e below (T.setTop g) target := by
  subst eT
  obtain ⟨v, _, ⟨T', L', k', n'⟩, -, X', ⟨Lc, hQ, l18, y18, z18⟩, st⟩ := Jvm.LawKit.callS X hx (y := y) hown (mvT hZ w1) (mvT hZ w2) (mvT hZ w3) (mvT hZ w4) hy (backOf (W := W) hM hZ w4 w3 hf hl) hg hsize hlen hstack hW hdg (fun _ _ => ⟨rfl, rfl, hc, hs⟩)
  dsimp only [Pt.U, Pt.locs, Pt.cells, Pt.slots] at X' l18 y18 z18 st hQ
  subst l18 y18 z18
  exact ⟨v, T', Lc, X', hQ, st⟩
/-- a constructor by its contract -/
theorem callCtor (X : Stand p l e R s m args below meth c T locs cells slots) (hx : p.tables.exec = Jvm.exec) (hZ : Z.Warmed39 s.vm) (eT : T.heap = h) {own : String} {index : Nat} {y : MethodName} (hy1 : y.name = "<init>") {bytes : ByteArray} {maxL : Nat} {rm : Room} {Q : Option Value → Heap → List Loc → Prop} {a : Addr} {argsL rest : List Value}
    (hown : s.vm.findClass own = some m.cls) (w1 : (Cond.methodLink own index y).before a0 Z = true) (w2 : (Cond.instanceMethod y).before a0 Z = true) (w3 : (Cond.initialized y.cls).before a0 Z = true) (w4 : (Cond.code y bytes maxL none).before a0 Z = true)
    (hy : y.cls ≠ "java/lang/invoke/MethodHandle" ∧ y.cls ≠ "java/lang/invoke/VarHandle") (hM : Ct l y bytes maxL none [] rm Z (.ref a :: argsL).toArray h Q) {W : Nat} (hf : rm.frames + 1 ≤ R.frames) (hl : W + (maxL + 11) + rm.locals ≤ R.locals)
    {g : JFrame} (hg : g.method = m) (hsize : g.locals.size = c.maxLocals) (hlen : ∀ sig, parseMethodDescriptor y.desc = some sig → argsL.length = sig.parameters.length) (hstack : g.stack = argsL.reverse ++ .ref a :: rest) (hW : 2 * g.monitorRoom + (rest.map fun v => v.category).sum ≤ W)
    (hdg : decode c.code g.pc = .ok (.invokespecial index, 3)) (hc : cells + rm.cells ≤ R.cells) (hs : slots + rm.slots ≤ R.slots) :
    ∃ (v : Option Value) (T' : State) (L : List Loc), Stand p l e R s m args below meth c T' (locs ++ L) (cells + rm.cells) (slots + rm.slots) ∧ Q v T'.heap L ∧ ∀ target, Steps p.tables e below (T'.setTop { g with pc := g.pc + 3, stack := v.toList ++ rest }) target → Steps p.tables e below (T.setTop g) target := by
  subst eT
  obtain ⟨v, _, ⟨T', L', k', n'⟩, -, X', ⟨Lc, hQ, l18, y18, z18⟩, st⟩ := X.specialBack hx (y := y) hy1 hown (mvT hZ w1) (mvT hZ w2) (mvT hZ w4) hy (backOf (W := W) hM hZ w4 w3 hf hl) hg hsize (Steps.refl _) hlen hstack hW hdg (fun _ _ => ⟨rfl, rfl, hc, hs⟩)
  dsimp only [Pt.U, Pt.locs, Pt.cells, Pt.slots] at X' l18 y18 z18 st hQ
  subst l18 y18 z18
  exact ⟨v, T', Lc, X', hQ, fun _ k => st.trans k⟩
/-- an instance method that its own class selects, by its contract -/
theorem callCv (X : Stand p l e R s m args below meth c T locs cells slots) (hx : p.tables.exec = Jvm.exec) (hZ : Z.Warmed39 s.vm) (eT : T.heap = h) {own : String} {index : Nat} {y : MethodName} {bytes : ByteArray} {maxL : Nat} {ret : Option FieldType} {rm : Room} {Q : Option Value → Heap → List Loc → Prop} {a : Addr} {argsL rest : List Value}
    (hown : s.vm.findClass own = some m.cls) (w1 : (Cond.methodLink own index y).before a0 Z = true) (w5 : (Cond.declares y).before a0 Z = true) (w6 : (Cond.selects y.cls y y).before a0 Z = true) (w2 : (Cond.instanceMethod y).before a0 Z = true) (w3 : (Cond.initialized y.cls).before a0 Z = true) (w4 : (Cond.code y bytes maxL ret).before a0 Z = true)
    (hy : y.cls ≠ "java/lang/invoke/MethodHandle" ∧ y.cls ≠ "java/lang/invoke/VarHandle") (E : Exa Z h a y.cls) (hM : Ct l y bytes maxL ret [] rm Z (.ref a :: argsL).toArray h Q) {W : Nat} (hf : rm.frames + 1 ≤ R.frames) (hl : W + (maxL + 11) + rm.locals ≤ R.locals)
    {g : JFrame} (hg : g.method = m) (hsize : g.locals.size = c.maxLocals) (hlen : ∀ sig, parseMethodDescriptor y.desc = some sig → argsL.length = sig.parameters.length) (hstack : g.stack = argsL.reverse ++ .ref a :: rest) (hW : 2 * g.monitorRoom + (rest.map fun v => v.category).sum ≤ W)
    (hdg : decode c.code g.pc = .ok (.invokevirtual index, 3)) (hc : cells + rm.cells ≤ R.cells) (hs : slots + rm.slots ≤ R.slots) :
    ∃ (v : Option Value) (T' : State) (L : List Loc), Stand p l e R s m args below meth c T' (locs ++ L) (cells + rm.cells) (slots + rm.slots) ∧ Q v T'.heap L ∧ ∀ target, Steps p.tables e below (T'.setTop { g with pc := g.pc + 3, stack := v.toList ++ rest }) target → Steps p.tables e below (T.setTop g) target := by
  subst eT
  obtain ⟨cq, kq, qa, qb, qc⟩ := isOf hZ rfl E
  obtain ⟨v, _, ⟨T', L', k', n'⟩, -, X', ⟨Lc, hQ, l18, y18, z18⟩, st⟩ := X.virtualBack hx (y := y) (z := y) hown (mvT hZ w1) (mvT hZ w5) (notFace_of_selects (args := #[]) (mvT hZ w6)) (mvT hZ w6) (mvT hZ w2) hy (backOf (W := W) hM hZ w4 w3 hf hl) qa qc hg hsize (Steps.refl _) hlen hstack hW hdg (fun _ _ => ⟨rfl, rfl, hc, hs⟩)
  dsimp only [Pt.U, Pt.locs, Pt.cells, Pt.slots] at X' l18 y18 z18 st hQ
  subst l18 y18 z18
  exact ⟨v, T', Lc, X', hQ, fun _ k => st.trans k⟩
/-- a private instance method by its contract -/
theorem callCp (X : Stand p l e R s m args below meth c T locs cells slots) (hx : p.tables.exec = Jvm.exec) (hZ : Z.Warmed39 s.vm) (eT : T.heap = h) {own : String} {index : Nat} {y : MethodName} {bytes : ByteArray} {maxL k : Nat} {ret : Option FieldType} {rm : Room} {Q : Option Value → Heap → List Loc → Prop} {a : Addr} {argsL rest : List Value}
    (hown : s.vm.findClass own = some m.cls) (w1 : (Cond.methodLink own index y).before a0 Z = true) (w2 : (Cond.instanceMethod y).before a0 Z = true) (w7 : (Cond.privateMethod y).before a0 Z = true) (wi : (Cond.instantiable y.cls k).before a0 Z = true) (w3 : (Cond.initialized y.cls).before a0 Z = true) (w4 : (Cond.code y bytes maxL ret).before a0 Z = true)
    (hy : y.cls ≠ "java/lang/invoke/MethodHandle" ∧ y.cls ≠ "java/lang/invoke/VarHandle") (E : Exa Z h a y.cls) (hM : Ct l y bytes maxL ret [] rm Z (.ref a :: argsL).toArray h Q) {W : Nat} (hf : rm.frames + 1 ≤ R.frames) (hl : W + (maxL + 11) + rm.locals ≤ R.locals)
    {g : JFrame} (hg : g.method = m) (hsize : g.locals.size = c.maxLocals) (hlen : ∀ sig, parseMethodDescriptor y.desc = some sig → argsL.length = sig.parameters.length) (hstack : g.stack = argsL.reverse ++ .ref a :: rest) (hW : 2 * g.monitorRoom + (rest.map fun v => v.category).sum ≤ W)
    (hdg : decode c.code g.pc = .ok (.invokevirtual index, 3)) (hc : cells + rm.cells ≤ R.cells) (hs : slots + rm.slots ≤ R.slots) :
    ∃ (v : Option Value) (T' : State) (L : List Loc), Stand p l e R s m args below meth c T' (locs ++ L) (cells + rm.cells) (slots + rm.slots) ∧ Q v T'.heap L ∧ ∀ target, Steps p.tables e below (T'.setTop { g with pc := g.pc + 3, stack := v.toList ++ rest }) target → Steps p.tables e below (T.setTop g) target := by
  subst eT
  obtain ⟨cq, q1, q2⟩ := E.cell
  have hpriv : s.PrivateAt y := Cond.privateMethod_at (mvP hZ w7 (args := #[]))
  obtain ⟨cc, kk, i1, i2, -, i4, -⟩ := Cond.instantiable_spec (mvT (args := args) hZ wi)
  have hni : kk.isInterface = false := by simp only [Bool.or_eq_false_iff] at i4; exact i4.1
  have hsel := selects_self_of_private (args := args) i1 i2 hni hpriv (mvT hZ w2) hy
  obtain ⟨v, _, ⟨T', L', k', n'⟩, -, X', ⟨Lc, hQ, l18, y18, z18⟩, st⟩ := X.privateBack hx (y := y) hown (mvT hZ w1) (mvT hZ w2) hsel hpriv (mvT hZ w4) hy (backOf (W := W) hM hZ w4 w3 hf hl) hg hsize (Steps.refl _) q1 q2 hlen hstack hW hdg (fun _ _ => ⟨rfl, rfl, hc, hs⟩)
  dsimp only [Pt.U, Pt.locs, Pt.cells, Pt.slots] at X' l18 y18 z18 st hQ
  subst l18 y18 z18
  exact ⟨v, T', Lc, X', hQ, fun _ k => st.trans k⟩
end OwnGo
end Jvm.RoadKit
namespace Jvm.RoadKit
open Sem ClassFile Op Lib Jvm.Stand Jvm.Free Jvm.LawKit
section OwnAry
variable {p : Program} {l : Launch} {e : Env} {R : Room} {s : State} {m : MethodId} {args : Array Value} {below : List Frame} {meth : Method} {c : Code} {T : State} {locs : List Loc} {cells slots : Nat} {Z : State} {a0 : Array Value} {h h' : Heap} {a b : Addr} {ws : List Addr}
/-- the int j is the natural i -/
def IsN (j : Int32) (i : Nat) : Prop := ¬ j < 0 ∧ j.toNatClampNeg = i
def updN {α : Type} (f : Nat → α) (i : Nat) (x : α) : Nat → α := fun k => if k = i then x else f k
theorem updN_hit {α : Type} (f : Nat → α) (i : Nat) (x : α) : updN f i x i = x := if_pos rfl
theorem updN_miss {α : Type} {f : Nat → α} {i k : Nat} {x : α} (q : k ≠ i) : updN f i x k = f k := if_neg q
theorem isN_ofNat {n : Nat} (q : n < 2 ^ 31) : IsN (Int32.ofNat n) n := by
  have e : (Int32.ofNat n).toInt = n := len_toInt q
  exact ⟨by simp only [Int32.lt_iff_toInt_lt, e, Int32.reduceToInt]; omega, by simp only [Int32.toNatClampNeg, e]; omega⟩
theorem isN_of {j : Int32} {n : Nat} (q : j.toInt = n) : IsN j n :=
  ⟨by simp only [Int32.lt_iff_toInt_lt, q, Int32.reduceToInt]; omega, by simp only [Int32.toNatClampNeg, q]; omega⟩
theorem IsN.toInt {j : Int32} {n : Nat} (q : IsN j n) : j.toInt = n := by
  obtain ⟨q1, q2⟩ := q
  simp only [Int32.lt_iff_toInt_lt, Int32.reduceToInt, Int32.toNatClampNeg] at q1 q2; omega
/-- the array at a: of ty, n places; the place i holds mk (f i) -/
def Ary {α : Type} (Z : State) (h : Heap) (a : Addr) (ty : FieldType) (mk : α → Value) (n : Nat) (f : Nat → α) : Prop := ∃ c : Cell, Arr Z h a c ty ∧ c.slots.size = n ∧ n < 2 ^ 31 ∧ ∀ i, i < n → c.slots[i]? = some (mk (f i))
variable {α : Type} {ty : FieldType} {mk : α → Value} {n : Nat} {f f' : Nat → α}
theorem Ary.lt (V : Ary Z h a ty mk n f) : a < h.size := by obtain ⟨c, A, -⟩ := V; exact A.lt
theorem Ary.ext (V : Ary Z h a ty mk n f) (E : Ext h h') : Ary Z h' a ty mk n f := by obtain ⟨c, A, r⟩ := V; exact ⟨c, A.ext E, r⟩
theorem Ary.other {sl : Nat} {v : Value} (V : Ary Z h b ty mk n f) (W : Wr h h' a sl v) (q : b ≠ a) : Ary Z h' b ty mk n f := by obtain ⟨c, A, r⟩ := V; exact ⟨c, A.other W q, r⟩
theorem Ary.keep (V : Ary Z h a ty mk n f) (K : Keep h h' ws) (q : a ∉ ws) : Ary Z h' a ty mk n f := by obtain ⟨c, A, r⟩ := V; exact ⟨c, ⟨K.2.1 a c A.1 q, A.2⟩, r⟩
theorem Ary.congr (V : Ary Z h a ty mk n f) (q : ∀ i, i < n → f i = f' i) : Ary Z h a ty mk n f' := by
  obtain ⟨c, A, S, B, H⟩ := V; exact ⟨c, A, S, B, fun i hi => by rw [← q i hi]; exact H i hi⟩
theorem Ary.small (V : Ary Z h a ty mk n f) : n < 2 ^ 31 := by obtain ⟨c, A, S, B, H⟩ := V; exact B
theorem Ary.set {i : Nat} {x : α} (V : Ary Z h a ty mk n f) (W : Wr h h' a i (mk x)) : Ary Z h' a ty mk n (updN f i x) := by
  obtain ⟨c, A, S, B, H⟩ := V
  refine ⟨c.setSlot i (mk x), A.same W, by rw [sz_set]; exact S, B, fun k hk => ?_⟩
  by_cases e : k = i
  · subst e
    rw [updN_hit]
    exact Array.getElem?_setIfInBounds_self_of_lt (by omega)
  · rw [updN_miss e]
    exact (Array.getElem?_setIfInBounds_ne (Ne.symm e)).trans (H k hk)
theorem Ary.ne {C : String} {k : Nat} (V : Ary Z h a ty mk n f) (E : Exa Z h b C) (wi : (Cond.instantiable C k).before a0 Z = true) : b ≠ a := by
  obtain ⟨c, A, -⟩ := V; exact ne_arr E wi A
theorem Ary.new {k : ClassId} {z : Int32} {d : α} (A : Arr Z h a (newA k ty z) ty) (hz : IsN z n) (hd : defaultValue ty = mk d) : Ary Z h a ty mk n (fun _ => d) := by
  obtain ⟨h1, rfl⟩ := hz
  exact ⟨_, A, sz_new _ _ _, (back32 h1).2, fun i hi => by simp [newA, hi, hd]⟩
theorem aryLen (X : Stand p l e R s m args below meth c T locs cells slots) (hx : p.tables.exec = Jvm.exec) (hZ : Z.Warmed39 s.vm) (eT : T.heap = h) (V : Ary Z h a ty mk n f) {g : JFrame} (hg : g.method = m) {rest : List Value} (hs : g.stack = .ref a :: rest) (hd : decode c.code g.pc = .ok (.arraylength, 1)) :
    ∀ t, Steps p.tables e below (T.setTop { g with pc := g.pc + 1, stack := .int (Int32.ofNat n) :: rest }) t → Steps p.tables e below (T.setTop g) t := by
  obtain ⟨c', A, S, B, H⟩ := V
  intro t k
  exact X.arraylength hx (by rw [eT]; exact A.1) (State.isArrayOf_alike hZ.alike A.2.1) hg hs hd t (by rw [S]; exact k)
theorem aryLdI {f : Nat → Int32} (X : Stand p l e R s m args below meth c T locs cells slots) (hx : p.tables.exec = Jvm.exec) (hZ : Z.Warmed39 s.vm) (eT : T.heap = h) (V : Ary Z h a .int Value.int n f) {j : Int32} {i : Nat} (hj : IsN j i) (hi : i < n) {g : JFrame} (hg : g.method = m) {rest : List Value} (hs : g.stack = .int j :: .ref a :: rest) (hd : decode c.code g.pc = .ok (.iaload, 1)) :
    ∀ t, Steps p.tables e below (T.setTop { g with pc := g.pc + 1, stack := .int (f i) :: rest }) t → Steps p.tables e below (T.setTop g) t := by
  obtain ⟨c', A, S, B, H⟩ := V
  obtain ⟨h1, rfl⟩ := hj
  exact fun t k => X.iaload hx (by rw [eT]; exact A.1) (State.isArrayOf_alike hZ.alike A.2.1) A.2.2 (fun q => q.elim h1 (fun q => by omega)) (H _ hi) hg hs hd t k
theorem aryLdJ {f : Nat → Int64} (X : Stand p l e R s m args below meth c T locs cells slots) (hx : p.tables.exec = Jvm.exec) (hZ : Z.Warmed39 s.vm) (eT : T.heap = h) (V : Ary Z h a .long Value.long n f) {j : Int32} {i : Nat} (hj : IsN j i) (hi : i < n) {g : JFrame} (hg : g.method = m) {rest : List Value} (hs : g.stack = .int j :: .ref a :: rest) (hd : decode c.code g.pc = .ok (.laload, 1)) :
    ∀ t, Steps p.tables e below (T.setTop { g with pc := g.pc + 1, stack := .long (f i) :: rest }) t → Steps p.tables e below (T.setTop g) t := by
  obtain ⟨c', A, S, B, H⟩ := V
  obtain ⟨h1, rfl⟩ := hj
  exact fun t k => X.laload hx (by rw [eT]; exact A.1) (State.isArrayOf_alike hZ.alike A.2.1) A.2.2 (fun q => q.elim h1 (fun q => by omega)) (H _ hi) hg hs hd t k
theorem aryLdB {f : Nat → Int32} (X : Stand p l e R s m args below meth c T locs cells slots) (hx : p.tables.exec = Jvm.exec) (hZ : Z.Warmed39 s.vm) (eT : T.heap = h) (V : Ary Z h a .byte Value.int n f) {j : Int32} {i : Nat} (hj : IsN j i) (hi : i < n) {g : JFrame} (hg : g.method = m) {rest : List Value} (hs : g.stack = .int j :: .ref a :: rest) (hd : decode c.code g.pc = .ok (.baload, 1)) :
    ∀ t, Steps p.tables e below (T.setTop { g with pc := g.pc + 1, stack := .int (f i) :: rest }) t → Steps p.tables e below (T.setTop g) t := by
  obtain ⟨c', A, S, B, H⟩ := V
  obtain ⟨h1, rfl⟩ := hj
  exact fun t k => X.baloadBytes hx (by rw [eT]; exact A.1) (State.isArrayOf_alike hZ.alike A.2.1) A.2.2 (fun q => q.elim h1 (fun q => by omega)) (H _ hi) hg hs hd t k
theorem aryStI {f : Nat → Int32} (X : Stand p l e R s m args below meth c T locs cells slots) (hx : p.tables.exec = Jvm.exec) (hZ : Z.Warmed39 s.vm) (eT : T.heap = h) (V : Ary Z h a .int Value.int n f) {j x : Int32} {i : Nat} (hj : IsN j i) (hi : i < n) {g : JFrame} (hg : g.method = m) {rest : List Value} (hs : g.stack = .int x :: .int j :: .ref a :: rest) (hd : decode c.code g.pc = .ok (.iastore, 1)) :
    ∃ T' h', Stand p l e R s m args below meth c T' (locs ++ [⟨a, i⟩]) cells slots ∧ T'.heap = h' ∧ Wr h h' a i (.int x) ∧ Ary Z h' a .int Value.int n (updN f i x) ∧ ∀ target, Steps p.tables e below (T'.setTop { g with pc := g.pc + 1, stack := rest }) target → Steps p.tables e below (T.setTop g) target := by
  obtain ⟨c', A, S, B, H⟩ := id V
  obtain ⟨h1, rfl⟩ := hj
  obtain ⟨T', h', X', e', W', st⟩ := stI X hx hZ eT A (fun q => q.elim h1 (fun q => by omega)) hg hs hd
  exact ⟨T', h', X', e', W', V.set (mk := Value.int) W', st⟩
theorem aryStJ {f : Nat → Int64} (X : Stand p l e R s m args below meth c T locs cells slots) (hx : p.tables.exec = Jvm.exec) (hZ : Z.Warmed39 s.vm) (eT : T.heap = h) (V : Ary Z h a .long Value.long n f) {j : Int32} {x : Int64} {i : Nat} (hj : IsN j i) (hi : i < n) {g : JFrame} (hg : g.method = m) {rest : List Value} (hs : g.stack = .long x :: .int j :: .ref a :: rest) (hd : decode c.code g.pc = .ok (.lastore, 1)) :
    ∃ T' h', Stand p l e R s m args below meth c T' (locs ++ [⟨a, i⟩]) cells slots ∧ T'.heap = h' ∧ Wr h h' a i (.long x) ∧ Ary Z h' a .long Value.long n (updN f i x) ∧ ∀ target, Steps p.tables e below (T'.setTop { g with pc := g.pc + 1, stack := rest }) target → Steps p.tables e below (T.setTop g) target := by
  obtain ⟨c', A, S, B, H⟩ := id V
  obtain ⟨h1, rfl⟩ := hj
  obtain ⟨T', h', X', e', W', st⟩ := stJ X hx hZ eT A (fun q => q.elim h1 (fun q => by omega)) hg hs hd
  exact ⟨T', h', X', e', W', V.set (mk := Value.long) W', st⟩
theorem aryStB {f : Nat → Int32} (X : Stand p l e R s m args below meth c T locs cells slots) (hx : p.tables.exec = Jvm.exec) (hZ : Z.Warmed39 s.vm) (eT : T.heap = h) (V : Ary Z h a .byte Value.int n f) {j x : Int32} {i : Nat} (hj : IsN j i) (hi : i < n) {g : JFrame} (hg : g.method = m) {rest : List Value} (hs : g.stack = .int x :: .int j :: .ref a :: rest) (hd : decode c.code g.pc = .ok (.bastore, 1)) :
    ∃ T' h', Stand p l e R s m args below meth c T' (locs ++ [⟨a, i⟩]) cells slots ∧ T'.heap = h' ∧ Wr h h' a i (.int x.toInt8.toInt32) ∧ Ary Z h' a .byte Value.int n (updN f i x.toInt8.toInt32) ∧ ∀ target, Steps p.tables e below (T'.setTop { g with pc := g.pc + 1, stack := rest }) target → Steps p.tables e below (T.setTop g) target := by
  obtain ⟨c', A, S, B, H⟩ := id V
  obtain ⟨h1, rfl⟩ := hj
  obtain ⟨T', h', X', e', W', st⟩ := stB X hx hZ eT A (fun q => q.elim h1 (fun q => by omega)) hg hs hd
  exact ⟨T', h', X', e', W', V.set (mk := Value.int) W', st⟩
theorem aryStZ {f : Nat → Int32} (X : Stand p l e R s m args below meth c T locs cells slots) (hx : p.tables.exec = Jvm.exec) (hZ : Z.Warmed39 s.vm) (eT : T.heap = h) (V : Ary Z h a .boolean Value.int n f) {j x : Int32} {i : Nat} (hj : IsN j i) (hi : i < n) {g : JFrame} (hg : g.method = m) {rest : List Value} (hs : g.stack = .int x :: .int j :: .ref a :: rest) (hd : decode c.code g.pc = .ok (.bastore, 1)) :
    ∃ T' h', Stand p l e R s m args below meth c T' (locs ++ [⟨a, i⟩]) cells slots ∧ T'.heap = h' ∧ Wr h h' a i (.int (x &&& 1)) ∧ Ary Z h' a .boolean Value.int n (updN f i (x &&& 1)) ∧ ∀ target, Steps p.tables e below (T'.setTop { g with pc := g.pc + 1, stack := rest }) target → Steps p.tables e below (T.setTop g) target := by
  obtain ⟨c', A, S, B, H⟩ := id V
  obtain ⟨h1, rfl⟩ := hj
  obtain ⟨T', h', X', e', W', st⟩ := stZ X hx hZ eT A (fun q => q.elim h1 (fun q => by omega)) hg hs hd
  exact ⟨T', h', X', e', W', V.set (mk := Value.int) W', st⟩
end OwnAry
end Jvm.RoadKit
namespace Jvm.Kit
open Jvm.RoadKit
theorem own_gt (x y : Int64) : (0 : Int32) < lcmpW x y ↔ y.toInt < x.toInt := by
  rw [← Int64.lt_iff_toInt_lt]; unfold lcmpW
  by_cases h : y < x
  · simp [h]
  · by_cases h2 : x = y
    · subst h2; simp
    · simp [h, h2]
theorem own_lt (x y : Int64) : lcmpW x y < (0 : Int32) ↔ x.toInt < y.toInt := by
  have e : x.toInt < y.toInt ↔ ¬ y < x ∧ x ≠ y := by
    rw [Int64.lt_iff_toInt_lt, ne_eq, ← Int64.toInt_inj]; omega
  rw [e]; unfold lcmpW
  by_cases h : y < x
  · simp [h]
  · by_cases h2 : x = y
    · subst h2; simp
    · simp [h, h2]
theorem own_ceq (x y : Int64) : lcmpW x y = (0 : Int32) ↔ x = y := by
  unfold lcmpW
  by_cases h : y < x
  · simp [h]; intro q; subst q; exact absurd h (by simp)
  · by_cases h2 : x = y
    · subst h2; simp
    · simp [h, h2]
theorem own_lti {x : Int32} {r : Int32} {k : Int} (e : r.toInt = k) : x < r ↔ x.toInt < k := by rw [Int32.lt_iff_toInt_lt, e]
theorem own_gti {x : Int32} {r : Int32} {k : Int} (e : r.toInt = k) : r < x ↔ k < x.toInt := by rw [Int32.lt_iff_toInt_lt, e]
theorem own_m (a : Int32) : 0 ≤ (a &&& (2147483647 : Int32)).toInt := by
  have h := i32_and_bounds a (m := 2147483647) (by decide)
  rw [Kit.i32_nonneg] at h; exact h.1
theorem own_mk (a : Int32) {k : Int32} {n : Int} (hk : 0 ≤ k) (e : k.toInt = n) : 0 ≤ (a &&& k).toInt ∧ (a &&& k).toInt ≤ n := by
  have h := i32_and_bounds a hk
  rw [Kit.i32_nonneg, Int32.le_iff_toInt_le, e] at h; exact h
theorem own_rem {a b : Int32} (ha : 0 ≤ a.toInt) (hb : 0 < b.toInt) : 0 ≤ (a % b).toInt ∧ (a % b).toInt < b.toInt := by
  rw [i32_rem_nonneg ha]; exact ⟨Int.emod_nonneg _ (by omega), Int.emod_lt_of_pos _ hb⟩
theorem own_one : (1 : Int32).toInt = 1 := by decide
theorem own_zero : (0 : Int32).toInt = 0 := by decide
theorem own_zero64 : (0 : Int64).toInt = 0 := by decide
theorem own_one64 : (1 : Int64).toInt = 1 := by decide
theorem own_nz {a : Int32} (h : 0 < a.toInt) : a ≠ 0 := fun q => by rw [q] at h; exact absurd h (by decide)
end Jvm.Kit
namespace Jvm.Kit
theorem own_succ (i : Nat) : Int32.ofNat i + (1 : Int32) = Int32.ofNat (i + 1) := by rw [Int32.ofNat_add]; rfl
theorem own_tn {n : Nat} (q : n < 2 ^ 31) : (Int32.ofNat n).toInt = n := Jvm.RoadKit.len_toInt q
theorem own_ltN {i n : Nat} (hi : i < 2 ^ 31) (hn : n < 2 ^ 31) : Int32.ofNat i < Int32.ofNat n ↔ i < n := by
  rw [Int32.lt_iff_toInt_lt, own_tn hi, own_tn hn]; omega
theorem own_nat {j : Int32} (h : 0 ≤ j.toInt) : ∃ n : Nat, j = Int32.ofNat n ∧ n < 2 ^ 31 ∧ j.toInt = n := by
  have := j.toInt_lt
  have hn : j.toInt.toNat < 2 ^ 31 := by omega
  exact ⟨j.toInt.toNat, Int32.toInt_inj.mp (by rw [own_tn hn]; omega), hn, by omega⟩
end Jvm.Kit
namespace Jvm.Pilot.@@N@@
open Jvm Jvm.ClassFile Sem Op Lib Jvm.Free Jvm.Stand Jvm.LawKit Jvm.RoadKit Bundle Jvm.Pilot.@@N@@.Jvm.D
open Jvm.Kit
def own_tree (x0 x1 x2 x3 x4 x5 x6 x7 : Int32) : Nat → Int32 := fun i => if i = 1 then x0 else if i = 2 then x0 + x1 else if i = 3 then x2 else if i = 4 then x0 + x1 + x2 + x3 else if i = 5 then x4 else if i = 6 then x4 + x5 else if i = 7 then x6 else if i = 8 then x0 + x1 + x2 + x3 + x4 + x5 + x6 + x7 else 0
def own_IS (Z : State) (h : Heap) (n0 : Nat) (b : Addr) (F : Nat → Int32) : Prop := ∃ (t u : Addr) (g : Nat → Int32), Exa Z h b "com/example/doc_delta/docdelta/formats/IndexSet" ∧ Fld Z h b "com/example/doc_delta/docdelta/formats/IndexSet" "tree" "[I" (.ref t) ∧ Fld Z h b "com/example/doc_delta/docdelta/formats/IndexSet" "members" "[Z" (.ref u) ∧ Ary Z h t .int Value.int 9 F ∧ Ary Z h u .boolean Value.int 8 g ∧ n0 ≤ t ∧ n0 ≤ u ∧ t ≠ u
def own_b (m i : Int32) : Int32 := if ((m >>> (i &&& 31)) &&& (1 : Int32)) = 0 then 0 else 1
def own_bit (m i k : Int32) : Int32 := if i < k then own_b m i else 0
def own_cb (F : Nat → Int32) (k : Nat) : Int32 := if k = 1 then 0 + F 1 else if k = 2 then 0 + F 2 else if k = 3 then 0 + F 3 + F 2 else if k = 4 then 0 + F 4 else if k = 5 then 0 + F 5 + F 4 else if k = 6 then 0 + F 6 + F 4 else if k = 7 then 0 + F 7 + F 6 + F 4 else if k = 8 then 0 + F 8 else 0
theorem own_bits : ∀ j : Fin 256, ∀ k : Fin 8, (((Int32.ofNat j) >>> (Int32.ofNat k &&& 31)) &&& (1 : Int32)) = 0 ↔ (Int32.ofNat j &&& Int32.ofNat (2 ^ (k : Nat))) = 0 := by decide +kernel
theorem own_b0 {j k : Nat} (hj : j < 256) (hk : k < 8) {p q : Int32} (hp : q = Int32.ofNat (2 ^ k)) (hq : p = Int32.ofNat k) (h : (Int32.ofNat j &&& q) = 0) : own_b (Int32.ofNat j) p = 0 := by
  subst hp hq; unfold own_b; rw [if_pos ((own_bits ⟨j, hj⟩ ⟨k, hk⟩).mpr h)]
theorem own_b1 {j k : Nat} (hj : j < 256) (hk : k < 8) {p q : Int32} (hp : q = Int32.ofNat (2 ^ k)) (hq : p = Int32.ofNat k) (h : ¬ (Int32.ofNat j &&& q) = 0) : own_b (Int32.ofNat j) p = 1 := by
  subst hp hq; unfold own_b; rw [if_neg (fun g => h ((own_bits ⟨j, hj⟩ ⟨k, hk⟩).mp g))]
theorem own_m8 (a : Int32) : ∃ j : Nat, a &&& (255 : Int32) = Int32.ofNat j ∧ j < 256 := by
  have h := own_mk a (k := 255) (n := 255) (by decide) (by decide)
  obtain ⟨n, e1, e2, e3⟩ := own_nat h.1
  exact ⟨n, e1, by omega⟩
theorem own_e9 (a : Int32) : ∃ k : Nat, (a &&& (2147483647 : Int32)) % (9 : Int32) = Int32.ofNat k ∧ k < 9 := by
  have q := own_rem (own_m a) (b := 9) (by decide)
  have e : (9 : Int32).toInt = 9 := by decide
  obtain ⟨n, e1, e2, e3⟩ := own_nat q.1
  exact ⟨n, e1, by omega⟩
def own_add0 (F : Nat → Int32) : Nat → Int32 := (updN (updN (updN (updN F 1 (F 1 + (1 : Int32))) 2 (F 2 + (1 : Int32))) 4 (F 4 + (1 : Int32))) 8 (F 8 + (1 : Int32)))
theorem own_add0_eq  : ∀ i, i < 9 → own_add0 (own_tree 0 0 0 0 0 0 0 0) i = own_tree 1 0 0 0 0 0 0 0 i := by
  intro i hi
  rcases (by omega : i = 0 ∨ i = 1 ∨ i = 2 ∨ i = 3 ∨ i = 4 ∨ i = 5 ∨ i = 6 ∨ i = 7 ∨ i = 8) with rfl | rfl | rfl | rfl | rfl | rfl | rfl | rfl | rfl <;> simp [own_add0, updN, own_tree]
def own_add1 (F : Nat → Int32) : Nat → Int32 := (updN (updN (updN F 2 (F 2 + (1 : Int32))) 4 (F 4 + (1 : Int32))) 8 (F 8 + (1 : Int32)))
theorem own_add1_eq (x0 : Int32) : ∀ i, i < 9 → own_add1 (own_tree x0 0 0 0 0 0 0 0) i = own_tree x0 1 0 0 0 0 0 0 i := by
  intro i hi
  rcases (by omega : i = 0 ∨ i = 1 ∨ i = 2 ∨ i = 3 ∨ i = 4 ∨ i = 5 ∨ i = 6 ∨ i = 7 ∨ i = 8) with rfl | rfl | rfl | rfl | rfl | rfl | rfl | rfl | rfl <;> simp [own_add1, updN, own_tree]
def own_add2 (F : Nat → Int32) : Nat → Int32 := (updN (updN (updN F 3 (F 3 + (1 : Int32))) 4 (F 4 + (1 : Int32))) 8 (F 8 + (1 : Int32)))
theorem own_add2_eq (x0 x1 : Int32) : ∀ i, i < 9 → own_add2 (own_tree x0 x1 0 0 0 0 0 0) i = own_tree x0 x1 1 0 0 0 0 0 i := by
  intro i hi
  rcases (by omega : i = 0 ∨ i = 1 ∨ i = 2 ∨ i = 3 ∨ i = 4 ∨ i = 5 ∨ i = 6 ∨ i = 7 ∨ i = 8) with rfl | rfl | rfl | rfl | rfl | rfl | rfl | rfl | rfl <;> simp [own_add2, updN, own_tree]
def own_add3 (F : Nat → Int32) : Nat → Int32 := (updN (updN F 4 (F 4 + (1 : Int32))) 8 (F 8 + (1 : Int32)))
theorem own_add3_eq (x0 x1 x2 : Int32) : ∀ i, i < 9 → own_add3 (own_tree x0 x1 x2 0 0 0 0 0) i = own_tree x0 x1 x2 1 0 0 0 0 i := by
  intro i hi
  rcases (by omega : i = 0 ∨ i = 1 ∨ i = 2 ∨ i = 3 ∨ i = 4 ∨ i = 5 ∨ i = 6 ∨ i = 7 ∨ i = 8) with rfl | rfl | rfl | rfl | rfl | rfl | rfl | rfl | rfl <;> simp [own_add3, updN, own_tree]
def own_add4 (F : Nat → Int32) : Nat → Int32 := (updN (updN (updN F 5 (F 5 + (1 : Int32))) 6 (F 6 + (1 : Int32))) 8 (F 8 + (1 : Int32)))
theorem own_add4_eq (x0 x1 x2 x3 : Int32) : ∀ i, i < 9 → own_add4 (own_tree x0 x1 x2 x3 0 0 0 0) i = own_tree x0 x1 x2 x3 1 0 0 0 i := by
  intro i hi
  rcases (by omega : i = 0 ∨ i = 1 ∨ i = 2 ∨ i = 3 ∨ i = 4 ∨ i = 5 ∨ i = 6 ∨ i = 7 ∨ i = 8) with rfl | rfl | rfl | rfl | rfl | rfl | rfl | rfl | rfl <;> simp [own_add4, updN, own_tree]
def own_add5 (F : Nat → Int32) : Nat → Int32 := (updN (updN F 6 (F 6 + (1 : Int32))) 8 (F 8 + (1 : Int32)))
theorem own_add5_eq (x0 x1 x2 x3 x4 : Int32) : ∀ i, i < 9 → own_add5 (own_tree x0 x1 x2 x3 x4 0 0 0) i = own_tree x0 x1 x2 x3 x4 1 0 0 i := by
  intro i hi
  rcases (by omega : i = 0 ∨ i = 1 ∨ i = 2 ∨ i = 3 ∨ i = 4 ∨ i = 5 ∨ i = 6 ∨ i = 7 ∨ i = 8) with rfl | rfl | rfl | rfl | rfl | rfl | rfl | rfl | rfl <;> simp [own_add5, updN, own_tree]
def own_add6 (F : Nat → Int32) : Nat → Int32 := (updN (updN F 7 (F 7 + (1 : Int32))) 8 (F 8 + (1 : Int32)))
theorem own_add6_eq (x0 x1 x2 x3 x4 x5 : Int32) : ∀ i, i < 9 → own_add6 (own_tree x0 x1 x2 x3 x4 x5 0 0) i = own_tree x0 x1 x2 x3 x4 x5 1 0 i := by
  intro i hi
  rcases (by omega : i = 0 ∨ i = 1 ∨ i = 2 ∨ i = 3 ∨ i = 4 ∨ i = 5 ∨ i = 6 ∨ i = 7 ∨ i = 8) with rfl | rfl | rfl | rfl | rfl | rfl | rfl | rfl | rfl <;> simp [own_add6, updN, own_tree]
def own_add7 (F : Nat → Int32) : Nat → Int32 := (updN F 8 (F 8 + (1 : Int32)))
theorem own_add7_eq (x0 x1 x2 x3 x4 x5 x6 : Int32) : ∀ i, i < 9 → own_add7 (own_tree x0 x1 x2 x3 x4 x5 x6 0) i = own_tree x0 x1 x2 x3 x4 x5 x6 1 i := by
  intro i hi
  rcases (by omega : i = 0 ∨ i = 1 ∨ i = 2 ∨ i = 3 ∨ i = 4 ∨ i = 5 ∨ i = 6 ∨ i = 7 ∨ i = 8) with rfl | rfl | rfl | rfl | rfl | rfl | rfl | rfl | rfl <;> simp [own_add7, updN, own_tree]
theorem own_fin (j k : Nat) (hk : k < 9) : own_cb (own_tree (own_b (Int32.ofNat j) (0 : Int32)) (own_b (Int32.ofNat j) (1 : Int32)) (own_b (Int32.ofNat j) (2 : Int32)) (own_b (Int32.ofNat j) (3 : Int32)) (own_b (Int32.ofNat j) (4 : Int32)) (own_b (Int32.ofNat j) (5 : Int32)) (own_b (Int32.ofNat j) (6 : Int32)) (own_b (Int32.ofNat j) (7 : Int32))) k = own_bit (Int32.ofNat j) (0 : Int32) (Int32.ofNat k) + own_bit (Int32.ofNat j) (1 : Int32) (Int32.ofNat k) + own_bit (Int32.ofNat j) (2 : Int32) (Int32.ofNat k) + own_bit (Int32.ofNat j) (3 : Int32) (Int32.ofNat k) + own_bit (Int32.ofNat j) (4 : Int32) (Int32.ofNat k) + own_bit (Int32.ofNat j) (5 : Int32) (Int32.ofNat k) + own_bit (Int32.ofNat j) (6 : Int32) (Int32.ofNat k) + own_bit (Int32.ofNat j) (7 : Int32) (Int32.ofNat k) := by
  unfold own_bit
  generalize hb0 : own_b (Int32.ofNat j) (0 : Int32) = x0
  generalize hb1 : own_b (Int32.ofNat j) (1 : Int32) = x1
  generalize hb2 : own_b (Int32.ofNat j) (2 : Int32) = x2
  generalize hb3 : own_b (Int32.ofNat j) (3 : Int32) = x3
  generalize hb4 : own_b (Int32.ofNat j) (4 : Int32) = x4
  generalize hb5 : own_b (Int32.ofNat j) (5 : Int32) = x5
  generalize hb6 : own_b (Int32.ofNat j) (6 : Int32) = x6
  generalize hb7 : own_b (Int32.ofNat j) (7 : Int32) = x7
  rcases (by omega : k = 0 ∨ k = 1 ∨ k = 2 ∨ k = 3 ∨ k = 4 ∨ k = 5 ∨ k = 6 ∨ k = 7 ∨ k = 8) with rfl | rfl | rfl | rfl | rfl | rfl | rfl | rfl | rfl
  · rw [show Int32.ofNat 0 = (0 : Int32) from rfl]; simp [own_cb, own_tree]
  · rw [show Int32.ofNat 1 = (1 : Int32) from rfl]; simp [own_cb, own_tree]
  · rw [show Int32.ofNat 2 = (2 : Int32) from rfl]; simp [own_cb, own_tree]; try ac_rfl
  · rw [show Int32.ofNat 3 = (3 : Int32) from rfl]; simp [own_cb, own_tree]; try ac_rfl
  · rw [show Int32.ofNat 4 = (4 : Int32) from rfl]; simp [own_cb, own_tree]; try ac_rfl
  · rw [show Int32.ofNat 5 = (5 : Int32) from rfl]; simp [own_cb, own_tree]; try ac_rfl
  · rw [show Int32.ofNat 6 = (6 : Int32) from rfl]; simp [own_cb, own_tree]; try ac_rfl
  · rw [show Int32.ofNat 7 = (7 : Int32) from rfl]; simp [own_cb, own_tree]; try ac_rfl
  · rw [show Int32.ofNat 8 = (8 : Int32) from rfl]; simp [own_cb, own_tree]; try ac_rfl
theorem d_method_2_0 : decode method_2_code 0 = .ok (.iload_n 1, 1) := by decide +kernel
theorem d_method_2_1 : decode method_2_code 1 = .ok (.iload_n 2, 1) := by decide +kernel
theorem d_method_2_2 : decode method_2_code 2 = .ok (.if_icmp .ge 13, 3) := by decide +kernel
theorem d_method_2_5 : decode method_2_code 5 = .ok (.iload_n 0, 1) := by decide +kernel
theorem d_method_2_6 : decode method_2_code 6 = .ok (.iload_n 1, 1) := by decide +kernel
theorem d_method_2_7 : decode method_2_code 7 = .ok (.ishr, 1) := by decide +kernel
theorem d_method_2_8 : decode method_2_code 8 = .ok (.iconst 1, 1) := by decide +kernel
theorem d_method_2_9 : decode method_2_code 9 = .ok (.iand, 1) := by decide +kernel
theorem d_method_2_10 : decode method_2_code 10 = .ok (.ifCond .eq 5, 3) := by decide +kernel
theorem d_method_2_15 : decode method_2_code 15 = .ok (.iconst 0, 1) := by decide +kernel
theorem d_method_2_16 : decode method_2_code 16 = .ok (.ireturn, 1) := by decide +kernel
theorem d_method_2_13 : decode method_2_code 13 = .ok (.iconst 1, 1) := by decide +kernel
theorem d_method_2_14 : decode method_2_code 14 = .ok (.ireturn, 1) := by decide +kernel
theorem pn_0 : plainName "com/example/doc_delta/docdelta/formats/IndexSetCountBeforePinLaw" = true := by first | (simp [plainName, overriddenIn]; done) | decide +kernel
theorem ef_rmBit (m : MethodId) (q : Int32) (i : Int32) (k : Int32) : entryFrame m #[(.int q), (.int i), (.int k)] 3 = mkF m 0 #[.val (.int q), .val (.int i), .val (.int k)] [] := by first | (simp [entryFrame, mkF, argsToLocals, Value.category]; done) | rfl
set_option maxRecDepth 65536 in
set_option maxHeartbeats 40000000 in
theorem rmBit (l : Launch) (Z : State) (a0 : Array Value) (hw : ∀ d ∈ tables_1, d.before a0 Z = true) (q : Int32) (i : Int32) (k : Int32)  (h0 : Heap) (n0 : Nat) (Z0 : n0 ≤ h0.size)  :
    Ct l (⟨"com/example/doc_delta/docdelta/formats/IndexSetCountBeforePinLaw", "bit", "(III)I"⟩ : MethodName) method_2_code 3 (some .int) [] ({ frames := 0, cells := 0, slots := 0, locals := 0 } : Room) Z #[(.int q), (.int i), (.int k)] h0 (fun v h L => v = some (.int (own_bit q i k)) ∧ Fr n0 L ∧ h = h0) := by
  refine Ct.of (plainFor_of_name pn_0) (fun m => ef_rmBit m q i k) ?_
  intro p e s m below meth c T0 X0 hx hby hml hret hlk hown hnm hZ e0 P hP
  refine Go.st (fun _ kt => XS.iloadN X0.here hx rfl (hb hby d_method_2_0) rfl (XS.iloadN X0.here hx rfl (hb hby d_method_2_1) rfl kt)) ?_
  show Go p e below P (T0.setTop (mkF m 2 #[.val (.int q), .val (.int i), .val (.int k)] [(.int k), (.int i)]))
  by_cases br1 : i < k
  · refine Go.st (fun _ kt => XS.icmpNo X0.here hx rfl (hb hby d_method_2_2) rfl (tlt br1).2.1 kt) ?_
    show Go p e below P (T0.setTop (mkF m 5 #[.val (.int q), .val (.int i), .val (.int k)] []))
    refine Go.st (fun _ kt => XS.iloadN X0.here hx rfl (hb hby d_method_2_5) rfl (XS.iloadN X0.here hx rfl (hb hby d_method_2_6) rfl (XS.ishr X0.here hx rfl (hb hby d_method_2_7) rfl (XS.iconst X0.here hx rfl (hb hby d_method_2_8) (XS.iand X0.here hx rfl (hb hby d_method_2_9) rfl kt))))) ?_
    show Go p e below P (T0.setTop (mkF m 10 #[.val (.int q), .val (.int i), .val (.int k)] [(.int ((q >>> (i &&& 31)) &&& (1 : Int32)))]))
    by_cases br2 : ((q >>> (i &&& 31)) &&& (1 : Int32)) = (0 : Int32)
    · refine Go.st (fun _ kt => XS.ifYes X0.here hx rfl (pc0 := 10) (pc' := 15) rfl (hb hby d_method_2_10) rfl ((if0 _ _).trans (teq br2).1) (by decide) (by decide) kt) ?_
      show Go p e below P (T0.setTop (mkF m 15 #[.val (.int q), .val (.int i), .val (.int k)] []))
      refine Go.st (fun _ kt => XS.iconst X0.here hx rfl (hb hby d_method_2_15) kt) ?_
      show Go p e below P (T0.setTop (mkF m 16 #[.val (.int q), .val (.int i), .val (.int k)] [(.int (0 : Int32))]))
      exact goI X0 hx hret hlk (hb hby d_method_2_16) hP (by decide) (by decide) ⟨by simp [own_bit, own_b, br1, br2], (Fr.nil n0), e0⟩
    · refine Go.st (fun _ kt => XS.ifNo X0.here hx rfl (hb hby d_method_2_10) rfl ((if0 _ _).trans (feq br2).1) kt) ?_
      show Go p e below P (T0.setTop (mkF m 13 #[.val (.int q), .val (.int i), .val (.int k)] []))
      refine Go.st (fun _ kt => XS.iconst X0.here hx rfl (hb hby d_method_2_13) kt) ?_
      show Go p e below P (T0.setTop (mkF m 14 #[.val (.int q), .val (.int i), .val (.int k)] [(.int (1 : Int32))]))
      exact goI X0 hx hret hlk (hb hby d_method_2_14) hP (by decide) (by decide) ⟨by simp [own_bit, own_b, br1, br2], (Fr.nil n0), e0⟩
  · refine Go.st (fun _ kt => XS.icmpYes X0.here hx rfl (pc0 := 2) (pc' := 15) rfl (hb hby d_method_2_2) rfl (flt br1).2.1 (by decide) (by decide) kt) ?_
    show Go p e below P (T0.setTop (mkF m 15 #[.val (.int q), .val (.int i), .val (.int k)] []))
    refine Go.st (fun _ kt => XS.iconst X0.here hx rfl (hb hby d_method_2_15) kt) ?_
    show Go p e below P (T0.setTop (mkF m 16 #[.val (.int q), .val (.int i), .val (.int k)] [(.int (0 : Int32))]))
    exact goI X0 hx hret hlk (hb hby d_method_2_16) hP (by decide) (by decide) ⟨by simp [own_bit, own_b, br1], (Fr.nil n0), e0⟩
theorem d_prog_13_method_1_0 : decode prog_13_method_1_code 0 = .ok (.aload_n 0, 1) := by decide +kernel
theorem d_prog_13_method_1_1 : decode prog_13_method_1_code 1 = .ok (.invokespecial 1, 3) := by decide +kernel
theorem d_prog_13_method_1_4 : decode prog_13_method_1_code 4 = .ok (.aload_n 0, 1) := by decide +kernel
theorem d_prog_13_method_1_5 : decode prog_13_method_1_code 5 = .ok (.iload_n 1, 1) := by decide +kernel
theorem d_prog_13_method_1_6 : decode prog_13_method_1_code 6 = .ok (.newarray .boolean, 2) := by decide +kernel
theorem d_prog_13_method_1_8 : decode prog_13_method_1_code 8 = .ok (.putfield 7, 3) := by decide +kernel
theorem d_prog_13_method_1_11 : decode prog_13_method_1_code 11 = .ok (.aload_n 0, 1) := by decide +kernel
theorem d_prog_13_method_1_12 : decode prog_13_method_1_code 12 = .ok (.iload_n 1, 1) := by decide +kernel
theorem d_prog_13_method_1_13 : decode prog_13_method_1_code 13 = .ok (.iconst 1, 1) := by decide +kernel
theorem d_prog_13_method_1_14 : decode prog_13_method_1_code 14 = .ok (.iadd, 1) := by decide +kernel
theorem d_prog_13_method_1_15 : decode prog_13_method_1_code 15 = .ok (.newarray .int, 2) := by decide +kernel
theorem d_prog_13_method_1_17 : decode prog_13_method_1_code 17 = .ok (.putfield 13, 3) := by decide +kernel
theorem d_prog_13_method_1_20 : decode prog_13_method_1_code 20 = .ok (.return_, 1) := by decide +kernel
theorem pn_1 : plainName "com/example/doc_delta/docdelta/formats/IndexSet" = true := by first | (simp [plainName, overriddenIn]; done) | decide +kernel
theorem ef_rmI (m : MethodId) (b : Addr) : entryFrame m #[(.ref b), (.int (8 : Int32))] 2 = mkF m 0 #[.val (.ref b), .val (.int (8 : Int32))] [] := by first | (simp [entryFrame, mkF, argsToLocals, Value.category]; done) | rfl
set_option maxRecDepth 65536 in
set_option maxHeartbeats 40000000 in
theorem rmI (l : Launch) (Z : State) (a0 : Array Value) (hw : ∀ d ∈ tables_1, d.before a0 Z = true) (b : Addr)  (h0 : Heap) (n0 : Nat) (Z0 : n0 ≤ h0.size) (Eb : Exa Z h0 b "com/example/doc_delta/docdelta/formats/IndexSet") (Ft : Fld Z h0 b "com/example/doc_delta/docdelta/formats/IndexSet" "tree" "[I" .null) (Fm : Fld Z h0 b "com/example/doc_delta/docdelta/formats/IndexSet" "members" "[Z" .null) (Gb : n0 ≤ b) :
    Ct l (⟨"com/example/doc_delta/docdelta/formats/IndexSet", "<init>", "(I)V"⟩ : MethodName) prog_13_method_1_code 2 none [] ({ frames := 1, cells := 2, slots := 17, locals := 12 } : Room) Z #[(.ref b), (.int (8 : Int32))] h0 (fun v h L => v = none ∧ Fr n0 L ∧ Keep h0 h [b] ∧ own_IS Z h n0 b (fun _ => (0 : Int32))) := by
  refine Ct.of (plainFor_of_name pn_1) (fun m => ef_rmI m b) ?_
  intro p e s m below meth c T0 X0 hx hby hml hret hlk hown hnm hZ e0 P hP
  refine Go.st (fun _ kt => XS.aloadN X0.here hx rfl (hb hby d_prog_13_method_1_0) rfl rfl kt) ?_
  show Go p e below P (T0.setTop (mkF m 1 #[.val (.ref b), .val (.int (8 : Int32))] [(.ref b)]))
  obtain ⟨T1, X1, e1, st1⟩ := initO X0 hx hZ hown (hw _ (List.mem_of_getElem? (i := 7) rfl)) (hw _ (List.mem_of_getElem? (i := 8) rfl)) (hw _ (List.mem_of_getElem? (i := 9) rfl)) e0 (g := (mkF m 1 #[.val (.ref b), .val (.int (8 : Int32))] [(.ref b)])) rfl (by rw [hml]; rfl) rfl (hb hby d_prog_13_method_1_1) (by decide) (W := 0) (by show 2 * 0 + _ ≤ _; exact Nat.le_of_eq rfl) (by decide)
  refine Go.st st1 ?_
  show Go p e below P (T1.setTop (mkF m 4 #[.val (.ref b), .val (.int (8 : Int32))] []))
  refine Go.st (fun _ kt => XS.aloadN X1.here hx rfl (hb hby d_prog_13_method_1_4) rfl rfl (XS.iloadN X1.here hx rfl (hb hby d_prog_13_method_1_5) rfl kt)) ?_
  show Go p e below P (T1.setTop (mkF m 6 #[.val (.ref b), .val (.int (8 : Int32))] [(.int (8 : Int32)), (.ref b)]))
  have hz2 : IsN (8 : Int32) 8 := ⟨by decide, by decide⟩
  obtain ⟨T2, h2, k2, X2, e2, E2, A2, st2⟩ := newP X1 hx hZ (hw _ (List.mem_of_getElem? (i := 10) rfl)) e1 (g := (mkF m 6 #[.val (.ref b), .val (.int (8 : Int32))] [(.int (8 : Int32)), (.ref b)])) rfl (hb hby d_prog_13_method_1_6) rfl hz2.1 (cap := 8) (by rw [hz2.2]; exact (by decide)) (by decide) (by decide) (by decide)
  obtain ⟨b2, g2⟩ : ∃ z, z = h0.size := ⟨_, rfl⟩
  rw [← g2] at A2 st2
  have ne3 : b ≠ b2 := Nat.ne_of_lt (Nat.lt_of_lt_of_le Eb.lt (Nat.le_of_eq g2.symm))
  have G2 : n0 ≤ b2 := Nat.le_trans Z0 (Nat.le_of_eq g2.symm)
  have SZ2 : h0.size ≤ b2 := Nat.le_trans (Keep.refl h0 [b]).1 (Nat.le_of_eq g2.symm)
  have V2 : Ary Z h2 b2 .boolean Value.int 8 (fun _ => (0 : Int32)) := Ary.new A2 hz2 rfl
  have K4 := Keep.ext (Keep.refl h0 [b]) E2
  have Z5 := Nat.le_trans Z0 E2.1
  refine Go.st st2 ?_
  show Go p e below P (T2.setTop (mkF m 8 #[.val (.ref b), .val (.int (8 : Int32))] [(.ref b2), (.ref b)]))
  have f7 := (Fm.ext E2)
  have f8 := (Eb.ext E2)
  obtain ⟨T6, h6, X6, e6, W6, st6⟩ := putF X2 hx hZ hown (host := "") (Or.inl (hw _ (List.mem_of_getElem? (i := 11) rfl))) Via.refl e2 f7 f8 (Or.inr ⟨(hw _ (List.mem_of_getElem? (i := 12) rfl)), rfl, hnm⟩) (hw _ (List.mem_of_getElem? (i := 2) rfl)) (ty := (.array .boolean)) (by decide) rfl rfl (g := (mkF m 8 #[.val (.ref b), .val (.int (8 : Int32))] [(.ref b2), (.ref b)])) rfl rfl (hb hby d_prog_13_method_1_8)
  have Fw6 := Fld.same W6 f7
  have K9 := Keep.wr K4 W6 (Or.inl (List.mem_of_getElem? (i := 0) rfl))
  have Z10 : n0 ≤ h6.size := by rw [W6.size]; exact Z5
  have N11 := Fr.snoc X6 (Fr.nil n0) Gb
  refine Go.st st6 ?_
  show Go p e below P (T6.setTop (mkF m 11 #[.val (.ref b), .val (.int (8 : Int32))] []))
  refine Go.st (fun _ kt => XS.aloadN X6.here hx rfl (hb hby d_prog_13_method_1_11) rfl rfl (XS.iloadN X6.here hx rfl (hb hby d_prog_13_method_1_12) rfl (XS.iconst X6.here hx rfl (hb hby d_prog_13_method_1_13) (XS.iadd X6.here hx rfl (hb hby d_prog_13_method_1_14) rfl kt)))) ?_
  show Go p e below P (T6.setTop (mkF m 15 #[.val (.ref b), .val (.int (8 : Int32))] [(.int ((8 : Int32) + (1 : Int32))), (.ref b)]))
  have hz12 : IsN ((8 : Int32) + (1 : Int32)) 9 := ⟨by decide, by decide⟩
  obtain ⟨T12, h12, k12, X12, e12, E12, A12, st12⟩ := newP X6 hx hZ (hw _ (List.mem_of_getElem? (i := 13) rfl)) e6 (g := (mkF m 15 #[.val (.ref b), .val (.int (8 : Int32))] [(.int ((8 : Int32) + (1 : Int32))), (.ref b)])) rfl (hb hby d_prog_13_method_1_15) rfl hz12.1 (cap := 9) (by rw [hz12.2]; exact (by decide)) (by decide) (by decide) (by decide)
  obtain ⟨b12, g12⟩ : ∃ z, z = h6.size := ⟨_, rfl⟩
  rw [← g12] at A12 st12
  have f14 := (f8.wr W6)
  have ne13 : b ≠ b12 := Nat.ne_of_lt (Nat.lt_of_lt_of_le f14.lt (Nat.le_of_eq g12.symm))
  have f16 := (V2.other W6 (Ne.symm ne3))
  have ne15 : b2 ≠ b12 := Nat.ne_of_lt (Nat.lt_of_lt_of_le f16.lt (Nat.le_of_eq g12.symm))
  have G12 : n0 ≤ b12 := Nat.le_trans Z10 (Nat.le_of_eq g12.symm)
  have SZ12 : h0.size ≤ b12 := Nat.le_trans K9.1 (Nat.le_of_eq g12.symm)
  have V12 : Ary Z h12 b12 .int Value.int 9 (fun _ => (0 : Int32)) := Ary.new A12 hz12 rfl
  have K17 := Keep.ext K9 E12
  have Z18 := Nat.le_trans Z10 E12.1
  refine Go.st st12 ?_
  show Go p e below P (T12.setTop (mkF m 17 #[.val (.ref b), .val (.int (8 : Int32))] [(.ref b12), (.ref b)]))
  have f20 := (((Ft.ext E2).other W6 (Or.inr (slot_ne (Or.inr (hw _ (List.mem_of_getElem? (i := 15) rfl))) (Or.inr (hw _ (List.mem_of_getElem? (i := 12) rfl))) (by decide) (t := (.array .int)) (t' := (.array .boolean)) (by decide) (by decide)))).ext E12)
  have f21 := (f14.ext E12)
  obtain ⟨T19, h19, X19, e19, W19, st19⟩ := putF X12 hx hZ hown (host := "") (Or.inl (hw _ (List.mem_of_getElem? (i := 14) rfl))) Via.refl e12 f20 f21 (Or.inr ⟨(hw _ (List.mem_of_getElem? (i := 15) rfl)), rfl, hnm⟩) (hw _ (List.mem_of_getElem? (i := 2) rfl)) (ty := (.array .int)) (by decide) rfl rfl (g := (mkF m 17 #[.val (.ref b), .val (.int (8 : Int32))] [(.ref b12), (.ref b)])) rfl rfl (hb hby d_prog_13_method_1_17)
  have Fw19 := Fld.same W19 f20
  have K22 := Keep.wr K17 W19 (Or.inl (List.mem_of_getElem? (i := 0) rfl))
  have Z23 : n0 ≤ h19.size := by rw [W19.size]; exact Z18
  have N24 := Fr.snoc X19 N11 Gb
  refine Go.st st19 ?_
  show Go p e below P (T19.setTop (mkF m 20 #[.val (.ref b), .val (.int (8 : Int32))] []))
  have f25 := (f21.wr W19)
  have f26 := ((Fw6.ext E12).other W19 (Or.inr (slot_ne (Or.inr (hw _ (List.mem_of_getElem? (i := 12) rfl))) (Or.inr (hw _ (List.mem_of_getElem? (i := 15) rfl))) (by decide) (t := (.array .boolean)) (t' := (.array .int)) (by decide) (by decide))))
  have f27 := (V12.other W19 (Ne.symm ne13))
  have f28 := ((f16.ext E12).other W19 (Ne.symm ne3))
  exact goV X19 hx hret hlk (hb hby d_prog_13_method_1_20) hP (by decide) (by decide) (by rw [e19]; exact ⟨rfl, N24, K22, b12, b2, _, f25, Fw19, f26, f27, f28, G12, G2, (Ne.symm ne15)⟩)
theorem d_prog_13_method_5_0 : decode prog_13_method_5_code 0 = .ok (.iload_n 1, 1) := by decide +kernel
theorem d_prog_13_method_5_1 : decode prog_13_method_5_code 1 = .ok (.iconst 1, 1) := by decide +kernel
theorem d_prog_13_method_5_2 : decode prog_13_method_5_code 2 = .ok (.iadd, 1) := by decide +kernel
theorem d_prog_13_method_5_3 : decode prog_13_method_5_code 3 = .ok (.istore_n 3, 1) := by decide +kernel
theorem d_prog_13_method_5_4 : decode prog_13_method_5_code 4 = .ok (.iload_n 3, 1) := by decide +kernel
theorem d_prog_13_method_5_5 : decode prog_13_method_5_code 5 = .ok (.aload_n 0, 1) := by decide +kernel
theorem d_prog_13_method_5_6 : decode prog_13_method_5_code 6 = .ok (.getfield 13, 3) := by decide +kernel
theorem d_prog_13_method_5_9 : decode prog_13_method_5_code 9 = .ok (.arraylength, 1) := by decide +kernel
theorem d_prog_13_method_5_10 : decode prog_13_method_5_code 10 = .ok (.if_icmp .ge 23, 3) := by decide +kernel
theorem d_prog_13_method_5_13 : decode prog_13_method_5_code 13 = .ok (.aload_n 0, 1) := by decide +kernel
theorem d_prog_13_method_5_14 : decode prog_13_method_5_code 14 = .ok (.getfield 13, 3) := by decide +kernel
theorem d_prog_13_method_5_17 : decode prog_13_method_5_code 17 = .ok (.iload_n 3, 1) := by decide +kernel
theorem d_prog_13_method_5_18 : decode prog_13_method_5_code 18 = .ok (.dup2, 1) := by decide +kernel
theorem d_prog_13_method_5_19 : decode prog_13_method_5_code 19 = .ok (.iaload, 1) := by decide +kernel
theorem d_prog_13_method_5_20 : decode prog_13_method_5_code 20 = .ok (.iload_n 2, 1) := by decide +kernel
theorem d_prog_13_method_5_21 : decode prog_13_method_5_code 21 = .ok (.iadd, 1) := by decide +kernel
theorem d_prog_13_method_5_22 : decode prog_13_method_5_code 22 = .ok (.iastore, 1) := by decide +kernel
theorem d_prog_13_method_5_23 : decode prog_13_method_5_code 23 = .ok (.iload_n 3, 1) := by decide +kernel
theorem d_prog_13_method_5_24 : decode prog_13_method_5_code 24 = .ok (.iload_n 3, 1) := by decide +kernel
theorem d_prog_13_method_5_25 : decode prog_13_method_5_code 25 = .ok (.iload_n 3, 1) := by decide +kernel
theorem d_prog_13_method_5_26 : decode prog_13_method_5_code 26 = .ok (.ineg, 1) := by decide +kernel
theorem d_prog_13_method_5_27 : decode prog_13_method_5_code 27 = .ok (.iand, 1) := by decide +kernel
theorem d_prog_13_method_5_28 : decode prog_13_method_5_code 28 = .ok (.iadd, 1) := by decide +kernel
theorem d_prog_13_method_5_29 : decode prog_13_method_5_code 29 = .ok (.istore_n 3, 1) := by decide +kernel
theorem d_prog_13_method_5_30 : decode prog_13_method_5_code 30 = .ok (.goto (-26), 3) := by decide +kernel
theorem d_prog_13_method_5_33 : decode prog_13_method_5_code 33 = .ok (.return_, 1) := by decide +kernel
theorem ef_rmCnt0 (m : MethodId) (b : Addr) : entryFrame m #[(.ref b), (.int (0 : Int32)), (.int (1 : Int32))] 4 = mkF m 0 #[.val (.ref b), .val (.int (0 : Int32)), .val (.int (1 : Int32)), .unset] [] := by first | (simp [entryFrame, mkF, argsToLocals, Value.category]; done) | rfl
set_option maxRecDepth 65536 in
set_option maxHeartbeats 40000000 in
theorem rmCnt0 (l : Launch) (Z : State) (a0 : Array Value) (hw : ∀ d ∈ tables_1, d.before a0 Z = true) (b : Addr) (t : Addr) (F : Nat → Int32) (h0 : Heap) (n0 : Nat) (Z0 : n0 ≤ h0.size) (Eb : Exa Z h0 b "com/example/doc_delta/docdelta/formats/IndexSet") (Ft : Fld Z h0 b "com/example/doc_delta/docdelta/formats/IndexSet" "tree" "[I" (.ref t)) (Vt : Ary Z h0 t .int Value.int 9 F) (Gt : n0 ≤ t) :
    Ct l (⟨"com/example/doc_delta/docdelta/formats/IndexSet", "count", "(II)V"⟩ : MethodName) prog_13_method_5_code 4 none [] ({ frames := 0, cells := 0, slots := 0, locals := 0 } : Room) Z #[(.ref b), (.int (0 : Int32)), (.int (1 : Int32))] h0 (fun v h L => v = none ∧ Fr n0 L ∧ Keep h0 h [t] ∧ Ary Z h t .int Value.int 9 (own_add0 F)) := by
  refine Ct.of (plainFor_of_name pn_1) (fun m => ef_rmCnt0 m b) ?_
  intro p e s m below meth c T0 X0 hx hby hml hret hlk hown hnm hZ e0 P hP
  refine Go.st (fun _ kt => XS.iloadN X0.here hx rfl (hb hby d_prog_13_method_5_0) rfl (XS.iconst X0.here hx rfl (hb hby d_prog_13_method_5_1) (XS.iadd X0.here hx rfl (hb hby d_prog_13_method_5_2) rfl (XS.istoreN X0.here hx rfl (hb hby d_prog_13_method_5_3) rfl (l' := #[.val (.ref b), .val (.int (0 : Int32)), .val (.int (1 : Int32)), .val (.int ((0 : Int32) + (1 : Int32)))]) rfl kt)))) ?_
  show Go p e below P (T0.setTop (mkF m 4 #[.val (.ref b), .val (.int (0 : Int32)), .val (.int (1 : Int32)), .val (.int ((0 : Int32) + (1 : Int32)))] []))
  rw [show ((0 : Int32) + (1 : Int32)) = (1 : Int32) from by decide]
  show Go p e below P (T0.setTop (mkF m 4 #[.val (.ref b), .val (.int (0 : Int32)), .val (.int (1 : Int32)), .val (.int (1 : Int32))] []))
  refine Go.st (fun _ kt => XS.iloadN X0.here hx rfl (hb hby d_prog_13_method_5_4) rfl (XS.aloadN X0.here hx rfl (hb hby d_prog_13_method_5_5) rfl rfl kt)) ?_
  show Go p e below P (T0.setTop (mkF m 6 #[.val (.ref b), .val (.int (0 : Int32)), .val (.int (1 : Int32)), .val (.int (1 : Int32))] [(.ref b), (.int (1 : Int32))]))
  obtain ⟨T1, X1, e1, st1⟩ := getF X0 hx hZ hown (host := "") (Or.inl (hw _ (List.mem_of_getElem? (i := 14) rfl))) Via.refl e0 Ft (g := (mkF m 6 #[.val (.ref b), .val (.int (0 : Int32)), .val (.int (1 : Int32)), .val (.int (1 : Int32))] [(.ref b), (.int (1 : Int32))])) rfl rfl (hb hby d_prog_13_method_5_6)
  refine Go.st st1 ?_
  show Go p e below P (T1.setTop (mkF m 9 #[.val (.ref b), .val (.int (0 : Int32)), .val (.int (1 : Int32)), .val (.int (1 : Int32))] [(.ref t), (.int (1 : Int32))]))
  refine Go.st (fun _ kt => aryLen X1 hx hZ e1 Vt (g := (mkF m 9 #[.val (.ref b), .val (.int (0 : Int32)), .val (.int (1 : Int32)), .val (.int (1 : Int32))] [(.ref t), (.int (1 : Int32))])) rfl rfl (hb hby d_prog_13_method_5_9) _ (XS.icmpNo X1.here hx rfl (hb hby d_prog_13_method_5_10) rfl (tlt (by decide : (1 : Int32) < (9 : Int32))).2.1 (XS.aloadN X1.here hx rfl (hb hby d_prog_13_method_5_13) rfl rfl kt))) ?_
  show Go p e below P (T1.setTop (mkF m 14 #[.val (.ref b), .val (.int (0 : Int32)), .val (.int (1 : Int32)), .val (.int (1 : Int32))] [(.ref b)]))
  obtain ⟨T2, X2, e2, st2⟩ := getF X1 hx hZ hown (host := "") (Or.inl (hw _ (List.mem_of_getElem? (i := 14) rfl))) Via.refl e1 Ft (g := (mkF m 14 #[.val (.ref b), .val (.int (0 : Int32)), .val (.int (1 : Int32)), .val (.int (1 : Int32))] [(.ref b)])) rfl rfl (hb hby d_prog_13_method_5_14)
  refine Go.st st2 ?_
  show Go p e below P (T2.setTop (mkF m 17 #[.val (.ref b), .val (.int (0 : Int32)), .val (.int (1 : Int32)), .val (.int (1 : Int32))] [(.ref t)]))
  refine Go.st (fun _ kt => XS.iloadN X2.here hx rfl (hb hby d_prog_13_method_5_17) rfl (Jvm.Free.XT.dup2 X2.here hx rfl (hb hby d_prog_13_method_5_18) rfl rfl rfl (aryLdI X2 hx hZ e2 Vt (j := (1 : Int32)) (i := 1) ⟨by decide, by decide⟩ (by decide) (g := (mkF m 19 #[.val (.ref b), .val (.int (0 : Int32)), .val (.int (1 : Int32)), .val (.int (1 : Int32))] [(.int (1 : Int32)), (.ref t), (.int (1 : Int32)), (.ref t)])) rfl rfl (hb hby d_prog_13_method_5_19) _ (XS.iloadN X2.here hx rfl (hb hby d_prog_13_method_5_20) rfl (XS.iadd X2.here hx rfl (hb hby d_prog_13_method_5_21) rfl kt))))) ?_
  show Go p e below P (T2.setTop (mkF m 22 #[.val (.ref b), .val (.int (0 : Int32)), .val (.int (1 : Int32)), .val (.int (1 : Int32))] [(.int ((F 1) + (1 : Int32))), (.int (1 : Int32)), (.ref t)]))
  have ne4 := Ary.ne Vt Eb (hw _ (List.mem_of_getElem? (i := 2) rfl))
  obtain ⟨T3, h3, X3, e3, W3, V3, st3⟩ := aryStI X2 hx hZ e2 Vt (j := (1 : Int32)) (x := ((F 1) + (1 : Int32))) (i := 1) ⟨by decide, by decide⟩ (by decide) (g := (mkF m 22 #[.val (.ref b), .val (.int (0 : Int32)), .val (.int (1 : Int32)), .val (.int (1 : Int32))] [(.int ((F 1) + (1 : Int32))), (.int (1 : Int32)), (.ref t)])) rfl rfl (hb hby d_prog_13_method_5_22)
  have K5 := Keep.wr (Keep.refl h0 [t]) W3 (Or.inl (List.mem_of_getElem? (i := 0) rfl))
  have Z6 : n0 ≤ h3.size := by rw [W3.size]; exact Z0
  have N7 := Fr.snoc X3 (Fr.nil n0) Gt
  refine Go.st st3 ?_
  show Go p e below P (T3.setTop (mkF m 23 #[.val (.ref b), .val (.int (0 : Int32)), .val (.int (1 : Int32)), .val (.int (1 : Int32))] []))
  refine Go.st (fun _ kt => XS.iloadN X3.here hx rfl (hb hby d_prog_13_method_5_23) rfl (XS.iloadN X3.here hx rfl (hb hby d_prog_13_method_5_24) rfl (XS.iloadN X3.here hx rfl (hb hby d_prog_13_method_5_25) rfl (XS.ineg X3.here hx rfl (hb hby d_prog_13_method_5_26) rfl (XS.iand X3.here hx rfl (hb hby d_prog_13_method_5_27) rfl (XS.iadd X3.here hx rfl (hb hby d_prog_13_method_5_28) rfl (XS.istoreN X3.here hx rfl (hb hby d_prog_13_method_5_29) rfl (l' := #[.val (.ref b), .val (.int (0 : Int32)), .val (.int (1 : Int32)), .val (.int ((1 : Int32) + ((1 : Int32) &&& (-(1 : Int32)))))]) rfl (XS.goto X3.here hx rfl (pc0 := 30) (pc' := 4) rfl (hb hby d_prog_13_method_5_30) (by decide) (by decide) kt)))))))) ?_
  show Go p e below P (T3.setTop (mkF m 4 #[.val (.ref b), .val (.int (0 : Int32)), .val (.int (1 : Int32)), .val (.int ((1 : Int32) + ((1 : Int32) &&& (-(1 : Int32)))))] []))
  rw [show ((1 : Int32) + ((1 : Int32) &&& (-(1 : Int32)))) = (2 : Int32) from by decide]
  show Go p e below P (T3.setTop (mkF m 4 #[.val (.ref b), .val (.int (0 : Int32)), .val (.int (1 : Int32)), .val (.int (2 : Int32))] []))
  refine Go.st (fun _ kt => XS.iloadN X3.here hx rfl (hb hby d_prog_13_method_5_4) rfl (XS.aloadN X3.here hx rfl (hb hby d_prog_13_method_5_5) rfl rfl kt)) ?_
  show Go p e below P (T3.setTop (mkF m 6 #[.val (.ref b), .val (.int (0 : Int32)), .val (.int (1 : Int32)), .val (.int (2 : Int32))] [(.ref b), (.int (2 : Int32))]))
  have f9 := (Ft.other W3 (Or.inl ne4))
  obtain ⟨T8, X8, e8, st8⟩ := getF X3 hx hZ hown (host := "") (Or.inl (hw _ (List.mem_of_getElem? (i := 14) rfl))) Via.refl e3 f9 (g := (mkF m 6 #[.val (.ref b), .val (.int (0 : Int32)), .val (.int (1 : Int32)), .val (.int (2 : Int32))] [(.ref b), (.int (2 : Int32))])) rfl rfl (hb hby d_prog_13_method_5_6)
  refine Go.st st8 ?_
  show Go p e below P (T8.setTop (mkF m 9 #[.val (.ref b), .val (.int (0 : Int32)), .val (.int (1 : Int32)), .val (.int (2 : Int32))] [(.ref t), (.int (2 : Int32))]))
  refine Go.st (fun _ kt => aryLen X8 hx hZ e8 V3 (g := (mkF m 9 #[.val (.ref b), .val (.int (0 : Int32)), .val (.int (1 : Int32)), .val (.int (2 : Int32))] [(.ref t), (.int (2 : Int32))])) rfl rfl (hb hby d_prog_13_method_5_9) _ (XS.icmpNo X8.here hx rfl (hb hby d_prog_13_method_5_10) rfl (tlt (by decide : (2 : Int32) < (9 : Int32))).2.1 (XS.aloadN X8.here hx rfl (hb hby d_prog_13_method_5_13) rfl rfl kt))) ?_
  show Go p e below P (T8.setTop (mkF m 14 #[.val (.ref b), .val (.int (0 : Int32)), .val (.int (1 : Int32)), .val (.int (2 : Int32))] [(.ref b)]))
  obtain ⟨T10, X10, e10, st10⟩ := getF X8 hx hZ hown (host := "") (Or.inl (hw _ (List.mem_of_getElem? (i := 14) rfl))) Via.refl e8 f9 (g := (mkF m 14 #[.val (.ref b), .val (.int (0 : Int32)), .val (.int (1 : Int32)), .val (.int (2 : Int32))] [(.ref b)])) rfl rfl (hb hby d_prog_13_method_5_14)
  refine Go.st st10 ?_
  show Go p e below P (T10.setTop (mkF m 17 #[.val (.ref b), .val (.int (0 : Int32)), .val (.int (1 : Int32)), .val (.int (2 : Int32))] [(.ref t)]))
  refine Go.st (fun _ kt => XS.iloadN X10.here hx rfl (hb hby d_prog_13_method_5_17) rfl (Jvm.Free.XT.dup2 X10.here hx rfl (hb hby d_prog_13_method_5_18) rfl rfl rfl (aryLdI X10 hx hZ e10 V3 (j := (2 : Int32)) (i := 2) ⟨by decide, by decide⟩ (by decide) (g := (mkF m 19 #[.val (.ref b), .val (.int (0 : Int32)), .val (.int (1 : Int32)), .val (.int (2 : Int32))] [(.int (2 : Int32)), (.ref t), (.int (2 : Int32)), (.ref t)])) rfl rfl (hb hby d_prog_13_method_5_19) _ (XS.iloadN X10.here hx rfl (hb hby d_prog_13_method_5_20) rfl (XS.iadd X10.here hx rfl (hb hby d_prog_13_method_5_21) rfl kt))))) ?_
  show Go p e below P (T10.setTop (mkF m 22 #[.val (.ref b), .val (.int (0 : Int32)), .val (.int (1 : Int32)), .val (.int (2 : Int32))] [(.int ((F 2) + (1 : Int32))), (.int (2 : Int32)), (.ref t)]))
  obtain ⟨T11, h11, X11, e11, W11, V11, st11⟩ := aryStI X10 hx hZ e10 V3 (j := (2 : Int32)) (x := ((F 2) + (1 : Int32))) (i := 2) ⟨by decide, by decide⟩ (by decide) (g := (mkF m 22 #[.val (.ref b), .val (.int (0 : Int32)), .val (.int (1 : Int32)), .val (.int (2 : Int32))] [(.int ((F 2) + (1 : Int32))), (.int (2 : Int32)), (.ref t)])) rfl rfl (hb hby d_prog_13_method_5_22)
  have K12 := Keep.wr K5 W11 (Or.inl (List.mem_of_getElem? (i := 0) rfl))
  have Z13 : n0 ≤ h11.size := by rw [W11.size]; exact Z6
  have N14 := Fr.snoc X11 N7 Gt
  refine Go.st st11 ?_
  show Go p e below P (T11.setTop (mkF m 23 #[.val (.ref b), .val (.int (0 : Int32)), .val (.int (1 : Int32)), .val (.int (2 : Int32))] []))
  refine Go.st (fun _ kt => XS.iloadN X11.here hx rfl (hb hby d_prog_13_method_5_23) rfl (XS.iloadN X11.here hx rfl (hb hby d_prog_13_method_5_24) rfl (XS.iloadN X11.here hx rfl (hb hby d_prog_13_method_5_25) rfl (XS.ineg X11.here hx rfl (hb hby d_prog_13_method_5_26) rfl (XS.iand X11.here hx rfl (hb hby d_prog_13_method_5_27) rfl (XS.iadd X11.here hx rfl (hb hby d_prog_13_method_5_28) rfl (XS.istoreN X11.here hx rfl (hb hby d_prog_13_method_5_29) rfl (l' := #[.val (.ref b), .val (.int (0 : Int32)), .val (.int (1 : Int32)), .val (.int ((2 : Int32) + ((2 : Int32) &&& (-(2 : Int32)))))]) rfl (XS.goto X11.here hx rfl (pc0 := 30) (pc' := 4) rfl (hb hby d_prog_13_method_5_30) (by decide) (by decide) kt)))))))) ?_
  show Go p e below P (T11.setTop (mkF m 4 #[.val (.ref b), .val (.int (0 : Int32)), .val (.int (1 : Int32)), .val (.int ((2 : Int32) + ((2 : Int32) &&& (-(2 : Int32)))))] []))
  rw [show ((2 : Int32) + ((2 : Int32) &&& (-(2 : Int32)))) = (4 : Int32) from by decide]
  show Go p e below P (T11.setTop (mkF m 4 #[.val (.ref b), .val (.int (0 : Int32)), .val (.int (1 : Int32)), .val (.int (4 : Int32))] []))
  refine Go.st (fun _ kt => XS.iloadN X11.here hx rfl (hb hby d_prog_13_method_5_4) rfl (XS.aloadN X11.here hx rfl (hb hby d_prog_13_method_5_5) rfl rfl kt)) ?_
  show Go p e below P (T11.setTop (mkF m 6 #[.val (.ref b), .val (.int (0 : Int32)), .val (.int (1 : Int32)), .val (.int (4 : Int32))] [(.ref b), (.int (4 : Int32))]))
  have f16 := (f9.other W11 (Or.inl ne4))
  obtain ⟨T15, X15, e15, st15⟩ := getF X11 hx hZ hown (host := "") (Or.inl (hw _ (List.mem_of_getElem? (i := 14) rfl))) Via.refl e11 f16 (g := (mkF m 6 #[.val (.ref b), .val (.int (0 : Int32)), .val (.int (1 : Int32)), .val (.int (4 : Int32))] [(.ref b), (.int (4 : Int32))])) rfl rfl (hb hby d_prog_13_method_5_6)
  refine Go.st st15 ?_
  show Go p e below P (T15.setTop (mkF m 9 #[.val (.ref b), .val (.int (0 : Int32)), .val (.int (1 : Int32)), .val (.int (4 : Int32))] [(.ref t), (.int (4 : Int32))]))
  refine Go.st (fun _ kt => aryLen X15 hx hZ e15 V11 (g := (mkF m 9 #[.val (.ref b), .val (.int (0 : Int32)), .val (.int (1 : Int32)), .val (.int (4 : Int32))] [(.ref t), (.int (4 : Int32))])) rfl rfl (hb hby d_prog_13_method_5_9) _ (XS.icmpNo X15.here hx rfl (hb hby d_prog_13_method_5_10) rfl (tlt (by decide : (4 : Int32) < (9 : Int32))).2.1 (XS.aloadN X15.here hx rfl (hb hby d_prog_13_method_5_13) rfl rfl kt))) ?_
  show Go p e below P (T15.setTop (mkF m 14 #[.val (.ref b), .val (.int (0 : Int32)), .val (.int (1 : Int32)), .val (.int (4 : Int32))] [(.ref b)]))
  obtain ⟨T17, X17, e17, st17⟩ := getF X15 hx hZ hown (host := "") (Or.inl (hw _ (List.mem_of_getElem? (i := 14) rfl))) Via.refl e15 f16 (g := (mkF m 14 #[.val (.ref b), .val (.int (0 : Int32)), .val (.int (1 : Int32)), .val (.int (4 : Int32))] [(.ref b)])) rfl rfl (hb hby d_prog_13_method_5_14)
  refine Go.st st17 ?_
  show Go p e below P (T17.setTop (mkF m 17 #[.val (.ref b), .val (.int (0 : Int32)), .val (.int (1 : Int32)), .val (.int (4 : Int32))] [(.ref t)]))
  refine Go.st (fun _ kt => XS.iloadN X17.here hx rfl (hb hby d_prog_13_method_5_17) rfl (Jvm.Free.XT.dup2 X17.here hx rfl (hb hby d_prog_13_method_5_18) rfl rfl rfl (aryLdI X17 hx hZ e17 V11 (j := (4 : Int32)) (i := 4) ⟨by decide, by decide⟩ (by decide) (g := (mkF m 19 #[.val (.ref b), .val (.int (0 : Int32)), .val (.int (1 : Int32)), .val (.int (4 : Int32))] [(.int (4 : Int32)), (.ref t), (.int (4 : Int32)), (.ref t)])) rfl rfl (hb hby d_prog_13_method_5_19) _ (XS.iloadN X17.here hx rfl (hb hby d_prog_13_method_5_20) rfl (XS.iadd X17.here hx rfl (hb hby d_prog_13_method_5_21) rfl kt))))) ?_
  show Go p e below P (T17.setTop (mkF m 22 #[.val (.ref b), .val (.int (0 : Int32)), .val (.int (1 : Int32)), .val (.int (4 : Int32))] [(.int ((F 4) + (1 : Int32))), (.int (4 : Int32)), (.ref t)]))
  obtain ⟨T18, h18, X18, e18, W18, V18, st18⟩ := aryStI X17 hx hZ e17 V11 (j := (4 : Int32)) (x := ((F 4) + (1 : Int32))) (i := 4) ⟨by decide, by decide⟩ (by decide) (g := (mkF m 22 #[.val (.ref b), .val (.int (0 : Int32)), .val (.int (1 : Int32)), .val (.int (4 : Int32))] [(.int ((F 4) + (1 : Int32))), (.int (4 : Int32)), (.ref t)])) rfl rfl (hb hby d_prog_13_method_5_22)
  have K19 := Keep.wr K12 W18 (Or.inl (List.mem_of_getElem? (i := 0) rfl))
  have Z20 : n0 ≤ h18.size := by rw [W18.size]; exact Z13
  have N21 := Fr.snoc X18 N14 Gt
  refine Go.st st18 ?_
  show Go p e below P (T18.setTop (mkF m 23 #[.val (.ref b), .val (.int (0 : Int32)), .val (.int (1 : Int32)), .val (.int (4 : Int32))] []))
  refine Go.st (fun _ kt => XS.iloadN X18.here hx rfl (hb hby d_prog_13_method_5_23) rfl (XS.iloadN X18.here hx rfl (hb hby d_prog_13_method_5_24) rfl (XS.iloadN X18.here hx rfl (hb hby d_prog_13_method_5_25) rfl (XS.ineg X18.here hx rfl (hb hby d_prog_13_method_5_26) rfl (XS.iand X18.here hx rfl (hb hby d_prog_13_method_5_27) rfl (XS.iadd X18.here hx rfl (hb hby d_prog_13_method_5_28) rfl (XS.istoreN X18.here hx rfl (hb hby d_prog_13_method_5_29) rfl (l' := #[.val (.ref b), .val (.int (0 : Int32)), .val (.int (1 : Int32)), .val (.int ((4 : Int32) + ((4 : Int32) &&& (-(4 : Int32)))))]) rfl (XS.goto X18.here hx rfl (pc0 := 30) (pc' := 4) rfl (hb hby d_prog_13_method_5_30) (by decide) (by decide) kt)))))))) ?_
  show Go p e below P (T18.setTop (mkF m 4 #[.val (.ref b), .val (.int (0 : Int32)), .val (.int (1 : Int32)), .val (.int ((4 : Int32) + ((4 : Int32) &&& (-(4 : Int32)))))] []))
  rw [show ((4 : Int32) + ((4 : Int32) &&& (-(4 : Int32)))) = (8 : Int32) from by decide]
  show Go p e below P (T18.setTop (mkF m 4 #[.val (.ref b), .val (.int (0 : Int32)), .val (.int (1 : Int32)), .val (.int (8 : Int32))] []))
  refine Go.st (fun _ kt => XS.iloadN X18.here hx rfl (hb hby d_prog_13_method_5_4) rfl (XS.aloadN X18.here hx rfl (hb hby d_prog_13_method_5_5) rfl rfl kt)) ?_
  show Go p e below P (T18.setTop (mkF m 6 #[.val (.ref b), .val (.int (0 : Int32)), .val (.int (1 : Int32)), .val (.int (8 : Int32))] [(.ref b), (.int (8 : Int32))]))
  have f23 := (f16.other W18 (Or.inl ne4))
  obtain ⟨T22, X22, e22, st22⟩ := getF X18 hx hZ hown (host := "") (Or.inl (hw _ (List.mem_of_getElem? (i := 14) rfl))) Via.refl e18 f23 (g := (mkF m 6 #[.val (.ref b), .val (.int (0 : Int32)), .val (.int (1 : Int32)), .val (.int (8 : Int32))] [(.ref b), (.int (8 : Int32))])) rfl rfl (hb hby d_prog_13_method_5_6)
  refine Go.st st22 ?_
  show Go p e below P (T22.setTop (mkF m 9 #[.val (.ref b), .val (.int (0 : Int32)), .val (.int (1 : Int32)), .val (.int (8 : Int32))] [(.ref t), (.int (8 : Int32))]))
  refine Go.st (fun _ kt => aryLen X22 hx hZ e22 V18 (g := (mkF m 9 #[.val (.ref b), .val (.int (0 : Int32)), .val (.int (1 : Int32)), .val (.int (8 : Int32))] [(.ref t), (.int (8 : Int32))])) rfl rfl (hb hby d_prog_13_method_5_9) _ (XS.icmpNo X22.here hx rfl (hb hby d_prog_13_method_5_10) rfl (tlt (by decide : (8 : Int32) < (9 : Int32))).2.1 (XS.aloadN X22.here hx rfl (hb hby d_prog_13_method_5_13) rfl rfl kt))) ?_
  show Go p e below P (T22.setTop (mkF m 14 #[.val (.ref b), .val (.int (0 : Int32)), .val (.int (1 : Int32)), .val (.int (8 : Int32))] [(.ref b)]))
  obtain ⟨T24, X24, e24, st24⟩ := getF X22 hx hZ hown (host := "") (Or.inl (hw _ (List.mem_of_getElem? (i := 14) rfl))) Via.refl e22 f23 (g := (mkF m 14 #[.val (.ref b), .val (.int (0 : Int32)), .val (.int (1 : Int32)), .val (.int (8 : Int32))] [(.ref b)])) rfl rfl (hb hby d_prog_13_method_5_14)
  refine Go.st st24 ?_
  show Go p e below P (T24.setTop (mkF m 17 #[.val (.ref b), .val (.int (0 : Int32)), .val (.int (1 : Int32)), .val (.int (8 : Int32))] [(.ref t)]))
  refine Go.st (fun _ kt => XS.iloadN X24.here hx rfl (hb hby d_prog_13_method_5_17) rfl (Jvm.Free.XT.dup2 X24.here hx rfl (hb hby d_prog_13_method_5_18) rfl rfl rfl (aryLdI X24 hx hZ e24 V18 (j := (8 : Int32)) (i := 8) ⟨by decide, by decide⟩ (by decide) (g := (mkF m 19 #[.val (.ref b), .val (.int (0 : Int32)), .val (.int (1 : Int32)), .val (.int (8 : Int32))] [(.int (8 : Int32)), (.ref t), (.int (8 : Int32)), (.ref t)])) rfl rfl (hb hby d_prog_13_method_5_19) _ (XS.iloadN X24.here hx rfl (hb hby d_prog_13_method_5_20) rfl (XS.iadd X24.here hx rfl (hb hby d_prog_13_method_5_21) rfl kt))))) ?_
  show Go p e below P (T24.setTop (mkF m 22 #[.val (.ref b), .val (.int (0 : Int32)), .val (.int (1 : Int32)), .val (.int (8 : Int32))] [(.int ((F 8) + (1 : Int32))), (.int (8 : Int32)), (.ref t)]))
  obtain ⟨T25, h25, X25, e25, W25, V25, st25⟩ := aryStI X24 hx hZ e24 V18 (j := (8 : Int32)) (x := ((F 8) + (1 : Int32))) (i := 8) ⟨by decide, by decide⟩ (by decide) (g := (mkF m 22 #[.val (.ref b), .val (.int (0 : Int32)), .val (.int (1 : Int32)), .val (.int (8 : Int32))] [(.int ((F 8) + (1 : Int32))), (.int (8 : Int32)), (.ref t)])) rfl rfl (hb hby d_prog_13_method_5_22)
  have K26 := Keep.wr K19 W25 (Or.inl (List.mem_of_getElem? (i := 0) rfl))
  have Z27 : n0 ≤ h25.size := by rw [W25.size]; exact Z20
  have N28 := Fr.snoc X25 N21 Gt
  refine Go.st st25 ?_
  show Go p e below P (T25.setTop (mkF m 23 #[.val (.ref b), .val (.int (0 : Int32)), .val (.int (1 : Int32)), .val (.int (8 : Int32))] []))
  refine Go.st (fun _ kt => XS.iloadN X25.here hx rfl (hb hby d_prog_13_method_5_23) rfl (XS.iloadN X25.here hx rfl (hb hby d_prog_13_method_5_24) rfl (XS.iloadN X25.here hx rfl (hb hby d_prog_13_method_5_25) rfl (XS.ineg X25.here hx rfl (hb hby d_prog_13_method_5_26) rfl (XS.iand X25.here hx rfl (hb hby d_prog_13_method_5_27) rfl (XS.iadd X25.here hx rfl (hb hby d_prog_13_method_5_28) rfl (XS.istoreN X25.here hx rfl (hb hby d_prog_13_method_5_29) rfl (l' := #[.val (.ref b), .val (.int (0 : Int32)), .val (.int (1 : Int32)), .val (.int ((8 : Int32) + ((8 : Int32) &&& (-(8 : Int32)))))]) rfl (XS.goto X25.here hx rfl (pc0 := 30) (pc' := 4) rfl (hb hby d_prog_13_method_5_30) (by decide) (by decide) kt)))))))) ?_
  show Go p e below P (T25.setTop (mkF m 4 #[.val (.ref b), .val (.int (0 : Int32)), .val (.int (1 : Int32)), .val (.int ((8 : Int32) + ((8 : Int32) &&& (-(8 : Int32)))))] []))
  rw [show ((8 : Int32) + ((8 : Int32) &&& (-(8 : Int32)))) = (16 : Int32) from by decide]
  show Go p e below P (T25.setTop (mkF m 4 #[.val (.ref b), .val (.int (0 : Int32)), .val (.int (1 : Int32)), .val (.int (16 : Int32))] []))
  refine Go.st (fun _ kt => XS.iloadN X25.here hx rfl (hb hby d_prog_13_method_5_4) rfl (XS.aloadN X25.here hx rfl (hb hby d_prog_13_method_5_5) rfl rfl kt)) ?_
  show Go p e below P (T25.setTop (mkF m 6 #[.val (.ref b), .val (.int (0 : Int32)), .val (.int (1 : Int32)), .val (.int (16 : Int32))] [(.ref b), (.int (16 : Int32))]))
  have f30 := (f23.other W25 (Or.inl ne4))
  obtain ⟨T29, X29, e29, st29⟩ := getF X25 hx hZ hown (host := "") (Or.inl (hw _ (List.mem_of_getElem? (i := 14) rfl))) Via.refl e25 f30 (g := (mkF m 6 #[.val (.ref b), .val (.int (0 : Int32)), .val (.int (1 : Int32)), .val (.int (16 : Int32))] [(.ref b), (.int (16 : Int32))])) rfl rfl (hb hby d_prog_13_method_5_6)
  refine Go.st st29 ?_
  show Go p e below P (T29.setTop (mkF m 9 #[.val (.ref b), .val (.int (0 : Int32)), .val (.int (1 : Int32)), .val (.int (16 : Int32))] [(.ref t), (.int (16 : Int32))]))
  refine Go.st (fun _ kt => aryLen X29 hx hZ e29 V25 (g := (mkF m 9 #[.val (.ref b), .val (.int (0 : Int32)), .val (.int (1 : Int32)), .val (.int (16 : Int32))] [(.ref t), (.int (16 : Int32))])) rfl rfl (hb hby d_prog_13_method_5_9) _ (XS.icmpYes X29.here hx rfl (pc0 := 10) (pc' := 33) rfl (hb hby d_prog_13_method_5_10) rfl (flt (by decide : ¬ ((16 : Int32) < (9 : Int32)))).2.1 (by decide) (by decide) kt)) ?_
  show Go p e below P (T29.setTop (mkF m 33 #[.val (.ref b), .val (.int (0 : Int32)), .val (.int (1 : Int32)), .val (.int (16 : Int32))] []))
  exact goV X29 hx hret hlk (hb hby d_prog_13_method_5_33) hP (by decide) (by decide) (by rw [e29]; exact ⟨rfl, N28, K26, V25⟩)
theorem ef_rmCnt1 (m : MethodId) (b : Addr) : entryFrame m #[(.ref b), (.int (1 : Int32)), (.int (1 : Int32))] 4 = mkF m 0 #[.val (.ref b), .val (.int (1 : Int32)), .val (.int (1 : Int32)), .unset] [] := by first | (simp [entryFrame, mkF, argsToLocals, Value.category]; done) | rfl
set_option maxRecDepth 65536 in
set_option maxHeartbeats 40000000 in
theorem rmCnt1 (l : Launch) (Z : State) (a0 : Array Value) (hw : ∀ d ∈ tables_1, d.before a0 Z = true) (b : Addr) (t : Addr) (F : Nat → Int32) (h0 : Heap) (n0 : Nat) (Z0 : n0 ≤ h0.size) (Eb : Exa Z h0 b "com/example/doc_delta/docdelta/formats/IndexSet") (Ft : Fld Z h0 b "com/example/doc_delta/docdelta/formats/IndexSet" "tree" "[I" (.ref t)) (Vt : Ary Z h0 t .int Value.int 9 F) (Gt : n0 ≤ t) :
    Ct l (⟨"com/example/doc_delta/docdelta/formats/IndexSet", "count", "(II)V"⟩ : MethodName) prog_13_method_5_code 4 none [] ({ frames := 0, cells := 0, slots := 0, locals := 0 } : Room) Z #[(.ref b), (.int (1 : Int32)), (.int (1 : Int32))] h0 (fun v h L => v = none ∧ Fr n0 L ∧ Keep h0 h [t] ∧ Ary Z h t .int Value.int 9 (own_add1 F)) := by
  refine Ct.of (plainFor_of_name pn_1) (fun m => ef_rmCnt1 m b) ?_
  intro p e s m below meth c T0 X0 hx hby hml hret hlk hown hnm hZ e0 P hP
  refine Go.st (fun _ kt => XS.iloadN X0.here hx rfl (hb hby d_prog_13_method_5_0) rfl (XS.iconst X0.here hx rfl (hb hby d_prog_13_method_5_1) (XS.iadd X0.here hx rfl (hb hby d_prog_13_method_5_2) rfl (XS.istoreN X0.here hx rfl (hb hby d_prog_13_method_5_3) rfl (l' := #[.val (.ref b), .val (.int (1 : Int32)), .val (.int (1 : Int32)), .val (.int ((1 : Int32) + (1 : Int32)))]) rfl kt)))) ?_
  show Go p e below P (T0.setTop (mkF m 4 #[.val (.ref b), .val (.int (1 : Int32)), .val (.int (1 : Int32)), .val (.int ((1 : Int32) + (1 : Int32)))] []))
  rw [show ((1 : Int32) + (1 : Int32)) = (2 : Int32) from by decide]
  show Go p e below P (T0.setTop (mkF m 4 #[.val (.ref b), .val (.int (1 : Int32)), .val (.int (1 : Int32)), .val (.int (2 : Int32))] []))
  refine Go.st (fun _ kt => XS.iloadN X0.here hx rfl (hb hby d_prog_13_method_5_4) rfl (XS.aloadN X0.here hx rfl (hb hby d_prog_13_method_5_5) rfl rfl kt)) ?_
  show Go p e below P (T0.setTop (mkF m 6 #[.val (.ref b), .val (.int (1 : Int32)), .val (.int (1 : Int32)), .val (.int (2 : Int32))] [(.ref b), (.int (2 : Int32))]))
  obtain ⟨T1, X1, e1, st1⟩ := getF X0 hx hZ hown (host := "") (Or.inl (hw _ (List.mem_of_getElem? (i := 14) rfl))) Via.refl e0 Ft (g := (mkF m 6 #[.val (.ref b), .val (.int (1 : Int32)), .val (.int (1 : Int32)), .val (.int (2 : Int32))] [(.ref b), (.int (2 : Int32))])) rfl rfl (hb hby d_prog_13_method_5_6)
  refine Go.st st1 ?_
  show Go p e below P (T1.setTop (mkF m 9 #[.val (.ref b), .val (.int (1 : Int32)), .val (.int (1 : Int32)), .val (.int (2 : Int32))] [(.ref t), (.int (2 : Int32))]))
  refine Go.st (fun _ kt => aryLen X1 hx hZ e1 Vt (g := (mkF m 9 #[.val (.ref b), .val (.int (1 : Int32)), .val (.int (1 : Int32)), .val (.int (2 : Int32))] [(.ref t), (.int (2 : Int32))])) rfl rfl (hb hby d_prog_13_method_5_9) _ (XS.icmpNo X1.here hx rfl (hb hby d_prog_13_method_5_10) rfl (tlt (by decide : (2 : Int32) < (9 : Int32))).2.1 (XS.aloadN X1.here hx rfl (hb hby d_prog_13_method_5_13) rfl rfl kt))) ?_
  show Go p e below P (T1.setTop (mkF m 14 #[.val (.ref b), .val (.int (1 : Int32)), .val (.int (1 : Int32)), .val (.int (2 : Int32))] [(.ref b)]))
  obtain ⟨T2, X2, e2, st2⟩ := getF X1 hx hZ hown (host := "") (Or.inl (hw _ (List.mem_of_getElem? (i := 14) rfl))) Via.refl e1 Ft (g := (mkF m 14 #[.val (.ref b), .val (.int (1 : Int32)), .val (.int (1 : Int32)), .val (.int (2 : Int32))] [(.ref b)])) rfl rfl (hb hby d_prog_13_method_5_14)
  refine Go.st st2 ?_
  show Go p e below P (T2.setTop (mkF m 17 #[.val (.ref b), .val (.int (1 : Int32)), .val (.int (1 : Int32)), .val (.int (2 : Int32))] [(.ref t)]))
  refine Go.st (fun _ kt => XS.iloadN X2.here hx rfl (hb hby d_prog_13_method_5_17) rfl (Jvm.Free.XT.dup2 X2.here hx rfl (hb hby d_prog_13_method_5_18) rfl rfl rfl (aryLdI X2 hx hZ e2 Vt (j := (2 : Int32)) (i := 2) ⟨by decide, by decide⟩ (by decide) (g := (mkF m 19 #[.val (.ref b), .val (.int (1 : Int32)), .val (.int (1 : Int32)), .val (.int (2 : Int32))] [(.int (2 : Int32)), (.ref t), (.int (2 : Int32)), (.ref t)])) rfl rfl (hb hby d_prog_13_method_5_19) _ (XS.iloadN X2.here hx rfl (hb hby d_prog_13_method_5_20) rfl (XS.iadd X2.here hx rfl (hb hby d_prog_13_method_5_21) rfl kt))))) ?_
  show Go p e below P (T2.setTop (mkF m 22 #[.val (.ref b), .val (.int (1 : Int32)), .val (.int (1 : Int32)), .val (.int (2 : Int32))] [(.int ((F 2) + (1 : Int32))), (.int (2 : Int32)), (.ref t)]))
  have ne4 := Ary.ne Vt Eb (hw _ (List.mem_of_getElem? (i := 2) rfl))
  obtain ⟨T3, h3, X3, e3, W3, V3, st3⟩ := aryStI X2 hx hZ e2 Vt (j := (2 : Int32)) (x := ((F 2) + (1 : Int32))) (i := 2) ⟨by decide, by decide⟩ (by decide) (g := (mkF m 22 #[.val (.ref b), .val (.int (1 : Int32)), .val (.int (1 : Int32)), .val (.int (2 : Int32))] [(.int ((F 2) + (1 : Int32))), (.int (2 : Int32)), (.ref t)])) rfl rfl (hb hby d_prog_13_method_5_22)
  have K5 := Keep.wr (Keep.refl h0 [t]) W3 (Or.inl (List.mem_of_getElem? (i := 0) rfl))
  have Z6 : n0 ≤ h3.size := by rw [W3.size]; exact Z0
  have N7 := Fr.snoc X3 (Fr.nil n0) Gt
  refine Go.st st3 ?_
  show Go p e below P (T3.setTop (mkF m 23 #[.val (.ref b), .val (.int (1 : Int32)), .val (.int (1 : Int32)), .val (.int (2 : Int32))] []))
  refine Go.st (fun _ kt => XS.iloadN X3.here hx rfl (hb hby d_prog_13_method_5_23) rfl (XS.iloadN X3.here hx rfl (hb hby d_prog_13_method_5_24) rfl (XS.iloadN X3.here hx rfl (hb hby d_prog_13_method_5_25) rfl (XS.ineg X3.here hx rfl (hb hby d_prog_13_method_5_26) rfl (XS.iand X3.here hx rfl (hb hby d_prog_13_method_5_27) rfl (XS.iadd X3.here hx rfl (hb hby d_prog_13_method_5_28) rfl (XS.istoreN X3.here hx rfl (hb hby d_prog_13_method_5_29) rfl (l' := #[.val (.ref b), .val (.int (1 : Int32)), .val (.int (1 : Int32)), .val (.int ((2 : Int32) + ((2 : Int32) &&& (-(2 : Int32)))))]) rfl (XS.goto X3.here hx rfl (pc0 := 30) (pc' := 4) rfl (hb hby d_prog_13_method_5_30) (by decide) (by decide) kt)))))))) ?_
  show Go p e below P (T3.setTop (mkF m 4 #[.val (.ref b), .val (.int (1 : Int32)), .val (.int (1 : Int32)), .val (.int ((2 : Int32) + ((2 : Int32) &&& (-(2 : Int32)))))] []))
  rw [show ((2 : Int32) + ((2 : Int32) &&& (-(2 : Int32)))) = (4 : Int32) from by decide]
  show Go p e below P (T3.setTop (mkF m 4 #[.val (.ref b), .val (.int (1 : Int32)), .val (.int (1 : Int32)), .val (.int (4 : Int32))] []))
  refine Go.st (fun _ kt => XS.iloadN X3.here hx rfl (hb hby d_prog_13_method_5_4) rfl (XS.aloadN X3.here hx rfl (hb hby d_prog_13_method_5_5) rfl rfl kt)) ?_
  show Go p e below P (T3.setTop (mkF m 6 #[.val (.ref b), .val (.int (1 : Int32)), .val (.int (1 : Int32)), .val (.int (4 : Int32))] [(.ref b), (.int (4 : Int32))]))
  have f9 := (Ft.other W3 (Or.inl ne4))
  obtain ⟨T8, X8, e8, st8⟩ := getF X3 hx hZ hown (host := "") (Or.inl (hw _ (List.mem_of_getElem? (i := 14) rfl))) Via.refl e3 f9 (g := (mkF m 6 #[.val (.ref b), .val (.int (1 : Int32)), .val (.int (1 : Int32)), .val (.int (4 : Int32))] [(.ref b), (.int (4 : Int32))])) rfl rfl (hb hby d_prog_13_method_5_6)
  refine Go.st st8 ?_
  show Go p e below P (T8.setTop (mkF m 9 #[.val (.ref b), .val (.int (1 : Int32)), .val (.int (1 : Int32)), .val (.int (4 : Int32))] [(.ref t), (.int (4 : Int32))]))
  refine Go.st (fun _ kt => aryLen X8 hx hZ e8 V3 (g := (mkF m 9 #[.val (.ref b), .val (.int (1 : Int32)), .val (.int (1 : Int32)), .val (.int (4 : Int32))] [(.ref t), (.int (4 : Int32))])) rfl rfl (hb hby d_prog_13_method_5_9) _ (XS.icmpNo X8.here hx rfl (hb hby d_prog_13_method_5_10) rfl (tlt (by decide : (4 : Int32) < (9 : Int32))).2.1 (XS.aloadN X8.here hx rfl (hb hby d_prog_13_method_5_13) rfl rfl kt))) ?_
  show Go p e below P (T8.setTop (mkF m 14 #[.val (.ref b), .val (.int (1 : Int32)), .val (.int (1 : Int32)), .val (.int (4 : Int32))] [(.ref b)]))
  obtain ⟨T10, X10, e10, st10⟩ := getF X8 hx hZ hown (host := "") (Or.inl (hw _ (List.mem_of_getElem? (i := 14) rfl))) Via.refl e8 f9 (g := (mkF m 14 #[.val (.ref b), .val (.int (1 : Int32)), .val (.int (1 : Int32)), .val (.int (4 : Int32))] [(.ref b)])) rfl rfl (hb hby d_prog_13_method_5_14)
  refine Go.st st10 ?_
  show Go p e below P (T10.setTop (mkF m 17 #[.val (.ref b), .val (.int (1 : Int32)), .val (.int (1 : Int32)), .val (.int (4 : Int32))] [(.ref t)]))
  refine Go.st (fun _ kt => XS.iloadN X10.here hx rfl (hb hby d_prog_13_method_5_17) rfl (Jvm.Free.XT.dup2 X10.here hx rfl (hb hby d_prog_13_method_5_18) rfl rfl rfl (aryLdI X10 hx hZ e10 V3 (j := (4 : Int32)) (i := 4) ⟨by decide, by decide⟩ (by decide) (g := (mkF m 19 #[.val (.ref b), .val (.int (1 : Int32)), .val (.int (1 : Int32)), .val (.int (4 : Int32))] [(.int (4 : Int32)), (.ref t), (.int (4 : Int32)), (.ref t)])) rfl rfl (hb hby d_prog_13_method_5_19) _ (XS.iloadN X10.here hx rfl (hb hby d_prog_13_method_5_20) rfl (XS.iadd X10.here hx rfl (hb hby d_prog_13_method_5_21) rfl kt))))) ?_
  show Go p e below P (T10.setTop (mkF m 22 #[.val (.ref b), .val (.int (1 : Int32)), .val (.int (1 : Int32)), .val (.int (4 : Int32))] [(.int ((F 4) + (1 : Int32))), (.int (4 : Int32)), (.ref t)]))
  obtain ⟨T11, h11, X11, e11, W11, V11, st11⟩ := aryStI X10 hx hZ e10 V3 (j := (4 : Int32)) (x := ((F 4) + (1 : Int32))) (i := 4) ⟨by decide, by decide⟩ (by decide) (g := (mkF m 22 #[.val (.ref b), .val (.int (1 : Int32)), .val (.int (1 : Int32)), .val (.int (4 : Int32))] [(.int ((F 4) + (1 : Int32))), (.int (4 : Int32)), (.ref t)])) rfl rfl (hb hby d_prog_13_method_5_22)
  have K12 := Keep.wr K5 W11 (Or.inl (List.mem_of_getElem? (i := 0) rfl))
  have Z13 : n0 ≤ h11.size := by rw [W11.size]; exact Z6
  have N14 := Fr.snoc X11 N7 Gt
  refine Go.st st11 ?_
  show Go p e below P (T11.setTop (mkF m 23 #[.val (.ref b), .val (.int (1 : Int32)), .val (.int (1 : Int32)), .val (.int (4 : Int32))] []))
  refine Go.st (fun _ kt => XS.iloadN X11.here hx rfl (hb hby d_prog_13_method_5_23) rfl (XS.iloadN X11.here hx rfl (hb hby d_prog_13_method_5_24) rfl (XS.iloadN X11.here hx rfl (hb hby d_prog_13_method_5_25) rfl (XS.ineg X11.here hx rfl (hb hby d_prog_13_method_5_26) rfl (XS.iand X11.here hx rfl (hb hby d_prog_13_method_5_27) rfl (XS.iadd X11.here hx rfl (hb hby d_prog_13_method_5_28) rfl (XS.istoreN X11.here hx rfl (hb hby d_prog_13_method_5_29) rfl (l' := #[.val (.ref b), .val (.int (1 : Int32)), .val (.int (1 : Int32)), .val (.int ((4 : Int32) + ((4 : Int32) &&& (-(4 : Int32)))))]) rfl (XS.goto X11.here hx rfl (pc0 := 30) (pc' := 4) rfl (hb hby d_prog_13_method_5_30) (by decide) (by decide) kt)))))))) ?_
  show Go p e below P (T11.setTop (mkF m 4 #[.val (.ref b), .val (.int (1 : Int32)), .val (.int (1 : Int32)), .val (.int ((4 : Int32) + ((4 : Int32) &&& (-(4 : Int32)))))] []))
  rw [show ((4 : Int32) + ((4 : Int32) &&& (-(4 : Int32)))) = (8 : Int32) from by decide]
  show Go p e below P (T11.setTop (mkF m 4 #[.val (.ref b), .val (.int (1 : Int32)), .val (.int (1 : Int32)), .val (.int (8 : Int32))] []))
  refine Go.st (fun _ kt => XS.iloadN X11.here hx rfl (hb hby d_prog_13_method_5_4) rfl (XS.aloadN X11.here hx rfl (hb hby d_prog_13_method_5_5) rfl rfl kt)) ?_
  show Go p e below P (T11.setTop (mkF m 6 #[.val (.ref b), .val (.int (1 : Int32)), .val (.int (1 : Int32)), .val (.int (8 : Int32))] [(.ref b), (.int (8 : Int32))]))
  have f16 := (f9.other W11 (Or.inl ne4))
  obtain ⟨T15, X15, e15, st15⟩ := getF X11 hx hZ hown (host := "") (Or.inl (hw _ (List.mem_of_getElem? (i := 14) rfl))) Via.refl e11 f16 (g := (mkF m 6 #[.val (.ref b), .val (.int (1 : Int32)), .val (.int (1 : Int32)), .val (.int (8 : Int32))] [(.ref b), (.int (8 : Int32))])) rfl rfl (hb hby d_prog_13_method_5_6)
  refine Go.st st15 ?_
  show Go p e below P (T15.setTop (mkF m 9 #[.val (.ref b), .val (.int (1 : Int32)), .val (.int (1 : Int32)), .val (.int (8 : Int32))] [(.ref t), (.int (8 : Int32))]))
  refine Go.st (fun _ kt => aryLen X15 hx hZ e15 V11 (g := (mkF m 9 #[.val (.ref b), .val (.int (1 : Int32)), .val (.int (1 : Int32)), .val (.int (8 : Int32))] [(.ref t), (.int (8 : Int32))])) rfl rfl (hb hby d_prog_13_method_5_9) _ (XS.icmpNo X15.here hx rfl (hb hby d_prog_13_method_5_10) rfl (tlt (by decide : (8 : Int32) < (9 : Int32))).2.1 (XS.aloadN X15.here hx rfl (hb hby d_prog_13_method_5_13) rfl rfl kt))) ?_
  show Go p e below P (T15.setTop (mkF m 14 #[.val (.ref b), .val (.int (1 : Int32)), .val (.int (1 : Int32)), .val (.int (8 : Int32))] [(.ref b)]))
  obtain ⟨T17, X17, e17, st17⟩ := getF X15 hx hZ hown (host := "") (Or.inl (hw _ (List.mem_of_getElem? (i := 14) rfl))) Via.refl e15 f16 (g := (mkF m 14 #[.val (.ref b), .val (.int (1 : Int32)), .val (.int (1 : Int32)), .val (.int (8 : Int32))] [(.ref b)])) rfl rfl (hb hby d_prog_13_method_5_14)
  refine Go.st st17 ?_
  show Go p e below P (T17.setTop (mkF m 17 #[.val (.ref b), .val (.int (1 : Int32)), .val (.int (1 : Int32)), .val (.int (8 : Int32))] [(.ref t)]))
  refine Go.st (fun _ kt => XS.iloadN X17.here hx rfl (hb hby d_prog_13_method_5_17) rfl (Jvm.Free.XT.dup2 X17.here hx rfl (hb hby d_prog_13_method_5_18) rfl rfl rfl (aryLdI X17 hx hZ e17 V11 (j := (8 : Int32)) (i := 8) ⟨by decide, by decide⟩ (by decide) (g := (mkF m 19 #[.val (.ref b), .val (.int (1 : Int32)), .val (.int (1 : Int32)), .val (.int (8 : Int32))] [(.int (8 : Int32)), (.ref t), (.int (8 : Int32)), (.ref t)])) rfl rfl (hb hby d_prog_13_method_5_19) _ (XS.iloadN X17.here hx rfl (hb hby d_prog_13_method_5_20) rfl (XS.iadd X17.here hx rfl (hb hby d_prog_13_method_5_21) rfl kt))))) ?_
  show Go p e below P (T17.setTop (mkF m 22 #[.val (.ref b), .val (.int (1 : Int32)), .val (.int (1 : Int32)), .val (.int (8 : Int32))] [(.int ((F 8) + (1 : Int32))), (.int (8 : Int32)), (.ref t)]))
  obtain ⟨T18, h18, X18, e18, W18, V18, st18⟩ := aryStI X17 hx hZ e17 V11 (j := (8 : Int32)) (x := ((F 8) + (1 : Int32))) (i := 8) ⟨by decide, by decide⟩ (by decide) (g := (mkF m 22 #[.val (.ref b), .val (.int (1 : Int32)), .val (.int (1 : Int32)), .val (.int (8 : Int32))] [(.int ((F 8) + (1 : Int32))), (.int (8 : Int32)), (.ref t)])) rfl rfl (hb hby d_prog_13_method_5_22)
  have K19 := Keep.wr K12 W18 (Or.inl (List.mem_of_getElem? (i := 0) rfl))
  have Z20 : n0 ≤ h18.size := by rw [W18.size]; exact Z13
  have N21 := Fr.snoc X18 N14 Gt
  refine Go.st st18 ?_
  show Go p e below P (T18.setTop (mkF m 23 #[.val (.ref b), .val (.int (1 : Int32)), .val (.int (1 : Int32)), .val (.int (8 : Int32))] []))
  refine Go.st (fun _ kt => XS.iloadN X18.here hx rfl (hb hby d_prog_13_method_5_23) rfl (XS.iloadN X18.here hx rfl (hb hby d_prog_13_method_5_24) rfl (XS.iloadN X18.here hx rfl (hb hby d_prog_13_method_5_25) rfl (XS.ineg X18.here hx rfl (hb hby d_prog_13_method_5_26) rfl (XS.iand X18.here hx rfl (hb hby d_prog_13_method_5_27) rfl (XS.iadd X18.here hx rfl (hb hby d_prog_13_method_5_28) rfl (XS.istoreN X18.here hx rfl (hb hby d_prog_13_method_5_29) rfl (l' := #[.val (.ref b), .val (.int (1 : Int32)), .val (.int (1 : Int32)), .val (.int ((8 : Int32) + ((8 : Int32) &&& (-(8 : Int32)))))]) rfl (XS.goto X18.here hx rfl (pc0 := 30) (pc' := 4) rfl (hb hby d_prog_13_method_5_30) (by decide) (by decide) kt)))))))) ?_
  show Go p e below P (T18.setTop (mkF m 4 #[.val (.ref b), .val (.int (1 : Int32)), .val (.int (1 : Int32)), .val (.int ((8 : Int32) + ((8 : Int32) &&& (-(8 : Int32)))))] []))
  rw [show ((8 : Int32) + ((8 : Int32) &&& (-(8 : Int32)))) = (16 : Int32) from by decide]
  show Go p e below P (T18.setTop (mkF m 4 #[.val (.ref b), .val (.int (1 : Int32)), .val (.int (1 : Int32)), .val (.int (16 : Int32))] []))
  refine Go.st (fun _ kt => XS.iloadN X18.here hx rfl (hb hby d_prog_13_method_5_4) rfl (XS.aloadN X18.here hx rfl (hb hby d_prog_13_method_5_5) rfl rfl kt)) ?_
  show Go p e below P (T18.setTop (mkF m 6 #[.val (.ref b), .val (.int (1 : Int32)), .val (.int (1 : Int32)), .val (.int (16 : Int32))] [(.ref b), (.int (16 : Int32))]))
  have f23 := (f16.other W18 (Or.inl ne4))
  obtain ⟨T22, X22, e22, st22⟩ := getF X18 hx hZ hown (host := "") (Or.inl (hw _ (List.mem_of_getElem? (i := 14) rfl))) Via.refl e18 f23 (g := (mkF m 6 #[.val (.ref b), .val (.int (1 : Int32)), .val (.int (1 : Int32)), .val (.int (16 : Int32))] [(.ref b), (.int (16 : Int32))])) rfl rfl (hb hby d_prog_13_method_5_6)
  refine Go.st st22 ?_
  show Go p e below P (T22.setTop (mkF m 9 #[.val (.ref b), .val (.int (1 : Int32)), .val (.int (1 : Int32)), .val (.int (16 : Int32))] [(.ref t), (.int (16 : Int32))]))
  refine Go.st (fun _ kt => aryLen X22 hx hZ e22 V18 (g := (mkF m 9 #[.val (.ref b), .val (.int (1 : Int32)), .val (.int (1 : Int32)), .val (.int (16 : Int32))] [(.ref t), (.int (16 : Int32))])) rfl rfl (hb hby d_prog_13_method_5_9) _ (XS.icmpYes X22.here hx rfl (pc0 := 10) (pc' := 33) rfl (hb hby d_prog_13_method_5_10) rfl (flt (by decide : ¬ ((16 : Int32) < (9 : Int32)))).2.1 (by decide) (by decide) kt)) ?_
  show Go p e below P (T22.setTop (mkF m 33 #[.val (.ref b), .val (.int (1 : Int32)), .val (.int (1 : Int32)), .val (.int (16 : Int32))] []))
  exact goV X22 hx hret hlk (hb hby d_prog_13_method_5_33) hP (by decide) (by decide) (by rw [e22]; exact ⟨rfl, N21, K19, V18⟩)
theorem ef_rmCnt2 (m : MethodId) (b : Addr) : entryFrame m #[(.ref b), (.int (2 : Int32)), (.int (1 : Int32))] 4 = mkF m 0 #[.val (.ref b), .val (.int (2 : Int32)), .val (.int (1 : Int32)), .unset] [] := by first | (simp [entryFrame, mkF, argsToLocals, Value.category]; done) | rfl
set_option maxRecDepth 65536 in
set_option maxHeartbeats 40000000 in
theorem rmCnt2 (l : Launch) (Z : State) (a0 : Array Value) (hw : ∀ d ∈ tables_1, d.before a0 Z = true) (b : Addr) (t : Addr) (F : Nat → Int32) (h0 : Heap) (n0 : Nat) (Z0 : n0 ≤ h0.size) (Eb : Exa Z h0 b "com/example/doc_delta/docdelta/formats/IndexSet") (Ft : Fld Z h0 b "com/example/doc_delta/docdelta/formats/IndexSet" "tree" "[I" (.ref t)) (Vt : Ary Z h0 t .int Value.int 9 F) (Gt : n0 ≤ t) :
    Ct l (⟨"com/example/doc_delta/docdelta/formats/IndexSet", "count", "(II)V"⟩ : MethodName) prog_13_method_5_code 4 none [] ({ frames := 0, cells := 0, slots := 0, locals := 0 } : Room) Z #[(.ref b), (.int (2 : Int32)), (.int (1 : Int32))] h0 (fun v h L => v = none ∧ Fr n0 L ∧ Keep h0 h [t] ∧ Ary Z h t .int Value.int 9 (own_add2 F)) := by
  refine Ct.of (plainFor_of_name pn_1) (fun m => ef_rmCnt2 m b) ?_
  intro p e s m below meth c T0 X0 hx hby hml hret hlk hown hnm hZ e0 P hP
  refine Go.st (fun _ kt => XS.iloadN X0.here hx rfl (hb hby d_prog_13_method_5_0) rfl (XS.iconst X0.here hx rfl (hb hby d_prog_13_method_5_1) (XS.iadd X0.here hx rfl (hb hby d_prog_13_method_5_2) rfl (XS.istoreN X0.here hx rfl (hb hby d_prog_13_method_5_3) rfl (l' := #[.val (.ref b), .val (.int (2 : Int32)), .val (.int (1 : Int32)), .val (.int ((2 : Int32) + (1 : Int32)))]) rfl kt)))) ?_
  show Go p e below P (T0.setTop (mkF m 4 #[.val (.ref b), .val (.int (2 : Int32)), .val (.int (1 : Int32)), .val (.int ((2 : Int32) + (1 : Int32)))] []))
  rw [show ((2 : Int32) + (1 : Int32)) = (3 : Int32) from by decide]
  show Go p e below P (T0.setTop (mkF m 4 #[.val (.ref b), .val (.int (2 : Int32)), .val (.int (1 : Int32)), .val (.int (3 : Int32))] []))
  refine Go.st (fun _ kt => XS.iloadN X0.here hx rfl (hb hby d_prog_13_method_5_4) rfl (XS.aloadN X0.here hx rfl (hb hby d_prog_13_method_5_5) rfl rfl kt)) ?_
  show Go p e below P (T0.setTop (mkF m 6 #[.val (.ref b), .val (.int (2 : Int32)), .val (.int (1 : Int32)), .val (.int (3 : Int32))] [(.ref b), (.int (3 : Int32))]))
  obtain ⟨T1, X1, e1, st1⟩ := getF X0 hx hZ hown (host := "") (Or.inl (hw _ (List.mem_of_getElem? (i := 14) rfl))) Via.refl e0 Ft (g := (mkF m 6 #[.val (.ref b), .val (.int (2 : Int32)), .val (.int (1 : Int32)), .val (.int (3 : Int32))] [(.ref b), (.int (3 : Int32))])) rfl rfl (hb hby d_prog_13_method_5_6)
  refine Go.st st1 ?_
  show Go p e below P (T1.setTop (mkF m 9 #[.val (.ref b), .val (.int (2 : Int32)), .val (.int (1 : Int32)), .val (.int (3 : Int32))] [(.ref t), (.int (3 : Int32))]))
  refine Go.st (fun _ kt => aryLen X1 hx hZ e1 Vt (g := (mkF m 9 #[.val (.ref b), .val (.int (2 : Int32)), .val (.int (1 : Int32)), .val (.int (3 : Int32))] [(.ref t), (.int (3 : Int32))])) rfl rfl (hb hby d_prog_13_method_5_9) _ (XS.icmpNo X1.here hx rfl (hb hby d_prog_13_method_5_10) rfl (tlt (by decide : (3 : Int32) < (9 : Int32))).2.1 (XS.aloadN X1.here hx rfl (hb hby d_prog_13_method_5_13) rfl rfl kt))) ?_
  show Go p e below P (T1.setTop (mkF m 14 #[.val (.ref b), .val (.int (2 : Int32)), .val (.int (1 : Int32)), .val (.int (3 : Int32))] [(.ref b)]))
  obtain ⟨T2, X2, e2, st2⟩ := getF X1 hx hZ hown (host := "") (Or.inl (hw _ (List.mem_of_getElem? (i := 14) rfl))) Via.refl e1 Ft (g := (mkF m 14 #[.val (.ref b), .val (.int (2 : Int32)), .val (.int (1 : Int32)), .val (.int (3 : Int32))] [(.ref b)])) rfl rfl (hb hby d_prog_13_method_5_14)
  refine Go.st st2 ?_
  show Go p e below P (T2.setTop (mkF m 17 #[.val (.ref b), .val (.int (2 : Int32)), .val (.int (1 : Int32)), .val (.int (3 : Int32))] [(.ref t)]))
  refine Go.st (fun _ kt => XS.iloadN X2.here hx rfl (hb hby d_prog_13_method_5_17) rfl (Jvm.Free.XT.dup2 X2.here hx rfl (hb hby d_prog_13_method_5_18) rfl rfl rfl (aryLdI X2 hx hZ e2 Vt (j := (3 : Int32)) (i := 3) ⟨by decide, by decide⟩ (by decide) (g := (mkF m 19 #[.val (.ref b), .val (.int (2 : Int32)), .val (.int (1 : Int32)), .val (.int (3 : Int32))] [(.int (3 : Int32)), (.ref t), (.int (3 : Int32)), (.ref t)])) rfl rfl (hb hby d_prog_13_method_5_19) _ (XS.iloadN X2.here hx rfl (hb hby d_prog_13_method_5_20) rfl (XS.iadd X2.here hx rfl (hb hby d_prog_13_method_5_21) rfl kt))))) ?_
  show Go p e below P (T2.setTop (mkF m 22 #[.val (.ref b), .val (.int (2 : Int32)), .val (.int (1 : Int32)), .val (.int (3 : Int32))] [(.int ((F 3) + (1 : Int32))), (.int (3 : Int32)), (.ref t)]))
  have ne4 := Ary.ne Vt Eb (hw _ (List.mem_of_getElem? (i := 2) rfl))
  obtain ⟨T3, h3, X3, e3, W3, V3, st3⟩ := aryStI X2 hx hZ e2 Vt (j := (3 : Int32)) (x := ((F 3) + (1 : Int32))) (i := 3) ⟨by decide, by decide⟩ (by decide) (g := (mkF m 22 #[.val (.ref b), .val (.int (2 : Int32)), .val (.int (1 : Int32)), .val (.int (3 : Int32))] [(.int ((F 3) + (1 : Int32))), (.int (3 : Int32)), (.ref t)])) rfl rfl (hb hby d_prog_13_method_5_22)
  have K5 := Keep.wr (Keep.refl h0 [t]) W3 (Or.inl (List.mem_of_getElem? (i := 0) rfl))
  have Z6 : n0 ≤ h3.size := by rw [W3.size]; exact Z0
  have N7 := Fr.snoc X3 (Fr.nil n0) Gt
  refine Go.st st3 ?_
  show Go p e below P (T3.setTop (mkF m 23 #[.val (.ref b), .val (.int (2 : Int32)), .val (.int (1 : Int32)), .val (.int (3 : Int32))] []))
  refine Go.st (fun _ kt => XS.iloadN X3.here hx rfl (hb hby d_prog_13_method_5_23) rfl (XS.iloadN X3.here hx rfl (hb hby d_prog_13_method_5_24) rfl (XS.iloadN X3.here hx rfl (hb hby d_prog_13_method_5_25) rfl (XS.ineg X3.here hx rfl (hb hby d_prog_13_method_5_26) rfl (XS.iand X3.here hx rfl (hb hby d_prog_13_method_5_27) rfl (XS.iadd X3.here hx rfl (hb hby d_prog_13_method_5_28) rfl (XS.istoreN X3.here hx rfl (hb hby d_prog_13_method_5_29) rfl (l' := #[.val (.ref b), .val (.int (2 : Int32)), .val (.int (1 : Int32)), .val (.int ((3 : Int32) + ((3 : Int32) &&& (-(3 : Int32)))))]) rfl (XS.goto X3.here hx rfl (pc0 := 30) (pc' := 4) rfl (hb hby d_prog_13_method_5_30) (by decide) (by decide) kt)))))))) ?_
  show Go p e below P (T3.setTop (mkF m 4 #[.val (.ref b), .val (.int (2 : Int32)), .val (.int (1 : Int32)), .val (.int ((3 : Int32) + ((3 : Int32) &&& (-(3 : Int32)))))] []))
  rw [show ((3 : Int32) + ((3 : Int32) &&& (-(3 : Int32)))) = (4 : Int32) from by decide]
  show Go p e below P (T3.setTop (mkF m 4 #[.val (.ref b), .val (.int (2 : Int32)), .val (.int (1 : Int32)), .val (.int (4 : Int32))] []))
  refine Go.st (fun _ kt => XS.iloadN X3.here hx rfl (hb hby d_prog_13_method_5_4) rfl (XS.aloadN X3.here hx rfl (hb hby d_prog_13_method_5_5) rfl rfl kt)) ?_
  show Go p e below P (T3.setTop (mkF m 6 #[.val (.ref b), .val (.int (2 : Int32)), .val (.int (1 : Int32)), .val (.int (4 : Int32))] [(.ref b), (.int (4 : Int32))]))
  have f9 := (Ft.other W3 (Or.inl ne4))
  obtain ⟨T8, X8, e8, st8⟩ := getF X3 hx hZ hown (host := "") (Or.inl (hw _ (List.mem_of_getElem? (i := 14) rfl))) Via.refl e3 f9 (g := (mkF m 6 #[.val (.ref b), .val (.int (2 : Int32)), .val (.int (1 : Int32)), .val (.int (4 : Int32))] [(.ref b), (.int (4 : Int32))])) rfl rfl (hb hby d_prog_13_method_5_6)
  refine Go.st st8 ?_
  show Go p e below P (T8.setTop (mkF m 9 #[.val (.ref b), .val (.int (2 : Int32)), .val (.int (1 : Int32)), .val (.int (4 : Int32))] [(.ref t), (.int (4 : Int32))]))
  refine Go.st (fun _ kt => aryLen X8 hx hZ e8 V3 (g := (mkF m 9 #[.val (.ref b), .val (.int (2 : Int32)), .val (.int (1 : Int32)), .val (.int (4 : Int32))] [(.ref t), (.int (4 : Int32))])) rfl rfl (hb hby d_prog_13_method_5_9) _ (XS.icmpNo X8.here hx rfl (hb hby d_prog_13_method_5_10) rfl (tlt (by decide : (4 : Int32) < (9 : Int32))).2.1 (XS.aloadN X8.here hx rfl (hb hby d_prog_13_method_5_13) rfl rfl kt))) ?_
  show Go p e below P (T8.setTop (mkF m 14 #[.val (.ref b), .val (.int (2 : Int32)), .val (.int (1 : Int32)), .val (.int (4 : Int32))] [(.ref b)]))
  obtain ⟨T10, X10, e10, st10⟩ := getF X8 hx hZ hown (host := "") (Or.inl (hw _ (List.mem_of_getElem? (i := 14) rfl))) Via.refl e8 f9 (g := (mkF m 14 #[.val (.ref b), .val (.int (2 : Int32)), .val (.int (1 : Int32)), .val (.int (4 : Int32))] [(.ref b)])) rfl rfl (hb hby d_prog_13_method_5_14)
  refine Go.st st10 ?_
  show Go p e below P (T10.setTop (mkF m 17 #[.val (.ref b), .val (.int (2 : Int32)), .val (.int (1 : Int32)), .val (.int (4 : Int32))] [(.ref t)]))
  refine Go.st (fun _ kt => XS.iloadN X10.here hx rfl (hb hby d_prog_13_method_5_17) rfl (Jvm.Free.XT.dup2 X10.here hx rfl (hb hby d_prog_13_method_5_18) rfl rfl rfl (aryLdI X10 hx hZ e10 V3 (j := (4 : Int32)) (i := 4) ⟨by decide, by decide⟩ (by decide) (g := (mkF m 19 #[.val (.ref b), .val (.int (2 : Int32)), .val (.int (1 : Int32)), .val (.int (4 : Int32))] [(.int (4 : Int32)), (.ref t), (.int (4 : Int32)), (.ref t)])) rfl rfl (hb hby d_prog_13_method_5_19) _ (XS.iloadN X10.here hx rfl (hb hby d_prog_13_method_5_20) rfl (XS.iadd X10.here hx rfl (hb hby d_prog_13_method_5_21) rfl kt))))) ?_
  show Go p e below P (T10.setTop (mkF m 22 #[.val (.ref b), .val (.int (2 : Int32)), .val (.int (1 : Int32)), .val (.int (4 : Int32))] [(.int ((F 4) + (1 : Int32))), (.int (4 : Int32)), (.ref t)]))
  obtain ⟨T11, h11, X11, e11, W11, V11, st11⟩ := aryStI X10 hx hZ e10 V3 (j := (4 : Int32)) (x := ((F 4) + (1 : Int32))) (i := 4) ⟨by decide, by decide⟩ (by decide) (g := (mkF m 22 #[.val (.ref b), .val (.int (2 : Int32)), .val (.int (1 : Int32)), .val (.int (4 : Int32))] [(.int ((F 4) + (1 : Int32))), (.int (4 : Int32)), (.ref t)])) rfl rfl (hb hby d_prog_13_method_5_22)
  have K12 := Keep.wr K5 W11 (Or.inl (List.mem_of_getElem? (i := 0) rfl))
  have Z13 : n0 ≤ h11.size := by rw [W11.size]; exact Z6
  have N14 := Fr.snoc X11 N7 Gt
  refine Go.st st11 ?_
  show Go p e below P (T11.setTop (mkF m 23 #[.val (.ref b), .val (.int (2 : Int32)), .val (.int (1 : Int32)), .val (.int (4 : Int32))] []))
  refine Go.st (fun _ kt => XS.iloadN X11.here hx rfl (hb hby d_prog_13_method_5_23) rfl (XS.iloadN X11.here hx rfl (hb hby d_prog_13_method_5_24) rfl (XS.iloadN X11.here hx rfl (hb hby d_prog_13_method_5_25) rfl (XS.ineg X11.here hx rfl (hb hby d_prog_13_method_5_26) rfl (XS.iand X11.here hx rfl (hb hby d_prog_13_method_5_27) rfl (XS.iadd X11.here hx rfl (hb hby d_prog_13_method_5_28) rfl (XS.istoreN X11.here hx rfl (hb hby d_prog_13_method_5_29) rfl (l' := #[.val (.ref b), .val (.int (2 : Int32)), .val (.int (1 : Int32)), .val (.int ((4 : Int32) + ((4 : Int32) &&& (-(4 : Int32)))))]) rfl (XS.goto X11.here hx rfl (pc0 := 30) (pc' := 4) rfl (hb hby d_prog_13_method_5_30) (by decide) (by decide) kt)))))))) ?_
  show Go p e below P (T11.setTop (mkF m 4 #[.val (.ref b), .val (.int (2 : Int32)), .val (.int (1 : Int32)), .val (.int ((4 : Int32) + ((4 : Int32) &&& (-(4 : Int32)))))] []))
  rw [show ((4 : Int32) + ((4 : Int32) &&& (-(4 : Int32)))) = (8 : Int32) from by decide]
  show Go p e below P (T11.setTop (mkF m 4 #[.val (.ref b), .val (.int (2 : Int32)), .val (.int (1 : Int32)), .val (.int (8 : Int32))] []))
  refine Go.st (fun _ kt => XS.iloadN X11.here hx rfl (hb hby d_prog_13_method_5_4) rfl (XS.aloadN X11.here hx rfl (hb hby d_prog_13_method_5_5) rfl rfl kt)) ?_
  show Go p e below P (T11.setTop (mkF m 6 #[.val (.ref b), .val (.int (2 : Int32)), .val (.int (1 : Int32)), .val (.int (8 : Int32))] [(.ref b), (.int (8 : Int32))]))
  have f16 := (f9.other W11 (Or.inl ne4))
  obtain ⟨T15, X15, e15, st15⟩ := getF X11 hx hZ hown (host := "") (Or.inl (hw _ (List.mem_of_getElem? (i := 14) rfl))) Via.refl e11 f16 (g := (mkF m 6 #[.val (.ref b), .val (.int (2 : Int32)), .val (.int (1 : Int32)), .val (.int (8 : Int32))] [(.ref b), (.int (8 : Int32))])) rfl rfl (hb hby d_prog_13_method_5_6)
  refine Go.st st15 ?_
  show Go p e below P (T15.setTop (mkF m 9 #[.val (.ref b), .val (.int (2 : Int32)), .val (.int (1 : Int32)), .val (.int (8 : Int32))] [(.ref t), (.int (8 : Int32))]))
  refine Go.st (fun _ kt => aryLen X15 hx hZ e15 V11 (g := (mkF m 9 #[.val (.ref b), .val (.int (2 : Int32)), .val (.int (1 : Int32)), .val (.int (8 : Int32))] [(.ref t), (.int (8 : Int32))])) rfl rfl (hb hby d_prog_13_method_5_9) _ (XS.icmpNo X15.here hx rfl (hb hby d_prog_13_method_5_10) rfl (tlt (by decide : (8 : Int32) < (9 : Int32))).2.1 (XS.aloadN X15.here hx rfl (hb hby d_prog_13_method_5_13) rfl rfl kt))) ?_
  show Go p e below P (T15.setTop (mkF m 14 #[.val (.ref b), .val (.int (2 : Int32)), .val (.int (1 : Int32)), .val (.int (8 : Int32))] [(.ref b)]))
  obtain ⟨T17, X17, e17, st17⟩ := getF X15 hx hZ hown (host := "") (Or.inl (hw _ (List.mem_of_getElem? (i := 14) rfl))) Via.refl e15 f16 (g := (mkF m 14 #[.val (.ref b), .val (.int (2 : Int32)), .val (.int (1 : Int32)), .val (.int (8 : Int32))] [(.ref b)])) rfl rfl (hb hby d_prog_13_method_5_14)
  refine Go.st st17 ?_
  show Go p e below P (T17.setTop (mkF m 17 #[.val (.ref b), .val (.int (2 : Int32)), .val (.int (1 : Int32)), .val (.int (8 : Int32))] [(.ref t)]))
  refine Go.st (fun _ kt => XS.iloadN X17.here hx rfl (hb hby d_prog_13_method_5_17) rfl (Jvm.Free.XT.dup2 X17.here hx rfl (hb hby d_prog_13_method_5_18) rfl rfl rfl (aryLdI X17 hx hZ e17 V11 (j := (8 : Int32)) (i := 8) ⟨by decide, by decide⟩ (by decide) (g := (mkF m 19 #[.val (.ref b), .val (.int (2 : Int32)), .val (.int (1 : Int32)), .val (.int (8 : Int32))] [(.int (8 : Int32)), (.ref t), (.int (8 : Int32)), (.ref t)])) rfl rfl (hb hby d_prog_13_method_5_19) _ (XS.iloadN X17.here hx rfl (hb hby d_prog_13_method_5_20) rfl (XS.iadd X17.here hx rfl (hb hby d_prog_13_method_5_21) rfl kt))))) ?_
  show Go p e below P (T17.setTop (mkF m 22 #[.val (.ref b), .val (.int (2 : Int32)), .val (.int (1 : Int32)), .val (.int (8 : Int32))] [(.int ((F 8) + (1 : Int32))), (.int (8 : Int32)), (.ref t)]))
  obtain ⟨T18, h18, X18, e18, W18, V18, st18⟩ := aryStI X17 hx hZ e17 V11 (j := (8 : Int32)) (x := ((F 8) + (1 : Int32))) (i := 8) ⟨by decide, by decide⟩ (by decide) (g := (mkF m 22 #[.val (.ref b), .val (.int (2 : Int32)), .val (.int (1 : Int32)), .val (.int (8 : Int32))] [(.int ((F 8) + (1 : Int32))), (.int (8 : Int32)), (.ref t)])) rfl rfl (hb hby d_prog_13_method_5_22)
  have K19 := Keep.wr K12 W18 (Or.inl (List.mem_of_getElem? (i := 0) rfl))
  have Z20 : n0 ≤ h18.size := by rw [W18.size]; exact Z13
  have N21 := Fr.snoc X18 N14 Gt
  refine Go.st st18 ?_
  show Go p e below P (T18.setTop (mkF m 23 #[.val (.ref b), .val (.int (2 : Int32)), .val (.int (1 : Int32)), .val (.int (8 : Int32))] []))
  refine Go.st (fun _ kt => XS.iloadN X18.here hx rfl (hb hby d_prog_13_method_5_23) rfl (XS.iloadN X18.here hx rfl (hb hby d_prog_13_method_5_24) rfl (XS.iloadN X18.here hx rfl (hb hby d_prog_13_method_5_25) rfl (XS.ineg X18.here hx rfl (hb hby d_prog_13_method_5_26) rfl (XS.iand X18.here hx rfl (hb hby d_prog_13_method_5_27) rfl (XS.iadd X18.here hx rfl (hb hby d_prog_13_method_5_28) rfl (XS.istoreN X18.here hx rfl (hb hby d_prog_13_method_5_29) rfl (l' := #[.val (.ref b), .val (.int (2 : Int32)), .val (.int (1 : Int32)), .val (.int ((8 : Int32) + ((8 : Int32) &&& (-(8 : Int32)))))]) rfl (XS.goto X18.here hx rfl (pc0 := 30) (pc' := 4) rfl (hb hby d_prog_13_method_5_30) (by decide) (by decide) kt)))))))) ?_
  show Go p e below P (T18.setTop (mkF m 4 #[.val (.ref b), .val (.int (2 : Int32)), .val (.int (1 : Int32)), .val (.int ((8 : Int32) + ((8 : Int32) &&& (-(8 : Int32)))))] []))
  rw [show ((8 : Int32) + ((8 : Int32) &&& (-(8 : Int32)))) = (16 : Int32) from by decide]
  show Go p e below P (T18.setTop (mkF m 4 #[.val (.ref b), .val (.int (2 : Int32)), .val (.int (1 : Int32)), .val (.int (16 : Int32))] []))
  refine Go.st (fun _ kt => XS.iloadN X18.here hx rfl (hb hby d_prog_13_method_5_4) rfl (XS.aloadN X18.here hx rfl (hb hby d_prog_13_method_5_5) rfl rfl kt)) ?_
  show Go p e below P (T18.setTop (mkF m 6 #[.val (.ref b), .val (.int (2 : Int32)), .val (.int (1 : Int32)), .val (.int (16 : Int32))] [(.ref b), (.int (16 : Int32))]))
  have f23 := (f16.other W18 (Or.inl ne4))
  obtain ⟨T22, X22, e22, st22⟩ := getF X18 hx hZ hown (host := "") (Or.inl (hw _ (List.mem_of_getElem? (i := 14) rfl))) Via.refl e18 f23 (g := (mkF m 6 #[.val (.ref b), .val (.int (2 : Int32)), .val (.int (1 : Int32)), .val (.int (16 : Int32))] [(.ref b), (.int (16 : Int32))])) rfl rfl (hb hby d_prog_13_method_5_6)
  refine Go.st st22 ?_
  show Go p e below P (T22.setTop (mkF m 9 #[.val (.ref b), .val (.int (2 : Int32)), .val (.int (1 : Int32)), .val (.int (16 : Int32))] [(.ref t), (.int (16 : Int32))]))
  refine Go.st (fun _ kt => aryLen X22 hx hZ e22 V18 (g := (mkF m 9 #[.val (.ref b), .val (.int (2 : Int32)), .val (.int (1 : Int32)), .val (.int (16 : Int32))] [(.ref t), (.int (16 : Int32))])) rfl rfl (hb hby d_prog_13_method_5_9) _ (XS.icmpYes X22.here hx rfl (pc0 := 10) (pc' := 33) rfl (hb hby d_prog_13_method_5_10) rfl (flt (by decide : ¬ ((16 : Int32) < (9 : Int32)))).2.1 (by decide) (by decide) kt)) ?_
  show Go p e below P (T22.setTop (mkF m 33 #[.val (.ref b), .val (.int (2 : Int32)), .val (.int (1 : Int32)), .val (.int (16 : Int32))] []))
  exact goV X22 hx hret hlk (hb hby d_prog_13_method_5_33) hP (by decide) (by decide) (by rw [e22]; exact ⟨rfl, N21, K19, V18⟩)
theorem ef_rmCnt3 (m : MethodId) (b : Addr) : entryFrame m #[(.ref b), (.int (3 : Int32)), (.int (1 : Int32))] 4 = mkF m 0 #[.val (.ref b), .val (.int (3 : Int32)), .val (.int (1 : Int32)), .unset] [] := by first | (simp [entryFrame, mkF, argsToLocals, Value.category]; done) | rfl
set_option maxRecDepth 65536 in
set_option maxHeartbeats 40000000 in
theorem rmCnt3 (l : Launch) (Z : State) (a0 : Array Value) (hw : ∀ d ∈ tables_1, d.before a0 Z = true) (b : Addr) (t : Addr) (F : Nat → Int32) (h0 : Heap) (n0 : Nat) (Z0 : n0 ≤ h0.size) (Eb : Exa Z h0 b "com/example/doc_delta/docdelta/formats/IndexSet") (Ft : Fld Z h0 b "com/example/doc_delta/docdelta/formats/IndexSet" "tree" "[I" (.ref t)) (Vt : Ary Z h0 t .int Value.int 9 F) (Gt : n0 ≤ t) :
    Ct l (⟨"com/example/doc_delta/docdelta/formats/IndexSet", "count", "(II)V"⟩ : MethodName) prog_13_method_5_code 4 none [] ({ frames := 0, cells := 0, slots := 0, locals := 0 } : Room) Z #[(.ref b), (.int (3 : Int32)), (.int (1 : Int32))] h0 (fun v h L => v = none ∧ Fr n0 L ∧ Keep h0 h [t] ∧ Ary Z h t .int Value.int 9 (own_add3 F)) := by
  refine Ct.of (plainFor_of_name pn_1) (fun m => ef_rmCnt3 m b) ?_
  intro p e s m below meth c T0 X0 hx hby hml hret hlk hown hnm hZ e0 P hP
  refine Go.st (fun _ kt => XS.iloadN X0.here hx rfl (hb hby d_prog_13_method_5_0) rfl (XS.iconst X0.here hx rfl (hb hby d_prog_13_method_5_1) (XS.iadd X0.here hx rfl (hb hby d_prog_13_method_5_2) rfl (XS.istoreN X0.here hx rfl (hb hby d_prog_13_method_5_3) rfl (l' := #[.val (.ref b), .val (.int (3 : Int32)), .val (.int (1 : Int32)), .val (.int ((3 : Int32) + (1 : Int32)))]) rfl kt)))) ?_
  show Go p e below P (T0.setTop (mkF m 4 #[.val (.ref b), .val (.int (3 : Int32)), .val (.int (1 : Int32)), .val (.int ((3 : Int32) + (1 : Int32)))] []))
  rw [show ((3 : Int32) + (1 : Int32)) = (4 : Int32) from by decide]
  show Go p e below P (T0.setTop (mkF m 4 #[.val (.ref b), .val (.int (3 : Int32)), .val (.int (1 : Int32)), .val (.int (4 : Int32))] []))
  refine Go.st (fun _ kt => XS.iloadN X0.here hx rfl (hb hby d_prog_13_method_5_4) rfl (XS.aloadN X0.here hx rfl (hb hby d_prog_13_method_5_5) rfl rfl kt)) ?_
  show Go p e below P (T0.setTop (mkF m 6 #[.val (.ref b), .val (.int (3 : Int32)), .val (.int (1 : Int32)), .val (.int (4 : Int32))] [(.ref b), (.int (4 : Int32))]))
  obtain ⟨T1, X1, e1, st1⟩ := getF X0 hx hZ hown (host := "") (Or.inl (hw _ (List.mem_of_getElem? (i := 14) rfl))) Via.refl e0 Ft (g := (mkF m 6 #[.val (.ref b), .val (.int (3 : Int32)), .val (.int (1 : Int32)), .val (.int (4 : Int32))] [(.ref b), (.int (4 : Int32))])) rfl rfl (hb hby d_prog_13_method_5_6)
  refine Go.st st1 ?_
  show Go p e below P (T1.setTop (mkF m 9 #[.val (.ref b), .val (.int (3 : Int32)), .val (.int (1 : Int32)), .val (.int (4 : Int32))] [(.ref t), (.int (4 : Int32))]))
  refine Go.st (fun _ kt => aryLen X1 hx hZ e1 Vt (g := (mkF m 9 #[.val (.ref b), .val (.int (3 : Int32)), .val (.int (1 : Int32)), .val (.int (4 : Int32))] [(.ref t), (.int (4 : Int32))])) rfl rfl (hb hby d_prog_13_method_5_9) _ (XS.icmpNo X1.here hx rfl (hb hby d_prog_13_method_5_10) rfl (tlt (by decide : (4 : Int32) < (9 : Int32))).2.1 (XS.aloadN X1.here hx rfl (hb hby d_prog_13_method_5_13) rfl rfl kt))) ?_
  show Go p e below P (T1.setTop (mkF m 14 #[.val (.ref b), .val (.int (3 : Int32)), .val (.int (1 : Int32)), .val (.int (4 : Int32))] [(.ref b)]))
  obtain ⟨T2, X2, e2, st2⟩ := getF X1 hx hZ hown (host := "") (Or.inl (hw _ (List.mem_of_getElem? (i := 14) rfl))) Via.refl e1 Ft (g := (mkF m 14 #[.val (.ref b), .val (.int (3 : Int32)), .val (.int (1 : Int32)), .val (.int (4 : Int32))] [(.ref b)])) rfl rfl (hb hby d_prog_13_method_5_14)
  refine Go.st st2 ?_
  show Go p e below P (T2.setTop (mkF m 17 #[.val (.ref b), .val (.int (3 : Int32)), .val (.int (1 : Int32)), .val (.int (4 : Int32))] [(.ref t)]))
  refine Go.st (fun _ kt => XS.iloadN X2.here hx rfl (hb hby d_prog_13_method_5_17) rfl (Jvm.Free.XT.dup2 X2.here hx rfl (hb hby d_prog_13_method_5_18) rfl rfl rfl (aryLdI X2 hx hZ e2 Vt (j := (4 : Int32)) (i := 4) ⟨by decide, by decide⟩ (by decide) (g := (mkF m 19 #[.val (.ref b), .val (.int (3 : Int32)), .val (.int (1 : Int32)), .val (.int (4 : Int32))] [(.int (4 : Int32)), (.ref t), (.int (4 : Int32)), (.ref t)])) rfl rfl (hb hby d_prog_13_method_5_19) _ (XS.iloadN X2.here hx rfl (hb hby d_prog_13_method_5_20) rfl (XS.iadd X2.here hx rfl (hb hby d_prog_13_method_5_21) rfl kt))))) ?_
  show Go p e below P (T2.setTop (mkF m 22 #[.val (.ref b), .val (.int (3 : Int32)), .val (.int (1 : Int32)), .val (.int (4 : Int32))] [(.int ((F 4) + (1 : Int32))), (.int (4 : Int32)), (.ref t)]))
  have ne4 := Ary.ne Vt Eb (hw _ (List.mem_of_getElem? (i := 2) rfl))
  obtain ⟨T3, h3, X3, e3, W3, V3, st3⟩ := aryStI X2 hx hZ e2 Vt (j := (4 : Int32)) (x := ((F 4) + (1 : Int32))) (i := 4) ⟨by decide, by decide⟩ (by decide) (g := (mkF m 22 #[.val (.ref b), .val (.int (3 : Int32)), .val (.int (1 : Int32)), .val (.int (4 : Int32))] [(.int ((F 4) + (1 : Int32))), (.int (4 : Int32)), (.ref t)])) rfl rfl (hb hby d_prog_13_method_5_22)
  have K5 := Keep.wr (Keep.refl h0 [t]) W3 (Or.inl (List.mem_of_getElem? (i := 0) rfl))
  have Z6 : n0 ≤ h3.size := by rw [W3.size]; exact Z0
  have N7 := Fr.snoc X3 (Fr.nil n0) Gt
  refine Go.st st3 ?_
  show Go p e below P (T3.setTop (mkF m 23 #[.val (.ref b), .val (.int (3 : Int32)), .val (.int (1 : Int32)), .val (.int (4 : Int32))] []))
  refine Go.st (fun _ kt => XS.iloadN X3.here hx rfl (hb hby d_prog_13_method_5_23) rfl (XS.iloadN X3.here hx rfl (hb hby d_prog_13_method_5_24) rfl (XS.iloadN X3.here hx rfl (hb hby d_prog_13_method_5_25) rfl (XS.ineg X3.here hx rfl (hb hby d_prog_13_method_5_26) rfl (XS.iand X3.here hx rfl (hb hby d_prog_13_method_5_27) rfl (XS.iadd X3.here hx rfl (hb hby d_prog_13_method_5_28) rfl (XS.istoreN X3.here hx rfl (hb hby d_prog_13_method_5_29) rfl (l' := #[.val (.ref b), .val (.int (3 : Int32)), .val (.int (1 : Int32)), .val (.int ((4 : Int32) + ((4 : Int32) &&& (-(4 : Int32)))))]) rfl (XS.goto X3.here hx rfl (pc0 := 30) (pc' := 4) rfl (hb hby d_prog_13_method_5_30) (by decide) (by decide) kt)))))))) ?_
  show Go p e below P (T3.setTop (mkF m 4 #[.val (.ref b), .val (.int (3 : Int32)), .val (.int (1 : Int32)), .val (.int ((4 : Int32) + ((4 : Int32) &&& (-(4 : Int32)))))] []))
  rw [show ((4 : Int32) + ((4 : Int32) &&& (-(4 : Int32)))) = (8 : Int32) from by decide]
  show Go p e below P (T3.setTop (mkF m 4 #[.val (.ref b), .val (.int (3 : Int32)), .val (.int (1 : Int32)), .val (.int (8 : Int32))] []))
  refine Go.st (fun _ kt => XS.iloadN X3.here hx rfl (hb hby d_prog_13_method_5_4) rfl (XS.aloadN X3.here hx rfl (hb hby d_prog_13_method_5_5) rfl rfl kt)) ?_
  show Go p e below P (T3.setTop (mkF m 6 #[.val (.ref b), .val (.int (3 : Int32)), .val (.int (1 : Int32)), .val (.int (8 : Int32))] [(.ref b), (.int (8 : Int32))]))
  have f9 := (Ft.other W3 (Or.inl ne4))
  obtain ⟨T8, X8, e8, st8⟩ := getF X3 hx hZ hown (host := "") (Or.inl (hw _ (List.mem_of_getElem? (i := 14) rfl))) Via.refl e3 f9 (g := (mkF m 6 #[.val (.ref b), .val (.int (3 : Int32)), .val (.int (1 : Int32)), .val (.int (8 : Int32))] [(.ref b), (.int (8 : Int32))])) rfl rfl (hb hby d_prog_13_method_5_6)
  refine Go.st st8 ?_
  show Go p e below P (T8.setTop (mkF m 9 #[.val (.ref b), .val (.int (3 : Int32)), .val (.int (1 : Int32)), .val (.int (8 : Int32))] [(.ref t), (.int (8 : Int32))]))
  refine Go.st (fun _ kt => aryLen X8 hx hZ e8 V3 (g := (mkF m 9 #[.val (.ref b), .val (.int (3 : Int32)), .val (.int (1 : Int32)), .val (.int (8 : Int32))] [(.ref t), (.int (8 : Int32))])) rfl rfl (hb hby d_prog_13_method_5_9) _ (XS.icmpNo X8.here hx rfl (hb hby d_prog_13_method_5_10) rfl (tlt (by decide : (8 : Int32) < (9 : Int32))).2.1 (XS.aloadN X8.here hx rfl (hb hby d_prog_13_method_5_13) rfl rfl kt))) ?_
  show Go p e below P (T8.setTop (mkF m 14 #[.val (.ref b), .val (.int (3 : Int32)), .val (.int (1 : Int32)), .val (.int (8 : Int32))] [(.ref b)]))
  obtain ⟨T10, X10, e10, st10⟩ := getF X8 hx hZ hown (host := "") (Or.inl (hw _ (List.mem_of_getElem? (i := 14) rfl))) Via.refl e8 f9 (g := (mkF m 14 #[.val (.ref b), .val (.int (3 : Int32)), .val (.int (1 : Int32)), .val (.int (8 : Int32))] [(.ref b)])) rfl rfl (hb hby d_prog_13_method_5_14)
  refine Go.st st10 ?_
  show Go p e below P (T10.setTop (mkF m 17 #[.val (.ref b), .val (.int (3 : Int32)), .val (.int (1 : Int32)), .val (.int (8 : Int32))] [(.ref t)]))
  refine Go.st (fun _ kt => XS.iloadN X10.here hx rfl (hb hby d_prog_13_method_5_17) rfl (Jvm.Free.XT.dup2 X10.here hx rfl (hb hby d_prog_13_method_5_18) rfl rfl rfl (aryLdI X10 hx hZ e10 V3 (j := (8 : Int32)) (i := 8) ⟨by decide, by decide⟩ (by decide) (g := (mkF m 19 #[.val (.ref b), .val (.int (3 : Int32)), .val (.int (1 : Int32)), .val (.int (8 : Int32))] [(.int (8 : Int32)), (.ref t), (.int (8 : Int32)), (.ref t)])) rfl rfl (hb hby d_prog_13_method_5_19) _ (XS.iloadN X10.here hx rfl (hb hby d_prog_13_method_5_20) rfl (XS.iadd X10.here hx rfl (hb hby d_prog_13_method_5_21) rfl kt))))) ?_
  show Go p e below P (T10.setTop (mkF m 22 #[.val (.ref b), .val (.int (3 : Int32)), .val (.int (1 : Int32)), .val (.int (8 : Int32))] [(.int ((F 8) + (1 : Int32))), (.int (8 : Int32)), (.ref t)]))
  obtain ⟨T11, h11, X11, e11, W11, V11, st11⟩ := aryStI X10 hx hZ e10 V3 (j := (8 : Int32)) (x := ((F 8) + (1 : Int32))) (i := 8) ⟨by decide, by decide⟩ (by decide) (g := (mkF m 22 #[.val (.ref b), .val (.int (3 : Int32)), .val (.int (1 : Int32)), .val (.int (8 : Int32))] [(.int ((F 8) + (1 : Int32))), (.int (8 : Int32)), (.ref t)])) rfl rfl (hb hby d_prog_13_method_5_22)
  have K12 := Keep.wr K5 W11 (Or.inl (List.mem_of_getElem? (i := 0) rfl))
  have Z13 : n0 ≤ h11.size := by rw [W11.size]; exact Z6
  have N14 := Fr.snoc X11 N7 Gt
  refine Go.st st11 ?_
  show Go p e below P (T11.setTop (mkF m 23 #[.val (.ref b), .val (.int (3 : Int32)), .val (.int (1 : Int32)), .val (.int (8 : Int32))] []))
  refine Go.st (fun _ kt => XS.iloadN X11.here hx rfl (hb hby d_prog_13_method_5_23) rfl (XS.iloadN X11.here hx rfl (hb hby d_prog_13_method_5_24) rfl (XS.iloadN X11.here hx rfl (hb hby d_prog_13_method_5_25) rfl (XS.ineg X11.here hx rfl (hb hby d_prog_13_method_5_26) rfl (XS.iand X11.here hx rfl (hb hby d_prog_13_method_5_27) rfl (XS.iadd X11.here hx rfl (hb hby d_prog_13_method_5_28) rfl (XS.istoreN X11.here hx rfl (hb hby d_prog_13_method_5_29) rfl (l' := #[.val (.ref b), .val (.int (3 : Int32)), .val (.int (1 : Int32)), .val (.int ((8 : Int32) + ((8 : Int32) &&& (-(8 : Int32)))))]) rfl (XS.goto X11.here hx rfl (pc0 := 30) (pc' := 4) rfl (hb hby d_prog_13_method_5_30) (by decide) (by decide) kt)))))))) ?_
  show Go p e below P (T11.setTop (mkF m 4 #[.val (.ref b), .val (.int (3 : Int32)), .val (.int (1 : Int32)), .val (.int ((8 : Int32) + ((8 : Int32) &&& (-(8 : Int32)))))] []))
  rw [show ((8 : Int32) + ((8 : Int32) &&& (-(8 : Int32)))) = (16 : Int32) from by decide]
  show Go p e below P (T11.setTop (mkF m 4 #[.val (.ref b), .val (.int (3 : Int32)), .val (.int (1 : Int32)), .val (.int (16 : Int32))] []))
  refine Go.st (fun _ kt => XS.iloadN X11.here hx rfl (hb hby d_prog_13_method_5_4) rfl (XS.aloadN X11.here hx rfl (hb hby d_prog_13_method_5_5) rfl rfl kt)) ?_
  show Go p e below P (T11.setTop (mkF m 6 #[.val (.ref b), .val (.int (3 : Int32)), .val (.int (1 : Int32)), .val (.int (16 : Int32))] [(.ref b), (.int (16 : Int32))]))
  have f16 := (f9.other W11 (Or.inl ne4))
  obtain ⟨T15, X15, e15, st15⟩ := getF X11 hx hZ hown (host := "") (Or.inl (hw _ (List.mem_of_getElem? (i := 14) rfl))) Via.refl e11 f16 (g := (mkF m 6 #[.val (.ref b), .val (.int (3 : Int32)), .val (.int (1 : Int32)), .val (.int (16 : Int32))] [(.ref b), (.int (16 : Int32))])) rfl rfl (hb hby d_prog_13_method_5_6)
  refine Go.st st15 ?_
  show Go p e below P (T15.setTop (mkF m 9 #[.val (.ref b), .val (.int (3 : Int32)), .val (.int (1 : Int32)), .val (.int (16 : Int32))] [(.ref t), (.int (16 : Int32))]))
  refine Go.st (fun _ kt => aryLen X15 hx hZ e15 V11 (g := (mkF m 9 #[.val (.ref b), .val (.int (3 : Int32)), .val (.int (1 : Int32)), .val (.int (16 : Int32))] [(.ref t), (.int (16 : Int32))])) rfl rfl (hb hby d_prog_13_method_5_9) _ (XS.icmpYes X15.here hx rfl (pc0 := 10) (pc' := 33) rfl (hb hby d_prog_13_method_5_10) rfl (flt (by decide : ¬ ((16 : Int32) < (9 : Int32)))).2.1 (by decide) (by decide) kt)) ?_
  show Go p e below P (T15.setTop (mkF m 33 #[.val (.ref b), .val (.int (3 : Int32)), .val (.int (1 : Int32)), .val (.int (16 : Int32))] []))
  exact goV X15 hx hret hlk (hb hby d_prog_13_method_5_33) hP (by decide) (by decide) (by rw [e15]; exact ⟨rfl, N14, K12, V11⟩)
theorem ef_rmCnt4 (m : MethodId) (b : Addr) : entryFrame m #[(.ref b), (.int (4 : Int32)), (.int (1 : Int32))] 4 = mkF m 0 #[.val (.ref b), .val (.int (4 : Int32)), .val (.int (1 : Int32)), .unset] [] := by first | (simp [entryFrame, mkF, argsToLocals, Value.category]; done) | rfl
set_option maxRecDepth 65536 in
set_option maxHeartbeats 40000000 in
theorem rmCnt4 (l : Launch) (Z : State) (a0 : Array Value) (hw : ∀ d ∈ tables_1, d.before a0 Z = true) (b : Addr) (t : Addr) (F : Nat → Int32) (h0 : Heap) (n0 : Nat) (Z0 : n0 ≤ h0.size) (Eb : Exa Z h0 b "com/example/doc_delta/docdelta/formats/IndexSet") (Ft : Fld Z h0 b "com/example/doc_delta/docdelta/formats/IndexSet" "tree" "[I" (.ref t)) (Vt : Ary Z h0 t .int Value.int 9 F) (Gt : n0 ≤ t) :
    Ct l (⟨"com/example/doc_delta/docdelta/formats/IndexSet", "count", "(II)V"⟩ : MethodName) prog_13_method_5_code 4 none [] ({ frames := 0, cells := 0, slots := 0, locals := 0 } : Room) Z #[(.ref b), (.int (4 : Int32)), (.int (1 : Int32))] h0 (fun v h L => v = none ∧ Fr n0 L ∧ Keep h0 h [t] ∧ Ary Z h t .int Value.int 9 (own_add4 F)) := by
  refine Ct.of (plainFor_of_name pn_1) (fun m => ef_rmCnt4 m b) ?_
  intro p e s m below meth c T0 X0 hx hby hml hret hlk hown hnm hZ e0 P hP
  refine Go.st (fun _ kt => XS.iloadN X0.here hx rfl (hb hby d_prog_13_method_5_0) rfl (XS.iconst X0.here hx rfl (hb hby d_prog_13_method_5_1) (XS.iadd X0.here hx rfl (hb hby d_prog_13_method_5_2) rfl (XS.istoreN X0.here hx rfl (hb hby d_prog_13_method_5_3) rfl (l' := #[.val (.ref b), .val (.int (4 : Int32)), .val (.int (1 : Int32)), .val (.int ((4 : Int32) + (1 : Int32)))]) rfl kt)))) ?_
  show Go p e below P (T0.setTop (mkF m 4 #[.val (.ref b), .val (.int (4 : Int32)), .val (.int (1 : Int32)), .val (.int ((4 : Int32) + (1 : Int32)))] []))
  rw [show ((4 : Int32) + (1 : Int32)) = (5 : Int32) from by decide]
  show Go p e below P (T0.setTop (mkF m 4 #[.val (.ref b), .val (.int (4 : Int32)), .val (.int (1 : Int32)), .val (.int (5 : Int32))] []))
  refine Go.st (fun _ kt => XS.iloadN X0.here hx rfl (hb hby d_prog_13_method_5_4) rfl (XS.aloadN X0.here hx rfl (hb hby d_prog_13_method_5_5) rfl rfl kt)) ?_
  show Go p e below P (T0.setTop (mkF m 6 #[.val (.ref b), .val (.int (4 : Int32)), .val (.int (1 : Int32)), .val (.int (5 : Int32))] [(.ref b), (.int (5 : Int32))]))
  obtain ⟨T1, X1, e1, st1⟩ := getF X0 hx hZ hown (host := "") (Or.inl (hw _ (List.mem_of_getElem? (i := 14) rfl))) Via.refl e0 Ft (g := (mkF m 6 #[.val (.ref b), .val (.int (4 : Int32)), .val (.int (1 : Int32)), .val (.int (5 : Int32))] [(.ref b), (.int (5 : Int32))])) rfl rfl (hb hby d_prog_13_method_5_6)
  refine Go.st st1 ?_
  show Go p e below P (T1.setTop (mkF m 9 #[.val (.ref b), .val (.int (4 : Int32)), .val (.int (1 : Int32)), .val (.int (5 : Int32))] [(.ref t), (.int (5 : Int32))]))
  refine Go.st (fun _ kt => aryLen X1 hx hZ e1 Vt (g := (mkF m 9 #[.val (.ref b), .val (.int (4 : Int32)), .val (.int (1 : Int32)), .val (.int (5 : Int32))] [(.ref t), (.int (5 : Int32))])) rfl rfl (hb hby d_prog_13_method_5_9) _ (XS.icmpNo X1.here hx rfl (hb hby d_prog_13_method_5_10) rfl (tlt (by decide : (5 : Int32) < (9 : Int32))).2.1 (XS.aloadN X1.here hx rfl (hb hby d_prog_13_method_5_13) rfl rfl kt))) ?_
  show Go p e below P (T1.setTop (mkF m 14 #[.val (.ref b), .val (.int (4 : Int32)), .val (.int (1 : Int32)), .val (.int (5 : Int32))] [(.ref b)]))
  obtain ⟨T2, X2, e2, st2⟩ := getF X1 hx hZ hown (host := "") (Or.inl (hw _ (List.mem_of_getElem? (i := 14) rfl))) Via.refl e1 Ft (g := (mkF m 14 #[.val (.ref b), .val (.int (4 : Int32)), .val (.int (1 : Int32)), .val (.int (5 : Int32))] [(.ref b)])) rfl rfl (hb hby d_prog_13_method_5_14)
  refine Go.st st2 ?_
  show Go p e below P (T2.setTop (mkF m 17 #[.val (.ref b), .val (.int (4 : Int32)), .val (.int (1 : Int32)), .val (.int (5 : Int32))] [(.ref t)]))
  refine Go.st (fun _ kt => XS.iloadN X2.here hx rfl (hb hby d_prog_13_method_5_17) rfl (Jvm.Free.XT.dup2 X2.here hx rfl (hb hby d_prog_13_method_5_18) rfl rfl rfl (aryLdI X2 hx hZ e2 Vt (j := (5 : Int32)) (i := 5) ⟨by decide, by decide⟩ (by decide) (g := (mkF m 19 #[.val (.ref b), .val (.int (4 : Int32)), .val (.int (1 : Int32)), .val (.int (5 : Int32))] [(.int (5 : Int32)), (.ref t), (.int (5 : Int32)), (.ref t)])) rfl rfl (hb hby d_prog_13_method_5_19) _ (XS.iloadN X2.here hx rfl (hb hby d_prog_13_method_5_20) rfl (XS.iadd X2.here hx rfl (hb hby d_prog_13_method_5_21) rfl kt))))) ?_
  show Go p e below P (T2.setTop (mkF m 22 #[.val (.ref b), .val (.int (4 : Int32)), .val (.int (1 : Int32)), .val (.int (5 : Int32))] [(.int ((F 5) + (1 : Int32))), (.int (5 : Int32)), (.ref t)]))
  have ne4 := Ary.ne Vt Eb (hw _ (List.mem_of_getElem? (i := 2) rfl))
  obtain ⟨T3, h3, X3, e3, W3, V3, st3⟩ := aryStI X2 hx hZ e2 Vt (j := (5 : Int32)) (x := ((F 5) + (1 : Int32))) (i := 5) ⟨by decide, by decide⟩ (by decide) (g := (mkF m 22 #[.val (.ref b), .val (.int (4 : Int32)), .val (.int (1 : Int32)), .val (.int (5 : Int32))] [(.int ((F 5) + (1 : Int32))), (.int (5 : Int32)), (.ref t)])) rfl rfl (hb hby d_prog_13_method_5_22)
  have K5 := Keep.wr (Keep.refl h0 [t]) W3 (Or.inl (List.mem_of_getElem? (i := 0) rfl))
  have Z6 : n0 ≤ h3.size := by rw [W3.size]; exact Z0
  have N7 := Fr.snoc X3 (Fr.nil n0) Gt
  refine Go.st st3 ?_
  show Go p e below P (T3.setTop (mkF m 23 #[.val (.ref b), .val (.int (4 : Int32)), .val (.int (1 : Int32)), .val (.int (5 : Int32))] []))
  refine Go.st (fun _ kt => XS.iloadN X3.here hx rfl (hb hby d_prog_13_method_5_23) rfl (XS.iloadN X3.here hx rfl (hb hby d_prog_13_method_5_24) rfl (XS.iloadN X3.here hx rfl (hb hby d_prog_13_method_5_25) rfl (XS.ineg X3.here hx rfl (hb hby d_prog_13_method_5_26) rfl (XS.iand X3.here hx rfl (hb hby d_prog_13_method_5_27) rfl (XS.iadd X3.here hx rfl (hb hby d_prog_13_method_5_28) rfl (XS.istoreN X3.here hx rfl (hb hby d_prog_13_method_5_29) rfl (l' := #[.val (.ref b), .val (.int (4 : Int32)), .val (.int (1 : Int32)), .val (.int ((5 : Int32) + ((5 : Int32) &&& (-(5 : Int32)))))]) rfl (XS.goto X3.here hx rfl (pc0 := 30) (pc' := 4) rfl (hb hby d_prog_13_method_5_30) (by decide) (by decide) kt)))))))) ?_
  show Go p e below P (T3.setTop (mkF m 4 #[.val (.ref b), .val (.int (4 : Int32)), .val (.int (1 : Int32)), .val (.int ((5 : Int32) + ((5 : Int32) &&& (-(5 : Int32)))))] []))
  rw [show ((5 : Int32) + ((5 : Int32) &&& (-(5 : Int32)))) = (6 : Int32) from by decide]
  show Go p e below P (T3.setTop (mkF m 4 #[.val (.ref b), .val (.int (4 : Int32)), .val (.int (1 : Int32)), .val (.int (6 : Int32))] []))
  refine Go.st (fun _ kt => XS.iloadN X3.here hx rfl (hb hby d_prog_13_method_5_4) rfl (XS.aloadN X3.here hx rfl (hb hby d_prog_13_method_5_5) rfl rfl kt)) ?_
  show Go p e below P (T3.setTop (mkF m 6 #[.val (.ref b), .val (.int (4 : Int32)), .val (.int (1 : Int32)), .val (.int (6 : Int32))] [(.ref b), (.int (6 : Int32))]))
  have f9 := (Ft.other W3 (Or.inl ne4))
  obtain ⟨T8, X8, e8, st8⟩ := getF X3 hx hZ hown (host := "") (Or.inl (hw _ (List.mem_of_getElem? (i := 14) rfl))) Via.refl e3 f9 (g := (mkF m 6 #[.val (.ref b), .val (.int (4 : Int32)), .val (.int (1 : Int32)), .val (.int (6 : Int32))] [(.ref b), (.int (6 : Int32))])) rfl rfl (hb hby d_prog_13_method_5_6)
  refine Go.st st8 ?_
  show Go p e below P (T8.setTop (mkF m 9 #[.val (.ref b), .val (.int (4 : Int32)), .val (.int (1 : Int32)), .val (.int (6 : Int32))] [(.ref t), (.int (6 : Int32))]))
  refine Go.st (fun _ kt => aryLen X8 hx hZ e8 V3 (g := (mkF m 9 #[.val (.ref b), .val (.int (4 : Int32)), .val (.int (1 : Int32)), .val (.int (6 : Int32))] [(.ref t), (.int (6 : Int32))])) rfl rfl (hb hby d_prog_13_method_5_9) _ (XS.icmpNo X8.here hx rfl (hb hby d_prog_13_method_5_10) rfl (tlt (by decide : (6 : Int32) < (9 : Int32))).2.1 (XS.aloadN X8.here hx rfl (hb hby d_prog_13_method_5_13) rfl rfl kt))) ?_
  show Go p e below P (T8.setTop (mkF m 14 #[.val (.ref b), .val (.int (4 : Int32)), .val (.int (1 : Int32)), .val (.int (6 : Int32))] [(.ref b)]))
  obtain ⟨T10, X10, e10, st10⟩ := getF X8 hx hZ hown (host := "") (Or.inl (hw _ (List.mem_of_getElem? (i := 14) rfl))) Via.refl e8 f9 (g := (mkF m 14 #[.val (.ref b), .val (.int (4 : Int32)), .val (.int (1 : Int32)), .val (.int (6 : Int32))] [(.ref b)])) rfl rfl (hb hby d_prog_13_method_5_14)
  refine Go.st st10 ?_
  show Go p e below P (T10.setTop (mkF m 17 #[.val (.ref b), .val (.int (4 : Int32)), .val (.int (1 : Int32)), .val (.int (6 : Int32))] [(.ref t)]))
  refine Go.st (fun _ kt => XS.iloadN X10.here hx rfl (hb hby d_prog_13_method_5_17) rfl (Jvm.Free.XT.dup2 X10.here hx rfl (hb hby d_prog_13_method_5_18) rfl rfl rfl (aryLdI X10 hx hZ e10 V3 (j := (6 : Int32)) (i := 6) ⟨by decide, by decide⟩ (by decide) (g := (mkF m 19 #[.val (.ref b), .val (.int (4 : Int32)), .val (.int (1 : Int32)), .val (.int (6 : Int32))] [(.int (6 : Int32)), (.ref t), (.int (6 : Int32)), (.ref t)])) rfl rfl (hb hby d_prog_13_method_5_19) _ (XS.iloadN X10.here hx rfl (hb hby d_prog_13_method_5_20) rfl (XS.iadd X10.here hx rfl (hb hby d_prog_13_method_5_21) rfl kt))))) ?_
  show Go p e below P (T10.setTop (mkF m 22 #[.val (.ref b), .val (.int (4 : Int32)), .val (.int (1 : Int32)), .val (.int (6 : Int32))] [(.int ((F 6) + (1 : Int32))), (.int (6 : Int32)), (.ref t)]))
  obtain ⟨T11, h11, X11, e11, W11, V11, st11⟩ := aryStI X10 hx hZ e10 V3 (j := (6 : Int32)) (x := ((F 6) + (1 : Int32))) (i := 6) ⟨by decide, by decide⟩ (by decide) (g := (mkF m 22 #[.val (.ref b), .val (.int (4 : Int32)), .val (.int (1 : Int32)), .val (.int (6 : Int32))] [(.int ((F 6) + (1 : Int32))), (.int (6 : Int32)), (.ref t)])) rfl rfl (hb hby d_prog_13_method_5_22)
  have K12 := Keep.wr K5 W11 (Or.inl (List.mem_of_getElem? (i := 0) rfl))
  have Z13 : n0 ≤ h11.size := by rw [W11.size]; exact Z6
  have N14 := Fr.snoc X11 N7 Gt
  refine Go.st st11 ?_
  show Go p e below P (T11.setTop (mkF m 23 #[.val (.ref b), .val (.int (4 : Int32)), .val (.int (1 : Int32)), .val (.int (6 : Int32))] []))
  refine Go.st (fun _ kt => XS.iloadN X11.here hx rfl (hb hby d_prog_13_method_5_23) rfl (XS.iloadN X11.here hx rfl (hb hby d_prog_13_method_5_24) rfl (XS.iloadN X11.here hx rfl (hb hby d_prog_13_method_5_25) rfl (XS.ineg X11.here hx rfl (hb hby d_prog_13_method_5_26) rfl (XS.iand X11.here hx rfl (hb hby d_prog_13_method_5_27) rfl (XS.iadd X11.here hx rfl (hb hby d_prog_13_method_5_28) rfl (XS.istoreN X11.here hx rfl (hb hby d_prog_13_method_5_29) rfl (l' := #[.val (.ref b), .val (.int (4 : Int32)), .val (.int (1 : Int32)), .val (.int ((6 : Int32) + ((6 : Int32) &&& (-(6 : Int32)))))]) rfl (XS.goto X11.here hx rfl (pc0 := 30) (pc' := 4) rfl (hb hby d_prog_13_method_5_30) (by decide) (by decide) kt)))))))) ?_
  show Go p e below P (T11.setTop (mkF m 4 #[.val (.ref b), .val (.int (4 : Int32)), .val (.int (1 : Int32)), .val (.int ((6 : Int32) + ((6 : Int32) &&& (-(6 : Int32)))))] []))
  rw [show ((6 : Int32) + ((6 : Int32) &&& (-(6 : Int32)))) = (8 : Int32) from by decide]
  show Go p e below P (T11.setTop (mkF m 4 #[.val (.ref b), .val (.int (4 : Int32)), .val (.int (1 : Int32)), .val (.int (8 : Int32))] []))
  refine Go.st (fun _ kt => XS.iloadN X11.here hx rfl (hb hby d_prog_13_method_5_4) rfl (XS.aloadN X11.here hx rfl (hb hby d_prog_13_method_5_5) rfl rfl kt)) ?_
  show Go p e below P (T11.setTop (mkF m 6 #[.val (.ref b), .val (.int (4 : Int32)), .val (.int (1 : Int32)), .val (.int (8 : Int32))] [(.ref b), (.int (8 : Int32))]))
  have f16 := (f9.other W11 (Or.inl ne4))
  obtain ⟨T15, X15, e15, st15⟩ := getF X11 hx hZ hown (host := "") (Or.inl (hw _ (List.mem_of_getElem? (i := 14) rfl))) Via.refl e11 f16 (g := (mkF m 6 #[.val (.ref b), .val (.int (4 : Int32)), .val (.int (1 : Int32)), .val (.int (8 : Int32))] [(.ref b), (.int (8 : Int32))])) rfl rfl (hb hby d_prog_13_method_5_6)
  refine Go.st st15 ?_
  show Go p e below P (T15.setTop (mkF m 9 #[.val (.ref b), .val (.int (4 : Int32)), .val (.int (1 : Int32)), .val (.int (8 : Int32))] [(.ref t), (.int (8 : Int32))]))
  refine Go.st (fun _ kt => aryLen X15 hx hZ e15 V11 (g := (mkF m 9 #[.val (.ref b), .val (.int (4 : Int32)), .val (.int (1 : Int32)), .val (.int (8 : Int32))] [(.ref t), (.int (8 : Int32))])) rfl rfl (hb hby d_prog_13_method_5_9) _ (XS.icmpNo X15.here hx rfl (hb hby d_prog_13_method_5_10) rfl (tlt (by decide : (8 : Int32) < (9 : Int32))).2.1 (XS.aloadN X15.here hx rfl (hb hby d_prog_13_method_5_13) rfl rfl kt))) ?_
  show Go p e below P (T15.setTop (mkF m 14 #[.val (.ref b), .val (.int (4 : Int32)), .val (.int (1 : Int32)), .val (.int (8 : Int32))] [(.ref b)]))
  obtain ⟨T17, X17, e17, st17⟩ := getF X15 hx hZ hown (host := "") (Or.inl (hw _ (List.mem_of_getElem? (i := 14) rfl))) Via.refl e15 f16 (g := (mkF m 14 #[.val (.ref b), .val (.int (4 : Int32)), .val (.int (1 : Int32)), .val (.int (8 : Int32))] [(.ref b)])) rfl rfl (hb hby d_prog_13_method_5_14)
  refine Go.st st17 ?_
  show Go p e below P (T17.setTop (mkF m 17 #[.val (.ref b), .val (.int (4 : Int32)), .val (.int (1 : Int32)), .val (.int (8 : Int32))] [(.ref t)]))
  refine Go.st (fun _ kt => XS.iloadN X17.here hx rfl (hb hby d_prog_13_method_5_17) rfl (Jvm.Free.XT.dup2 X17.here hx rfl (hb hby d_prog_13_method_5_18) rfl rfl rfl (aryLdI X17 hx hZ e17 V11 (j := (8 : Int32)) (i := 8) ⟨by decide, by decide⟩ (by decide) (g := (mkF m 19 #[.val (.ref b), .val (.int (4 : Int32)), .val (.int (1 : Int32)), .val (.int (8 : Int32))] [(.int (8 : Int32)), (.ref t), (.int (8 : Int32)), (.ref t)])) rfl rfl (hb hby d_prog_13_method_5_19) _ (XS.iloadN X17.here hx rfl (hb hby d_prog_13_method_5_20) rfl (XS.iadd X17.here hx rfl (hb hby d_prog_13_method_5_21) rfl kt))))) ?_
  show Go p e below P (T17.setTop (mkF m 22 #[.val (.ref b), .val (.int (4 : Int32)), .val (.int (1 : Int32)), .val (.int (8 : Int32))] [(.int ((F 8) + (1 : Int32))), (.int (8 : Int32)), (.ref t)]))
  obtain ⟨T18, h18, X18, e18, W18, V18, st18⟩ := aryStI X17 hx hZ e17 V11 (j := (8 : Int32)) (x := ((F 8) + (1 : Int32))) (i := 8) ⟨by decide, by decide⟩ (by decide) (g := (mkF m 22 #[.val (.ref b), .val (.int (4 : Int32)), .val (.int (1 : Int32)), .val (.int (8 : Int32))] [(.int ((F 8) + (1 : Int32))), (.int (8 : Int32)), (.ref t)])) rfl rfl (hb hby d_prog_13_method_5_22)
  have K19 := Keep.wr K12 W18 (Or.inl (List.mem_of_getElem? (i := 0) rfl))
  have Z20 : n0 ≤ h18.size := by rw [W18.size]; exact Z13
  have N21 := Fr.snoc X18 N14 Gt
  refine Go.st st18 ?_
  show Go p e below P (T18.setTop (mkF m 23 #[.val (.ref b), .val (.int (4 : Int32)), .val (.int (1 : Int32)), .val (.int (8 : Int32))] []))
  refine Go.st (fun _ kt => XS.iloadN X18.here hx rfl (hb hby d_prog_13_method_5_23) rfl (XS.iloadN X18.here hx rfl (hb hby d_prog_13_method_5_24) rfl (XS.iloadN X18.here hx rfl (hb hby d_prog_13_method_5_25) rfl (XS.ineg X18.here hx rfl (hb hby d_prog_13_method_5_26) rfl (XS.iand X18.here hx rfl (hb hby d_prog_13_method_5_27) rfl (XS.iadd X18.here hx rfl (hb hby d_prog_13_method_5_28) rfl (XS.istoreN X18.here hx rfl (hb hby d_prog_13_method_5_29) rfl (l' := #[.val (.ref b), .val (.int (4 : Int32)), .val (.int (1 : Int32)), .val (.int ((8 : Int32) + ((8 : Int32) &&& (-(8 : Int32)))))]) rfl (XS.goto X18.here hx rfl (pc0 := 30) (pc' := 4) rfl (hb hby d_prog_13_method_5_30) (by decide) (by decide) kt)))))))) ?_
  show Go p e below P (T18.setTop (mkF m 4 #[.val (.ref b), .val (.int (4 : Int32)), .val (.int (1 : Int32)), .val (.int ((8 : Int32) + ((8 : Int32) &&& (-(8 : Int32)))))] []))
  rw [show ((8 : Int32) + ((8 : Int32) &&& (-(8 : Int32)))) = (16 : Int32) from by decide]
  show Go p e below P (T18.setTop (mkF m 4 #[.val (.ref b), .val (.int (4 : Int32)), .val (.int (1 : Int32)), .val (.int (16 : Int32))] []))
  refine Go.st (fun _ kt => XS.iloadN X18.here hx rfl (hb hby d_prog_13_method_5_4) rfl (XS.aloadN X18.here hx rfl (hb hby d_prog_13_method_5_5) rfl rfl kt)) ?_
  show Go p e below P (T18.setTop (mkF m 6 #[.val (.ref b), .val (.int (4 : Int32)), .val (.int (1 : Int32)), .val (.int (16 : Int32))] [(.ref b), (.int (16 : Int32))]))
  have f23 := (f16.other W18 (Or.inl ne4))
  obtain ⟨T22, X22, e22, st22⟩ := getF X18 hx hZ hown (host := "") (Or.inl (hw _ (List.mem_of_getElem? (i := 14) rfl))) Via.refl e18 f23 (g := (mkF m 6 #[.val (.ref b), .val (.int (4 : Int32)), .val (.int (1 : Int32)), .val (.int (16 : Int32))] [(.ref b), (.int (16 : Int32))])) rfl rfl (hb hby d_prog_13_method_5_6)
  refine Go.st st22 ?_
  show Go p e below P (T22.setTop (mkF m 9 #[.val (.ref b), .val (.int (4 : Int32)), .val (.int (1 : Int32)), .val (.int (16 : Int32))] [(.ref t), (.int (16 : Int32))]))
  refine Go.st (fun _ kt => aryLen X22 hx hZ e22 V18 (g := (mkF m 9 #[.val (.ref b), .val (.int (4 : Int32)), .val (.int (1 : Int32)), .val (.int (16 : Int32))] [(.ref t), (.int (16 : Int32))])) rfl rfl (hb hby d_prog_13_method_5_9) _ (XS.icmpYes X22.here hx rfl (pc0 := 10) (pc' := 33) rfl (hb hby d_prog_13_method_5_10) rfl (flt (by decide : ¬ ((16 : Int32) < (9 : Int32)))).2.1 (by decide) (by decide) kt)) ?_
  show Go p e below P (T22.setTop (mkF m 33 #[.val (.ref b), .val (.int (4 : Int32)), .val (.int (1 : Int32)), .val (.int (16 : Int32))] []))
  exact goV X22 hx hret hlk (hb hby d_prog_13_method_5_33) hP (by decide) (by decide) (by rw [e22]; exact ⟨rfl, N21, K19, V18⟩)
theorem ef_rmCnt5 (m : MethodId) (b : Addr) : entryFrame m #[(.ref b), (.int (5 : Int32)), (.int (1 : Int32))] 4 = mkF m 0 #[.val (.ref b), .val (.int (5 : Int32)), .val (.int (1 : Int32)), .unset] [] := by first | (simp [entryFrame, mkF, argsToLocals, Value.category]; done) | rfl
set_option maxRecDepth 65536 in
set_option maxHeartbeats 40000000 in
theorem rmCnt5 (l : Launch) (Z : State) (a0 : Array Value) (hw : ∀ d ∈ tables_1, d.before a0 Z = true) (b : Addr) (t : Addr) (F : Nat → Int32) (h0 : Heap) (n0 : Nat) (Z0 : n0 ≤ h0.size) (Eb : Exa Z h0 b "com/example/doc_delta/docdelta/formats/IndexSet") (Ft : Fld Z h0 b "com/example/doc_delta/docdelta/formats/IndexSet" "tree" "[I" (.ref t)) (Vt : Ary Z h0 t .int Value.int 9 F) (Gt : n0 ≤ t) :
    Ct l (⟨"com/example/doc_delta/docdelta/formats/IndexSet", "count", "(II)V"⟩ : MethodName) prog_13_method_5_code 4 none [] ({ frames := 0, cells := 0, slots := 0, locals := 0 } : Room) Z #[(.ref b), (.int (5 : Int32)), (.int (1 : Int32))] h0 (fun v h L => v = none ∧ Fr n0 L ∧ Keep h0 h [t] ∧ Ary Z h t .int Value.int 9 (own_add5 F)) := by
  refine Ct.of (plainFor_of_name pn_1) (fun m => ef_rmCnt5 m b) ?_
  intro p e s m below meth c T0 X0 hx hby hml hret hlk hown hnm hZ e0 P hP
  refine Go.st (fun _ kt => XS.iloadN X0.here hx rfl (hb hby d_prog_13_method_5_0) rfl (XS.iconst X0.here hx rfl (hb hby d_prog_13_method_5_1) (XS.iadd X0.here hx rfl (hb hby d_prog_13_method_5_2) rfl (XS.istoreN X0.here hx rfl (hb hby d_prog_13_method_5_3) rfl (l' := #[.val (.ref b), .val (.int (5 : Int32)), .val (.int (1 : Int32)), .val (.int ((5 : Int32) + (1 : Int32)))]) rfl kt)))) ?_
  show Go p e below P (T0.setTop (mkF m 4 #[.val (.ref b), .val (.int (5 : Int32)), .val (.int (1 : Int32)), .val (.int ((5 : Int32) + (1 : Int32)))] []))
  rw [show ((5 : Int32) + (1 : Int32)) = (6 : Int32) from by decide]
  show Go p e below P (T0.setTop (mkF m 4 #[.val (.ref b), .val (.int (5 : Int32)), .val (.int (1 : Int32)), .val (.int (6 : Int32))] []))
  refine Go.st (fun _ kt => XS.iloadN X0.here hx rfl (hb hby d_prog_13_method_5_4) rfl (XS.aloadN X0.here hx rfl (hb hby d_prog_13_method_5_5) rfl rfl kt)) ?_
  show Go p e below P (T0.setTop (mkF m 6 #[.val (.ref b), .val (.int (5 : Int32)), .val (.int (1 : Int32)), .val (.int (6 : Int32))] [(.ref b), (.int (6 : Int32))]))
  obtain ⟨T1, X1, e1, st1⟩ := getF X0 hx hZ hown (host := "") (Or.inl (hw _ (List.mem_of_getElem? (i := 14) rfl))) Via.refl e0 Ft (g := (mkF m 6 #[.val (.ref b), .val (.int (5 : Int32)), .val (.int (1 : Int32)), .val (.int (6 : Int32))] [(.ref b), (.int (6 : Int32))])) rfl rfl (hb hby d_prog_13_method_5_6)
  refine Go.st st1 ?_
  show Go p e below P (T1.setTop (mkF m 9 #[.val (.ref b), .val (.int (5 : Int32)), .val (.int (1 : Int32)), .val (.int (6 : Int32))] [(.ref t), (.int (6 : Int32))]))
  refine Go.st (fun _ kt => aryLen X1 hx hZ e1 Vt (g := (mkF m 9 #[.val (.ref b), .val (.int (5 : Int32)), .val (.int (1 : Int32)), .val (.int (6 : Int32))] [(.ref t), (.int (6 : Int32))])) rfl rfl (hb hby d_prog_13_method_5_9) _ (XS.icmpNo X1.here hx rfl (hb hby d_prog_13_method_5_10) rfl (tlt (by decide : (6 : Int32) < (9 : Int32))).2.1 (XS.aloadN X1.here hx rfl (hb hby d_prog_13_method_5_13) rfl rfl kt))) ?_
  show Go p e below P (T1.setTop (mkF m 14 #[.val (.ref b), .val (.int (5 : Int32)), .val (.int (1 : Int32)), .val (.int (6 : Int32))] [(.ref b)]))
  obtain ⟨T2, X2, e2, st2⟩ := getF X1 hx hZ hown (host := "") (Or.inl (hw _ (List.mem_of_getElem? (i := 14) rfl))) Via.refl e1 Ft (g := (mkF m 14 #[.val (.ref b), .val (.int (5 : Int32)), .val (.int (1 : Int32)), .val (.int (6 : Int32))] [(.ref b)])) rfl rfl (hb hby d_prog_13_method_5_14)
  refine Go.st st2 ?_
  show Go p e below P (T2.setTop (mkF m 17 #[.val (.ref b), .val (.int (5 : Int32)), .val (.int (1 : Int32)), .val (.int (6 : Int32))] [(.ref t)]))
  refine Go.st (fun _ kt => XS.iloadN X2.here hx rfl (hb hby d_prog_13_method_5_17) rfl (Jvm.Free.XT.dup2 X2.here hx rfl (hb hby d_prog_13_method_5_18) rfl rfl rfl (aryLdI X2 hx hZ e2 Vt (j := (6 : Int32)) (i := 6) ⟨by decide, by decide⟩ (by decide) (g := (mkF m 19 #[.val (.ref b), .val (.int (5 : Int32)), .val (.int (1 : Int32)), .val (.int (6 : Int32))] [(.int (6 : Int32)), (.ref t), (.int (6 : Int32)), (.ref t)])) rfl rfl (hb hby d_prog_13_method_5_19) _ (XS.iloadN X2.here hx rfl (hb hby d_prog_13_method_5_20) rfl (XS.iadd X2.here hx rfl (hb hby d_prog_13_method_5_21) rfl kt))))) ?_
  show Go p e below P (T2.setTop (mkF m 22 #[.val (.ref b), .val (.int (5 : Int32)), .val (.int (1 : Int32)), .val (.int (6 : Int32))] [(.int ((F 6) + (1 : Int32))), (.int (6 : Int32)), (.ref t)]))
  have ne4 := Ary.ne Vt Eb (hw _ (List.mem_of_getElem? (i := 2) rfl))
  obtain ⟨T3, h3, X3, e3, W3, V3, st3⟩ := aryStI X2 hx hZ e2 Vt (j := (6 : Int32)) (x := ((F 6) + (1 : Int32))) (i := 6) ⟨by decide, by decide⟩ (by decide) (g := (mkF m 22 #[.val (.ref b), .val (.int (5 : Int32)), .val (.int (1 : Int32)), .val (.int (6 : Int32))] [(.int ((F 6) + (1 : Int32))), (.int (6 : Int32)), (.ref t)])) rfl rfl (hb hby d_prog_13_method_5_22)
  have K5 := Keep.wr (Keep.refl h0 [t]) W3 (Or.inl (List.mem_of_getElem? (i := 0) rfl))
  have Z6 : n0 ≤ h3.size := by rw [W3.size]; exact Z0
  have N7 := Fr.snoc X3 (Fr.nil n0) Gt
  refine Go.st st3 ?_
  show Go p e below P (T3.setTop (mkF m 23 #[.val (.ref b), .val (.int (5 : Int32)), .val (.int (1 : Int32)), .val (.int (6 : Int32))] []))
  refine Go.st (fun _ kt => XS.iloadN X3.here hx rfl (hb hby d_prog_13_method_5_23) rfl (XS.iloadN X3.here hx rfl (hb hby d_prog_13_method_5_24) rfl (XS.iloadN X3.here hx rfl (hb hby d_prog_13_method_5_25) rfl (XS.ineg X3.here hx rfl (hb hby d_prog_13_method_5_26) rfl (XS.iand X3.here hx rfl (hb hby d_prog_13_method_5_27) rfl (XS.iadd X3.here hx rfl (hb hby d_prog_13_method_5_28) rfl (XS.istoreN X3.here hx rfl (hb hby d_prog_13_method_5_29) rfl (l' := #[.val (.ref b), .val (.int (5 : Int32)), .val (.int (1 : Int32)), .val (.int ((6 : Int32) + ((6 : Int32) &&& (-(6 : Int32)))))]) rfl (XS.goto X3.here hx rfl (pc0 := 30) (pc' := 4) rfl (hb hby d_prog_13_method_5_30) (by decide) (by decide) kt)))))))) ?_
  show Go p e below P (T3.setTop (mkF m 4 #[.val (.ref b), .val (.int (5 : Int32)), .val (.int (1 : Int32)), .val (.int ((6 : Int32) + ((6 : Int32) &&& (-(6 : Int32)))))] []))
  rw [show ((6 : Int32) + ((6 : Int32) &&& (-(6 : Int32)))) = (8 : Int32) from by decide]
  show Go p e below P (T3.setTop (mkF m 4 #[.val (.ref b), .val (.int (5 : Int32)), .val (.int (1 : Int32)), .val (.int (8 : Int32))] []))
  refine Go.st (fun _ kt => XS.iloadN X3.here hx rfl (hb hby d_prog_13_method_5_4) rfl (XS.aloadN X3.here hx rfl (hb hby d_prog_13_method_5_5) rfl rfl kt)) ?_
  show Go p e below P (T3.setTop (mkF m 6 #[.val (.ref b), .val (.int (5 : Int32)), .val (.int (1 : Int32)), .val (.int (8 : Int32))] [(.ref b), (.int (8 : Int32))]))
  have f9 := (Ft.other W3 (Or.inl ne4))
  obtain ⟨T8, X8, e8, st8⟩ := getF X3 hx hZ hown (host := "") (Or.inl (hw _ (List.mem_of_getElem? (i := 14) rfl))) Via.refl e3 f9 (g := (mkF m 6 #[.val (.ref b), .val (.int (5 : Int32)), .val (.int (1 : Int32)), .val (.int (8 : Int32))] [(.ref b), (.int (8 : Int32))])) rfl rfl (hb hby d_prog_13_method_5_6)
  refine Go.st st8 ?_
  show Go p e below P (T8.setTop (mkF m 9 #[.val (.ref b), .val (.int (5 : Int32)), .val (.int (1 : Int32)), .val (.int (8 : Int32))] [(.ref t), (.int (8 : Int32))]))
  refine Go.st (fun _ kt => aryLen X8 hx hZ e8 V3 (g := (mkF m 9 #[.val (.ref b), .val (.int (5 : Int32)), .val (.int (1 : Int32)), .val (.int (8 : Int32))] [(.ref t), (.int (8 : Int32))])) rfl rfl (hb hby d_prog_13_method_5_9) _ (XS.icmpNo X8.here hx rfl (hb hby d_prog_13_method_5_10) rfl (tlt (by decide : (8 : Int32) < (9 : Int32))).2.1 (XS.aloadN X8.here hx rfl (hb hby d_prog_13_method_5_13) rfl rfl kt))) ?_
  show Go p e below P (T8.setTop (mkF m 14 #[.val (.ref b), .val (.int (5 : Int32)), .val (.int (1 : Int32)), .val (.int (8 : Int32))] [(.ref b)]))
  obtain ⟨T10, X10, e10, st10⟩ := getF X8 hx hZ hown (host := "") (Or.inl (hw _ (List.mem_of_getElem? (i := 14) rfl))) Via.refl e8 f9 (g := (mkF m 14 #[.val (.ref b), .val (.int (5 : Int32)), .val (.int (1 : Int32)), .val (.int (8 : Int32))] [(.ref b)])) rfl rfl (hb hby d_prog_13_method_5_14)
  refine Go.st st10 ?_
  show Go p e below P (T10.setTop (mkF m 17 #[.val (.ref b), .val (.int (5 : Int32)), .val (.int (1 : Int32)), .val (.int (8 : Int32))] [(.ref t)]))
  refine Go.st (fun _ kt => XS.iloadN X10.here hx rfl (hb hby d_prog_13_method_5_17) rfl (Jvm.Free.XT.dup2 X10.here hx rfl (hb hby d_prog_13_method_5_18) rfl rfl rfl (aryLdI X10 hx hZ e10 V3 (j := (8 : Int32)) (i := 8) ⟨by decide, by decide⟩ (by decide) (g := (mkF m 19 #[.val (.ref b), .val (.int (5 : Int32)), .val (.int (1 : Int32)), .val (.int (8 : Int32))] [(.int (8 : Int32)), (.ref t), (.int (8 : Int32)), (.ref t)])) rfl rfl (hb hby d_prog_13_method_5_19) _ (XS.iloadN X10.here hx rfl (hb hby d_prog_13_method_5_20) rfl (XS.iadd X10.here hx rfl (hb hby d_prog_13_method_5_21) rfl kt))))) ?_
  show Go p e below P (T10.setTop (mkF m 22 #[.val (.ref b), .val (.int (5 : Int32)), .val (.int (1 : Int32)), .val (.int (8 : Int32))] [(.int ((F 8) + (1 : Int32))), (.int (8 : Int32)), (.ref t)]))
  obtain ⟨T11, h11, X11, e11, W11, V11, st11⟩ := aryStI X10 hx hZ e10 V3 (j := (8 : Int32)) (x := ((F 8) + (1 : Int32))) (i := 8) ⟨by decide, by decide⟩ (by decide) (g := (mkF m 22 #[.val (.ref b), .val (.int (5 : Int32)), .val (.int (1 : Int32)), .val (.int (8 : Int32))] [(.int ((F 8) + (1 : Int32))), (.int (8 : Int32)), (.ref t)])) rfl rfl (hb hby d_prog_13_method_5_22)
  have K12 := Keep.wr K5 W11 (Or.inl (List.mem_of_getElem? (i := 0) rfl))
  have Z13 : n0 ≤ h11.size := by rw [W11.size]; exact Z6
  have N14 := Fr.snoc X11 N7 Gt
  refine Go.st st11 ?_
  show Go p e below P (T11.setTop (mkF m 23 #[.val (.ref b), .val (.int (5 : Int32)), .val (.int (1 : Int32)), .val (.int (8 : Int32))] []))
  refine Go.st (fun _ kt => XS.iloadN X11.here hx rfl (hb hby d_prog_13_method_5_23) rfl (XS.iloadN X11.here hx rfl (hb hby d_prog_13_method_5_24) rfl (XS.iloadN X11.here hx rfl (hb hby d_prog_13_method_5_25) rfl (XS.ineg X11.here hx rfl (hb hby d_prog_13_method_5_26) rfl (XS.iand X11.here hx rfl (hb hby d_prog_13_method_5_27) rfl (XS.iadd X11.here hx rfl (hb hby d_prog_13_method_5_28) rfl (XS.istoreN X11.here hx rfl (hb hby d_prog_13_method_5_29) rfl (l' := #[.val (.ref b), .val (.int (5 : Int32)), .val (.int (1 : Int32)), .val (.int ((8 : Int32) + ((8 : Int32) &&& (-(8 : Int32)))))]) rfl (XS.goto X11.here hx rfl (pc0 := 30) (pc' := 4) rfl (hb hby d_prog_13_method_5_30) (by decide) (by decide) kt)))))))) ?_
  show Go p e below P (T11.setTop (mkF m 4 #[.val (.ref b), .val (.int (5 : Int32)), .val (.int (1 : Int32)), .val (.int ((8 : Int32) + ((8 : Int32) &&& (-(8 : Int32)))))] []))
  rw [show ((8 : Int32) + ((8 : Int32) &&& (-(8 : Int32)))) = (16 : Int32) from by decide]
  show Go p e below P (T11.setTop (mkF m 4 #[.val (.ref b), .val (.int (5 : Int32)), .val (.int (1 : Int32)), .val (.int (16 : Int32))] []))
  refine Go.st (fun _ kt => XS.iloadN X11.here hx rfl (hb hby d_prog_13_method_5_4) rfl (XS.aloadN X11.here hx rfl (hb hby d_prog_13_method_5_5) rfl rfl kt)) ?_
  show Go p e below P (T11.setTop (mkF m 6 #[.val (.ref b), .val (.int (5 : Int32)), .val (.int (1 : Int32)), .val (.int (16 : Int32))] [(.ref b), (.int (16 : Int32))]))
  have f16 := (f9.other W11 (Or.inl ne4))
  obtain ⟨T15, X15, e15, st15⟩ := getF X11 hx hZ hown (host := "") (Or.inl (hw _ (List.mem_of_getElem? (i := 14) rfl))) Via.refl e11 f16 (g := (mkF m 6 #[.val (.ref b), .val (.int (5 : Int32)), .val (.int (1 : Int32)), .val (.int (16 : Int32))] [(.ref b), (.int (16 : Int32))])) rfl rfl (hb hby d_prog_13_method_5_6)
  refine Go.st st15 ?_
  show Go p e below P (T15.setTop (mkF m 9 #[.val (.ref b), .val (.int (5 : Int32)), .val (.int (1 : Int32)), .val (.int (16 : Int32))] [(.ref t), (.int (16 : Int32))]))
  refine Go.st (fun _ kt => aryLen X15 hx hZ e15 V11 (g := (mkF m 9 #[.val (.ref b), .val (.int (5 : Int32)), .val (.int (1 : Int32)), .val (.int (16 : Int32))] [(.ref t), (.int (16 : Int32))])) rfl rfl (hb hby d_prog_13_method_5_9) _ (XS.icmpYes X15.here hx rfl (pc0 := 10) (pc' := 33) rfl (hb hby d_prog_13_method_5_10) rfl (flt (by decide : ¬ ((16 : Int32) < (9 : Int32)))).2.1 (by decide) (by decide) kt)) ?_
  show Go p e below P (T15.setTop (mkF m 33 #[.val (.ref b), .val (.int (5 : Int32)), .val (.int (1 : Int32)), .val (.int (16 : Int32))] []))
  exact goV X15 hx hret hlk (hb hby d_prog_13_method_5_33) hP (by decide) (by decide) (by rw [e15]; exact ⟨rfl, N14, K12, V11⟩)
theorem ef_rmCnt6 (m : MethodId) (b : Addr) : entryFrame m #[(.ref b), (.int (6 : Int32)), (.int (1 : Int32))] 4 = mkF m 0 #[.val (.ref b), .val (.int (6 : Int32)), .val (.int (1 : Int32)), .unset] [] := by first | (simp [entryFrame, mkF, argsToLocals, Value.category]; done) | rfl
set_option maxRecDepth 65536 in
set_option maxHeartbeats 40000000 in
theorem rmCnt6 (l : Launch) (Z : State) (a0 : Array Value) (hw : ∀ d ∈ tables_1, d.before a0 Z = true) (b : Addr) (t : Addr) (F : Nat → Int32) (h0 : Heap) (n0 : Nat) (Z0 : n0 ≤ h0.size) (Eb : Exa Z h0 b "com/example/doc_delta/docdelta/formats/IndexSet") (Ft : Fld Z h0 b "com/example/doc_delta/docdelta/formats/IndexSet" "tree" "[I" (.ref t)) (Vt : Ary Z h0 t .int Value.int 9 F) (Gt : n0 ≤ t) :
    Ct l (⟨"com/example/doc_delta/docdelta/formats/IndexSet", "count", "(II)V"⟩ : MethodName) prog_13_method_5_code 4 none [] ({ frames := 0, cells := 0, slots := 0, locals := 0 } : Room) Z #[(.ref b), (.int (6 : Int32)), (.int (1 : Int32))] h0 (fun v h L => v = none ∧ Fr n0 L ∧ Keep h0 h [t] ∧ Ary Z h t .int Value.int 9 (own_add6 F)) := by
  refine Ct.of (plainFor_of_name pn_1) (fun m => ef_rmCnt6 m b) ?_
  intro p e s m below meth c T0 X0 hx hby hml hret hlk hown hnm hZ e0 P hP
  refine Go.st (fun _ kt => XS.iloadN X0.here hx rfl (hb hby d_prog_13_method_5_0) rfl (XS.iconst X0.here hx rfl (hb hby d_prog_13_method_5_1) (XS.iadd X0.here hx rfl (hb hby d_prog_13_method_5_2) rfl (XS.istoreN X0.here hx rfl (hb hby d_prog_13_method_5_3) rfl (l' := #[.val (.ref b), .val (.int (6 : Int32)), .val (.int (1 : Int32)), .val (.int ((6 : Int32) + (1 : Int32)))]) rfl kt)))) ?_
  show Go p e below P (T0.setTop (mkF m 4 #[.val (.ref b), .val (.int (6 : Int32)), .val (.int (1 : Int32)), .val (.int ((6 : Int32) + (1 : Int32)))] []))
  rw [show ((6 : Int32) + (1 : Int32)) = (7 : Int32) from by decide]
  show Go p e below P (T0.setTop (mkF m 4 #[.val (.ref b), .val (.int (6 : Int32)), .val (.int (1 : Int32)), .val (.int (7 : Int32))] []))
  refine Go.st (fun _ kt => XS.iloadN X0.here hx rfl (hb hby d_prog_13_method_5_4) rfl (XS.aloadN X0.here hx rfl (hb hby d_prog_13_method_5_5) rfl rfl kt)) ?_
  show Go p e below P (T0.setTop (mkF m 6 #[.val (.ref b), .val (.int (6 : Int32)), .val (.int (1 : Int32)), .val (.int (7 : Int32))] [(.ref b), (.int (7 : Int32))]))
  obtain ⟨T1, X1, e1, st1⟩ := getF X0 hx hZ hown (host := "") (Or.inl (hw _ (List.mem_of_getElem? (i := 14) rfl))) Via.refl e0 Ft (g := (mkF m 6 #[.val (.ref b), .val (.int (6 : Int32)), .val (.int (1 : Int32)), .val (.int (7 : Int32))] [(.ref b), (.int (7 : Int32))])) rfl rfl (hb hby d_prog_13_method_5_6)
  refine Go.st st1 ?_
  show Go p e below P (T1.setTop (mkF m 9 #[.val (.ref b), .val (.int (6 : Int32)), .val (.int (1 : Int32)), .val (.int (7 : Int32))] [(.ref t), (.int (7 : Int32))]))
  refine Go.st (fun _ kt => aryLen X1 hx hZ e1 Vt (g := (mkF m 9 #[.val (.ref b), .val (.int (6 : Int32)), .val (.int (1 : Int32)), .val (.int (7 : Int32))] [(.ref t), (.int (7 : Int32))])) rfl rfl (hb hby d_prog_13_method_5_9) _ (XS.icmpNo X1.here hx rfl (hb hby d_prog_13_method_5_10) rfl (tlt (by decide : (7 : Int32) < (9 : Int32))).2.1 (XS.aloadN X1.here hx rfl (hb hby d_prog_13_method_5_13) rfl rfl kt))) ?_
  show Go p e below P (T1.setTop (mkF m 14 #[.val (.ref b), .val (.int (6 : Int32)), .val (.int (1 : Int32)), .val (.int (7 : Int32))] [(.ref b)]))
  obtain ⟨T2, X2, e2, st2⟩ := getF X1 hx hZ hown (host := "") (Or.inl (hw _ (List.mem_of_getElem? (i := 14) rfl))) Via.refl e1 Ft (g := (mkF m 14 #[.val (.ref b), .val (.int (6 : Int32)), .val (.int (1 : Int32)), .val (.int (7 : Int32))] [(.ref b)])) rfl rfl (hb hby d_prog_13_method_5_14)
  refine Go.st st2 ?_
  show Go p e below P (T2.setTop (mkF m 17 #[.val (.ref b), .val (.int (6 : Int32)), .val (.int (1 : Int32)), .val (.int (7 : Int32))] [(.ref t)]))
  refine Go.st (fun _ kt => XS.iloadN X2.here hx rfl (hb hby d_prog_13_method_5_17) rfl (Jvm.Free.XT.dup2 X2.here hx rfl (hb hby d_prog_13_method_5_18) rfl rfl rfl (aryLdI X2 hx hZ e2 Vt (j := (7 : Int32)) (i := 7) ⟨by decide, by decide⟩ (by decide) (g := (mkF m 19 #[.val (.ref b), .val (.int (6 : Int32)), .val (.int (1 : Int32)), .val (.int (7 : Int32))] [(.int (7 : Int32)), (.ref t), (.int (7 : Int32)), (.ref t)])) rfl rfl (hb hby d_prog_13_method_5_19) _ (XS.iloadN X2.here hx rfl (hb hby d_prog_13_method_5_20) rfl (XS.iadd X2.here hx rfl (hb hby d_prog_13_method_5_21) rfl kt))))) ?_
  show Go p e below P (T2.setTop (mkF m 22 #[.val (.ref b), .val (.int (6 : Int32)), .val (.int (1 : Int32)), .val (.int (7 : Int32))] [(.int ((F 7) + (1 : Int32))), (.int (7 : Int32)), (.ref t)]))
  have ne4 := Ary.ne Vt Eb (hw _ (List.mem_of_getElem? (i := 2) rfl))
  obtain ⟨T3, h3, X3, e3, W3, V3, st3⟩ := aryStI X2 hx hZ e2 Vt (j := (7 : Int32)) (x := ((F 7) + (1 : Int32))) (i := 7) ⟨by decide, by decide⟩ (by decide) (g := (mkF m 22 #[.val (.ref b), .val (.int (6 : Int32)), .val (.int (1 : Int32)), .val (.int (7 : Int32))] [(.int ((F 7) + (1 : Int32))), (.int (7 : Int32)), (.ref t)])) rfl rfl (hb hby d_prog_13_method_5_22)
  have K5 := Keep.wr (Keep.refl h0 [t]) W3 (Or.inl (List.mem_of_getElem? (i := 0) rfl))
  have Z6 : n0 ≤ h3.size := by rw [W3.size]; exact Z0
  have N7 := Fr.snoc X3 (Fr.nil n0) Gt
  refine Go.st st3 ?_
  show Go p e below P (T3.setTop (mkF m 23 #[.val (.ref b), .val (.int (6 : Int32)), .val (.int (1 : Int32)), .val (.int (7 : Int32))] []))
  refine Go.st (fun _ kt => XS.iloadN X3.here hx rfl (hb hby d_prog_13_method_5_23) rfl (XS.iloadN X3.here hx rfl (hb hby d_prog_13_method_5_24) rfl (XS.iloadN X3.here hx rfl (hb hby d_prog_13_method_5_25) rfl (XS.ineg X3.here hx rfl (hb hby d_prog_13_method_5_26) rfl (XS.iand X3.here hx rfl (hb hby d_prog_13_method_5_27) rfl (XS.iadd X3.here hx rfl (hb hby d_prog_13_method_5_28) rfl (XS.istoreN X3.here hx rfl (hb hby d_prog_13_method_5_29) rfl (l' := #[.val (.ref b), .val (.int (6 : Int32)), .val (.int (1 : Int32)), .val (.int ((7 : Int32) + ((7 : Int32) &&& (-(7 : Int32)))))]) rfl (XS.goto X3.here hx rfl (pc0 := 30) (pc' := 4) rfl (hb hby d_prog_13_method_5_30) (by decide) (by decide) kt)))))))) ?_
  show Go p e below P (T3.setTop (mkF m 4 #[.val (.ref b), .val (.int (6 : Int32)), .val (.int (1 : Int32)), .val (.int ((7 : Int32) + ((7 : Int32) &&& (-(7 : Int32)))))] []))
  rw [show ((7 : Int32) + ((7 : Int32) &&& (-(7 : Int32)))) = (8 : Int32) from by decide]
  show Go p e below P (T3.setTop (mkF m 4 #[.val (.ref b), .val (.int (6 : Int32)), .val (.int (1 : Int32)), .val (.int (8 : Int32))] []))
  refine Go.st (fun _ kt => XS.iloadN X3.here hx rfl (hb hby d_prog_13_method_5_4) rfl (XS.aloadN X3.here hx rfl (hb hby d_prog_13_method_5_5) rfl rfl kt)) ?_
  show Go p e below P (T3.setTop (mkF m 6 #[.val (.ref b), .val (.int (6 : Int32)), .val (.int (1 : Int32)), .val (.int (8 : Int32))] [(.ref b), (.int (8 : Int32))]))
  have f9 := (Ft.other W3 (Or.inl ne4))
  obtain ⟨T8, X8, e8, st8⟩ := getF X3 hx hZ hown (host := "") (Or.inl (hw _ (List.mem_of_getElem? (i := 14) rfl))) Via.refl e3 f9 (g := (mkF m 6 #[.val (.ref b), .val (.int (6 : Int32)), .val (.int (1 : Int32)), .val (.int (8 : Int32))] [(.ref b), (.int (8 : Int32))])) rfl rfl (hb hby d_prog_13_method_5_6)
  refine Go.st st8 ?_
  show Go p e below P (T8.setTop (mkF m 9 #[.val (.ref b), .val (.int (6 : Int32)), .val (.int (1 : Int32)), .val (.int (8 : Int32))] [(.ref t), (.int (8 : Int32))]))
  refine Go.st (fun _ kt => aryLen X8 hx hZ e8 V3 (g := (mkF m 9 #[.val (.ref b), .val (.int (6 : Int32)), .val (.int (1 : Int32)), .val (.int (8 : Int32))] [(.ref t), (.int (8 : Int32))])) rfl rfl (hb hby d_prog_13_method_5_9) _ (XS.icmpNo X8.here hx rfl (hb hby d_prog_13_method_5_10) rfl (tlt (by decide : (8 : Int32) < (9 : Int32))).2.1 (XS.aloadN X8.here hx rfl (hb hby d_prog_13_method_5_13) rfl rfl kt))) ?_
  show Go p e below P (T8.setTop (mkF m 14 #[.val (.ref b), .val (.int (6 : Int32)), .val (.int (1 : Int32)), .val (.int (8 : Int32))] [(.ref b)]))
  obtain ⟨T10, X10, e10, st10⟩ := getF X8 hx hZ hown (host := "") (Or.inl (hw _ (List.mem_of_getElem? (i := 14) rfl))) Via.refl e8 f9 (g := (mkF m 14 #[.val (.ref b), .val (.int (6 : Int32)), .val (.int (1 : Int32)), .val (.int (8 : Int32))] [(.ref b)])) rfl rfl (hb hby d_prog_13_method_5_14)
  refine Go.st st10 ?_
  show Go p e below P (T10.setTop (mkF m 17 #[.val (.ref b), .val (.int (6 : Int32)), .val (.int (1 : Int32)), .val (.int (8 : Int32))] [(.ref t)]))
  refine Go.st (fun _ kt => XS.iloadN X10.here hx rfl (hb hby d_prog_13_method_5_17) rfl (Jvm.Free.XT.dup2 X10.here hx rfl (hb hby d_prog_13_method_5_18) rfl rfl rfl (aryLdI X10 hx hZ e10 V3 (j := (8 : Int32)) (i := 8) ⟨by decide, by decide⟩ (by decide) (g := (mkF m 19 #[.val (.ref b), .val (.int (6 : Int32)), .val (.int (1 : Int32)), .val (.int (8 : Int32))] [(.int (8 : Int32)), (.ref t), (.int (8 : Int32)), (.ref t)])) rfl rfl (hb hby d_prog_13_method_5_19) _ (XS.iloadN X10.here hx rfl (hb hby d_prog_13_method_5_20) rfl (XS.iadd X10.here hx rfl (hb hby d_prog_13_method_5_21) rfl kt))))) ?_
  show Go p e below P (T10.setTop (mkF m 22 #[.val (.ref b), .val (.int (6 : Int32)), .val (.int (1 : Int32)), .val (.int (8 : Int32))] [(.int ((F 8) + (1 : Int32))), (.int (8 : Int32)), (.ref t)]))
  obtain ⟨T11, h11, X11, e11, W11, V11, st11⟩ := aryStI X10 hx hZ e10 V3 (j := (8 : Int32)) (x := ((F 8) + (1 : Int32))) (i := 8) ⟨by decide, by decide⟩ (by decide) (g := (mkF m 22 #[.val (.ref b), .val (.int (6 : Int32)), .val (.int (1 : Int32)), .val (.int (8 : Int32))] [(.int ((F 8) + (1 : Int32))), (.int (8 : Int32)), (.ref t)])) rfl rfl (hb hby d_prog_13_method_5_22)
  have K12 := Keep.wr K5 W11 (Or.inl (List.mem_of_getElem? (i := 0) rfl))
  have Z13 : n0 ≤ h11.size := by rw [W11.size]; exact Z6
  have N14 := Fr.snoc X11 N7 Gt
  refine Go.st st11 ?_
  show Go p e below P (T11.setTop (mkF m 23 #[.val (.ref b), .val (.int (6 : Int32)), .val (.int (1 : Int32)), .val (.int (8 : Int32))] []))
  refine Go.st (fun _ kt => XS.iloadN X11.here hx rfl (hb hby d_prog_13_method_5_23) rfl (XS.iloadN X11.here hx rfl (hb hby d_prog_13_method_5_24) rfl (XS.iloadN X11.here hx rfl (hb hby d_prog_13_method_5_25) rfl (XS.ineg X11.here hx rfl (hb hby d_prog_13_method_5_26) rfl (XS.iand X11.here hx rfl (hb hby d_prog_13_method_5_27) rfl (XS.iadd X11.here hx rfl (hb hby d_prog_13_method_5_28) rfl (XS.istoreN X11.here hx rfl (hb hby d_prog_13_method_5_29) rfl (l' := #[.val (.ref b), .val (.int (6 : Int32)), .val (.int (1 : Int32)), .val (.int ((8 : Int32) + ((8 : Int32) &&& (-(8 : Int32)))))]) rfl (XS.goto X11.here hx rfl (pc0 := 30) (pc' := 4) rfl (hb hby d_prog_13_method_5_30) (by decide) (by decide) kt)))))))) ?_
  show Go p e below P (T11.setTop (mkF m 4 #[.val (.ref b), .val (.int (6 : Int32)), .val (.int (1 : Int32)), .val (.int ((8 : Int32) + ((8 : Int32) &&& (-(8 : Int32)))))] []))
  rw [show ((8 : Int32) + ((8 : Int32) &&& (-(8 : Int32)))) = (16 : Int32) from by decide]
  show Go p e below P (T11.setTop (mkF m 4 #[.val (.ref b), .val (.int (6 : Int32)), .val (.int (1 : Int32)), .val (.int (16 : Int32))] []))
  refine Go.st (fun _ kt => XS.iloadN X11.here hx rfl (hb hby d_prog_13_method_5_4) rfl (XS.aloadN X11.here hx rfl (hb hby d_prog_13_method_5_5) rfl rfl kt)) ?_
  show Go p e below P (T11.setTop (mkF m 6 #[.val (.ref b), .val (.int (6 : Int32)), .val (.int (1 : Int32)), .val (.int (16 : Int32))] [(.ref b), (.int (16 : Int32))]))
  have f16 := (f9.other W11 (Or.inl ne4))
  obtain ⟨T15, X15, e15, st15⟩ := getF X11 hx hZ hown (host := "") (Or.inl (hw _ (List.mem_of_getElem? (i := 14) rfl))) Via.refl e11 f16 (g := (mkF m 6 #[.val (.ref b), .val (.int (6 : Int32)), .val (.int (1 : Int32)), .val (.int (16 : Int32))] [(.ref b), (.int (16 : Int32))])) rfl rfl (hb hby d_prog_13_method_5_6)
  refine Go.st st15 ?_
  show Go p e below P (T15.setTop (mkF m 9 #[.val (.ref b), .val (.int (6 : Int32)), .val (.int (1 : Int32)), .val (.int (16 : Int32))] [(.ref t), (.int (16 : Int32))]))
  refine Go.st (fun _ kt => aryLen X15 hx hZ e15 V11 (g := (mkF m 9 #[.val (.ref b), .val (.int (6 : Int32)), .val (.int (1 : Int32)), .val (.int (16 : Int32))] [(.ref t), (.int (16 : Int32))])) rfl rfl (hb hby d_prog_13_method_5_9) _ (XS.icmpYes X15.here hx rfl (pc0 := 10) (pc' := 33) rfl (hb hby d_prog_13_method_5_10) rfl (flt (by decide : ¬ ((16 : Int32) < (9 : Int32)))).2.1 (by decide) (by decide) kt)) ?_
  show Go p e below P (T15.setTop (mkF m 33 #[.val (.ref b), .val (.int (6 : Int32)), .val (.int (1 : Int32)), .val (.int (16 : Int32))] []))
  exact goV X15 hx hret hlk (hb hby d_prog_13_method_5_33) hP (by decide) (by decide) (by rw [e15]; exact ⟨rfl, N14, K12, V11⟩)
theorem ef_rmCnt7 (m : MethodId) (b : Addr) : entryFrame m #[(.ref b), (.int (7 : Int32)), (.int (1 : Int32))] 4 = mkF m 0 #[.val (.ref b), .val (.int (7 : Int32)), .val (.int (1 : Int32)), .unset] [] := by first | (simp [entryFrame, mkF, argsToLocals, Value.category]; done) | rfl
set_option maxRecDepth 65536 in
set_option maxHeartbeats 40000000 in
theorem rmCnt7 (l : Launch) (Z : State) (a0 : Array Value) (hw : ∀ d ∈ tables_1, d.before a0 Z = true) (b : Addr) (t : Addr) (F : Nat → Int32) (h0 : Heap) (n0 : Nat) (Z0 : n0 ≤ h0.size) (Eb : Exa Z h0 b "com/example/doc_delta/docdelta/formats/IndexSet") (Ft : Fld Z h0 b "com/example/doc_delta/docdelta/formats/IndexSet" "tree" "[I" (.ref t)) (Vt : Ary Z h0 t .int Value.int 9 F) (Gt : n0 ≤ t) :
    Ct l (⟨"com/example/doc_delta/docdelta/formats/IndexSet", "count", "(II)V"⟩ : MethodName) prog_13_method_5_code 4 none [] ({ frames := 0, cells := 0, slots := 0, locals := 0 } : Room) Z #[(.ref b), (.int (7 : Int32)), (.int (1 : Int32))] h0 (fun v h L => v = none ∧ Fr n0 L ∧ Keep h0 h [t] ∧ Ary Z h t .int Value.int 9 (own_add7 F)) := by
  refine Ct.of (plainFor_of_name pn_1) (fun m => ef_rmCnt7 m b) ?_
  intro p e s m below meth c T0 X0 hx hby hml hret hlk hown hnm hZ e0 P hP
  refine Go.st (fun _ kt => XS.iloadN X0.here hx rfl (hb hby d_prog_13_method_5_0) rfl (XS.iconst X0.here hx rfl (hb hby d_prog_13_method_5_1) (XS.iadd X0.here hx rfl (hb hby d_prog_13_method_5_2) rfl (XS.istoreN X0.here hx rfl (hb hby d_prog_13_method_5_3) rfl (l' := #[.val (.ref b), .val (.int (7 : Int32)), .val (.int (1 : Int32)), .val (.int ((7 : Int32) + (1 : Int32)))]) rfl kt)))) ?_
  show Go p e below P (T0.setTop (mkF m 4 #[.val (.ref b), .val (.int (7 : Int32)), .val (.int (1 : Int32)), .val (.int ((7 : Int32) + (1 : Int32)))] []))
  rw [show ((7 : Int32) + (1 : Int32)) = (8 : Int32) from by decide]
  show Go p e below P (T0.setTop (mkF m 4 #[.val (.ref b), .val (.int (7 : Int32)), .val (.int (1 : Int32)), .val (.int (8 : Int32))] []))
  refine Go.st (fun _ kt => XS.iloadN X0.here hx rfl (hb hby d_prog_13_method_5_4) rfl (XS.aloadN X0.here hx rfl (hb hby d_prog_13_method_5_5) rfl rfl kt)) ?_
  show Go p e below P (T0.setTop (mkF m 6 #[.val (.ref b), .val (.int (7 : Int32)), .val (.int (1 : Int32)), .val (.int (8 : Int32))] [(.ref b), (.int (8 : Int32))]))
  obtain ⟨T1, X1, e1, st1⟩ := getF X0 hx hZ hown (host := "") (Or.inl (hw _ (List.mem_of_getElem? (i := 14) rfl))) Via.refl e0 Ft (g := (mkF m 6 #[.val (.ref b), .val (.int (7 : Int32)), .val (.int (1 : Int32)), .val (.int (8 : Int32))] [(.ref b), (.int (8 : Int32))])) rfl rfl (hb hby d_prog_13_method_5_6)
  refine Go.st st1 ?_
  show Go p e below P (T1.setTop (mkF m 9 #[.val (.ref b), .val (.int (7 : Int32)), .val (.int (1 : Int32)), .val (.int (8 : Int32))] [(.ref t), (.int (8 : Int32))]))
  refine Go.st (fun _ kt => aryLen X1 hx hZ e1 Vt (g := (mkF m 9 #[.val (.ref b), .val (.int (7 : Int32)), .val (.int (1 : Int32)), .val (.int (8 : Int32))] [(.ref t), (.int (8 : Int32))])) rfl rfl (hb hby d_prog_13_method_5_9) _ (XS.icmpNo X1.here hx rfl (hb hby d_prog_13_method_5_10) rfl (tlt (by decide : (8 : Int32) < (9 : Int32))).2.1 (XS.aloadN X1.here hx rfl (hb hby d_prog_13_method_5_13) rfl rfl kt))) ?_
  show Go p e below P (T1.setTop (mkF m 14 #[.val (.ref b), .val (.int (7 : Int32)), .val (.int (1 : Int32)), .val (.int (8 : Int32))] [(.ref b)]))
  obtain ⟨T2, X2, e2, st2⟩ := getF X1 hx hZ hown (host := "") (Or.inl (hw _ (List.mem_of_getElem? (i := 14) rfl))) Via.refl e1 Ft (g := (mkF m 14 #[.val (.ref b), .val (.int (7 : Int32)), .val (.int (1 : Int32)), .val (.int (8 : Int32))] [(.ref b)])) rfl rfl (hb hby d_prog_13_method_5_14)
  refine Go.st st2 ?_
  show Go p e below P (T2.setTop (mkF m 17 #[.val (.ref b), .val (.int (7 : Int32)), .val (.int (1 : Int32)), .val (.int (8 : Int32))] [(.ref t)]))
  refine Go.st (fun _ kt => XS.iloadN X2.here hx rfl (hb hby d_prog_13_method_5_17) rfl (Jvm.Free.XT.dup2 X2.here hx rfl (hb hby d_prog_13_method_5_18) rfl rfl rfl (aryLdI X2 hx hZ e2 Vt (j := (8 : Int32)) (i := 8) ⟨by decide, by decide⟩ (by decide) (g := (mkF m 19 #[.val (.ref b), .val (.int (7 : Int32)), .val (.int (1 : Int32)), .val (.int (8 : Int32))] [(.int (8 : Int32)), (.ref t), (.int (8 : Int32)), (.ref t)])) rfl rfl (hb hby d_prog_13_method_5_19) _ (XS.iloadN X2.here hx rfl (hb hby d_prog_13_method_5_20) rfl (XS.iadd X2.here hx rfl (hb hby d_prog_13_method_5_21) rfl kt))))) ?_
  show Go p e below P (T2.setTop (mkF m 22 #[.val (.ref b), .val (.int (7 : Int32)), .val (.int (1 : Int32)), .val (.int (8 : Int32))] [(.int ((F 8) + (1 : Int32))), (.int (8 : Int32)), (.ref t)]))
  have ne4 := Ary.ne Vt Eb (hw _ (List.mem_of_getElem? (i := 2) rfl))
  obtain ⟨T3, h3, X3, e3, W3, V3, st3⟩ := aryStI X2 hx hZ e2 Vt (j := (8 : Int32)) (x := ((F 8) + (1 : Int32))) (i := 8) ⟨by decide, by decide⟩ (by decide) (g := (mkF m 22 #[.val (.ref b), .val (.int (7 : Int32)), .val (.int (1 : Int32)), .val (.int (8 : Int32))] [(.int ((F 8) + (1 : Int32))), (.int (8 : Int32)), (.ref t)])) rfl rfl (hb hby d_prog_13_method_5_22)
  have K5 := Keep.wr (Keep.refl h0 [t]) W3 (Or.inl (List.mem_of_getElem? (i := 0) rfl))
  have Z6 : n0 ≤ h3.size := by rw [W3.size]; exact Z0
  have N7 := Fr.snoc X3 (Fr.nil n0) Gt
  refine Go.st st3 ?_
  show Go p e below P (T3.setTop (mkF m 23 #[.val (.ref b), .val (.int (7 : Int32)), .val (.int (1 : Int32)), .val (.int (8 : Int32))] []))
  refine Go.st (fun _ kt => XS.iloadN X3.here hx rfl (hb hby d_prog_13_method_5_23) rfl (XS.iloadN X3.here hx rfl (hb hby d_prog_13_method_5_24) rfl (XS.iloadN X3.here hx rfl (hb hby d_prog_13_method_5_25) rfl (XS.ineg X3.here hx rfl (hb hby d_prog_13_method_5_26) rfl (XS.iand X3.here hx rfl (hb hby d_prog_13_method_5_27) rfl (XS.iadd X3.here hx rfl (hb hby d_prog_13_method_5_28) rfl (XS.istoreN X3.here hx rfl (hb hby d_prog_13_method_5_29) rfl (l' := #[.val (.ref b), .val (.int (7 : Int32)), .val (.int (1 : Int32)), .val (.int ((8 : Int32) + ((8 : Int32) &&& (-(8 : Int32)))))]) rfl (XS.goto X3.here hx rfl (pc0 := 30) (pc' := 4) rfl (hb hby d_prog_13_method_5_30) (by decide) (by decide) kt)))))))) ?_
  show Go p e below P (T3.setTop (mkF m 4 #[.val (.ref b), .val (.int (7 : Int32)), .val (.int (1 : Int32)), .val (.int ((8 : Int32) + ((8 : Int32) &&& (-(8 : Int32)))))] []))
  rw [show ((8 : Int32) + ((8 : Int32) &&& (-(8 : Int32)))) = (16 : Int32) from by decide]
  show Go p e below P (T3.setTop (mkF m 4 #[.val (.ref b), .val (.int (7 : Int32)), .val (.int (1 : Int32)), .val (.int (16 : Int32))] []))
  refine Go.st (fun _ kt => XS.iloadN X3.here hx rfl (hb hby d_prog_13_method_5_4) rfl (XS.aloadN X3.here hx rfl (hb hby d_prog_13_method_5_5) rfl rfl kt)) ?_
  show Go p e below P (T3.setTop (mkF m 6 #[.val (.ref b), .val (.int (7 : Int32)), .val (.int (1 : Int32)), .val (.int (16 : Int32))] [(.ref b), (.int (16 : Int32))]))
  have f9 := (Ft.other W3 (Or.inl ne4))
  obtain ⟨T8, X8, e8, st8⟩ := getF X3 hx hZ hown (host := "") (Or.inl (hw _ (List.mem_of_getElem? (i := 14) rfl))) Via.refl e3 f9 (g := (mkF m 6 #[.val (.ref b), .val (.int (7 : Int32)), .val (.int (1 : Int32)), .val (.int (16 : Int32))] [(.ref b), (.int (16 : Int32))])) rfl rfl (hb hby d_prog_13_method_5_6)
  refine Go.st st8 ?_
  show Go p e below P (T8.setTop (mkF m 9 #[.val (.ref b), .val (.int (7 : Int32)), .val (.int (1 : Int32)), .val (.int (16 : Int32))] [(.ref t), (.int (16 : Int32))]))
  refine Go.st (fun _ kt => aryLen X8 hx hZ e8 V3 (g := (mkF m 9 #[.val (.ref b), .val (.int (7 : Int32)), .val (.int (1 : Int32)), .val (.int (16 : Int32))] [(.ref t), (.int (16 : Int32))])) rfl rfl (hb hby d_prog_13_method_5_9) _ (XS.icmpYes X8.here hx rfl (pc0 := 10) (pc' := 33) rfl (hb hby d_prog_13_method_5_10) rfl (flt (by decide : ¬ ((16 : Int32) < (9 : Int32)))).2.1 (by decide) (by decide) kt)) ?_
  show Go p e below P (T8.setTop (mkF m 33 #[.val (.ref b), .val (.int (7 : Int32)), .val (.int (1 : Int32)), .val (.int (16 : Int32))] []))
  exact goV X8 hx hret hlk (hb hby d_prog_13_method_5_33) hP (by decide) (by decide) (by rw [e8]; exact ⟨rfl, N7, K5, V3⟩)
theorem d_prog_13_method_3_0 : decode prog_13_method_3_code 0 = .ok (.aload_n 0, 1) := by decide +kernel
theorem d_prog_13_method_3_1 : decode prog_13_method_3_code 1 = .ok (.getfield 7, 3) := by decide +kernel
theorem d_prog_13_method_3_4 : decode prog_13_method_3_code 4 = .ok (.iload_n 1, 1) := by decide +kernel
theorem d_prog_13_method_3_5 : decode prog_13_method_3_code 5 = .ok (.iconst 1, 1) := by decide +kernel
theorem d_prog_13_method_3_6 : decode prog_13_method_3_code 6 = .ok (.bastore, 1) := by decide +kernel
theorem d_prog_13_method_3_7 : decode prog_13_method_3_code 7 = .ok (.aload_n 0, 1) := by decide +kernel
theorem d_prog_13_method_3_8 : decode prog_13_method_3_code 8 = .ok (.iload_n 1, 1) := by decide +kernel
theorem d_prog_13_method_3_9 : decode prog_13_method_3_code 9 = .ok (.iconst 1, 1) := by decide +kernel
theorem pd_2 : parseMethodDescriptor "(II)V" = some ⟨[.int, .int], none⟩ := by decide +kernel
theorem d_prog_13_method_3_10 : decode prog_13_method_3_code 10 = .ok (.invokevirtual 17, 3) := by decide +kernel
theorem d_prog_13_method_3_13 : decode prog_13_method_3_code 13 = .ok (.return_, 1) := by decide +kernel
theorem ef_rmAdd0 (m : MethodId) (b : Addr) : entryFrame m #[(.ref b), (.int (0 : Int32))] 2 = mkF m 0 #[.val (.ref b), .val (.int (0 : Int32))] [] := by first | (simp [entryFrame, mkF, argsToLocals, Value.category]; done) | rfl
set_option maxRecDepth 65536 in
set_option maxHeartbeats 40000000 in
theorem rmAdd0 (l : Launch) (Z : State) (a0 : Array Value) (hw : ∀ d ∈ tables_1, d.before a0 Z = true) (b : Addr) (F F' : Nat → Int32) (h0 : Heap) (n0 : Nat) (Z0 : n0 ≤ h0.size) (Ib : own_IS Z h0 n0 b F) (hF : ∀ i, i < 9 → own_add0 F i = F' i) :
    Ct l (⟨"com/example/doc_delta/docdelta/formats/IndexSet", "add", "(I)V"⟩ : MethodName) prog_13_method_3_code 2 none [] ({ frames := 1, cells := 0, slots := 0, locals := 15 } : Room) Z #[(.ref b), (.int (0 : Int32))] h0 (fun v h L => v = none ∧ Fr n0 L ∧ h0.size ≤ h.size ∧ own_IS Z h n0 b F') := by
  refine Ct.of (plainFor_of_name pn_1) (fun m => ef_rmAdd0 m b) ?_
  intro p e s m below meth c T0 X0 hx hby hml hret hlk hown hnm hZ e0 P hP
  obtain ⟨t, u, g, Eb, Ft, Fm, Vt, Vu, Gt, Gu, ntu⟩ := Ib
  refine Go.st (fun _ kt => XS.aloadN X0.here hx rfl (hb hby d_prog_13_method_3_0) rfl rfl kt) ?_
  show Go p e below P (T0.setTop (mkF m 1 #[.val (.ref b), .val (.int (0 : Int32))] [(.ref b)]))
  obtain ⟨T1, X1, e1, st1⟩ := getF X0 hx hZ hown (host := "") (Or.inl (hw _ (List.mem_of_getElem? (i := 11) rfl))) Via.refl e0 Fm (g := (mkF m 1 #[.val (.ref b), .val (.int (0 : Int32))] [(.ref b)])) rfl rfl (hb hby d_prog_13_method_3_1)
  refine Go.st st1 ?_
  show Go p e below P (T1.setTop (mkF m 4 #[.val (.ref b), .val (.int (0 : Int32))] [(.ref u)]))
  refine Go.st (fun _ kt => XS.iloadN X1.here hx rfl (hb hby d_prog_13_method_3_4) rfl (XS.iconst X1.here hx rfl (hb hby d_prog_13_method_3_5) kt)) ?_
  show Go p e below P (T1.setTop (mkF m 6 #[.val (.ref b), .val (.int (0 : Int32))] [(.int (1 : Int32)), (.int (0 : Int32)), (.ref u)]))
  have ne3 := Ary.ne Vu Eb (hw _ (List.mem_of_getElem? (i := 2) rfl))
  obtain ⟨T2, h2, X2, e2, W2, V2, st2⟩ := aryStZ X1 hx hZ e1 Vu (j := (0 : Int32)) (x := (1 : Int32)) (i := 0) ⟨by decide, by decide⟩ (by decide) (g := (mkF m 6 #[.val (.ref b), .val (.int (0 : Int32))] [(.int (1 : Int32)), (.int (0 : Int32)), (.ref u)])) rfl rfl (hb hby d_prog_13_method_3_6)
  have K4 := Keep.wr (Keep.refl h0 [t, u]) W2 (Or.inl (List.mem_of_getElem? (i := 1) rfl))
  have Z5 : n0 ≤ h2.size := by rw [W2.size]; exact Z0
  have N6 := Fr.snoc X2 (Fr.nil n0) Gu
  refine Go.st st2 ?_
  show Go p e below P (T2.setTop (mkF m 7 #[.val (.ref b), .val (.int (0 : Int32))] []))
  refine Go.st (fun _ kt => XS.aloadN X2.here hx rfl (hb hby d_prog_13_method_3_7) rfl rfl (XS.iloadN X2.here hx rfl (hb hby d_prog_13_method_3_8) rfl (XS.iconst X2.here hx rfl (hb hby d_prog_13_method_3_9) kt))) ?_
  show Go p e below P (T2.setTop (mkF m 10 #[.val (.ref b), .val (.int (0 : Int32))] [(.int (1 : Int32)), (.int (0 : Int32)), (.ref b)]))
  have f8 := (Eb.wr W2)
  have f9 := (Ft.other W2 (Or.inl ne3))
  have f10 := (Vt.other W2 ntu)
  obtain ⟨_, T7, Lc7, X7, ⟨rfl, Nq7, K7, Vc7⟩, st7⟩ := callCp X2 hx hZ e2 (y := (⟨"com/example/doc_delta/docdelta/formats/IndexSet", "count", "(II)V"⟩ : MethodName)) (a := b) (argsL := [(.int (0 : Int32)), (.int (1 : Int32))]) (rest := []) hown (hw _ (List.mem_of_getElem? (i := 30) rfl)) (hw _ (List.mem_of_getElem? (i := 31) rfl)) (hw _ (List.mem_of_getElem? (i := 32) rfl)) (hw _ (List.mem_of_getElem? (i := 2) rfl)) (hw _ (List.mem_of_getElem? (i := 3) rfl)) (hw _ (List.mem_of_getElem? (i := 33) rfl)) (by decide) f8 (rmCnt0 l Z a0 hw b t F _ n0 Z5 f8 f9 f10 Gt) (W := 0) (by decide) (by decide) (g := (mkF m 10 #[.val (.ref b), .val (.int (0 : Int32))] [(.int (1 : Int32)), (.int (0 : Int32)), (.ref b)])) rfl (by rw [hml]; rfl) (lenOf pd_2 rfl) rfl (by show 2 * 0 + _ ≤ _; exact Nat.le_of_eq rfl) (hb hby d_prog_13_method_3_10) (by decide) (by decide)
  have N7 := Fr.app N6 Nq7
  have ne11 := Ary.ne f10 f8 (hw _ (List.mem_of_getElem? (i := 2) rfl))
  have K12 := Keep.trans K4 K7 (allS (P := fun x => x ∈ [t, u] ∨ h0.size ≤ x) (Or.inl (List.mem_of_getElem? (i := 0) rfl)) all0)
  have Z13 := Nat.le_trans Z5 K7.1
  refine Go.st st7 ?_
  show Go p e below P (T7.setTop (mkF m 13 #[.val (.ref b), .val (.int (0 : Int32))] []))
  have f14 := (f8.keep K7)
  have f15 := (f9.keep K7 (ninS ne11 nin0))
  have f16 := ((Fm.other W2 (Or.inl ne3)).keep K7 (ninS ne11 nin0))
  have f17 := (V2.keep K7 (ninS (Ne.symm ntu) nin0))
  exact goV X7 hx hret hlk (hb hby d_prog_13_method_3_13) hP (by decide) (by decide) ⟨rfl, N7, K12.1, t, u, _, f14, f15, f16, (Vc7.congr hF), f17, Gt, Gu, ntu⟩
theorem ef_rmAdd1 (m : MethodId) (b : Addr) : entryFrame m #[(.ref b), (.int (1 : Int32))] 2 = mkF m 0 #[.val (.ref b), .val (.int (1 : Int32))] [] := by first | (simp [entryFrame, mkF, argsToLocals, Value.category]; done) | rfl
set_option maxRecDepth 65536 in
set_option maxHeartbeats 40000000 in
theorem rmAdd1 (l : Launch) (Z : State) (a0 : Array Value) (hw : ∀ d ∈ tables_1, d.before a0 Z = true) (b : Addr) (F F' : Nat → Int32) (h0 : Heap) (n0 : Nat) (Z0 : n0 ≤ h0.size) (Ib : own_IS Z h0 n0 b F) (hF : ∀ i, i < 9 → own_add1 F i = F' i) :
    Ct l (⟨"com/example/doc_delta/docdelta/formats/IndexSet", "add", "(I)V"⟩ : MethodName) prog_13_method_3_code 2 none [] ({ frames := 1, cells := 0, slots := 0, locals := 15 } : Room) Z #[(.ref b), (.int (1 : Int32))] h0 (fun v h L => v = none ∧ Fr n0 L ∧ h0.size ≤ h.size ∧ own_IS Z h n0 b F') := by
  refine Ct.of (plainFor_of_name pn_1) (fun m => ef_rmAdd1 m b) ?_
  intro p e s m below meth c T0 X0 hx hby hml hret hlk hown hnm hZ e0 P hP
  obtain ⟨t, u, g, Eb, Ft, Fm, Vt, Vu, Gt, Gu, ntu⟩ := Ib
  refine Go.st (fun _ kt => XS.aloadN X0.here hx rfl (hb hby d_prog_13_method_3_0) rfl rfl kt) ?_
  show Go p e below P (T0.setTop (mkF m 1 #[.val (.ref b), .val (.int (1 : Int32))] [(.ref b)]))
  obtain ⟨T1, X1, e1, st1⟩ := getF X0 hx hZ hown (host := "") (Or.inl (hw _ (List.mem_of_getElem? (i := 11) rfl))) Via.refl e0 Fm (g := (mkF m 1 #[.val (.ref b), .val (.int (1 : Int32))] [(.ref b)])) rfl rfl (hb hby d_prog_13_method_3_1)
  refine Go.st st1 ?_
  show Go p e below P (T1.setTop (mkF m 4 #[.val (.ref b), .val (.int (1 : Int32))] [(.ref u)]))
  refine Go.st (fun _ kt => XS.iloadN X1.here hx rfl (hb hby d_prog_13_method_3_4) rfl (XS.iconst X1.here hx rfl (hb hby d_prog_13_method_3_5) kt)) ?_
  show Go p e below P (T1.setTop (mkF m 6 #[.val (.ref b), .val (.int (1 : Int32))] [(.int (1 : Int32)), (.int (1 : Int32)), (.ref u)]))
  have ne3 := Ary.ne Vu Eb (hw _ (List.mem_of_getElem? (i := 2) rfl))
  obtain ⟨T2, h2, X2, e2, W2, V2, st2⟩ := aryStZ X1 hx hZ e1 Vu (j := (1 : Int32)) (x := (1 : Int32)) (i := 1) ⟨by decide, by decide⟩ (by decide) (g := (mkF m 6 #[.val (.ref b), .val (.int (1 : Int32))] [(.int (1 : Int32)), (.int (1 : Int32)), (.ref u)])) rfl rfl (hb hby d_prog_13_method_3_6)
  have K4 := Keep.wr (Keep.refl h0 [t, u]) W2 (Or.inl (List.mem_of_getElem? (i := 1) rfl))
  have Z5 : n0 ≤ h2.size := by rw [W2.size]; exact Z0
  have N6 := Fr.snoc X2 (Fr.nil n0) Gu
  refine Go.st st2 ?_
  show Go p e below P (T2.setTop (mkF m 7 #[.val (.ref b), .val (.int (1 : Int32))] []))
  refine Go.st (fun _ kt => XS.aloadN X2.here hx rfl (hb hby d_prog_13_method_3_7) rfl rfl (XS.iloadN X2.here hx rfl (hb hby d_prog_13_method_3_8) rfl (XS.iconst X2.here hx rfl (hb hby d_prog_13_method_3_9) kt))) ?_
  show Go p e below P (T2.setTop (mkF m 10 #[.val (.ref b), .val (.int (1 : Int32))] [(.int (1 : Int32)), (.int (1 : Int32)), (.ref b)]))
  have f8 := (Eb.wr W2)
  have f9 := (Ft.other W2 (Or.inl ne3))
  have f10 := (Vt.other W2 ntu)
  obtain ⟨_, T7, Lc7, X7, ⟨rfl, Nq7, K7, Vc7⟩, st7⟩ := callCp X2 hx hZ e2 (y := (⟨"com/example/doc_delta/docdelta/formats/IndexSet", "count", "(II)V"⟩ : MethodName)) (a := b) (argsL := [(.int (1 : Int32)), (.int (1 : Int32))]) (rest := []) hown (hw _ (List.mem_of_getElem? (i := 30) rfl)) (hw _ (List.mem_of_getElem? (i := 31) rfl)) (hw _ (List.mem_of_getElem? (i := 32) rfl)) (hw _ (List.mem_of_getElem? (i := 2) rfl)) (hw _ (List.mem_of_getElem? (i := 3) rfl)) (hw _ (List.mem_of_getElem? (i := 33) rfl)) (by decide) f8 (rmCnt1 l Z a0 hw b t F _ n0 Z5 f8 f9 f10 Gt) (W := 0) (by decide) (by decide) (g := (mkF m 10 #[.val (.ref b), .val (.int (1 : Int32))] [(.int (1 : Int32)), (.int (1 : Int32)), (.ref b)])) rfl (by rw [hml]; rfl) (lenOf pd_2 rfl) rfl (by show 2 * 0 + _ ≤ _; exact Nat.le_of_eq rfl) (hb hby d_prog_13_method_3_10) (by decide) (by decide)
  have N7 := Fr.app N6 Nq7
  have ne11 := Ary.ne f10 f8 (hw _ (List.mem_of_getElem? (i := 2) rfl))
  have K12 := Keep.trans K4 K7 (allS (P := fun x => x ∈ [t, u] ∨ h0.size ≤ x) (Or.inl (List.mem_of_getElem? (i := 0) rfl)) all0)
  have Z13 := Nat.le_trans Z5 K7.1
  refine Go.st st7 ?_
  show Go p e below P (T7.setTop (mkF m 13 #[.val (.ref b), .val (.int (1 : Int32))] []))
  have f14 := (f8.keep K7)
  have f15 := (f9.keep K7 (ninS ne11 nin0))
  have f16 := ((Fm.other W2 (Or.inl ne3)).keep K7 (ninS ne11 nin0))
  have f17 := (V2.keep K7 (ninS (Ne.symm ntu) nin0))
  exact goV X7 hx hret hlk (hb hby d_prog_13_method_3_13) hP (by decide) (by decide) ⟨rfl, N7, K12.1, t, u, _, f14, f15, f16, (Vc7.congr hF), f17, Gt, Gu, ntu⟩
theorem ef_rmAdd2 (m : MethodId) (b : Addr) : entryFrame m #[(.ref b), (.int (2 : Int32))] 2 = mkF m 0 #[.val (.ref b), .val (.int (2 : Int32))] [] := by first | (simp [entryFrame, mkF, argsToLocals, Value.category]; done) | rfl
set_option maxRecDepth 65536 in
set_option maxHeartbeats 40000000 in
theorem rmAdd2 (l : Launch) (Z : State) (a0 : Array Value) (hw : ∀ d ∈ tables_1, d.before a0 Z = true) (b : Addr) (F F' : Nat → Int32) (h0 : Heap) (n0 : Nat) (Z0 : n0 ≤ h0.size) (Ib : own_IS Z h0 n0 b F) (hF : ∀ i, i < 9 → own_add2 F i = F' i) :
    Ct l (⟨"com/example/doc_delta/docdelta/formats/IndexSet", "add", "(I)V"⟩ : MethodName) prog_13_method_3_code 2 none [] ({ frames := 1, cells := 0, slots := 0, locals := 15 } : Room) Z #[(.ref b), (.int (2 : Int32))] h0 (fun v h L => v = none ∧ Fr n0 L ∧ h0.size ≤ h.size ∧ own_IS Z h n0 b F') := by
  refine Ct.of (plainFor_of_name pn_1) (fun m => ef_rmAdd2 m b) ?_
  intro p e s m below meth c T0 X0 hx hby hml hret hlk hown hnm hZ e0 P hP
  obtain ⟨t, u, g, Eb, Ft, Fm, Vt, Vu, Gt, Gu, ntu⟩ := Ib
  refine Go.st (fun _ kt => XS.aloadN X0.here hx rfl (hb hby d_prog_13_method_3_0) rfl rfl kt) ?_
  show Go p e below P (T0.setTop (mkF m 1 #[.val (.ref b), .val (.int (2 : Int32))] [(.ref b)]))
  obtain ⟨T1, X1, e1, st1⟩ := getF X0 hx hZ hown (host := "") (Or.inl (hw _ (List.mem_of_getElem? (i := 11) rfl))) Via.refl e0 Fm (g := (mkF m 1 #[.val (.ref b), .val (.int (2 : Int32))] [(.ref b)])) rfl rfl (hb hby d_prog_13_method_3_1)
  refine Go.st st1 ?_
  show Go p e below P (T1.setTop (mkF m 4 #[.val (.ref b), .val (.int (2 : Int32))] [(.ref u)]))
  refine Go.st (fun _ kt => XS.iloadN X1.here hx rfl (hb hby d_prog_13_method_3_4) rfl (XS.iconst X1.here hx rfl (hb hby d_prog_13_method_3_5) kt)) ?_
  show Go p e below P (T1.setTop (mkF m 6 #[.val (.ref b), .val (.int (2 : Int32))] [(.int (1 : Int32)), (.int (2 : Int32)), (.ref u)]))
  have ne3 := Ary.ne Vu Eb (hw _ (List.mem_of_getElem? (i := 2) rfl))
  obtain ⟨T2, h2, X2, e2, W2, V2, st2⟩ := aryStZ X1 hx hZ e1 Vu (j := (2 : Int32)) (x := (1 : Int32)) (i := 2) ⟨by decide, by decide⟩ (by decide) (g := (mkF m 6 #[.val (.ref b), .val (.int (2 : Int32))] [(.int (1 : Int32)), (.int (2 : Int32)), (.ref u)])) rfl rfl (hb hby d_prog_13_method_3_6)
  have K4 := Keep.wr (Keep.refl h0 [t, u]) W2 (Or.inl (List.mem_of_getElem? (i := 1) rfl))
  have Z5 : n0 ≤ h2.size := by rw [W2.size]; exact Z0
  have N6 := Fr.snoc X2 (Fr.nil n0) Gu
  refine Go.st st2 ?_
  show Go p e below P (T2.setTop (mkF m 7 #[.val (.ref b), .val (.int (2 : Int32))] []))
  refine Go.st (fun _ kt => XS.aloadN X2.here hx rfl (hb hby d_prog_13_method_3_7) rfl rfl (XS.iloadN X2.here hx rfl (hb hby d_prog_13_method_3_8) rfl (XS.iconst X2.here hx rfl (hb hby d_prog_13_method_3_9) kt))) ?_
  show Go p e below P (T2.setTop (mkF m 10 #[.val (.ref b), .val (.int (2 : Int32))] [(.int (1 : Int32)), (.int (2 : Int32)), (.ref b)]))
  have f8 := (Eb.wr W2)
  have f9 := (Ft.other W2 (Or.inl ne3))
  have f10 := (Vt.other W2 ntu)
  obtain ⟨_, T7, Lc7, X7, ⟨rfl, Nq7, K7, Vc7⟩, st7⟩ := callCp X2 hx hZ e2 (y := (⟨"com/example/doc_delta/docdelta/formats/IndexSet", "count", "(II)V"⟩ : MethodName)) (a := b) (argsL := [(.int (2 : Int32)), (.int (1 : Int32))]) (rest := []) hown (hw _ (List.mem_of_getElem? (i := 30) rfl)) (hw _ (List.mem_of_getElem? (i := 31) rfl)) (hw _ (List.mem_of_getElem? (i := 32) rfl)) (hw _ (List.mem_of_getElem? (i := 2) rfl)) (hw _ (List.mem_of_getElem? (i := 3) rfl)) (hw _ (List.mem_of_getElem? (i := 33) rfl)) (by decide) f8 (rmCnt2 l Z a0 hw b t F _ n0 Z5 f8 f9 f10 Gt) (W := 0) (by decide) (by decide) (g := (mkF m 10 #[.val (.ref b), .val (.int (2 : Int32))] [(.int (1 : Int32)), (.int (2 : Int32)), (.ref b)])) rfl (by rw [hml]; rfl) (lenOf pd_2 rfl) rfl (by show 2 * 0 + _ ≤ _; exact Nat.le_of_eq rfl) (hb hby d_prog_13_method_3_10) (by decide) (by decide)
  have N7 := Fr.app N6 Nq7
  have ne11 := Ary.ne f10 f8 (hw _ (List.mem_of_getElem? (i := 2) rfl))
  have K12 := Keep.trans K4 K7 (allS (P := fun x => x ∈ [t, u] ∨ h0.size ≤ x) (Or.inl (List.mem_of_getElem? (i := 0) rfl)) all0)
  have Z13 := Nat.le_trans Z5 K7.1
  refine Go.st st7 ?_
  show Go p e below P (T7.setTop (mkF m 13 #[.val (.ref b), .val (.int (2 : Int32))] []))
  have f14 := (f8.keep K7)
  have f15 := (f9.keep K7 (ninS ne11 nin0))
  have f16 := ((Fm.other W2 (Or.inl ne3)).keep K7 (ninS ne11 nin0))
  have f17 := (V2.keep K7 (ninS (Ne.symm ntu) nin0))
  exact goV X7 hx hret hlk (hb hby d_prog_13_method_3_13) hP (by decide) (by decide) ⟨rfl, N7, K12.1, t, u, _, f14, f15, f16, (Vc7.congr hF), f17, Gt, Gu, ntu⟩
theorem ef_rmAdd3 (m : MethodId) (b : Addr) : entryFrame m #[(.ref b), (.int (3 : Int32))] 2 = mkF m 0 #[.val (.ref b), .val (.int (3 : Int32))] [] := by first | (simp [entryFrame, mkF, argsToLocals, Value.category]; done) | rfl
set_option maxRecDepth 65536 in
set_option maxHeartbeats 40000000 in
theorem rmAdd3 (l : Launch) (Z : State) (a0 : Array Value) (hw : ∀ d ∈ tables_1, d.before a0 Z = true) (b : Addr) (F F' : Nat → Int32) (h0 : Heap) (n0 : Nat) (Z0 : n0 ≤ h0.size) (Ib : own_IS Z h0 n0 b F) (hF : ∀ i, i < 9 → own_add3 F i = F' i) :
    Ct l (⟨"com/example/doc_delta/docdelta/formats/IndexSet", "add", "(I)V"⟩ : MethodName) prog_13_method_3_code 2 none [] ({ frames := 1, cells := 0, slots := 0, locals := 15 } : Room) Z #[(.ref b), (.int (3 : Int32))] h0 (fun v h L => v = none ∧ Fr n0 L ∧ h0.size ≤ h.size ∧ own_IS Z h n0 b F') := by
  refine Ct.of (plainFor_of_name pn_1) (fun m => ef_rmAdd3 m b) ?_
  intro p e s m below meth c T0 X0 hx hby hml hret hlk hown hnm hZ e0 P hP
  obtain ⟨t, u, g, Eb, Ft, Fm, Vt, Vu, Gt, Gu, ntu⟩ := Ib
  refine Go.st (fun _ kt => XS.aloadN X0.here hx rfl (hb hby d_prog_13_method_3_0) rfl rfl kt) ?_
  show Go p e below P (T0.setTop (mkF m 1 #[.val (.ref b), .val (.int (3 : Int32))] [(.ref b)]))
  obtain ⟨T1, X1, e1, st1⟩ := getF X0 hx hZ hown (host := "") (Or.inl (hw _ (List.mem_of_getElem? (i := 11) rfl))) Via.refl e0 Fm (g := (mkF m 1 #[.val (.ref b), .val (.int (3 : Int32))] [(.ref b)])) rfl rfl (hb hby d_prog_13_method_3_1)
  refine Go.st st1 ?_
  show Go p e below P (T1.setTop (mkF m 4 #[.val (.ref b), .val (.int (3 : Int32))] [(.ref u)]))
  refine Go.st (fun _ kt => XS.iloadN X1.here hx rfl (hb hby d_prog_13_method_3_4) rfl (XS.iconst X1.here hx rfl (hb hby d_prog_13_method_3_5) kt)) ?_
  show Go p e below P (T1.setTop (mkF m 6 #[.val (.ref b), .val (.int (3 : Int32))] [(.int (1 : Int32)), (.int (3 : Int32)), (.ref u)]))
  have ne3 := Ary.ne Vu Eb (hw _ (List.mem_of_getElem? (i := 2) rfl))
  obtain ⟨T2, h2, X2, e2, W2, V2, st2⟩ := aryStZ X1 hx hZ e1 Vu (j := (3 : Int32)) (x := (1 : Int32)) (i := 3) ⟨by decide, by decide⟩ (by decide) (g := (mkF m 6 #[.val (.ref b), .val (.int (3 : Int32))] [(.int (1 : Int32)), (.int (3 : Int32)), (.ref u)])) rfl rfl (hb hby d_prog_13_method_3_6)
  have K4 := Keep.wr (Keep.refl h0 [t, u]) W2 (Or.inl (List.mem_of_getElem? (i := 1) rfl))
  have Z5 : n0 ≤ h2.size := by rw [W2.size]; exact Z0
  have N6 := Fr.snoc X2 (Fr.nil n0) Gu
  refine Go.st st2 ?_
  show Go p e below P (T2.setTop (mkF m 7 #[.val (.ref b), .val (.int (3 : Int32))] []))
  refine Go.st (fun _ kt => XS.aloadN X2.here hx rfl (hb hby d_prog_13_method_3_7) rfl rfl (XS.iloadN X2.here hx rfl (hb hby d_prog_13_method_3_8) rfl (XS.iconst X2.here hx rfl (hb hby d_prog_13_method_3_9) kt))) ?_
  show Go p e below P (T2.setTop (mkF m 10 #[.val (.ref b), .val (.int (3 : Int32))] [(.int (1 : Int32)), (.int (3 : Int32)), (.ref b)]))
  have f8 := (Eb.wr W2)
  have f9 := (Ft.other W2 (Or.inl ne3))
  have f10 := (Vt.other W2 ntu)
  obtain ⟨_, T7, Lc7, X7, ⟨rfl, Nq7, K7, Vc7⟩, st7⟩ := callCp X2 hx hZ e2 (y := (⟨"com/example/doc_delta/docdelta/formats/IndexSet", "count", "(II)V"⟩ : MethodName)) (a := b) (argsL := [(.int (3 : Int32)), (.int (1 : Int32))]) (rest := []) hown (hw _ (List.mem_of_getElem? (i := 30) rfl)) (hw _ (List.mem_of_getElem? (i := 31) rfl)) (hw _ (List.mem_of_getElem? (i := 32) rfl)) (hw _ (List.mem_of_getElem? (i := 2) rfl)) (hw _ (List.mem_of_getElem? (i := 3) rfl)) (hw _ (List.mem_of_getElem? (i := 33) rfl)) (by decide) f8 (rmCnt3 l Z a0 hw b t F _ n0 Z5 f8 f9 f10 Gt) (W := 0) (by decide) (by decide) (g := (mkF m 10 #[.val (.ref b), .val (.int (3 : Int32))] [(.int (1 : Int32)), (.int (3 : Int32)), (.ref b)])) rfl (by rw [hml]; rfl) (lenOf pd_2 rfl) rfl (by show 2 * 0 + _ ≤ _; exact Nat.le_of_eq rfl) (hb hby d_prog_13_method_3_10) (by decide) (by decide)
  have N7 := Fr.app N6 Nq7
  have ne11 := Ary.ne f10 f8 (hw _ (List.mem_of_getElem? (i := 2) rfl))
  have K12 := Keep.trans K4 K7 (allS (P := fun x => x ∈ [t, u] ∨ h0.size ≤ x) (Or.inl (List.mem_of_getElem? (i := 0) rfl)) all0)
  have Z13 := Nat.le_trans Z5 K7.1
  refine Go.st st7 ?_
  show Go p e below P (T7.setTop (mkF m 13 #[.val (.ref b), .val (.int (3 : Int32))] []))
  have f14 := (f8.keep K7)
  have f15 := (f9.keep K7 (ninS ne11 nin0))
  have f16 := ((Fm.other W2 (Or.inl ne3)).keep K7 (ninS ne11 nin0))
  have f17 := (V2.keep K7 (ninS (Ne.symm ntu) nin0))
  exact goV X7 hx hret hlk (hb hby d_prog_13_method_3_13) hP (by decide) (by decide) ⟨rfl, N7, K12.1, t, u, _, f14, f15, f16, (Vc7.congr hF), f17, Gt, Gu, ntu⟩
theorem ef_rmAdd4 (m : MethodId) (b : Addr) : entryFrame m #[(.ref b), (.int (4 : Int32))] 2 = mkF m 0 #[.val (.ref b), .val (.int (4 : Int32))] [] := by first | (simp [entryFrame, mkF, argsToLocals, Value.category]; done) | rfl
set_option maxRecDepth 65536 in
set_option maxHeartbeats 40000000 in
theorem rmAdd4 (l : Launch) (Z : State) (a0 : Array Value) (hw : ∀ d ∈ tables_1, d.before a0 Z = true) (b : Addr) (F F' : Nat → Int32) (h0 : Heap) (n0 : Nat) (Z0 : n0 ≤ h0.size) (Ib : own_IS Z h0 n0 b F) (hF : ∀ i, i < 9 → own_add4 F i = F' i) :
    Ct l (⟨"com/example/doc_delta/docdelta/formats/IndexSet", "add", "(I)V"⟩ : MethodName) prog_13_method_3_code 2 none [] ({ frames := 1, cells := 0, slots := 0, locals := 15 } : Room) Z #[(.ref b), (.int (4 : Int32))] h0 (fun v h L => v = none ∧ Fr n0 L ∧ h0.size ≤ h.size ∧ own_IS Z h n0 b F') := by
  refine Ct.of (plainFor_of_name pn_1) (fun m => ef_rmAdd4 m b) ?_
  intro p e s m below meth c T0 X0 hx hby hml hret hlk hown hnm hZ e0 P hP
  obtain ⟨t, u, g, Eb, Ft, Fm, Vt, Vu, Gt, Gu, ntu⟩ := Ib
  refine Go.st (fun _ kt => XS.aloadN X0.here hx rfl (hb hby d_prog_13_method_3_0) rfl rfl kt) ?_
  show Go p e below P (T0.setTop (mkF m 1 #[.val (.ref b), .val (.int (4 : Int32))] [(.ref b)]))
  obtain ⟨T1, X1, e1, st1⟩ := getF X0 hx hZ hown (host := "") (Or.inl (hw _ (List.mem_of_getElem? (i := 11) rfl))) Via.refl e0 Fm (g := (mkF m 1 #[.val (.ref b), .val (.int (4 : Int32))] [(.ref b)])) rfl rfl (hb hby d_prog_13_method_3_1)
  refine Go.st st1 ?_
  show Go p e below P (T1.setTop (mkF m 4 #[.val (.ref b), .val (.int (4 : Int32))] [(.ref u)]))
  refine Go.st (fun _ kt => XS.iloadN X1.here hx rfl (hb hby d_prog_13_method_3_4) rfl (XS.iconst X1.here hx rfl (hb hby d_prog_13_method_3_5) kt)) ?_
  show Go p e below P (T1.setTop (mkF m 6 #[.val (.ref b), .val (.int (4 : Int32))] [(.int (1 : Int32)), (.int (4 : Int32)), (.ref u)]))
  have ne3 := Ary.ne Vu Eb (hw _ (List.mem_of_getElem? (i := 2) rfl))
  obtain ⟨T2, h2, X2, e2, W2, V2, st2⟩ := aryStZ X1 hx hZ e1 Vu (j := (4 : Int32)) (x := (1 : Int32)) (i := 4) ⟨by decide, by decide⟩ (by decide) (g := (mkF m 6 #[.val (.ref b), .val (.int (4 : Int32))] [(.int (1 : Int32)), (.int (4 : Int32)), (.ref u)])) rfl rfl (hb hby d_prog_13_method_3_6)
  have K4 := Keep.wr (Keep.refl h0 [t, u]) W2 (Or.inl (List.mem_of_getElem? (i := 1) rfl))
  have Z5 : n0 ≤ h2.size := by rw [W2.size]; exact Z0
  have N6 := Fr.snoc X2 (Fr.nil n0) Gu
  refine Go.st st2 ?_
  show Go p e below P (T2.setTop (mkF m 7 #[.val (.ref b), .val (.int (4 : Int32))] []))
  refine Go.st (fun _ kt => XS.aloadN X2.here hx rfl (hb hby d_prog_13_method_3_7) rfl rfl (XS.iloadN X2.here hx rfl (hb hby d_prog_13_method_3_8) rfl (XS.iconst X2.here hx rfl (hb hby d_prog_13_method_3_9) kt))) ?_
  show Go p e below P (T2.setTop (mkF m 10 #[.val (.ref b), .val (.int (4 : Int32))] [(.int (1 : Int32)), (.int (4 : Int32)), (.ref b)]))
  have f8 := (Eb.wr W2)
  have f9 := (Ft.other W2 (Or.inl ne3))
  have f10 := (Vt.other W2 ntu)
  obtain ⟨_, T7, Lc7, X7, ⟨rfl, Nq7, K7, Vc7⟩, st7⟩ := callCp X2 hx hZ e2 (y := (⟨"com/example/doc_delta/docdelta/formats/IndexSet", "count", "(II)V"⟩ : MethodName)) (a := b) (argsL := [(.int (4 : Int32)), (.int (1 : Int32))]) (rest := []) hown (hw _ (List.mem_of_getElem? (i := 30) rfl)) (hw _ (List.mem_of_getElem? (i := 31) rfl)) (hw _ (List.mem_of_getElem? (i := 32) rfl)) (hw _ (List.mem_of_getElem? (i := 2) rfl)) (hw _ (List.mem_of_getElem? (i := 3) rfl)) (hw _ (List.mem_of_getElem? (i := 33) rfl)) (by decide) f8 (rmCnt4 l Z a0 hw b t F _ n0 Z5 f8 f9 f10 Gt) (W := 0) (by decide) (by decide) (g := (mkF m 10 #[.val (.ref b), .val (.int (4 : Int32))] [(.int (1 : Int32)), (.int (4 : Int32)), (.ref b)])) rfl (by rw [hml]; rfl) (lenOf pd_2 rfl) rfl (by show 2 * 0 + _ ≤ _; exact Nat.le_of_eq rfl) (hb hby d_prog_13_method_3_10) (by decide) (by decide)
  have N7 := Fr.app N6 Nq7
  have ne11 := Ary.ne f10 f8 (hw _ (List.mem_of_getElem? (i := 2) rfl))
  have K12 := Keep.trans K4 K7 (allS (P := fun x => x ∈ [t, u] ∨ h0.size ≤ x) (Or.inl (List.mem_of_getElem? (i := 0) rfl)) all0)
  have Z13 := Nat.le_trans Z5 K7.1
  refine Go.st st7 ?_
  show Go p e below P (T7.setTop (mkF m 13 #[.val (.ref b), .val (.int (4 : Int32))] []))
  have f14 := (f8.keep K7)
  have f15 := (f9.keep K7 (ninS ne11 nin0))
  have f16 := ((Fm.other W2 (Or.inl ne3)).keep K7 (ninS ne11 nin0))
  have f17 := (V2.keep K7 (ninS (Ne.symm ntu) nin0))
  exact goV X7 hx hret hlk (hb hby d_prog_13_method_3_13) hP (by decide) (by decide) ⟨rfl, N7, K12.1, t, u, _, f14, f15, f16, (Vc7.congr hF), f17, Gt, Gu, ntu⟩
theorem ef_rmAdd5 (m : MethodId) (b : Addr) : entryFrame m #[(.ref b), (.int (5 : Int32))] 2 = mkF m 0 #[.val (.ref b), .val (.int (5 : Int32))] [] := by first | (simp [entryFrame, mkF, argsToLocals, Value.category]; done) | rfl
set_option maxRecDepth 65536 in
set_option maxHeartbeats 40000000 in
theorem rmAdd5 (l : Launch) (Z : State) (a0 : Array Value) (hw : ∀ d ∈ tables_1, d.before a0 Z = true) (b : Addr) (F F' : Nat → Int32) (h0 : Heap) (n0 : Nat) (Z0 : n0 ≤ h0.size) (Ib : own_IS Z h0 n0 b F) (hF : ∀ i, i < 9 → own_add5 F i = F' i) :
    Ct l (⟨"com/example/doc_delta/docdelta/formats/IndexSet", "add", "(I)V"⟩ : MethodName) prog_13_method_3_code 2 none [] ({ frames := 1, cells := 0, slots := 0, locals := 15 } : Room) Z #[(.ref b), (.int (5 : Int32))] h0 (fun v h L => v = none ∧ Fr n0 L ∧ h0.size ≤ h.size ∧ own_IS Z h n0 b F') := by
  refine Ct.of (plainFor_of_name pn_1) (fun m => ef_rmAdd5 m b) ?_
  intro p e s m below meth c T0 X0 hx hby hml hret hlk hown hnm hZ e0 P hP
  obtain ⟨t, u, g, Eb, Ft, Fm, Vt, Vu, Gt, Gu, ntu⟩ := Ib
  refine Go.st (fun _ kt => XS.aloadN X0.here hx rfl (hb hby d_prog_13_method_3_0) rfl rfl kt) ?_
  show Go p e below P (T0.setTop (mkF m 1 #[.val (.ref b), .val (.int (5 : Int32))] [(.ref b)]))
  obtain ⟨T1, X1, e1, st1⟩ := getF X0 hx hZ hown (host := "") (Or.inl (hw _ (List.mem_of_getElem? (i := 11) rfl))) Via.refl e0 Fm (g := (mkF m 1 #[.val (.ref b), .val (.int (5 : Int32))] [(.ref b)])) rfl rfl (hb hby d_prog_13_method_3_1)
  refine Go.st st1 ?_
  show Go p e below P (T1.setTop (mkF m 4 #[.val (.ref b), .val (.int (5 : Int32))] [(.ref u)]))
  refine Go.st (fun _ kt => XS.iloadN X1.here hx rfl (hb hby d_prog_13_method_3_4) rfl (XS.iconst X1.here hx rfl (hb hby d_prog_13_method_3_5) kt)) ?_
  show Go p e below P (T1.setTop (mkF m 6 #[.val (.ref b), .val (.int (5 : Int32))] [(.int (1 : Int32)), (.int (5 : Int32)), (.ref u)]))
  have ne3 := Ary.ne Vu Eb (hw _ (List.mem_of_getElem? (i := 2) rfl))
  obtain ⟨T2, h2, X2, e2, W2, V2, st2⟩ := aryStZ X1 hx hZ e1 Vu (j := (5 : Int32)) (x := (1 : Int32)) (i := 5) ⟨by decide, by decide⟩ (by decide) (g := (mkF m 6 #[.val (.ref b), .val (.int (5 : Int32))] [(.int (1 : Int32)), (.int (5 : Int32)), (.ref u)])) rfl rfl (hb hby d_prog_13_method_3_6)
  have K4 := Keep.wr (Keep.refl h0 [t, u]) W2 (Or.inl (List.mem_of_getElem? (i := 1) rfl))
  have Z5 : n0 ≤ h2.size := by rw [W2.size]; exact Z0
  have N6 := Fr.snoc X2 (Fr.nil n0) Gu
  refine Go.st st2 ?_
  show Go p e below P (T2.setTop (mkF m 7 #[.val (.ref b), .val (.int (5 : Int32))] []))
  refine Go.st (fun _ kt => XS.aloadN X2.here hx rfl (hb hby d_prog_13_method_3_7) rfl rfl (XS.iloadN X2.here hx rfl (hb hby d_prog_13_method_3_8) rfl (XS.iconst X2.here hx rfl (hb hby d_prog_13_method_3_9) kt))) ?_
  show Go p e below P (T2.setTop (mkF m 10 #[.val (.ref b), .val (.int (5 : Int32))] [(.int (1 : Int32)), (.int (5 : Int32)), (.ref b)]))
  have f8 := (Eb.wr W2)
  have f9 := (Ft.other W2 (Or.inl ne3))
  have f10 := (Vt.other W2 ntu)
  obtain ⟨_, T7, Lc7, X7, ⟨rfl, Nq7, K7, Vc7⟩, st7⟩ := callCp X2 hx hZ e2 (y := (⟨"com/example/doc_delta/docdelta/formats/IndexSet", "count", "(II)V"⟩ : MethodName)) (a := b) (argsL := [(.int (5 : Int32)), (.int (1 : Int32))]) (rest := []) hown (hw _ (List.mem_of_getElem? (i := 30) rfl)) (hw _ (List.mem_of_getElem? (i := 31) rfl)) (hw _ (List.mem_of_getElem? (i := 32) rfl)) (hw _ (List.mem_of_getElem? (i := 2) rfl)) (hw _ (List.mem_of_getElem? (i := 3) rfl)) (hw _ (List.mem_of_getElem? (i := 33) rfl)) (by decide) f8 (rmCnt5 l Z a0 hw b t F _ n0 Z5 f8 f9 f10 Gt) (W := 0) (by decide) (by decide) (g := (mkF m 10 #[.val (.ref b), .val (.int (5 : Int32))] [(.int (1 : Int32)), (.int (5 : Int32)), (.ref b)])) rfl (by rw [hml]; rfl) (lenOf pd_2 rfl) rfl (by show 2 * 0 + _ ≤ _; exact Nat.le_of_eq rfl) (hb hby d_prog_13_method_3_10) (by decide) (by decide)
  have N7 := Fr.app N6 Nq7
  have ne11 := Ary.ne f10 f8 (hw _ (List.mem_of_getElem? (i := 2) rfl))
  have K12 := Keep.trans K4 K7 (allS (P := fun x => x ∈ [t, u] ∨ h0.size ≤ x) (Or.inl (List.mem_of_getElem? (i := 0) rfl)) all0)
  have Z13 := Nat.le_trans Z5 K7.1
  refine Go.st st7 ?_
  show Go p e below P (T7.setTop (mkF m 13 #[.val (.ref b), .val (.int (5 : Int32))] []))
  have f14 := (f8.keep K7)
  have f15 := (f9.keep K7 (ninS ne11 nin0))
  have f16 := ((Fm.other W2 (Or.inl ne3)).keep K7 (ninS ne11 nin0))
  have f17 := (V2.keep K7 (ninS (Ne.symm ntu) nin0))
  exact goV X7 hx hret hlk (hb hby d_prog_13_method_3_13) hP (by decide) (by decide) ⟨rfl, N7, K12.1, t, u, _, f14, f15, f16, (Vc7.congr hF), f17, Gt, Gu, ntu⟩
theorem ef_rmAdd6 (m : MethodId) (b : Addr) : entryFrame m #[(.ref b), (.int (6 : Int32))] 2 = mkF m 0 #[.val (.ref b), .val (.int (6 : Int32))] [] := by first | (simp [entryFrame, mkF, argsToLocals, Value.category]; done) | rfl
set_option maxRecDepth 65536 in
set_option maxHeartbeats 40000000 in
theorem rmAdd6 (l : Launch) (Z : State) (a0 : Array Value) (hw : ∀ d ∈ tables_1, d.before a0 Z = true) (b : Addr) (F F' : Nat → Int32) (h0 : Heap) (n0 : Nat) (Z0 : n0 ≤ h0.size) (Ib : own_IS Z h0 n0 b F) (hF : ∀ i, i < 9 → own_add6 F i = F' i) :
    Ct l (⟨"com/example/doc_delta/docdelta/formats/IndexSet", "add", "(I)V"⟩ : MethodName) prog_13_method_3_code 2 none [] ({ frames := 1, cells := 0, slots := 0, locals := 15 } : Room) Z #[(.ref b), (.int (6 : Int32))] h0 (fun v h L => v = none ∧ Fr n0 L ∧ h0.size ≤ h.size ∧ own_IS Z h n0 b F') := by
  refine Ct.of (plainFor_of_name pn_1) (fun m => ef_rmAdd6 m b) ?_
  intro p e s m below meth c T0 X0 hx hby hml hret hlk hown hnm hZ e0 P hP
  obtain ⟨t, u, g, Eb, Ft, Fm, Vt, Vu, Gt, Gu, ntu⟩ := Ib
  refine Go.st (fun _ kt => XS.aloadN X0.here hx rfl (hb hby d_prog_13_method_3_0) rfl rfl kt) ?_
  show Go p e below P (T0.setTop (mkF m 1 #[.val (.ref b), .val (.int (6 : Int32))] [(.ref b)]))
  obtain ⟨T1, X1, e1, st1⟩ := getF X0 hx hZ hown (host := "") (Or.inl (hw _ (List.mem_of_getElem? (i := 11) rfl))) Via.refl e0 Fm (g := (mkF m 1 #[.val (.ref b), .val (.int (6 : Int32))] [(.ref b)])) rfl rfl (hb hby d_prog_13_method_3_1)
  refine Go.st st1 ?_
  show Go p e below P (T1.setTop (mkF m 4 #[.val (.ref b), .val (.int (6 : Int32))] [(.ref u)]))
  refine Go.st (fun _ kt => XS.iloadN X1.here hx rfl (hb hby d_prog_13_method_3_4) rfl (XS.iconst X1.here hx rfl (hb hby d_prog_13_method_3_5) kt)) ?_
  show Go p e below P (T1.setTop (mkF m 6 #[.val (.ref b), .val (.int (6 : Int32))] [(.int (1 : Int32)), (.int (6 : Int32)), (.ref u)]))
  have ne3 := Ary.ne Vu Eb (hw _ (List.mem_of_getElem? (i := 2) rfl))
  obtain ⟨T2, h2, X2, e2, W2, V2, st2⟩ := aryStZ X1 hx hZ e1 Vu (j := (6 : Int32)) (x := (1 : Int32)) (i := 6) ⟨by decide, by decide⟩ (by decide) (g := (mkF m 6 #[.val (.ref b), .val (.int (6 : Int32))] [(.int (1 : Int32)), (.int (6 : Int32)), (.ref u)])) rfl rfl (hb hby d_prog_13_method_3_6)
  have K4 := Keep.wr (Keep.refl h0 [t, u]) W2 (Or.inl (List.mem_of_getElem? (i := 1) rfl))
  have Z5 : n0 ≤ h2.size := by rw [W2.size]; exact Z0
  have N6 := Fr.snoc X2 (Fr.nil n0) Gu
  refine Go.st st2 ?_
  show Go p e below P (T2.setTop (mkF m 7 #[.val (.ref b), .val (.int (6 : Int32))] []))
  refine Go.st (fun _ kt => XS.aloadN X2.here hx rfl (hb hby d_prog_13_method_3_7) rfl rfl (XS.iloadN X2.here hx rfl (hb hby d_prog_13_method_3_8) rfl (XS.iconst X2.here hx rfl (hb hby d_prog_13_method_3_9) kt))) ?_
  show Go p e below P (T2.setTop (mkF m 10 #[.val (.ref b), .val (.int (6 : Int32))] [(.int (1 : Int32)), (.int (6 : Int32)), (.ref b)]))
  have f8 := (Eb.wr W2)
  have f9 := (Ft.other W2 (Or.inl ne3))
  have f10 := (Vt.other W2 ntu)
  obtain ⟨_, T7, Lc7, X7, ⟨rfl, Nq7, K7, Vc7⟩, st7⟩ := callCp X2 hx hZ e2 (y := (⟨"com/example/doc_delta/docdelta/formats/IndexSet", "count", "(II)V"⟩ : MethodName)) (a := b) (argsL := [(.int (6 : Int32)), (.int (1 : Int32))]) (rest := []) hown (hw _ (List.mem_of_getElem? (i := 30) rfl)) (hw _ (List.mem_of_getElem? (i := 31) rfl)) (hw _ (List.mem_of_getElem? (i := 32) rfl)) (hw _ (List.mem_of_getElem? (i := 2) rfl)) (hw _ (List.mem_of_getElem? (i := 3) rfl)) (hw _ (List.mem_of_getElem? (i := 33) rfl)) (by decide) f8 (rmCnt6 l Z a0 hw b t F _ n0 Z5 f8 f9 f10 Gt) (W := 0) (by decide) (by decide) (g := (mkF m 10 #[.val (.ref b), .val (.int (6 : Int32))] [(.int (1 : Int32)), (.int (6 : Int32)), (.ref b)])) rfl (by rw [hml]; rfl) (lenOf pd_2 rfl) rfl (by show 2 * 0 + _ ≤ _; exact Nat.le_of_eq rfl) (hb hby d_prog_13_method_3_10) (by decide) (by decide)
  have N7 := Fr.app N6 Nq7
  have ne11 := Ary.ne f10 f8 (hw _ (List.mem_of_getElem? (i := 2) rfl))
  have K12 := Keep.trans K4 K7 (allS (P := fun x => x ∈ [t, u] ∨ h0.size ≤ x) (Or.inl (List.mem_of_getElem? (i := 0) rfl)) all0)
  have Z13 := Nat.le_trans Z5 K7.1
  refine Go.st st7 ?_
  show Go p e below P (T7.setTop (mkF m 13 #[.val (.ref b), .val (.int (6 : Int32))] []))
  have f14 := (f8.keep K7)
  have f15 := (f9.keep K7 (ninS ne11 nin0))
  have f16 := ((Fm.other W2 (Or.inl ne3)).keep K7 (ninS ne11 nin0))
  have f17 := (V2.keep K7 (ninS (Ne.symm ntu) nin0))
  exact goV X7 hx hret hlk (hb hby d_prog_13_method_3_13) hP (by decide) (by decide) ⟨rfl, N7, K12.1, t, u, _, f14, f15, f16, (Vc7.congr hF), f17, Gt, Gu, ntu⟩
theorem ef_rmAdd7 (m : MethodId) (b : Addr) : entryFrame m #[(.ref b), (.int (7 : Int32))] 2 = mkF m 0 #[.val (.ref b), .val (.int (7 : Int32))] [] := by first | (simp [entryFrame, mkF, argsToLocals, Value.category]; done) | rfl
set_option maxRecDepth 65536 in
set_option maxHeartbeats 40000000 in
theorem rmAdd7 (l : Launch) (Z : State) (a0 : Array Value) (hw : ∀ d ∈ tables_1, d.before a0 Z = true) (b : Addr) (F F' : Nat → Int32) (h0 : Heap) (n0 : Nat) (Z0 : n0 ≤ h0.size) (Ib : own_IS Z h0 n0 b F) (hF : ∀ i, i < 9 → own_add7 F i = F' i) :
    Ct l (⟨"com/example/doc_delta/docdelta/formats/IndexSet", "add", "(I)V"⟩ : MethodName) prog_13_method_3_code 2 none [] ({ frames := 1, cells := 0, slots := 0, locals := 15 } : Room) Z #[(.ref b), (.int (7 : Int32))] h0 (fun v h L => v = none ∧ Fr n0 L ∧ h0.size ≤ h.size ∧ own_IS Z h n0 b F') := by
  refine Ct.of (plainFor_of_name pn_1) (fun m => ef_rmAdd7 m b) ?_
  intro p e s m below meth c T0 X0 hx hby hml hret hlk hown hnm hZ e0 P hP
  obtain ⟨t, u, g, Eb, Ft, Fm, Vt, Vu, Gt, Gu, ntu⟩ := Ib
  refine Go.st (fun _ kt => XS.aloadN X0.here hx rfl (hb hby d_prog_13_method_3_0) rfl rfl kt) ?_
  show Go p e below P (T0.setTop (mkF m 1 #[.val (.ref b), .val (.int (7 : Int32))] [(.ref b)]))
  obtain ⟨T1, X1, e1, st1⟩ := getF X0 hx hZ hown (host := "") (Or.inl (hw _ (List.mem_of_getElem? (i := 11) rfl))) Via.refl e0 Fm (g := (mkF m 1 #[.val (.ref b), .val (.int (7 : Int32))] [(.ref b)])) rfl rfl (hb hby d_prog_13_method_3_1)
  refine Go.st st1 ?_
  show Go p e below P (T1.setTop (mkF m 4 #[.val (.ref b), .val (.int (7 : Int32))] [(.ref u)]))
  refine Go.st (fun _ kt => XS.iloadN X1.here hx rfl (hb hby d_prog_13_method_3_4) rfl (XS.iconst X1.here hx rfl (hb hby d_prog_13_method_3_5) kt)) ?_
  show Go p e below P (T1.setTop (mkF m 6 #[.val (.ref b), .val (.int (7 : Int32))] [(.int (1 : Int32)), (.int (7 : Int32)), (.ref u)]))
  have ne3 := Ary.ne Vu Eb (hw _ (List.mem_of_getElem? (i := 2) rfl))
  obtain ⟨T2, h2, X2, e2, W2, V2, st2⟩ := aryStZ X1 hx hZ e1 Vu (j := (7 : Int32)) (x := (1 : Int32)) (i := 7) ⟨by decide, by decide⟩ (by decide) (g := (mkF m 6 #[.val (.ref b), .val (.int (7 : Int32))] [(.int (1 : Int32)), (.int (7 : Int32)), (.ref u)])) rfl rfl (hb hby d_prog_13_method_3_6)
  have K4 := Keep.wr (Keep.refl h0 [t, u]) W2 (Or.inl (List.mem_of_getElem? (i := 1) rfl))
  have Z5 : n0 ≤ h2.size := by rw [W2.size]; exact Z0
  have N6 := Fr.snoc X2 (Fr.nil n0) Gu
  refine Go.st st2 ?_
  show Go p e below P (T2.setTop (mkF m 7 #[.val (.ref b), .val (.int (7 : Int32))] []))
  refine Go.st (fun _ kt => XS.aloadN X2.here hx rfl (hb hby d_prog_13_method_3_7) rfl rfl (XS.iloadN X2.here hx rfl (hb hby d_prog_13_method_3_8) rfl (XS.iconst X2.here hx rfl (hb hby d_prog_13_method_3_9) kt))) ?_
  show Go p e below P (T2.setTop (mkF m 10 #[.val (.ref b), .val (.int (7 : Int32))] [(.int (1 : Int32)), (.int (7 : Int32)), (.ref b)]))
  have f8 := (Eb.wr W2)
  have f9 := (Ft.other W2 (Or.inl ne3))
  have f10 := (Vt.other W2 ntu)
  obtain ⟨_, T7, Lc7, X7, ⟨rfl, Nq7, K7, Vc7⟩, st7⟩ := callCp X2 hx hZ e2 (y := (⟨"com/example/doc_delta/docdelta/formats/IndexSet", "count", "(II)V"⟩ : MethodName)) (a := b) (argsL := [(.int (7 : Int32)), (.int (1 : Int32))]) (rest := []) hown (hw _ (List.mem_of_getElem? (i := 30) rfl)) (hw _ (List.mem_of_getElem? (i := 31) rfl)) (hw _ (List.mem_of_getElem? (i := 32) rfl)) (hw _ (List.mem_of_getElem? (i := 2) rfl)) (hw _ (List.mem_of_getElem? (i := 3) rfl)) (hw _ (List.mem_of_getElem? (i := 33) rfl)) (by decide) f8 (rmCnt7 l Z a0 hw b t F _ n0 Z5 f8 f9 f10 Gt) (W := 0) (by decide) (by decide) (g := (mkF m 10 #[.val (.ref b), .val (.int (7 : Int32))] [(.int (1 : Int32)), (.int (7 : Int32)), (.ref b)])) rfl (by rw [hml]; rfl) (lenOf pd_2 rfl) rfl (by show 2 * 0 + _ ≤ _; exact Nat.le_of_eq rfl) (hb hby d_prog_13_method_3_10) (by decide) (by decide)
  have N7 := Fr.app N6 Nq7
  have ne11 := Ary.ne f10 f8 (hw _ (List.mem_of_getElem? (i := 2) rfl))
  have K12 := Keep.trans K4 K7 (allS (P := fun x => x ∈ [t, u] ∨ h0.size ≤ x) (Or.inl (List.mem_of_getElem? (i := 0) rfl)) all0)
  have Z13 := Nat.le_trans Z5 K7.1
  refine Go.st st7 ?_
  show Go p e below P (T7.setTop (mkF m 13 #[.val (.ref b), .val (.int (7 : Int32))] []))
  have f14 := (f8.keep K7)
  have f15 := (f9.keep K7 (ninS ne11 nin0))
  have f16 := ((Fm.other W2 (Or.inl ne3)).keep K7 (ninS ne11 nin0))
  have f17 := (V2.keep K7 (ninS (Ne.symm ntu) nin0))
  exact goV X7 hx hret hlk (hb hby d_prog_13_method_3_13) hP (by decide) (by decide) ⟨rfl, N7, K12.1, t, u, _, f14, f15, f16, (Vc7.congr hF), f17, Gt, Gu, ntu⟩
theorem d_prog_13_method_7_0 : decode prog_13_method_7_code 0 = .ok (.iconst 0, 1) := by decide +kernel
theorem d_prog_13_method_7_1 : decode prog_13_method_7_code 1 = .ok (.istore_n 2, 1) := by decide +kernel
theorem d_prog_13_method_7_2 : decode prog_13_method_7_code 2 = .ok (.iload_n 1, 1) := by decide +kernel
theorem d_prog_13_method_7_3 : decode prog_13_method_7_code 3 = .ok (.istore_n 3, 1) := by decide +kernel
theorem d_prog_13_method_7_4 : decode prog_13_method_7_code 4 = .ok (.iload_n 3, 1) := by decide +kernel
theorem d_prog_13_method_7_5 : decode prog_13_method_7_code 5 = .ok (.ifCond .le 22, 3) := by decide +kernel
theorem d_prog_13_method_7_27 : decode prog_13_method_7_code 27 = .ok (.iload_n 2, 1) := by decide +kernel
theorem d_prog_13_method_7_28 : decode prog_13_method_7_code 28 = .ok (.ireturn, 1) := by decide +kernel
theorem d_prog_13_method_7_8 : decode prog_13_method_7_code 8 = .ok (.iload_n 2, 1) := by decide +kernel
theorem d_prog_13_method_7_9 : decode prog_13_method_7_code 9 = .ok (.aload_n 0, 1) := by decide +kernel
theorem d_prog_13_method_7_10 : decode prog_13_method_7_code 10 = .ok (.getfield 13, 3) := by decide +kernel
theorem d_prog_13_method_7_13 : decode prog_13_method_7_code 13 = .ok (.iload_n 3, 1) := by decide +kernel
theorem d_prog_13_method_7_14 : decode prog_13_method_7_code 14 = .ok (.iaload, 1) := by decide +kernel
theorem d_prog_13_method_7_15 : decode prog_13_method_7_code 15 = .ok (.iadd, 1) := by decide +kernel
theorem d_prog_13_method_7_16 : decode prog_13_method_7_code 16 = .ok (.istore_n 2, 1) := by decide +kernel
theorem d_prog_13_method_7_17 : decode prog_13_method_7_code 17 = .ok (.iload_n 3, 1) := by decide +kernel
theorem d_prog_13_method_7_18 : decode prog_13_method_7_code 18 = .ok (.iload_n 3, 1) := by decide +kernel
theorem d_prog_13_method_7_19 : decode prog_13_method_7_code 19 = .ok (.iload_n 3, 1) := by decide +kernel
theorem d_prog_13_method_7_20 : decode prog_13_method_7_code 20 = .ok (.ineg, 1) := by decide +kernel
theorem d_prog_13_method_7_21 : decode prog_13_method_7_code 21 = .ok (.iand, 1) := by decide +kernel
theorem d_prog_13_method_7_22 : decode prog_13_method_7_code 22 = .ok (.isub, 1) := by decide +kernel
theorem d_prog_13_method_7_23 : decode prog_13_method_7_code 23 = .ok (.istore_n 3, 1) := by decide +kernel
theorem d_prog_13_method_7_24 : decode prog_13_method_7_code 24 = .ok (.goto (-20), 3) := by decide +kernel
theorem ef_rmCB (m : MethodId) (b : Addr) (kk : Int32) : entryFrame m #[(.ref b), (.int kk)] 4 = mkF m 0 #[.val (.ref b), .val (.int kk), .unset, .unset] [] := by first | (simp [entryFrame, mkF, argsToLocals, Value.category]; done) | rfl
set_option maxRecDepth 65536 in
set_option maxHeartbeats 40000000 in
theorem rmCB (l : Launch) (Z : State) (a0 : Array Value) (hw : ∀ d ∈ tables_1, d.before a0 Z = true) (b : Addr) (kk : Int32) (F : Nat → Int32) (k : Nat) (h0 : Heap) (n0 : Nat) (Z0 : n0 ≤ h0.size) (Ib : own_IS Z h0 n0 b F) (hk : kk = Int32.ofNat k) (hk9 : k < 9) :
    Ct l (⟨"com/example/doc_delta/docdelta/formats/IndexSet", "countBefore", "(I)I"⟩ : MethodName) prog_13_method_7_code 4 (some .int) [] ({ frames := 0, cells := 0, slots := 0, locals := 0 } : Room) Z #[(.ref b), (.int kk)] h0 (fun v h L => v = some (.int (own_cb F k)) ∧ Fr n0 L ∧ h = h0) := by
  refine Ct.of (plainFor_of_name pn_1) (fun m => ef_rmCB m b kk) ?_
  intro p e s m below meth c T0 X0 hx hby hml hret hlk hown hnm hZ e0 P hP
  obtain ⟨t, u, g, Eb, Ft, Fm, Vt, Vu, Gt, Gu, ntu⟩ := Ib
  subst hk
  rcases (by omega : k = 0 ∨ k = 1 ∨ k = 2 ∨ k = 3 ∨ k = 4 ∨ k = 5 ∨ k = 6 ∨ k = 7 ∨ k = 8) with rfl | rfl | rfl | rfl | rfl | rfl | rfl | rfl | rfl
  · show Go p e below P (T0.setTop (mkF m 0 #[.val (.ref b), .val (.int (0 : Int32)), .unset, .unset] []))
    refine Go.st (fun _ kt => XS.iconst X0.here hx rfl (hb hby d_prog_13_method_7_0) (XS.istoreN X0.here hx rfl (hb hby d_prog_13_method_7_1) rfl (l' := #[.val (.ref b), .val (.int (0 : Int32)), .val (.int (0 : Int32)), .unset]) rfl (XS.iloadN X0.here hx rfl (hb hby d_prog_13_method_7_2) rfl (XS.istoreN X0.here hx rfl (hb hby d_prog_13_method_7_3) rfl (l' := #[.val (.ref b), .val (.int (0 : Int32)), .val (.int (0 : Int32)), .val (.int (0 : Int32))]) rfl kt)))) ?_
    show Go p e below P (T0.setTop (mkF m 4 #[.val (.ref b), .val (.int (0 : Int32)), .val (.int (0 : Int32)), .val (.int (0 : Int32))] []))
    refine Go.st (fun _ kt => XS.iloadN X0.here hx rfl (hb hby d_prog_13_method_7_4) rfl (XS.ifYes X0.here hx rfl (pc0 := 5) (pc' := 27) rfl (hb hby d_prog_13_method_7_5) rfl ((if0 _ _).trans (flt (by decide : ¬ ((0 : Int32) < (0 : Int32)))).2.2.2) (by decide) (by decide) (XS.iloadN X0.here hx rfl (hb hby d_prog_13_method_7_27) rfl kt))) ?_
    show Go p e below P (T0.setTop (mkF m 28 #[.val (.ref b), .val (.int (0 : Int32)), .val (.int (0 : Int32)), .val (.int (0 : Int32))] [(.int (0 : Int32))]))
    exact goI X0 hx hret hlk (hb hby d_prog_13_method_7_28) hP (by decide) (by decide) ⟨rfl, (Fr.nil n0), e0⟩
  · show Go p e below P (T0.setTop (mkF m 0 #[.val (.ref b), .val (.int (1 : Int32)), .unset, .unset] []))
    refine Go.st (fun _ kt => XS.iconst X0.here hx rfl (hb hby d_prog_13_method_7_0) (XS.istoreN X0.here hx rfl (hb hby d_prog_13_method_7_1) rfl (l' := #[.val (.ref b), .val (.int (1 : Int32)), .val (.int (0 : Int32)), .unset]) rfl (XS.iloadN X0.here hx rfl (hb hby d_prog_13_method_7_2) rfl (XS.istoreN X0.here hx rfl (hb hby d_prog_13_method_7_3) rfl (l' := #[.val (.ref b), .val (.int (1 : Int32)), .val (.int (0 : Int32)), .val (.int (1 : Int32))]) rfl kt)))) ?_
    show Go p e below P (T0.setTop (mkF m 4 #[.val (.ref b), .val (.int (1 : Int32)), .val (.int (0 : Int32)), .val (.int (1 : Int32))] []))
    refine Go.st (fun _ kt => XS.iloadN X0.here hx rfl (hb hby d_prog_13_method_7_4) rfl (XS.ifNo X0.here hx rfl (hb hby d_prog_13_method_7_5) rfl ((if0 _ _).trans (tlt (by decide : (0 : Int32) < (1 : Int32))).2.2.2) (XS.iloadN X0.here hx rfl (hb hby d_prog_13_method_7_8) rfl (XS.aloadN X0.here hx rfl (hb hby d_prog_13_method_7_9) rfl rfl kt)))) ?_
    show Go p e below P (T0.setTop (mkF m 10 #[.val (.ref b), .val (.int (1 : Int32)), .val (.int (0 : Int32)), .val (.int (1 : Int32))] [(.ref b), (.int (0 : Int32))]))
    obtain ⟨T1, X1, e1, st1⟩ := getF X0 hx hZ hown (host := "") (Or.inl (hw _ (List.mem_of_getElem? (i := 14) rfl))) Via.refl e0 Ft (g := (mkF m 10 #[.val (.ref b), .val (.int (1 : Int32)), .val (.int (0 : Int32)), .val (.int (1 : Int32))] [(.ref b), (.int (0 : Int32))])) rfl rfl (hb hby d_prog_13_method_7_10)
    refine Go.st st1 ?_
    show Go p e below P (T1.setTop (mkF m 13 #[.val (.ref b), .val (.int (1 : Int32)), .val (.int (0 : Int32)), .val (.int (1 : Int32))] [(.ref t), (.int (0 : Int32))]))
    refine Go.st (fun _ kt => XS.iloadN X1.here hx rfl (hb hby d_prog_13_method_7_13) rfl (aryLdI X1 hx hZ e1 Vt (j := (1 : Int32)) (i := 1) ⟨by decide, by decide⟩ (by decide) (g := (mkF m 14 #[.val (.ref b), .val (.int (1 : Int32)), .val (.int (0 : Int32)), .val (.int (1 : Int32))] [(.int (1 : Int32)), (.ref t), (.int (0 : Int32))])) rfl rfl (hb hby d_prog_13_method_7_14) _ (XS.iadd X1.here hx rfl (hb hby d_prog_13_method_7_15) rfl (XS.istoreN X1.here hx rfl (hb hby d_prog_13_method_7_16) rfl (l' := #[.val (.ref b), .val (.int (1 : Int32)), .val (.int ((0 : Int32) + (F 1))), .val (.int (1 : Int32))]) rfl (XS.iloadN X1.here hx rfl (hb hby d_prog_13_method_7_17) rfl (XS.iloadN X1.here hx rfl (hb hby d_prog_13_method_7_18) rfl (XS.iloadN X1.here hx rfl (hb hby d_prog_13_method_7_19) rfl (XS.ineg X1.here hx rfl (hb hby d_prog_13_method_7_20) rfl kt)))))))) ?_
    show Go p e below P (T1.setTop (mkF m 21 #[.val (.ref b), .val (.int (1 : Int32)), .val (.int ((0 : Int32) + (F 1))), .val (.int (1 : Int32))] [(.int (-(1 : Int32))), (.int (1 : Int32)), (.int (1 : Int32))]))
    refine Go.st (fun _ kt => XS.iand X1.here hx rfl (hb hby d_prog_13_method_7_21) rfl (XS.isub X1.here hx rfl (hb hby d_prog_13_method_7_22) rfl (XS.istoreN X1.here hx rfl (hb hby d_prog_13_method_7_23) rfl (l' := #[.val (.ref b), .val (.int (1 : Int32)), .val (.int ((0 : Int32) + (F 1))), .val (.int ((1 : Int32) - ((1 : Int32) &&& (-(1 : Int32)))))]) rfl (XS.goto X1.here hx rfl (pc0 := 24) (pc' := 4) rfl (hb hby d_prog_13_method_7_24) (by decide) (by decide) kt)))) ?_
    show Go p e below P (T1.setTop (mkF m 4 #[.val (.ref b), .val (.int (1 : Int32)), .val (.int ((0 : Int32) + (F 1))), .val (.int ((1 : Int32) - ((1 : Int32) &&& (-(1 : Int32)))))] []))
    rw [show ((1 : Int32) - ((1 : Int32) &&& (-(1 : Int32)))) = (0 : Int32) from by decide]
    show Go p e below P (T1.setTop (mkF m 4 #[.val (.ref b), .val (.int (1 : Int32)), .val (.int ((0 : Int32) + (F 1))), .val (.int (0 : Int32))] []))
    refine Go.st (fun _ kt => XS.iloadN X1.here hx rfl (hb hby d_prog_13_method_7_4) rfl (XS.ifYes X1.here hx rfl (pc0 := 5) (pc' := 27) rfl (hb hby d_prog_13_method_7_5) rfl ((if0 _ _).trans (flt (by decide : ¬ ((0 : Int32) < (0 : Int32)))).2.2.2) (by decide) (by decide) (XS.iloadN X1.here hx rfl (hb hby d_prog_13_method_7_27) rfl kt))) ?_
    show Go p e below P (T1.setTop (mkF m 28 #[.val (.ref b), .val (.int (1 : Int32)), .val (.int ((0 : Int32) + (F 1))), .val (.int (0 : Int32))] [(.int ((0 : Int32) + (F 1)))]))
    exact goI X1 hx hret hlk (hb hby d_prog_13_method_7_28) hP (by decide) (by decide) ⟨rfl, (Fr.nil n0), e1⟩
  · show Go p e below P (T0.setTop (mkF m 0 #[.val (.ref b), .val (.int (2 : Int32)), .unset, .unset] []))
    refine Go.st (fun _ kt => XS.iconst X0.here hx rfl (hb hby d_prog_13_method_7_0) (XS.istoreN X0.here hx rfl (hb hby d_prog_13_method_7_1) rfl (l' := #[.val (.ref b), .val (.int (2 : Int32)), .val (.int (0 : Int32)), .unset]) rfl (XS.iloadN X0.here hx rfl (hb hby d_prog_13_method_7_2) rfl (XS.istoreN X0.here hx rfl (hb hby d_prog_13_method_7_3) rfl (l' := #[.val (.ref b), .val (.int (2 : Int32)), .val (.int (0 : Int32)), .val (.int (2 : Int32))]) rfl kt)))) ?_
    show Go p e below P (T0.setTop (mkF m 4 #[.val (.ref b), .val (.int (2 : Int32)), .val (.int (0 : Int32)), .val (.int (2 : Int32))] []))
    refine Go.st (fun _ kt => XS.iloadN X0.here hx rfl (hb hby d_prog_13_method_7_4) rfl (XS.ifNo X0.here hx rfl (hb hby d_prog_13_method_7_5) rfl ((if0 _ _).trans (tlt (by decide : (0 : Int32) < (2 : Int32))).2.2.2) (XS.iloadN X0.here hx rfl (hb hby d_prog_13_method_7_8) rfl (XS.aloadN X0.here hx rfl (hb hby d_prog_13_method_7_9) rfl rfl kt)))) ?_
    show Go p e below P (T0.setTop (mkF m 10 #[.val (.ref b), .val (.int (2 : Int32)), .val (.int (0 : Int32)), .val (.int (2 : Int32))] [(.ref b), (.int (0 : Int32))]))
    obtain ⟨T2, X2, e2, st2⟩ := getF X0 hx hZ hown (host := "") (Or.inl (hw _ (List.mem_of_getElem? (i := 14) rfl))) Via.refl e0 Ft (g := (mkF m 10 #[.val (.ref b), .val (.int (2 : Int32)), .val (.int (0 : Int32)), .val (.int (2 : Int32))] [(.ref b), (.int (0 : Int32))])) rfl rfl (hb hby d_prog_13_method_7_10)
    refine Go.st st2 ?_
    show Go p e below P (T2.setTop (mkF m 13 #[.val (.ref b), .val (.int (2 : Int32)), .val (.int (0 : Int32)), .val (.int (2 : Int32))] [(.ref t), (.int (0 : Int32))]))
    refine Go.st (fun _ kt => XS.iloadN X2.here hx rfl (hb hby d_prog_13_method_7_13) rfl (aryLdI X2 hx hZ e2 Vt (j := (2 : Int32)) (i := 2) ⟨by decide, by decide⟩ (by decide) (g := (mkF m 14 #[.val (.ref b), .val (.int (2 : Int32)), .val (.int (0 : Int32)), .val (.int (2 : Int32))] [(.int (2 : Int32)), (.ref t), (.int (0 : Int32))])) rfl rfl (hb hby d_prog_13_method_7_14) _ (XS.iadd X2.here hx rfl (hb hby d_prog_13_method_7_15) rfl (XS.istoreN X2.here hx rfl (hb hby d_prog_13_method_7_16) rfl (l' := #[.val (.ref b), .val (.int (2 : Int32)), .val (.int ((0 : Int32) + (F 2))), .val (.int (2 : Int32))]) rfl (XS.iloadN X2.here hx rfl (hb hby d_prog_13_method_7_17) rfl (XS.iloadN X2.here hx rfl (hb hby d_prog_13_method_7_18) rfl (XS.iloadN X2.here hx rfl (hb hby d_prog_13_method_7_19) rfl (XS.ineg X2.here hx rfl (hb hby d_prog_13_method_7_20) rfl kt)))))))) ?_
    show Go p e below P (T2.setTop (mkF m 21 #[.val (.ref b), .val (.int (2 : Int32)), .val (.int ((0 : Int32) + (F 2))), .val (.int (2 : Int32))] [(.int (-(2 : Int32))), (.int (2 : Int32)), (.int (2 : Int32))]))
    refine Go.st (fun _ kt => XS.iand X2.here hx rfl (hb hby d_prog_13_method_7_21) rfl (XS.isub X2.here hx rfl (hb hby d_prog_13_method_7_22) rfl (XS.istoreN X2.here hx rfl (hb hby d_prog_13_method_7_23) rfl (l' := #[.val (.ref b), .val (.int (2 : Int32)), .val (.int ((0 : Int32) + (F 2))), .val (.int ((2 : Int32) - ((2 : Int32) &&& (-(2 : Int32)))))]) rfl (XS.goto X2.here hx rfl (pc0 := 24) (pc' := 4) rfl (hb hby d_prog_13_method_7_24) (by decide) (by decide) kt)))) ?_
    show Go p e below P (T2.setTop (mkF m 4 #[.val (.ref b), .val (.int (2 : Int32)), .val (.int ((0 : Int32) + (F 2))), .val (.int ((2 : Int32) - ((2 : Int32) &&& (-(2 : Int32)))))] []))
    rw [show ((2 : Int32) - ((2 : Int32) &&& (-(2 : Int32)))) = (0 : Int32) from by decide]
    show Go p e below P (T2.setTop (mkF m 4 #[.val (.ref b), .val (.int (2 : Int32)), .val (.int ((0 : Int32) + (F 2))), .val (.int (0 : Int32))] []))
    refine Go.st (fun _ kt => XS.iloadN X2.here hx rfl (hb hby d_prog_13_method_7_4) rfl (XS.ifYes X2.here hx rfl (pc0 := 5) (pc' := 27) rfl (hb hby d_prog_13_method_7_5) rfl ((if0 _ _).trans (flt (by decide : ¬ ((0 : Int32) < (0 : Int32)))).2.2.2) (by decide) (by decide) (XS.iloadN X2.here hx rfl (hb hby d_prog_13_method_7_27) rfl kt))) ?_
    show Go p e below P (T2.setTop (mkF m 28 #[.val (.ref b), .val (.int (2 : Int32)), .val (.int ((0 : Int32) + (F 2))), .val (.int (0 : Int32))] [(.int ((0 : Int32) + (F 2)))]))
    exact goI X2 hx hret hlk (hb hby d_prog_13_method_7_28) hP (by decide) (by decide) ⟨rfl, (Fr.nil n0), e2⟩
  · show Go p e below P (T0.setTop (mkF m 0 #[.val (.ref b), .val (.int (3 : Int32)), .unset, .unset] []))
    refine Go.st (fun _ kt => XS.iconst X0.here hx rfl (hb hby d_prog_13_method_7_0) (XS.istoreN X0.here hx rfl (hb hby d_prog_13_method_7_1) rfl (l' := #[.val (.ref b), .val (.int (3 : Int32)), .val (.int (0 : Int32)), .unset]) rfl (XS.iloadN X0.here hx rfl (hb hby d_prog_13_method_7_2) rfl (XS.istoreN X0.here hx rfl (hb hby d_prog_13_method_7_3) rfl (l' := #[.val (.ref b), .val (.int (3 : Int32)), .val (.int (0 : Int32)), .val (.int (3 : Int32))]) rfl kt)))) ?_
    show Go p e below P (T0.setTop (mkF m 4 #[.val (.ref b), .val (.int (3 : Int32)), .val (.int (0 : Int32)), .val (.int (3 : Int32))] []))
    refine Go.st (fun _ kt => XS.iloadN X0.here hx rfl (hb hby d_prog_13_method_7_4) rfl (XS.ifNo X0.here hx rfl (hb hby d_prog_13_method_7_5) rfl ((if0 _ _).trans (tlt (by decide : (0 : Int32) < (3 : Int32))).2.2.2) (XS.iloadN X0.here hx rfl (hb hby d_prog_13_method_7_8) rfl (XS.aloadN X0.here hx rfl (hb hby d_prog_13_method_7_9) rfl rfl kt)))) ?_
    show Go p e below P (T0.setTop (mkF m 10 #[.val (.ref b), .val (.int (3 : Int32)), .val (.int (0 : Int32)), .val (.int (3 : Int32))] [(.ref b), (.int (0 : Int32))]))
    obtain ⟨T3, X3, e3, st3⟩ := getF X0 hx hZ hown (host := "") (Or.inl (hw _ (List.mem_of_getElem? (i := 14) rfl))) Via.refl e0 Ft (g := (mkF m 10 #[.val (.ref b), .val (.int (3 : Int32)), .val (.int (0 : Int32)), .val (.int (3 : Int32))] [(.ref b), (.int (0 : Int32))])) rfl rfl (hb hby d_prog_13_method_7_10)
    refine Go.st st3 ?_
    show Go p e below P (T3.setTop (mkF m 13 #[.val (.ref b), .val (.int (3 : Int32)), .val (.int (0 : Int32)), .val (.int (3 : Int32))] [(.ref t), (.int (0 : Int32))]))
    refine Go.st (fun _ kt => XS.iloadN X3.here hx rfl (hb hby d_prog_13_method_7_13) rfl (aryLdI X3 hx hZ e3 Vt (j := (3 : Int32)) (i := 3) ⟨by decide, by decide⟩ (by decide) (g := (mkF m 14 #[.val (.ref b), .val (.int (3 : Int32)), .val (.int (0 : Int32)), .val (.int (3 : Int32))] [(.int (3 : Int32)), (.ref t), (.int (0 : Int32))])) rfl rfl (hb hby d_prog_13_method_7_14) _ (XS.iadd X3.here hx rfl (hb hby d_prog_13_method_7_15) rfl (XS.istoreN X3.here hx rfl (hb hby d_prog_13_method_7_16) rfl (l' := #[.val (.ref b), .val (.int (3 : Int32)), .val (.int ((0 : Int32) + (F 3))), .val (.int (3 : Int32))]) rfl (XS.iloadN X3.here hx rfl (hb hby d_prog_13_method_7_17) rfl (XS.iloadN X3.here hx rfl (hb hby d_prog_13_method_7_18) rfl (XS.iloadN X3.here hx rfl (hb hby d_prog_13_method_7_19) rfl (XS.ineg X3.here hx rfl (hb hby d_prog_13_method_7_20) rfl kt)))))))) ?_
    show Go p e below P (T3.setTop (mkF m 21 #[.val (.ref b), .val (.int (3 : Int32)), .val (.int ((0 : Int32) + (F 3))), .val (.int (3 : Int32))] [(.int (-(3 : Int32))), (.int (3 : Int32)), (.int (3 : Int32))]))
    refine Go.st (fun _ kt => XS.iand X3.here hx rfl (hb hby d_prog_13_method_7_21) rfl (XS.isub X3.here hx rfl (hb hby d_prog_13_method_7_22) rfl (XS.istoreN X3.here hx rfl (hb hby d_prog_13_method_7_23) rfl (l' := #[.val (.ref b), .val (.int (3 : Int32)), .val (.int ((0 : Int32) + (F 3))), .val (.int ((3 : Int32) - ((3 : Int32) &&& (-(3 : Int32)))))]) rfl (XS.goto X3.here hx rfl (pc0 := 24) (pc' := 4) rfl (hb hby d_prog_13_method_7_24) (by decide) (by decide) kt)))) ?_
    show Go p e below P (T3.setTop (mkF m 4 #[.val (.ref b), .val (.int (3 : Int32)), .val (.int ((0 : Int32) + (F 3))), .val (.int ((3 : Int32) - ((3 : Int32) &&& (-(3 : Int32)))))] []))
    rw [show ((3 : Int32) - ((3 : Int32) &&& (-(3 : Int32)))) = (2 : Int32) from by decide]
    show Go p e below P (T3.setTop (mkF m 4 #[.val (.ref b), .val (.int (3 : Int32)), .val (.int ((0 : Int32) + (F 3))), .val (.int (2 : Int32))] []))
    refine Go.st (fun _ kt => XS.iloadN X3.here hx rfl (hb hby d_prog_13_method_7_4) rfl (XS.ifNo X3.here hx rfl (hb hby d_prog_13_method_7_5) rfl ((if0 _ _).trans (tlt (by decide : (0 : Int32) < (2 : Int32))).2.2.2) (XS.iloadN X3.here hx rfl (hb hby d_prog_13_method_7_8) rfl (XS.aloadN X3.here hx rfl (hb hby d_prog_13_method_7_9) rfl rfl kt)))) ?_
    show Go p e below P (T3.setTop (mkF m 10 #[.val (.ref b), .val (.int (3 : Int32)), .val (.int ((0 : Int32) + (F 3))), .val (.int (2 : Int32))] [(.ref b), (.int ((0 : Int32) + (F 3)))]))
    obtain ⟨T4, X4, e4, st4⟩ := getF X3 hx hZ hown (host := "") (Or.inl (hw _ (List.mem_of_getElem? (i := 14) rfl))) Via.refl e3 Ft (g := (mkF m 10 #[.val (.ref b), .val (.int (3 : Int32)), .val (.int ((0 : Int32) + (F 3))), .val (.int (2 : Int32))] [(.ref b), (.int ((0 : Int32) + (F 3)))])) rfl rfl (hb hby d_prog_13_method_7_10)
    refine Go.st st4 ?_
    show Go p e below P (T4.setTop (mkF m 13 #[.val (.ref b), .val (.int (3 : Int32)), .val (.int ((0 : Int32) + (F 3))), .val (.int (2 : Int32))] [(.ref t), (.int ((0 : Int32) + (F 3)))]))
    refine Go.st (fun _ kt => XS.iloadN X4.here hx rfl (hb hby d_prog_13_method_7_13) rfl (aryLdI X4 hx hZ e4 Vt (j := (2 : Int32)) (i := 2) ⟨by decide, by decide⟩ (by decide) (g := (mkF m 14 #[.val (.ref b), .val (.int (3 : Int32)), .val (.int ((0 : Int32) + (F 3))), .val (.int (2 : Int32))] [(.int (2 : Int32)), (.ref t), (.int ((0 : Int32) + (F 3)))])) rfl rfl (hb hby d_prog_13_method_7_14) _ (XS.iadd X4.here hx rfl (hb hby d_prog_13_method_7_15) rfl (XS.istoreN X4.here hx rfl (hb hby d_prog_13_method_7_16) rfl (l' := #[.val (.ref b), .val (.int (3 : Int32)), .val (.int (((0 : Int32) + (F 3)) + (F 2))), .val (.int (2 : Int32))]) rfl (XS.iloadN X4.here hx rfl (hb hby d_prog_13_method_7_17) rfl (XS.iloadN X4.here hx rfl (hb hby d_prog_13_method_7_18) rfl (XS.iloadN X4.here hx rfl (hb hby d_prog_13_method_7_19) rfl (XS.ineg X4.here hx rfl (hb hby d_prog_13_method_7_20) rfl kt)))))))) ?_
    show Go p e below P (T4.setTop (mkF m 21 #[.val (.ref b), .val (.int (3 : Int32)), .val (.int (((0 : Int32) + (F 3)) + (F 2))), .val (.int (2 : Int32))] [(.int (-(2 : Int32))), (.int (2 : Int32)), (.int (2 : Int32))]))
    refine Go.st (fun _ kt => XS.iand X4.here hx rfl (hb hby d_prog_13_method_7_21) rfl (XS.isub X4.here hx rfl (hb hby d_prog_13_method_7_22) rfl (XS.istoreN X4.here hx rfl (hb hby d_prog_13_method_7_23) rfl (l' := #[.val (.ref b), .val (.int (3 : Int32)), .val (.int (((0 : Int32) + (F 3)) + (F 2))), .val (.int ((2 : Int32) - ((2 : Int32) &&& (-(2 : Int32)))))]) rfl (XS.goto X4.here hx rfl (pc0 := 24) (pc' := 4) rfl (hb hby d_prog_13_method_7_24) (by decide) (by decide) kt)))) ?_
    show Go p e below P (T4.setTop (mkF m 4 #[.val (.ref b), .val (.int (3 : Int32)), .val (.int (((0 : Int32) + (F 3)) + (F 2))), .val (.int ((2 : Int32) - ((2 : Int32) &&& (-(2 : Int32)))))] []))
    rw [show ((2 : Int32) - ((2 : Int32) &&& (-(2 : Int32)))) = (0 : Int32) from by decide]
    show Go p e below P (T4.setTop (mkF m 4 #[.val (.ref b), .val (.int (3 : Int32)), .val (.int (((0 : Int32) + (F 3)) + (F 2))), .val (.int (0 : Int32))] []))
    refine Go.st (fun _ kt => XS.iloadN X4.here hx rfl (hb hby d_prog_13_method_7_4) rfl (XS.ifYes X4.here hx rfl (pc0 := 5) (pc' := 27) rfl (hb hby d_prog_13_method_7_5) rfl ((if0 _ _).trans (flt (by decide : ¬ ((0 : Int32) < (0 : Int32)))).2.2.2) (by decide) (by decide) (XS.iloadN X4.here hx rfl (hb hby d_prog_13_method_7_27) rfl kt))) ?_
    show Go p e below P (T4.setTop (mkF m 28 #[.val (.ref b), .val (.int (3 : Int32)), .val (.int (((0 : Int32) + (F 3)) + (F 2))), .val (.int (0 : Int32))] [(.int (((0 : Int32) + (F 3)) + (F 2)))]))
    exact goI X4 hx hret hlk (hb hby d_prog_13_method_7_28) hP (by decide) (by decide) ⟨rfl, (Fr.nil n0), e4⟩
  · show Go p e below P (T0.setTop (mkF m 0 #[.val (.ref b), .val (.int (4 : Int32)), .unset, .unset] []))
    refine Go.st (fun _ kt => XS.iconst X0.here hx rfl (hb hby d_prog_13_method_7_0) (XS.istoreN X0.here hx rfl (hb hby d_prog_13_method_7_1) rfl (l' := #[.val (.ref b), .val (.int (4 : Int32)), .val (.int (0 : Int32)), .unset]) rfl (XS.iloadN X0.here hx rfl (hb hby d_prog_13_method_7_2) rfl (XS.istoreN X0.here hx rfl (hb hby d_prog_13_method_7_3) rfl (l' := #[.val (.ref b), .val (.int (4 : Int32)), .val (.int (0 : Int32)), .val (.int (4 : Int32))]) rfl kt)))) ?_
    show Go p e below P (T0.setTop (mkF m 4 #[.val (.ref b), .val (.int (4 : Int32)), .val (.int (0 : Int32)), .val (.int (4 : Int32))] []))
    refine Go.st (fun _ kt => XS.iloadN X0.here hx rfl (hb hby d_prog_13_method_7_4) rfl (XS.ifNo X0.here hx rfl (hb hby d_prog_13_method_7_5) rfl ((if0 _ _).trans (tlt (by decide : (0 : Int32) < (4 : Int32))).2.2.2) (XS.iloadN X0.here hx rfl (hb hby d_prog_13_method_7_8) rfl (XS.aloadN X0.here hx rfl (hb hby d_prog_13_method_7_9) rfl rfl kt)))) ?_
    show Go p e below P (T0.setTop (mkF m 10 #[.val (.ref b), .val (.int (4 : Int32)), .val (.int (0 : Int32)), .val (.int (4 : Int32))] [(.ref b), (.int (0 : Int32))]))
    obtain ⟨T5, X5, e5, st5⟩ := getF X0 hx hZ hown (host := "") (Or.inl (hw _ (List.mem_of_getElem? (i := 14) rfl))) Via.refl e0 Ft (g := (mkF m 10 #[.val (.ref b), .val (.int (4 : Int32)), .val (.int (0 : Int32)), .val (.int (4 : Int32))] [(.ref b), (.int (0 : Int32))])) rfl rfl (hb hby d_prog_13_method_7_10)
    refine Go.st st5 ?_
    show Go p e below P (T5.setTop (mkF m 13 #[.val (.ref b), .val (.int (4 : Int32)), .val (.int (0 : Int32)), .val (.int (4 : Int32))] [(.ref t), (.int (0 : Int32))]))
    refine Go.st (fun _ kt => XS.iloadN X5.here hx rfl (hb hby d_prog_13_method_7_13) rfl (aryLdI X5 hx hZ e5 Vt (j := (4 : Int32)) (i := 4) ⟨by decide, by decide⟩ (by decide) (g := (mkF m 14 #[.val (.ref b), .val (.int (4 : Int32)), .val (.int (0 : Int32)), .val (.int (4 : Int32))] [(.int (4 : Int32)), (.ref t), (.int (0 : Int32))])) rfl rfl (hb hby d_prog_13_method_7_14) _ (XS.iadd X5.here hx rfl (hb hby d_prog_13_method_7_15) rfl (XS.istoreN X5.here hx rfl (hb hby d_prog_13_method_7_16) rfl (l' := #[.val (.ref b), .val (.int (4 : Int32)), .val (.int ((0 : Int32) + (F 4))), .val (.int (4 : Int32))]) rfl (XS.iloadN X5.here hx rfl (hb hby d_prog_13_method_7_17) rfl (XS.iloadN X5.here hx rfl (hb hby d_prog_13_method_7_18) rfl (XS.iloadN X5.here hx rfl (hb hby d_prog_13_method_7_19) rfl (XS.ineg X5.here hx rfl (hb hby d_prog_13_method_7_20) rfl kt)))))))) ?_
    show Go p e below P (T5.setTop (mkF m 21 #[.val (.ref b), .val (.int (4 : Int32)), .val (.int ((0 : Int32) + (F 4))), .val (.int (4 : Int32))] [(.int (-(4 : Int32))), (.int (4 : Int32)), (.int (4 : Int32))]))
    refine Go.st (fun _ kt => XS.iand X5.here hx rfl (hb hby d_prog_13_method_7_21) rfl (XS.isub X5.here hx rfl (hb hby d_prog_13_method_7_22) rfl (XS.istoreN X5.here hx rfl (hb hby d_prog_13_method_7_23) rfl (l' := #[.val (.ref b), .val (.int (4 : Int32)), .val (.int ((0 : Int32) + (F 4))), .val (.int ((4 : Int32) - ((4 : Int32) &&& (-(4 : Int32)))))]) rfl (XS.goto X5.here hx rfl (pc0 := 24) (pc' := 4) rfl (hb hby d_prog_13_method_7_24) (by decide) (by decide) kt)))) ?_
    show Go p e below P (T5.setTop (mkF m 4 #[.val (.ref b), .val (.int (4 : Int32)), .val (.int ((0 : Int32) + (F 4))), .val (.int ((4 : Int32) - ((4 : Int32) &&& (-(4 : Int32)))))] []))
    rw [show ((4 : Int32) - ((4 : Int32) &&& (-(4 : Int32)))) = (0 : Int32) from by decide]
    show Go p e below P (T5.setTop (mkF m 4 #[.val (.ref b), .val (.int (4 : Int32)), .val (.int ((0 : Int32) + (F 4))), .val (.int (0 : Int32))] []))
    refine Go.st (fun _ kt => XS.iloadN X5.here hx rfl (hb hby d_prog_13_method_7_4) rfl (XS.ifYes X5.here hx rfl (pc0 := 5) (pc' := 27) rfl (hb hby d_prog_13_method_7_5) rfl ((if0 _ _).trans (flt (by decide : ¬ ((0 : Int32) < (0 : Int32)))).2.2.2) (by decide) (by decide) (XS.iloadN X5.here hx rfl (hb hby d_prog_13_method_7_27) rfl kt))) ?_
    show Go p e below P (T5.setTop (mkF m 28 #[.val (.ref b), .val (.int (4 : Int32)), .val (.int ((0 : Int32) + (F 4))), .val (.int (0 : Int32))] [(.int ((0 : Int32) + (F 4)))]))
    exact goI X5 hx hret hlk (hb hby d_prog_13_method_7_28) hP (by decide) (by decide) ⟨rfl, (Fr.nil n0), e5⟩
  · show Go p e below P (T0.setTop (mkF m 0 #[.val (.ref b), .val (.int (5 : Int32)), .unset, .unset] []))
    refine Go.st (fun _ kt => XS.iconst X0.here hx rfl (hb hby d_prog_13_method_7_0) (XS.istoreN X0.here hx rfl (hb hby d_prog_13_method_7_1) rfl (l' := #[.val (.ref b), .val (.int (5 : Int32)), .val (.int (0 : Int32)), .unset]) rfl (XS.iloadN X0.here hx rfl (hb hby d_prog_13_method_7_2) rfl (XS.istoreN X0.here hx rfl (hb hby d_prog_13_method_7_3) rfl (l' := #[.val (.ref b), .val (.int (5 : Int32)), .val (.int (0 : Int32)), .val (.int (5 : Int32))]) rfl kt)))) ?_
    show Go p e below P (T0.setTop (mkF m 4 #[.val (.ref b), .val (.int (5 : Int32)), .val (.int (0 : Int32)), .val (.int (5 : Int32))] []))
    refine Go.st (fun _ kt => XS.iloadN X0.here hx rfl (hb hby d_prog_13_method_7_4) rfl (XS.ifNo X0.here hx rfl (hb hby d_prog_13_method_7_5) rfl ((if0 _ _).trans (tlt (by decide : (0 : Int32) < (5 : Int32))).2.2.2) (XS.iloadN X0.here hx rfl (hb hby d_prog_13_method_7_8) rfl (XS.aloadN X0.here hx rfl (hb hby d_prog_13_method_7_9) rfl rfl kt)))) ?_
    show Go p e below P (T0.setTop (mkF m 10 #[.val (.ref b), .val (.int (5 : Int32)), .val (.int (0 : Int32)), .val (.int (5 : Int32))] [(.ref b), (.int (0 : Int32))]))
    obtain ⟨T6, X6, e6, st6⟩ := getF X0 hx hZ hown (host := "") (Or.inl (hw _ (List.mem_of_getElem? (i := 14) rfl))) Via.refl e0 Ft (g := (mkF m 10 #[.val (.ref b), .val (.int (5 : Int32)), .val (.int (0 : Int32)), .val (.int (5 : Int32))] [(.ref b), (.int (0 : Int32))])) rfl rfl (hb hby d_prog_13_method_7_10)
    refine Go.st st6 ?_
    show Go p e below P (T6.setTop (mkF m 13 #[.val (.ref b), .val (.int (5 : Int32)), .val (.int (0 : Int32)), .val (.int (5 : Int32))] [(.ref t), (.int (0 : Int32))]))
    refine Go.st (fun _ kt => XS.iloadN X6.here hx rfl (hb hby d_prog_13_method_7_13) rfl (aryLdI X6 hx hZ e6 Vt (j := (5 : Int32)) (i := 5) ⟨by decide, by decide⟩ (by decide) (g := (mkF m 14 #[.val (.ref b), .val (.int (5 : Int32)), .val (.int (0 : Int32)), .val (.int (5 : Int32))] [(.int (5 : Int32)), (.ref t), (.int (0 : Int32))])) rfl rfl (hb hby d_prog_13_method_7_14) _ (XS.iadd X6.here hx rfl (hb hby d_prog_13_method_7_15) rfl (XS.istoreN X6.here hx rfl (hb hby d_prog_13_method_7_16) rfl (l' := #[.val (.ref b), .val (.int (5 : Int32)), .val (.int ((0 : Int32) + (F 5))), .val (.int (5 : Int32))]) rfl (XS.iloadN X6.here hx rfl (hb hby d_prog_13_method_7_17) rfl (XS.iloadN X6.here hx rfl (hb hby d_prog_13_method_7_18) rfl (XS.iloadN X6.here hx rfl (hb hby d_prog_13_method_7_19) rfl (XS.ineg X6.here hx rfl (hb hby d_prog_13_method_7_20) rfl kt)))))))) ?_
    show Go p e below P (T6.setTop (mkF m 21 #[.val (.ref b), .val (.int (5 : Int32)), .val (.int ((0 : Int32) + (F 5))), .val (.int (5 : Int32))] [(.int (-(5 : Int32))), (.int (5 : Int32)), (.int (5 : Int32))]))
    refine Go.st (fun _ kt => XS.iand X6.here hx rfl (hb hby d_prog_13_method_7_21) rfl (XS.isub X6.here hx rfl (hb hby d_prog_13_method_7_22) rfl (XS.istoreN X6.here hx rfl (hb hby d_prog_13_method_7_23) rfl (l' := #[.val (.ref b), .val (.int (5 : Int32)), .val (.int ((0 : Int32) + (F 5))), .val (.int ((5 : Int32) - ((5 : Int32) &&& (-(5 : Int32)))))]) rfl (XS.goto X6.here hx rfl (pc0 := 24) (pc' := 4) rfl (hb hby d_prog_13_method_7_24) (by decide) (by decide) kt)))) ?_
    show Go p e below P (T6.setTop (mkF m 4 #[.val (.ref b), .val (.int (5 : Int32)), .val (.int ((0 : Int32) + (F 5))), .val (.int ((5 : Int32) - ((5 : Int32) &&& (-(5 : Int32)))))] []))
    rw [show ((5 : Int32) - ((5 : Int32) &&& (-(5 : Int32)))) = (4 : Int32) from by decide]
    show Go p e below P (T6.setTop (mkF m 4 #[.val (.ref b), .val (.int (5 : Int32)), .val (.int ((0 : Int32) + (F 5))), .val (.int (4 : Int32))] []))
    refine Go.st (fun _ kt => XS.iloadN X6.here hx rfl (hb hby d_prog_13_method_7_4) rfl (XS.ifNo X6.here hx rfl (hb hby d_prog_13_method_7_5) rfl ((if0 _ _).trans (tlt (by decide : (0 : Int32) < (4 : Int32))).2.2.2) (XS.iloadN X6.here hx rfl (hb hby d_prog_13_method_7_8) rfl (XS.aloadN X6.here hx rfl (hb hby d_prog_13_method_7_9) rfl rfl kt)))) ?_
    show Go p e below P (T6.setTop (mkF m 10 #[.val (.ref b), .val (.int (5 : Int32)), .val (.int ((0 : Int32) + (F 5))), .val (.int (4 : Int32))] [(.ref b), (.int ((0 : Int32) + (F 5)))]))
    obtain ⟨T7, X7, e7, st7⟩ := getF X6 hx hZ hown (host := "") (Or.inl (hw _ (List.mem_of_getElem? (i := 14) rfl))) Via.refl e6 Ft (g := (mkF m 10 #[.val (.ref b), .val (.int (5 : Int32)), .val (.int ((0 : Int32) + (F 5))), .val (.int (4 : Int32))] [(.ref b), (.int ((0 : Int32) + (F 5)))])) rfl rfl (hb hby d_prog_13_method_7_10)
    refine Go.st st7 ?_
    show Go p e below P (T7.setTop (mkF m 13 #[.val (.ref b), .val (.int (5 : Int32)), .val (.int ((0 : Int32) + (F 5))), .val (.int (4 : Int32))] [(.ref t), (.int ((0 : Int32) + (F 5)))]))
    refine Go.st (fun _ kt => XS.iloadN X7.here hx rfl (hb hby d_prog_13_method_7_13) rfl (aryLdI X7 hx hZ e7 Vt (j := (4 : Int32)) (i := 4) ⟨by decide, by decide⟩ (by decide) (g := (mkF m 14 #[.val (.ref b), .val (.int (5 : Int32)), .val (.int ((0 : Int32) + (F 5))), .val (.int (4 : Int32))] [(.int (4 : Int32)), (.ref t), (.int ((0 : Int32) + (F 5)))])) rfl rfl (hb hby d_prog_13_method_7_14) _ (XS.iadd X7.here hx rfl (hb hby d_prog_13_method_7_15) rfl (XS.istoreN X7.here hx rfl (hb hby d_prog_13_method_7_16) rfl (l' := #[.val (.ref b), .val (.int (5 : Int32)), .val (.int (((0 : Int32) + (F 5)) + (F 4))), .val (.int (4 : Int32))]) rfl (XS.iloadN X7.here hx rfl (hb hby d_prog_13_method_7_17) rfl (XS.iloadN X7.here hx rfl (hb hby d_prog_13_method_7_18) rfl (XS.iloadN X7.here hx rfl (hb hby d_prog_13_method_7_19) rfl (XS.ineg X7.here hx rfl (hb hby d_prog_13_method_7_20) rfl kt)))))))) ?_
    show Go p e below P (T7.setTop (mkF m 21 #[.val (.ref b), .val (.int (5 : Int32)), .val (.int (((0 : Int32) + (F 5)) + (F 4))), .val (.int (4 : Int32))] [(.int (-(4 : Int32))), (.int (4 : Int32)), (.int (4 : Int32))]))
    refine Go.st (fun _ kt => XS.iand X7.here hx rfl (hb hby d_prog_13_method_7_21) rfl (XS.isub X7.here hx rfl (hb hby d_prog_13_method_7_22) rfl (XS.istoreN X7.here hx rfl (hb hby d_prog_13_method_7_23) rfl (l' := #[.val (.ref b), .val (.int (5 : Int32)), .val (.int (((0 : Int32) + (F 5)) + (F 4))), .val (.int ((4 : Int32) - ((4 : Int32) &&& (-(4 : Int32)))))]) rfl (XS.goto X7.here hx rfl (pc0 := 24) (pc' := 4) rfl (hb hby d_prog_13_method_7_24) (by decide) (by decide) kt)))) ?_
    show Go p e below P (T7.setTop (mkF m 4 #[.val (.ref b), .val (.int (5 : Int32)), .val (.int (((0 : Int32) + (F 5)) + (F 4))), .val (.int ((4 : Int32) - ((4 : Int32) &&& (-(4 : Int32)))))] []))
    rw [show ((4 : Int32) - ((4 : Int32) &&& (-(4 : Int32)))) = (0 : Int32) from by decide]
    show Go p e below P (T7.setTop (mkF m 4 #[.val (.ref b), .val (.int (5 : Int32)), .val (.int (((0 : Int32) + (F 5)) + (F 4))), .val (.int (0 : Int32))] []))
    refine Go.st (fun _ kt => XS.iloadN X7.here hx rfl (hb hby d_prog_13_method_7_4) rfl (XS.ifYes X7.here hx rfl (pc0 := 5) (pc' := 27) rfl (hb hby d_prog_13_method_7_5) rfl ((if0 _ _).trans (flt (by decide : ¬ ((0 : Int32) < (0 : Int32)))).2.2.2) (by decide) (by decide) (XS.iloadN X7.here hx rfl (hb hby d_prog_13_method_7_27) rfl kt))) ?_
    show Go p e below P (T7.setTop (mkF m 28 #[.val (.ref b), .val (.int (5 : Int32)), .val (.int (((0 : Int32) + (F 5)) + (F 4))), .val (.int (0 : Int32))] [(.int (((0 : Int32) + (F 5)) + (F 4)))]))
    exact goI X7 hx hret hlk (hb hby d_prog_13_method_7_28) hP (by decide) (by decide) ⟨rfl, (Fr.nil n0), e7⟩
  · show Go p e below P (T0.setTop (mkF m 0 #[.val (.ref b), .val (.int (6 : Int32)), .unset, .unset] []))
    refine Go.st (fun _ kt => XS.iconst X0.here hx rfl (hb hby d_prog_13_method_7_0) (XS.istoreN X0.here hx rfl (hb hby d_prog_13_method_7_1) rfl (l' := #[.val (.ref b), .val (.int (6 : Int32)), .val (.int (0 : Int32)), .unset]) rfl (XS.iloadN X0.here hx rfl (hb hby d_prog_13_method_7_2) rfl (XS.istoreN X0.here hx rfl (hb hby d_prog_13_method_7_3) rfl (l' := #[.val (.ref b), .val (.int (6 : Int32)), .val (.int (0 : Int32)), .val (.int (6 : Int32))]) rfl kt)))) ?_
    show Go p e below P (T0.setTop (mkF m 4 #[.val (.ref b), .val (.int (6 : Int32)), .val (.int (0 : Int32)), .val (.int (6 : Int32))] []))
    refine Go.st (fun _ kt => XS.iloadN X0.here hx rfl (hb hby d_prog_13_method_7_4) rfl (XS.ifNo X0.here hx rfl (hb hby d_prog_13_method_7_5) rfl ((if0 _ _).trans (tlt (by decide : (0 : Int32) < (6 : Int32))).2.2.2) (XS.iloadN X0.here hx rfl (hb hby d_prog_13_method_7_8) rfl (XS.aloadN X0.here hx rfl (hb hby d_prog_13_method_7_9) rfl rfl kt)))) ?_
    show Go p e below P (T0.setTop (mkF m 10 #[.val (.ref b), .val (.int (6 : Int32)), .val (.int (0 : Int32)), .val (.int (6 : Int32))] [(.ref b), (.int (0 : Int32))]))
    obtain ⟨T8, X8, e8, st8⟩ := getF X0 hx hZ hown (host := "") (Or.inl (hw _ (List.mem_of_getElem? (i := 14) rfl))) Via.refl e0 Ft (g := (mkF m 10 #[.val (.ref b), .val (.int (6 : Int32)), .val (.int (0 : Int32)), .val (.int (6 : Int32))] [(.ref b), (.int (0 : Int32))])) rfl rfl (hb hby d_prog_13_method_7_10)
    refine Go.st st8 ?_
    show Go p e below P (T8.setTop (mkF m 13 #[.val (.ref b), .val (.int (6 : Int32)), .val (.int (0 : Int32)), .val (.int (6 : Int32))] [(.ref t), (.int (0 : Int32))]))
    refine Go.st (fun _ kt => XS.iloadN X8.here hx rfl (hb hby d_prog_13_method_7_13) rfl (aryLdI X8 hx hZ e8 Vt (j := (6 : Int32)) (i := 6) ⟨by decide, by decide⟩ (by decide) (g := (mkF m 14 #[.val (.ref b), .val (.int (6 : Int32)), .val (.int (0 : Int32)), .val (.int (6 : Int32))] [(.int (6 : Int32)), (.ref t), (.int (0 : Int32))])) rfl rfl (hb hby d_prog_13_method_7_14) _ (XS.iadd X8.here hx rfl (hb hby d_prog_13_method_7_15) rfl (XS.istoreN X8.here hx rfl (hb hby d_prog_13_method_7_16) rfl (l' := #[.val (.ref b), .val (.int (6 : Int32)), .val (.int ((0 : Int32) + (F 6))), .val (.int (6 : Int32))]) rfl (XS.iloadN X8.here hx rfl (hb hby d_prog_13_method_7_17) rfl (XS.iloadN X8.here hx rfl (hb hby d_prog_13_method_7_18) rfl (XS.iloadN X8.here hx rfl (hb hby d_prog_13_method_7_19) rfl (XS.ineg X8.here hx rfl (hb hby d_prog_13_method_7_20) rfl kt)))))))) ?_
    show Go p e below P (T8.setTop (mkF m 21 #[.val (.ref b), .val (.int (6 : Int32)), .val (.int ((0 : Int32) + (F 6))), .val (.int (6 : Int32))] [(.int (-(6 : Int32))), (.int (6 : Int32)), (.int (6 : Int32))]))
    refine Go.st (fun _ kt => XS.iand X8.here hx rfl (hb hby d_prog_13_method_7_21) rfl (XS.isub X8.here hx rfl (hb hby d_prog_13_method_7_22) rfl (XS.istoreN X8.here hx rfl (hb hby d_prog_13_method_7_23) rfl (l' := #[.val (.ref b), .val (.int (6 : Int32)), .val (.int ((0 : Int32) + (F 6))), .val (.int ((6 : Int32) - ((6 : Int32) &&& (-(6 : Int32)))))]) rfl (XS.goto X8.here hx rfl (pc0 := 24) (pc' := 4) rfl (hb hby d_prog_13_method_7_24) (by decide) (by decide) kt)))) ?_
    show Go p e below P (T8.setTop (mkF m 4 #[.val (.ref b), .val (.int (6 : Int32)), .val (.int ((0 : Int32) + (F 6))), .val (.int ((6 : Int32) - ((6 : Int32) &&& (-(6 : Int32)))))] []))
    rw [show ((6 : Int32) - ((6 : Int32) &&& (-(6 : Int32)))) = (4 : Int32) from by decide]
    show Go p e below P (T8.setTop (mkF m 4 #[.val (.ref b), .val (.int (6 : Int32)), .val (.int ((0 : Int32) + (F 6))), .val (.int (4 : Int32))] []))
    refine Go.st (fun _ kt => XS.iloadN X8.here hx rfl (hb hby d_prog_13_method_7_4) rfl (XS.ifNo X8.here hx rfl (hb hby d_prog_13_method_7_5) rfl ((if0 _ _).trans (tlt (by decide : (0 : Int32) < (4 : Int32))).2.2.2) (XS.iloadN X8.here hx rfl (hb hby d_prog_13_method_7_8) rfl (XS.aloadN X8.here hx rfl (hb hby d_prog_13_method_7_9) rfl rfl kt)))) ?_
    show Go p e below P (T8.setTop (mkF m 10 #[.val (.ref b), .val (.int (6 : Int32)), .val (.int ((0 : Int32) + (F 6))), .val (.int (4 : Int32))] [(.ref b), (.int ((0 : Int32) + (F 6)))]))
    obtain ⟨T9, X9, e9, st9⟩ := getF X8 hx hZ hown (host := "") (Or.inl (hw _ (List.mem_of_getElem? (i := 14) rfl))) Via.refl e8 Ft (g := (mkF m 10 #[.val (.ref b), .val (.int (6 : Int32)), .val (.int ((0 : Int32) + (F 6))), .val (.int (4 : Int32))] [(.ref b), (.int ((0 : Int32) + (F 6)))])) rfl rfl (hb hby d_prog_13_method_7_10)
    refine Go.st st9 ?_
    show Go p e below P (T9.setTop (mkF m 13 #[.val (.ref b), .val (.int (6 : Int32)), .val (.int ((0 : Int32) + (F 6))), .val (.int (4 : Int32))] [(.ref t), (.int ((0 : Int32) + (F 6)))]))
    refine Go.st (fun _ kt => XS.iloadN X9.here hx rfl (hb hby d_prog_13_method_7_13) rfl (aryLdI X9 hx hZ e9 Vt (j := (4 : Int32)) (i := 4) ⟨by decide, by decide⟩ (by decide) (g := (mkF m 14 #[.val (.ref b), .val (.int (6 : Int32)), .val (.int ((0 : Int32) + (F 6))), .val (.int (4 : Int32))] [(.int (4 : Int32)), (.ref t), (.int ((0 : Int32) + (F 6)))])) rfl rfl (hb hby d_prog_13_method_7_14) _ (XS.iadd X9.here hx rfl (hb hby d_prog_13_method_7_15) rfl (XS.istoreN X9.here hx rfl (hb hby d_prog_13_method_7_16) rfl (l' := #[.val (.ref b), .val (.int (6 : Int32)), .val (.int (((0 : Int32) + (F 6)) + (F 4))), .val (.int (4 : Int32))]) rfl (XS.iloadN X9.here hx rfl (hb hby d_prog_13_method_7_17) rfl (XS.iloadN X9.here hx rfl (hb hby d_prog_13_method_7_18) rfl (XS.iloadN X9.here hx rfl (hb hby d_prog_13_method_7_19) rfl (XS.ineg X9.here hx rfl (hb hby d_prog_13_method_7_20) rfl kt)))))))) ?_
    show Go p e below P (T9.setTop (mkF m 21 #[.val (.ref b), .val (.int (6 : Int32)), .val (.int (((0 : Int32) + (F 6)) + (F 4))), .val (.int (4 : Int32))] [(.int (-(4 : Int32))), (.int (4 : Int32)), (.int (4 : Int32))]))
    refine Go.st (fun _ kt => XS.iand X9.here hx rfl (hb hby d_prog_13_method_7_21) rfl (XS.isub X9.here hx rfl (hb hby d_prog_13_method_7_22) rfl (XS.istoreN X9.here hx rfl (hb hby d_prog_13_method_7_23) rfl (l' := #[.val (.ref b), .val (.int (6 : Int32)), .val (.int (((0 : Int32) + (F 6)) + (F 4))), .val (.int ((4 : Int32) - ((4 : Int32) &&& (-(4 : Int32)))))]) rfl (XS.goto X9.here hx rfl (pc0 := 24) (pc' := 4) rfl (hb hby d_prog_13_method_7_24) (by decide) (by decide) kt)))) ?_
    show Go p e below P (T9.setTop (mkF m 4 #[.val (.ref b), .val (.int (6 : Int32)), .val (.int (((0 : Int32) + (F 6)) + (F 4))), .val (.int ((4 : Int32) - ((4 : Int32) &&& (-(4 : Int32)))))] []))
    rw [show ((4 : Int32) - ((4 : Int32) &&& (-(4 : Int32)))) = (0 : Int32) from by decide]
    show Go p e below P (T9.setTop (mkF m 4 #[.val (.ref b), .val (.int (6 : Int32)), .val (.int (((0 : Int32) + (F 6)) + (F 4))), .val (.int (0 : Int32))] []))
    refine Go.st (fun _ kt => XS.iloadN X9.here hx rfl (hb hby d_prog_13_method_7_4) rfl (XS.ifYes X9.here hx rfl (pc0 := 5) (pc' := 27) rfl (hb hby d_prog_13_method_7_5) rfl ((if0 _ _).trans (flt (by decide : ¬ ((0 : Int32) < (0 : Int32)))).2.2.2) (by decide) (by decide) (XS.iloadN X9.here hx rfl (hb hby d_prog_13_method_7_27) rfl kt))) ?_
    show Go p e below P (T9.setTop (mkF m 28 #[.val (.ref b), .val (.int (6 : Int32)), .val (.int (((0 : Int32) + (F 6)) + (F 4))), .val (.int (0 : Int32))] [(.int (((0 : Int32) + (F 6)) + (F 4)))]))
    exact goI X9 hx hret hlk (hb hby d_prog_13_method_7_28) hP (by decide) (by decide) ⟨rfl, (Fr.nil n0), e9⟩
  · show Go p e below P (T0.setTop (mkF m 0 #[.val (.ref b), .val (.int (7 : Int32)), .unset, .unset] []))
    refine Go.st (fun _ kt => XS.iconst X0.here hx rfl (hb hby d_prog_13_method_7_0) (XS.istoreN X0.here hx rfl (hb hby d_prog_13_method_7_1) rfl (l' := #[.val (.ref b), .val (.int (7 : Int32)), .val (.int (0 : Int32)), .unset]) rfl (XS.iloadN X0.here hx rfl (hb hby d_prog_13_method_7_2) rfl (XS.istoreN X0.here hx rfl (hb hby d_prog_13_method_7_3) rfl (l' := #[.val (.ref b), .val (.int (7 : Int32)), .val (.int (0 : Int32)), .val (.int (7 : Int32))]) rfl kt)))) ?_
    show Go p e below P (T0.setTop (mkF m 4 #[.val (.ref b), .val (.int (7 : Int32)), .val (.int (0 : Int32)), .val (.int (7 : Int32))] []))
    refine Go.st (fun _ kt => XS.iloadN X0.here hx rfl (hb hby d_prog_13_method_7_4) rfl (XS.ifNo X0.here hx rfl (hb hby d_prog_13_method_7_5) rfl ((if0 _ _).trans (tlt (by decide : (0 : Int32) < (7 : Int32))).2.2.2) (XS.iloadN X0.here hx rfl (hb hby d_prog_13_method_7_8) rfl (XS.aloadN X0.here hx rfl (hb hby d_prog_13_method_7_9) rfl rfl kt)))) ?_
    show Go p e below P (T0.setTop (mkF m 10 #[.val (.ref b), .val (.int (7 : Int32)), .val (.int (0 : Int32)), .val (.int (7 : Int32))] [(.ref b), (.int (0 : Int32))]))
    obtain ⟨T10, X10, e10, st10⟩ := getF X0 hx hZ hown (host := "") (Or.inl (hw _ (List.mem_of_getElem? (i := 14) rfl))) Via.refl e0 Ft (g := (mkF m 10 #[.val (.ref b), .val (.int (7 : Int32)), .val (.int (0 : Int32)), .val (.int (7 : Int32))] [(.ref b), (.int (0 : Int32))])) rfl rfl (hb hby d_prog_13_method_7_10)
    refine Go.st st10 ?_
    show Go p e below P (T10.setTop (mkF m 13 #[.val (.ref b), .val (.int (7 : Int32)), .val (.int (0 : Int32)), .val (.int (7 : Int32))] [(.ref t), (.int (0 : Int32))]))
    refine Go.st (fun _ kt => XS.iloadN X10.here hx rfl (hb hby d_prog_13_method_7_13) rfl (aryLdI X10 hx hZ e10 Vt (j := (7 : Int32)) (i := 7) ⟨by decide, by decide⟩ (by decide) (g := (mkF m 14 #[.val (.ref b), .val (.int (7 : Int32)), .val (.int (0 : Int32)), .val (.int (7 : Int32))] [(.int (7 : Int32)), (.ref t), (.int (0 : Int32))])) rfl rfl (hb hby d_prog_13_method_7_14) _ (XS.iadd X10.here hx rfl (hb hby d_prog_13_method_7_15) rfl (XS.istoreN X10.here hx rfl (hb hby d_prog_13_method_7_16) rfl (l' := #[.val (.ref b), .val (.int (7 : Int32)), .val (.int ((0 : Int32) + (F 7))), .val (.int (7 : Int32))]) rfl (XS.iloadN X10.here hx rfl (hb hby d_prog_13_method_7_17) rfl (XS.iloadN X10.here hx rfl (hb hby d_prog_13_method_7_18) rfl (XS.iloadN X10.here hx rfl (hb hby d_prog_13_method_7_19) rfl (XS.ineg X10.here hx rfl (hb hby d_prog_13_method_7_20) rfl kt)))))))) ?_
    show Go p e below P (T10.setTop (mkF m 21 #[.val (.ref b), .val (.int (7 : Int32)), .val (.int ((0 : Int32) + (F 7))), .val (.int (7 : Int32))] [(.int (-(7 : Int32))), (.int (7 : Int32)), (.int (7 : Int32))]))
    refine Go.st (fun _ kt => XS.iand X10.here hx rfl (hb hby d_prog_13_method_7_21) rfl (XS.isub X10.here hx rfl (hb hby d_prog_13_method_7_22) rfl (XS.istoreN X10.here hx rfl (hb hby d_prog_13_method_7_23) rfl (l' := #[.val (.ref b), .val (.int (7 : Int32)), .val (.int ((0 : Int32) + (F 7))), .val (.int ((7 : Int32) - ((7 : Int32) &&& (-(7 : Int32)))))]) rfl (XS.goto X10.here hx rfl (pc0 := 24) (pc' := 4) rfl (hb hby d_prog_13_method_7_24) (by decide) (by decide) kt)))) ?_
    show Go p e below P (T10.setTop (mkF m 4 #[.val (.ref b), .val (.int (7 : Int32)), .val (.int ((0 : Int32) + (F 7))), .val (.int ((7 : Int32) - ((7 : Int32) &&& (-(7 : Int32)))))] []))
    rw [show ((7 : Int32) - ((7 : Int32) &&& (-(7 : Int32)))) = (6 : Int32) from by decide]
    show Go p e below P (T10.setTop (mkF m 4 #[.val (.ref b), .val (.int (7 : Int32)), .val (.int ((0 : Int32) + (F 7))), .val (.int (6 : Int32))] []))
    refine Go.st (fun _ kt => XS.iloadN X10.here hx rfl (hb hby d_prog_13_method_7_4) rfl (XS.ifNo X10.here hx rfl (hb hby d_prog_13_method_7_5) rfl ((if0 _ _).trans (tlt (by decide : (0 : Int32) < (6 : Int32))).2.2.2) (XS.iloadN X10.here hx rfl (hb hby d_prog_13_method_7_8) rfl (XS.aloadN X10.here hx rfl (hb hby d_prog_13_method_7_9) rfl rfl kt)))) ?_
    show Go p e below P (T10.setTop (mkF m 10 #[.val (.ref b), .val (.int (7 : Int32)), .val (.int ((0 : Int32) + (F 7))), .val (.int (6 : Int32))] [(.ref b), (.int ((0 : Int32) + (F 7)))]))
    obtain ⟨T11, X11, e11, st11⟩ := getF X10 hx hZ hown (host := "") (Or.inl (hw _ (List.mem_of_getElem? (i := 14) rfl))) Via.refl e10 Ft (g := (mkF m 10 #[.val (.ref b), .val (.int (7 : Int32)), .val (.int ((0 : Int32) + (F 7))), .val (.int (6 : Int32))] [(.ref b), (.int ((0 : Int32) + (F 7)))])) rfl rfl (hb hby d_prog_13_method_7_10)
    refine Go.st st11 ?_
    show Go p e below P (T11.setTop (mkF m 13 #[.val (.ref b), .val (.int (7 : Int32)), .val (.int ((0 : Int32) + (F 7))), .val (.int (6 : Int32))] [(.ref t), (.int ((0 : Int32) + (F 7)))]))
    refine Go.st (fun _ kt => XS.iloadN X11.here hx rfl (hb hby d_prog_13_method_7_13) rfl (aryLdI X11 hx hZ e11 Vt (j := (6 : Int32)) (i := 6) ⟨by decide, by decide⟩ (by decide) (g := (mkF m 14 #[.val (.ref b), .val (.int (7 : Int32)), .val (.int ((0 : Int32) + (F 7))), .val (.int (6 : Int32))] [(.int (6 : Int32)), (.ref t), (.int ((0 : Int32) + (F 7)))])) rfl rfl (hb hby d_prog_13_method_7_14) _ (XS.iadd X11.here hx rfl (hb hby d_prog_13_method_7_15) rfl (XS.istoreN X11.here hx rfl (hb hby d_prog_13_method_7_16) rfl (l' := #[.val (.ref b), .val (.int (7 : Int32)), .val (.int (((0 : Int32) + (F 7)) + (F 6))), .val (.int (6 : Int32))]) rfl (XS.iloadN X11.here hx rfl (hb hby d_prog_13_method_7_17) rfl (XS.iloadN X11.here hx rfl (hb hby d_prog_13_method_7_18) rfl (XS.iloadN X11.here hx rfl (hb hby d_prog_13_method_7_19) rfl (XS.ineg X11.here hx rfl (hb hby d_prog_13_method_7_20) rfl kt)))))))) ?_
    show Go p e below P (T11.setTop (mkF m 21 #[.val (.ref b), .val (.int (7 : Int32)), .val (.int (((0 : Int32) + (F 7)) + (F 6))), .val (.int (6 : Int32))] [(.int (-(6 : Int32))), (.int (6 : Int32)), (.int (6 : Int32))]))
    refine Go.st (fun _ kt => XS.iand X11.here hx rfl (hb hby d_prog_13_method_7_21) rfl (XS.isub X11.here hx rfl (hb hby d_prog_13_method_7_22) rfl (XS.istoreN X11.here hx rfl (hb hby d_prog_13_method_7_23) rfl (l' := #[.val (.ref b), .val (.int (7 : Int32)), .val (.int (((0 : Int32) + (F 7)) + (F 6))), .val (.int ((6 : Int32) - ((6 : Int32) &&& (-(6 : Int32)))))]) rfl (XS.goto X11.here hx rfl (pc0 := 24) (pc' := 4) rfl (hb hby d_prog_13_method_7_24) (by decide) (by decide) kt)))) ?_
    show Go p e below P (T11.setTop (mkF m 4 #[.val (.ref b), .val (.int (7 : Int32)), .val (.int (((0 : Int32) + (F 7)) + (F 6))), .val (.int ((6 : Int32) - ((6 : Int32) &&& (-(6 : Int32)))))] []))
    rw [show ((6 : Int32) - ((6 : Int32) &&& (-(6 : Int32)))) = (4 : Int32) from by decide]
    show Go p e below P (T11.setTop (mkF m 4 #[.val (.ref b), .val (.int (7 : Int32)), .val (.int (((0 : Int32) + (F 7)) + (F 6))), .val (.int (4 : Int32))] []))
    refine Go.st (fun _ kt => XS.iloadN X11.here hx rfl (hb hby d_prog_13_method_7_4) rfl (XS.ifNo X11.here hx rfl (hb hby d_prog_13_method_7_5) rfl ((if0 _ _).trans (tlt (by decide : (0 : Int32) < (4 : Int32))).2.2.2) (XS.iloadN X11.here hx rfl (hb hby d_prog_13_method_7_8) rfl (XS.aloadN X11.here hx rfl (hb hby d_prog_13_method_7_9) rfl rfl kt)))) ?_
    show Go p e below P (T11.setTop (mkF m 10 #[.val (.ref b), .val (.int (7 : Int32)), .val (.int (((0 : Int32) + (F 7)) + (F 6))), .val (.int (4 : Int32))] [(.ref b), (.int (((0 : Int32) + (F 7)) + (F 6)))]))
    obtain ⟨T12, X12, e12, st12⟩ := getF X11 hx hZ hown (host := "") (Or.inl (hw _ (List.mem_of_getElem? (i := 14) rfl))) Via.refl e11 Ft (g := (mkF m 10 #[.val (.ref b), .val (.int (7 : Int32)), .val (.int (((0 : Int32) + (F 7)) + (F 6))), .val (.int (4 : Int32))] [(.ref b), (.int (((0 : Int32) + (F 7)) + (F 6)))])) rfl rfl (hb hby d_prog_13_method_7_10)
    refine Go.st st12 ?_
    show Go p e below P (T12.setTop (mkF m 13 #[.val (.ref b), .val (.int (7 : Int32)), .val (.int (((0 : Int32) + (F 7)) + (F 6))), .val (.int (4 : Int32))] [(.ref t), (.int (((0 : Int32) + (F 7)) + (F 6)))]))
    refine Go.st (fun _ kt => XS.iloadN X12.here hx rfl (hb hby d_prog_13_method_7_13) rfl (aryLdI X12 hx hZ e12 Vt (j := (4 : Int32)) (i := 4) ⟨by decide, by decide⟩ (by decide) (g := (mkF m 14 #[.val (.ref b), .val (.int (7 : Int32)), .val (.int (((0 : Int32) + (F 7)) + (F 6))), .val (.int (4 : Int32))] [(.int (4 : Int32)), (.ref t), (.int (((0 : Int32) + (F 7)) + (F 6)))])) rfl rfl (hb hby d_prog_13_method_7_14) _ (XS.iadd X12.here hx rfl (hb hby d_prog_13_method_7_15) rfl (XS.istoreN X12.here hx rfl (hb hby d_prog_13_method_7_16) rfl (l' := #[.val (.ref b), .val (.int (7 : Int32)), .val (.int ((((0 : Int32) + (F 7)) + (F 6)) + (F 4))), .val (.int (4 : Int32))]) rfl (XS.iloadN X12.here hx rfl (hb hby d_prog_13_method_7_17) rfl (XS.iloadN X12.here hx rfl (hb hby d_prog_13_method_7_18) rfl (XS.iloadN X12.here hx rfl (hb hby d_prog_13_method_7_19) rfl (XS.ineg X12.here hx rfl (hb hby d_prog_13_method_7_20) rfl kt)))))))) ?_
    show Go p e below P (T12.setTop (mkF m 21 #[.val (.ref b), .val (.int (7 : Int32)), .val (.int ((((0 : Int32) + (F 7)) + (F 6)) + (F 4))), .val (.int (4 : Int32))] [(.int (-(4 : Int32))), (.int (4 : Int32)), (.int (4 : Int32))]))
    refine Go.st (fun _ kt => XS.iand X12.here hx rfl (hb hby d_prog_13_method_7_21) rfl (XS.isub X12.here hx rfl (hb hby d_prog_13_method_7_22) rfl (XS.istoreN X12.here hx rfl (hb hby d_prog_13_method_7_23) rfl (l' := #[.val (.ref b), .val (.int (7 : Int32)), .val (.int ((((0 : Int32) + (F 7)) + (F 6)) + (F 4))), .val (.int ((4 : Int32) - ((4 : Int32) &&& (-(4 : Int32)))))]) rfl (XS.goto X12.here hx rfl (pc0 := 24) (pc' := 4) rfl (hb hby d_prog_13_method_7_24) (by decide) (by decide) kt)))) ?_
    show Go p e below P (T12.setTop (mkF m 4 #[.val (.ref b), .val (.int (7 : Int32)), .val (.int ((((0 : Int32) + (F 7)) + (F 6)) + (F 4))), .val (.int ((4 : Int32) - ((4 : Int32) &&& (-(4 : Int32)))))] []))
    rw [show ((4 : Int32) - ((4 : Int32) &&& (-(4 : Int32)))) = (0 : Int32) from by decide]
    show Go p e below P (T12.setTop (mkF m 4 #[.val (.ref b), .val (.int (7 : Int32)), .val (.int ((((0 : Int32) + (F 7)) + (F 6)) + (F 4))), .val (.int (0 : Int32))] []))
    refine Go.st (fun _ kt => XS.iloadN X12.here hx rfl (hb hby d_prog_13_method_7_4) rfl (XS.ifYes X12.here hx rfl (pc0 := 5) (pc' := 27) rfl (hb hby d_prog_13_method_7_5) rfl ((if0 _ _).trans (flt (by decide : ¬ ((0 : Int32) < (0 : Int32)))).2.2.2) (by decide) (by decide) (XS.iloadN X12.here hx rfl (hb hby d_prog_13_method_7_27) rfl kt))) ?_
    show Go p e below P (T12.setTop (mkF m 28 #[.val (.ref b), .val (.int (7 : Int32)), .val (.int ((((0 : Int32) + (F 7)) + (F 6)) + (F 4))), .val (.int (0 : Int32))] [(.int ((((0 : Int32) + (F 7)) + (F 6)) + (F 4)))]))
    exact goI X12 hx hret hlk (hb hby d_prog_13_method_7_28) hP (by decide) (by decide) ⟨rfl, (Fr.nil n0), e12⟩
  · show Go p e below P (T0.setTop (mkF m 0 #[.val (.ref b), .val (.int (8 : Int32)), .unset, .unset] []))
    refine Go.st (fun _ kt => XS.iconst X0.here hx rfl (hb hby d_prog_13_method_7_0) (XS.istoreN X0.here hx rfl (hb hby d_prog_13_method_7_1) rfl (l' := #[.val (.ref b), .val (.int (8 : Int32)), .val (.int (0 : Int32)), .unset]) rfl (XS.iloadN X0.here hx rfl (hb hby d_prog_13_method_7_2) rfl (XS.istoreN X0.here hx rfl (hb hby d_prog_13_method_7_3) rfl (l' := #[.val (.ref b), .val (.int (8 : Int32)), .val (.int (0 : Int32)), .val (.int (8 : Int32))]) rfl kt)))) ?_
    show Go p e below P (T0.setTop (mkF m 4 #[.val (.ref b), .val (.int (8 : Int32)), .val (.int (0 : Int32)), .val (.int (8 : Int32))] []))
    refine Go.st (fun _ kt => XS.iloadN X0.here hx rfl (hb hby d_prog_13_method_7_4) rfl (XS.ifNo X0.here hx rfl (hb hby d_prog_13_method_7_5) rfl ((if0 _ _).trans (tlt (by decide : (0 : Int32) < (8 : Int32))).2.2.2) (XS.iloadN X0.here hx rfl (hb hby d_prog_13_method_7_8) rfl (XS.aloadN X0.here hx rfl (hb hby d_prog_13_method_7_9) rfl rfl kt)))) ?_
    show Go p e below P (T0.setTop (mkF m 10 #[.val (.ref b), .val (.int (8 : Int32)), .val (.int (0 : Int32)), .val (.int (8 : Int32))] [(.ref b), (.int (0 : Int32))]))
    obtain ⟨T13, X13, e13, st13⟩ := getF X0 hx hZ hown (host := "") (Or.inl (hw _ (List.mem_of_getElem? (i := 14) rfl))) Via.refl e0 Ft (g := (mkF m 10 #[.val (.ref b), .val (.int (8 : Int32)), .val (.int (0 : Int32)), .val (.int (8 : Int32))] [(.ref b), (.int (0 : Int32))])) rfl rfl (hb hby d_prog_13_method_7_10)
    refine Go.st st13 ?_
    show Go p e below P (T13.setTop (mkF m 13 #[.val (.ref b), .val (.int (8 : Int32)), .val (.int (0 : Int32)), .val (.int (8 : Int32))] [(.ref t), (.int (0 : Int32))]))
    refine Go.st (fun _ kt => XS.iloadN X13.here hx rfl (hb hby d_prog_13_method_7_13) rfl (aryLdI X13 hx hZ e13 Vt (j := (8 : Int32)) (i := 8) ⟨by decide, by decide⟩ (by decide) (g := (mkF m 14 #[.val (.ref b), .val (.int (8 : Int32)), .val (.int (0 : Int32)), .val (.int (8 : Int32))] [(.int (8 : Int32)), (.ref t), (.int (0 : Int32))])) rfl rfl (hb hby d_prog_13_method_7_14) _ (XS.iadd X13.here hx rfl (hb hby d_prog_13_method_7_15) rfl (XS.istoreN X13.here hx rfl (hb hby d_prog_13_method_7_16) rfl (l' := #[.val (.ref b), .val (.int (8 : Int32)), .val (.int ((0 : Int32) + (F 8))), .val (.int (8 : Int32))]) rfl (XS.iloadN X13.here hx rfl (hb hby d_prog_13_method_7_17) rfl (XS.iloadN X13.here hx rfl (hb hby d_prog_13_method_7_18) rfl (XS.iloadN X13.here hx rfl (hb hby d_prog_13_method_7_19) rfl (XS.ineg X13.here hx rfl (hb hby d_prog_13_method_7_20) rfl kt)))))))) ?_
    show Go p e below P (T13.setTop (mkF m 21 #[.val (.ref b), .val (.int (8 : Int32)), .val (.int ((0 : Int32) + (F 8))), .val (.int (8 : Int32))] [(.int (-(8 : Int32))), (.int (8 : Int32)), (.int (8 : Int32))]))
    refine Go.st (fun _ kt => XS.iand X13.here hx rfl (hb hby d_prog_13_method_7_21) rfl (XS.isub X13.here hx rfl (hb hby d_prog_13_method_7_22) rfl (XS.istoreN X13.here hx rfl (hb hby d_prog_13_method_7_23) rfl (l' := #[.val (.ref b), .val (.int (8 : Int32)), .val (.int ((0 : Int32) + (F 8))), .val (.int ((8 : Int32) - ((8 : Int32) &&& (-(8 : Int32)))))]) rfl (XS.goto X13.here hx rfl (pc0 := 24) (pc' := 4) rfl (hb hby d_prog_13_method_7_24) (by decide) (by decide) kt)))) ?_
    show Go p e below P (T13.setTop (mkF m 4 #[.val (.ref b), .val (.int (8 : Int32)), .val (.int ((0 : Int32) + (F 8))), .val (.int ((8 : Int32) - ((8 : Int32) &&& (-(8 : Int32)))))] []))
    rw [show ((8 : Int32) - ((8 : Int32) &&& (-(8 : Int32)))) = (0 : Int32) from by decide]
    show Go p e below P (T13.setTop (mkF m 4 #[.val (.ref b), .val (.int (8 : Int32)), .val (.int ((0 : Int32) + (F 8))), .val (.int (0 : Int32))] []))
    refine Go.st (fun _ kt => XS.iloadN X13.here hx rfl (hb hby d_prog_13_method_7_4) rfl (XS.ifYes X13.here hx rfl (pc0 := 5) (pc' := 27) rfl (hb hby d_prog_13_method_7_5) rfl ((if0 _ _).trans (flt (by decide : ¬ ((0 : Int32) < (0 : Int32)))).2.2.2) (by decide) (by decide) (XS.iloadN X13.here hx rfl (hb hby d_prog_13_method_7_27) rfl kt))) ?_
    show Go p e below P (T13.setTop (mkF m 28 #[.val (.ref b), .val (.int (8 : Int32)), .val (.int ((0 : Int32) + (F 8))), .val (.int (0 : Int32))] [(.int ((0 : Int32) + (F 8)))]))
    exact goI X13 hx hret hlk (hb hby d_prog_13_method_7_28) hP (by decide) (by decide) ⟨rfl, (Fr.nil n0), e13⟩
theorem pd_3 : parseMethodDescriptor "(I)V" = some ⟨[.int], none⟩ := by decide +kernel
theorem pd_4 : parseMethodDescriptor "(I)I" = some ⟨[.int], some .int⟩ := by decide +kernel
theorem pd_5 : parseMethodDescriptor "(III)I" = some ⟨[.int, .int, .int], some .int⟩ := by decide +kernel
theorem ef_rm0 (m : MethodId) (a : Int32) (ee : Int32) : entryFrame m #[(.int a), (.int ee)] maxLocals = mkF m 0 #[.val (.int a), .val (.int ee), .unset, .unset, .unset, .unset, .unset] [] := by first | (simp [entryFrame, mkF, argsToLocals, Value.category, maxLocals]; done) | rfl
set_option maxRecDepth 65536 in
set_option maxHeartbeats 40000000 in
theorem rm0 (l : Launch) (Z : State) (a0 : Array Value) (hw : ∀ d ∈ tables_1, d.before a0 Z = true) (ws : List Jvm.Cond) (a : Int32) (ee : Int32)  (h0 : Heap) (n0 : Nat) (Z0 : n0 ≤ h0.size)  :
    Ct l x code maxLocals ret ws room_1 Z #[(.int a), (.int ee)] h0 (fun v h L => v = some (.int 1) ∧ Fr n0 L) := by
  refine Ct.of (plainFor_of_name pn_0) (fun m => ef_rm0 m a ee) ?_
  intro p e s m below meth c T0 X0 hx hby hml hret hlk hown hnm hZ e0 P hP
  refine Go.st (fun _ kt => XS.iloadN X0.here hx rfl (hb hby at_0) rfl (XS.sipush X0.here hx rfl (hb hby at_1) (XS.iand X0.here hx rfl (hb hby at_4) rfl kt))) ?_
  show Go p e below P (T0.setTop (mkF m 5 #[.val (.int a), .val (.int ee), .unset, .unset, .unset, .unset, .unset] [(.int (a &&& (255 : Int32)))]))
  obtain ⟨j, hj, hj8⟩ := own_m8 a
  rw [hj]
  show Go p e below P (T0.setTop (mkF m 5 #[.val (.int a), .val (.int ee), .unset, .unset, .unset, .unset, .unset] [(.int (Int32.ofNat j))]))
  refine Go.st (fun _ kt => XS.istoreN X0.here hx rfl (hb hby at_5) rfl (l' := #[.val (.int a), .val (.int ee), .val (.int (Int32.ofNat j)), .unset, .unset, .unset, .unset]) rfl (XS.iloadN X0.here hx rfl (hb hby at_6) rfl (X0.ldcInt hx hown (mvT hZ (hw _ (List.mem_of_getElem? (i := 0) rfl))) (g := (mkF m 7 #[.val (.int a), .val (.int ee), .val (.int (Int32.ofNat j)), .unset, .unset, .unset, .unset] [(.int ee)])) rfl (hb hby at_7) _ (XS.iand X0.here hx rfl (hb hby at_9) rfl (XS.bipush X0.here hx rfl (hb hby at_10) (iremM X0 hx rfl (hb hby at_12) rfl (by decide) kt)))))) ?_
  show Go p e below P (T0.setTop (mkF m 13 #[.val (.int a), .val (.int ee), .val (.int (Int32.ofNat j)), .unset, .unset, .unset, .unset] [(.int ((ee &&& (2147483647 : Int32)) % (9 : Int32)))]))
  obtain ⟨k, hk, hk9⟩ := own_e9 ee
  rw [hk]
  show Go p e below P (T0.setTop (mkF m 13 #[.val (.int a), .val (.int ee), .val (.int (Int32.ofNat j)), .unset, .unset, .unset, .unset] [(.int (Int32.ofNat k))]))
  refine Go.st (fun _ kt => XS.istoreN X0.here hx rfl (hb hby at_13) rfl (l' := #[.val (.int a), .val (.int ee), .val (.int (Int32.ofNat j)), .val (.int (Int32.ofNat k)), .unset, .unset, .unset]) rfl kt) ?_
  show Go p e below P (T0.setTop (mkF m 14 #[.val (.int a), .val (.int ee), .val (.int (Int32.ofNat j)), .val (.int (Int32.ofNat k)), .unset, .unset, .unset] []))
  obtain ⟨T1, h1, X1, e1, E1, A1, D1, -, st1⟩ := newO X0 hx hZ hown (hw _ (List.mem_of_getElem? (i := 1) rfl)) (hw _ (List.mem_of_getElem? (i := 2) rfl)) (hw _ (List.mem_of_getElem? (i := 3) rfl)) e0 (g := (mkF m 14 #[.val (.int a), .val (.int ee), .val (.int (Int32.ofNat j)), .val (.int (Int32.ofNat k)), .unset, .unset, .unset] [])) rfl (hb hby at_14) (by decide) (by decide)
  obtain ⟨b1, g1⟩ : ∃ z, z = h0.size := ⟨_, rfl⟩
  rw [← g1] at A1 D1 st1
  have G1 : n0 ≤ b1 := Nat.le_trans Z0 (Nat.le_of_eq g1.symm)
  have F1_members : Fld Z h1 b1 "com/example/doc_delta/docdelta/formats/IndexSet" "members" "[Z" .null := D1 (Or.inr (hw _ (List.mem_of_getElem? (i := 12) rfl))) (ty := (.array .boolean)) (by decide)
  have F1_tree : Fld Z h1 b1 "com/example/doc_delta/docdelta/formats/IndexSet" "tree" "[I" .null := D1 (Or.inr (hw _ (List.mem_of_getElem? (i := 15) rfl))) (ty := (.array .int)) (by decide)
  have Z2 := Nat.le_trans Z0 E1.1
  refine Go.st st1 ?_
  show Go p e below P (T1.setTop (mkF m 17 #[.val (.int a), .val (.int ee), .val (.int (Int32.ofNat j)), .val (.int (Int32.ofNat k)), .unset, .unset, .unset] [(.ref b1)]))
  refine Go.st (fun _ kt => XS.dup X1.here hx rfl (hb hby at_17) rfl rfl (XS.bipush X1.here hx rfl (hb hby at_18) kt)) ?_
  show Go p e below P (T1.setTop (mkF m 20 #[.val (.int a), .val (.int ee), .val (.int (Int32.ofNat j)), .val (.int (Int32.ofNat k)), .unset, .unset, .unset] [(.int (8 : Int32)), (.ref b1), (.ref b1)]))
  obtain ⟨_, T3, Lc3, X3, ⟨rfl, Nq3, K3, IS3⟩, st3⟩ := callCtor X1 hx hZ e1 (y := (⟨"com/example/doc_delta/docdelta/formats/IndexSet", "<init>", "(I)V"⟩ : MethodName)) rfl (a := b1) (argsL := [(.int (8 : Int32))]) (rest := [(.ref b1)]) hown (hw _ (List.mem_of_getElem? (i := 4) rfl)) (hw _ (List.mem_of_getElem? (i := 5) rfl)) (hw _ (List.mem_of_getElem? (i := 3) rfl)) (hw _ (List.mem_of_getElem? (i := 6) rfl)) (by decide) (rmI l Z a0 hw b1 _ n0 Z2 A1 F1_tree F1_members G1) (W := 1) (by decide) (by decide) (g := (mkF m 20 #[.val (.int a), .val (.int ee), .val (.int (Int32.ofNat j)), .val (.int (Int32.ofNat k)), .unset, .unset, .unset] [(.int (8 : Int32)), (.ref b1), (.ref b1)])) rfl (by rw [hml]; rfl) (lenOf pd_3 rfl) rfl (by show 2 * 0 + _ ≤ _; exact Nat.le_of_eq rfl) (hb hby at_20) (by decide) (by decide)
  have N3 := Fr.app (Fr.nil n0) Nq3
  have Z4 := Nat.le_trans Z2 K3.1
  refine Go.st st3 ?_
  show Go p e below P (T3.setTop (mkF m 23 #[.val (.int a), .val (.int ee), .val (.int (Int32.ofNat j)), .val (.int (Int32.ofNat k)), .unset, .unset, .unset] [(.ref b1)]))
  refine Go.st (fun _ kt => XS.astore X3.here hx rfl (hb hby at_23) rfl rfl (l' := #[.val (.int a), .val (.int ee), .val (.int (Int32.ofNat j)), .val (.int (Int32.ofNat k)), .val (.ref b1), .unset, .unset]) rfl kt) ?_
  show Go p e below P (T3.setTop (mkF m 25 #[.val (.int a), .val (.int ee), .val (.int (Int32.ofNat j)), .val (.int (Int32.ofNat k)), .val (.ref b1), .unset, .unset] []))
  have IS5 : own_IS Z T3.heap n0 b1 (own_tree 0 0 0 0 0 0 0 0) := by
    obtain ⟨t, u, g, q1, q2, q3, q4, q5, q6⟩ := IS3
    exact ⟨t, u, g, q1, q2, q3, q4.congr (fun i hi => by simp [own_tree]), q5, q6⟩
  refine Go.st (fun _ kt => XS.iloadN X3.here hx rfl (hb hby at_25) rfl (XS.iconst X3.here hx rfl (hb hby at_26) (XS.iand X3.here hx rfl (hb hby at_27) rfl kt))) ?_
  show Go p e below P (T3.setTop (mkF m 28 #[.val (.int a), .val (.int ee), .val (.int (Int32.ofNat j)), .val (.int (Int32.ofNat k)), .val (.ref b1), .unset, .unset] [(.int ((Int32.ofNat j) &&& (1 : Int32)))]))
  have cut6 : ∀ (T7 : State) (Lk7 : List Loc), Stand p l e room_1 s m #[(.int a), (.int ee)] below meth c T7 Lk7 3 19 → Fr n0 Lk7 → n0 ≤ T7.heap.size → own_IS Z T7.heap n0 b1 (own_tree (own_b (Int32.ofNat j) (0 : Int32)) 0 0 0 0 0 0 0) → Go p e below P (T7.setTop (mkF m 37 #[.val (.int a), .val (.int ee), .val (.int (Int32.ofNat j)), .val (.int (Int32.ofNat k)), .val (.ref b1), .unset, .unset] [])) := by
    intro T7 Lk7  X7 N7 Z7 fc7_0 
    refine Go.st (fun _ kt => XS.iloadN X7.here hx rfl (hb hby at_37) rfl (XS.iconst X7.here hx rfl (hb hby at_38) (XS.iand X7.here hx rfl (hb hby at_39) rfl kt))) ?_
    show Go p e below P (T7.setTop (mkF m 40 #[.val (.int a), .val (.int ee), .val (.int (Int32.ofNat j)), .val (.int (Int32.ofNat k)), .val (.ref b1), .unset, .unset] [(.int ((Int32.ofNat j) &&& (2 : Int32)))]))
    have cut8 : ∀ (T9 : State) (Lk9 : List Loc), Stand p l e room_1 s m #[(.int a), (.int ee)] below meth c T9 Lk9 3 19 → Fr n0 Lk9 → n0 ≤ T9.heap.size → own_IS Z T9.heap n0 b1 (own_tree (own_b (Int32.ofNat j) (0 : Int32)) (own_b (Int32.ofNat j) (1 : Int32)) 0 0 0 0 0 0) → Go p e below P (T9.setTop (mkF m 49 #[.val (.int a), .val (.int ee), .val (.int (Int32.ofNat j)), .val (.int (Int32.ofNat k)), .val (.ref b1), .unset, .unset] [])) := by
      intro T9 Lk9  X9 N9 Z9 fc9_0 
      refine Go.st (fun _ kt => XS.iloadN X9.here hx rfl (hb hby at_49) rfl (XS.iconst X9.here hx rfl (hb hby at_50) (XS.iand X9.here hx rfl (hb hby at_51) rfl kt))) ?_
      show Go p e below P (T9.setTop (mkF m 52 #[.val (.int a), .val (.int ee), .val (.int (Int32.ofNat j)), .val (.int (Int32.ofNat k)), .val (.ref b1), .unset, .unset] [(.int ((Int32.ofNat j) &&& (4 : Int32)))]))
      have cut10 : ∀ (T11 : State) (Lk11 : List Loc), Stand p l e room_1 s m #[(.int a), (.int ee)] below meth c T11 Lk11 3 19 → Fr n0 Lk11 → n0 ≤ T11.heap.size → own_IS Z T11.heap n0 b1 (own_tree (own_b (Int32.ofNat j) (0 : Int32)) (own_b (Int32.ofNat j) (1 : Int32)) (own_b (Int32.ofNat j) (2 : Int32)) 0 0 0 0 0) → Go p e below P (T11.setTop (mkF m 61 #[.val (.int a), .val (.int ee), .val (.int (Int32.ofNat j)), .val (.int (Int32.ofNat k)), .val (.ref b1), .unset, .unset] [])) := by
        intro T11 Lk11  X11 N11 Z11 fc11_0 
        refine Go.st (fun _ kt => XS.iloadN X11.here hx rfl (hb hby at_61) rfl (XS.bipush X11.here hx rfl (hb hby at_62) (XS.iand X11.here hx rfl (hb hby at_64) rfl kt))) ?_
        show Go p e below P (T11.setTop (mkF m 65 #[.val (.int a), .val (.int ee), .val (.int (Int32.ofNat j)), .val (.int (Int32.ofNat k)), .val (.ref b1), .unset, .unset] [(.int ((Int32.ofNat j) &&& (8 : Int32)))]))
        have cut12 : ∀ (T13 : State) (Lk13 : List Loc), Stand p l e room_1 s m #[(.int a), (.int ee)] below meth c T13 Lk13 3 19 → Fr n0 Lk13 → n0 ≤ T13.heap.size → own_IS Z T13.heap n0 b1 (own_tree (own_b (Int32.ofNat j) (0 : Int32)) (own_b (Int32.ofNat j) (1 : Int32)) (own_b (Int32.ofNat j) (2 : Int32)) (own_b (Int32.ofNat j) (3 : Int32)) 0 0 0 0) → Go p e below P (T13.setTop (mkF m 74 #[.val (.int a), .val (.int ee), .val (.int (Int32.ofNat j)), .val (.int (Int32.ofNat k)), .val (.ref b1), .unset, .unset] [])) := by
          intro T13 Lk13  X13 N13 Z13 fc13_0 
          refine Go.st (fun _ kt => XS.iloadN X13.here hx rfl (hb hby at_74) rfl (XS.bipush X13.here hx rfl (hb hby at_75) (XS.iand X13.here hx rfl (hb hby at_77) rfl kt))) ?_
          show Go p e below P (T13.setTop (mkF m 78 #[.val (.int a), .val (.int ee), .val (.int (Int32.ofNat j)), .val (.int (Int32.ofNat k)), .val (.ref b1), .unset, .unset] [(.int ((Int32.ofNat j) &&& (16 : Int32)))]))
          have cut14 : ∀ (T15 : State) (Lk15 : List Loc), Stand p l e room_1 s m #[(.int a), (.int ee)] below meth c T15 Lk15 3 19 → Fr n0 Lk15 → n0 ≤ T15.heap.size → own_IS Z T15.heap n0 b1 (own_tree (own_b (Int32.ofNat j) (0 : Int32)) (own_b (Int32.ofNat j) (1 : Int32)) (own_b (Int32.ofNat j) (2 : Int32)) (own_b (Int32.ofNat j) (3 : Int32)) (own_b (Int32.ofNat j) (4 : Int32)) 0 0 0) → Go p e below P (T15.setTop (mkF m 87 #[.val (.int a), .val (.int ee), .val (.int (Int32.ofNat j)), .val (.int (Int32.ofNat k)), .val (.ref b1), .unset, .unset] [])) := by
            intro T15 Lk15  X15 N15 Z15 fc15_0 
            refine Go.st (fun _ kt => XS.iloadN X15.here hx rfl (hb hby at_87) rfl (XS.bipush X15.here hx rfl (hb hby at_88) (XS.iand X15.here hx rfl (hb hby at_90) rfl kt))) ?_
            show Go p e below P (T15.setTop (mkF m 91 #[.val (.int a), .val (.int ee), .val (.int (Int32.ofNat j)), .val (.int (Int32.ofNat k)), .val (.ref b1), .unset, .unset] [(.int ((Int32.ofNat j) &&& (32 : Int32)))]))
            have cut16 : ∀ (T17 : State) (Lk17 : List Loc), Stand p l e room_1 s m #[(.int a), (.int ee)] below meth c T17 Lk17 3 19 → Fr n0 Lk17 → n0 ≤ T17.heap.size → own_IS Z T17.heap n0 b1 (own_tree (own_b (Int32.ofNat j) (0 : Int32)) (own_b (Int32.ofNat j) (1 : Int32)) (own_b (Int32.ofNat j) (2 : Int32)) (own_b (Int32.ofNat j) (3 : Int32)) (own_b (Int32.ofNat j) (4 : Int32)) (own_b (Int32.ofNat j) (5 : Int32)) 0 0) → Go p e below P (T17.setTop (mkF m 100 #[.val (.int a), .val (.int ee), .val (.int (Int32.ofNat j)), .val (.int (Int32.ofNat k)), .val (.ref b1), .unset, .unset] [])) := by
              intro T17 Lk17  X17 N17 Z17 fc17_0 
              refine Go.st (fun _ kt => XS.iloadN X17.here hx rfl (hb hby at_100) rfl (XS.bipush X17.here hx rfl (hb hby at_101) (XS.iand X17.here hx rfl (hb hby at_103) rfl kt))) ?_
              show Go p e below P (T17.setTop (mkF m 104 #[.val (.int a), .val (.int ee), .val (.int (Int32.ofNat j)), .val (.int (Int32.ofNat k)), .val (.ref b1), .unset, .unset] [(.int ((Int32.ofNat j) &&& (64 : Int32)))]))
              have cut18 : ∀ (T19 : State) (Lk19 : List Loc), Stand p l e room_1 s m #[(.int a), (.int ee)] below meth c T19 Lk19 3 19 → Fr n0 Lk19 → n0 ≤ T19.heap.size → own_IS Z T19.heap n0 b1 (own_tree (own_b (Int32.ofNat j) (0 : Int32)) (own_b (Int32.ofNat j) (1 : Int32)) (own_b (Int32.ofNat j) (2 : Int32)) (own_b (Int32.ofNat j) (3 : Int32)) (own_b (Int32.ofNat j) (4 : Int32)) (own_b (Int32.ofNat j) (5 : Int32)) (own_b (Int32.ofNat j) (6 : Int32)) 0) → Go p e below P (T19.setTop (mkF m 114 #[.val (.int a), .val (.int ee), .val (.int (Int32.ofNat j)), .val (.int (Int32.ofNat k)), .val (.ref b1), .unset, .unset] [])) := by
                intro T19 Lk19  X19 N19 Z19 fc19_0 
                refine Go.st (fun _ kt => XS.iloadN X19.here hx rfl (hb hby at_114) rfl (XS.sipush X19.here hx rfl (hb hby at_115) (XS.iand X19.here hx rfl (hb hby at_118) rfl kt))) ?_
                show Go p e below P (T19.setTop (mkF m 119 #[.val (.int a), .val (.int ee), .val (.int (Int32.ofNat j)), .val (.int (Int32.ofNat k)), .val (.ref b1), .unset, .unset] [(.int ((Int32.ofNat j) &&& (128 : Int32)))]))
                have cut20 : ∀ (T21 : State) (Lk21 : List Loc), Stand p l e room_1 s m #[(.int a), (.int ee)] below meth c T21 Lk21 3 19 → Fr n0 Lk21 → n0 ≤ T21.heap.size → own_IS Z T21.heap n0 b1 (own_tree (own_b (Int32.ofNat j) (0 : Int32)) (own_b (Int32.ofNat j) (1 : Int32)) (own_b (Int32.ofNat j) (2 : Int32)) (own_b (Int32.ofNat j) (3 : Int32)) (own_b (Int32.ofNat j) (4 : Int32)) (own_b (Int32.ofNat j) (5 : Int32)) (own_b (Int32.ofNat j) (6 : Int32)) (own_b (Int32.ofNat j) (7 : Int32))) → Go p e below P (T21.setTop (mkF m 129 #[.val (.int a), .val (.int ee), .val (.int (Int32.ofNat j)), .val (.int (Int32.ofNat k)), .val (.ref b1), .unset, .unset] [])) := by
                  intro T21 Lk21  X21 N21 Z21 fc21_0 
                  refine Go.st (fun _ kt => XS.aload X21.here hx rfl (hb hby at_129) rfl rfl (XS.iloadN X21.here hx rfl (hb hby at_131) rfl kt)) ?_
                  show Go p e below P (T21.setTop (mkF m 132 #[.val (.int a), .val (.int ee), .val (.int (Int32.ofNat j)), .val (.int (Int32.ofNat k)), .val (.ref b1), .unset, .unset] [(.int (Int32.ofNat k)), (.ref b1)]))
                  obtain ⟨_, T22, Lc22, X22, ⟨rfl, Nq22, eq22⟩, st22⟩ := callCv X21 hx hZ rfl (y := (⟨"com/example/doc_delta/docdelta/formats/IndexSet", "countBefore", "(I)I"⟩ : MethodName)) (a := b1) (argsL := [(.int (Int32.ofNat k))]) (rest := []) hown (hw _ (List.mem_of_getElem? (i := 16) rfl)) (hw _ (List.mem_of_getElem? (i := 17) rfl)) (hw _ (List.mem_of_getElem? (i := 19) rfl)) (hw _ (List.mem_of_getElem? (i := 18) rfl)) (hw _ (List.mem_of_getElem? (i := 3) rfl)) (hw _ (List.mem_of_getElem? (i := 20) rfl)) (by decide) (by obtain ⟨_, _, _, q, _⟩ := fc21_0; exact q) (rmCB l Z a0 hw b1 (Int32.ofNat k) _ k _ n0 Z21 fc21_0 rfl hk9) (W := 0) (by decide) (by decide) (g := (mkF m 132 #[.val (.int a), .val (.int ee), .val (.int (Int32.ofNat j)), .val (.int (Int32.ofNat k)), .val (.ref b1), .unset, .unset] [(.int (Int32.ofNat k)), (.ref b1)])) rfl (by rw [hml]; rfl) (lenOf pd_4 rfl) rfl (by show 2 * 0 + _ ≤ _; exact Nat.le_of_eq rfl) (hb hby at_132) (by decide) (by decide)
                  have N22 := Fr.app N21 Nq22
                  have e22 : T22.heap = T21.heap := eq22
                  refine Go.st st22 ?_
                  show Go p e below P (T22.setTop (mkF m 135 #[.val (.int a), .val (.int ee), .val (.int (Int32.ofNat j)), .val (.int (Int32.ofNat k)), .val (.ref b1), .unset, .unset] [(.int (own_cb (own_tree (own_b (Int32.ofNat j) (0 : Int32)) (own_b (Int32.ofNat j) (1 : Int32)) (own_b (Int32.ofNat j) (2 : Int32)) (own_b (Int32.ofNat j) (3 : Int32)) (own_b (Int32.ofNat j) (4 : Int32)) (own_b (Int32.ofNat j) (5 : Int32)) (own_b (Int32.ofNat j) (6 : Int32)) (own_b (Int32.ofNat j) (7 : Int32))) k))]))
                  refine Go.st (fun _ kt => XS.istore X22.here hx rfl (hb hby at_135) rfl (l' := #[.val (.int a), .val (.int ee), .val (.int (Int32.ofNat j)), .val (.int (Int32.ofNat k)), .val (.ref b1), .val (.int (own_cb (own_tree (own_b (Int32.ofNat j) (0 : Int32)) (own_b (Int32.ofNat j) (1 : Int32)) (own_b (Int32.ofNat j) (2 : Int32)) (own_b (Int32.ofNat j) (3 : Int32)) (own_b (Int32.ofNat j) (4 : Int32)) (own_b (Int32.ofNat j) (5 : Int32)) (own_b (Int32.ofNat j) (6 : Int32)) (own_b (Int32.ofNat j) (7 : Int32))) k)), .unset]) rfl (XS.iloadN X22.here hx rfl (hb hby at_137) rfl (XS.iconst X22.here hx rfl (hb hby at_138) (XS.iloadN X22.here hx rfl (hb hby at_139) rfl kt)))) ?_
                  show Go p e below P (T22.setTop (mkF m 140 #[.val (.int a), .val (.int ee), .val (.int (Int32.ofNat j)), .val (.int (Int32.ofNat k)), .val (.ref b1), .val (.int (own_cb (own_tree (own_b (Int32.ofNat j) (0 : Int32)) (own_b (Int32.ofNat j) (1 : Int32)) (own_b (Int32.ofNat j) (2 : Int32)) (own_b (Int32.ofNat j) (3 : Int32)) (own_b (Int32.ofNat j) (4 : Int32)) (own_b (Int32.ofNat j) (5 : Int32)) (own_b (Int32.ofNat j) (6 : Int32)) (own_b (Int32.ofNat j) (7 : Int32))) k)), .unset] [(.int (Int32.ofNat k)), (.int (0 : Int32)), (.int (Int32.ofNat j))]))
                  obtain ⟨_, T23, Lc23, X23, ⟨rfl, Nq23, eq23⟩, st23⟩ := callCt X22 hx hZ e22 (y := (⟨"com/example/doc_delta/docdelta/formats/IndexSetCountBeforePinLaw", "bit", "(III)I"⟩ : MethodName)) (argsL := [(.int (Int32.ofNat j)), (.int (0 : Int32)), (.int (Int32.ofNat k))]) (rest := []) hown (hw _ (List.mem_of_getElem? (i := 21) rfl)) (hw _ (List.mem_of_getElem? (i := 22) rfl)) (hw _ (List.mem_of_getElem? (i := 23) rfl)) (hw _ (List.mem_of_getElem? (i := 24) rfl)) (by decide) (rmBit l Z a0 hw (Int32.ofNat j) (0 : Int32) (Int32.ofNat k) _ n0 Z21) (W := 0) (by decide) (by decide) (g := (mkF m 140 #[.val (.int a), .val (.int ee), .val (.int (Int32.ofNat j)), .val (.int (Int32.ofNat k)), .val (.ref b1), .val (.int (own_cb (own_tree (own_b (Int32.ofNat j) (0 : Int32)) (own_b (Int32.ofNat j) (1 : Int32)) (own_b (Int32.ofNat j) (2 : Int32)) (own_b (Int32.ofNat j) (3 : Int32)) (own_b (Int32.ofNat j) (4 : Int32)) (own_b (Int32.ofNat j) (5 : Int32)) (own_b (Int32.ofNat j) (6 : Int32)) (own_b (Int32.ofNat j) (7 : Int32))) k)), .unset] [(.int (Int32.ofNat k)), (.int (0 : Int32)), (.int (Int32.ofNat j))])) rfl (by rw [hml]; rfl) (lenOf pd_5 rfl) rfl (by show 2 * 0 + _ ≤ _; exact Nat.le_of_eq rfl) (hb hby at_140) (by decide) (by decide)
                  have N23 := Fr.app N22 Nq23
                  have e23 : T23.heap = T21.heap := eq23
                  refine Go.st st23 ?_
                  show Go p e below P (T23.setTop (mkF m 143 #[.val (.int a), .val (.int ee), .val (.int (Int32.ofNat j)), .val (.int (Int32.ofNat k)), .val (.ref b1), .val (.int (own_cb (own_tree (own_b (Int32.ofNat j) (0 : Int32)) (own_b (Int32.ofNat j) (1 : Int32)) (own_b (Int32.ofNat j) (2 : Int32)) (own_b (Int32.ofNat j) (3 : Int32)) (own_b (Int32.ofNat j) (4 : Int32)) (own_b (Int32.ofNat j) (5 : Int32)) (own_b (Int32.ofNat j) (6 : Int32)) (own_b (Int32.ofNat j) (7 : Int32))) k)), .unset] [(.int (own_bit (Int32.ofNat j) (0 : Int32) (Int32.ofNat k)))]))
                  refine Go.st (fun _ kt => XS.iloadN X23.here hx rfl (hb hby at_143) rfl (XS.iconst X23.here hx rfl (hb hby at_144) (XS.iloadN X23.here hx rfl (hb hby at_145) rfl kt))) ?_
                  show Go p e below P (T23.setTop (mkF m 146 #[.val (.int a), .val (.int ee), .val (.int (Int32.ofNat j)), .val (.int (Int32.ofNat k)), .val (.ref b1), .val (.int (own_cb (own_tree (own_b (Int32.ofNat j) (0 : Int32)) (own_b (Int32.ofNat j) (1 : Int32)) (own_b (Int32.ofNat j) (2 : Int32)) (own_b (Int32.ofNat j) (3 : Int32)) (own_b (Int32.ofNat j) (4 : Int32)) (own_b (Int32.ofNat j) (5 : Int32)) (own_b (Int32.ofNat j) (6 : Int32)) (own_b (Int32.ofNat j) (7 : Int32))) k)), .unset] [(.int (Int32.ofNat k)), (.int (1 : Int32)), (.int (Int32.ofNat j)), (.int (own_bit (Int32.ofNat j) (0 : Int32) (Int32.ofNat k)))]))
                  obtain ⟨_, T24, Lc24, X24, ⟨rfl, Nq24, eq24⟩, st24⟩ := callCt X23 hx hZ e23 (y := (⟨"com/example/doc_delta/docdelta/formats/IndexSetCountBeforePinLaw", "bit", "(III)I"⟩ : MethodName)) (argsL := [(.int (Int32.ofNat j)), (.int (1 : Int32)), (.int (Int32.ofNat k))]) (rest := [(.int (own_bit (Int32.ofNat j) (0 : Int32) (Int32.ofNat k)))]) hown (hw _ (List.mem_of_getElem? (i := 21) rfl)) (hw _ (List.mem_of_getElem? (i := 22) rfl)) (hw _ (List.mem_of_getElem? (i := 23) rfl)) (hw _ (List.mem_of_getElem? (i := 24) rfl)) (by decide) (rmBit l Z a0 hw (Int32.ofNat j) (1 : Int32) (Int32.ofNat k) _ n0 Z21) (W := 1) (by decide) (by decide) (g := (mkF m 146 #[.val (.int a), .val (.int ee), .val (.int (Int32.ofNat j)), .val (.int (Int32.ofNat k)), .val (.ref b1), .val (.int (own_cb (own_tree (own_b (Int32.ofNat j) (0 : Int32)) (own_b (Int32.ofNat j) (1 : Int32)) (own_b (Int32.ofNat j) (2 : Int32)) (own_b (Int32.ofNat j) (3 : Int32)) (own_b (Int32.ofNat j) (4 : Int32)) (own_b (Int32.ofNat j) (5 : Int32)) (own_b (Int32.ofNat j) (6 : Int32)) (own_b (Int32.ofNat j) (7 : Int32))) k)), .unset] [(.int (Int32.ofNat k)), (.int (1 : Int32)), (.int (Int32.ofNat j)), (.int (own_bit (Int32.ofNat j) (0 : Int32) (Int32.ofNat k)))])) rfl (by rw [hml]; rfl) (lenOf pd_5 rfl) rfl (by show 2 * 0 + _ ≤ _; exact Nat.le_of_eq rfl) (hb hby at_146) (by decide) (by decide)
                  have N24 := Fr.app N23 Nq24
                  have e24 : T24.heap = T21.heap := eq24
                  refine Go.st st24 ?_
                  show Go p e below P (T24.setTop (mkF m 149 #[.val (.int a), .val (.int ee), .val (.int (Int32.ofNat j)), .val (.int (Int32.ofNat k)), .val (.ref b1), .val (.int (own_cb (own_tree (own_b (Int32.ofNat j) (0 : Int32)) (own_b (Int32.ofNat j) (1 : Int32)) (own_b (Int32.ofNat j) (2 : Int32)) (own_b (Int32.ofNat j) (3 : Int32)) (own_b (Int32.ofNat j) (4 : Int32)) (own_b (Int32.ofNat j) (5 : Int32)) (own_b (Int32.ofNat j) (6 : Int32)) (own_b (Int32.ofNat j) (7 : Int32))) k)), .unset] [(.int (own_bit (Int32.ofNat j) (1 : Int32) (Int32.ofNat k))), (.int (own_bit (Int32.ofNat j) (0 : Int32) (Int32.ofNat k)))]))
                  refine Go.st (fun _ kt => XS.iadd X24.here hx rfl (hb hby at_149) rfl (XS.iloadN X24.here hx rfl (hb hby at_150) rfl (XS.iconst X24.here hx rfl (hb hby at_151) (XS.iloadN X24.here hx rfl (hb hby at_152) rfl kt)))) ?_
                  show Go p e below P (T24.setTop (mkF m 153 #[.val (.int a), .val (.int ee), .val (.int (Int32.ofNat j)), .val (.int (Int32.ofNat k)), .val (.ref b1), .val (.int (own_cb (own_tree (own_b (Int32.ofNat j) (0 : Int32)) (own_b (Int32.ofNat j) (1 : Int32)) (own_b (Int32.ofNat j) (2 : Int32)) (own_b (Int32.ofNat j) (3 : Int32)) (own_b (Int32.ofNat j) (4 : Int32)) (own_b (Int32.ofNat j) (5 : Int32)) (own_b (Int32.ofNat j) (6 : Int32)) (own_b (Int32.ofNat j) (7 : Int32))) k)), .unset] [(.int (Int32.ofNat k)), (.int (2 : Int32)), (.int (Int32.ofNat j)), (.int ((own_bit (Int32.ofNat j) (0 : Int32) (Int32.ofNat k)) + (own_bit (Int32.ofNat j) (1 : Int32) (Int32.ofNat k))))]))
                  obtain ⟨_, T25, Lc25, X25, ⟨rfl, Nq25, eq25⟩, st25⟩ := callCt X24 hx hZ e24 (y := (⟨"com/example/doc_delta/docdelta/formats/IndexSetCountBeforePinLaw", "bit", "(III)I"⟩ : MethodName)) (argsL := [(.int (Int32.ofNat j)), (.int (2 : Int32)), (.int (Int32.ofNat k))]) (rest := [(.int ((own_bit (Int32.ofNat j) (0 : Int32) (Int32.ofNat k)) + (own_bit (Int32.ofNat j) (1 : Int32) (Int32.ofNat k))))]) hown (hw _ (List.mem_of_getElem? (i := 21) rfl)) (hw _ (List.mem_of_getElem? (i := 22) rfl)) (hw _ (List.mem_of_getElem? (i := 23) rfl)) (hw _ (List.mem_of_getElem? (i := 24) rfl)) (by decide) (rmBit l Z a0 hw (Int32.ofNat j) (2 : Int32) (Int32.ofNat k) _ n0 Z21) (W := 1) (by decide) (by decide) (g := (mkF m 153 #[.val (.int a), .val (.int ee), .val (.int (Int32.ofNat j)), .val (.int (Int32.ofNat k)), .val (.ref b1), .val (.int (own_cb (own_tree (own_b (Int32.ofNat j) (0 : Int32)) (own_b (Int32.ofNat j) (1 : Int32)) (own_b (Int32.ofNat j) (2 : Int32)) (own_b (Int32.ofNat j) (3 : Int32)) (own_b (Int32.ofNat j) (4 : Int32)) (own_b (Int32.ofNat j) (5 : Int32)) (own_b (Int32.ofNat j) (6 : Int32)) (own_b (Int32.ofNat j) (7 : Int32))) k)), .unset] [(.int (Int32.ofNat k)), (.int (2 : Int32)), (.int (Int32.ofNat j)), (.int ((own_bit (Int32.ofNat j) (0 : Int32) (Int32.ofNat k)) + (own_bit (Int32.ofNat j) (1 : Int32) (Int32.ofNat k))))])) rfl (by rw [hml]; rfl) (lenOf pd_5 rfl) rfl (by show 2 * 0 + _ ≤ _; exact Nat.le_of_eq rfl) (hb hby at_153) (by decide) (by decide)
                  have N25 := Fr.app N24 Nq25
                  have e25 : T25.heap = T21.heap := eq25
                  refine Go.st st25 ?_
                  show Go p e below P (T25.setTop (mkF m 156 #[.val (.int a), .val (.int ee), .val (.int (Int32.ofNat j)), .val (.int (Int32.ofNat k)), .val (.ref b1), .val (.int (own_cb (own_tree (own_b (Int32.ofNat j) (0 : Int32)) (own_b (Int32.ofNat j) (1 : Int32)) (own_b (Int32.ofNat j) (2 : Int32)) (own_b (Int32.ofNat j) (3 : Int32)) (own_b (Int32.ofNat j) (4 : Int32)) (own_b (Int32.ofNat j) (5 : Int32)) (own_b (Int32.ofNat j) (6 : Int32)) (own_b (Int32.ofNat j) (7 : Int32))) k)), .unset] [(.int (own_bit (Int32.ofNat j) (2 : Int32) (Int32.ofNat k))), (.int ((own_bit (Int32.ofNat j) (0 : Int32) (Int32.ofNat k)) + (own_bit (Int32.ofNat j) (1 : Int32) (Int32.ofNat k))))]))
                  refine Go.st (fun _ kt => XS.iadd X25.here hx rfl (hb hby at_156) rfl (XS.iloadN X25.here hx rfl (hb hby at_157) rfl (XS.iconst X25.here hx rfl (hb hby at_158) (XS.iloadN X25.here hx rfl (hb hby at_159) rfl kt)))) ?_
                  show Go p e below P (T25.setTop (mkF m 160 #[.val (.int a), .val (.int ee), .val (.int (Int32.ofNat j)), .val (.int (Int32.ofNat k)), .val (.ref b1), .val (.int (own_cb (own_tree (own_b (Int32.ofNat j) (0 : Int32)) (own_b (Int32.ofNat j) (1 : Int32)) (own_b (Int32.ofNat j) (2 : Int32)) (own_b (Int32.ofNat j) (3 : Int32)) (own_b (Int32.ofNat j) (4 : Int32)) (own_b (Int32.ofNat j) (5 : Int32)) (own_b (Int32.ofNat j) (6 : Int32)) (own_b (Int32.ofNat j) (7 : Int32))) k)), .unset] [(.int (Int32.ofNat k)), (.int (3 : Int32)), (.int (Int32.ofNat j)), (.int (((own_bit (Int32.ofNat j) (0 : Int32) (Int32.ofNat k)) + (own_bit (Int32.ofNat j) (1 : Int32) (Int32.ofNat k))) + (own_bit (Int32.ofNat j) (2 : Int32) (Int32.ofNat k))))]))
                  obtain ⟨_, T26, Lc26, X26, ⟨rfl, Nq26, eq26⟩, st26⟩ := callCt X25 hx hZ e25 (y := (⟨"com/example/doc_delta/docdelta/formats/IndexSetCountBeforePinLaw", "bit", "(III)I"⟩ : MethodName)) (argsL := [(.int (Int32.ofNat j)), (.int (3 : Int32)), (.int (Int32.ofNat k))]) (rest := [(.int (((own_bit (Int32.ofNat j) (0 : Int32) (Int32.ofNat k)) + (own_bit (Int32.ofNat j) (1 : Int32) (Int32.ofNat k))) + (own_bit (Int32.ofNat j) (2 : Int32) (Int32.ofNat k))))]) hown (hw _ (List.mem_of_getElem? (i := 21) rfl)) (hw _ (List.mem_of_getElem? (i := 22) rfl)) (hw _ (List.mem_of_getElem? (i := 23) rfl)) (hw _ (List.mem_of_getElem? (i := 24) rfl)) (by decide) (rmBit l Z a0 hw (Int32.ofNat j) (3 : Int32) (Int32.ofNat k) _ n0 Z21) (W := 1) (by decide) (by decide) (g := (mkF m 160 #[.val (.int a), .val (.int ee), .val (.int (Int32.ofNat j)), .val (.int (Int32.ofNat k)), .val (.ref b1), .val (.int (own_cb (own_tree (own_b (Int32.ofNat j) (0 : Int32)) (own_b (Int32.ofNat j) (1 : Int32)) (own_b (Int32.ofNat j) (2 : Int32)) (own_b (Int32.ofNat j) (3 : Int32)) (own_b (Int32.ofNat j) (4 : Int32)) (own_b (Int32.ofNat j) (5 : Int32)) (own_b (Int32.ofNat j) (6 : Int32)) (own_b (Int32.ofNat j) (7 : Int32))) k)), .unset] [(.int (Int32.ofNat k)), (.int (3 : Int32)), (.int (Int32.ofNat j)), (.int (((own_bit (Int32.ofNat j) (0 : Int32) (Int32.ofNat k)) + (own_bit (Int32.ofNat j) (1 : Int32) (Int32.ofNat k))) + (own_bit (Int32.ofNat j) (2 : Int32) (Int32.ofNat k))))])) rfl (by rw [hml]; rfl) (lenOf pd_5 rfl) rfl (by show 2 * 0 + _ ≤ _; exact Nat.le_of_eq rfl) (hb hby at_160) (by decide) (by decide)
                  have N26 := Fr.app N25 Nq26
                  have e26 : T26.heap = T21.heap := eq26
                  refine Go.st st26 ?_
                  show Go p e below P (T26.setTop (mkF m 163 #[.val (.int a), .val (.int ee), .val (.int (Int32.ofNat j)), .val (.int (Int32.ofNat k)), .val (.ref b1), .val (.int (own_cb (own_tree (own_b (Int32.ofNat j) (0 : Int32)) (own_b (Int32.ofNat j) (1 : Int32)) (own_b (Int32.ofNat j) (2 : Int32)) (own_b (Int32.ofNat j) (3 : Int32)) (own_b (Int32.ofNat j) (4 : Int32)) (own_b (Int32.ofNat j) (5 : Int32)) (own_b (Int32.ofNat j) (6 : Int32)) (own_b (Int32.ofNat j) (7 : Int32))) k)), .unset] [(.int (own_bit (Int32.ofNat j) (3 : Int32) (Int32.ofNat k))), (.int (((own_bit (Int32.ofNat j) (0 : Int32) (Int32.ofNat k)) + (own_bit (Int32.ofNat j) (1 : Int32) (Int32.ofNat k))) + (own_bit (Int32.ofNat j) (2 : Int32) (Int32.ofNat k))))]))
                  refine Go.st (fun _ kt => XS.iadd X26.here hx rfl (hb hby at_163) rfl (XS.iloadN X26.here hx rfl (hb hby at_164) rfl (XS.iconst X26.here hx rfl (hb hby at_165) (XS.iloadN X26.here hx rfl (hb hby at_166) rfl kt)))) ?_
                  show Go p e below P (T26.setTop (mkF m 167 #[.val (.int a), .val (.int ee), .val (.int (Int32.ofNat j)), .val (.int (Int32.ofNat k)), .val (.ref b1), .val (.int (own_cb (own_tree (own_b (Int32.ofNat j) (0 : Int32)) (own_b (Int32.ofNat j) (1 : Int32)) (own_b (Int32.ofNat j) (2 : Int32)) (own_b (Int32.ofNat j) (3 : Int32)) (own_b (Int32.ofNat j) (4 : Int32)) (own_b (Int32.ofNat j) (5 : Int32)) (own_b (Int32.ofNat j) (6 : Int32)) (own_b (Int32.ofNat j) (7 : Int32))) k)), .unset] [(.int (Int32.ofNat k)), (.int (4 : Int32)), (.int (Int32.ofNat j)), (.int ((((own_bit (Int32.ofNat j) (0 : Int32) (Int32.ofNat k)) + (own_bit (Int32.ofNat j) (1 : Int32) (Int32.ofNat k))) + (own_bit (Int32.ofNat j) (2 : Int32) (Int32.ofNat k))) + (own_bit (Int32.ofNat j) (3 : Int32) (Int32.ofNat k))))]))
                  obtain ⟨_, T27, Lc27, X27, ⟨rfl, Nq27, eq27⟩, st27⟩ := callCt X26 hx hZ e26 (y := (⟨"com/example/doc_delta/docdelta/formats/IndexSetCountBeforePinLaw", "bit", "(III)I"⟩ : MethodName)) (argsL := [(.int (Int32.ofNat j)), (.int (4 : Int32)), (.int (Int32.ofNat k))]) (rest := [(.int ((((own_bit (Int32.ofNat j) (0 : Int32) (Int32.ofNat k)) + (own_bit (Int32.ofNat j) (1 : Int32) (Int32.ofNat k))) + (own_bit (Int32.ofNat j) (2 : Int32) (Int32.ofNat k))) + (own_bit (Int32.ofNat j) (3 : Int32) (Int32.ofNat k))))]) hown (hw _ (List.mem_of_getElem? (i := 21) rfl)) (hw _ (List.mem_of_getElem? (i := 22) rfl)) (hw _ (List.mem_of_getElem? (i := 23) rfl)) (hw _ (List.mem_of_getElem? (i := 24) rfl)) (by decide) (rmBit l Z a0 hw (Int32.ofNat j) (4 : Int32) (Int32.ofNat k) _ n0 Z21) (W := 1) (by decide) (by decide) (g := (mkF m 167 #[.val (.int a), .val (.int ee), .val (.int (Int32.ofNat j)), .val (.int (Int32.ofNat k)), .val (.ref b1), .val (.int (own_cb (own_tree (own_b (Int32.ofNat j) (0 : Int32)) (own_b (Int32.ofNat j) (1 : Int32)) (own_b (Int32.ofNat j) (2 : Int32)) (own_b (Int32.ofNat j) (3 : Int32)) (own_b (Int32.ofNat j) (4 : Int32)) (own_b (Int32.ofNat j) (5 : Int32)) (own_b (Int32.ofNat j) (6 : Int32)) (own_b (Int32.ofNat j) (7 : Int32))) k)), .unset] [(.int (Int32.ofNat k)), (.int (4 : Int32)), (.int (Int32.ofNat j)), (.int ((((own_bit (Int32.ofNat j) (0 : Int32) (Int32.ofNat k)) + (own_bit (Int32.ofNat j) (1 : Int32) (Int32.ofNat k))) + (own_bit (Int32.ofNat j) (2 : Int32) (Int32.ofNat k))) + (own_bit (Int32.ofNat j) (3 : Int32) (Int32.ofNat k))))])) rfl (by rw [hml]; rfl) (lenOf pd_5 rfl) rfl (by show 2 * 0 + _ ≤ _; exact Nat.le_of_eq rfl) (hb hby at_167) (by decide) (by decide)
                  have N27 := Fr.app N26 Nq27
                  have e27 : T27.heap = T21.heap := eq27
                  refine Go.st st27 ?_
                  show Go p e below P (T27.setTop (mkF m 170 #[.val (.int a), .val (.int ee), .val (.int (Int32.ofNat j)), .val (.int (Int32.ofNat k)), .val (.ref b1), .val (.int (own_cb (own_tree (own_b (Int32.ofNat j) (0 : Int32)) (own_b (Int32.ofNat j) (1 : Int32)) (own_b (Int32.ofNat j) (2 : Int32)) (own_b (Int32.ofNat j) (3 : Int32)) (own_b (Int32.ofNat j) (4 : Int32)) (own_b (Int32.ofNat j) (5 : Int32)) (own_b (Int32.ofNat j) (6 : Int32)) (own_b (Int32.ofNat j) (7 : Int32))) k)), .unset] [(.int (own_bit (Int32.ofNat j) (4 : Int32) (Int32.ofNat k))), (.int ((((own_bit (Int32.ofNat j) (0 : Int32) (Int32.ofNat k)) + (own_bit (Int32.ofNat j) (1 : Int32) (Int32.ofNat k))) + (own_bit (Int32.ofNat j) (2 : Int32) (Int32.ofNat k))) + (own_bit (Int32.ofNat j) (3 : Int32) (Int32.ofNat k))))]))
                  refine Go.st (fun _ kt => XS.iadd X27.here hx rfl (hb hby at_170) rfl (XS.iloadN X27.here hx rfl (hb hby at_171) rfl (XS.iconst X27.here hx rfl (hb hby at_172) (XS.iloadN X27.here hx rfl (hb hby at_173) rfl kt)))) ?_
                  show Go p e below P (T27.setTop (mkF m 174 #[.val (.int a), .val (.int ee), .val (.int (Int32.ofNat j)), .val (.int (Int32.ofNat k)), .val (.ref b1), .val (.int (own_cb (own_tree (own_b (Int32.ofNat j) (0 : Int32)) (own_b (Int32.ofNat j) (1 : Int32)) (own_b (Int32.ofNat j) (2 : Int32)) (own_b (Int32.ofNat j) (3 : Int32)) (own_b (Int32.ofNat j) (4 : Int32)) (own_b (Int32.ofNat j) (5 : Int32)) (own_b (Int32.ofNat j) (6 : Int32)) (own_b (Int32.ofNat j) (7 : Int32))) k)), .unset] [(.int (Int32.ofNat k)), (.int (5 : Int32)), (.int (Int32.ofNat j)), (.int (((((own_bit (Int32.ofNat j) (0 : Int32) (Int32.ofNat k)) + (own_bit (Int32.ofNat j) (1 : Int32) (Int32.ofNat k))) + (own_bit (Int32.ofNat j) (2 : Int32) (Int32.ofNat k))) + (own_bit (Int32.ofNat j) (3 : Int32) (Int32.ofNat k))) + (own_bit (Int32.ofNat j) (4 : Int32) (Int32.ofNat k))))]))
                  obtain ⟨_, T28, Lc28, X28, ⟨rfl, Nq28, eq28⟩, st28⟩ := callCt X27 hx hZ e27 (y := (⟨"com/example/doc_delta/docdelta/formats/IndexSetCountBeforePinLaw", "bit", "(III)I"⟩ : MethodName)) (argsL := [(.int (Int32.ofNat j)), (.int (5 : Int32)), (.int (Int32.ofNat k))]) (rest := [(.int (((((own_bit (Int32.ofNat j) (0 : Int32) (Int32.ofNat k)) + (own_bit (Int32.ofNat j) (1 : Int32) (Int32.ofNat k))) + (own_bit (Int32.ofNat j) (2 : Int32) (Int32.ofNat k))) + (own_bit (Int32.ofNat j) (3 : Int32) (Int32.ofNat k))) + (own_bit (Int32.ofNat j) (4 : Int32) (Int32.ofNat k))))]) hown (hw _ (List.mem_of_getElem? (i := 21) rfl)) (hw _ (List.mem_of_getElem? (i := 22) rfl)) (hw _ (List.mem_of_getElem? (i := 23) rfl)) (hw _ (List.mem_of_getElem? (i := 24) rfl)) (by decide) (rmBit l Z a0 hw (Int32.ofNat j) (5 : Int32) (Int32.ofNat k) _ n0 Z21) (W := 1) (by decide) (by decide) (g := (mkF m 174 #[.val (.int a), .val (.int ee), .val (.int (Int32.ofNat j)), .val (.int (Int32.ofNat k)), .val (.ref b1), .val (.int (own_cb (own_tree (own_b (Int32.ofNat j) (0 : Int32)) (own_b (Int32.ofNat j) (1 : Int32)) (own_b (Int32.ofNat j) (2 : Int32)) (own_b (Int32.ofNat j) (3 : Int32)) (own_b (Int32.ofNat j) (4 : Int32)) (own_b (Int32.ofNat j) (5 : Int32)) (own_b (Int32.ofNat j) (6 : Int32)) (own_b (Int32.ofNat j) (7 : Int32))) k)), .unset] [(.int (Int32.ofNat k)), (.int (5 : Int32)), (.int (Int32.ofNat j)), (.int (((((own_bit (Int32.ofNat j) (0 : Int32) (Int32.ofNat k)) + (own_bit (Int32.ofNat j) (1 : Int32) (Int32.ofNat k))) + (own_bit (Int32.ofNat j) (2 : Int32) (Int32.ofNat k))) + (own_bit (Int32.ofNat j) (3 : Int32) (Int32.ofNat k))) + (own_bit (Int32.ofNat j) (4 : Int32) (Int32.ofNat k))))])) rfl (by rw [hml]; rfl) (lenOf pd_5 rfl) rfl (by show 2 * 0 + _ ≤ _; exact Nat.le_of_eq rfl) (hb hby at_174) (by decide) (by decide)
                  have N28 := Fr.app N27 Nq28
                  have e28 : T28.heap = T21.heap := eq28
                  refine Go.st st28 ?_
                  show Go p e below P (T28.setTop (mkF m 177 #[.val (.int a), .val (.int ee), .val (.int (Int32.ofNat j)), .val (.int (Int32.ofNat k)), .val (.ref b1), .val (.int (own_cb (own_tree (own_b (Int32.ofNat j) (0 : Int32)) (own_b (Int32.ofNat j) (1 : Int32)) (own_b (Int32.ofNat j) (2 : Int32)) (own_b (Int32.ofNat j) (3 : Int32)) (own_b (Int32.ofNat j) (4 : Int32)) (own_b (Int32.ofNat j) (5 : Int32)) (own_b (Int32.ofNat j) (6 : Int32)) (own_b (Int32.ofNat j) (7 : Int32))) k)), .unset] [(.int (own_bit (Int32.ofNat j) (5 : Int32) (Int32.ofNat k))), (.int (((((own_bit (Int32.ofNat j) (0 : Int32) (Int32.ofNat k)) + (own_bit (Int32.ofNat j) (1 : Int32) (Int32.ofNat k))) + (own_bit (Int32.ofNat j) (2 : Int32) (Int32.ofNat k))) + (own_bit (Int32.ofNat j) (3 : Int32) (Int32.ofNat k))) + (own_bit (Int32.ofNat j) (4 : Int32) (Int32.ofNat k))))]))
                  refine Go.st (fun _ kt => XS.iadd X28.here hx rfl (hb hby at_177) rfl (XS.iloadN X28.here hx rfl (hb hby at_178) rfl (XS.bipush X28.here hx rfl (hb hby at_179) (XS.iloadN X28.here hx rfl (hb hby at_181) rfl kt)))) ?_
                  show Go p e below P (T28.setTop (mkF m 182 #[.val (.int a), .val (.int ee), .val (.int (Int32.ofNat j)), .val (.int (Int32.ofNat k)), .val (.ref b1), .val (.int (own_cb (own_tree (own_b (Int32.ofNat j) (0 : Int32)) (own_b (Int32.ofNat j) (1 : Int32)) (own_b (Int32.ofNat j) (2 : Int32)) (own_b (Int32.ofNat j) (3 : Int32)) (own_b (Int32.ofNat j) (4 : Int32)) (own_b (Int32.ofNat j) (5 : Int32)) (own_b (Int32.ofNat j) (6 : Int32)) (own_b (Int32.ofNat j) (7 : Int32))) k)), .unset] [(.int (Int32.ofNat k)), (.int (6 : Int32)), (.int (Int32.ofNat j)), (.int ((((((own_bit (Int32.ofNat j) (0 : Int32) (Int32.ofNat k)) + (own_bit (Int32.ofNat j) (1 : Int32) (Int32.ofNat k))) + (own_bit (Int32.ofNat j) (2 : Int32) (Int32.ofNat k))) + (own_bit (Int32.ofNat j) (3 : Int32) (Int32.ofNat k))) + (own_bit (Int32.ofNat j) (4 : Int32) (Int32.ofNat k))) + (own_bit (Int32.ofNat j) (5 : Int32) (Int32.ofNat k))))]))
                  obtain ⟨_, T29, Lc29, X29, ⟨rfl, Nq29, eq29⟩, st29⟩ := callCt X28 hx hZ e28 (y := (⟨"com/example/doc_delta/docdelta/formats/IndexSetCountBeforePinLaw", "bit", "(III)I"⟩ : MethodName)) (argsL := [(.int (Int32.ofNat j)), (.int (6 : Int32)), (.int (Int32.ofNat k))]) (rest := [(.int ((((((own_bit (Int32.ofNat j) (0 : Int32) (Int32.ofNat k)) + (own_bit (Int32.ofNat j) (1 : Int32) (Int32.ofNat k))) + (own_bit (Int32.ofNat j) (2 : Int32) (Int32.ofNat k))) + (own_bit (Int32.ofNat j) (3 : Int32) (Int32.ofNat k))) + (own_bit (Int32.ofNat j) (4 : Int32) (Int32.ofNat k))) + (own_bit (Int32.ofNat j) (5 : Int32) (Int32.ofNat k))))]) hown (hw _ (List.mem_of_getElem? (i := 21) rfl)) (hw _ (List.mem_of_getElem? (i := 22) rfl)) (hw _ (List.mem_of_getElem? (i := 23) rfl)) (hw _ (List.mem_of_getElem? (i := 24) rfl)) (by decide) (rmBit l Z a0 hw (Int32.ofNat j) (6 : Int32) (Int32.ofNat k) _ n0 Z21) (W := 1) (by decide) (by decide) (g := (mkF m 182 #[.val (.int a), .val (.int ee), .val (.int (Int32.ofNat j)), .val (.int (Int32.ofNat k)), .val (.ref b1), .val (.int (own_cb (own_tree (own_b (Int32.ofNat j) (0 : Int32)) (own_b (Int32.ofNat j) (1 : Int32)) (own_b (Int32.ofNat j) (2 : Int32)) (own_b (Int32.ofNat j) (3 : Int32)) (own_b (Int32.ofNat j) (4 : Int32)) (own_b (Int32.ofNat j) (5 : Int32)) (own_b (Int32.ofNat j) (6 : Int32)) (own_b (Int32.ofNat j) (7 : Int32))) k)), .unset] [(.int (Int32.ofNat k)), (.int (6 : Int32)), (.int (Int32.ofNat j)), (.int ((((((own_bit (Int32.ofNat j) (0 : Int32) (Int32.ofNat k)) + (own_bit (Int32.ofNat j) (1 : Int32) (Int32.ofNat k))) + (own_bit (Int32.ofNat j) (2 : Int32) (Int32.ofNat k))) + (own_bit (Int32.ofNat j) (3 : Int32) (Int32.ofNat k))) + (own_bit (Int32.ofNat j) (4 : Int32) (Int32.ofNat k))) + (own_bit (Int32.ofNat j) (5 : Int32) (Int32.ofNat k))))])) rfl (by rw [hml]; rfl) (lenOf pd_5 rfl) rfl (by show 2 * 0 + _ ≤ _; exact Nat.le_of_eq rfl) (hb hby at_182) (by decide) (by decide)
                  have N29 := Fr.app N28 Nq29
                  have e29 : T29.heap = T21.heap := eq29
                  refine Go.st st29 ?_
                  show Go p e below P (T29.setTop (mkF m 185 #[.val (.int a), .val (.int ee), .val (.int (Int32.ofNat j)), .val (.int (Int32.ofNat k)), .val (.ref b1), .val (.int (own_cb (own_tree (own_b (Int32.ofNat j) (0 : Int32)) (own_b (Int32.ofNat j) (1 : Int32)) (own_b (Int32.ofNat j) (2 : Int32)) (own_b (Int32.ofNat j) (3 : Int32)) (own_b (Int32.ofNat j) (4 : Int32)) (own_b (Int32.ofNat j) (5 : Int32)) (own_b (Int32.ofNat j) (6 : Int32)) (own_b (Int32.ofNat j) (7 : Int32))) k)), .unset] [(.int (own_bit (Int32.ofNat j) (6 : Int32) (Int32.ofNat k))), (.int ((((((own_bit (Int32.ofNat j) (0 : Int32) (Int32.ofNat k)) + (own_bit (Int32.ofNat j) (1 : Int32) (Int32.ofNat k))) + (own_bit (Int32.ofNat j) (2 : Int32) (Int32.ofNat k))) + (own_bit (Int32.ofNat j) (3 : Int32) (Int32.ofNat k))) + (own_bit (Int32.ofNat j) (4 : Int32) (Int32.ofNat k))) + (own_bit (Int32.ofNat j) (5 : Int32) (Int32.ofNat k))))]))
                  refine Go.st (fun _ kt => XS.iadd X29.here hx rfl (hb hby at_185) rfl (XS.iloadN X29.here hx rfl (hb hby at_186) rfl (XS.bipush X29.here hx rfl (hb hby at_187) (XS.iloadN X29.here hx rfl (hb hby at_189) rfl kt)))) ?_
                  show Go p e below P (T29.setTop (mkF m 190 #[.val (.int a), .val (.int ee), .val (.int (Int32.ofNat j)), .val (.int (Int32.ofNat k)), .val (.ref b1), .val (.int (own_cb (own_tree (own_b (Int32.ofNat j) (0 : Int32)) (own_b (Int32.ofNat j) (1 : Int32)) (own_b (Int32.ofNat j) (2 : Int32)) (own_b (Int32.ofNat j) (3 : Int32)) (own_b (Int32.ofNat j) (4 : Int32)) (own_b (Int32.ofNat j) (5 : Int32)) (own_b (Int32.ofNat j) (6 : Int32)) (own_b (Int32.ofNat j) (7 : Int32))) k)), .unset] [(.int (Int32.ofNat k)), (.int (7 : Int32)), (.int (Int32.ofNat j)), (.int (((((((own_bit (Int32.ofNat j) (0 : Int32) (Int32.ofNat k)) + (own_bit (Int32.ofNat j) (1 : Int32) (Int32.ofNat k))) + (own_bit (Int32.ofNat j) (2 : Int32) (Int32.ofNat k))) + (own_bit (Int32.ofNat j) (3 : Int32) (Int32.ofNat k))) + (own_bit (Int32.ofNat j) (4 : Int32) (Int32.ofNat k))) + (own_bit (Int32.ofNat j) (5 : Int32) (Int32.ofNat k))) + (own_bit (Int32.ofNat j) (6 : Int32) (Int32.ofNat k))))]))
                  obtain ⟨_, T30, Lc30, X30, ⟨rfl, Nq30, eq30⟩, st30⟩ := callCt X29 hx hZ e29 (y := (⟨"com/example/doc_delta/docdelta/formats/IndexSetCountBeforePinLaw", "bit", "(III)I"⟩ : MethodName)) (argsL := [(.int (Int32.ofNat j)), (.int (7 : Int32)), (.int (Int32.ofNat k))]) (rest := [(.int (((((((own_bit (Int32.ofNat j) (0 : Int32) (Int32.ofNat k)) + (own_bit (Int32.ofNat j) (1 : Int32) (Int32.ofNat k))) + (own_bit (Int32.ofNat j) (2 : Int32) (Int32.ofNat k))) + (own_bit (Int32.ofNat j) (3 : Int32) (Int32.ofNat k))) + (own_bit (Int32.ofNat j) (4 : Int32) (Int32.ofNat k))) + (own_bit (Int32.ofNat j) (5 : Int32) (Int32.ofNat k))) + (own_bit (Int32.ofNat j) (6 : Int32) (Int32.ofNat k))))]) hown (hw _ (List.mem_of_getElem? (i := 21) rfl)) (hw _ (List.mem_of_getElem? (i := 22) rfl)) (hw _ (List.mem_of_getElem? (i := 23) rfl)) (hw _ (List.mem_of_getElem? (i := 24) rfl)) (by decide) (rmBit l Z a0 hw (Int32.ofNat j) (7 : Int32) (Int32.ofNat k) _ n0 Z21) (W := 1) (by decide) (by decide) (g := (mkF m 190 #[.val (.int a), .val (.int ee), .val (.int (Int32.ofNat j)), .val (.int (Int32.ofNat k)), .val (.ref b1), .val (.int (own_cb (own_tree (own_b (Int32.ofNat j) (0 : Int32)) (own_b (Int32.ofNat j) (1 : Int32)) (own_b (Int32.ofNat j) (2 : Int32)) (own_b (Int32.ofNat j) (3 : Int32)) (own_b (Int32.ofNat j) (4 : Int32)) (own_b (Int32.ofNat j) (5 : Int32)) (own_b (Int32.ofNat j) (6 : Int32)) (own_b (Int32.ofNat j) (7 : Int32))) k)), .unset] [(.int (Int32.ofNat k)), (.int (7 : Int32)), (.int (Int32.ofNat j)), (.int (((((((own_bit (Int32.ofNat j) (0 : Int32) (Int32.ofNat k)) + (own_bit (Int32.ofNat j) (1 : Int32) (Int32.ofNat k))) + (own_bit (Int32.ofNat j) (2 : Int32) (Int32.ofNat k))) + (own_bit (Int32.ofNat j) (3 : Int32) (Int32.ofNat k))) + (own_bit (Int32.ofNat j) (4 : Int32) (Int32.ofNat k))) + (own_bit (Int32.ofNat j) (5 : Int32) (Int32.ofNat k))) + (own_bit (Int32.ofNat j) (6 : Int32) (Int32.ofNat k))))])) rfl (by rw [hml]; rfl) (lenOf pd_5 rfl) rfl (by show 2 * 0 + _ ≤ _; exact Nat.le_of_eq rfl) (hb hby at_190) (by decide) (by decide)
                  have N30 := Fr.app N29 Nq30
                  have e30 : T30.heap = T21.heap := eq30
                  refine Go.st st30 ?_
                  show Go p e below P (T30.setTop (mkF m 193 #[.val (.int a), .val (.int ee), .val (.int (Int32.ofNat j)), .val (.int (Int32.ofNat k)), .val (.ref b1), .val (.int (own_cb (own_tree (own_b (Int32.ofNat j) (0 : Int32)) (own_b (Int32.ofNat j) (1 : Int32)) (own_b (Int32.ofNat j) (2 : Int32)) (own_b (Int32.ofNat j) (3 : Int32)) (own_b (Int32.ofNat j) (4 : Int32)) (own_b (Int32.ofNat j) (5 : Int32)) (own_b (Int32.ofNat j) (6 : Int32)) (own_b (Int32.ofNat j) (7 : Int32))) k)), .unset] [(.int (own_bit (Int32.ofNat j) (7 : Int32) (Int32.ofNat k))), (.int (((((((own_bit (Int32.ofNat j) (0 : Int32) (Int32.ofNat k)) + (own_bit (Int32.ofNat j) (1 : Int32) (Int32.ofNat k))) + (own_bit (Int32.ofNat j) (2 : Int32) (Int32.ofNat k))) + (own_bit (Int32.ofNat j) (3 : Int32) (Int32.ofNat k))) + (own_bit (Int32.ofNat j) (4 : Int32) (Int32.ofNat k))) + (own_bit (Int32.ofNat j) (5 : Int32) (Int32.ofNat k))) + (own_bit (Int32.ofNat j) (6 : Int32) (Int32.ofNat k))))]))
                  refine Go.st (fun _ kt => XS.iadd X30.here hx rfl (hb hby at_193) rfl (XS.istore X30.here hx rfl (hb hby at_194) rfl (l' := #[.val (.int a), .val (.int ee), .val (.int (Int32.ofNat j)), .val (.int (Int32.ofNat k)), .val (.ref b1), .val (.int (own_cb (own_tree (own_b (Int32.ofNat j) (0 : Int32)) (own_b (Int32.ofNat j) (1 : Int32)) (own_b (Int32.ofNat j) (2 : Int32)) (own_b (Int32.ofNat j) (3 : Int32)) (own_b (Int32.ofNat j) (4 : Int32)) (own_b (Int32.ofNat j) (5 : Int32)) (own_b (Int32.ofNat j) (6 : Int32)) (own_b (Int32.ofNat j) (7 : Int32))) k)), .val (.int ((((((((own_bit (Int32.ofNat j) (0 : Int32) (Int32.ofNat k)) + (own_bit (Int32.ofNat j) (1 : Int32) (Int32.ofNat k))) + (own_bit (Int32.ofNat j) (2 : Int32) (Int32.ofNat k))) + (own_bit (Int32.ofNat j) (3 : Int32) (Int32.ofNat k))) + (own_bit (Int32.ofNat j) (4 : Int32) (Int32.ofNat k))) + (own_bit (Int32.ofNat j) (5 : Int32) (Int32.ofNat k))) + (own_bit (Int32.ofNat j) (6 : Int32) (Int32.ofNat k))) + (own_bit (Int32.ofNat j) (7 : Int32) (Int32.ofNat k))))]) rfl (XS.iload X30.here hx rfl (hb hby at_196) rfl (XS.iload X30.here hx rfl (hb hby at_198) rfl (XS.icmpNo X30.here hx rfl (hb hby at_200) rfl (teq (own_fin j k hk9)).2 (XS.iconst X30.here hx rfl (hb hby at_203) (XS.goto X30.here hx rfl (pc0 := 204) (pc' := 208) rfl (hb hby at_204) (by decide) (by decide) kt))))))) ?_
                  show Go p e below P (T30.setTop (mkF m 208 #[.val (.int a), .val (.int ee), .val (.int (Int32.ofNat j)), .val (.int (Int32.ofNat k)), .val (.ref b1), .val (.int (own_cb (own_tree (own_b (Int32.ofNat j) (0 : Int32)) (own_b (Int32.ofNat j) (1 : Int32)) (own_b (Int32.ofNat j) (2 : Int32)) (own_b (Int32.ofNat j) (3 : Int32)) (own_b (Int32.ofNat j) (4 : Int32)) (own_b (Int32.ofNat j) (5 : Int32)) (own_b (Int32.ofNat j) (6 : Int32)) (own_b (Int32.ofNat j) (7 : Int32))) k)), .val (.int ((((((((own_bit (Int32.ofNat j) (0 : Int32) (Int32.ofNat k)) + (own_bit (Int32.ofNat j) (1 : Int32) (Int32.ofNat k))) + (own_bit (Int32.ofNat j) (2 : Int32) (Int32.ofNat k))) + (own_bit (Int32.ofNat j) (3 : Int32) (Int32.ofNat k))) + (own_bit (Int32.ofNat j) (4 : Int32) (Int32.ofNat k))) + (own_bit (Int32.ofNat j) (5 : Int32) (Int32.ofNat k))) + (own_bit (Int32.ofNat j) (6 : Int32) (Int32.ofNat k))) + (own_bit (Int32.ofNat j) (7 : Int32) (Int32.ofNat k))))] [(.int (1 : Int32))]))
                  exact goN X30 hx (t := .boolean) hret (by simp) hlk (hb hby at_208) hP (by decide) (by decide) ⟨rfl, N30⟩
                by_cases br31 : ((Int32.ofNat j) &&& (128 : Int32)) = (0 : Int32)
                · refine Go.st (fun _ kt => XS.ifYes X19.here hx rfl (pc0 := 119) (pc' := 129) rfl (hb hby at_119) rfl ((if0 _ _).trans (teq br31).1) (by decide) (by decide) kt) ?_
                  show Go p e below P (T19.setTop (mkF m 129 #[.val (.int a), .val (.int ee), .val (.int (Int32.ofNat j)), .val (.int (Int32.ofNat k)), .val (.ref b1), .unset, .unset] []))
                  exact cut20 _ _  (X19.more (by decide) (by decide)) N19 Z19 (by rw [own_b0 (p := (7 : Int32)) hj8 (k := 7) (by decide) (by decide) (by decide) br31]; exact fc19_0) 
                · refine Go.st (fun _ kt => XS.ifNo X19.here hx rfl (hb hby at_119) rfl ((if0 _ _).trans (feq br31).1) kt) ?_
                  show Go p e below P (T19.setTop (mkF m 122 #[.val (.int a), .val (.int ee), .val (.int (Int32.ofNat j)), .val (.int (Int32.ofNat k)), .val (.ref b1), .unset, .unset] []))
                  refine Go.st (fun _ kt => XS.aload X19.here hx rfl (hb hby at_122) rfl rfl (XS.bipush X19.here hx rfl (hb hby at_124) kt)) ?_
                  show Go p e below P (T19.setTop (mkF m 126 #[.val (.int a), .val (.int ee), .val (.int (Int32.ofNat j)), .val (.int (Int32.ofNat k)), .val (.ref b1), .unset, .unset] [(.int (7 : Int32)), (.ref b1)]))
                  obtain ⟨_, T32, Lc32, X32, ⟨rfl, Nq32, K32, IS32⟩, st32⟩ := callCv X19 hx hZ rfl (y := (⟨"com/example/doc_delta/docdelta/formats/IndexSet", "add", "(I)V"⟩ : MethodName)) (a := b1) (argsL := [(.int (7 : Int32))]) (rest := []) hown (hw _ (List.mem_of_getElem? (i := 25) rfl)) (hw _ (List.mem_of_getElem? (i := 26) rfl)) (hw _ (List.mem_of_getElem? (i := 28) rfl)) (hw _ (List.mem_of_getElem? (i := 27) rfl)) (hw _ (List.mem_of_getElem? (i := 3) rfl)) (hw _ (List.mem_of_getElem? (i := 29) rfl)) (by decide) (by obtain ⟨_, _, _, q, _⟩ := fc19_0; exact q) (rmAdd7 l Z a0 hw b1 _ (own_tree (own_b (Int32.ofNat j) (0 : Int32)) (own_b (Int32.ofNat j) (1 : Int32)) (own_b (Int32.ofNat j) (2 : Int32)) (own_b (Int32.ofNat j) (3 : Int32)) (own_b (Int32.ofNat j) (4 : Int32)) (own_b (Int32.ofNat j) (5 : Int32)) (own_b (Int32.ofNat j) (6 : Int32)) 1) _ n0 Z19 fc19_0 (own_add7_eq _ _ _ _ _ _ _)) (W := 0) (by decide) (by decide) (g := (mkF m 126 #[.val (.int a), .val (.int ee), .val (.int (Int32.ofNat j)), .val (.int (Int32.ofNat k)), .val (.ref b1), .unset, .unset] [(.int (7 : Int32)), (.ref b1)])) rfl (by rw [hml]; rfl) (lenOf pd_3 rfl) rfl (by show 2 * 0 + _ ≤ _; exact Nat.le_of_eq rfl) (hb hby at_126) (by decide) (by decide)
                  have N32 := Fr.app N19 Nq32
                  have Z33 := Nat.le_trans Z19 K32
                  refine Go.st st32 ?_
                  show Go p e below P (T32.setTop (mkF m 129 #[.val (.int a), .val (.int ee), .val (.int (Int32.ofNat j)), .val (.int (Int32.ofNat k)), .val (.ref b1), .unset, .unset] []))
                  exact cut20 _ _  (X32.more (by decide) (by decide)) N32 Z33 (by rw [own_b1 (p := (7 : Int32)) hj8 (k := 7) (by decide) (by decide) (by decide) br31]; exact IS32) 
              by_cases br34 : ((Int32.ofNat j) &&& (64 : Int32)) = (0 : Int32)
              · refine Go.st (fun _ kt => XS.ifYes X17.here hx rfl (pc0 := 104) (pc' := 114) rfl (hb hby at_104) rfl ((if0 _ _).trans (teq br34).1) (by decide) (by decide) kt) ?_
                show Go p e below P (T17.setTop (mkF m 114 #[.val (.int a), .val (.int ee), .val (.int (Int32.ofNat j)), .val (.int (Int32.ofNat k)), .val (.ref b1), .unset, .unset] []))
                exact cut18 _ _  (X17.more (by decide) (by decide)) N17 Z17 (by rw [own_b0 (p := (6 : Int32)) hj8 (k := 6) (by decide) (by decide) (by decide) br34]; exact fc17_0) 
              · refine Go.st (fun _ kt => XS.ifNo X17.here hx rfl (hb hby at_104) rfl ((if0 _ _).trans (feq br34).1) kt) ?_
                show Go p e below P (T17.setTop (mkF m 107 #[.val (.int a), .val (.int ee), .val (.int (Int32.ofNat j)), .val (.int (Int32.ofNat k)), .val (.ref b1), .unset, .unset] []))
                refine Go.st (fun _ kt => XS.aload X17.here hx rfl (hb hby at_107) rfl rfl (XS.bipush X17.here hx rfl (hb hby at_109) kt)) ?_
                show Go p e below P (T17.setTop (mkF m 111 #[.val (.int a), .val (.int ee), .val (.int (Int32.ofNat j)), .val (.int (Int32.ofNat k)), .val (.ref b1), .unset, .unset] [(.int (6 : Int32)), (.ref b1)]))
                obtain ⟨_, T35, Lc35, X35, ⟨rfl, Nq35, K35, IS35⟩, st35⟩ := callCv X17 hx hZ rfl (y := (⟨"com/example/doc_delta/docdelta/formats/IndexSet", "add", "(I)V"⟩ : MethodName)) (a := b1) (argsL := [(.int (6 : Int32))]) (rest := []) hown (hw _ (List.mem_of_getElem? (i := 25) rfl)) (hw _ (List.mem_of_getElem? (i := 26) rfl)) (hw _ (List.mem_of_getElem? (i := 28) rfl)) (hw _ (List.mem_of_getElem? (i := 27) rfl)) (hw _ (List.mem_of_getElem? (i := 3) rfl)) (hw _ (List.mem_of_getElem? (i := 29) rfl)) (by decide) (by obtain ⟨_, _, _, q, _⟩ := fc17_0; exact q) (rmAdd6 l Z a0 hw b1 _ (own_tree (own_b (Int32.ofNat j) (0 : Int32)) (own_b (Int32.ofNat j) (1 : Int32)) (own_b (Int32.ofNat j) (2 : Int32)) (own_b (Int32.ofNat j) (3 : Int32)) (own_b (Int32.ofNat j) (4 : Int32)) (own_b (Int32.ofNat j) (5 : Int32)) 1 0) _ n0 Z17 fc17_0 (own_add6_eq _ _ _ _ _ _)) (W := 0) (by decide) (by decide) (g := (mkF m 111 #[.val (.int a), .val (.int ee), .val (.int (Int32.ofNat j)), .val (.int (Int32.ofNat k)), .val (.ref b1), .unset, .unset] [(.int (6 : Int32)), (.ref b1)])) rfl (by rw [hml]; rfl) (lenOf pd_3 rfl) rfl (by show 2 * 0 + _ ≤ _; exact Nat.le_of_eq rfl) (hb hby at_111) (by decide) (by decide)
                have N35 := Fr.app N17 Nq35
                have Z36 := Nat.le_trans Z17 K35
                refine Go.st st35 ?_
                show Go p e below P (T35.setTop (mkF m 114 #[.val (.int a), .val (.int ee), .val (.int (Int32.ofNat j)), .val (.int (Int32.ofNat k)), .val (.ref b1), .unset, .unset] []))
                exact cut18 _ _  (X35.more (by decide) (by decide)) N35 Z36 (by rw [own_b1 (p := (6 : Int32)) hj8 (k := 6) (by decide) (by decide) (by decide) br34]; exact IS35) 
            by_cases br37 : ((Int32.ofNat j) &&& (32 : Int32)) = (0 : Int32)
            · refine Go.st (fun _ kt => XS.ifYes X15.here hx rfl (pc0 := 91) (pc' := 100) rfl (hb hby at_91) rfl ((if0 _ _).trans (teq br37).1) (by decide) (by decide) kt) ?_
              show Go p e below P (T15.setTop (mkF m 100 #[.val (.int a), .val (.int ee), .val (.int (Int32.ofNat j)), .val (.int (Int32.ofNat k)), .val (.ref b1), .unset, .unset] []))
              exact cut16 _ _  (X15.more (by decide) (by decide)) N15 Z15 (by rw [own_b0 (p := (5 : Int32)) hj8 (k := 5) (by decide) (by decide) (by decide) br37]; exact fc15_0) 
            · refine Go.st (fun _ kt => XS.ifNo X15.here hx rfl (hb hby at_91) rfl ((if0 _ _).trans (feq br37).1) kt) ?_
              show Go p e below P (T15.setTop (mkF m 94 #[.val (.int a), .val (.int ee), .val (.int (Int32.ofNat j)), .val (.int (Int32.ofNat k)), .val (.ref b1), .unset, .unset] []))
              refine Go.st (fun _ kt => XS.aload X15.here hx rfl (hb hby at_94) rfl rfl (XS.iconst X15.here hx rfl (hb hby at_96) kt)) ?_
              show Go p e below P (T15.setTop (mkF m 97 #[.val (.int a), .val (.int ee), .val (.int (Int32.ofNat j)), .val (.int (Int32.ofNat k)), .val (.ref b1), .unset, .unset] [(.int (5 : Int32)), (.ref b1)]))
              obtain ⟨_, T38, Lc38, X38, ⟨rfl, Nq38, K38, IS38⟩, st38⟩ := callCv X15 hx hZ rfl (y := (⟨"com/example/doc_delta/docdelta/formats/IndexSet", "add", "(I)V"⟩ : MethodName)) (a := b1) (argsL := [(.int (5 : Int32))]) (rest := []) hown (hw _ (List.mem_of_getElem? (i := 25) rfl)) (hw _ (List.mem_of_getElem? (i := 26) rfl)) (hw _ (List.mem_of_getElem? (i := 28) rfl)) (hw _ (List.mem_of_getElem? (i := 27) rfl)) (hw _ (List.mem_of_getElem? (i := 3) rfl)) (hw _ (List.mem_of_getElem? (i := 29) rfl)) (by decide) (by obtain ⟨_, _, _, q, _⟩ := fc15_0; exact q) (rmAdd5 l Z a0 hw b1 _ (own_tree (own_b (Int32.ofNat j) (0 : Int32)) (own_b (Int32.ofNat j) (1 : Int32)) (own_b (Int32.ofNat j) (2 : Int32)) (own_b (Int32.ofNat j) (3 : Int32)) (own_b (Int32.ofNat j) (4 : Int32)) 1 0 0) _ n0 Z15 fc15_0 (own_add5_eq _ _ _ _ _)) (W := 0) (by decide) (by decide) (g := (mkF m 97 #[.val (.int a), .val (.int ee), .val (.int (Int32.ofNat j)), .val (.int (Int32.ofNat k)), .val (.ref b1), .unset, .unset] [(.int (5 : Int32)), (.ref b1)])) rfl (by rw [hml]; rfl) (lenOf pd_3 rfl) rfl (by show 2 * 0 + _ ≤ _; exact Nat.le_of_eq rfl) (hb hby at_97) (by decide) (by decide)
              have N38 := Fr.app N15 Nq38
              have Z39 := Nat.le_trans Z15 K38
              refine Go.st st38 ?_
              show Go p e below P (T38.setTop (mkF m 100 #[.val (.int a), .val (.int ee), .val (.int (Int32.ofNat j)), .val (.int (Int32.ofNat k)), .val (.ref b1), .unset, .unset] []))
              exact cut16 _ _  (X38.more (by decide) (by decide)) N38 Z39 (by rw [own_b1 (p := (5 : Int32)) hj8 (k := 5) (by decide) (by decide) (by decide) br37]; exact IS38) 
          by_cases br40 : ((Int32.ofNat j) &&& (16 : Int32)) = (0 : Int32)
          · refine Go.st (fun _ kt => XS.ifYes X13.here hx rfl (pc0 := 78) (pc' := 87) rfl (hb hby at_78) rfl ((if0 _ _).trans (teq br40).1) (by decide) (by decide) kt) ?_
            show Go p e below P (T13.setTop (mkF m 87 #[.val (.int a), .val (.int ee), .val (.int (Int32.ofNat j)), .val (.int (Int32.ofNat k)), .val (.ref b1), .unset, .unset] []))
            exact cut14 _ _  (X13.more (by decide) (by decide)) N13 Z13 (by rw [own_b0 (p := (4 : Int32)) hj8 (k := 4) (by decide) (by decide) (by decide) br40]; exact fc13_0) 
          · refine Go.st (fun _ kt => XS.ifNo X13.here hx rfl (hb hby at_78) rfl ((if0 _ _).trans (feq br40).1) kt) ?_
            show Go p e below P (T13.setTop (mkF m 81 #[.val (.int a), .val (.int ee), .val (.int (Int32.ofNat j)), .val (.int (Int32.ofNat k)), .val (.ref b1), .unset, .unset] []))
            refine Go.st (fun _ kt => XS.aload X13.here hx rfl (hb hby at_81) rfl rfl (XS.iconst X13.here hx rfl (hb hby at_83) kt)) ?_
            show Go p e below P (T13.setTop (mkF m 84 #[.val (.int a), .val (.int ee), .val (.int (Int32.ofNat j)), .val (.int (Int32.ofNat k)), .val (.ref b1), .unset, .unset] [(.int (4 : Int32)), (.ref b1)]))
            obtain ⟨_, T41, Lc41, X41, ⟨rfl, Nq41, K41, IS41⟩, st41⟩ := callCv X13 hx hZ rfl (y := (⟨"com/example/doc_delta/docdelta/formats/IndexSet", "add", "(I)V"⟩ : MethodName)) (a := b1) (argsL := [(.int (4 : Int32))]) (rest := []) hown (hw _ (List.mem_of_getElem? (i := 25) rfl)) (hw _ (List.mem_of_getElem? (i := 26) rfl)) (hw _ (List.mem_of_getElem? (i := 28) rfl)) (hw _ (List.mem_of_getElem? (i := 27) rfl)) (hw _ (List.mem_of_getElem? (i := 3) rfl)) (hw _ (List.mem_of_getElem? (i := 29) rfl)) (by decide) (by obtain ⟨_, _, _, q, _⟩ := fc13_0; exact q) (rmAdd4 l Z a0 hw b1 _ (own_tree (own_b (Int32.ofNat j) (0 : Int32)) (own_b (Int32.ofNat j) (1 : Int32)) (own_b (Int32.ofNat j) (2 : Int32)) (own_b (Int32.ofNat j) (3 : Int32)) 1 0 0 0) _ n0 Z13 fc13_0 (own_add4_eq _ _ _ _)) (W := 0) (by decide) (by decide) (g := (mkF m 84 #[.val (.int a), .val (.int ee), .val (.int (Int32.ofNat j)), .val (.int (Int32.ofNat k)), .val (.ref b1), .unset, .unset] [(.int (4 : Int32)), (.ref b1)])) rfl (by rw [hml]; rfl) (lenOf pd_3 rfl) rfl (by show 2 * 0 + _ ≤ _; exact Nat.le_of_eq rfl) (hb hby at_84) (by decide) (by decide)
            have N41 := Fr.app N13 Nq41
            have Z42 := Nat.le_trans Z13 K41
            refine Go.st st41 ?_
            show Go p e below P (T41.setTop (mkF m 87 #[.val (.int a), .val (.int ee), .val (.int (Int32.ofNat j)), .val (.int (Int32.ofNat k)), .val (.ref b1), .unset, .unset] []))
            exact cut14 _ _  (X41.more (by decide) (by decide)) N41 Z42 (by rw [own_b1 (p := (4 : Int32)) hj8 (k := 4) (by decide) (by decide) (by decide) br40]; exact IS41) 
        by_cases br43 : ((Int32.ofNat j) &&& (8 : Int32)) = (0 : Int32)
        · refine Go.st (fun _ kt => XS.ifYes X11.here hx rfl (pc0 := 65) (pc' := 74) rfl (hb hby at_65) rfl ((if0 _ _).trans (teq br43).1) (by decide) (by decide) kt) ?_
          show Go p e below P (T11.setTop (mkF m 74 #[.val (.int a), .val (.int ee), .val (.int (Int32.ofNat j)), .val (.int (Int32.ofNat k)), .val (.ref b1), .unset, .unset] []))
          exact cut12 _ _  (X11.more (by decide) (by decide)) N11 Z11 (by rw [own_b0 (p := (3 : Int32)) hj8 (k := 3) (by decide) (by decide) (by decide) br43]; exact fc11_0) 
        · refine Go.st (fun _ kt => XS.ifNo X11.here hx rfl (hb hby at_65) rfl ((if0 _ _).trans (feq br43).1) kt) ?_
          show Go p e below P (T11.setTop (mkF m 68 #[.val (.int a), .val (.int ee), .val (.int (Int32.ofNat j)), .val (.int (Int32.ofNat k)), .val (.ref b1), .unset, .unset] []))
          refine Go.st (fun _ kt => XS.aload X11.here hx rfl (hb hby at_68) rfl rfl (XS.iconst X11.here hx rfl (hb hby at_70) kt)) ?_
          show Go p e below P (T11.setTop (mkF m 71 #[.val (.int a), .val (.int ee), .val (.int (Int32.ofNat j)), .val (.int (Int32.ofNat k)), .val (.ref b1), .unset, .unset] [(.int (3 : Int32)), (.ref b1)]))
          obtain ⟨_, T44, Lc44, X44, ⟨rfl, Nq44, K44, IS44⟩, st44⟩ := callCv X11 hx hZ rfl (y := (⟨"com/example/doc_delta/docdelta/formats/IndexSet", "add", "(I)V"⟩ : MethodName)) (a := b1) (argsL := [(.int (3 : Int32))]) (rest := []) hown (hw _ (List.mem_of_getElem? (i := 25) rfl)) (hw _ (List.mem_of_getElem? (i := 26) rfl)) (hw _ (List.mem_of_getElem? (i := 28) rfl)) (hw _ (List.mem_of_getElem? (i := 27) rfl)) (hw _ (List.mem_of_getElem? (i := 3) rfl)) (hw _ (List.mem_of_getElem? (i := 29) rfl)) (by decide) (by obtain ⟨_, _, _, q, _⟩ := fc11_0; exact q) (rmAdd3 l Z a0 hw b1 _ (own_tree (own_b (Int32.ofNat j) (0 : Int32)) (own_b (Int32.ofNat j) (1 : Int32)) (own_b (Int32.ofNat j) (2 : Int32)) 1 0 0 0 0) _ n0 Z11 fc11_0 (own_add3_eq _ _ _)) (W := 0) (by decide) (by decide) (g := (mkF m 71 #[.val (.int a), .val (.int ee), .val (.int (Int32.ofNat j)), .val (.int (Int32.ofNat k)), .val (.ref b1), .unset, .unset] [(.int (3 : Int32)), (.ref b1)])) rfl (by rw [hml]; rfl) (lenOf pd_3 rfl) rfl (by show 2 * 0 + _ ≤ _; exact Nat.le_of_eq rfl) (hb hby at_71) (by decide) (by decide)
          have N44 := Fr.app N11 Nq44
          have Z45 := Nat.le_trans Z11 K44
          refine Go.st st44 ?_
          show Go p e below P (T44.setTop (mkF m 74 #[.val (.int a), .val (.int ee), .val (.int (Int32.ofNat j)), .val (.int (Int32.ofNat k)), .val (.ref b1), .unset, .unset] []))
          exact cut12 _ _  (X44.more (by decide) (by decide)) N44 Z45 (by rw [own_b1 (p := (3 : Int32)) hj8 (k := 3) (by decide) (by decide) (by decide) br43]; exact IS44) 
      by_cases br46 : ((Int32.ofNat j) &&& (4 : Int32)) = (0 : Int32)
      · refine Go.st (fun _ kt => XS.ifYes X9.here hx rfl (pc0 := 52) (pc' := 61) rfl (hb hby at_52) rfl ((if0 _ _).trans (teq br46).1) (by decide) (by decide) kt) ?_
        show Go p e below P (T9.setTop (mkF m 61 #[.val (.int a), .val (.int ee), .val (.int (Int32.ofNat j)), .val (.int (Int32.ofNat k)), .val (.ref b1), .unset, .unset] []))
        exact cut10 _ _  (X9.more (by decide) (by decide)) N9 Z9 (by rw [own_b0 (p := (2 : Int32)) hj8 (k := 2) (by decide) (by decide) (by decide) br46]; exact fc9_0) 
      · refine Go.st (fun _ kt => XS.ifNo X9.here hx rfl (hb hby at_52) rfl ((if0 _ _).trans (feq br46).1) kt) ?_
        show Go p e below P (T9.setTop (mkF m 55 #[.val (.int a), .val (.int ee), .val (.int (Int32.ofNat j)), .val (.int (Int32.ofNat k)), .val (.ref b1), .unset, .unset] []))
        refine Go.st (fun _ kt => XS.aload X9.here hx rfl (hb hby at_55) rfl rfl (XS.iconst X9.here hx rfl (hb hby at_57) kt)) ?_
        show Go p e below P (T9.setTop (mkF m 58 #[.val (.int a), .val (.int ee), .val (.int (Int32.ofNat j)), .val (.int (Int32.ofNat k)), .val (.ref b1), .unset, .unset] [(.int (2 : Int32)), (.ref b1)]))
        obtain ⟨_, T47, Lc47, X47, ⟨rfl, Nq47, K47, IS47⟩, st47⟩ := callCv X9 hx hZ rfl (y := (⟨"com/example/doc_delta/docdelta/formats/IndexSet", "add", "(I)V"⟩ : MethodName)) (a := b1) (argsL := [(.int (2 : Int32))]) (rest := []) hown (hw _ (List.mem_of_getElem? (i := 25) rfl)) (hw _ (List.mem_of_getElem? (i := 26) rfl)) (hw _ (List.mem_of_getElem? (i := 28) rfl)) (hw _ (List.mem_of_getElem? (i := 27) rfl)) (hw _ (List.mem_of_getElem? (i := 3) rfl)) (hw _ (List.mem_of_getElem? (i := 29) rfl)) (by decide) (by obtain ⟨_, _, _, q, _⟩ := fc9_0; exact q) (rmAdd2 l Z a0 hw b1 _ (own_tree (own_b (Int32.ofNat j) (0 : Int32)) (own_b (Int32.ofNat j) (1 : Int32)) 1 0 0 0 0 0) _ n0 Z9 fc9_0 (own_add2_eq _ _)) (W := 0) (by decide) (by decide) (g := (mkF m 58 #[.val (.int a), .val (.int ee), .val (.int (Int32.ofNat j)), .val (.int (Int32.ofNat k)), .val (.ref b1), .unset, .unset] [(.int (2 : Int32)), (.ref b1)])) rfl (by rw [hml]; rfl) (lenOf pd_3 rfl) rfl (by show 2 * 0 + _ ≤ _; exact Nat.le_of_eq rfl) (hb hby at_58) (by decide) (by decide)
        have N47 := Fr.app N9 Nq47
        have Z48 := Nat.le_trans Z9 K47
        refine Go.st st47 ?_
        show Go p e below P (T47.setTop (mkF m 61 #[.val (.int a), .val (.int ee), .val (.int (Int32.ofNat j)), .val (.int (Int32.ofNat k)), .val (.ref b1), .unset, .unset] []))
        exact cut10 _ _  (X47.more (by decide) (by decide)) N47 Z48 (by rw [own_b1 (p := (2 : Int32)) hj8 (k := 2) (by decide) (by decide) (by decide) br46]; exact IS47) 
    by_cases br49 : ((Int32.ofNat j) &&& (2 : Int32)) = (0 : Int32)
    · refine Go.st (fun _ kt => XS.ifYes X7.here hx rfl (pc0 := 40) (pc' := 49) rfl (hb hby at_40) rfl ((if0 _ _).trans (teq br49).1) (by decide) (by decide) kt) ?_
      show Go p e below P (T7.setTop (mkF m 49 #[.val (.int a), .val (.int ee), .val (.int (Int32.ofNat j)), .val (.int (Int32.ofNat k)), .val (.ref b1), .unset, .unset] []))
      exact cut8 _ _  (X7.more (by decide) (by decide)) N7 Z7 (by rw [own_b0 (p := (1 : Int32)) hj8 (k := 1) (by decide) (by decide) (by decide) br49]; exact fc7_0) 
    · refine Go.st (fun _ kt => XS.ifNo X7.here hx rfl (hb hby at_40) rfl ((if0 _ _).trans (feq br49).1) kt) ?_
      show Go p e below P (T7.setTop (mkF m 43 #[.val (.int a), .val (.int ee), .val (.int (Int32.ofNat j)), .val (.int (Int32.ofNat k)), .val (.ref b1), .unset, .unset] []))
      refine Go.st (fun _ kt => XS.aload X7.here hx rfl (hb hby at_43) rfl rfl (XS.iconst X7.here hx rfl (hb hby at_45) kt)) ?_
      show Go p e below P (T7.setTop (mkF m 46 #[.val (.int a), .val (.int ee), .val (.int (Int32.ofNat j)), .val (.int (Int32.ofNat k)), .val (.ref b1), .unset, .unset] [(.int (1 : Int32)), (.ref b1)]))
      obtain ⟨_, T50, Lc50, X50, ⟨rfl, Nq50, K50, IS50⟩, st50⟩ := callCv X7 hx hZ rfl (y := (⟨"com/example/doc_delta/docdelta/formats/IndexSet", "add", "(I)V"⟩ : MethodName)) (a := b1) (argsL := [(.int (1 : Int32))]) (rest := []) hown (hw _ (List.mem_of_getElem? (i := 25) rfl)) (hw _ (List.mem_of_getElem? (i := 26) rfl)) (hw _ (List.mem_of_getElem? (i := 28) rfl)) (hw _ (List.mem_of_getElem? (i := 27) rfl)) (hw _ (List.mem_of_getElem? (i := 3) rfl)) (hw _ (List.mem_of_getElem? (i := 29) rfl)) (by decide) (by obtain ⟨_, _, _, q, _⟩ := fc7_0; exact q) (rmAdd1 l Z a0 hw b1 _ (own_tree (own_b (Int32.ofNat j) (0 : Int32)) 1 0 0 0 0 0 0) _ n0 Z7 fc7_0 (own_add1_eq _)) (W := 0) (by decide) (by decide) (g := (mkF m 46 #[.val (.int a), .val (.int ee), .val (.int (Int32.ofNat j)), .val (.int (Int32.ofNat k)), .val (.ref b1), .unset, .unset] [(.int (1 : Int32)), (.ref b1)])) rfl (by rw [hml]; rfl) (lenOf pd_3 rfl) rfl (by show 2 * 0 + _ ≤ _; exact Nat.le_of_eq rfl) (hb hby at_46) (by decide) (by decide)
      have N50 := Fr.app N7 Nq50
      have Z51 := Nat.le_trans Z7 K50
      refine Go.st st50 ?_
      show Go p e below P (T50.setTop (mkF m 49 #[.val (.int a), .val (.int ee), .val (.int (Int32.ofNat j)), .val (.int (Int32.ofNat k)), .val (.ref b1), .unset, .unset] []))
      exact cut8 _ _  (X50.more (by decide) (by decide)) N50 Z51 (by rw [own_b1 (p := (1 : Int32)) hj8 (k := 1) (by decide) (by decide) (by decide) br49]; exact IS50) 
  by_cases br52 : ((Int32.ofNat j) &&& (1 : Int32)) = (0 : Int32)
  · refine Go.st (fun _ kt => XS.ifYes X3.here hx rfl (pc0 := 28) (pc' := 37) rfl (hb hby at_28) rfl ((if0 _ _).trans (teq br52).1) (by decide) (by decide) kt) ?_
    show Go p e below P (T3.setTop (mkF m 37 #[.val (.int a), .val (.int ee), .val (.int (Int32.ofNat j)), .val (.int (Int32.ofNat k)), .val (.ref b1), .unset, .unset] []))
    exact cut6 _ _  (X3.more (by decide) (by decide)) N3 Z4 (by rw [own_b0 (p := (0 : Int32)) hj8 (k := 0) (by decide) (by decide) (by decide) br52]; exact IS5) 
  · refine Go.st (fun _ kt => XS.ifNo X3.here hx rfl (hb hby at_28) rfl ((if0 _ _).trans (feq br52).1) kt) ?_
    show Go p e below P (T3.setTop (mkF m 31 #[.val (.int a), .val (.int ee), .val (.int (Int32.ofNat j)), .val (.int (Int32.ofNat k)), .val (.ref b1), .unset, .unset] []))
    refine Go.st (fun _ kt => XS.aload X3.here hx rfl (hb hby at_31) rfl rfl (XS.iconst X3.here hx rfl (hb hby at_33) kt)) ?_
    show Go p e below P (T3.setTop (mkF m 34 #[.val (.int a), .val (.int ee), .val (.int (Int32.ofNat j)), .val (.int (Int32.ofNat k)), .val (.ref b1), .unset, .unset] [(.int (0 : Int32)), (.ref b1)]))
    obtain ⟨_, T53, Lc53, X53, ⟨rfl, Nq53, K53, IS53⟩, st53⟩ := callCv X3 hx hZ rfl (y := (⟨"com/example/doc_delta/docdelta/formats/IndexSet", "add", "(I)V"⟩ : MethodName)) (a := b1) (argsL := [(.int (0 : Int32))]) (rest := []) hown (hw _ (List.mem_of_getElem? (i := 25) rfl)) (hw _ (List.mem_of_getElem? (i := 26) rfl)) (hw _ (List.mem_of_getElem? (i := 28) rfl)) (hw _ (List.mem_of_getElem? (i := 27) rfl)) (hw _ (List.mem_of_getElem? (i := 3) rfl)) (hw _ (List.mem_of_getElem? (i := 29) rfl)) (by decide) (by obtain ⟨_, _, _, q, _⟩ := IS5; exact q) (rmAdd0 l Z a0 hw b1 _ (own_tree 1 0 0 0 0 0 0 0) _ n0 Z4 IS5 (own_add0_eq )) (W := 0) (by decide) (by decide) (g := (mkF m 34 #[.val (.int a), .val (.int ee), .val (.int (Int32.ofNat j)), .val (.int (Int32.ofNat k)), .val (.ref b1), .unset, .unset] [(.int (0 : Int32)), (.ref b1)])) rfl (by rw [hml]; rfl) (lenOf pd_3 rfl) rfl (by show 2 * 0 + _ ≤ _; exact Nat.le_of_eq rfl) (hb hby at_34) (by decide) (by decide)
    have N53 := Fr.app N3 Nq53
    have Z54 := Nat.le_trans Z4 K53
    refine Go.st st53 ?_
    show Go p e below P (T53.setTop (mkF m 37 #[.val (.int a), .val (.int ee), .val (.int (Int32.ofNat j)), .val (.int (Int32.ofNat k)), .val (.ref b1), .unset, .unset] []))
    exact cut6 _ _  (X53.more (by decide) (by decide)) N53 Z54 (by rw [own_b1 (p := (0 : Int32)) hj8 (k := 0) (by decide) (by decide) (by decide) br52]; exact IS53) 
set_option maxRecDepth 65536 in
set_option maxHeartbeats 40000000 in
theorem comes_1 {Post : Tables → Env → Array Value → State → Outcome → State → Prop} (hpost : ∀ tb e args s v u, (limb_1_1.after args s (.returned v) u = true ∧ limb_1_2.after args s (.returned v) u = true ∧ True) → FrameEnd s (.returned v) u (Jvm.fieldLocs frame_1_writes args s ++ Jvm.arrayLocs frame_1_arrays args s ++ Jvm.staticLocs frame_1_statics s) 16 128 → Post tb e args s (.returned v) u) :
    ArmFor flags0 classFile x code maxLocals ret World_1 tables_1 room_1 Calls_1 rest_1 Pre_1 Post := by
  intro l hfl _ _ p e ha hc hk s m args below hf hA hF happ hP
  obtain ⟨hcalls, hrest, hpre⟩ := hP
  obtain ⟨-, -, -, hnamed, -, -, -, hat⟩ := (Spec.applies_iff hf).mp happ
  obtain ⟨hg, hn⟩ := and_e (Cond.before_iff.mp (show (Jvm.Cond.and given_1 narrow_1).before args s = true from hpre))
  obtain ⟨g1, g2⟩ := and_e hg
  obtain ⟨g3, g4⟩ := and_e g2
  obtain ⟨w0, w1, rfl⟩ : ∃ w0 w1 : Value, args = #[w0, w1] := by
    have hs : args.size = 2 := by simpa [Cond.value, given_1] using g1
    obtain ⟨L⟩ := args
    match L, hs with
    | [w0, w1], _ => exact ⟨w0, w1, rfl⟩
  have hw := fun d (hd : d ∈ tables_1) => atoms_spec (ws := Jvm.Cond.code x code maxLocals ret :: tables_1) hat d (List.mem_cons_of_mem _ hd)
  obtain ⟨i0, ei0⟩ := is_v g3
  obtain rfl : w0 = (.int i0) := Option.some.inj ei0
  obtain ⟨i1, ei1⟩ := is_v g4
  obtain rfl : w1 = (.int i1) := Option.some.inj ei1
  obtain ⟨n, o, h1, h2, h3, _, L, rfl, ⟨rfl, N⟩, hq⟩ := rm0 l s _ hw tables_1 i0 i1 s.heap s.heap.size (Nat.le_refl _) p e ha hc hk s m _ below hf ((Spec.applies_iff_loose hf).mp happ).1 ⟨rfl, State.Warmed39.refl s, rfl⟩ trivial
  refine ⟨n, _, h1, h2, h3, hpost _ _ _ _ _ _ ⟨Cond.after_iff.mpr rfl, Cond.after_iff.mpr (eq_i res_at (Term.int_eval (1)) rfl), trivial⟩ ⟨hq.1, hq.2.1, (hq.2.2.sift fun y hy => Or.inr (N y hy)).mono (by decide) (by decide)⟩⟩
theorem main_1_1 : Claimed_1_1 := comes_1 fun _ _ _ _ _ _ h hF => ⟨h.1, hF⟩
theorem main_1_2 : Claimed_1_2 := comes_1 fun _ _ _ _ _ _ h hF => ⟨h.2.1, hF⟩
end Jvm.Pilot.@@N@@
namespace Jvm.Pilot.@@N@@
open Jvm Jvm.ClassFile Sem Op Lib Jvm.Free Jvm.Stand Jvm.Pilot.@@N@@.Jvm.D
/-! MADE BY PROGRAM (witnessworld.py) out of the Statement's table words and the real class files: 11 classes; the members and pool entries that the words name. The judged class is class 1, her method 2. -/
namespace start1
open Jvm.ClassFile
def u (s : String) : CpInfo := .utf8 (stringToUtf16 s)
/-- a pool by its gaps: so many unusable entries, then the entry; so many at the end -/
def gap : Nat → List CpInfo → List CpInfo
  | 0, r => r
  | n + 1, r => .unusable :: gap n r
def poolList (es : List (Nat × CpInfo)) (last : Nat) : List CpInfo := es.foldr (fun e r => gap e.1 (e.2 :: r)) (gap last [])
def pool (es : List (Nat × CpInfo)) (last : Nat) : Array CpInfo := ⟨poolList es last⟩
def fileOf (pool : Array CpInfo) (this : Nat) (attrs : Array Attribute := #[]) (ms : Array MethodInfo := #[]) (fl : Nat := 33) (sup : Nat := 0) (ifs : Array Nat := #[]) (fds : Array FieldInfo := #[]) : ClassFile where
  minorVersion := 0
  majorVersion := 65
  constantPool := pool
  accessFlags := fl
  thisClass := this
  superClass := sup
  interfaces := ifs
  fields := fds
  methods := ms
  attributes := attrs
def plain (name : String) (sup : Option ClassId) : Class where
  name := name
  kind := .ordinary
  loader := none
  accessFlags := 33
  super := sup
  interfaces := #[]
  cf := none
  fields := #[]
  methods := #[]
  instanceTypes := #[]
  staticTypes := #[]
  resolved := #[]
  callSites := []
  init := .initialized
  statics := none
  mirror := none

def pool0 : Array CpInfo := pool [(5, u "<init>"), (0, u "()V"), (1, .class_ 10), (1, u "java/lang/Object")] 113

def k0c0 : Code := { maxStack := 0, maxLocals := 1, code := object_method_1_code, exceptionTable := #[], attributes := #[] }
def k0m0 : Method := { name := "<init>", desc := "()V", sig := { parameters := [], returnType := none }, accessFlags := 1, code := some k0c0 }
/-- java/lang/Object -/
def k0 : Class := { plain "java/lang/Object" none with
  accessFlags := 33
  interfaces := #[]
  cf := some (fileOf pool0 8 #[] #[{ accessFlags := 1, nameIndex := 5, descriptorIndex := 6, attributes := #[] }] 33 0 #[] #[])
  fields := #[]
  methods := #[k0m0]
  instanceTypes := #[]
  staticTypes := #[]
  resolved := Array.replicate 124 none
  statics := none }

def pool1 : Array CpInfo := pool [(2, .class_ 4), (1, u "java/lang/Object"), (0, u "<init>"), (0, u "()V"), (0, .integer 2147483647), (0, .class_ 9), (0, u "com/example/doc_delta/docdelta/formats/IndexSet"), (0, .methodref 8 11), (0, .nameAndType 5 12), (0, u "(I)V"), (0, .methodref 8 14), (0, .nameAndType 15 12), (0, u "add"), (0, .methodref 8 17), (0, .nameAndType 18 19), (0, u "countBefore"), (0, u "(I)I"), (0, .methodref 21 22), (0, .class_ 23), (0, .nameAndType 24 25), (0, u "com/example/doc_delta/docdelta/formats/IndexSetCountBeforePinLaw"), (0, u "bit"), (0, u "(III)I"), (3, u "law"), (0, u "(II)Z")] 2

def k1m0 : Method := { name := "<init>", desc := "()V", sig := { parameters := [], returnType := none }, accessFlags := 1, code := none }
def k1c1 : Code := { maxStack := 2, maxLocals := 3, code := method_2_code, exceptionTable := #[], attributes := #[] }
def k1m1 : Method := { name := "bit", desc := "(III)I", sig := { parameters := [.int, .int, .int], returnType := some .int }, accessFlags := 10, code := some k1c1 }
def k1c2 : Code := { maxStack := 4, maxLocals := 7, code := code, exceptionTable := #[], attributes := #[] }
def k1m2 : Method := { name := "law", desc := "(II)Z", sig := { parameters := [.int, .int], returnType := some .boolean }, accessFlags := 9, code := some k1c2 }
/-- com/example/doc_delta/docdelta/formats/IndexSetCountBeforePinLaw -/
def k1 : Class := { plain "com/example/doc_delta/docdelta/formats/IndexSetCountBeforePinLaw" (some 0) with
  accessFlags := 49
  interfaces := #[]
  cf := some (fileOf pool1 21 #[] #[{ accessFlags := 1, nameIndex := 5, descriptorIndex := 6, attributes := #[] }, { accessFlags := 10, nameIndex := 24, descriptorIndex := 25, attributes := #[] }, { accessFlags := 9, nameIndex := 29, descriptorIndex := 30, attributes := #[] }] 49 2 #[] #[])
  fields := #[]
  methods := #[k1m0, k1m1, k1m2]
  instanceTypes := #[]
  staticTypes := #[]
  resolved := Array.replicate 33 none
  statics := none }

def pool2 : Array CpInfo := pool [(1, .methodref 2 3), (0, .class_ 4), (0, .nameAndType 5 6), (0, u "java/lang/Object"), (0, u "<init>"), (0, u "()V"), (0, .fieldref 8 9), (0, .class_ 10), (0, .nameAndType 11 12), (0, u "com/example/doc_delta/docdelta/formats/IndexSet"), (0, u "members"), (0, u "[Z"), (0, .fieldref 8 14), (0, .nameAndType 15 16), (0, u "tree"), (0, u "[I"), (0, .methodref 8 18), (0, .nameAndType 19 20), (0, u "count"), (0, u "(II)V"), (2, u "countBefore"), (0, u "(I)I"), (0, u "(I)V"), (4, u "add")] 6

def k2c0 : Code := { maxStack := 3, maxLocals := 2, code := prog_13_method_1_code, exceptionTable := #[], attributes := #[] }
def k2m0 : Method := { name := "<init>", desc := "(I)V", sig := { parameters := [.int], returnType := none }, accessFlags := 0, code := some k2c0 }
def k2c1 : Code := { maxStack := 3, maxLocals := 2, code := prog_13_method_3_code, exceptionTable := #[], attributes := #[] }
def k2m1 : Method := { name := "add", desc := "(I)V", sig := { parameters := [.int], returnType := none }, accessFlags := 0, code := some k2c1 }
def k2c2 : Code := { maxStack := 4, maxLocals := 4, code := prog_13_method_5_code, exceptionTable := #[], attributes := #[] }
def k2m2 : Method := { name := "count", desc := "(II)V", sig := { parameters := [.int, .int], returnType := none }, accessFlags := 2, code := some k2c2 }
def k2c3 : Code := { maxStack := 3, maxLocals := 4, code := prog_13_method_7_code, exceptionTable := #[], attributes := #[] }
def k2m3 : Method := { name := "countBefore", desc := "(I)I", sig := { parameters := [.int], returnType := some .int }, accessFlags := 0, code := some k2c3 }
/-- com/example/doc_delta/docdelta/formats/IndexSet -/
def k2 : Class := { plain "com/example/doc_delta/docdelta/formats/IndexSet" (some 0) with
  accessFlags := 32
  interfaces := #[]
  cf := some (fileOf pool2 8 #[] #[{ accessFlags := 0, nameIndex := 5, descriptorIndex := 25, attributes := #[] }, { accessFlags := 0, nameIndex := 30, descriptorIndex := 25, attributes := #[] }, { accessFlags := 2, nameIndex := 19, descriptorIndex := 20, attributes := #[] }, { accessFlags := 0, nameIndex := 23, descriptorIndex := 24, attributes := #[] }] 32 2 #[] #[{ accessFlags := 18, nameIndex := 11, descriptorIndex := 12, attributes := #[] }, { accessFlags := 18, nameIndex := 15, descriptorIndex := 16, attributes := #[] }])
  fields := #[{ name := "members", type := (.array .boolean), accessFlags := 18, slot := 0, constantValue := 0 }, { name := "tree", type := (.array .int), accessFlags := 18, slot := 1, constantValue := 0 }]
  methods := #[k2m0, k2m1, k2m2, k2m3]
  instanceTypes := #[(.array .boolean), (.array .int)]
  staticTypes := #[]
  resolved := Array.replicate 37 none
  statics := none }

def pool3 : Array CpInfo := pool [(1, u "java/lang/Cloneable"), (0, .class_ 1), (0, u "java/lang/Object"), (0, .class_ 3)] 3

/-- java/lang/Cloneable -/
def k3 : Class := { plain "java/lang/Cloneable" (some 0) with
  accessFlags := 1537
  interfaces := #[]
  cf := some (fileOf pool3 2 #[] #[] 1537 4 #[] #[])
  fields := #[]
  methods := #[]
  instanceTypes := #[]
  staticTypes := #[]
  resolved := Array.replicate 8 none
  statics := none }

def pool4 : Array CpInfo := pool [(1, u "java/io/Serializable"), (0, .class_ 1), (0, u "java/lang/Object"), (0, .class_ 3)] 3

/-- java/io/Serializable -/
def k4 : Class := { plain "java/io/Serializable" (some 0) with
  accessFlags := 1537
  interfaces := #[]
  cf := some (fileOf pool4 2 #[] #[] 1537 4 #[] #[])
  fields := #[]
  methods := #[]
  instanceTypes := #[]
  staticTypes := #[]
  resolved := Array.replicate 8 none
  statics := none }

/-- the primitive boolean -/
def k5 : Class := { plain "boolean" none with kind := .primitive 'Z', accessFlags := 0x411 }
/-- [Z -/
def k6 : Class := { plain "[Z" (some 0) with kind := .array 5 .boolean, interfaces := #[3, 4], accessFlags := 1041 }

/-- the primitive byte -/
def k7 : Class := { plain "byte" none with kind := .primitive 'B', accessFlags := 0x411 }
/-- [B -/
def k8 : Class := { plain "[B" (some 0) with kind := .array 7 .byte, interfaces := #[3, 4], accessFlags := 1041 }

/-- the primitive int -/
def k9 : Class := { plain "int" none with kind := .primitive 'I', accessFlags := 0x411 }
/-- [I -/
def k10 : Class := { plain "[I" (some 0) with kind := .array 9 .int, interfaces := #[3, 4], accessFlags := 1041 }

def heap : Heap := #[]
def classes : Array Class := #[k0, k1, k2, k3, k4, k5, k6, k7, k8, k9, k10]
def interned : List (Array UInt16 × Addr) := []
def slotsUsed : Nat := 0
def theMethod : MethodId := ⟨1, 2⟩
def args0 : Array Value := #[.int 77, .int 5]
def aboutOver (below : List Frame) : State where
  vm := { classes := classes, interned := interned.toArray }
  heap := heap
  slotsUsed := slotsUsed
  threads := #[{ frames := .invoking theMethod args0 :: below }]
def below0 : List Frame := [.native { method := ⟨0, 0⟩, args := #[] }]
def about1 : State := aboutOver below0
def p0 : Program := .bare "" "" ""
def e0 : Env := launch0.env 0 0 0
theorem w_frames : about1.frames = Frame.invoking theMethod args0 :: below0 := rfl
set_option maxRecDepth 65536 in
theorem w_args : argsFit about1.vm theMethod args0 = true := by decide +kernel
set_option maxRecDepth 65536 in
theorem w_heap : heapFits about1 = true := by decide +kernel
set_option maxRecDepth 65536 in
theorem w_runnable : about1.curStatus? = some .runnable := by decide +kernel
set_option maxRecDepth 65536 in
theorem w_alone : about1.alone = true := by decide +kernel
set_option maxRecDepth 65536 in
theorem w_named : about1.methodNamed? x = some theMethod := by decide +kernel
set_option maxRecDepth 65536 in
theorem w_hears : about1.hears theMethod below0 = true := by decide +kernel
set_option maxRecDepth 65536 in
theorem w_ripe : about1.ripe theMethod args0 below0 = true := by decide +kernel
theorem w_running : about1.status = .running := rfl
set_option maxRecDepth 65536 in
theorem w_room : about1.hasRoom e0.platform room_1 = true :=
  launch0.hasRoom_least _ room_1 (by decide +kernel) (by decide +kernel) (by decide +kernel) (by decide +kernel) (by decide +kernel) (by decide +kernel)
theorem allAtoms_all (ts : List Jvm.Cond) (a : Array Jvm.Value) (st : Jvm.State) : (allAtoms ts).before a st = ts.all (fun c => c.before a st) := by
  induction ts with
  | nil => rfl
  | cons c t ih =>
    show (Jvm.Cond.and c (allAtoms t)).before a st = _
    rw [Jvm.Cond.before_and, ih, List.all_cons]
def words1 : List Jvm.Cond := Jvm.Cond.code x code maxLocals ret :: tables_1
/-- a 'code' word, met by the world's own term for the bytes: nothing is compared byte by byte -/
theorem code_word {y : MethodName} {bytes : ByteArray} {mx : Nat} {rt : Option FieldType} {a : Array Value} {s : State} {m : MethodId} {meth : Method} {c : Code} (h1 : s.methodNamed? y = some m) (h2 : s.vm.method? m = some meth) (h3 : meth.code = some c) (h4 : c.code = bytes)
    (h5 : (c.maxLocals == mx && c.exceptionTable.isEmpty && decide (c.maxStack ≤ mostOperands) && decide (meth.sig.returnType = rt) && !meth.locks && decide (parseMethodDescriptor y.desc = some meth.sig)) = true) : (Jvm.Cond.code y bytes mx rt).before a s = true := by
  simp only [Bool.and_eq_true, beq_iff_eq, Bool.not_eq_true', decide_eq_true_eq] at h5
  obtain ⟨⟨⟨⟨⟨g1, g2⟩, g3⟩, g4⟩, g5⟩, g6⟩ := h5
  simp [Cond.before, Cond.holds, Cond.value, h1, h2, h3, h4, g1, g2, g3, g4, g5, g6]
def isCode : Jvm.Cond → Bool
  | .code _ _ _ _ => true
  | _ => false
theorem all_split {L : List Jvm.Cond} {P : Jvm.Cond → Bool} (h1 : L.all (fun c => isCode c || P c) = true) (h2 : ∀ c ∈ L.filter isCode, P c = true) : L.all P = true := by
  refine List.all_eq_true.mpr fun c hc => ?_
  have h := List.all_eq_true.mp h1 c hc
  rcases Bool.eq_false_or_eq_true (isCode c) with hi | hi
  · exact h2 c (List.mem_filter.mpr ⟨hc, hi⟩)
  · simpa [hi] using h
set_option maxRecDepth 65536 in
theorem w_c0 : (Jvm.Cond.code x code maxLocals ret).before args0 about1 = true := code_word (m := ⟨1, 2⟩) (meth := k1m2) (c := k1c2) (by decide +kernel) rfl rfl rfl (by decide +kernel)
set_option maxRecDepth 65536 in
theorem w_c1 : (Jvm.Cond.code ({ cls := "com/example/doc_delta/docdelta/formats/IndexSet", name := "<init>", desc := "(I)V" } : Jvm.MethodName) prog_13_method_1_code (2 : Nat) (Option.none : Option Jvm.ClassFile.FieldType)).before args0 about1 = true := code_word (m := ⟨2, 0⟩) (meth := k2m0) (c := k2c0) (by decide +kernel) rfl rfl rfl (by decide +kernel)
set_option maxRecDepth 65536 in
theorem w_c2 : (Jvm.Cond.code ({ cls := "java/lang/Object", name := "<init>", desc := "()V" } : Jvm.MethodName) object_method_1_code (1 : Nat) (Option.none : Option Jvm.ClassFile.FieldType)).before args0 about1 = true := code_word (m := ⟨0, 0⟩) (meth := k0m0) (c := k0c0) (by decide +kernel) rfl rfl rfl (by decide +kernel)
set_option maxRecDepth 65536 in
theorem w_c3 : (Jvm.Cond.code ({ cls := "com/example/doc_delta/docdelta/formats/IndexSet", name := "countBefore", desc := "(I)I" } : Jvm.MethodName) prog_13_method_7_code (4 : Nat) (Option.some Jvm.ClassFile.FieldType.int)).before args0 about1 = true := code_word (m := ⟨2, 3⟩) (meth := k2m3) (c := k2c3) (by decide +kernel) rfl rfl rfl (by decide +kernel)
set_option maxRecDepth 65536 in
theorem w_c4 : (Jvm.Cond.code ({ cls := "com/example/doc_delta/docdelta/formats/IndexSetCountBeforePinLaw", name := "bit", desc := "(III)I" } : Jvm.MethodName) method_2_code (3 : Nat) (Option.some Jvm.ClassFile.FieldType.int)).before args0 about1 = true := code_word (m := ⟨1, 1⟩) (meth := k1m1) (c := k1c1) (by decide +kernel) rfl rfl rfl (by decide +kernel)
set_option maxRecDepth 65536 in
theorem w_c5 : (Jvm.Cond.code ({ cls := "com/example/doc_delta/docdelta/formats/IndexSet", name := "add", desc := "(I)V" } : Jvm.MethodName) prog_13_method_3_code (2 : Nat) (Option.none : Option Jvm.ClassFile.FieldType)).before args0 about1 = true := code_word (m := ⟨2, 1⟩) (meth := k2m1) (c := k2c1) (by decide +kernel) rfl rfl rfl (by decide +kernel)
set_option maxRecDepth 65536 in
theorem w_c6 : (Jvm.Cond.code ({ cls := "com/example/doc_delta/docdelta/formats/IndexSet", name := "count", desc := "(II)V" } : Jvm.MethodName) prog_13_method_5_code (4 : Nat) (Option.none : Option Jvm.ClassFile.FieldType)).before args0 about1 = true := code_word (m := ⟨2, 2⟩) (meth := k2m2) (c := k2c2) (by decide +kernel) rfl rfl rfl (by decide +kernel)
def codes1 : List Jvm.Cond := [Jvm.Cond.code x code maxLocals ret, Jvm.Cond.code ({ cls := "com/example/doc_delta/docdelta/formats/IndexSet", name := "<init>", desc := "(I)V" } : Jvm.MethodName) prog_13_method_1_code (2 : Nat) (Option.none : Option Jvm.ClassFile.FieldType), Jvm.Cond.code ({ cls := "java/lang/Object", name := "<init>", desc := "()V" } : Jvm.MethodName) object_method_1_code (1 : Nat) (Option.none : Option Jvm.ClassFile.FieldType), Jvm.Cond.code ({ cls := "com/example/doc_delta/docdelta/formats/IndexSet", name := "countBefore", desc := "(I)I" } : Jvm.MethodName) prog_13_method_7_code (4 : Nat) (Option.some Jvm.ClassFile.FieldType.int), Jvm.Cond.code ({ cls := "com/example/doc_delta/docdelta/formats/IndexSetCountBeforePinLaw", name := "bit", desc := "(III)I" } : Jvm.MethodName) method_2_code (3 : Nat) (Option.some Jvm.ClassFile.FieldType.int), Jvm.Cond.code ({ cls := "com/example/doc_delta/docdelta/formats/IndexSet", name := "add", desc := "(I)V" } : Jvm.MethodName) prog_13_method_3_code (2 : Nat) (Option.none : Option Jvm.ClassFile.FieldType), Jvm.Cond.code ({ cls := "com/example/doc_delta/docdelta/formats/IndexSet", name := "count", desc := "(II)V" } : Jvm.MethodName) prog_13_method_5_code (4 : Nat) (Option.none : Option Jvm.ClassFile.FieldType)]
set_option maxRecDepth 65536 in
theorem codes_eq : words1.filter isCode = codes1 := rfl
theorem w_codes : ∀ c ∈ words1.filter isCode, c.before args0 about1 = true := by
  rw [codes_eq]
  intro c hc
  simp only [codes1, List.mem_cons, List.not_mem_nil, or_false] at hc
  rcases hc with rfl | rfl | rfl | rfl | rfl | rfl | rfl
  · exact w_c0
  · exact w_c1
  · exact w_c2
  · exact w_c3
  · exact w_c4
  · exact w_c5
  · exact w_c6
set_option maxRecDepth 65536 in
theorem w_t1 : (words1.take 24).all (fun c => isCode c || c.before args0 about1) = true := by decide +kernel
set_option maxRecDepth 65536 in
theorem w_t2 : (words1.drop 24).all (fun c => isCode c || c.before args0 about1) = true := by decide +kernel
theorem w_tables : (allAtoms (Jvm.Cond.code x code maxLocals ret :: tables_1)).before args0 about1 = true := by
  rw [allAtoms_all]
  show words1.all (fun c => c.before args0 about1) = true
  refine all_split ?_ w_codes
  rw [← List.take_append_drop 24 words1, List.all_append, w_t1, w_t2]
  rfl
set_option maxRecDepth 65536 in
theorem w_case : (Jvm.Cond.and given_1 narrow_1).before args0 about1 = true := by decide +kernel
theorem w_applies : (headSpec (Jvm.Cond.code x code maxLocals ret :: tables_1) room_1).applies x e0.platform about1 = true :=
  (Spec.applies_iff w_frames).mpr ⟨w_running, w_runnable, w_alone, w_named, w_hears, w_ripe, w_room, w_tables⟩
theorem atStart : AtStart classFile x code maxLocals ret World_1 tables_1 room_1 Calls_1 rest_1 Pre_1 launch0 p0 e0 about1 theMethod args0 below0 :=
  ⟨lists_1, trivial, launch0.admits_env _ _ _, launch0.least_env, fairChoices_fair.cas, fairChoices_fair.clock, w_frames, w_args, w_heap, w_applies, trivial, trivial, w_case⟩
end start1
theorem witness_1 : WitnessClaimed_1 := ⟨start1.p0, start1.e0, start1.about1, start1.theMethod, start1.args0, start1.below0, start1.atStart⟩
end Jvm.Pilot.@@N@@
