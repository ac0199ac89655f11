import JvmDerived
import JvmDerived.Pilot.@@N@@Statement
import JvmDerived.Pilot.@@N@@Code
set_option linter.unusedVariables false
set_option linter.unusedSimpArgs false
@@BLOCK:NumsL.lean.txt@@
@@BLOCK:Masks.lean.txt@@
namespace Jvm.RoadKit
open Sem ClassFile Op Lib Jvm.Stand Jvm.Free Jvm.LawKit
section OwnGo
variable {p : Program} {l : Launch} {e : Env} {R : Room} {s : State} {m : MethodId} {args : Array Value} {below : List Frame} {meth : Method} {c : Code} {T : State} {locs : List Loc} {cells slots : Nat} {Z : State} {a0 : Array Value} {h : Heap}
/-- from A the run comes to an end of which P holds -/
def Go (p : Program) (e : Env) (below : List Frame) (P : State → Outcome → Prop) (A : State) : Prop := ∃ t o, Steps p.tables e below A t ∧ t.status = .running ∧ Ended t below o ∧ P t o
theorem Go.st {P : State → Outcome → Prop} {A B : State} (st : ∀ t, Steps p.tables e below A t → Steps p.tables e below B t) (k : Go p e below P A) : Go p e below P B := by
  obtain ⟨t, o, h1, h2⟩ := k
  exact ⟨t, o, st t h1, h2⟩
theorem Go.tr {P : State → Outcome → Prop} {A B : State} (st : Steps p.tables e below B A) (k : Go p e below P A) : Go p e below P B := Go.st (fun _ h => st.trans h) k
def Pst (s : State) (Q : Option Value → Heap → List Loc → Prop) (C S : Nat) : State → Outcome → Prop := fun t o => ∃ v L, o = .returned v ∧ Q v t.heap L ∧ FrameEnd s o t L C S
/-- a method's contract at the heap h0, for the arguments as -/
def Ct (l : Launch) (y : MethodName) (bytes : ByteArray) (maxL : Nat) (ret : Option FieldType) (ws : List Cond) (rm : Room) (Z : State) (as : Array Value) (h0 : Heap) (Q : Option Value → Heap → List Loc → Prop) : Prop :=
  MetFree l y (head1 (Cond.code y bytes maxL ret :: ws) rm) (fun a U => a = as ∧ Z.Warmed39 U.vm ∧ U.heap = h0) (fun _ _ _ _ _ => True) (fun _ U o U' => ∃ v L, o = .returned v ∧ Q v U'.heap L ∧ FrameEnd U o U' L rm.cells rm.slots)
theorem Ct.of {y : MethodName} {bytes : ByteArray} {maxL : Nat} {ret : Option FieldType} {ws : List Cond} {rm : Room} {as : Array Value} {h0 : Heap} {Q : Option Value → Heap → List Loc → Prop} {Ls : Array Slot}
    (hpl : plainFor y = true) (hef : ∀ m, entryFrame m as maxL = mkF m 0 Ls [])
    (body : ∀ (p : Program) (e : Env) (s : State) (m : MethodId) (below : List Frame) (meth : Method) (c : Code) (T : State), Stand p l e rm s m as below meth c T [] 0 0 → p.tables.exec = Jvm.exec → c.code = bytes → c.maxLocals = maxL → meth.sig.returnType = ret → meth.locks = false → s.vm.findClass y.cls = some m.cls → meth.name = y.name → Z.Warmed39 s.vm → T.heap = h0 →
      ∀ P : State → Outcome → Prop, P = Pst s Q rm.cells rm.slots → Go p e below P (T.setTop (mkF m 0 Ls []))) : Ct l y bytes maxL ret ws rm Z as h0 Q := by
  refine MetFree.of_bodySF hpl hisR ?_
  intro p e s m args below meth c s₁ Bd hml0 hP hK
  obtain ⟨rfl, hZ, hh⟩ := hP
  have X0 : Stand p l e rm s m args below meth c s₁ [] 0 0 := Stand.of_body Bd
  obtain ⟨t, o, h1, h2⟩ := body p e s m below meth c s₁ X0 Bd.exec Bd.bytes hml0 Bd.returns Bd.notSynchronized (findClass_of_methodNamed Bd.named) (name_of_methodNamed Bd.named Bd.method).1 hZ (by rw [← hh, Bd.state]; rfl) _ rfl
  exact ⟨t, o, castTop (hef m) h1, h2⟩
theorem goRet {t : FieldType} {i : Instr} {v w : Value} {pc : Nat} {Ls : Array Slot} {rest : List Value} {Q : Option Value → Heap → List Loc → Prop} {C S : Nat}
    (X : Stand p l e R s m args below meth c T locs cells slots) (hret : meth.sig.returnType = some t) (hlk : meth.locks = false)
    (st : ∀ {fs : List Frame}, (∀ (f : JFrame) (acts : List Action), f.method = m → f.locked = none → f.entered = [] → (doReturn e (T.setTop f) acts (some w)).1 = T.setFrames fs) → Steps p.tables e below (T.setTop (mkF m pc Ls (v :: rest))) (T.setFrames fs))
    (hc : cells ≤ C) (hs : slots ≤ S) (hQ : Q (some w) T.heap locs) : Go p e below (Pst s Q C S) (T.setTop (mkF m pc Ls (v :: rest))) := by
  obtain ⟨fs, hr, hrun, hended, hW, hsame⟩ := X.leave (v := some w) (fun h => by rw [hret] at h; cases h) hlk
  exact ⟨_, _, st hr, hrun, hended, _, _, rfl, hQ, ⟨_, rfl⟩, hW, hsame.mono hc hs⟩
theorem retI (X : Stand p l e R s m args below meth c T locs cells slots) (hx : p.tables.exec = Jvm.exec) {pc : Nat} {Ls : Array Slot} {z : Int32} {rest : List Value} (hret : meth.sig.returnType = some .int) (hd : decode c.code pc = .ok (.ireturn, 1)) {fs : List Frame}
    (hl : ∀ (f : JFrame) (acts : List Action), f.method = m → f.locked = none → f.entered = [] → (doReturn e (T.setTop f) acts (some (.int z))).1 = T.setFrames fs) : Steps p.tables e below (T.setTop (mkF m pc Ls (.int z :: rest))) (T.setFrames fs) :=
  retOut X hx hret rfl (Or.inl ⟨rfl, Or.inl rfl, z, rfl⟩) hd hl
theorem goI {pc : Nat} {Ls : Array Slot} {z : Int32} {rest : List Value} {Q : Option Value → Heap → List Loc → Prop} {C S : Nat} {P : State → Outcome → Prop}
    (X : Stand p l e R s m args below meth c T locs cells slots) (hx : p.tables.exec = Jvm.exec) (hret : meth.sig.returnType = some .int) (hlk : meth.locks = false) (hd : decode c.code pc = .ok (.ireturn, 1))
    (hP : P = Pst s Q C S) (hc : cells ≤ C) (hs : slots ≤ S) (hQ : Q (some (.int z)) T.heap locs) : Go p e below P (T.setTop (mkF m pc Ls (.int z :: rest))) := by
  subst hP
  exact goRet (i := .ireturn) X hret hlk (fun hr => retI X hx hret hd hr) hc hs hQ
theorem goN {pc : Nat} {Ls : Array Slot} {z : Int32} {t : FieldType} {rest : List Value} {Q : Option Value → Heap → List Loc → Prop} {C S : Nat} {P : State → Outcome → Prop}
    (X : Stand p l e R s m args below meth c T locs cells slots) (hx : p.tables.exec = Jvm.exec) (hret : meth.sig.returnType = some t) (ht : t = .boolean ∨ t = .byte ∨ t = .char ∨ t = .short) (hlk : meth.locks = false) (hd : decode c.code pc = .ok (.ireturn, 1))
    (hP : P = Pst s Q C S) (hc : cells ≤ C) (hs : slots ≤ S) (hQ : Q (some (.int (nar t z))) T.heap locs) : Go p e below P (T.setTop (mkF m pc Ls (.int z :: rest))) := by
  subst hP
  exact goRet (i := .ireturn) X hret hlk (fun hr => retN X hx hret ht hd hr) hc hs hQ
theorem goJ {pc : Nat} {Ls : Array Slot} {z : Int64} {rest : List Value} {Q : Option Value → Heap → List Loc → Prop} {C S : Nat} {P : State → Outcome → Prop}
    (X : Stand p l e R s m args below meth c T locs cells slots) (hx : p.tables.exec = Jvm.exec) (hret : meth.sig.returnType = some .long) (hlk : meth.locks = false) (hd : decode c.code pc = .ok (.lreturn, 1))
    (hP : P = Pst s Q C S) (hc : cells ≤ C) (hs : slots ≤ S) (hQ : Q (some (.long z)) T.heap locs) : Go p e below P (T.setTop (mkF m pc Ls (.long z :: rest))) := by
  subst hP
  exact goRet (i := .lreturn) X hret hlk (fun hr => retOut X hx hret rfl (Or.inr (Or.inl ⟨rfl, rfl, z, rfl⟩)) hd hr) hc hs hQ
theorem goA {pc : Nat} {Ls : Array Slot} {z : Addr} {t : FieldType} {rest : List Value} {Q : Option Value → Heap → List Loc → Prop} {C S : Nat} {P : State → Outcome → Prop}
    (X : Stand p l e R s m args below meth c T locs cells slots) (hx : p.tables.exec = Jvm.exec) (hret : meth.sig.returnType = some t) (ht : t.isReference = true) (hn : narrow t (.ref z) = .ref z) (hlk : meth.locks = false) (hd : decode c.code pc = .ok (.areturn, 1))
    (hP : P = Pst s Q C S) (hc : cells ≤ C) (hs : slots ≤ S) (hQ : Q (some (.ref z)) T.heap locs) : Go p e below P (T.setTop (mkF m pc Ls (.ref z :: rest))) := by
  subst hP
  exact goRet (i := .areturn) X hret hlk (fun hr => retOut X hx hret hn (Or.inr (Or.inr (Or.inr (Or.inr ⟨rfl, ht, rfl⟩)))) hd hr) hc hs hQ
theorem goV {pc : Nat} {Ls : Array Slot} {Q : Option Value → Heap → List Loc → Prop} {C S : Nat} {P : State → Outcome → Prop}
    (X : Stand p l e R s m args below meth c T locs cells slots) (hx : p.tables.exec = Jvm.exec) (hret : meth.sig.returnType = none) (hlk : meth.locks = false) (hd : decode c.code pc = .ok (.return_, 1))
    (hP : P = Pst s Q C S) (hc : cells ≤ C) (hs : slots ≤ S) (hQ : Q none T.heap locs) : Go p e below P (T.setTop (mkF m pc Ls [])) := by
  subst hP
  obtain ⟨fs, hr, hrun, hended, hW, hsame⟩ := X.leave (v := none) (fun _ => rfl) hlk
  exact ⟨_, _, X.returnOut hx hret hd hr, hrun, hended, _, _, rfl, hQ, ⟨_, rfl⟩, hW, hsame.mono hc hs⟩
/-- a static call by its contract -/
theorem callCt (X : Stand p l e R s m args below meth c T locs cells slots) (hx : p.tables.exec = Jvm.exec) (hZ : Z.Warmed39 s.vm) (eT : T.heap = h) {own : String} {index : Nat} {y : MethodName} {bytes : ByteArray} {maxL : Nat} {ret : Option FieldType} {rm : Room} {Q : Option Value → Heap → List Loc → Prop} {argsL rest : List Value}
    (hown : s.vm.findClass own = some m.cls) (w1 : (Cond.methodLink own index y).before a0 Z = true) (w2 : (Cond.static y).before a0 Z = true) (w3 : (Cond.initialized y.cls).before a0 Z = true) (w4 : (Cond.code y bytes maxL ret).before a0 Z = true)
    (hy : y.cls ≠ "java/lang/invoke/MethodHandle" ∧ y.cls ≠ "java/lang/invoke/VarHandle") (hM : Ct l y bytes maxL ret [] rm Z argsL.toArray h Q) {W : Nat} (hf : rm.frames + 1 ≤ R.frames) (hl : W + (maxL + 11) + rm.locals ≤ R.locals)
    {g : JFrame} (hg : g.method = m) (hsize : g.locals.size = c.maxLocals) (hlen : ∀ sig, parseMethodDescriptor y.desc = some sig → argsL.length = sig.parameters.length) (hstack : g.stack = argsL.reverse ++ rest) (hW : 2 * g.monitorRoom + (rest.map fun v => v.category).sum ≤ W)
    (hdg : decode c.code g.pc = .ok (.invokestatic index, 3)) (hc : cells + rm.cells ≤ R.cells) (hs : slots + rm.slots ≤ R.slots) :
    ∃ (v : Option Value) (T' : State) (L : List Loc), Stand p l e R s m args below meth c T' (locs ++ L) (cells + rm.cells) (slots + rm.slots) ∧ Q v T'.heap L ∧ ∀ target, Steps p.tables e below (T'.setTop { g with pc := g.pc + 3, stack := v.toList ++ rest }) target → Steps p.tables e below (T.setTop g) target := by
  subst eT
  obtain ⟨v, _, ⟨T', L', k', n'⟩, -, X', ⟨Lc, hQ, l18, y18, z18⟩, st⟩ := Jvm.LawKit.callS X hx (y := y) hown (mvT hZ w1) (mvT hZ w2) (mvT hZ w3) (mvT hZ w4) hy (backOf (W := W) hM hZ w4 w3 hf hl) hg hsize hlen hstack hW hdg (fun _ _ => ⟨rfl, rfl, hc, hs⟩)
  dsimp only [Pt.U, Pt.locs, Pt.cells, Pt.slots] at X' l18 y18 z18 st hQ
  subst l18 y18 z18
  exact ⟨v, T', Lc, X', hQ, st⟩
/-- a constructor by its contract -/
theorem callCtor (X : Stand p l e R s m args below meth c T locs cells slots) (hx : p.tables.exec = Jvm.exec) (hZ : Z.Warmed39 s.vm) (eT : T.heap = h) {own : String} {index : Nat} {y : MethodName} (hy1 : y.name = "<init>") {bytes : ByteArray} {maxL : Nat} {rm : Room} {Q : Option Value → Heap → List Loc → Prop} {a : Addr} {argsL rest : List Value}
    (hown : s.vm.findClass own = some m.cls) (w1 : (Cond.methodLink own index y).before a0 Z = true) (w2 : (Cond.instanceMethod y).before a0 Z = true) (w3 : (Cond.initialized y.cls).before a0 Z = true) (w4 : (Cond.code y bytes maxL none).before a0 Z = true)
    (hy : y.cls ≠ "java/lang/invoke/MethodHandle" ∧ y.cls ≠ "java/lang/invoke/VarHandle") (hM : Ct l y bytes maxL none [] rm Z (.ref a :: argsL).toArray h Q) {W : Nat} (hf : rm.frames + 1 ≤ R.frames) (hl : W + (maxL + 11) + rm.locals ≤ R.locals)
    {g : JFrame} (hg : g.method = m) (hsize : g.locals.size = c.maxLocals) (hlen : ∀ sig, parseMethodDescriptor y.desc = some sig → argsL.length = sig.parameters.length) (hstack : g.stack = argsL.reverse ++ .ref a :: rest) (hW : 2 * g.monitorRoom + (rest.map fun v => v.category).sum ≤ W)
    (hdg : decode c.code g.pc = .ok (.invokespecial index, 3)) (hc : cells + rm.cells ≤ R.cells) (hs : slots + rm.slots ≤ R.slots) :
    ∃ (v : Option Value) (T' : State) (L : List Loc), Stand p l e R s m args below meth c T' (locs ++ L) (cells + rm.cells) (slots + rm.slots) ∧ Q v T'.heap L ∧ ∀ target, Steps p.tables e below (T'.setTop { g with pc := g.pc + 3, stack := v.toList ++ rest }) target → Steps p.tables e below (T.setTop g) target := by
  subst eT
  obtain ⟨v, _, ⟨T', L', k', n'⟩, -, X', ⟨Lc, hQ, l18, y18, z18⟩, st⟩ := X.specialBack hx (y := y) hy1 hown (mvT hZ w1) (mvT hZ w2) (mvT hZ w4) hy (backOf (W := W) hM hZ w4 w3 hf hl) hg hsize (Steps.refl _) hlen hstack hW hdg (fun _ _ => ⟨rfl, rfl, hc, hs⟩)
  dsimp only [Pt.U, Pt.locs, Pt.cells, Pt.slots] at X' l18 y18 z18 st hQ
  subst l18 y18 z18
  exact ⟨v, T', Lc, X', hQ, fun _ k => st.trans k⟩
/-- an instance method that its own class selects, by its contract -/
theorem callCv (X : Stand p l e R s m args below meth c T locs cells slots) (hx : p.tables.exec = Jvm.exec) (hZ : Z.Warmed39 s.vm) (eT : T.heap = h) {own : String} {index : Nat} {y : MethodName} {bytes : ByteArray} {maxL : Nat} {ret : Option FieldType} {rm : Room} {Q : Option Value → Heap → List Loc → Prop} {a : Addr} {argsL rest : List Value}
    (hown : s.vm.findClass own = some m.cls) (w1 : (Cond.methodLink own index y).before a0 Z = true) (w5 : (Cond.declares y).before a0 Z = true) (w6 : (Cond.selects y.cls y y).before a0 Z = true) (w2 : (Cond.instanceMethod y).before a0 Z = true) (w3 : (Cond.initialized y.cls).before a0 Z = true) (w4 : (Cond.code y bytes maxL ret).before a0 Z = true)
    (hy : y.cls ≠ "java/lang/invoke/MethodHandle" ∧ y.cls ≠ "java/lang/invoke/VarHandle") (E : Exa Z h a y.cls) (hM : Ct l y bytes maxL ret [] rm Z (.ref a :: argsL).toArray h Q) {W : Nat} (hf : rm.frames + 1 ≤ R.frames) (hl : W + (maxL + 11) + rm.locals ≤ R.locals)
    {g : JFrame} (hg : g.method = m) (hsize : g.locals.size = c.maxLocals) (hlen : ∀ sig, parseMethodDescriptor y.desc = some sig → argsL.length = sig.parameters.length) (hstack : g.stack = argsL.reverse ++ .ref a :: rest) (hW : 2 * g.monitorRoom + (rest.map fun v => v.category).sum ≤ W)
    (hdg : decode c.code g.pc = .ok (.invokevirtual index, 3)) (hc : cells + rm.cells ≤ R.cells) (hs : slots + rm.slots ≤ R.slots) :
    ∃ (v : Option Value) (T' : State) (L : List Loc), Stand p l e R s m args below meth c T' (locs ++ L) (cells + rm.cells) (slots + rm.slots) ∧ Q v T'.heap L ∧ ∀ target, Steps p.tables e below (T'.setTop { g with pc := g.pc + 3, stack := v.toList ++ rest }) target → Steps p.tables e below (T.setTop g) target := by
  subst eT
  obtain ⟨cq, kq, qa, qb, qc⟩ := isOf hZ rfl E
  obtain ⟨v, _, ⟨T', L', k', n'⟩, -, X', ⟨Lc, hQ, l18, y18, z18⟩, st⟩ := X.virtualBack hx (y := y) (z := y) hown (mvT hZ w1) (mvT hZ w5) (notFace_of_selects (args := #[]) (mvT hZ w6)) (mvT hZ w6) (mvT hZ w2) hy (backOf (W := W) hM hZ w4 w3 hf hl) qa qc hg hsize (Steps.refl _) hlen hstack hW hdg (fun _ _ => ⟨rfl, rfl, hc, hs⟩)
  dsimp only [Pt.U, Pt.locs, Pt.cells, Pt.slots] at X' l18 y18 z18 st hQ
  subst l18 y18 z18
  exact ⟨v, T', Lc, X', hQ, fun _ k => st.trans k⟩
/-- a private instance method by its contract -/
theorem callCp (X : Stand p l e R s m args below meth c T locs cells slots) (hx : p.tables.exec = Jvm.exec) (hZ : Z.Warmed39 s.vm) (eT : T.heap = h) {own : String} {index : Nat} {y : MethodName} {bytes : ByteArray} {maxL k : Nat} {ret : Option FieldType} {rm : Room} {Q : Option Value → Heap → List Loc → Prop} {a : Addr} {argsL rest : List Value}
    (hown : s.vm.findClass own = some m.cls) (w1 : (Cond.methodLink own index y).before a0 Z = true) (w2 : (Cond.instanceMethod y).before a0 Z = true) (w7 : (Cond.privateMethod y).before a0 Z = true) (wi : (Cond.instantiable y.cls k).before a0 Z = true) (w3 : (Cond.initialized y.cls).before a0 Z = true) (w4 : (Cond.code y bytes maxL ret).before a0 Z = true)
    (hy : y.cls ≠ "java/lang/invoke/MethodHandle" ∧ y.cls ≠ "java/lang/invoke/VarHandle") (E : Exa Z h a y.cls) (hM : Ct l y bytes maxL ret [] rm Z (.ref a :: argsL).toArray h Q) {W : Nat} (hf : rm.frames + 1 ≤ R.frames) (hl : W + (maxL + 11) + rm.locals ≤ R.locals)
    {g : JFrame} (hg : g.method = m) (hsize : g.locals.size = c.maxLocals) (hlen : ∀ sig, parseMethodDescriptor y.desc = some sig → argsL.length = sig.parameters.length) (hstack : g.stack = argsL.reverse ++ .ref a :: rest) (hW : 2 * g.monitorRoom + (rest.map fun v => v.category).sum ≤ W)
    (hdg : decode c.code g.pc = .ok (.invokevirtual index, 3)) (hc : cells + rm.cells ≤ R.cells) (hs : slots + rm.slots ≤ R.slots) :
    ∃ (v : Option Value) (T' : State) (L : List Loc), Stand p l e R s m args below meth c T' (locs ++ L) (cells + rm.cells) (slots + rm.slots) ∧ Q v T'.heap L ∧ ∀ target, Steps p.tables e below (T'.setTop { g with pc := g.pc + 3, stack := v.toList ++ rest }) target → Steps p.tables e below (T.setTop g) target := by
  subst eT
  obtain ⟨cq, q1, q2⟩ := E.cell
  have hpriv : s.PrivateAt y := Cond.privateMethod_at (mvP hZ w7 (args := #[]))
  obtain ⟨cc, kk, i1, i2, -, i4, -⟩ := Cond.instantiable_spec (mvT (args := args) hZ wi)
  have hni : kk.isInterface = false := by simp only [Bool.or_eq_false_iff] at i4; exact i4.1
  have hsel := selects_self_of_private (args := args) i1 i2 hni hpriv (mvT hZ w2) hy
  obtain ⟨v, _, ⟨T', L', k', n'⟩, -, X', ⟨Lc, hQ, l18, y18, z18⟩, st⟩ := X.privateBack hx (y := y) hown (mvT hZ w1) (mvT hZ w2) hsel hpriv (mvT hZ w4) hy (backOf (W := W) hM hZ w4 w3 hf hl) hg hsize (Steps.refl _) q1 q2 hlen hstack hW hdg (fun _ _ => ⟨rfl, rfl, hc, hs⟩)
  dsimp only [Pt.U, Pt.locs, Pt.cells, Pt.slots] at X' l18 y18 z18 st hQ
  subst l18 y18 z18
  exact ⟨v, T', Lc, X', hQ, fun _ k => st.trans k⟩
end OwnGo
end Jvm.RoadKit
namespace Jvm.RoadKit
open Sem ClassFile Op Lib Jvm.Stand Jvm.Free Jvm.LawKit
section OwnAry
variable {p : Program} {l : Launch} {e : Env} {R : Room} {s : State} {m : MethodId} {args : Array Value} {below : List Frame} {meth : Method} {c : Code} {T : State} {locs : List Loc} {cells slots : Nat} {Z : State} {a0 : Array Value} {h h' : Heap} {a b : Addr} {ws : List Addr}
/-- the int j is the natural i -/
def IsN (j : Int32) (i : Nat) : Prop := ¬ j < 0 ∧ j.toNatClampNeg = i
def updN {α : Type} (f : Nat → α) (i : Nat) (x : α) : Nat → α := fun k => if k = i then x else f k
theorem updN_hit {α : Type} (f : Nat → α) (i : Nat) (x : α) : updN f i x i = x := if_pos rfl
theorem updN_miss {α : Type} {f : Nat → α} {i k : Nat} {x : α} (q : k ≠ i) : updN f i x k = f k := if_neg q
theorem isN_ofNat {n : Nat} (q : n < 2 ^ 31) : IsN (Int32.ofNat n) n := by
  have e : (Int32.ofNat n).toInt = n := len_toInt q
  exact ⟨by simp only [Int32.lt_iff_toInt_lt, e, Int32.reduceToInt]; omega, by simp only [Int32.toNatClampNeg, e]; omega⟩
theorem isN_of {j : Int32} {n : Nat} (q : j.toInt = n) : IsN j n :=
  ⟨by simp only [Int32.lt_iff_toInt_lt, q, Int32.reduceToInt]; omega, by simp only [Int32.toNatClampNeg, q]; omega⟩
theorem IsN.toInt {j : Int32} {n : Nat} (q : IsN j n) : j.toInt = n := by
  obtain ⟨q1, q2⟩ := q
  simp only [Int32.lt_iff_toInt_lt, Int32.reduceToInt, Int32.toNatClampNeg] at q1 q2; omega
/-- the array at a: of ty, n places; the place i holds mk (f i) -/
def Ary {α : Type} (Z : State) (h : Heap) (a : Addr) (ty : FieldType) (mk : α → Value) (n : Nat) (f : Nat → α) : Prop := ∃ c : Cell, Arr Z h a c ty ∧ c.slots.size = n ∧ n < 2 ^ 31 ∧ ∀ i, i < n → c.slots[i]? = some (mk (f i))
variable {α : Type} {ty : FieldType} {mk : α → Value} {n : Nat} {f f' : Nat → α}
theorem Ary.lt (V : Ary Z h a ty mk n f) : a < h.size := by obtain ⟨c, A, -⟩ := V; exact A.lt
theorem Ary.ext (V : Ary Z h a ty mk n f) (E : Ext h h') : Ary Z h' a ty mk n f := by obtain ⟨c, A, r⟩ := V; exact ⟨c, A.ext E, r⟩
theorem Ary.other {sl : Nat} {v : Value} (V : Ary Z h b ty mk n f) (W : Wr h h' a sl v) (q : b ≠ a) : Ary Z h' b ty mk n f := by obtain ⟨c, A, r⟩ := V; exact ⟨c, A.other W q, r⟩
theorem Ary.keep (V : Ary Z h a ty mk n f) (K : Keep h h' ws) (q : a ∉ ws) : Ary Z h' a ty mk n f := by obtain ⟨c, A, r⟩ := V; exact ⟨c, ⟨K.2.1 a c A.1 q, A.2⟩, r⟩
theorem Ary.congr (V : Ary Z h a ty mk n f) (q : ∀ i, i < n → f i = f' i) : Ary Z h a ty mk n f' := by
  obtain ⟨c, A, S, B, H⟩ := V; exact ⟨c, A, S, B, fun i hi => by rw [← q i hi]; exact H i hi⟩
theorem Ary.small (V : Ary Z h a ty mk n f) : n < 2 ^ 31 := by obtain ⟨c, A, S, B, H⟩ := V; exact B
theorem Ary.set {i : Nat} {x : α} (V : Ary Z h a ty mk n f) (W : Wr h h' a i (mk x)) : Ary Z h' a ty mk n (updN f i x) := by
  obtain ⟨c, A, S, B, H⟩ := V
  refine ⟨c.setSlot i (mk x), A.same W, by rw [sz_set]; exact S, B, fun k hk => ?_⟩
  by_cases e : k = i
  · subst e
    rw [updN_hit]
    exact Array.getElem?_setIfInBounds_self_of_lt (by omega)
  · rw [updN_miss e]
    exact (Array.getElem?_setIfInBounds_ne (Ne.symm e)).trans (H k hk)
theorem Ary.ne {C : String} {k : Nat} (V : Ary Z h a ty mk n f) (E : Exa Z h b C) (wi : (Cond.instantiable C k).before a0 Z = true) : b ≠ a := by
  obtain ⟨c, A, -⟩ := V; exact ne_arr E wi A
theorem Ary.new {k : ClassId} {z : Int32} {d : α} (A : Arr Z h a (newA k ty z) ty) (hz : IsN z n) (hd : defaultValue ty = mk d) : Ary Z h a ty mk n (fun _ => d) := by
  obtain ⟨h1, rfl⟩ := hz
  exact ⟨_, A, sz_new _ _ _, (back32 h1).2, fun i hi => by simp [newA, hi, hd]⟩
theorem aryLen (X : Stand p l e R s m args below meth c T locs cells slots) (hx : p.tables.exec = Jvm.exec) (hZ : Z.Warmed39 s.vm) (eT : T.heap = h) (V : Ary Z h a ty mk n f) {g : JFrame} (hg : g.method = m) {rest : List Value} (hs : g.stack = .ref a :: rest) (hd : decode c.code g.pc = .ok (.arraylength, 1)) :
    ∀ t, Steps p.tables e below (T.setTop { g with pc := g.pc + 1, stack := .int (Int32.ofNat n) :: rest }) t → Steps p.tables e below (T.setTop g) t := by
  obtain ⟨c', A, S, B, H⟩ := V
  intro t k
  exact X.arraylength hx (by rw [eT]; exact A.1) (State.isArrayOf_alike hZ.alike A.2.1) hg hs hd t (by rw [S]; exact k)
theorem aryLdI {f : Nat → Int32} (X : Stand p l e R s m args below meth c T locs cells slots) (hx : p.tables.exec = Jvm.exec) (hZ : Z.Warmed39 s.vm) (eT : T.heap = h) (V : Ary Z h a .int Value.int n f) {j : Int32} {i : Nat} (hj : IsN j i) (hi : i < n) {g : JFrame} (hg : g.method = m) {rest : List Value} (hs : g.stack = .int j :: .ref a :: rest) (hd : decode c.code g.pc = .ok (.iaload, 1)) :
    ∀ t, Steps p.tables e below (T.setTop { g with pc := g.pc + 1, stack := .int (f i) :: rest }) t → Steps p.tables e below (T.setTop g) t := by
  obtain ⟨c', A, S, B, H⟩ := V
  obtain ⟨h1, rfl⟩ := hj
  exact fun t k => X.iaload hx (by rw [eT]; exact A.1) (State.isArrayOf_alike hZ.alike A.2.1) A.2.2 (fun q => q.elim h1 (fun q => by omega)) (H _ hi) hg hs hd t k
theorem aryLdJ {f : Nat → Int64} (X : Stand p l e R s m args below meth c T locs cells slots) (hx : p.tables.exec = Jvm.exec) (hZ : Z.Warmed39 s.vm) (eT : T.heap = h) (V : Ary Z h a .long Value.long n f) {j : Int32} {i : Nat} (hj : IsN j i) (hi : i < n) {g : JFrame} (hg : g.method = m) {rest : List Value} (hs : g.stack = .int j :: .ref a :: rest) (hd : decode c.code g.pc = .ok (.laload, 1)) :
    ∀ t, Steps p.tables e below (T.setTop { g with pc := g.pc + 1, stack := .long (f i) :: rest }) t → Steps p.tables e below (T.setTop g) t := by
  obtain ⟨c', A, S, B, H⟩ := V
  obtain ⟨h1, rfl⟩ := hj
  exact fun t k => X.laload hx (by rw [eT]; exact A.1) (State.isArrayOf_alike hZ.alike A.2.1) A.2.2 (fun q => q.elim h1 (fun q => by omega)) (H _ hi) hg hs hd t k
theorem aryLdB {f : Nat → Int32} (X : Stand p l e R s m args below meth c T locs cells slots) (hx : p.tables.exec = Jvm.exec) (hZ : Z.Warmed39 s.vm) (eT : T.heap = h) (V : Ary Z h a .byte Value.int n f) {j : Int32} {i : Nat} (hj : IsN j i) (hi : i < n) {g : JFrame} (hg : g.method = m) {rest : List Value} (hs : g.stack = .int j :: .ref a :: rest) (hd : decode c.code g.pc = .ok (.baload, 1)) :
    ∀ t, Steps p.tables e below (T.setTop { g with pc := g.pc + 1, stack := .int (f i) :: rest }) t → Steps p.tables e below (T.setTop g) t := by
  obtain ⟨c', A, S, B, H⟩ := V
  obtain ⟨h1, rfl⟩ := hj
  exact fun t k => X.baloadBytes hx (by rw [eT]; exact A.1) (State.isArrayOf_alike hZ.alike A.2.1) A.2.2 (fun q => q.elim h1 (fun q => by omega)) (H _ hi) hg hs hd t k
theorem aryStI {f : Nat → Int32} (X : Stand p l e R s m args below meth c T locs cells slots) (hx : p.tables.exec = Jvm.exec) (hZ : Z.Warmed39 s.vm) (eT : T.heap = h) (V : Ary Z h a .int Value.int n f) {j x : Int32} {i : Nat} (hj : IsN j i) (hi : i < n) {g : JFrame} (hg : g.method = m) {rest : List Value} (hs : g.stack = .int x :: .int j :: .ref a :: rest) (hd : decode c.code g.pc = .ok (.iastore, 1)) :
    ∃ T' h', Stand p l e R s m args below meth c T' (locs ++ [⟨a, i⟩]) cells slots ∧ T'.heap = h' ∧ Wr h h' a i (.int x) ∧ Ary Z h' a .int Value.int n (updN f i x) ∧ ∀ target, Steps p.tables e below (T'.setTop { g with pc := g.pc + 1, stack := rest }) target → Steps p.tables e below (T.setTop g) target := by
  obtain ⟨c', A, S, B, H⟩ := id V
  obtain ⟨h1, rfl⟩ := hj
  obtain ⟨T', h', X', e', W', st⟩ := stI X hx hZ eT A (fun q => q.elim h1 (fun q => by omega)) hg hs hd
  exact ⟨T', h', X', e', W', V.set (mk := Value.int) W', st⟩
theorem aryStJ {f : Nat → Int64} (X : Stand p l e R s m args below meth c T locs cells slots) (hx : p.tables.exec = Jvm.exec) (hZ : Z.Warmed39 s.vm) (eT : T.heap = h) (V : Ary Z h a .long Value.long n f) {j : Int32} {x : Int64} {i : Nat} (hj : IsN j i) (hi : i < n) {g : JFrame} (hg : g.method = m) {rest : List Value} (hs : g.stack = .long x :: .int j :: .ref a :: rest) (hd : decode c.code g.pc = .ok (.lastore, 1)) :
    ∃ T' h', Stand p l e R s m args below meth c T' (locs ++ [⟨a, i⟩]) cells slots ∧ T'.heap = h' ∧ Wr h h' a i (.long x) ∧ Ary Z h' a .long Value.long n (updN f i x) ∧ ∀ target, Steps p.tables e below (T'.setTop { g with pc := g.pc + 1, stack := rest }) target → Steps p.tables e below (T.setTop g) target := by
  obtain ⟨c', A, S, B, H⟩ := id V
  obtain ⟨h1, rfl⟩ := hj
  obtain ⟨T', h', X', e', W', st⟩ := stJ X hx hZ eT A (fun q => q.elim h1 (fun q => by omega)) hg hs hd
  exact ⟨T', h', X', e', W', V.set (mk := Value.long) W', st⟩
theorem aryStB {f : Nat → Int32} (X : Stand p l e R s m args below meth c T locs cells slots) (hx : p.tables.exec = Jvm.exec) (hZ : Z.Warmed39 s.vm) (eT : T.heap = h) (V : Ary Z h a .byte Value.int n f) {j x : Int32} {i : Nat} (hj : IsN j i) (hi : i < n) {g : JFrame} (hg : g.method = m) {rest : List Value} (hs : g.stack = .int x :: .int j :: .ref a :: rest) (hd : decode c.code g.pc = .ok (.bastore, 1)) :
    ∃ T' h', Stand p l e R s m args below meth c T' (locs ++ [⟨a, i⟩]) cells slots ∧ T'.heap = h' ∧ Wr h h' a i (.int x.toInt8.toInt32) ∧ Ary Z h' a .byte Value.int n (updN f i x.toInt8.toInt32) ∧ ∀ target, Steps p.tables e below (T'.setTop { g with pc := g.pc + 1, stack := rest }) target → Steps p.tables e below (T.setTop g) target := by
  obtain ⟨c', A, S, B, H⟩ := id V
  obtain ⟨h1, rfl⟩ := hj
  obtain ⟨T', h', X', e', W', st⟩ := stB X hx hZ eT A (fun q => q.elim h1 (fun q => by omega)) hg hs hd
  exact ⟨T', h', X', e', W', V.set (mk := Value.int) W', st⟩
theorem aryStZ {f : Nat → Int32} (X : Stand p l e R s m args below meth c T locs cells slots) (hx : p.tables.exec = Jvm.exec) (hZ : Z.Warmed39 s.vm) (eT : T.heap = h) (V : Ary Z h a .boolean Value.int n f) {j x : Int32} {i : Nat} (hj : IsN j i) (hi : i < n) {g : JFrame} (hg : g.method = m) {rest : List Value} (hs : g.stack = .int x :: .int j :: .ref a :: rest) (hd : decode c.code g.pc = .ok (.bastore, 1)) :
    ∃ T' h', Stand p l e R s m args below meth c T' (locs ++ [⟨a, i⟩]) cells slots ∧ T'.heap = h' ∧ Wr h h' a i (.int (x &&& 1)) ∧ Ary Z h' a .boolean Value.int n (updN f i (x &&& 1)) ∧ ∀ target, Steps p.tables e below (T'.setTop { g with pc := g.pc + 1, stack := rest }) target → Steps p.tables e below (T.setTop g) target := by
  obtain ⟨c', A, S, B, H⟩ := id V
  obtain ⟨h1, rfl⟩ := hj
  obtain ⟨T', h', X', e', W', st⟩ := stZ X hx hZ eT A (fun q => q.elim h1 (fun q => by omega)) hg hs hd
  exact ⟨T', h', X', e', W', V.set (mk := Value.int) W', st⟩
end OwnAry
end Jvm.RoadKit
namespace Jvm.Kit
open Jvm.RoadKit
theorem own_gt (x y : Int64) : (0 : Int32) < lcmpW x y ↔ y.toInt < x.toInt := by
  rw [← Int64.lt_iff_toInt_lt]; unfold lcmpW
  by_cases h : y < x
  · simp [h]
  · by_cases h2 : x = y
    · subst h2; simp
    · simp [h, h2]
theorem own_lt (x y : Int64) : lcmpW x y < (0 : Int32) ↔ x.toInt < y.toInt := by
  have e : x.toInt < y.toInt ↔ ¬ y < x ∧ x ≠ y := by
    rw [Int64.lt_iff_toInt_lt, ne_eq, ← Int64.toInt_inj]; omega
  rw [e]; unfold lcmpW
  by_cases h : y < x
  · simp [h]
  · by_cases h2 : x = y
    · subst h2; simp
    · simp [h, h2]
theorem own_ceq (x y : Int64) : lcmpW x y = (0 : Int32) ↔ x = y := by
  unfold lcmpW
  by_cases h : y < x
  · simp [h]; intro q; subst q; exact absurd h (by simp)
  · by_cases h2 : x = y
    · subst h2; simp
    · simp [h, h2]
theorem own_lti {x : Int32} {r : Int32} {k : Int} (e : r.toInt = k) : x < r ↔ x.toInt < k := by rw [Int32.lt_iff_toInt_lt, e]
theorem own_gti {x : Int32} {r : Int32} {k : Int} (e : r.toInt = k) : r < x ↔ k < x.toInt := by rw [Int32.lt_iff_toInt_lt, e]
theorem own_m (a : Int32) : 0 ≤ (a &&& (2147483647 : Int32)).toInt := by
  have h := i32_and_bounds a (m := 2147483647) (by decide)
  rw [Kit.i32_nonneg] at h; exact h.1
theorem own_mk (a : Int32) {k : Int32} {n : Int} (hk : 0 ≤ k) (e : k.toInt = n) : 0 ≤ (a &&& k).toInt ∧ (a &&& k).toInt ≤ n := by
  have h := i32_and_bounds a hk
  rw [Kit.i32_nonneg, Int32.le_iff_toInt_le, e] at h; exact h
theorem own_rem {a b : Int32} (ha : 0 ≤ a.toInt) (hb : 0 < b.toInt) : 0 ≤ (a % b).toInt ∧ (a % b).toInt < b.toInt := by
  rw [i32_rem_nonneg ha]; exact ⟨Int.emod_nonneg _ (by omega), Int.emod_lt_of_pos _ hb⟩
theorem own_one : (1 : Int32).toInt = 1 := by decide
theorem own_zero : (0 : Int32).toInt = 0 := by decide
theorem own_zero64 : (0 : Int64).toInt = 0 := by decide
theorem own_one64 : (1 : Int64).toInt = 1 := by decide
theorem own_nz {a : Int32} (h : 0 < a.toInt) : a ≠ 0 := fun q => by rw [q] at h; exact absurd h (by decide)
end Jvm.Kit
namespace Jvm.Kit
theorem own_succ (i : Nat) : Int32.ofNat i + (1 : Int32) = Int32.ofNat (i + 1) := by rw [Int32.ofNat_add]; rfl
theorem own_tn {n : Nat} (q : n < 2 ^ 31) : (Int32.ofNat n).toInt = n := Jvm.RoadKit.len_toInt q
theorem own_ltN {i n : Nat} (hi : i < 2 ^ 31) (hn : n < 2 ^ 31) : Int32.ofNat i < Int32.ofNat n ↔ i < n := by
  rw [Int32.lt_iff_toInt_lt, own_tn hi, own_tn hn]; omega
theorem own_nat {j : Int32} (h : 0 ≤ j.toInt) : ∃ n : Nat, j = Int32.ofNat n ∧ n < 2 ^ 31 ∧ j.toInt = n := by
  have := j.toInt_lt
  have hn : j.toInt.toNat < 2 ^ 31 := by omega
  exact ⟨j.toInt.toNat, Int32.toInt_inj.mp (by rw [own_tn hn]; omega), hn, by omega⟩
end Jvm.Kit
namespace Jvm.Pilot.@@N@@
open Jvm Jvm.ClassFile Sem Op Lib Jvm.Free Jvm.Stand Jvm.LawKit Jvm.RoadKit Bundle Jvm.Pilot.@@N@@.Jvm.D
open Jvm.Kit
def own_min (x y : Int32) : Int32 := if y < x then y else x
def own_max (x y : Int32) : Int32 := if x < y then y else x
theorem own_ofn {n k : Nat} (hn : n < 2 ^ 31) (hk : k < 2 ^ 31) (h : Int32.ofNat n = Int32.ofNat k) : n = k := by
  have := congrArg Int32.toInt h
  rw [own_tn hn, own_tn hk] at this; omega
theorem own_t64 {n : Nat} (q : n < 2 ^ 31) : (Int32.ofNat n).toInt64.toInt = n := by rw [i64_of_i32, own_tn q]
theorem own_nz64 {n : Nat} (h : 0 < n) (q : n < 2 ^ 31) : (Int32.ofNat n).toInt64 ≠ 0 := fun e => by
  have : (Int32.ofNat n).toInt64.toInt = 0 := by rw [e]; decide
  rw [own_t64 q] at this; omega
theorem own_m64 {a b : Nat} (ha : a ≤ 65536) (hb : b ≤ 65536) : ((Int32.ofNat a).toInt64 * (Int32.ofNat b).toInt64).toInt = ((a * b : Nat) : Int) ∧ a * b ≤ 65536 * 65536 := by
  have q : a * b ≤ 65536 * 65536 := Nat.mul_le_mul ha hb
  have e : (Int32.ofNat a).toInt64.toInt * (Int32.ofNat b).toInt64.toInt = ((a * b : Nat) : Int) := by rw [own_t64 (by omega), own_t64 (by omega), Int.natCast_mul]
  exact ⟨by rw [i64_mul (by rw [e]; omega) (by rw [e]; omega), e], q⟩
theorem own_l2i {z : Int64} {n : Nat} (h : z.toInt = n) (hn : n < 2 ^ 31) : z.toInt32 = Int32.ofNat n :=
  Int32.toInt_inj.mp (by rw [i32_of_i64 (by rw [h]; omega) (by rw [h]; omega), own_tn hn, h])
/-- first, as naturals -/
theorem own_first {i G n : Nat} (hi : i ≤ 65536) (hG : G ≤ 65536) (hn : 0 < n) (hn2 : n ≤ 65536) (hs : i * G / n < 2 ^ 31) : ((Int32.ofNat i).toInt64 * (Int32.ofNat G).toInt64 / (Int32.ofNat n).toInt64).toInt32 = Int32.ofNat (i * G / n) := by
  obtain ⟨e, _⟩ := own_m64 hi hG
  refine own_l2i ?_ hs
  rw [i64_div (by rw [own_t64 (by omega)]; omega), e, own_t64 (by omega), Int.tdiv_eq_ediv_of_nonneg (by omega)]
  rfl
theorem own_owner {g G n : Nat} (hg : g ≤ 65536) (hG : 0 < G) (hG2 : G ≤ 65536) (hn : 0 < n) (hn2 : n ≤ 65536) (hs : (g * n + n - 1) / G < 2 ^ 31) : (((Int32.ofNat g).toInt64 * (Int32.ofNat n).toInt64 + (Int32.ofNat n).toInt64 - (1 : Int64)) / (Int32.ofNat G).toInt64).toInt32 = Int32.ofNat ((g * n + n - 1) / G) := by
  obtain ⟨e, q⟩ := own_m64 hg hn2
  have e1 : ((Int32.ofNat g).toInt64 * (Int32.ofNat n).toInt64 + (Int32.ofNat n).toInt64).toInt = ((g * n + n : Nat) : Int) := by
    rw [i64_add (by rw [e, own_t64 (by omega)]; omega) (by rw [e, own_t64 (by omega)]; omega), e, own_t64 (by omega)]; omega
  have e2 : ((Int32.ofNat g).toInt64 * (Int32.ofNat n).toInt64 + (Int32.ofNat n).toInt64 - (1 : Int64)).toInt = ((g * n + n - 1 : Nat) : Int) := by
    rw [i64_sub (by rw [e1, own_one64]; omega) (by rw [e1, own_one64]; omega), e1, own_one64]; omega
  refine own_l2i ?_ hs
  rw [i64_div (by rw [own_t64 (by omega)]; omega), e2, own_t64 (by omega), Int.tdiv_eq_ediv_of_nonneg (by omega)]
  rfl
theorem d_jdk_29_method_69_0 : decode jdk_29_method_69_code 0 = .ok (.iload_n 0, 1) := by decide +kernel
theorem d_jdk_29_method_69_1 : decode jdk_29_method_69_code 1 = .ok (.iload_n 1, 1) := by decide +kernel
theorem d_jdk_29_method_69_2 : decode jdk_29_method_69_code 2 = .ok (.if_icmp .gt 7, 3) := by decide +kernel
theorem d_jdk_29_method_69_9 : decode jdk_29_method_69_code 9 = .ok (.iload_n 1, 1) := by decide +kernel
theorem d_jdk_29_method_69_10 : decode jdk_29_method_69_code 10 = .ok (.ireturn, 1) := by decide +kernel
theorem d_jdk_29_method_69_5 : decode jdk_29_method_69_code 5 = .ok (.iload_n 0, 1) := by decide +kernel
theorem d_jdk_29_method_69_6 : decode jdk_29_method_69_code 6 = .ok (.goto 4, 3) := by decide +kernel
theorem ef_rm_min (m : MethodId) (i : Int32) (j : Int32) : entryFrame m #[(.int i), (.int j)] 2 = mkF m 0 #[.val (.int i), .val (.int j)] [] := by first | (simp [entryFrame, mkF, argsToLocals, Value.category]; done) | rfl
set_option maxRecDepth 65536 in
set_option maxHeartbeats 40000000 in
theorem rm_min (l : Launch) (Z : State) (a0 : Array Value) (hw : ∀ d ∈ tables_1, d.before a0 Z = true) (i : Int32) (j : Int32)  (h0 : Heap) (n0 : Nat) (Z0 : n0 ≤ h0.size)  :
    Ct l (⟨"java/lang/Math", "min", "(II)I"⟩ : MethodName) jdk_29_method_69_code 2 (some .int) [] ({ frames := 0, cells := 0, slots := 0, locals := 0 } : Room) Z #[(.int i), (.int j)] h0 (fun v h L => v = some (.int (own_min i j)) ∧ Fr n0 L ∧ h = h0) := by
  refine Ct.of (Jvm.Free.JP.mathPlain rfl (by decide +kernel)) (fun m => ef_rm_min m i j) ?_
  intro p e s m below meth c T0 X0 hx hby hml hret hlk hown hnm hZ e0 P hP
  refine Go.st (fun _ kt => XS.iloadN X0.here hx rfl (hb hby d_jdk_29_method_69_0) rfl (XS.iloadN X0.here hx rfl (hb hby d_jdk_29_method_69_1) rfl kt)) ?_
  show Go p e below P (T0.setTop (mkF m 2 #[.val (.int i), .val (.int j)] [(.int j), (.int i)]))
  by_cases br1 : j < i
  · refine Go.st (fun _ kt => XS.icmpYes X0.here hx rfl (pc0 := 2) (pc' := 9) rfl (hb hby d_jdk_29_method_69_2) rfl (tlt br1).2.2.1 (by decide) (by decide) kt) ?_
    show Go p e below P (T0.setTop (mkF m 9 #[.val (.int i), .val (.int j)] []))
    refine Go.st (fun _ kt => XS.iloadN X0.here hx rfl (hb hby d_jdk_29_method_69_9) rfl kt) ?_
    show Go p e below P (T0.setTop (mkF m 10 #[.val (.int i), .val (.int j)] [(.int j)]))
    exact goI X0 hx hret hlk (hb hby d_jdk_29_method_69_10) hP (by decide) (by decide) ⟨by simp [own_min, br1], (Fr.nil n0), e0⟩
  · refine Go.st (fun _ kt => XS.icmpNo X0.here hx rfl (hb hby d_jdk_29_method_69_2) rfl (flt br1).2.2.1 kt) ?_
    show Go p e below P (T0.setTop (mkF m 5 #[.val (.int i), .val (.int j)] []))
    refine Go.st (fun _ kt => XS.iloadN X0.here hx rfl (hb hby d_jdk_29_method_69_5) rfl (XS.goto X0.here hx rfl (pc0 := 6) (pc' := 10) rfl (hb hby d_jdk_29_method_69_6) (by decide) (by decide) kt)) ?_
    show Go p e below P (T0.setTop (mkF m 10 #[.val (.int i), .val (.int j)] [(.int i)]))
    exact goI X0 hx hret hlk (hb hby d_jdk_29_method_69_10) hP (by decide) (by decide) ⟨by simp [own_min, br1], (Fr.nil n0), e0⟩
theorem d_jdk_29_method_65_0 : decode jdk_29_method_65_code 0 = .ok (.iload_n 0, 1) := by decide +kernel
theorem d_jdk_29_method_65_1 : decode jdk_29_method_65_code 1 = .ok (.iload_n 1, 1) := by decide +kernel
theorem d_jdk_29_method_65_2 : decode jdk_29_method_65_code 2 = .ok (.if_icmp .lt 7, 3) := by decide +kernel
theorem d_jdk_29_method_65_9 : decode jdk_29_method_65_code 9 = .ok (.iload_n 1, 1) := by decide +kernel
theorem d_jdk_29_method_65_10 : decode jdk_29_method_65_code 10 = .ok (.ireturn, 1) := by decide +kernel
theorem d_jdk_29_method_65_5 : decode jdk_29_method_65_code 5 = .ok (.iload_n 0, 1) := by decide +kernel
theorem d_jdk_29_method_65_6 : decode jdk_29_method_65_code 6 = .ok (.goto 4, 3) := by decide +kernel
theorem ef_rm_max (m : MethodId) (i : Int32) (j : Int32) : entryFrame m #[(.int i), (.int j)] 2 = mkF m 0 #[.val (.int i), .val (.int j)] [] := by first | (simp [entryFrame, mkF, argsToLocals, Value.category]; done) | rfl
set_option maxRecDepth 65536 in
set_option maxHeartbeats 40000000 in
theorem rm_max (l : Launch) (Z : State) (a0 : Array Value) (hw : ∀ d ∈ tables_1, d.before a0 Z = true) (i : Int32) (j : Int32)  (h0 : Heap) (n0 : Nat) (Z0 : n0 ≤ h0.size)  :
    Ct l (⟨"java/lang/Math", "max", "(II)I"⟩ : MethodName) jdk_29_method_65_code 2 (some .int) [] ({ frames := 0, cells := 0, slots := 0, locals := 0 } : Room) Z #[(.int i), (.int j)] h0 (fun v h L => v = some (.int (own_max i j)) ∧ Fr n0 L ∧ h = h0) := by
  refine Ct.of (Jvm.Free.JP.mathPlain rfl (by decide +kernel)) (fun m => ef_rm_max m i j) ?_
  intro p e s m below meth c T0 X0 hx hby hml hret hlk hown hnm hZ e0 P hP
  refine Go.st (fun _ kt => XS.iloadN X0.here hx rfl (hb hby d_jdk_29_method_65_0) rfl (XS.iloadN X0.here hx rfl (hb hby d_jdk_29_method_65_1) rfl kt)) ?_
  show Go p e below P (T0.setTop (mkF m 2 #[.val (.int i), .val (.int j)] [(.int j), (.int i)]))
  by_cases br1 : i < j
  · refine Go.st (fun _ kt => XS.icmpYes X0.here hx rfl (pc0 := 2) (pc' := 9) rfl (hb hby d_jdk_29_method_65_2) rfl (tlt br1).1 (by decide) (by decide) kt) ?_
    show Go p e below P (T0.setTop (mkF m 9 #[.val (.int i), .val (.int j)] []))
    refine Go.st (fun _ kt => XS.iloadN X0.here hx rfl (hb hby d_jdk_29_method_65_9) rfl kt) ?_
    show Go p e below P (T0.setTop (mkF m 10 #[.val (.int i), .val (.int j)] [(.int j)]))
    exact goI X0 hx hret hlk (hb hby d_jdk_29_method_65_10) hP (by decide) (by decide) ⟨by simp [own_max, br1], (Fr.nil n0), e0⟩
  · refine Go.st (fun _ kt => XS.icmpNo X0.here hx rfl (hb hby d_jdk_29_method_65_2) rfl (flt br1).1 kt) ?_
    show Go p e below P (T0.setTop (mkF m 5 #[.val (.int i), .val (.int j)] []))
    refine Go.st (fun _ kt => XS.iloadN X0.here hx rfl (hb hby d_jdk_29_method_65_5) rfl (XS.goto X0.here hx rfl (pc0 := 6) (pc' := 10) rfl (hb hby d_jdk_29_method_65_6) (by decide) (by decide) kt)) ?_
    show Go p e below P (T0.setTop (mkF m 10 #[.val (.int i), .val (.int j)] [(.int i)]))
    exact goI X0 hx hret hlk (hb hby d_jdk_29_method_65_10) hP (by decide) (by decide) ⟨by simp [own_max, br1], (Fr.nil n0), e0⟩
theorem d_prog_72_method_5_0 : decode prog_72_method_5_code 0 = .ok (.iload_n 0, 1) := by decide +kernel
theorem d_prog_72_method_5_1 : decode prog_72_method_5_code 1 = .ok (.i2l, 1) := by decide +kernel
theorem d_prog_72_method_5_2 : decode prog_72_method_5_code 2 = .ok (.iload_n 2, 1) := by decide +kernel
theorem d_prog_72_method_5_3 : decode prog_72_method_5_code 3 = .ok (.i2l, 1) := by decide +kernel
theorem d_prog_72_method_5_4 : decode prog_72_method_5_code 4 = .ok (.lmul, 1) := by decide +kernel
theorem d_prog_72_method_5_5 : decode prog_72_method_5_code 5 = .ok (.iload_n 2, 1) := by decide +kernel
theorem d_prog_72_method_5_6 : decode prog_72_method_5_code 6 = .ok (.i2l, 1) := by decide +kernel
theorem d_prog_72_method_5_7 : decode prog_72_method_5_code 7 = .ok (.ladd, 1) := by decide +kernel
theorem d_prog_72_method_5_8 : decode prog_72_method_5_code 8 = .ok (.lconst 1, 1) := by decide +kernel
theorem d_prog_72_method_5_9 : decode prog_72_method_5_code 9 = .ok (.lsub, 1) := by decide +kernel
theorem d_prog_72_method_5_10 : decode prog_72_method_5_code 10 = .ok (.iload_n 1, 1) := by decide +kernel
theorem d_prog_72_method_5_11 : decode prog_72_method_5_code 11 = .ok (.i2l, 1) := by decide +kernel
theorem d_prog_72_method_5_12 : decode prog_72_method_5_code 12 = .ok (.ldiv, 1) := by decide +kernel
theorem d_prog_72_method_5_13 : decode prog_72_method_5_code 13 = .ok (.l2i, 1) := by decide +kernel
theorem d_prog_72_method_5_14 : decode prog_72_method_5_code 14 = .ok (.ireturn, 1) := by decide +kernel
theorem pn_0 : plainName "io/sluicegate/runtime/KeyGroups" = true := by first | (simp [plainName, overriddenIn]; done) | decide +kernel
theorem ef_rmKO (m : MethodId) (g : Int32) (G : Int32) (n : Int32) : entryFrame m #[(.int g), (.int G), (.int n)] 3 = mkF m 0 #[.val (.int g), .val (.int G), .val (.int n)] [] := by first | (simp [entryFrame, mkF, argsToLocals, Value.category]; done) | rfl
set_option maxRecDepth 65536 in
set_option maxHeartbeats 40000000 in
theorem rmKO (l : Launch) (Z : State) (a0 : Array Value) (hw : ∀ d ∈ tables_1, d.before a0 Z = true) (g : Int32) (G : Int32) (n : Int32)  (h0 : Heap) (n0 : Nat) (Z0 : n0 ≤ h0.size) (hG : G.toInt64 ≠ 0) :
    Ct l (⟨"io/sluicegate/runtime/KeyGroups", "owner", "(III)I"⟩ : MethodName) prog_72_method_5_code 3 (some .int) [] ({ frames := 0, cells := 0, slots := 0, locals := 0 } : Room) Z #[(.int g), (.int G), (.int n)] h0 (fun v h L => v = some (.int ((g.toInt64 * n.toInt64 + n.toInt64 - (1 : Int64)) / G.toInt64).toInt32) ∧ Fr n0 L ∧ h = h0) := by
  refine Ct.of (plainFor_of_name pn_0) (fun m => ef_rmKO m g G n) ?_
  intro p e s m below meth c T0 X0 hx hby hml hret hlk hown hnm hZ e0 P hP
  refine Go.st (fun _ kt => XS.iloadN X0.here hx rfl (hb hby d_prog_72_method_5_0) rfl (XS.i2l X0.here hx rfl (hb hby d_prog_72_method_5_1) rfl (XS.iloadN X0.here hx rfl (hb hby d_prog_72_method_5_2) rfl (XS.i2l X0.here hx rfl (hb hby d_prog_72_method_5_3) rfl (XS.lmul X0.here hx rfl (hb hby d_prog_72_method_5_4) rfl (XS.iloadN X0.here hx rfl (hb hby d_prog_72_method_5_5) rfl (XS.i2l X0.here hx rfl (hb hby d_prog_72_method_5_6) rfl (XS.ladd X0.here hx rfl (hb hby d_prog_72_method_5_7) rfl kt)))))))) ?_
  show Go p e below P (T0.setTop (mkF m 8 #[.val (.int g), .val (.int G), .val (.int n)] [(.long (((g.toInt64) * (n.toInt64)) + (n.toInt64)))]))
  refine Go.st (fun _ kt => XS.lconst X0.here hx rfl (hb hby d_prog_72_method_5_8) (XS.lsub X0.here hx rfl (hb hby d_prog_72_method_5_9) rfl (XS.iloadN X0.here hx rfl (hb hby d_prog_72_method_5_10) rfl (XS.i2l X0.here hx rfl (hb hby d_prog_72_method_5_11) rfl (XS.ldiv X0.here hx rfl (hb hby d_prog_72_method_5_12) rfl hG (XS.l2i X0.here hx rfl (hb hby d_prog_72_method_5_13) rfl kt)))))) ?_
  show Go p e below P (T0.setTop (mkF m 14 #[.val (.int g), .val (.int G), .val (.int n)] [(.int ((((((g.toInt64) * (n.toInt64)) + (n.toInt64)) - (1 : Int64)) / (G.toInt64)).toInt32))]))
  exact goI X0 hx hret hlk (hb hby d_prog_72_method_5_14) hP (by decide) (by decide) ⟨rfl, (Fr.nil n0), e0⟩
theorem d_prog_70_method_13_0 : decode prog_70_method_13_code 0 = .ok (.iload_n 1, 1) := by decide +kernel
theorem d_prog_70_method_13_1 : decode prog_70_method_13_code 1 = .ok (.i2l, 1) := by decide +kernel
theorem d_prog_70_method_13_2 : decode prog_70_method_13_code 2 = .ok (.aload_n 0, 1) := by decide +kernel
theorem d_prog_70_method_13_3 : decode prog_70_method_13_code 3 = .ok (.getfield 16, 3) := by decide +kernel
theorem d_prog_70_method_13_6 : decode prog_70_method_13_code 6 = .ok (.i2l, 1) := by decide +kernel
theorem d_prog_70_method_13_7 : decode prog_70_method_13_code 7 = .ok (.lmul, 1) := by decide +kernel
theorem d_prog_70_method_13_8 : decode prog_70_method_13_code 8 = .ok (.iload_n 2, 1) := by decide +kernel
theorem d_prog_70_method_13_9 : decode prog_70_method_13_code 9 = .ok (.i2l, 1) := by decide +kernel
theorem d_prog_70_method_13_10 : decode prog_70_method_13_code 10 = .ok (.ldiv, 1) := by decide +kernel
theorem d_prog_70_method_13_11 : decode prog_70_method_13_code 11 = .ok (.l2i, 1) := by decide +kernel
theorem d_prog_70_method_13_12 : decode prog_70_method_13_code 12 = .ok (.ireturn, 1) := by decide +kernel
theorem pn_1 : plainName "io/sluicegate/runtime/KeyGroupPlan" = true := by first | (simp [plainName, overriddenIn]; done) | decide +kernel
theorem ef_rmF (m : MethodId) (a : Addr) (i : Int32) (n : Int32) : entryFrame m #[(.ref a), (.int i), (.int n)] 3 = mkF m 0 #[.val (.ref a), .val (.int i), .val (.int n)] [] := by first | (simp [entryFrame, mkF, argsToLocals, Value.category]; done) | rfl
set_option maxRecDepth 65536 in
set_option maxHeartbeats 40000000 in
theorem rmF (l : Launch) (Z : State) (a0 : Array Value) (hw : ∀ d ∈ tables_1, d.before a0 Z = true) (a : Addr) (i : Int32) (n : Int32) (G : Int32) (h0 : Heap) (n0 : Nat) (Z0 : n0 ≤ h0.size) (Fg : Fld Z h0 a "io/sluicegate/runtime/KeyGroupPlan" "groups" "I" (.int G)) (hn : n.toInt64 ≠ 0) :
    Ct l (⟨"io/sluicegate/runtime/KeyGroupPlan", "first", "(II)I"⟩ : MethodName) prog_70_method_13_code 3 (some .int) [] ({ frames := 0, cells := 0, slots := 0, locals := 0 } : Room) Z #[(.ref a), (.int i), (.int n)] h0 (fun v h L => v = some (.int (i.toInt64 * G.toInt64 / n.toInt64).toInt32) ∧ Fr n0 L ∧ h = h0) := by
  refine Ct.of (plainFor_of_name pn_1) (fun m => ef_rmF m a i n) ?_
  intro p e s m below meth c T0 X0 hx hby hml hret hlk hown hnm hZ e0 P hP
  refine Go.st (fun _ kt => XS.iloadN X0.here hx rfl (hb hby d_prog_70_method_13_0) rfl (XS.i2l X0.here hx rfl (hb hby d_prog_70_method_13_1) rfl (XS.aloadN X0.here hx rfl (hb hby d_prog_70_method_13_2) rfl rfl kt))) ?_
  show Go p e below P (T0.setTop (mkF m 3 #[.val (.ref a), .val (.int i), .val (.int n)] [(.ref a), (.long (i.toInt64))]))
  obtain ⟨T1, X1, e1, st1⟩ := getF X0 hx hZ hown (host := "") (Or.inl (hw _ (List.mem_of_getElem? (i := 10) rfl))) Via.refl e0 Fg (g := (mkF m 3 #[.val (.ref a), .val (.int i), .val (.int n)] [(.ref a), (.long (i.toInt64))])) rfl rfl (hb hby d_prog_70_method_13_3)
  refine Go.st st1 ?_
  show Go p e below P (T1.setTop (mkF m 6 #[.val (.ref a), .val (.int i), .val (.int n)] [(.int G), (.long (i.toInt64))]))
  refine Go.st (fun _ kt => XS.i2l X1.here hx rfl (hb hby d_prog_70_method_13_6) rfl (XS.lmul X1.here hx rfl (hb hby d_prog_70_method_13_7) rfl (XS.iloadN X1.here hx rfl (hb hby d_prog_70_method_13_8) rfl (XS.i2l X1.here hx rfl (hb hby d_prog_70_method_13_9) rfl (XS.ldiv X1.here hx rfl (hb hby d_prog_70_method_13_10) rfl hn (XS.l2i X1.here hx rfl (hb hby d_prog_70_method_13_11) rfl kt)))))) ?_
  show Go p e below P (T1.setTop (mkF m 12 #[.val (.ref a), .val (.int i), .val (.int n)] [(.int ((((i.toInt64) * (G.toInt64)) / (n.toInt64)).toInt32))]))
  exact goI X1 hx hret hlk (hb hby d_prog_70_method_13_12) hP (by decide) (by decide) ⟨rfl, (Fr.nil n0), e1⟩
theorem d_prog_70_method_14_0 : decode prog_70_method_14_code 0 = .ok (.iload_n 1, 1) := by decide +kernel
theorem d_prog_70_method_14_1 : decode prog_70_method_14_code 1 = .ok (.aload_n 0, 1) := by decide +kernel
theorem d_prog_70_method_14_2 : decode prog_70_method_14_code 2 = .ok (.getfield 16, 3) := by decide +kernel
theorem d_prog_70_method_14_5 : decode prog_70_method_14_code 5 = .ok (.iload_n 2, 1) := by decide +kernel
theorem pd_2 : parseMethodDescriptor "(III)I" = some ⟨[.int, .int, .int], some .int⟩ := by decide +kernel
theorem d_prog_70_method_14_6 : decode prog_70_method_14_code 6 = .ok (.invokestatic 139, 3) := by decide +kernel
theorem d_prog_70_method_14_9 : decode prog_70_method_14_code 9 = .ok (.ireturn, 1) := by decide +kernel
theorem ef_rmO (m : MethodId) (a : Addr) (g : Int32) (n : Int32) : entryFrame m #[(.ref a), (.int g), (.int n)] 3 = mkF m 0 #[.val (.ref a), .val (.int g), .val (.int n)] [] := by first | (simp [entryFrame, mkF, argsToLocals, Value.category]; done) | rfl
set_option maxRecDepth 65536 in
set_option maxHeartbeats 40000000 in
theorem rmO (l : Launch) (Z : State) (a0 : Array Value) (hw : ∀ d ∈ tables_1, d.before a0 Z = true) (a : Addr) (g : Int32) (n : Int32) (G : Int32) (h0 : Heap) (n0 : Nat) (Z0 : n0 ≤ h0.size) (Fg : Fld Z h0 a "io/sluicegate/runtime/KeyGroupPlan" "groups" "I" (.int G)) (hG : G.toInt64 ≠ 0) :
    Ct l (⟨"io/sluicegate/runtime/KeyGroupPlan", "owner", "(II)I"⟩ : MethodName) prog_70_method_14_code 3 (some .int) [] ({ frames := 1, cells := 0, slots := 0, locals := 14 } : Room) Z #[(.ref a), (.int g), (.int n)] h0 (fun v h L => v = some (.int ((g.toInt64 * n.toInt64 + n.toInt64 - (1 : Int64)) / G.toInt64).toInt32) ∧ Fr n0 L ∧ h = h0) := by
  refine Ct.of (plainFor_of_name pn_1) (fun m => ef_rmO m a g n) ?_
  intro p e s m below meth c T0 X0 hx hby hml hret hlk hown hnm hZ e0 P hP
  refine Go.st (fun _ kt => XS.iloadN X0.here hx rfl (hb hby d_prog_70_method_14_0) rfl (XS.aloadN X0.here hx rfl (hb hby d_prog_70_method_14_1) rfl rfl kt)) ?_
  show Go p e below P (T0.setTop (mkF m 2 #[.val (.ref a), .val (.int g), .val (.int n)] [(.ref a), (.int g)]))
  obtain ⟨T1, X1, e1, st1⟩ := getF X0 hx hZ hown (host := "") (Or.inl (hw _ (List.mem_of_getElem? (i := 10) rfl))) Via.refl e0 Fg (g := (mkF m 2 #[.val (.ref a), .val (.int g), .val (.int n)] [(.ref a), (.int g)])) rfl rfl (hb hby d_prog_70_method_14_2)
  refine Go.st st1 ?_
  show Go p e below P (T1.setTop (mkF m 5 #[.val (.ref a), .val (.int g), .val (.int n)] [(.int G), (.int g)]))
  refine Go.st (fun _ kt => XS.iloadN X1.here hx rfl (hb hby d_prog_70_method_14_5) rfl kt) ?_
  show Go p e below P (T1.setTop (mkF m 6 #[.val (.ref a), .val (.int g), .val (.int n)] [(.int n), (.int G), (.int g)]))
  obtain ⟨_, T2, Lc2, X2, ⟨rfl, Nq2, eq2⟩, st2⟩ := callCt X1 hx hZ e1 (y := (⟨"io/sluicegate/runtime/KeyGroups", "owner", "(III)I"⟩ : MethodName)) (argsL := [(.int g), (.int G), (.int n)]) (rest := []) hown (hw _ (List.mem_of_getElem? (i := 25) rfl)) (hw _ (List.mem_of_getElem? (i := 26) rfl)) (hw _ (List.mem_of_getElem? (i := 27) rfl)) (hw _ (List.mem_of_getElem? (i := 28) rfl)) (by decide) (rmKO l Z a0 hw g G n _ n0 Z0 hG) (W := 0) (by decide) (by decide) (g := (mkF m 6 #[.val (.ref a), .val (.int g), .val (.int n)] [(.int n), (.int G), (.int g)])) rfl (by rw [hml]; rfl) (lenOf pd_2 rfl) rfl (by show 2 * 0 + _ ≤ _; exact Nat.le_of_eq rfl) (hb hby d_prog_70_method_14_6) (by decide) (by decide)
  have N2 := Fr.app (Fr.nil n0) Nq2
  have e2 : T2.heap = h0 := eq2
  refine Go.st st2 ?_
  show Go p e below P (T2.setTop (mkF m 9 #[.val (.ref a), .val (.int g), .val (.int n)] [(.int ((g.toInt64 * n.toInt64 + n.toInt64 - (1 : Int64)) / G.toInt64).toInt32)]))
  exact goI X2 hx hret hlk (hb hby d_prog_70_method_14_9) hP (by decide) (by decide) ⟨rfl, N2, e2⟩
theorem d_prog_70_method_12_0 : decode prog_70_method_12_code 0 = .ok (.iconst 0, 1) := by decide +kernel
theorem d_prog_70_method_12_1 : decode prog_70_method_12_code 1 = .ok (.aload_n 0, 1) := by decide +kernel
theorem d_prog_70_method_12_2 : decode prog_70_method_12_code 2 = .ok (.iload_n 1, 1) := by decide +kernel
theorem d_prog_70_method_12_3 : decode prog_70_method_12_code 3 = .ok (.iconst 1, 1) := by decide +kernel
theorem d_prog_70_method_12_4 : decode prog_70_method_12_code 4 = .ok (.iadd, 1) := by decide +kernel
theorem d_prog_70_method_12_5 : decode prog_70_method_12_code 5 = .ok (.aload_n 0, 1) := by decide +kernel
theorem d_prog_70_method_12_6 : decode prog_70_method_12_code 6 = .ok (.getfield 22, 3) := by decide +kernel
theorem pd_3 : parseMethodDescriptor "(II)I" = some ⟨[.int, .int], some .int⟩ := by decide +kernel
theorem d_prog_70_method_12_9 : decode prog_70_method_12_code 9 = .ok (.invokevirtual 28, 3) := by decide +kernel
theorem d_prog_70_method_12_12 : decode prog_70_method_12_code 12 = .ok (.aload_n 0, 1) := by decide +kernel
theorem d_prog_70_method_12_13 : decode prog_70_method_12_code 13 = .ok (.iload_n 2, 1) := by decide +kernel
theorem d_prog_70_method_12_14 : decode prog_70_method_12_code 14 = .ok (.iconst 1, 1) := by decide +kernel
theorem d_prog_70_method_12_15 : decode prog_70_method_12_code 15 = .ok (.iadd, 1) := by decide +kernel
theorem d_prog_70_method_12_16 : decode prog_70_method_12_code 16 = .ok (.aload_n 0, 1) := by decide +kernel
theorem d_prog_70_method_12_17 : decode prog_70_method_12_code 17 = .ok (.getfield 25, 3) := by decide +kernel
theorem d_prog_70_method_12_20 : decode prog_70_method_12_code 20 = .ok (.invokevirtual 28, 3) := by decide +kernel
theorem d_prog_70_method_12_23 : decode prog_70_method_12_code 23 = .ok (.invokestatic 55, 3) := by decide +kernel
theorem d_prog_70_method_12_26 : decode prog_70_method_12_code 26 = .ok (.aload_n 0, 1) := by decide +kernel
theorem d_prog_70_method_12_27 : decode prog_70_method_12_code 27 = .ok (.iload_n 1, 1) := by decide +kernel
theorem d_prog_70_method_12_28 : decode prog_70_method_12_code 28 = .ok (.aload_n 0, 1) := by decide +kernel
theorem d_prog_70_method_12_29 : decode prog_70_method_12_code 29 = .ok (.getfield 22, 3) := by decide +kernel
theorem d_prog_70_method_12_32 : decode prog_70_method_12_code 32 = .ok (.invokevirtual 28, 3) := by decide +kernel
theorem d_prog_70_method_12_35 : decode prog_70_method_12_code 35 = .ok (.aload_n 0, 1) := by decide +kernel
theorem d_prog_70_method_12_36 : decode prog_70_method_12_code 36 = .ok (.iload_n 2, 1) := by decide +kernel
theorem d_prog_70_method_12_37 : decode prog_70_method_12_code 37 = .ok (.aload_n 0, 1) := by decide +kernel
theorem d_prog_70_method_12_38 : decode prog_70_method_12_code 38 = .ok (.getfield 25, 3) := by decide +kernel
theorem d_prog_70_method_12_41 : decode prog_70_method_12_code 41 = .ok (.invokevirtual 28, 3) := by decide +kernel
theorem d_prog_70_method_12_44 : decode prog_70_method_12_code 44 = .ok (.invokestatic 136, 3) := by decide +kernel
theorem d_prog_70_method_12_47 : decode prog_70_method_12_code 47 = .ok (.isub, 1) := by decide +kernel
theorem d_prog_70_method_12_48 : decode prog_70_method_12_code 48 = .ok (.invokestatic 136, 3) := by decide +kernel
theorem d_prog_70_method_12_51 : decode prog_70_method_12_code 51 = .ok (.ireturn, 1) := by decide +kernel
theorem ef_rmS (m : MethodId) (a : Addr) (i : Int32) (j : Int32) : entryFrame m #[(.ref a), (.int i), (.int j)] 3 = mkF m 0 #[.val (.ref a), .val (.int i), .val (.int j)] [] := by first | (simp [entryFrame, mkF, argsToLocals, Value.category]; done) | rfl
set_option maxRecDepth 65536 in
set_option maxHeartbeats 40000000 in
theorem rmS (l : Launch) (Z : State) (a0 : Array Value) (hw : ∀ d ∈ tables_1, d.before a0 Z = true) (a : Addr) (i : Int32) (j : Int32) (G F T : Int32) (h0 : Heap) (n0 : Nat) (Z0 : n0 ≤ h0.size) (Ea : Exa Z h0 a "io/sluicegate/runtime/KeyGroupPlan") (FG : Fld Z h0 a "io/sluicegate/runtime/KeyGroupPlan" "groups" "I" (.int G)) (FF : Fld Z h0 a "io/sluicegate/runtime/KeyGroupPlan" "from" "I" (.int F)) (FT : Fld Z h0 a "io/sluicegate/runtime/KeyGroupPlan" "to" "I" (.int T)) (hF : F.toInt64 ≠ 0) (hT : T.toInt64 ≠ 0) :
    Ct l (⟨"io/sluicegate/runtime/KeyGroupPlan", "shared", "(II)I"⟩ : MethodName) prog_70_method_12_code 3 (some .int) [] ({ frames := 1, cells := 0, slots := 0, locals := 17 } : Room) Z #[(.ref a), (.int i), (.int j)] h0 (fun v h L => ∃ r : Int32, v = some (.int r) ∧ Fr n0 L ∧ h = h0) := by
  refine Ct.of (plainFor_of_name pn_1) (fun m => ef_rmS m a i j) ?_
  intro p e s m below meth c T0 X0 hx hby hml hret hlk hown hnm hZ e0 P hP
  refine Go.st (fun _ kt => XS.iconst X0.here hx rfl (hb hby d_prog_70_method_12_0) (XS.aloadN X0.here hx rfl (hb hby d_prog_70_method_12_1) rfl rfl (XS.iloadN X0.here hx rfl (hb hby d_prog_70_method_12_2) rfl (XS.iconst X0.here hx rfl (hb hby d_prog_70_method_12_3) (XS.iadd X0.here hx rfl (hb hby d_prog_70_method_12_4) rfl (XS.aloadN X0.here hx rfl (hb hby d_prog_70_method_12_5) rfl rfl kt)))))) ?_
  show Go p e below P (T0.setTop (mkF m 6 #[.val (.ref a), .val (.int i), .val (.int j)] [(.ref a), (.int (i + (1 : Int32))), (.ref a), (.int (0 : Int32))]))
  obtain ⟨T1, X1, e1, st1⟩ := getF X0 hx hZ hown (host := "") (Or.inl (hw _ (List.mem_of_getElem? (i := 12) rfl))) Via.refl e0 FF (g := (mkF m 6 #[.val (.ref a), .val (.int i), .val (.int j)] [(.ref a), (.int (i + (1 : Int32))), (.ref a), (.int (0 : Int32))])) rfl rfl (hb hby d_prog_70_method_12_6)
  refine Go.st st1 ?_
  show Go p e below P (T1.setTop (mkF m 9 #[.val (.ref a), .val (.int i), .val (.int j)] [(.int F), (.int (i + (1 : Int32))), (.ref a), (.int (0 : Int32))]))
  obtain ⟨_, T2, Lc2, X2, ⟨rfl, Nq2, eq2⟩, st2⟩ := callCp X1 hx hZ e1 (y := (⟨"io/sluicegate/runtime/KeyGroupPlan", "first", "(II)I"⟩ : MethodName)) (a := a) (argsL := [(.int (i + (1 : Int32))), (.int F)]) (rest := [(.int (0 : Int32))]) hown (hw _ (List.mem_of_getElem? (i := 17) rfl)) (hw _ (List.mem_of_getElem? (i := 18) rfl)) (hw _ (List.mem_of_getElem? (i := 19) rfl)) (hw _ (List.mem_of_getElem? (i := 2) rfl)) (hw _ (List.mem_of_getElem? (i := 3) rfl)) (hw _ (List.mem_of_getElem? (i := 20) rfl)) (by decide) Ea (rmF l Z a0 hw a (i + (1 : Int32)) F G _ n0 Z0 FG hF) (W := 1) (by decide) (by decide) (g := (mkF m 9 #[.val (.ref a), .val (.int i), .val (.int j)] [(.int F), (.int (i + (1 : Int32))), (.ref a), (.int (0 : Int32))])) rfl (by rw [hml]; rfl) (lenOf pd_3 rfl) rfl (by show 2 * 0 + _ ≤ _; exact Nat.le_of_eq rfl) (hb hby d_prog_70_method_12_9) (by decide) (by decide)
  have N2 := Fr.app (Fr.nil n0) Nq2
  have e2 : T2.heap = h0 := eq2
  refine Go.st st2 ?_
  show Go p e below P (T2.setTop (mkF m 12 #[.val (.ref a), .val (.int i), .val (.int j)] [(.int ((i + (1 : Int32)).toInt64 * G.toInt64 / F.toInt64).toInt32), (.int (0 : Int32))]))
  refine Go.st (fun _ kt => XS.aloadN X2.here hx rfl (hb hby d_prog_70_method_12_12) rfl rfl (XS.iloadN X2.here hx rfl (hb hby d_prog_70_method_12_13) rfl (XS.iconst X2.here hx rfl (hb hby d_prog_70_method_12_14) (XS.iadd X2.here hx rfl (hb hby d_prog_70_method_12_15) rfl (XS.aloadN X2.here hx rfl (hb hby d_prog_70_method_12_16) rfl rfl kt))))) ?_
  show Go p e below P (T2.setTop (mkF m 17 #[.val (.ref a), .val (.int i), .val (.int j)] [(.ref a), (.int (j + (1 : Int32))), (.ref a), (.int ((i + (1 : Int32)).toInt64 * G.toInt64 / F.toInt64).toInt32), (.int (0 : Int32))]))
  obtain ⟨T3, X3, e3, st3⟩ := getF X2 hx hZ hown (host := "") (Or.inl (hw _ (List.mem_of_getElem? (i := 14) rfl))) Via.refl e2 FT (g := (mkF m 17 #[.val (.ref a), .val (.int i), .val (.int j)] [(.ref a), (.int (j + (1 : Int32))), (.ref a), (.int ((i + (1 : Int32)).toInt64 * G.toInt64 / F.toInt64).toInt32), (.int (0 : Int32))])) rfl rfl (hb hby d_prog_70_method_12_17)
  refine Go.st st3 ?_
  show Go p e below P (T3.setTop (mkF m 20 #[.val (.ref a), .val (.int i), .val (.int j)] [(.int T), (.int (j + (1 : Int32))), (.ref a), (.int ((i + (1 : Int32)).toInt64 * G.toInt64 / F.toInt64).toInt32), (.int (0 : Int32))]))
  obtain ⟨_, T4, Lc4, X4, ⟨rfl, Nq4, eq4⟩, st4⟩ := callCp X3 hx hZ e3 (y := (⟨"io/sluicegate/runtime/KeyGroupPlan", "first", "(II)I"⟩ : MethodName)) (a := a) (argsL := [(.int (j + (1 : Int32))), (.int T)]) (rest := [(.int ((i + (1 : Int32)).toInt64 * G.toInt64 / F.toInt64).toInt32), (.int (0 : Int32))]) hown (hw _ (List.mem_of_getElem? (i := 17) rfl)) (hw _ (List.mem_of_getElem? (i := 18) rfl)) (hw _ (List.mem_of_getElem? (i := 19) rfl)) (hw _ (List.mem_of_getElem? (i := 2) rfl)) (hw _ (List.mem_of_getElem? (i := 3) rfl)) (hw _ (List.mem_of_getElem? (i := 20) rfl)) (by decide) Ea (rmF l Z a0 hw a (j + (1 : Int32)) T G _ n0 Z0 FG hT) (W := 2) (by decide) (by decide) (g := (mkF m 20 #[.val (.ref a), .val (.int i), .val (.int j)] [(.int T), (.int (j + (1 : Int32))), (.ref a), (.int ((i + (1 : Int32)).toInt64 * G.toInt64 / F.toInt64).toInt32), (.int (0 : Int32))])) rfl (by rw [hml]; rfl) (lenOf pd_3 rfl) rfl (by show 2 * 0 + _ ≤ _; exact Nat.le_of_eq rfl) (hb hby d_prog_70_method_12_20) (by decide) (by decide)
  have N4 := Fr.app N2 Nq4
  have e4 : T4.heap = h0 := eq4
  refine Go.st st4 ?_
  show Go p e below P (T4.setTop (mkF m 23 #[.val (.ref a), .val (.int i), .val (.int j)] [(.int ((j + (1 : Int32)).toInt64 * G.toInt64 / T.toInt64).toInt32), (.int ((i + (1 : Int32)).toInt64 * G.toInt64 / F.toInt64).toInt32), (.int (0 : Int32))]))
  obtain ⟨_, T5, Lc5, X5, ⟨rfl, Nq5, eq5⟩, st5⟩ := callCt X4 hx hZ e4 (y := (⟨"java/lang/Math", "min", "(II)I"⟩ : MethodName)) (argsL := [(.int ((i + (1 : Int32)).toInt64 * G.toInt64 / F.toInt64).toInt32), (.int ((j + (1 : Int32)).toInt64 * G.toInt64 / T.toInt64).toInt32)]) (rest := [(.int (0 : Int32))]) hown (hw _ (List.mem_of_getElem? (i := 41) rfl)) (hw _ (List.mem_of_getElem? (i := 42) rfl)) (hw _ (List.mem_of_getElem? (i := 43) rfl)) (hw _ (List.mem_of_getElem? (i := 44) rfl)) (by decide) (rm_min l Z a0 hw (((i + (1 : Int32)).toInt64 * G.toInt64 / F.toInt64).toInt32) (((j + (1 : Int32)).toInt64 * G.toInt64 / T.toInt64).toInt32) _ n0 Z0) (W := 1) (by decide) (by decide) (g := (mkF m 23 #[.val (.ref a), .val (.int i), .val (.int j)] [(.int ((j + (1 : Int32)).toInt64 * G.toInt64 / T.toInt64).toInt32), (.int ((i + (1 : Int32)).toInt64 * G.toInt64 / F.toInt64).toInt32), (.int (0 : Int32))])) rfl (by rw [hml]; rfl) (lenOf pd_3 rfl) rfl (by show 2 * 0 + _ ≤ _; exact Nat.le_of_eq rfl) (hb hby d_prog_70_method_12_23) (by decide) (by decide)
  have N5 := Fr.app N4 Nq5
  have e5 : T5.heap = h0 := eq5
  refine Go.st st5 ?_
  show Go p e below P (T5.setTop (mkF m 26 #[.val (.ref a), .val (.int i), .val (.int j)] [(.int (own_min (((i + (1 : Int32)).toInt64 * G.toInt64 / F.toInt64).toInt32) (((j + (1 : Int32)).toInt64 * G.toInt64 / T.toInt64).toInt32))), (.int (0 : Int32))]))
  refine Go.st (fun _ kt => XS.aloadN X5.here hx rfl (hb hby d_prog_70_method_12_26) rfl rfl (XS.iloadN X5.here hx rfl (hb hby d_prog_70_method_12_27) rfl (XS.aloadN X5.here hx rfl (hb hby d_prog_70_method_12_28) rfl rfl kt))) ?_
  show Go p e below P (T5.setTop (mkF m 29 #[.val (.ref a), .val (.int i), .val (.int j)] [(.ref a), (.int i), (.ref a), (.int (own_min (((i + (1 : Int32)).toInt64 * G.toInt64 / F.toInt64).toInt32) (((j + (1 : Int32)).toInt64 * G.toInt64 / T.toInt64).toInt32))), (.int (0 : Int32))]))
  obtain ⟨T6, X6, e6, st6⟩ := getF X5 hx hZ hown (host := "") (Or.inl (hw _ (List.mem_of_getElem? (i := 12) rfl))) Via.refl e5 FF (g := (mkF m 29 #[.val (.ref a), .val (.int i), .val (.int j)] [(.ref a), (.int i), (.ref a), (.int (own_min (((i + (1 : Int32)).toInt64 * G.toInt64 / F.toInt64).toInt32) (((j + (1 : Int32)).toInt64 * G.toInt64 / T.toInt64).toInt32))), (.int (0 : Int32))])) rfl rfl (hb hby d_prog_70_method_12_29)
  refine Go.st st6 ?_
  show Go p e below P (T6.setTop (mkF m 32 #[.val (.ref a), .val (.int i), .val (.int j)] [(.int F), (.int i), (.ref a), (.int (own_min (((i + (1 : Int32)).toInt64 * G.toInt64 / F.toInt64).toInt32) (((j + (1 : Int32)).toInt64 * G.toInt64 / T.toInt64).toInt32))), (.int (0 : Int32))]))
  obtain ⟨_, T7, Lc7, X7, ⟨rfl, Nq7, eq7⟩, st7⟩ := callCp X6 hx hZ e6 (y := (⟨"io/sluicegate/runtime/KeyGroupPlan", "first", "(II)I"⟩ : MethodName)) (a := a) (argsL := [(.int i), (.int F)]) (rest := [(.int (own_min (((i + (1 : Int32)).toInt64 * G.toInt64 / F.toInt64).toInt32) (((j + (1 : Int32)).toInt64 * G.toInt64 / T.toInt64).toInt32))), (.int (0 : Int32))]) hown (hw _ (List.mem_of_getElem? (i := 17) rfl)) (hw _ (List.mem_of_getElem? (i := 18) rfl)) (hw _ (List.mem_of_getElem? (i := 19) rfl)) (hw _ (List.mem_of_getElem? (i := 2) rfl)) (hw _ (List.mem_of_getElem? (i := 3) rfl)) (hw _ (List.mem_of_getElem? (i := 20) rfl)) (by decide) Ea (rmF l Z a0 hw a i F G _ n0 Z0 FG hF) (W := 2) (by decide) (by decide) (g := (mkF m 32 #[.val (.ref a), .val (.int i), .val (.int j)] [(.int F), (.int i), (.ref a), (.int (own_min (((i + (1 : Int32)).toInt64 * G.toInt64 / F.toInt64).toInt32) (((j + (1 : Int32)).toInt64 * G.toInt64 / T.toInt64).toInt32))), (.int (0 : Int32))])) rfl (by rw [hml]; rfl) (lenOf pd_3 rfl) rfl (by show 2 * 0 + _ ≤ _; exact Nat.le_of_eq rfl) (hb hby d_prog_70_method_12_32) (by decide) (by decide)
  have N7 := Fr.app N5 Nq7
  have e7 : T7.heap = h0 := eq7
  refine Go.st st7 ?_
  show Go p e below P (T7.setTop (mkF m 35 #[.val (.ref a), .val (.int i), .val (.int j)] [(.int (i.toInt64 * G.toInt64 / F.toInt64).toInt32), (.int (own_min (((i + (1 : Int32)).toInt64 * G.toInt64 / F.toInt64).toInt32) (((j + (1 : Int32)).toInt64 * G.toInt64 / T.toInt64).toInt32))), (.int (0 : Int32))]))
  refine Go.st (fun _ kt => XS.aloadN X7.here hx rfl (hb hby d_prog_70_method_12_35) rfl rfl (XS.iloadN X7.here hx rfl (hb hby d_prog_70_method_12_36) rfl (XS.aloadN X7.here hx rfl (hb hby d_prog_70_method_12_37) rfl rfl kt))) ?_
  show Go p e below P (T7.setTop (mkF m 38 #[.val (.ref a), .val (.int i), .val (.int j)] [(.ref a), (.int j), (.ref a), (.int (i.toInt64 * G.toInt64 / F.toInt64).toInt32), (.int (own_min (((i + (1 : Int32)).toInt64 * G.toInt64 / F.toInt64).toInt32) (((j + (1 : Int32)).toInt64 * G.toInt64 / T.toInt64).toInt32))), (.int (0 : Int32))]))
  obtain ⟨T8, X8, e8, st8⟩ := getF X7 hx hZ hown (host := "") (Or.inl (hw _ (List.mem_of_getElem? (i := 14) rfl))) Via.refl e7 FT (g := (mkF m 38 #[.val (.ref a), .val (.int i), .val (.int j)] [(.ref a), (.int j), (.ref a), (.int (i.toInt64 * G.toInt64 / F.toInt64).toInt32), (.int (own_min (((i + (1 : Int32)).toInt64 * G.toInt64 / F.toInt64).toInt32) (((j + (1 : Int32)).toInt64 * G.toInt64 / T.toInt64).toInt32))), (.int (0 : Int32))])) rfl rfl (hb hby d_prog_70_method_12_38)
  refine Go.st st8 ?_
  show Go p e below P (T8.setTop (mkF m 41 #[.val (.ref a), .val (.int i), .val (.int j)] [(.int T), (.int j), (.ref a), (.int (i.toInt64 * G.toInt64 / F.toInt64).toInt32), (.int (own_min (((i + (1 : Int32)).toInt64 * G.toInt64 / F.toInt64).toInt32) (((j + (1 : Int32)).toInt64 * G.toInt64 / T.toInt64).toInt32))), (.int (0 : Int32))]))
  obtain ⟨_, T9, Lc9, X9, ⟨rfl, Nq9, eq9⟩, st9⟩ := callCp X8 hx hZ e8 (y := (⟨"io/sluicegate/runtime/KeyGroupPlan", "first", "(II)I"⟩ : MethodName)) (a := a) (argsL := [(.int j), (.int T)]) (rest := [(.int (i.toInt64 * G.toInt64 / F.toInt64).toInt32), (.int (own_min (((i + (1 : Int32)).toInt64 * G.toInt64 / F.toInt64).toInt32) (((j + (1 : Int32)).toInt64 * G.toInt64 / T.toInt64).toInt32))), (.int (0 : Int32))]) hown (hw _ (List.mem_of_getElem? (i := 17) rfl)) (hw _ (List.mem_of_getElem? (i := 18) rfl)) (hw _ (List.mem_of_getElem? (i := 19) rfl)) (hw _ (List.mem_of_getElem? (i := 2) rfl)) (hw _ (List.mem_of_getElem? (i := 3) rfl)) (hw _ (List.mem_of_getElem? (i := 20) rfl)) (by decide) Ea (rmF l Z a0 hw a j T G _ n0 Z0 FG hT) (W := 3) (by decide) (by decide) (g := (mkF m 41 #[.val (.ref a), .val (.int i), .val (.int j)] [(.int T), (.int j), (.ref a), (.int (i.toInt64 * G.toInt64 / F.toInt64).toInt32), (.int (own_min (((i + (1 : Int32)).toInt64 * G.toInt64 / F.toInt64).toInt32) (((j + (1 : Int32)).toInt64 * G.toInt64 / T.toInt64).toInt32))), (.int (0 : Int32))])) rfl (by rw [hml]; rfl) (lenOf pd_3 rfl) rfl (by show 2 * 0 + _ ≤ _; exact Nat.le_of_eq rfl) (hb hby d_prog_70_method_12_41) (by decide) (by decide)
  have N9 := Fr.app N7 Nq9
  have e9 : T9.heap = h0 := eq9
  refine Go.st st9 ?_
  show Go p e below P (T9.setTop (mkF m 44 #[.val (.ref a), .val (.int i), .val (.int j)] [(.int (j.toInt64 * G.toInt64 / T.toInt64).toInt32), (.int (i.toInt64 * G.toInt64 / F.toInt64).toInt32), (.int (own_min (((i + (1 : Int32)).toInt64 * G.toInt64 / F.toInt64).toInt32) (((j + (1 : Int32)).toInt64 * G.toInt64 / T.toInt64).toInt32))), (.int (0 : Int32))]))
  obtain ⟨_, T10, Lc10, X10, ⟨rfl, Nq10, eq10⟩, st10⟩ := callCt X9 hx hZ e9 (y := (⟨"java/lang/Math", "max", "(II)I"⟩ : MethodName)) (argsL := [(.int (i.toInt64 * G.toInt64 / F.toInt64).toInt32), (.int (j.toInt64 * G.toInt64 / T.toInt64).toInt32)]) (rest := [(.int (own_min (((i + (1 : Int32)).toInt64 * G.toInt64 / F.toInt64).toInt32) (((j + (1 : Int32)).toInt64 * G.toInt64 / T.toInt64).toInt32))), (.int (0 : Int32))]) hown (hw _ (List.mem_of_getElem? (i := 54) rfl)) (hw _ (List.mem_of_getElem? (i := 55) rfl)) (hw _ (List.mem_of_getElem? (i := 43) rfl)) (hw _ (List.mem_of_getElem? (i := 56) rfl)) (by decide) (rm_max l Z a0 hw ((i.toInt64 * G.toInt64 / F.toInt64).toInt32) ((j.toInt64 * G.toInt64 / T.toInt64).toInt32) _ n0 Z0) (W := 2) (by decide) (by decide) (g := (mkF m 44 #[.val (.ref a), .val (.int i), .val (.int j)] [(.int (j.toInt64 * G.toInt64 / T.toInt64).toInt32), (.int (i.toInt64 * G.toInt64 / F.toInt64).toInt32), (.int (own_min (((i + (1 : Int32)).toInt64 * G.toInt64 / F.toInt64).toInt32) (((j + (1 : Int32)).toInt64 * G.toInt64 / T.toInt64).toInt32))), (.int (0 : Int32))])) rfl (by rw [hml]; rfl) (lenOf pd_3 rfl) rfl (by show 2 * 0 + _ ≤ _; exact Nat.le_of_eq rfl) (hb hby d_prog_70_method_12_44) (by decide) (by decide)
  have N10 := Fr.app N9 Nq10
  have e10 : T10.heap = h0 := eq10
  refine Go.st st10 ?_
  show Go p e below P (T10.setTop (mkF m 47 #[.val (.ref a), .val (.int i), .val (.int j)] [(.int (own_max ((i.toInt64 * G.toInt64 / F.toInt64).toInt32) ((j.toInt64 * G.toInt64 / T.toInt64).toInt32))), (.int (own_min (((i + (1 : Int32)).toInt64 * G.toInt64 / F.toInt64).toInt32) (((j + (1 : Int32)).toInt64 * G.toInt64 / T.toInt64).toInt32))), (.int (0 : Int32))]))
  refine Go.st (fun _ kt => XS.isub X10.here hx rfl (hb hby d_prog_70_method_12_47) rfl kt) ?_
  show Go p e below P (T10.setTop (mkF m 48 #[.val (.ref a), .val (.int i), .val (.int j)] [(.int ((own_min (((i + (1 : Int32)).toInt64 * G.toInt64 / F.toInt64).toInt32) (((j + (1 : Int32)).toInt64 * G.toInt64 / T.toInt64).toInt32)) - (own_max ((i.toInt64 * G.toInt64 / F.toInt64).toInt32) ((j.toInt64 * G.toInt64 / T.toInt64).toInt32)))), (.int (0 : Int32))]))
  obtain ⟨_, T11, Lc11, X11, ⟨rfl, Nq11, eq11⟩, st11⟩ := callCt X10 hx hZ e10 (y := (⟨"java/lang/Math", "max", "(II)I"⟩ : MethodName)) (argsL := [(.int (0 : Int32)), (.int ((own_min (((i + (1 : Int32)).toInt64 * G.toInt64 / F.toInt64).toInt32) (((j + (1 : Int32)).toInt64 * G.toInt64 / T.toInt64).toInt32)) - (own_max ((i.toInt64 * G.toInt64 / F.toInt64).toInt32) ((j.toInt64 * G.toInt64 / T.toInt64).toInt32))))]) (rest := []) hown (hw _ (List.mem_of_getElem? (i := 54) rfl)) (hw _ (List.mem_of_getElem? (i := 55) rfl)) (hw _ (List.mem_of_getElem? (i := 43) rfl)) (hw _ (List.mem_of_getElem? (i := 56) rfl)) (by decide) (rm_max l Z a0 hw ((0 : Int32)) (((own_min (((i + (1 : Int32)).toInt64 * G.toInt64 / F.toInt64).toInt32) (((j + (1 : Int32)).toInt64 * G.toInt64 / T.toInt64).toInt32)) - (own_max ((i.toInt64 * G.toInt64 / F.toInt64).toInt32) ((j.toInt64 * G.toInt64 / T.toInt64).toInt32)))) _ n0 Z0) (W := 0) (by decide) (by decide) (g := (mkF m 48 #[.val (.ref a), .val (.int i), .val (.int j)] [(.int ((own_min (((i + (1 : Int32)).toInt64 * G.toInt64 / F.toInt64).toInt32) (((j + (1 : Int32)).toInt64 * G.toInt64 / T.toInt64).toInt32)) - (own_max ((i.toInt64 * G.toInt64 / F.toInt64).toInt32) ((j.toInt64 * G.toInt64 / T.toInt64).toInt32)))), (.int (0 : Int32))])) rfl (by rw [hml]; rfl) (lenOf pd_3 rfl) rfl (by show 2 * 0 + _ ≤ _; exact Nat.le_of_eq rfl) (hb hby d_prog_70_method_12_48) (by decide) (by decide)
  have N11 := Fr.app N10 Nq11
  have e11 : T11.heap = h0 := eq11
  refine Go.st st11 ?_
  show Go p e below P (T11.setTop (mkF m 51 #[.val (.ref a), .val (.int i), .val (.int j)] [(.int (own_max ((0 : Int32)) (((own_min (((i + (1 : Int32)).toInt64 * G.toInt64 / F.toInt64).toInt32) (((j + (1 : Int32)).toInt64 * G.toInt64 / T.toInt64).toInt32)) - (own_max ((i.toInt64 * G.toInt64 / F.toInt64).toInt32) ((j.toInt64 * G.toInt64 / T.toInt64).toInt32))))))]))
  exact goI X11 hx hret hlk (hb hby d_prog_70_method_12_51) hP (by decide) (by decide) ⟨_, rfl, N11, e11⟩
theorem d_prog_70_method_11_8 : decode prog_70_method_11_code 8 = .ok (.iload 5, 2) := by decide +kernel
theorem d_prog_70_method_11_10 : decode prog_70_method_11_code 10 = .ok (.iload_n 3, 1) := by decide +kernel
theorem d_prog_70_method_11_11 : decode prog_70_method_11_code 11 = .ok (.if_icmp .gt 53, 3) := by decide +kernel
theorem d_prog_70_method_11_64 : decode prog_70_method_11_code 64 = .ok (.iload 4, 2) := by decide +kernel
theorem d_prog_70_method_11_66 : decode prog_70_method_11_code 66 = .ok (.ireturn, 1) := by decide +kernel
theorem d_prog_70_method_11_14 : decode prog_70_method_11_code 14 = .ok (.aload_n 0, 1) := by decide +kernel
theorem d_prog_70_method_11_15 : decode prog_70_method_11_code 15 = .ok (.iload_n 1, 1) := by decide +kernel
theorem d_prog_70_method_11_16 : decode prog_70_method_11_code 16 = .ok (.iload 5, 2) := by decide +kernel
theorem d_prog_70_method_11_18 : decode prog_70_method_11_code 18 = .ok (.invokevirtual 49, 3) := by decide +kernel
theorem d_prog_70_method_11_21 : decode prog_70_method_11_code 21 = .ok (.aload_n 0, 1) := by decide +kernel
theorem d_prog_70_method_11_22 : decode prog_70_method_11_code 22 = .ok (.iload_n 1, 1) := by decide +kernel
theorem d_prog_70_method_11_23 : decode prog_70_method_11_code 23 = .ok (.iload 4, 2) := by decide +kernel
theorem d_prog_70_method_11_25 : decode prog_70_method_11_code 25 = .ok (.invokevirtual 49, 3) := by decide +kernel
theorem d_prog_70_method_11_28 : decode prog_70_method_11_code 28 = .ok (.if_icmp .gt 26, 3) := by decide +kernel
theorem d_prog_70_method_11_54 : decode prog_70_method_11_code 54 = .ok (.iload 5, 2) := by decide +kernel
theorem d_prog_70_method_11_56 : decode prog_70_method_11_code 56 = .ok (.istore 4, 2) := by decide +kernel
theorem d_prog_70_method_11_58 : decode prog_70_method_11_code 58 = .ok (.iinc 5 1, 3) := by decide +kernel
theorem d_prog_70_method_11_61 : decode prog_70_method_11_code 61 = .ok (.goto (-53), 3) := by decide +kernel
theorem d_prog_70_method_11_31 : decode prog_70_method_11_code 31 = .ok (.aload_n 0, 1) := by decide +kernel
theorem d_prog_70_method_11_32 : decode prog_70_method_11_code 32 = .ok (.iload_n 1, 1) := by decide +kernel
theorem d_prog_70_method_11_33 : decode prog_70_method_11_code 33 = .ok (.iload 5, 2) := by decide +kernel
theorem d_prog_70_method_11_35 : decode prog_70_method_11_code 35 = .ok (.invokevirtual 49, 3) := by decide +kernel
theorem d_prog_70_method_11_38 : decode prog_70_method_11_code 38 = .ok (.aload_n 0, 1) := by decide +kernel
theorem d_prog_70_method_11_39 : decode prog_70_method_11_code 39 = .ok (.iload_n 1, 1) := by decide +kernel
theorem d_prog_70_method_11_40 : decode prog_70_method_11_code 40 = .ok (.iload 4, 2) := by decide +kernel
theorem d_prog_70_method_11_42 : decode prog_70_method_11_code 42 = .ok (.invokevirtual 49, 3) := by decide +kernel
theorem d_prog_70_method_11_45 : decode prog_70_method_11_code 45 = .ok (.if_icmp .ne 13, 3) := by decide +kernel
theorem d_prog_70_method_11_48 : decode prog_70_method_11_code 48 = .ok (.iload 5, 2) := by decide +kernel
theorem d_prog_70_method_11_50 : decode prog_70_method_11_code 50 = .ok (.iload_n 1, 1) := by decide +kernel
theorem d_prog_70_method_11_51 : decode prog_70_method_11_code 51 = .ok (.if_icmp .ne 7, 3) := by decide +kernel
theorem d_prog_70_method_11_0 : decode prog_70_method_11_code 0 = .ok (.iload_n 2, 1) := by decide +kernel
theorem d_prog_70_method_11_1 : decode prog_70_method_11_code 1 = .ok (.istore 4, 2) := by decide +kernel
theorem d_prog_70_method_11_3 : decode prog_70_method_11_code 3 = .ok (.iload_n 2, 1) := by decide +kernel
theorem d_prog_70_method_11_4 : decode prog_70_method_11_code 4 = .ok (.iconst 1, 1) := by decide +kernel
theorem d_prog_70_method_11_5 : decode prog_70_method_11_code 5 = .ok (.iadd, 1) := by decide +kernel
theorem d_prog_70_method_11_6 : decode prog_70_method_11_code 6 = .ok (.istore 5, 2) := by decide +kernel
theorem ef_rmB (m : MethodId) (a : Addr) (o : Int32) (ll : Int32) (hh : Int32) : entryFrame m #[(.ref a), (.int o), (.int ll), (.int hh)] 6 = mkF m 0 #[.val (.ref a), .val (.int o), .val (.int ll), .val (.int hh), .unset, .unset] [] := by first | (simp [entryFrame, mkF, argsToLocals, Value.category]; done) | rfl
set_option maxRecDepth 65536 in
set_option maxHeartbeats 40000000 in
theorem rmB (l : Launch) (Z : State) (a0 : Array Value) (hw : ∀ d ∈ tables_1, d.before a0 Z = true) (a : Addr) (o : Int32) (ll : Int32) (hh : Int32) (G F T : Nat) (lo hi : Nat) (h0 : Heap) (n0 : Nat) (Z0 : n0 ≤ h0.size) (Ea : Exa Z h0 a "io/sluicegate/runtime/KeyGroupPlan") (FG : Fld Z h0 a "io/sluicegate/runtime/KeyGroupPlan" "groups" "I" (.int (Int32.ofNat G))) (FF : Fld Z h0 a "io/sluicegate/runtime/KeyGroupPlan" "from" "I" (.int (Int32.ofNat F))) (FT : Fld Z h0 a "io/sluicegate/runtime/KeyGroupPlan" "to" "I" (.int (Int32.ofNat T))) (hF1 : 1 ≤ F) (hFG : F ≤ G) (hT1 : 1 ≤ T) (hTG : T ≤ G) (hG : G ≤ 256) (hl : ll = Int32.ofNat lo) (hh' : hh = Int32.ofNat hi) (hlh : lo ≤ hi) (hhT : hi < T) :
    Ct l (⟨"io/sluicegate/runtime/KeyGroupPlan", "best", "(III)I"⟩ : MethodName) prog_70_method_11_code 6 (some .int) [] ({ frames := 2, cells := 0, slots := 0, locals := 32 } : Room) Z #[(.ref a), (.int o), (.int ll), (.int hh)] h0 (fun v h L => ∃ b : Nat, v = some (.int (Int32.ofNat b)) ∧ lo ≤ b ∧ b ≤ hi ∧ Fr n0 L ∧ h = h0) := by
  refine Ct.of (plainFor_of_name pn_1) (fun m => ef_rmB m a o ll hh) ?_
  intro p e s m below meth c T0 X0 hx hby hml hret hlk hown hnm hZ e0 P hP
  subst hl hh'
  have loop1 : ∀ (d : Nat) (T2 : State) (Lk2 : List Loc) (r b : Nat), Stand p l e ({ frames := 2, cells := 0, slots := 0, locals := 32 } : Room) s m #[(.ref a), (.int o), (.int (Int32.ofNat lo)), (.int (Int32.ofNat hi))] below meth c T2 Lk2 0 0 → Fr n0 Lk2 → n0 ≤ T2.heap.size → T2.heap = h0 → r + d = hi + 1 → lo ≤ b ∧ lo ≤ r → b ≤ hi → Go p e below P (T2.setTop (mkF m 8 #[.val (.ref a), .val (.int o), .val (.int (Int32.ofNat lo)), .val (.int (Int32.ofNat hi)), .val (.int (Int32.ofNat b)), .val (.int (Int32.ofNat r))] [])) := by
    intro d
    induction d with
    | zero =>
      intro T2 Lk2 r b X2 N2 Z2 fc2_0 hrd hb1 hb2
      show Go p e below P (T2.setTop (mkF m 8 #[.val (.ref a), .val (.int o), .val (.int (Int32.ofNat lo)), .val (.int (Int32.ofNat hi)), .val (.int (Int32.ofNat b)), .val (.int (Int32.ofNat r))] []))
      refine Go.st (fun _ kt => XS.iload X2.here hx rfl (hb hby d_prog_70_method_11_8) rfl (XS.iloadN X2.here hx rfl (hb hby d_prog_70_method_11_10) rfl (XS.icmpYes X2.here hx rfl (pc0 := 11) (pc' := 64) rfl (hb hby d_prog_70_method_11_11) rfl (tlt ((own_ltN (by omega) (by omega)).mpr (by omega))).2.2.1 (by decide) (by decide) (XS.iload X2.here hx rfl (hb hby d_prog_70_method_11_64) rfl kt)))) ?_
      show Go p e below P (T2.setTop (mkF m 66 #[.val (.ref a), .val (.int o), .val (.int (Int32.ofNat lo)), .val (.int (Int32.ofNat hi)), .val (.int (Int32.ofNat b)), .val (.int (Int32.ofNat r))] [(.int (Int32.ofNat b))]))
      exact goI X2 hx hret hlk (hb hby d_prog_70_method_11_66) hP (by decide) (by decide) ⟨b, rfl, hb1.1, hb2, N2, fc2_0⟩
    | succ d ih2 =>
      intro T2 Lk2 r b X2 N2 Z2 fc2_0 hrd hb1 hb2
      show Go p e below P (T2.setTop (mkF m 8 #[.val (.ref a), .val (.int o), .val (.int (Int32.ofNat lo)), .val (.int (Int32.ofNat hi)), .val (.int (Int32.ofNat b)), .val (.int (Int32.ofNat r))] []))
      refine Go.st (fun _ kt => XS.iload X2.here hx rfl (hb hby d_prog_70_method_11_8) rfl (XS.iloadN X2.here hx rfl (hb hby d_prog_70_method_11_10) rfl (XS.icmpNo X2.here hx rfl (hb hby d_prog_70_method_11_11) rfl (flt (fun q => by rw [own_ltN (by omega) (by omega)] at q; omega)).2.2.1 (XS.aloadN X2.here hx rfl (hb hby d_prog_70_method_11_14) rfl rfl (XS.iloadN X2.here hx rfl (hb hby d_prog_70_method_11_15) rfl (XS.iload X2.here hx rfl (hb hby d_prog_70_method_11_16) rfl kt)))))) ?_
      show Go p e below P (T2.setTop (mkF m 18 #[.val (.ref a), .val (.int o), .val (.int (Int32.ofNat lo)), .val (.int (Int32.ofNat hi)), .val (.int (Int32.ofNat b)), .val (.int (Int32.ofNat r))] [(.int (Int32.ofNat r)), (.int o), (.ref a)]))
      obtain ⟨_, T3, Lc3, X3, ⟨r3, rfl, Nq3, eq3⟩, st3⟩ := callCp X2 hx hZ fc2_0 (y := (⟨"io/sluicegate/runtime/KeyGroupPlan", "shared", "(II)I"⟩ : MethodName)) (a := a) (argsL := [(.int o), (.int (Int32.ofNat r))]) (rest := []) hown (hw _ (List.mem_of_getElem? (i := 50) rfl)) (hw _ (List.mem_of_getElem? (i := 51) rfl)) (hw _ (List.mem_of_getElem? (i := 52) rfl)) (hw _ (List.mem_of_getElem? (i := 2) rfl)) (hw _ (List.mem_of_getElem? (i := 3) rfl)) (hw _ (List.mem_of_getElem? (i := 53) rfl)) (by decide) Ea (rmS l Z a0 hw a (o) ((Int32.ofNat r)) _ _ _ _ n0 Z0 Ea FG FF FT (own_nz64 (by omega) (by omega)) (own_nz64 (by omega) (by omega))) (W := 0) (by decide) (by decide) (g := (mkF m 18 #[.val (.ref a), .val (.int o), .val (.int (Int32.ofNat lo)), .val (.int (Int32.ofNat hi)), .val (.int (Int32.ofNat b)), .val (.int (Int32.ofNat r))] [(.int (Int32.ofNat r)), (.int o), (.ref a)])) rfl (by rw [hml]; rfl) (lenOf pd_3 rfl) rfl (by show 2 * 0 + _ ≤ _; exact Nat.le_of_eq rfl) (hb hby d_prog_70_method_11_18) (by decide) (by decide)
      have N3 := Fr.app N2 Nq3
      have e3 : T3.heap = h0 := eq3
      refine Go.st st3 ?_
      show Go p e below P (T3.setTop (mkF m 21 #[.val (.ref a), .val (.int o), .val (.int (Int32.ofNat lo)), .val (.int (Int32.ofNat hi)), .val (.int (Int32.ofNat b)), .val (.int (Int32.ofNat r))] [(.int r3)]))
      refine Go.st (fun _ kt => XS.aloadN X3.here hx rfl (hb hby d_prog_70_method_11_21) rfl rfl (XS.iloadN X3.here hx rfl (hb hby d_prog_70_method_11_22) rfl (XS.iload X3.here hx rfl (hb hby d_prog_70_method_11_23) rfl kt))) ?_
      show Go p e below P (T3.setTop (mkF m 25 #[.val (.ref a), .val (.int o), .val (.int (Int32.ofNat lo)), .val (.int (Int32.ofNat hi)), .val (.int (Int32.ofNat b)), .val (.int (Int32.ofNat r))] [(.int (Int32.ofNat b)), (.int o), (.ref a), (.int r3)]))
      obtain ⟨_, T4, Lc4, X4, ⟨r4, rfl, Nq4, eq4⟩, st4⟩ := callCp X3 hx hZ e3 (y := (⟨"io/sluicegate/runtime/KeyGroupPlan", "shared", "(II)I"⟩ : MethodName)) (a := a) (argsL := [(.int o), (.int (Int32.ofNat b))]) (rest := [(.int r3)]) hown (hw _ (List.mem_of_getElem? (i := 50) rfl)) (hw _ (List.mem_of_getElem? (i := 51) rfl)) (hw _ (List.mem_of_getElem? (i := 52) rfl)) (hw _ (List.mem_of_getElem? (i := 2) rfl)) (hw _ (List.mem_of_getElem? (i := 3) rfl)) (hw _ (List.mem_of_getElem? (i := 53) rfl)) (by decide) Ea (rmS l Z a0 hw a (o) ((Int32.ofNat b)) _ _ _ _ n0 Z0 Ea FG FF FT (own_nz64 (by omega) (by omega)) (own_nz64 (by omega) (by omega))) (W := 1) (by decide) (by decide) (g := (mkF m 25 #[.val (.ref a), .val (.int o), .val (.int (Int32.ofNat lo)), .val (.int (Int32.ofNat hi)), .val (.int (Int32.ofNat b)), .val (.int (Int32.ofNat r))] [(.int (Int32.ofNat b)), (.int o), (.ref a), (.int r3)])) rfl (by rw [hml]; rfl) (lenOf pd_3 rfl) rfl (by show 2 * 0 + _ ≤ _; exact Nat.le_of_eq rfl) (hb hby d_prog_70_method_11_25) (by decide) (by decide)
      have N4 := Fr.app N3 Nq4
      have e4 : T4.heap = h0 := eq4
      refine Go.st st4 ?_
      show Go p e below P (T4.setTop (mkF m 28 #[.val (.ref a), .val (.int o), .val (.int (Int32.ofNat lo)), .val (.int (Int32.ofNat hi)), .val (.int (Int32.ofNat b)), .val (.int (Int32.ofNat r))] [(.int r4), (.int r3)]))
      by_cases br5 : r4 < r3
      · refine Go.st (fun _ kt => XS.icmpYes X4.here hx rfl (pc0 := 28) (pc' := 54) rfl (hb hby d_prog_70_method_11_28) rfl (tlt br5).2.2.1 (by decide) (by decide) kt) ?_
        show Go p e below P (T4.setTop (mkF m 54 #[.val (.ref a), .val (.int o), .val (.int (Int32.ofNat lo)), .val (.int (Int32.ofNat hi)), .val (.int (Int32.ofNat b)), .val (.int (Int32.ofNat r))] []))
        refine Go.st (fun _ kt => XS.iload X4.here hx rfl (hb hby d_prog_70_method_11_54) rfl (XS.istore X4.here hx rfl (hb hby d_prog_70_method_11_56) rfl (l' := #[.val (.ref a), .val (.int o), .val (.int (Int32.ofNat lo)), .val (.int (Int32.ofNat hi)), .val (.int (Int32.ofNat r)), .val (.int (Int32.ofNat r))]) rfl (XS.iinc X4.here hx rfl (hb hby d_prog_70_method_11_58) rfl (l' := #[.val (.ref a), .val (.int o), .val (.int (Int32.ofNat lo)), .val (.int (Int32.ofNat hi)), .val (.int (Int32.ofNat r)), .val (.int ((Int32.ofNat r) + (1 : Int32)))]) rfl (XS.goto X4.here hx rfl (pc0 := 61) (pc' := 8) rfl (hb hby d_prog_70_method_11_61) (by decide) (by decide) kt)))) ?_
        show Go p e below P (T4.setTop (mkF m 8 #[.val (.ref a), .val (.int o), .val (.int (Int32.ofNat lo)), .val (.int (Int32.ofNat hi)), .val (.int (Int32.ofNat r)), .val (.int ((Int32.ofNat r) + (1 : Int32)))] []))
        rw [own_succ]
        exact ih2  _ _ (r + 1) r (X4.more (by decide) (by decide)) N4 (by rw [e4]; exact Z0) e4 (by omega) (by omega) (by omega)
      · refine Go.st (fun _ kt => XS.icmpNo X4.here hx rfl (hb hby d_prog_70_method_11_28) rfl (flt br5).2.2.1 kt) ?_
        show Go p e below P (T4.setTop (mkF m 31 #[.val (.ref a), .val (.int o), .val (.int (Int32.ofNat lo)), .val (.int (Int32.ofNat hi)), .val (.int (Int32.ofNat b)), .val (.int (Int32.ofNat r))] []))
        refine Go.st (fun _ kt => XS.aloadN X4.here hx rfl (hb hby d_prog_70_method_11_31) rfl rfl (XS.iloadN X4.here hx rfl (hb hby d_prog_70_method_11_32) rfl (XS.iload X4.here hx rfl (hb hby d_prog_70_method_11_33) rfl kt))) ?_
        show Go p e below P (T4.setTop (mkF m 35 #[.val (.ref a), .val (.int o), .val (.int (Int32.ofNat lo)), .val (.int (Int32.ofNat hi)), .val (.int (Int32.ofNat b)), .val (.int (Int32.ofNat r))] [(.int (Int32.ofNat r)), (.int o), (.ref a)]))
        obtain ⟨_, T6, Lc6, X6, ⟨r6, rfl, Nq6, eq6⟩, st6⟩ := callCp X4 hx hZ e4 (y := (⟨"io/sluicegate/runtime/KeyGroupPlan", "shared", "(II)I"⟩ : MethodName)) (a := a) (argsL := [(.int o), (.int (Int32.ofNat r))]) (rest := []) hown (hw _ (List.mem_of_getElem? (i := 50) rfl)) (hw _ (List.mem_of_getElem? (i := 51) rfl)) (hw _ (List.mem_of_getElem? (i := 52) rfl)) (hw _ (List.mem_of_getElem? (i := 2) rfl)) (hw _ (List.mem_of_getElem? (i := 3) rfl)) (hw _ (List.mem_of_getElem? (i := 53) rfl)) (by decide) Ea (rmS l Z a0 hw a (o) ((Int32.ofNat r)) _ _ _ _ n0 Z0 Ea FG FF FT (own_nz64 (by omega) (by omega)) (own_nz64 (by omega) (by omega))) (W := 0) (by decide) (by decide) (g := (mkF m 35 #[.val (.ref a), .val (.int o), .val (.int (Int32.ofNat lo)), .val (.int (Int32.ofNat hi)), .val (.int (Int32.ofNat b)), .val (.int (Int32.ofNat r))] [(.int (Int32.ofNat r)), (.int o), (.ref a)])) rfl (by rw [hml]; rfl) (lenOf pd_3 rfl) rfl (by show 2 * 0 + _ ≤ _; exact Nat.le_of_eq rfl) (hb hby d_prog_70_method_11_35) (by decide) (by decide)
        have N6 := Fr.app N4 Nq6
        have e6 : T6.heap = h0 := eq6
        refine Go.st st6 ?_
        show Go p e below P (T6.setTop (mkF m 38 #[.val (.ref a), .val (.int o), .val (.int (Int32.ofNat lo)), .val (.int (Int32.ofNat hi)), .val (.int (Int32.ofNat b)), .val (.int (Int32.ofNat r))] [(.int r6)]))
        refine Go.st (fun _ kt => XS.aloadN X6.here hx rfl (hb hby d_prog_70_method_11_38) rfl rfl (XS.iloadN X6.here hx rfl (hb hby d_prog_70_method_11_39) rfl (XS.iload X6.here hx rfl (hb hby d_prog_70_method_11_40) rfl kt))) ?_
        show Go p e below P (T6.setTop (mkF m 42 #[.val (.ref a), .val (.int o), .val (.int (Int32.ofNat lo)), .val (.int (Int32.ofNat hi)), .val (.int (Int32.ofNat b)), .val (.int (Int32.ofNat r))] [(.int (Int32.ofNat b)), (.int o), (.ref a), (.int r6)]))
        obtain ⟨_, T7, Lc7, X7, ⟨r7, rfl, Nq7, eq7⟩, st7⟩ := callCp X6 hx hZ e6 (y := (⟨"io/sluicegate/runtime/KeyGroupPlan", "shared", "(II)I"⟩ : MethodName)) (a := a) (argsL := [(.int o), (.int (Int32.ofNat b))]) (rest := [(.int r6)]) hown (hw _ (List.mem_of_getElem? (i := 50) rfl)) (hw _ (List.mem_of_getElem? (i := 51) rfl)) (hw _ (List.mem_of_getElem? (i := 52) rfl)) (hw _ (List.mem_of_getElem? (i := 2) rfl)) (hw _ (List.mem_of_getElem? (i := 3) rfl)) (hw _ (List.mem_of_getElem? (i := 53) rfl)) (by decide) Ea (rmS l Z a0 hw a (o) ((Int32.ofNat b)) _ _ _ _ n0 Z0 Ea FG FF FT (own_nz64 (by omega) (by omega)) (own_nz64 (by omega) (by omega))) (W := 1) (by decide) (by decide) (g := (mkF m 42 #[.val (.ref a), .val (.int o), .val (.int (Int32.ofNat lo)), .val (.int (Int32.ofNat hi)), .val (.int (Int32.ofNat b)), .val (.int (Int32.ofNat r))] [(.int (Int32.ofNat b)), (.int o), (.ref a), (.int r6)])) rfl (by rw [hml]; rfl) (lenOf pd_3 rfl) rfl (by show 2 * 0 + _ ≤ _; exact Nat.le_of_eq rfl) (hb hby d_prog_70_method_11_42) (by decide) (by decide)
        have N7 := Fr.app N6 Nq7
        have e7 : T7.heap = h0 := eq7
        refine Go.st st7 ?_
        show Go p e below P (T7.setTop (mkF m 45 #[.val (.ref a), .val (.int o), .val (.int (Int32.ofNat lo)), .val (.int (Int32.ofNat hi)), .val (.int (Int32.ofNat b)), .val (.int (Int32.ofNat r))] [(.int r7), (.int r6)]))
        by_cases br8 : r6 = r7
        · refine Go.st (fun _ kt => XS.icmpNo X7.here hx rfl (hb hby d_prog_70_method_11_45) rfl (teq br8).2 kt) ?_
          show Go p e below P (T7.setTop (mkF m 48 #[.val (.ref a), .val (.int o), .val (.int (Int32.ofNat lo)), .val (.int (Int32.ofNat hi)), .val (.int (Int32.ofNat b)), .val (.int (Int32.ofNat r))] []))
          refine Go.st (fun _ kt => XS.iload X7.here hx rfl (hb hby d_prog_70_method_11_48) rfl (XS.iloadN X7.here hx rfl (hb hby d_prog_70_method_11_50) rfl kt)) ?_
          show Go p e below P (T7.setTop (mkF m 51 #[.val (.ref a), .val (.int o), .val (.int (Int32.ofNat lo)), .val (.int (Int32.ofNat hi)), .val (.int (Int32.ofNat b)), .val (.int (Int32.ofNat r))] [(.int o), (.int (Int32.ofNat r))]))
          by_cases br9 : (Int32.ofNat r) = o
          · refine Go.st (fun _ kt => XS.icmpNo X7.here hx rfl (hb hby d_prog_70_method_11_51) rfl (teq br9).2 kt) ?_
            show Go p e below P (T7.setTop (mkF m 54 #[.val (.ref a), .val (.int o), .val (.int (Int32.ofNat lo)), .val (.int (Int32.ofNat hi)), .val (.int (Int32.ofNat b)), .val (.int (Int32.ofNat r))] []))
            refine Go.st (fun _ kt => XS.iload X7.here hx rfl (hb hby d_prog_70_method_11_54) rfl (XS.istore X7.here hx rfl (hb hby d_prog_70_method_11_56) rfl (l' := #[.val (.ref a), .val (.int o), .val (.int (Int32.ofNat lo)), .val (.int (Int32.ofNat hi)), .val (.int (Int32.ofNat r)), .val (.int (Int32.ofNat r))]) rfl (XS.iinc X7.here hx rfl (hb hby d_prog_70_method_11_58) rfl (l' := #[.val (.ref a), .val (.int o), .val (.int (Int32.ofNat lo)), .val (.int (Int32.ofNat hi)), .val (.int (Int32.ofNat r)), .val (.int ((Int32.ofNat r) + (1 : Int32)))]) rfl (XS.goto X7.here hx rfl (pc0 := 61) (pc' := 8) rfl (hb hby d_prog_70_method_11_61) (by decide) (by decide) kt)))) ?_
            show Go p e below P (T7.setTop (mkF m 8 #[.val (.ref a), .val (.int o), .val (.int (Int32.ofNat lo)), .val (.int (Int32.ofNat hi)), .val (.int (Int32.ofNat r)), .val (.int ((Int32.ofNat r) + (1 : Int32)))] []))
            rw [own_succ]
            exact ih2  _ _ (r + 1) r (X7.more (by decide) (by decide)) N7 (by rw [e7]; exact Z0) e7 (by omega) (by omega) (by omega)
          · refine Go.st (fun _ kt => XS.icmpYes X7.here hx rfl (pc0 := 51) (pc' := 58) rfl (hb hby d_prog_70_method_11_51) rfl (feq br9).2 (by decide) (by decide) kt) ?_
            show Go p e below P (T7.setTop (mkF m 58 #[.val (.ref a), .val (.int o), .val (.int (Int32.ofNat lo)), .val (.int (Int32.ofNat hi)), .val (.int (Int32.ofNat b)), .val (.int (Int32.ofNat r))] []))
            refine Go.st (fun _ kt => XS.iinc X7.here hx rfl (hb hby d_prog_70_method_11_58) rfl (l' := #[.val (.ref a), .val (.int o), .val (.int (Int32.ofNat lo)), .val (.int (Int32.ofNat hi)), .val (.int (Int32.ofNat b)), .val (.int ((Int32.ofNat r) + (1 : Int32)))]) rfl (XS.goto X7.here hx rfl (pc0 := 61) (pc' := 8) rfl (hb hby d_prog_70_method_11_61) (by decide) (by decide) kt)) ?_
            show Go p e below P (T7.setTop (mkF m 8 #[.val (.ref a), .val (.int o), .val (.int (Int32.ofNat lo)), .val (.int (Int32.ofNat hi)), .val (.int (Int32.ofNat b)), .val (.int ((Int32.ofNat r) + (1 : Int32)))] []))
            rw [own_succ]
            exact ih2  _ _ (r + 1) b (X7.more (by decide) (by decide)) N7 (by rw [e7]; exact Z0) e7 (by omega) (by omega) (by omega)
        · refine Go.st (fun _ kt => XS.icmpYes X7.here hx rfl (pc0 := 45) (pc' := 58) rfl (hb hby d_prog_70_method_11_45) rfl (feq br8).2 (by decide) (by decide) kt) ?_
          show Go p e below P (T7.setTop (mkF m 58 #[.val (.ref a), .val (.int o), .val (.int (Int32.ofNat lo)), .val (.int (Int32.ofNat hi)), .val (.int (Int32.ofNat b)), .val (.int (Int32.ofNat r))] []))
          refine Go.st (fun _ kt => XS.iinc X7.here hx rfl (hb hby d_prog_70_method_11_58) rfl (l' := #[.val (.ref a), .val (.int o), .val (.int (Int32.ofNat lo)), .val (.int (Int32.ofNat hi)), .val (.int (Int32.ofNat b)), .val (.int ((Int32.ofNat r) + (1 : Int32)))]) rfl (XS.goto X7.here hx rfl (pc0 := 61) (pc' := 8) rfl (hb hby d_prog_70_method_11_61) (by decide) (by decide) kt)) ?_
          show Go p e below P (T7.setTop (mkF m 8 #[.val (.ref a), .val (.int o), .val (.int (Int32.ofNat lo)), .val (.int (Int32.ofNat hi)), .val (.int (Int32.ofNat b)), .val (.int ((Int32.ofNat r) + (1 : Int32)))] []))
          rw [own_succ]
          exact ih2  _ _ (r + 1) b (X7.more (by decide) (by decide)) N7 (by rw [e7]; exact Z0) e7 (by omega) (by omega) (by omega)
  refine Go.st (fun _ kt => XS.iloadN X0.here hx rfl (hb hby d_prog_70_method_11_0) rfl (XS.istore X0.here hx rfl (hb hby d_prog_70_method_11_1) rfl (l' := #[.val (.ref a), .val (.int o), .val (.int (Int32.ofNat lo)), .val (.int (Int32.ofNat hi)), .val (.int (Int32.ofNat lo)), .unset]) rfl (XS.iloadN X0.here hx rfl (hb hby d_prog_70_method_11_3) rfl (XS.iconst X0.here hx rfl (hb hby d_prog_70_method_11_4) (XS.iadd X0.here hx rfl (hb hby d_prog_70_method_11_5) rfl (XS.istore X0.here hx rfl (hb hby d_prog_70_method_11_6) rfl (l' := #[.val (.ref a), .val (.int o), .val (.int (Int32.ofNat lo)), .val (.int (Int32.ofNat hi)), .val (.int (Int32.ofNat lo)), .val (.int ((Int32.ofNat lo) + (1 : Int32)))]) rfl kt)))))) ?_
  show Go p e below P (T0.setTop (mkF m 8 #[.val (.ref a), .val (.int o), .val (.int (Int32.ofNat lo)), .val (.int (Int32.ofNat hi)), .val (.int (Int32.ofNat lo)), .val (.int ((Int32.ofNat lo) + (1 : Int32)))] []))
  rw [own_succ]
  exact loop1 (hi - lo) _ _ (lo + 1) lo (X0.more (by decide) (by decide)) (Fr.nil n0) (by rw [e0]; exact Z0) e0 (by omega) (by omega) hlh
theorem d_jdk_65_method_103_5 : decode jdk_65_method_103_code 5 = .ok (.iload_n 2, 1) := by decide +kernel
theorem d_jdk_65_method_103_6 : decode jdk_65_method_103_code 6 = .ok (.iload_n 3, 1) := by decide +kernel
theorem d_jdk_65_method_103_7 : decode jdk_65_method_103_code 7 = .ok (.if_icmp .ge 13, 3) := by decide +kernel
theorem d_jdk_65_method_103_20 : decode jdk_65_method_103_code 20 = .ok (.return_, 1) := by decide +kernel
theorem d_jdk_65_method_103_10 : decode jdk_65_method_103_code 10 = .ok (.aload_n 0, 1) := by decide +kernel
theorem d_jdk_65_method_103_11 : decode jdk_65_method_103_code 11 = .ok (.iload_n 2, 1) := by decide +kernel
theorem d_jdk_65_method_103_12 : decode jdk_65_method_103_code 12 = .ok (.iload_n 1, 1) := by decide +kernel
theorem d_jdk_65_method_103_13 : decode jdk_65_method_103_code 13 = .ok (.iastore, 1) := by decide +kernel
theorem d_jdk_65_method_103_14 : decode jdk_65_method_103_code 14 = .ok (.iinc 2 1, 3) := by decide +kernel
theorem d_jdk_65_method_103_17 : decode jdk_65_method_103_code 17 = .ok (.goto (-12), 3) := by decide +kernel
theorem d_jdk_65_method_103_0 : decode jdk_65_method_103_code 0 = .ok (.iconst 0, 1) := by decide +kernel
theorem d_jdk_65_method_103_1 : decode jdk_65_method_103_code 1 = .ok (.istore_n 2, 1) := by decide +kernel
theorem d_jdk_65_method_103_2 : decode jdk_65_method_103_code 2 = .ok (.aload_n 0, 1) := by decide +kernel
theorem d_jdk_65_method_103_3 : decode jdk_65_method_103_code 3 = .ok (.arraylength, 1) := by decide +kernel
theorem d_jdk_65_method_103_4 : decode jdk_65_method_103_code 4 = .ok (.istore_n 3, 1) := by decide +kernel
theorem pn_4 : plainName "java/util/Arrays" = true := by first | (simp [plainName, overriddenIn]; done) | decide +kernel
theorem ef_rmFl (m : MethodId) (a : Addr) (x0 : Int32) : entryFrame m #[(.ref a), (.int x0)] 4 = mkF m 0 #[.val (.ref a), .val (.int x0), .unset, .unset] [] := by first | (simp [entryFrame, mkF, argsToLocals, Value.category]; done) | rfl
set_option maxRecDepth 65536 in
set_option maxHeartbeats 40000000 in
theorem rmFl (l : Launch) (Z : State) (a0 : Array Value) (hw : ∀ d ∈ tables_1, d.before a0 Z = true) (a : Addr) (x0 : Int32) (n : Nat) (f0 : Nat → Int32) (h0 : Heap) (n0 : Nat) (Z0 : n0 ≤ h0.size) (Va : Ary Z h0 a .int Value.int n f0) (Ga : n0 ≤ a) :
    Ct l (⟨"java/util/Arrays", "fill", "([II)V"⟩ : MethodName) jdk_65_method_103_code 4 none [] ({ frames := 0, cells := 0, slots := 0, locals := 0 } : Room) Z #[(.ref a), (.int x0)] h0 (fun v h L => v = none ∧ Fr n0 L ∧ Keep h0 h [a] ∧ Ary Z h a .int Value.int n (fun _ => x0)) := by
  refine Ct.of (plainFor_of_name pn_4) (fun m => ef_rmFl m a x0) ?_
  intro p e s m below meth c T0 X0 hx hby hml hret hlk hown hnm hZ e0 P hP
  have hsm := Va.small
  have loop1 : ∀ (d : Nat) (T2 : State) (Lk2 : List Loc) (i : Nat) (f : Nat → Int32), Stand p l e ({ frames := 0, cells := 0, slots := 0, locals := 0 } : Room) s m #[(.ref a), (.int x0)] below meth c T2 Lk2 0 0 → Fr n0 Lk2 → n0 ≤ T2.heap.size → Ary Z T2.heap a .int Value.int n f → Keep h0 T2.heap [a] → i + d = n → (∀ j, j < i → f j = x0) → Go p e below P (T2.setTop (mkF m 5 #[.val (.ref a), .val (.int x0), .val (.int (Int32.ofNat i)), .val (.int (Int32.ofNat n))] [])) := by
    intro d
    induction d with
    | zero =>
      intro T2 Lk2 i f X2 N2 Z2 fc2_0 fc2_1 hid hf
      show Go p e below P (T2.setTop (mkF m 5 #[.val (.ref a), .val (.int x0), .val (.int (Int32.ofNat i)), .val (.int (Int32.ofNat n))] []))
      refine Go.st (fun _ kt => XS.iloadN X2.here hx rfl (hb hby d_jdk_65_method_103_5) rfl (XS.iloadN X2.here hx rfl (hb hby d_jdk_65_method_103_6) rfl (XS.icmpYes X2.here hx rfl (pc0 := 7) (pc' := 20) rfl (hb hby d_jdk_65_method_103_7) rfl (flt (fun q => by rw [own_ltN (by omega) (by omega)] at q; omega)).2.1 (by decide) (by decide) kt))) ?_
      show Go p e below P (T2.setTop (mkF m 20 #[.val (.ref a), .val (.int x0), .val (.int (Int32.ofNat i)), .val (.int (Int32.ofNat n))] []))
      exact goV X2 hx hret hlk (hb hby d_jdk_65_method_103_20) hP (by decide) (by decide) ⟨rfl, N2, fc2_1, Ary.congr fc2_0 (fun j hj => hf j (by omega))⟩
    | succ d ih2 =>
      intro T2 Lk2 i f X2 N2 Z2 fc2_0 fc2_1 hid hf
      show Go p e below P (T2.setTop (mkF m 5 #[.val (.ref a), .val (.int x0), .val (.int (Int32.ofNat i)), .val (.int (Int32.ofNat n))] []))
      refine Go.st (fun _ kt => XS.iloadN X2.here hx rfl (hb hby d_jdk_65_method_103_5) rfl (XS.iloadN X2.here hx rfl (hb hby d_jdk_65_method_103_6) rfl (XS.icmpNo X2.here hx rfl (hb hby d_jdk_65_method_103_7) rfl (tlt ((own_ltN (by omega) (by omega)).mpr (by omega))).2.1 (XS.aloadN X2.here hx rfl (hb hby d_jdk_65_method_103_10) rfl rfl (XS.iloadN X2.here hx rfl (hb hby d_jdk_65_method_103_11) rfl (XS.iloadN X2.here hx rfl (hb hby d_jdk_65_method_103_12) rfl kt)))))) ?_
      show Go p e below P (T2.setTop (mkF m 13 #[.val (.ref a), .val (.int x0), .val (.int (Int32.ofNat i)), .val (.int (Int32.ofNat n))] [(.int x0), (.int (Int32.ofNat i)), (.ref a)]))
      obtain ⟨T3, h3, X3, e3, W3, V3, st3⟩ := aryStI X2 hx hZ rfl fc2_0 (j := (Int32.ofNat i)) (x := x0) (i := i) (isN_ofNat (by omega)) (by omega) (g := (mkF m 13 #[.val (.ref a), .val (.int x0), .val (.int (Int32.ofNat i)), .val (.int (Int32.ofNat n))] [(.int x0), (.int (Int32.ofNat i)), (.ref a)])) rfl rfl (hb hby d_jdk_65_method_103_13)
      have K4 := Keep.wr fc2_1 W3 (Or.inl (List.mem_of_getElem? (i := 0) rfl))
      have Z5 : n0 ≤ h3.size := by rw [W3.size]; exact Z2
      have N6 := Fr.snoc X3 N2 Ga
      refine Go.st st3 ?_
      show Go p e below P (T3.setTop (mkF m 14 #[.val (.ref a), .val (.int x0), .val (.int (Int32.ofNat i)), .val (.int (Int32.ofNat n))] []))
      refine Go.st (fun _ kt => XS.iinc X3.here hx rfl (hb hby d_jdk_65_method_103_14) rfl (l' := #[.val (.ref a), .val (.int x0), .val (.int ((Int32.ofNat i) + (1 : Int32))), .val (.int (Int32.ofNat n))]) rfl (XS.goto X3.here hx rfl (pc0 := 17) (pc' := 5) rfl (hb hby d_jdk_65_method_103_17) (by decide) (by decide) kt)) ?_
      show Go p e below P (T3.setTop (mkF m 5 #[.val (.ref a), .val (.int x0), .val (.int ((Int32.ofNat i) + (1 : Int32))), .val (.int (Int32.ofNat n))] []))
      rw [own_succ]
      exact ih2  _ _ (i + 1) _ (X3.more (by decide) (by decide)) N6 (by rw [e3]; exact Z5) (by rw [e3]; exact V3) (by rw [e3]; exact K4) (by omega) (fun j hj => by
          by_cases e : j = i
          · subst e; rw [updN_hit]
          · rw [updN_miss e]; exact hf j (by omega))
  refine Go.st (fun _ kt => XS.iconst X0.here hx rfl (hb hby d_jdk_65_method_103_0) (XS.istoreN X0.here hx rfl (hb hby d_jdk_65_method_103_1) rfl (l' := #[.val (.ref a), .val (.int x0), .val (.int (0 : Int32)), .unset]) rfl (XS.aloadN X0.here hx rfl (hb hby d_jdk_65_method_103_2) rfl rfl (aryLen X0 hx hZ e0 Va (g := (mkF m 3 #[.val (.ref a), .val (.int x0), .val (.int (0 : Int32)), .unset] [(.ref a)])) rfl rfl (hb hby d_jdk_65_method_103_3) _ (XS.istoreN X0.here hx rfl (hb hby d_jdk_65_method_103_4) rfl (l' := #[.val (.ref a), .val (.int x0), .val (.int (0 : Int32)), .val (.int (Int32.ofNat n))]) rfl kt))))) ?_
  show Go p e below P (T0.setTop (mkF m 5 #[.val (.ref a), .val (.int x0), .val (.int (0 : Int32)), .val (.int (Int32.ofNat n))] []))
  exact loop1 n _ _ 0 f0 (X0.more (by decide) (by decide)) (Fr.nil n0) (by rw [e0]; exact Z0) (by rw [e0]; exact Va) (by rw [e0]; exact (Keep.refl h0 [a])) (by omega) (fun j hj => by omega)
def own_enc : Option Nat → Int32
  | none => -1
  | some j => Int32.ofNat j
def own_hd (pk : Nat → Nat) (c : Nat → Option Nat) (j : Nat) : Nat := if c (pk j) = some j then pk j else j
theorem own_enc_none : own_enc none = -1 := rfl
theorem own_enc_some (j : Nat) : own_enc (some j) = Int32.ofNat j := rfl
theorem own_enc_neg {x : Option Nat} (h : ∀ j, x = some j → j < 2 ^ 31) : own_enc x < 0 ↔ x = none := by
  cases x with
  | none => exact ⟨fun _ => rfl, fun _ => by decide⟩
  | some j =>
    have hj := h j rfl
    constructor
    · intro q; rw [own_enc_some, own_lti own_zero, own_tn hj] at q; omega
    · intro q; cases q
theorem own_enc_eq {x : Option Nat} {i : Nat} (h : ∀ j, x = some j → j < 2 ^ 31) (hi : i < 2 ^ 31) : own_enc x = Int32.ofNat i ↔ x = some i := by
  cases x with
  | none =>
    constructor
    · intro q
      have := congrArg Int32.toInt q
      rw [own_tn hi, own_enc_none, show (-1 : Int32).toInt = -1 from by decide] at this; omega
    · intro q; cases q
  | some j =>
    have hj := h j rfl
    constructor
    · intro q; rw [own_ofn hj hi q]
    · intro q; cases q; rfl
theorem own_geo {G F T i : Nat} (hF1 : 1 ≤ F) (hFG : F ≤ G) (hT1 : 1 ≤ T) (hTG : T ≤ G) (hi : i < F) :
    i * G / F + 1 ≤ (i + 1) * G / F ∧ (i + 1) * G / F ≤ G ∧ (i * G / F * T + T - 1) / G ≤ (((i + 1) * G / F - 1) * T + T - 1) / G ∧ (((i + 1) * G / F - 1) * T + T - 1) / G < T := by
  have a1 : i * G / F + 1 ≤ (i + 1) * G / F := by
    rw [← Nat.add_div_right _ (by omega : 0 < F)]
    exact Nat.div_le_div_right (by rw [Nat.add_mul, Nat.one_mul]; omega)
  have a2 : (i + 1) * G / F ≤ G := by
    have q : (i + 1) * G / F ≤ F * G / F := Nat.div_le_div_right (Nat.mul_le_mul_right G (by omega))
    rwa [Nat.mul_div_cancel_left G (by omega : 0 < F)] at q
  generalize (i + 1) * G / F = g2 at a1 a2 ⊢
  generalize i * G / F = g1 at a1 ⊢
  refine ⟨a1, a2, Nat.div_le_div_right ?_, ?_⟩
  · have := Nat.mul_le_mul_right T (by omega : g1 ≤ g2 - 1); omega
  · refine Nat.div_lt_of_lt_mul ?_
    have q := Nat.mul_le_mul_right T (by omega : g2 - 1 + 1 ≤ G)
    rw [Nat.add_mul, Nat.one_mul] at q
    omega
theorem own_dn {n : Nat} (h : 1 ≤ n) : Int32.ofNat n - (1 : Int32) = Int32.ofNat (n - 1) := by
  obtain ⟨k, rfl⟩ : ∃ k, n = k + 1 := ⟨n - 1, by omega⟩
  rw [← own_succ, Int32.add_sub_cancel, Nat.add_sub_cancel]
theorem own_minN {F T : Nat} (h1 : F ≤ 256) (h2 : T ≤ 256) : own_min (Int32.ofNat F) (Int32.ofNat T) = Int32.ofNat (min F T) := by
  unfold own_min
  by_cases q : T < F
  · rw [if_pos ((own_ltN (by omega) (by omega)).mpr q), Nat.min_eq_right (by omega)]
  · rw [if_neg (fun g => q ((own_ltN (by omega) (by omega)).mp g)), Nat.min_eq_left (by omega)]
/-- what the plan leaves -/
def own_plan (F T : Nat) (c : Nat → Option Nat) (hd : Nat → Nat) : Prop := (∀ i j, c i = some j → j ≤ 256 ∧ (j < F ∨ j = i)) ∧ (∀ o, o < F → hd o ≤ 256) ∧ ∀ i o, o ≠ i → i < T → o < F → (c i = some o ↔ hd o = i)
theorem own_plan_of {F T : Nat} {pk : Nat → Nat} {c c' : Nat → Option Nat} {hd : Nat → Nat} (hF : F ≤ 256) (hT : T ≤ 256) (hpk : ∀ j, j < F → pk j < T) (hc : ∀ g j, c g = some j → j < F ∧ pk j = g) (hhd : ∀ j, j < F → hd j = own_hd pk c j) (hc' : ∀ g, c' g = c g ∨ (c g = none ∧ c' g = some g ∧ g ≤ 256)) : own_plan F T c' hd := by
  refine ⟨fun i j h => ?_, fun o ho => ?_, fun i o hne hi ho => ?_⟩
  · rcases hc' i with e | ⟨e1, e2, e3⟩
    · rw [e] at h; have := hc i j h; omega
    · rw [e2] at h; cases h; omega
  · rw [hhd o ho]; unfold own_hd; have := hpk o ho; split <;> omega
  · rw [hhd o ho]; unfold own_hd
    constructor
    · intro h
      rcases hc' i with e | ⟨e1, e2, e3⟩
      · rw [e] at h
        have q := (hc i o h).2
        rw [q, if_pos h]
      · rw [e2] at h; cases h; exact absurd rfl hne
    · intro h
      by_cases q : c (pk o) = some o
      · rw [if_pos q] at h
        rw [h] at q
        rcases hc' i with e | ⟨e1, e2, e3⟩
        · rw [e]; exact q
        · rw [e1] at q; cases q
      · rw [if_neg q] at h; exact absurd h hne
theorem d_prog_70_method_1_0 : decode prog_70_method_1_code 0 = .ok (.aload_n 0, 1) := by decide +kernel
theorem d_prog_70_method_1_1 : decode prog_70_method_1_code 1 = .ok (.invokespecial 1, 3) := by decide +kernel
theorem d_prog_70_method_1_4 : decode prog_70_method_1_code 4 = .ok (.iload_n 1, 1) := by decide +kernel
theorem d_prog_70_method_1_5 : decode prog_70_method_1_code 5 = .ok (.iconst 1, 1) := by decide +kernel
theorem d_prog_70_method_1_6 : decode prog_70_method_1_code 6 = .ok (.if_icmp .lt 23, 3) := by decide +kernel
theorem d_prog_70_method_1_9 : decode prog_70_method_1_code 9 = .ok (.iload_n 2, 1) := by decide +kernel
theorem d_prog_70_method_1_10 : decode prog_70_method_1_code 10 = .ok (.iconst 1, 1) := by decide +kernel
theorem d_prog_70_method_1_11 : decode prog_70_method_1_code 11 = .ok (.if_icmp .lt 18, 3) := by decide +kernel
theorem d_prog_70_method_1_14 : decode prog_70_method_1_code 14 = .ok (.iload_n 3, 1) := by decide +kernel
theorem d_prog_70_method_1_15 : decode prog_70_method_1_code 15 = .ok (.iconst 1, 1) := by decide +kernel
theorem d_prog_70_method_1_16 : decode prog_70_method_1_code 16 = .ok (.if_icmp .lt 13, 3) := by decide +kernel
theorem d_prog_70_method_1_19 : decode prog_70_method_1_code 19 = .ok (.iload_n 2, 1) := by decide +kernel
theorem d_prog_70_method_1_20 : decode prog_70_method_1_code 20 = .ok (.iload_n 1, 1) := by decide +kernel
theorem d_prog_70_method_1_21 : decode prog_70_method_1_code 21 = .ok (.if_icmp .gt 8, 3) := by decide +kernel
theorem d_prog_70_method_1_24 : decode prog_70_method_1_code 24 = .ok (.iload_n 3, 1) := by decide +kernel
theorem d_prog_70_method_1_25 : decode prog_70_method_1_code 25 = .ok (.iload_n 1, 1) := by decide +kernel
theorem d_prog_70_method_1_26 : decode prog_70_method_1_code 26 = .ok (.if_icmp .le 19, 3) := by decide +kernel
theorem d_prog_70_method_1_45 : decode prog_70_method_1_code 45 = .ok (.aload_n 0, 1) := by decide +kernel
theorem d_prog_70_method_1_46 : decode prog_70_method_1_code 46 = .ok (.iload_n 1, 1) := by decide +kernel
theorem d_prog_70_method_1_47 : decode prog_70_method_1_code 47 = .ok (.putfield 16, 3) := by decide +kernel
theorem d_prog_70_method_1_50 : decode prog_70_method_1_code 50 = .ok (.aload_n 0, 1) := by decide +kernel
theorem d_prog_70_method_1_51 : decode prog_70_method_1_code 51 = .ok (.iload_n 2, 1) := by decide +kernel
theorem d_prog_70_method_1_52 : decode prog_70_method_1_code 52 = .ok (.putfield 22, 3) := by decide +kernel
theorem d_prog_70_method_1_55 : decode prog_70_method_1_code 55 = .ok (.aload_n 0, 1) := by decide +kernel
theorem d_prog_70_method_1_56 : decode prog_70_method_1_code 56 = .ok (.iload_n 3, 1) := by decide +kernel
theorem d_prog_70_method_1_57 : decode prog_70_method_1_code 57 = .ok (.putfield 25, 3) := by decide +kernel
theorem d_prog_70_method_1_60 : decode prog_70_method_1_code 60 = .ok (.iload_n 2, 1) := by decide +kernel
theorem d_prog_70_method_1_61 : decode prog_70_method_1_code 61 = .ok (.newarray .int, 2) := by decide +kernel
theorem d_prog_70_method_1_63 : decode prog_70_method_1_code 63 = .ok (.astore 4, 2) := by decide +kernel
theorem d_prog_70_method_1_65 : decode prog_70_method_1_code 65 = .ok (.iconst 0, 1) := by decide +kernel
theorem d_prog_70_method_1_66 : decode prog_70_method_1_code 66 = .ok (.istore 5, 2) := by decide +kernel
theorem d_prog_70_method_1_68 : decode prog_70_method_1_code 68 = .ok (.iload 5, 2) := by decide +kernel
theorem d_prog_70_method_1_70 : decode prog_70_method_1_code 70 = .ok (.iload_n 2, 1) := by decide +kernel
theorem d_prog_70_method_1_71 : decode prog_70_method_1_code 71 = .ok (.if_icmp .ge 48, 3) := by decide +kernel
theorem d_prog_70_method_1_119 : decode prog_70_method_1_code 119 = .ok (.aload_n 0, 1) := by decide +kernel
theorem d_prog_70_method_1_120 : decode prog_70_method_1_code 120 = .ok (.iload_n 3, 1) := by decide +kernel
theorem d_prog_70_method_1_121 : decode prog_70_method_1_code 121 = .ok (.newarray .int, 2) := by decide +kernel
theorem d_prog_70_method_1_123 : decode prog_70_method_1_code 123 = .ok (.putfield 39, 3) := by decide +kernel
theorem d_prog_70_method_1_126 : decode prog_70_method_1_code 126 = .ok (.aload_n 0, 1) := by decide +kernel
theorem d_prog_70_method_1_127 : decode prog_70_method_1_code 127 = .ok (.getfield 39, 3) := by decide +kernel
theorem d_prog_70_method_1_130 : decode prog_70_method_1_code 130 = .ok (.iconst (-1), 1) := by decide +kernel
theorem pd_5 : parseMethodDescriptor "([II)V" = some ⟨[(.array .int), .int], none⟩ := by decide +kernel
theorem d_prog_70_method_1_131 : decode prog_70_method_1_code 131 = .ok (.invokestatic 43, 3) := by decide +kernel
theorem d_prog_70_method_1_134 : decode prog_70_method_1_code 134 = .ok (.iconst 0, 1) := by decide +kernel
theorem d_prog_70_method_1_135 : decode prog_70_method_1_code 135 = .ok (.istore 5, 2) := by decide +kernel
theorem d_prog_70_method_1_137 : decode prog_70_method_1_code 137 = .ok (.iload 5, 2) := by decide +kernel
theorem d_prog_70_method_1_139 : decode prog_70_method_1_code 139 = .ok (.iload_n 2, 1) := by decide +kernel
theorem d_prog_70_method_1_140 : decode prog_70_method_1_code 140 = .ok (.if_icmp .ge 84, 3) := by decide +kernel
theorem d_prog_70_method_1_224 : decode prog_70_method_1_code 224 = .ok (.aload_n 0, 1) := by decide +kernel
theorem d_prog_70_method_1_225 : decode prog_70_method_1_code 225 = .ok (.iload_n 2, 1) := by decide +kernel
theorem d_prog_70_method_1_226 : decode prog_70_method_1_code 226 = .ok (.newarray .int, 2) := by decide +kernel
theorem d_prog_70_method_1_228 : decode prog_70_method_1_code 228 = .ok (.putfield 52, 3) := by decide +kernel
theorem d_prog_70_method_1_231 : decode prog_70_method_1_code 231 = .ok (.iconst 0, 1) := by decide +kernel
theorem d_prog_70_method_1_232 : decode prog_70_method_1_code 232 = .ok (.istore 5, 2) := by decide +kernel
theorem d_prog_70_method_1_234 : decode prog_70_method_1_code 234 = .ok (.iload 5, 2) := by decide +kernel
theorem d_prog_70_method_1_236 : decode prog_70_method_1_code 236 = .ok (.iload_n 2, 1) := by decide +kernel
theorem d_prog_70_method_1_237 : decode prog_70_method_1_code 237 = .ok (.if_icmp .ge 41, 3) := by decide +kernel
theorem d_prog_70_method_1_278 : decode prog_70_method_1_code 278 = .ok (.iconst 0, 1) := by decide +kernel
theorem d_prog_70_method_1_279 : decode prog_70_method_1_code 279 = .ok (.istore 5, 2) := by decide +kernel
theorem d_prog_70_method_1_281 : decode prog_70_method_1_code 281 = .ok (.iload 5, 2) := by decide +kernel
theorem d_prog_70_method_1_283 : decode prog_70_method_1_code 283 = .ok (.iload_n 2, 1) := by decide +kernel
theorem d_prog_70_method_1_284 : decode prog_70_method_1_code 284 = .ok (.iload_n 3, 1) := by decide +kernel
theorem d_prog_70_method_1_285 : decode prog_70_method_1_code 285 = .ok (.invokestatic 55, 3) := by decide +kernel
theorem d_prog_70_method_1_288 : decode prog_70_method_1_code 288 = .ok (.if_icmp .ge 40, 3) := by decide +kernel
theorem d_prog_70_method_1_328 : decode prog_70_method_1_code 328 = .ok (.return_, 1) := by decide +kernel
theorem d_prog_70_method_1_291 : decode prog_70_method_1_code 291 = .ok (.aload_n 0, 1) := by decide +kernel
theorem d_prog_70_method_1_292 : decode prog_70_method_1_code 292 = .ok (.getfield 39, 3) := by decide +kernel
theorem d_prog_70_method_1_295 : decode prog_70_method_1_code 295 = .ok (.iload 5, 2) := by decide +kernel
theorem d_prog_70_method_1_297 : decode prog_70_method_1_code 297 = .ok (.iaload, 1) := by decide +kernel
theorem d_prog_70_method_1_298 : decode prog_70_method_1_code 298 = .ok (.ifCond .ge 24, 3) := by decide +kernel
theorem d_prog_70_method_1_301 : decode prog_70_method_1_code 301 = .ok (.aload_n 0, 1) := by decide +kernel
theorem d_prog_70_method_1_302 : decode prog_70_method_1_code 302 = .ok (.getfield 52, 3) := by decide +kernel
theorem d_prog_70_method_1_305 : decode prog_70_method_1_code 305 = .ok (.iload 5, 2) := by decide +kernel
theorem d_prog_70_method_1_307 : decode prog_70_method_1_code 307 = .ok (.iaload, 1) := by decide +kernel
theorem d_prog_70_method_1_308 : decode prog_70_method_1_code 308 = .ok (.iload 5, 2) := by decide +kernel
theorem d_prog_70_method_1_310 : decode prog_70_method_1_code 310 = .ok (.if_icmp .ne 12, 3) := by decide +kernel
theorem d_prog_70_method_1_313 : decode prog_70_method_1_code 313 = .ok (.aload_n 0, 1) := by decide +kernel
theorem d_prog_70_method_1_314 : decode prog_70_method_1_code 314 = .ok (.getfield 39, 3) := by decide +kernel
theorem d_prog_70_method_1_317 : decode prog_70_method_1_code 317 = .ok (.iload 5, 2) := by decide +kernel
theorem d_prog_70_method_1_319 : decode prog_70_method_1_code 319 = .ok (.iload 5, 2) := by decide +kernel
theorem d_prog_70_method_1_321 : decode prog_70_method_1_code 321 = .ok (.iastore, 1) := by decide +kernel
theorem d_prog_70_method_1_322 : decode prog_70_method_1_code 322 = .ok (.iinc 5 1, 3) := by decide +kernel
theorem d_prog_70_method_1_325 : decode prog_70_method_1_code 325 = .ok (.goto (-44), 3) := by decide +kernel
theorem d_prog_70_method_1_240 : decode prog_70_method_1_code 240 = .ok (.aload_n 0, 1) := by decide +kernel
theorem d_prog_70_method_1_241 : decode prog_70_method_1_code 241 = .ok (.getfield 52, 3) := by decide +kernel
theorem d_prog_70_method_1_244 : decode prog_70_method_1_code 244 = .ok (.iload 5, 2) := by decide +kernel
theorem d_prog_70_method_1_246 : decode prog_70_method_1_code 246 = .ok (.aload_n 0, 1) := by decide +kernel
theorem d_prog_70_method_1_247 : decode prog_70_method_1_code 247 = .ok (.getfield 39, 3) := by decide +kernel
theorem d_prog_70_method_1_250 : decode prog_70_method_1_code 250 = .ok (.aload 4, 2) := by decide +kernel
theorem d_prog_70_method_1_252 : decode prog_70_method_1_code 252 = .ok (.iload 5, 2) := by decide +kernel
theorem d_prog_70_method_1_254 : decode prog_70_method_1_code 254 = .ok (.iaload, 1) := by decide +kernel
theorem d_prog_70_method_1_255 : decode prog_70_method_1_code 255 = .ok (.iaload, 1) := by decide +kernel
theorem d_prog_70_method_1_256 : decode prog_70_method_1_code 256 = .ok (.iload 5, 2) := by decide +kernel
theorem d_prog_70_method_1_258 : decode prog_70_method_1_code 258 = .ok (.if_icmp .ne 11, 3) := by decide +kernel
theorem d_prog_70_method_1_261 : decode prog_70_method_1_code 261 = .ok (.aload 4, 2) := by decide +kernel
theorem d_prog_70_method_1_263 : decode prog_70_method_1_code 263 = .ok (.iload 5, 2) := by decide +kernel
theorem d_prog_70_method_1_265 : decode prog_70_method_1_code 265 = .ok (.iaload, 1) := by decide +kernel
theorem d_prog_70_method_1_266 : decode prog_70_method_1_code 266 = .ok (.goto 5, 3) := by decide +kernel
theorem d_prog_70_method_1_271 : decode prog_70_method_1_code 271 = .ok (.iastore, 1) := by decide +kernel
theorem d_prog_70_method_1_272 : decode prog_70_method_1_code 272 = .ok (.iinc 5 1, 3) := by decide +kernel
theorem d_prog_70_method_1_275 : decode prog_70_method_1_code 275 = .ok (.goto (-41), 3) := by decide +kernel
theorem d_prog_70_method_1_269 : decode prog_70_method_1_code 269 = .ok (.iload 5, 2) := by decide +kernel
theorem d_prog_70_method_1_143 : decode prog_70_method_1_code 143 = .ok (.aload 4, 2) := by decide +kernel
theorem d_prog_70_method_1_145 : decode prog_70_method_1_code 145 = .ok (.iload 5, 2) := by decide +kernel
theorem d_prog_70_method_1_147 : decode prog_70_method_1_code 147 = .ok (.iaload, 1) := by decide +kernel
theorem d_prog_70_method_1_148 : decode prog_70_method_1_code 148 = .ok (.istore 6, 2) := by decide +kernel
theorem d_prog_70_method_1_150 : decode prog_70_method_1_code 150 = .ok (.aload_n 0, 1) := by decide +kernel
theorem d_prog_70_method_1_151 : decode prog_70_method_1_code 151 = .ok (.getfield 39, 3) := by decide +kernel
theorem d_prog_70_method_1_154 : decode prog_70_method_1_code 154 = .ok (.iload 6, 2) := by decide +kernel
theorem d_prog_70_method_1_156 : decode prog_70_method_1_code 156 = .ok (.iaload, 1) := by decide +kernel
theorem d_prog_70_method_1_157 : decode prog_70_method_1_code 157 = .ok (.istore 7, 2) := by decide +kernel
theorem d_prog_70_method_1_159 : decode prog_70_method_1_code 159 = .ok (.iload 7, 2) := by decide +kernel
theorem d_prog_70_method_1_161 : decode prog_70_method_1_code 161 = .ok (.ifCond .lt 48, 3) := by decide +kernel
theorem d_prog_70_method_1_209 : decode prog_70_method_1_code 209 = .ok (.aload_n 0, 1) := by decide +kernel
theorem d_prog_70_method_1_210 : decode prog_70_method_1_code 210 = .ok (.getfield 39, 3) := by decide +kernel
theorem d_prog_70_method_1_213 : decode prog_70_method_1_code 213 = .ok (.iload 6, 2) := by decide +kernel
theorem d_prog_70_method_1_215 : decode prog_70_method_1_code 215 = .ok (.iload 5, 2) := by decide +kernel
theorem d_prog_70_method_1_217 : decode prog_70_method_1_code 217 = .ok (.iastore, 1) := by decide +kernel
theorem d_prog_70_method_1_218 : decode prog_70_method_1_code 218 = .ok (.iinc 5 1, 3) := by decide +kernel
theorem d_prog_70_method_1_221 : decode prog_70_method_1_code 221 = .ok (.goto (-84), 3) := by decide +kernel
theorem d_prog_70_method_1_164 : decode prog_70_method_1_code 164 = .ok (.aload_n 0, 1) := by decide +kernel
theorem d_prog_70_method_1_165 : decode prog_70_method_1_code 165 = .ok (.iload 5, 2) := by decide +kernel
theorem d_prog_70_method_1_167 : decode prog_70_method_1_code 167 = .ok (.iload 6, 2) := by decide +kernel
theorem d_prog_70_method_1_169 : decode prog_70_method_1_code 169 = .ok (.invokevirtual 49, 3) := by decide +kernel
theorem d_prog_70_method_1_172 : decode prog_70_method_1_code 172 = .ok (.aload_n 0, 1) := by decide +kernel
theorem d_prog_70_method_1_173 : decode prog_70_method_1_code 173 = .ok (.iload 7, 2) := by decide +kernel
theorem d_prog_70_method_1_175 : decode prog_70_method_1_code 175 = .ok (.iload 6, 2) := by decide +kernel
theorem d_prog_70_method_1_177 : decode prog_70_method_1_code 177 = .ok (.invokevirtual 49, 3) := by decide +kernel
theorem d_prog_70_method_1_180 : decode prog_70_method_1_code 180 = .ok (.if_icmp .gt 29, 3) := by decide +kernel
theorem d_prog_70_method_1_183 : decode prog_70_method_1_code 183 = .ok (.aload_n 0, 1) := by decide +kernel
theorem d_prog_70_method_1_184 : decode prog_70_method_1_code 184 = .ok (.iload 5, 2) := by decide +kernel
theorem d_prog_70_method_1_186 : decode prog_70_method_1_code 186 = .ok (.iload 6, 2) := by decide +kernel
theorem d_prog_70_method_1_188 : decode prog_70_method_1_code 188 = .ok (.invokevirtual 49, 3) := by decide +kernel
theorem d_prog_70_method_1_191 : decode prog_70_method_1_code 191 = .ok (.aload_n 0, 1) := by decide +kernel
theorem d_prog_70_method_1_192 : decode prog_70_method_1_code 192 = .ok (.iload 7, 2) := by decide +kernel
theorem d_prog_70_method_1_194 : decode prog_70_method_1_code 194 = .ok (.iload 6, 2) := by decide +kernel
theorem d_prog_70_method_1_196 : decode prog_70_method_1_code 196 = .ok (.invokevirtual 49, 3) := by decide +kernel
theorem d_prog_70_method_1_199 : decode prog_70_method_1_code 199 = .ok (.if_icmp .ne 19, 3) := by decide +kernel
theorem d_prog_70_method_1_202 : decode prog_70_method_1_code 202 = .ok (.iload 5, 2) := by decide +kernel
theorem d_prog_70_method_1_204 : decode prog_70_method_1_code 204 = .ok (.iload 6, 2) := by decide +kernel
theorem d_prog_70_method_1_206 : decode prog_70_method_1_code 206 = .ok (.if_icmp .ne 12, 3) := by decide +kernel
theorem d_prog_70_method_1_74 : decode prog_70_method_1_code 74 = .ok (.aload 4, 2) := by decide +kernel
theorem d_prog_70_method_1_76 : decode prog_70_method_1_code 76 = .ok (.iload 5, 2) := by decide +kernel
theorem d_prog_70_method_1_78 : decode prog_70_method_1_code 78 = .ok (.aload_n 0, 1) := by decide +kernel
theorem d_prog_70_method_1_79 : decode prog_70_method_1_code 79 = .ok (.iload 5, 2) := by decide +kernel
theorem d_prog_70_method_1_81 : decode prog_70_method_1_code 81 = .ok (.aload_n 0, 1) := by decide +kernel
theorem d_prog_70_method_1_82 : decode prog_70_method_1_code 82 = .ok (.aload_n 0, 1) := by decide +kernel
theorem d_prog_70_method_1_83 : decode prog_70_method_1_code 83 = .ok (.iload 5, 2) := by decide +kernel
theorem d_prog_70_method_1_85 : decode prog_70_method_1_code 85 = .ok (.iload_n 2, 1) := by decide +kernel
theorem d_prog_70_method_1_86 : decode prog_70_method_1_code 86 = .ok (.invokevirtual 28, 3) := by decide +kernel
theorem d_prog_70_method_1_89 : decode prog_70_method_1_code 89 = .ok (.iload_n 3, 1) := by decide +kernel
theorem d_prog_70_method_1_90 : decode prog_70_method_1_code 90 = .ok (.invokevirtual 32, 3) := by decide +kernel
theorem d_prog_70_method_1_93 : decode prog_70_method_1_code 93 = .ok (.aload_n 0, 1) := by decide +kernel
theorem d_prog_70_method_1_94 : decode prog_70_method_1_code 94 = .ok (.aload_n 0, 1) := by decide +kernel
theorem d_prog_70_method_1_95 : decode prog_70_method_1_code 95 = .ok (.iload 5, 2) := by decide +kernel
theorem d_prog_70_method_1_97 : decode prog_70_method_1_code 97 = .ok (.iconst 1, 1) := by decide +kernel
theorem d_prog_70_method_1_98 : decode prog_70_method_1_code 98 = .ok (.iadd, 1) := by decide +kernel
theorem d_prog_70_method_1_99 : decode prog_70_method_1_code 99 = .ok (.iload_n 2, 1) := by decide +kernel
theorem d_prog_70_method_1_100 : decode prog_70_method_1_code 100 = .ok (.invokevirtual 28, 3) := by decide +kernel
theorem d_prog_70_method_1_103 : decode prog_70_method_1_code 103 = .ok (.iconst 1, 1) := by decide +kernel
theorem d_prog_70_method_1_104 : decode prog_70_method_1_code 104 = .ok (.isub, 1) := by decide +kernel
theorem d_prog_70_method_1_105 : decode prog_70_method_1_code 105 = .ok (.iload_n 3, 1) := by decide +kernel
theorem d_prog_70_method_1_106 : decode prog_70_method_1_code 106 = .ok (.invokevirtual 32, 3) := by decide +kernel
theorem d_prog_70_method_1_109 : decode prog_70_method_1_code 109 = .ok (.invokevirtual 35, 3) := by decide +kernel
theorem d_prog_70_method_1_112 : decode prog_70_method_1_code 112 = .ok (.iastore, 1) := by decide +kernel
theorem d_prog_70_method_1_113 : decode prog_70_method_1_code 113 = .ok (.iinc 5 1, 3) := by decide +kernel
theorem d_prog_70_method_1_116 : decode prog_70_method_1_code 116 = .ok (.goto (-48), 3) := by decide +kernel
theorem ef_rmI (m : MethodId) (a : Addr) (gg : Int32) (ff : Int32) (tt : Int32) : entryFrame m #[(.ref a), (.int gg), (.int ff), (.int tt)] 8 = mkF m 0 #[.val (.ref a), .val (.int gg), .val (.int ff), .val (.int tt), .unset, .unset, .unset, .unset] [] := by first | (simp [entryFrame, mkF, argsToLocals, Value.category]; done) | rfl
set_option maxRecDepth 65536 in
set_option maxHeartbeats 40000000 in
theorem rmI (l : Launch) (Z : State) (a0 : Array Value) (hw : ∀ d ∈ tables_1, d.before a0 Z = true) (a : Addr) (gg : Int32) (ff : Int32) (tt : Int32) (G F T : Nat) (h0 : Heap) (n0 : Nat) (Z0 : n0 ≤ h0.size) (Ea : Exa Z h0 a "io/sluicegate/runtime/KeyGroupPlan") (Fgroups0 : Fld Z h0 a "io/sluicegate/runtime/KeyGroupPlan" "groups" "I" (.int (0 : Int32))) (Ffrom0 : Fld Z h0 a "io/sluicegate/runtime/KeyGroupPlan" "from" "I" (.int (0 : Int32))) (Fto0 : Fld Z h0 a "io/sluicegate/runtime/KeyGroupPlan" "to" "I" (.int (0 : Int32))) (Fholder0 : Fld Z h0 a "io/sluicegate/runtime/KeyGroupPlan" "holder" "[I" .null) (Fcopy0 : Fld Z h0 a "io/sluicegate/runtime/KeyGroupPlan" "copy" "[I" .null) (Ga : n0 ≤ a) (hF1 : 1 ≤ F) (hFG : F ≤ G) (hT1 : 1 ≤ T) (hTG : T ≤ G) (hG : G ≤ 256) (hg : gg = Int32.ofNat G) (hf : ff = Int32.ofNat F) (ht : tt = Int32.ofNat T) :
    Ct l (⟨"io/sluicegate/runtime/KeyGroupPlan", "<init>", "(III)V"⟩ : MethodName) prog_70_method_1_code 8 none [] ({ frames := 3, cells := 3, slots := 768, locals := 51 } : Room) Z #[(.ref a), (.int gg), (.int ff), (.int tt)] h0 (fun v h L => v = none ∧ Fr n0 L ∧ n0 ≤ h.size ∧ ∃ (tc th : Addr) (c : Nat → Option Nat) (hd : Nat → Nat), Exa Z h a "io/sluicegate/runtime/KeyGroupPlan" ∧ Fld Z h a "io/sluicegate/runtime/KeyGroupPlan" "to" "I" (.int (Int32.ofNat T)) ∧ Fld Z h a "io/sluicegate/runtime/KeyGroupPlan" "copy" "[I" (.ref tc) ∧ Fld Z h a "io/sluicegate/runtime/KeyGroupPlan" "holder" "[I" (.ref th) ∧ Ary Z h tc .int Value.int T (fun g => own_enc (c g)) ∧ Ary Z h th .int Value.int F (fun j => Int32.ofNat (hd j)) ∧ own_plan F T c hd) := by
  refine Ct.of (plainFor_of_name pn_1) (fun m => ef_rmI m a gg ff tt) ?_
  intro p e s m below meth c T0 X0 hx hby hml hret hlk hown hnm hZ e0 P hP
  subst hg hf ht
  refine Go.st (fun _ kt => XS.aloadN X0.here hx rfl (hb hby d_prog_70_method_1_0) rfl rfl kt) ?_
  show Go p e below P (T0.setTop (mkF m 1 #[.val (.ref a), .val (.int (Int32.ofNat G)), .val (.int (Int32.ofNat F)), .val (.int (Int32.ofNat T)), .unset, .unset, .unset, .unset] [(.ref a)]))
  obtain ⟨T1, X1, e1, st1⟩ := initO X0 hx hZ hown (hw _ (List.mem_of_getElem? (i := 7) rfl)) (hw _ (List.mem_of_getElem? (i := 8) rfl)) (hw _ (List.mem_of_getElem? (i := 9) rfl)) e0 (g := (mkF m 1 #[.val (.ref a), .val (.int (Int32.ofNat G)), .val (.int (Int32.ofNat F)), .val (.int (Int32.ofNat T)), .unset, .unset, .unset, .unset] [(.ref a)])) rfl (by rw [hml]; rfl) rfl (hb hby d_prog_70_method_1_1) (by decide) (W := 0) (by show 2 * 0 + _ ≤ _; exact Nat.le_of_eq rfl) (by decide)
  refine Go.st st1 ?_
  show Go p e below P (T1.setTop (mkF m 4 #[.val (.ref a), .val (.int (Int32.ofNat G)), .val (.int (Int32.ofNat F)), .val (.int (Int32.ofNat T)), .unset, .unset, .unset, .unset] []))
  refine Go.st (fun _ kt => XS.iloadN X1.here hx rfl (hb hby d_prog_70_method_1_4) rfl (XS.iconst X1.here hx rfl (hb hby d_prog_70_method_1_5) (XS.icmpNo X1.here hx rfl (hb hby d_prog_70_method_1_6) rfl (flt ((fun q => by rw [own_lti own_one, own_tn (by omega)] at q; omega) : ¬ ((Int32.ofNat G) < (1 : Int32)))).1 (XS.iloadN X1.here hx rfl (hb hby d_prog_70_method_1_9) rfl (XS.iconst X1.here hx rfl (hb hby d_prog_70_method_1_10) (XS.icmpNo X1.here hx rfl (hb hby d_prog_70_method_1_11) rfl (flt ((fun q => by rw [own_lti own_one, own_tn (by omega)] at q; omega) : ¬ ((Int32.ofNat F) < (1 : Int32)))).1 (XS.iloadN X1.here hx rfl (hb hby d_prog_70_method_1_14) rfl (XS.iconst X1.here hx rfl (hb hby d_prog_70_method_1_15) kt)))))))) ?_
  show Go p e below P (T1.setTop (mkF m 16 #[.val (.ref a), .val (.int (Int32.ofNat G)), .val (.int (Int32.ofNat F)), .val (.int (Int32.ofNat T)), .unset, .unset, .unset, .unset] [(.int (1 : Int32)), (.int (Int32.ofNat T))]))
  refine Go.st (fun _ kt => XS.icmpNo X1.here hx rfl (hb hby d_prog_70_method_1_16) rfl (flt ((fun q => by rw [own_lti own_one, own_tn (by omega)] at q; omega) : ¬ ((Int32.ofNat T) < (1 : Int32)))).1 (XS.iloadN X1.here hx rfl (hb hby d_prog_70_method_1_19) rfl (XS.iloadN X1.here hx rfl (hb hby d_prog_70_method_1_20) rfl (XS.icmpNo X1.here hx rfl (hb hby d_prog_70_method_1_21) rfl (flt (fun q => by rw [own_ltN (by omega) (by omega)] at q; omega)).2.2.1 (XS.iloadN X1.here hx rfl (hb hby d_prog_70_method_1_24) rfl (XS.iloadN X1.here hx rfl (hb hby d_prog_70_method_1_25) rfl (XS.icmpYes X1.here hx rfl (pc0 := 26) (pc' := 45) rfl (hb hby d_prog_70_method_1_26) rfl (flt (fun q => by rw [own_ltN (by omega) (by omega)] at q; omega)).2.2.2 (by decide) (by decide) (XS.aloadN X1.here hx rfl (hb hby d_prog_70_method_1_45) rfl rfl kt)))))))) ?_
  show Go p e below P (T1.setTop (mkF m 46 #[.val (.ref a), .val (.int (Int32.ofNat G)), .val (.int (Int32.ofNat F)), .val (.int (Int32.ofNat T)), .unset, .unset, .unset, .unset] [(.ref a)]))
  refine Go.st (fun _ kt => XS.iloadN X1.here hx rfl (hb hby d_prog_70_method_1_46) rfl kt) ?_
  show Go p e below P (T1.setTop (mkF m 47 #[.val (.ref a), .val (.int (Int32.ofNat G)), .val (.int (Int32.ofNat F)), .val (.int (Int32.ofNat T)), .unset, .unset, .unset, .unset] [(.int (Int32.ofNat G)), (.ref a)]))
  obtain ⟨T2, h2, X2, e2, W2, st2⟩ := putF X1 hx hZ hown (host := "") (Or.inl (hw _ (List.mem_of_getElem? (i := 10) rfl))) Via.refl e1 Fgroups0 Ea (Or.inr ⟨(hw _ (List.mem_of_getElem? (i := 11) rfl)), rfl, hnm⟩) (hw _ (List.mem_of_getElem? (i := 2) rfl)) (ty := .int) (by decide) rfl rfl (g := (mkF m 47 #[.val (.ref a), .val (.int (Int32.ofNat G)), .val (.int (Int32.ofNat F)), .val (.int (Int32.ofNat T)), .unset, .unset, .unset, .unset] [(.int (Int32.ofNat G)), (.ref a)])) rfl rfl (hb hby d_prog_70_method_1_47)
  have Fw2 := Fld.same W2 Fgroups0
  have Z3 : n0 ≤ h2.size := by rw [W2.size]; exact Z0
  have N4 := Fr.snoc X2 (Fr.nil n0) Ga
  refine Go.st st2 ?_
  show Go p e below P (T2.setTop (mkF m 50 #[.val (.ref a), .val (.int (Int32.ofNat G)), .val (.int (Int32.ofNat F)), .val (.int (Int32.ofNat T)), .unset, .unset, .unset, .unset] []))
  refine Go.st (fun _ kt => XS.aloadN X2.here hx rfl (hb hby d_prog_70_method_1_50) rfl rfl (XS.iloadN X2.here hx rfl (hb hby d_prog_70_method_1_51) rfl kt)) ?_
  show Go p e below P (T2.setTop (mkF m 52 #[.val (.ref a), .val (.int (Int32.ofNat G)), .val (.int (Int32.ofNat F)), .val (.int (Int32.ofNat T)), .unset, .unset, .unset, .unset] [(.int (Int32.ofNat F)), (.ref a)]))
  have f6 := (Ffrom0.other W2 (Or.inr (slot_ne (Or.inr (hw _ (List.mem_of_getElem? (i := 13) rfl))) (Or.inr (hw _ (List.mem_of_getElem? (i := 11) rfl))) (by decide) (t := .int) (t' := .int) (by decide) (by decide))))
  have f7 := (Ea.wr W2)
  obtain ⟨T5, h5, X5, e5, W5, st5⟩ := putF X2 hx hZ hown (host := "") (Or.inl (hw _ (List.mem_of_getElem? (i := 12) rfl))) Via.refl e2 f6 f7 (Or.inr ⟨(hw _ (List.mem_of_getElem? (i := 13) rfl)), rfl, hnm⟩) (hw _ (List.mem_of_getElem? (i := 2) rfl)) (ty := .int) (by decide) rfl rfl (g := (mkF m 52 #[.val (.ref a), .val (.int (Int32.ofNat G)), .val (.int (Int32.ofNat F)), .val (.int (Int32.ofNat T)), .unset, .unset, .unset, .unset] [(.int (Int32.ofNat F)), (.ref a)])) rfl rfl (hb hby d_prog_70_method_1_52)
  have Fw5 := Fld.same W5 f6
  have Z8 : n0 ≤ h5.size := by rw [W5.size]; exact Z3
  have N9 := Fr.snoc X5 N4 Ga
  refine Go.st st5 ?_
  show Go p e below P (T5.setTop (mkF m 55 #[.val (.ref a), .val (.int (Int32.ofNat G)), .val (.int (Int32.ofNat F)), .val (.int (Int32.ofNat T)), .unset, .unset, .unset, .unset] []))
  refine Go.st (fun _ kt => XS.aloadN X5.here hx rfl (hb hby d_prog_70_method_1_55) rfl rfl (XS.iloadN X5.here hx rfl (hb hby d_prog_70_method_1_56) rfl kt)) ?_
  show Go p e below P (T5.setTop (mkF m 57 #[.val (.ref a), .val (.int (Int32.ofNat G)), .val (.int (Int32.ofNat F)), .val (.int (Int32.ofNat T)), .unset, .unset, .unset, .unset] [(.int (Int32.ofNat T)), (.ref a)]))
  have f11 := ((Fto0.other W2 (Or.inr (slot_ne (Or.inr (hw _ (List.mem_of_getElem? (i := 15) rfl))) (Or.inr (hw _ (List.mem_of_getElem? (i := 11) rfl))) (by decide) (t := .int) (t' := .int) (by decide) (by decide)))).other W5 (Or.inr (slot_ne (Or.inr (hw _ (List.mem_of_getElem? (i := 15) rfl))) (Or.inr (hw _ (List.mem_of_getElem? (i := 13) rfl))) (by decide) (t := .int) (t' := .int) (by decide) (by decide))))
  have f12 := (f7.wr W5)
  obtain ⟨T10, h10, X10, e10, W10, st10⟩ := putF X5 hx hZ hown (host := "") (Or.inl (hw _ (List.mem_of_getElem? (i := 14) rfl))) Via.refl e5 f11 f12 (Or.inr ⟨(hw _ (List.mem_of_getElem? (i := 15) rfl)), rfl, hnm⟩) (hw _ (List.mem_of_getElem? (i := 2) rfl)) (ty := .int) (by decide) rfl rfl (g := (mkF m 57 #[.val (.ref a), .val (.int (Int32.ofNat G)), .val (.int (Int32.ofNat F)), .val (.int (Int32.ofNat T)), .unset, .unset, .unset, .unset] [(.int (Int32.ofNat T)), (.ref a)])) rfl rfl (hb hby d_prog_70_method_1_57)
  have Fw10 := Fld.same W10 f11
  have Z13 : n0 ≤ h10.size := by rw [W10.size]; exact Z8
  have N14 := Fr.snoc X10 N9 Ga
  refine Go.st st10 ?_
  show Go p e below P (T10.setTop (mkF m 60 #[.val (.ref a), .val (.int (Int32.ofNat G)), .val (.int (Int32.ofNat F)), .val (.int (Int32.ofNat T)), .unset, .unset, .unset, .unset] []))
  refine Go.st (fun _ kt => XS.iloadN X10.here hx rfl (hb hby d_prog_70_method_1_60) rfl kt) ?_
  show Go p e below P (T10.setTop (mkF m 61 #[.val (.ref a), .val (.int (Int32.ofNat G)), .val (.int (Int32.ofNat F)), .val (.int (Int32.ofNat T)), .unset, .unset, .unset, .unset] [(.int (Int32.ofNat F))]))
  have hz15 : IsN (Int32.ofNat F) F := (isN_ofNat (by omega))
  obtain ⟨T15, h15, k15, X15, e15, E15, A15, st15⟩ := newP X10 hx hZ (hw _ (List.mem_of_getElem? (i := 16) rfl)) e10 (g := (mkF m 61 #[.val (.ref a), .val (.int (Int32.ofNat G)), .val (.int (Int32.ofNat F)), .val (.int (Int32.ofNat T)), .unset, .unset, .unset, .unset] [(.int (Int32.ofNat F))])) rfl (hb hby d_prog_70_method_1_61) rfl hz15.1 (cap := 256) (by rw [hz15.2]; exact (show F ≤ 256 by omega)) (by decide) (by decide) (by decide)
  obtain ⟨b15, g15⟩ : ∃ z, z = h10.size := ⟨_, rfl⟩
  rw [← g15] at A15 st15
  have f17 := (f12.wr W10)
  have ne16 : a ≠ b15 := Nat.ne_of_lt (Nat.lt_of_lt_of_le f17.lt (Nat.le_of_eq g15.symm))
  have G15 : n0 ≤ b15 := Nat.le_trans Z13 (Nat.le_of_eq g15.symm)
  have V15 : Ary Z h15 b15 .int Value.int F (fun _ => (0 : Int32)) := Ary.new A15 hz15 rfl
  have Z18 := Nat.le_trans Z13 E15.1
  refine Go.st st15 ?_
  show Go p e below P (T15.setTop (mkF m 63 #[.val (.ref a), .val (.int (Int32.ofNat G)), .val (.int (Int32.ofNat F)), .val (.int (Int32.ofNat T)), .unset, .unset, .unset, .unset] [(.ref b15)]))
  refine Go.st (fun _ kt => XS.astore X15.here hx rfl (hb hby d_prog_70_method_1_63) rfl rfl (l' := #[.val (.ref a), .val (.int (Int32.ofNat G)), .val (.int (Int32.ofNat F)), .val (.int (Int32.ofNat T)), .val (.ref b15), .unset, .unset, .unset]) rfl (XS.iconst X15.here hx rfl (hb hby d_prog_70_method_1_65) (XS.istore X15.here hx rfl (hb hby d_prog_70_method_1_66) rfl (l' := #[.val (.ref a), .val (.int (Int32.ofNat G)), .val (.int (Int32.ofNat F)), .val (.int (Int32.ofNat T)), .val (.ref b15), .val (.int (0 : Int32)), .unset, .unset]) rfl kt))) ?_
  show Go p e below P (T15.setTop (mkF m 68 #[.val (.ref a), .val (.int (Int32.ofNat G)), .val (.int (Int32.ofNat F)), .val (.int (Int32.ofNat T)), .val (.ref b15), .val (.int (0 : Int32)), .unset, .unset] []))
  have loop19 : ∀ (d : Nat) (T20 : State) (Lk20 : List Loc) (i : Nat) (pk : Nat → Nat), Stand p l e ({ frames := 3, cells := 3, slots := 768, locals := 51 } : Room) s m #[(.ref a), (.int (Int32.ofNat G)), (.int (Int32.ofNat F)), (.int (Int32.ofNat T))] below meth c T20 Lk20 1 256 → Fr n0 Lk20 → n0 ≤ T20.heap.size → Exa Z T20.heap a "io/sluicegate/runtime/KeyGroupPlan" → Fld Z T20.heap a "io/sluicegate/runtime/KeyGroupPlan" "groups" "I" (.int (Int32.ofNat G)) → Fld Z T20.heap a "io/sluicegate/runtime/KeyGroupPlan" "from" "I" (.int (Int32.ofNat F)) → Fld Z T20.heap a "io/sluicegate/runtime/KeyGroupPlan" "to" "I" (.int (Int32.ofNat T)) → Fld Z T20.heap a "io/sluicegate/runtime/KeyGroupPlan" "holder" "[I" .null → Fld Z T20.heap a "io/sluicegate/runtime/KeyGroupPlan" "copy" "[I" .null → Ary Z T20.heap b15 .int Value.int F (fun j => Int32.ofNat (pk j)) → i + d = F → (∀ j, j < i → pk j < T) → Go p e below P (T20.setTop (mkF m 68 #[.val (.ref a), .val (.int (Int32.ofNat G)), .val (.int (Int32.ofNat F)), .val (.int (Int32.ofNat T)), .val (.ref b15), .val (.int (Int32.ofNat i)), .unset, .unset] [])) := by
    intro d
    induction d with
    | zero =>
      intro T20 Lk20 i pk X20 N20 Z20 fc20_0 fc20_1 fc20_2 fc20_3 fc20_4 fc20_5 fc20_6 hid hpk
      show Go p e below P (T20.setTop (mkF m 68 #[.val (.ref a), .val (.int (Int32.ofNat G)), .val (.int (Int32.ofNat F)), .val (.int (Int32.ofNat T)), .val (.ref b15), .val (.int (Int32.ofNat i)), .unset, .unset] []))
      refine Go.st (fun _ kt => XS.iload X20.here hx rfl (hb hby d_prog_70_method_1_68) rfl (XS.iloadN X20.here hx rfl (hb hby d_prog_70_method_1_70) rfl (XS.icmpYes X20.here hx rfl (pc0 := 71) (pc' := 119) rfl (hb hby d_prog_70_method_1_71) rfl (flt (fun q => by rw [own_ltN (by omega) (by omega)] at q; omega)).2.1 (by decide) (by decide) (XS.aloadN X20.here hx rfl (hb hby d_prog_70_method_1_119) rfl rfl (XS.iloadN X20.here hx rfl (hb hby d_prog_70_method_1_120) rfl kt))))) ?_
      show Go p e below P (T20.setTop (mkF m 121 #[.val (.ref a), .val (.int (Int32.ofNat G)), .val (.int (Int32.ofNat F)), .val (.int (Int32.ofNat T)), .val (.ref b15), .val (.int (Int32.ofNat i)), .unset, .unset] [(.int (Int32.ofNat T)), (.ref a)]))
      have hz21 : IsN (Int32.ofNat T) T := (isN_ofNat (by omega))
      obtain ⟨T21, h21, k21, X21, e21, E21, A21, st21⟩ := newP X20 hx hZ (hw _ (List.mem_of_getElem? (i := 16) rfl)) rfl (g := (mkF m 121 #[.val (.ref a), .val (.int (Int32.ofNat G)), .val (.int (Int32.ofNat F)), .val (.int (Int32.ofNat T)), .val (.ref b15), .val (.int (Int32.ofNat i)), .unset, .unset] [(.int (Int32.ofNat T)), (.ref a)])) rfl (hb hby d_prog_70_method_1_121) rfl hz21.1 (cap := 256) (by rw [hz21.2]; exact (show T ≤ 256 by omega)) (by decide) (by decide) (by decide)
      obtain ⟨b21, g21⟩ : ∃ z, z = T20.heap.size := ⟨_, rfl⟩
      rw [← g21] at A21 st21
      have ne22 : a ≠ b21 := Nat.ne_of_lt (Nat.lt_of_lt_of_le fc20_0.lt (Nat.le_of_eq g21.symm))
      have ne23 : b15 ≠ b21 := Nat.ne_of_lt (Nat.lt_of_lt_of_le fc20_6.lt (Nat.le_of_eq g21.symm))
      have G21 : n0 ≤ b21 := Nat.le_trans Z20 (Nat.le_of_eq g21.symm)
      have V21 : Ary Z h21 b21 .int Value.int T (fun _ => (0 : Int32)) := Ary.new A21 hz21 rfl
      have Z24 := Nat.le_trans Z20 E21.1
      refine Go.st st21 ?_
      show Go p e below P (T21.setTop (mkF m 123 #[.val (.ref a), .val (.int (Int32.ofNat G)), .val (.int (Int32.ofNat F)), .val (.int (Int32.ofNat T)), .val (.ref b15), .val (.int (Int32.ofNat i)), .unset, .unset] [(.ref b21), (.ref a)]))
      have f26 := (fc20_5.ext E21)
      have f27 := (fc20_0.ext E21)
      obtain ⟨T25, h25, X25, e25, W25, st25⟩ := putF X21 hx hZ hown (host := "") (Or.inl (hw _ (List.mem_of_getElem? (i := 33) rfl))) Via.refl e21 f26 f27 (Or.inr ⟨(hw _ (List.mem_of_getElem? (i := 34) rfl)), rfl, hnm⟩) (hw _ (List.mem_of_getElem? (i := 2) rfl)) (ty := (.array .int)) (by decide) rfl rfl (g := (mkF m 123 #[.val (.ref a), .val (.int (Int32.ofNat G)), .val (.int (Int32.ofNat F)), .val (.int (Int32.ofNat T)), .val (.ref b15), .val (.int (Int32.ofNat i)), .unset, .unset] [(.ref b21), (.ref a)])) rfl rfl (hb hby d_prog_70_method_1_123)
      have Fw25 := Fld.same W25 f26
      have Z28 : n0 ≤ h25.size := by rw [W25.size]; exact Z24
      have N29 := Fr.snoc X25 N20 Ga
      refine Go.st st25 ?_
      show Go p e below P (T25.setTop (mkF m 126 #[.val (.ref a), .val (.int (Int32.ofNat G)), .val (.int (Int32.ofNat F)), .val (.int (Int32.ofNat T)), .val (.ref b15), .val (.int (Int32.ofNat i)), .unset, .unset] []))
      refine Go.st (fun _ kt => XS.aloadN X25.here hx rfl (hb hby d_prog_70_method_1_126) rfl rfl kt) ?_
      show Go p e below P (T25.setTop (mkF m 127 #[.val (.ref a), .val (.int (Int32.ofNat G)), .val (.int (Int32.ofNat F)), .val (.int (Int32.ofNat T)), .val (.ref b15), .val (.int (Int32.ofNat i)), .unset, .unset] [(.ref a)]))
      obtain ⟨T30, X30, e30, st30⟩ := getF X25 hx hZ hown (host := "") (Or.inl (hw _ (List.mem_of_getElem? (i := 33) rfl))) Via.refl e25 Fw25 (g := (mkF m 127 #[.val (.ref a), .val (.int (Int32.ofNat G)), .val (.int (Int32.ofNat F)), .val (.int (Int32.ofNat T)), .val (.ref b15), .val (.int (Int32.ofNat i)), .unset, .unset] [(.ref a)])) rfl rfl (hb hby d_prog_70_method_1_127)
      refine Go.st st30 ?_
      show Go p e below P (T30.setTop (mkF m 130 #[.val (.ref a), .val (.int (Int32.ofNat G)), .val (.int (Int32.ofNat F)), .val (.int (Int32.ofNat T)), .val (.ref b15), .val (.int (Int32.ofNat i)), .unset, .unset] [(.ref b21)]))
      refine Go.st (fun _ kt => XS.iconst X30.here hx rfl (hb hby d_prog_70_method_1_130) kt) ?_
      show Go p e below P (T30.setTop (mkF m 131 #[.val (.ref a), .val (.int (Int32.ofNat G)), .val (.int (Int32.ofNat F)), .val (.int (Int32.ofNat T)), .val (.ref b15), .val (.int (Int32.ofNat i)), .unset, .unset] [(.int (-1 : Int32)), (.ref b21)]))
      have f32 := (V21.other W25 (Ne.symm ne22))
      obtain ⟨_, T31, Lc31, X31, ⟨rfl, Nq31, K31, Vf31⟩, st31⟩ := callCt X30 hx hZ e30 (y := (⟨"java/util/Arrays", "fill", "([II)V"⟩ : MethodName)) (argsL := [(.ref b21), (.int (-1 : Int32))]) (rest := []) hown (hw _ (List.mem_of_getElem? (i := 35) rfl)) (hw _ (List.mem_of_getElem? (i := 36) rfl)) (hw _ (List.mem_of_getElem? (i := 37) rfl)) (hw _ (List.mem_of_getElem? (i := 38) rfl)) (by decide) (rmFl l Z a0 hw b21 (-1 : Int32) _ _ _ n0 Z28 f32 G21) (W := 0) (by decide) (by decide) (g := (mkF m 131 #[.val (.ref a), .val (.int (Int32.ofNat G)), .val (.int (Int32.ofNat F)), .val (.int (Int32.ofNat T)), .val (.ref b15), .val (.int (Int32.ofNat i)), .unset, .unset] [(.int (-1 : Int32)), (.ref b21)])) rfl (by rw [hml]; rfl) (lenOf pd_5 rfl) rfl (by show 2 * 0 + _ ≤ _; exact Nat.le_of_eq rfl) (hb hby d_prog_70_method_1_131) (by decide) (by decide)
      have N31 := Fr.app N29 Nq31
      have Z33 := Nat.le_trans Z28 K31.1
      refine Go.st st31 ?_
      show Go p e below P (T31.setTop (mkF m 134 #[.val (.ref a), .val (.int (Int32.ofNat G)), .val (.int (Int32.ofNat F)), .val (.int (Int32.ofNat T)), .val (.ref b15), .val (.int (Int32.ofNat i)), .unset, .unset] []))
      refine Go.st (fun _ kt => XS.iconst X31.here hx rfl (hb hby d_prog_70_method_1_134) (XS.istore X31.here hx rfl (hb hby d_prog_70_method_1_135) rfl (l' := #[.val (.ref a), .val (.int (Int32.ofNat G)), .val (.int (Int32.ofNat F)), .val (.int (Int32.ofNat T)), .val (.ref b15), .val (.int (0 : Int32)), .unset, .unset]) rfl kt)) ?_
      show Go p e below P (T31.setTop (mkF m 137 #[.val (.ref a), .val (.int (Int32.ofNat G)), .val (.int (Int32.ofNat F)), .val (.int (Int32.ofNat T)), .val (.ref b15), .val (.int (0 : Int32)), .unset, .unset] []))
      have hpkF : ∀ j, j < F → pk j < T := fun j hj => hpk j (by omega)
      clear hpk hid
      have loop34 : ∀ (d : Nat) (T35 : State) (Lk35 : List Loc) (i : Nat) (cq : Nat → Option Nat) (o6 o7 : Slot), Stand p l e ({ frames := 3, cells := 3, slots := 768, locals := 51 } : Room) s m #[(.ref a), (.int (Int32.ofNat G)), (.int (Int32.ofNat F)), (.int (Int32.ofNat T))] below meth c T35 Lk35 2 512 → Fr n0 Lk35 → n0 ≤ T35.heap.size → Exa Z T35.heap a "io/sluicegate/runtime/KeyGroupPlan" → Fld Z T35.heap a "io/sluicegate/runtime/KeyGroupPlan" "groups" "I" (.int (Int32.ofNat G)) → Fld Z T35.heap a "io/sluicegate/runtime/KeyGroupPlan" "from" "I" (.int (Int32.ofNat F)) → Fld Z T35.heap a "io/sluicegate/runtime/KeyGroupPlan" "to" "I" (.int (Int32.ofNat T)) → Fld Z T35.heap a "io/sluicegate/runtime/KeyGroupPlan" "holder" "[I" .null → Fld Z T35.heap a "io/sluicegate/runtime/KeyGroupPlan" "copy" "[I" (.ref b21) → Ary Z T35.heap b15 .int Value.int F (fun j => Int32.ofNat (pk j)) → Ary Z T35.heap b21 .int Value.int T (fun g => own_enc (cq g)) → i + d = F → (∀ g j, cq g = some j → j < F ∧ pk j = g) → (o6 = .unset ∨ ∃ w, o6 = .val w ∧ w.category = 1) → (o7 = .unset ∨ ∃ w, o7 = .val w ∧ w.category = 1) → Go p e below P (T35.setTop (mkF m 137 #[.val (.ref a), .val (.int (Int32.ofNat G)), .val (.int (Int32.ofNat F)), .val (.int (Int32.ofNat T)), .val (.ref b15), .val (.int (Int32.ofNat i)), o6, o7] [])) := by
        intro d
        induction d with
        | zero =>
          intro T35 Lk35 i cq o6 o7 X35 N35 Z35 fc35_0 fc35_1 fc35_2 fc35_3 fc35_4 fc35_5 fc35_6 fc35_7 hid hc ho6 ho7
          show Go p e below P (T35.setTop (mkF m 137 #[.val (.ref a), .val (.int (Int32.ofNat G)), .val (.int (Int32.ofNat F)), .val (.int (Int32.ofNat T)), .val (.ref b15), .val (.int (Int32.ofNat i)), o6, o7] []))
          refine Go.st (fun _ kt => XS.iload X35.here hx rfl (hb hby d_prog_70_method_1_137) rfl (XS.iloadN X35.here hx rfl (hb hby d_prog_70_method_1_139) rfl (XS.icmpYes X35.here hx rfl (pc0 := 140) (pc' := 224) rfl (hb hby d_prog_70_method_1_140) rfl (flt (fun q => by rw [own_ltN (by omega) (by omega)] at q; omega)).2.1 (by decide) (by decide) (XS.aloadN X35.here hx rfl (hb hby d_prog_70_method_1_224) rfl rfl (XS.iloadN X35.here hx rfl (hb hby d_prog_70_method_1_225) rfl kt))))) ?_
          show Go p e below P (T35.setTop (mkF m 226 #[.val (.ref a), .val (.int (Int32.ofNat G)), .val (.int (Int32.ofNat F)), .val (.int (Int32.ofNat T)), .val (.ref b15), .val (.int (Int32.ofNat i)), o6, o7] [(.int (Int32.ofNat F)), (.ref a)]))
          have hz36 : IsN (Int32.ofNat F) F := (isN_ofNat (by omega))
          obtain ⟨T36, h36, k36, X36, e36, E36, A36, st36⟩ := newP X35 hx hZ (hw _ (List.mem_of_getElem? (i := 16) rfl)) rfl (g := (mkF m 226 #[.val (.ref a), .val (.int (Int32.ofNat G)), .val (.int (Int32.ofNat F)), .val (.int (Int32.ofNat T)), .val (.ref b15), .val (.int (Int32.ofNat i)), o6, o7] [(.int (Int32.ofNat F)), (.ref a)])) rfl (hb hby d_prog_70_method_1_226) rfl hz36.1 (cap := 256) (by rw [hz36.2]; exact (show F ≤ 256 by omega)) (by decide) (by decide) (by decide)
          obtain ⟨b36, g36⟩ : ∃ z, z = T35.heap.size := ⟨_, rfl⟩
          rw [← g36] at A36 st36
          have ne37 : a ≠ b36 := Nat.ne_of_lt (Nat.lt_of_lt_of_le fc35_0.lt (Nat.le_of_eq g36.symm))
          have ne38 : b15 ≠ b36 := Nat.ne_of_lt (Nat.lt_of_lt_of_le fc35_6.lt (Nat.le_of_eq g36.symm))
          have ne39 : b21 ≠ b36 := Nat.ne_of_lt (Nat.lt_of_lt_of_le fc35_7.lt (Nat.le_of_eq g36.symm))
          have G36 : n0 ≤ b36 := Nat.le_trans Z35 (Nat.le_of_eq g36.symm)
          have V36 : Ary Z h36 b36 .int Value.int F (fun _ => (0 : Int32)) := Ary.new A36 hz36 rfl
          have Z40 := Nat.le_trans Z35 E36.1
          refine Go.st st36 ?_
          show Go p e below P (T36.setTop (mkF m 228 #[.val (.ref a), .val (.int (Int32.ofNat G)), .val (.int (Int32.ofNat F)), .val (.int (Int32.ofNat T)), .val (.ref b15), .val (.int (Int32.ofNat i)), o6, o7] [(.ref b36), (.ref a)]))
          have f42 := (fc35_4.ext E36)
          have f43 := (fc35_0.ext E36)
          obtain ⟨T41, h41, X41, e41, W41, st41⟩ := putF X36 hx hZ hown (host := "") (Or.inl (hw _ (List.mem_of_getElem? (i := 39) rfl))) Via.refl e36 f42 f43 (Or.inr ⟨(hw _ (List.mem_of_getElem? (i := 40) rfl)), rfl, hnm⟩) (hw _ (List.mem_of_getElem? (i := 2) rfl)) (ty := (.array .int)) (by decide) rfl rfl (g := (mkF m 228 #[.val (.ref a), .val (.int (Int32.ofNat G)), .val (.int (Int32.ofNat F)), .val (.int (Int32.ofNat T)), .val (.ref b15), .val (.int (Int32.ofNat i)), o6, o7] [(.ref b36), (.ref a)])) rfl rfl (hb hby d_prog_70_method_1_228)
          have Fw41 := Fld.same W41 f42
          have Z44 : n0 ≤ h41.size := by rw [W41.size]; exact Z40
          have N45 := Fr.snoc X41 N35 Ga
          refine Go.st st41 ?_
          show Go p e below P (T41.setTop (mkF m 231 #[.val (.ref a), .val (.int (Int32.ofNat G)), .val (.int (Int32.ofNat F)), .val (.int (Int32.ofNat T)), .val (.ref b15), .val (.int (Int32.ofNat i)), o6, o7] []))
          refine Go.st (fun _ kt => XS.iconst X41.here hx rfl (hb hby d_prog_70_method_1_231) (XS.istore X41.here hx rfl (hb hby d_prog_70_method_1_232) rfl (l' := #[.val (.ref a), .val (.int (Int32.ofNat G)), .val (.int (Int32.ofNat F)), .val (.int (Int32.ofNat T)), .val (.ref b15), .val (.int (0 : Int32)), o6, o7]) rfl kt)) ?_
          show Go p e below P (T41.setTop (mkF m 234 #[.val (.ref a), .val (.int (Int32.ofNat G)), .val (.int (Int32.ofNat F)), .val (.int (Int32.ofNat T)), .val (.ref b15), .val (.int (0 : Int32)), o6, o7] []))
          have hcs : ∀ g j, cq g = some j → j < 2 ^ 31 := fun g j q => by have := hc g j q; omega
          clear hid
          have loop46 : ∀ (d : Nat) (T47 : State) (Lk47 : List Loc) (i : Nat) (hd : Nat → Nat), Stand p l e ({ frames := 3, cells := 3, slots := 768, locals := 51 } : Room) s m #[(.ref a), (.int (Int32.ofNat G)), (.int (Int32.ofNat F)), (.int (Int32.ofNat T))] below meth c T47 Lk47 3 768 → Fr n0 Lk47 → n0 ≤ T47.heap.size → Exa Z T47.heap a "io/sluicegate/runtime/KeyGroupPlan" → Fld Z T47.heap a "io/sluicegate/runtime/KeyGroupPlan" "groups" "I" (.int (Int32.ofNat G)) → Fld Z T47.heap a "io/sluicegate/runtime/KeyGroupPlan" "from" "I" (.int (Int32.ofNat F)) → Fld Z T47.heap a "io/sluicegate/runtime/KeyGroupPlan" "to" "I" (.int (Int32.ofNat T)) → Fld Z T47.heap a "io/sluicegate/runtime/KeyGroupPlan" "holder" "[I" (.ref b36) → Fld Z T47.heap a "io/sluicegate/runtime/KeyGroupPlan" "copy" "[I" (.ref b21) → Ary Z T47.heap b15 .int Value.int F (fun j => Int32.ofNat (pk j)) → Ary Z T47.heap b21 .int Value.int T (fun g => own_enc (cq g)) → Ary Z T47.heap b36 .int Value.int F (fun j => Int32.ofNat (hd j)) → i + d = F → (∀ j, j < i → hd j = own_hd pk cq j) → Go p e below P (T47.setTop (mkF m 234 #[.val (.ref a), .val (.int (Int32.ofNat G)), .val (.int (Int32.ofNat F)), .val (.int (Int32.ofNat T)), .val (.ref b15), .val (.int (Int32.ofNat i)), o6, o7] [])) := by
            intro d
            induction d with
            | zero =>
              intro T47 Lk47 i hd X47 N47 Z47 fc47_0 fc47_1 fc47_2 fc47_3 fc47_4 fc47_5 fc47_6 fc47_7 fc47_8 hid hhd
              show Go p e below P (T47.setTop (mkF m 234 #[.val (.ref a), .val (.int (Int32.ofNat G)), .val (.int (Int32.ofNat F)), .val (.int (Int32.ofNat T)), .val (.ref b15), .val (.int (Int32.ofNat i)), o6, o7] []))
              refine Go.st (fun _ kt => XS.iload X47.here hx rfl (hb hby d_prog_70_method_1_234) rfl (XS.iloadN X47.here hx rfl (hb hby d_prog_70_method_1_236) rfl (XS.icmpYes X47.here hx rfl (pc0 := 237) (pc' := 278) rfl (hb hby d_prog_70_method_1_237) rfl (flt (fun q => by rw [own_ltN (by omega) (by omega)] at q; omega)).2.1 (by decide) (by decide) (XS.iconst X47.here hx rfl (hb hby d_prog_70_method_1_278) (XS.istore X47.here hx rfl (hb hby d_prog_70_method_1_279) rfl (l' := #[.val (.ref a), .val (.int (Int32.ofNat G)), .val (.int (Int32.ofNat F)), .val (.int (Int32.ofNat T)), .val (.ref b15), .val (.int (0 : Int32)), o6, o7]) rfl kt))))) ?_
              show Go p e below P (T47.setTop (mkF m 281 #[.val (.ref a), .val (.int (Int32.ofNat G)), .val (.int (Int32.ofNat F)), .val (.int (Int32.ofNat T)), .val (.ref b15), .val (.int (0 : Int32)), o6, o7] []))
              have hhdF : ∀ j, j < F → hd j = own_hd pk cq j := fun j hj => hhd j (by omega)
              clear hid hhd
              have loop48 : ∀ (d : Nat) (T49 : State) (Lk49 : List Loc) (i : Nat) (cr : Nat → Option Nat), Stand p l e ({ frames := 3, cells := 3, slots := 768, locals := 51 } : Room) s m #[(.ref a), (.int (Int32.ofNat G)), (.int (Int32.ofNat F)), (.int (Int32.ofNat T))] below meth c T49 Lk49 3 768 → Fr n0 Lk49 → n0 ≤ T49.heap.size → Exa Z T49.heap a "io/sluicegate/runtime/KeyGroupPlan" → Fld Z T49.heap a "io/sluicegate/runtime/KeyGroupPlan" "groups" "I" (.int (Int32.ofNat G)) → Fld Z T49.heap a "io/sluicegate/runtime/KeyGroupPlan" "from" "I" (.int (Int32.ofNat F)) → Fld Z T49.heap a "io/sluicegate/runtime/KeyGroupPlan" "to" "I" (.int (Int32.ofNat T)) → Fld Z T49.heap a "io/sluicegate/runtime/KeyGroupPlan" "holder" "[I" (.ref b36) → Fld Z T49.heap a "io/sluicegate/runtime/KeyGroupPlan" "copy" "[I" (.ref b21) → Ary Z T49.heap b21 .int Value.int T (fun g => own_enc (cr g)) → Ary Z T49.heap b36 .int Value.int F (fun j => Int32.ofNat (hd j)) → i + d = min F T → (∀ g, cr g = cq g ∨ (cq g = none ∧ cr g = some g ∧ g ≤ 256)) → Go p e below P (T49.setTop (mkF m 281 #[.val (.ref a), .val (.int (Int32.ofNat G)), .val (.int (Int32.ofNat F)), .val (.int (Int32.ofNat T)), .val (.ref b15), .val (.int (Int32.ofNat i)), o6, o7] [])) := by
                intro d
                induction d with
                | zero =>
                  intro T49 Lk49 i cr X49 N49 Z49 fc49_0 fc49_1 fc49_2 fc49_3 fc49_4 fc49_5 fc49_6 fc49_7 hid hcr
                  show Go p e below P (T49.setTop (mkF m 281 #[.val (.ref a), .val (.int (Int32.ofNat G)), .val (.int (Int32.ofNat F)), .val (.int (Int32.ofNat T)), .val (.ref b15), .val (.int (Int32.ofNat i)), o6, o7] []))
                  refine Go.st (fun _ kt => XS.iload X49.here hx rfl (hb hby d_prog_70_method_1_281) rfl (XS.iloadN X49.here hx rfl (hb hby d_prog_70_method_1_283) rfl (XS.iloadN X49.here hx rfl (hb hby d_prog_70_method_1_284) rfl kt))) ?_
                  show Go p e below P (T49.setTop (mkF m 285 #[.val (.ref a), .val (.int (Int32.ofNat G)), .val (.int (Int32.ofNat F)), .val (.int (Int32.ofNat T)), .val (.ref b15), .val (.int (Int32.ofNat i)), o6, o7] [(.int (Int32.ofNat T)), (.int (Int32.ofNat F)), (.int (Int32.ofNat i))]))
                  obtain ⟨_, T50, Lc50, X50, ⟨rfl, Nq50, eq50⟩, st50⟩ := callCt X49 hx hZ rfl (y := (⟨"java/lang/Math", "min", "(II)I"⟩ : MethodName)) (argsL := [(.int (Int32.ofNat F)), (.int (Int32.ofNat T))]) (rest := [(.int (Int32.ofNat i))]) hown (hw _ (List.mem_of_getElem? (i := 41) rfl)) (hw _ (List.mem_of_getElem? (i := 42) rfl)) (hw _ (List.mem_of_getElem? (i := 43) rfl)) (hw _ (List.mem_of_getElem? (i := 44) rfl)) (by decide) (rm_min l Z a0 hw (Int32.ofNat F) (Int32.ofNat T) _ n0 Z49) (W := 1) (by decide) (by decide) (g := (mkF m 285 #[.val (.ref a), .val (.int (Int32.ofNat G)), .val (.int (Int32.ofNat F)), .val (.int (Int32.ofNat T)), .val (.ref b15), .val (.int (Int32.ofNat i)), o6, o7] [(.int (Int32.ofNat T)), (.int (Int32.ofNat F)), (.int (Int32.ofNat i))])) rfl (by rw [hml]; rfl) (lenOf pd_3 rfl) rfl (by show 2 * 0 + _ ≤ _; exact Nat.le_of_eq rfl) (hb hby d_prog_70_method_1_285) (by decide) (by decide)
                  have N50 := Fr.app N49 Nq50
                  have e50 : T50.heap = T49.heap := eq50
                  refine Go.st st50 ?_
                  rw [own_minN (by omega) (by omega)]
                  show Go p e below P (T50.setTop (mkF m 288 #[.val (.ref a), .val (.int (Int32.ofNat G)), .val (.int (Int32.ofNat F)), .val (.int (Int32.ofNat T)), .val (.ref b15), .val (.int (Int32.ofNat i)), o6, o7] [(.int (Int32.ofNat (min F T))), (.int (Int32.ofNat i))]))
                  refine Go.st (fun _ kt => XS.icmpYes X50.here hx rfl (pc0 := 288) (pc' := 328) rfl (hb hby d_prog_70_method_1_288) rfl (flt (fun q => by rw [own_ltN (by omega) (by omega)] at q; omega)).2.1 (by decide) (by decide) kt) ?_
                  show Go p e below P (T50.setTop (mkF m 328 #[.val (.ref a), .val (.int (Int32.ofNat G)), .val (.int (Int32.ofNat F)), .val (.int (Int32.ofNat T)), .val (.ref b15), .val (.int (Int32.ofNat i)), o6, o7] []))
                  exact goV X50 hx hret hlk (hb hby d_prog_70_method_1_328) hP (by decide) (by decide) (by rw [e50]; exact ⟨rfl, N50, Z49, b21, b36, cr, hd, fc49_0, fc49_3, fc49_5, fc49_4, fc49_6, fc49_7, own_plan_of (by omega) (by omega) hpkF hc hhdF hcr⟩)
                | succ d ih49 =>
                  intro T49 Lk49 i cr X49 N49 Z49 fc49_0 fc49_1 fc49_2 fc49_3 fc49_4 fc49_5 fc49_6 fc49_7 hid hcr
                  show Go p e below P (T49.setTop (mkF m 281 #[.val (.ref a), .val (.int (Int32.ofNat G)), .val (.int (Int32.ofNat F)), .val (.int (Int32.ofNat T)), .val (.ref b15), .val (.int (Int32.ofNat i)), o6, o7] []))
                  have hcs' : ∀ g j, cr g = some j → j < 2 ^ 31 := fun g j q => by
                      rcases hcr g with e | ⟨e1, e2, e3⟩
                      · rw [e] at q; exact hcs g j q
                      · rw [e2] at q; cases q; omega
                  have him : i < F ∧ i < T := by omega
                  refine Go.st (fun _ kt => XS.iload X49.here hx rfl (hb hby d_prog_70_method_1_281) rfl (XS.iloadN X49.here hx rfl (hb hby d_prog_70_method_1_283) rfl (XS.iloadN X49.here hx rfl (hb hby d_prog_70_method_1_284) rfl kt))) ?_
                  show Go p e below P (T49.setTop (mkF m 285 #[.val (.ref a), .val (.int (Int32.ofNat G)), .val (.int (Int32.ofNat F)), .val (.int (Int32.ofNat T)), .val (.ref b15), .val (.int (Int32.ofNat i)), o6, o7] [(.int (Int32.ofNat T)), (.int (Int32.ofNat F)), (.int (Int32.ofNat i))]))
                  obtain ⟨_, T51, Lc51, X51, ⟨rfl, Nq51, eq51⟩, st51⟩ := callCt X49 hx hZ rfl (y := (⟨"java/lang/Math", "min", "(II)I"⟩ : MethodName)) (argsL := [(.int (Int32.ofNat F)), (.int (Int32.ofNat T))]) (rest := [(.int (Int32.ofNat i))]) hown (hw _ (List.mem_of_getElem? (i := 41) rfl)) (hw _ (List.mem_of_getElem? (i := 42) rfl)) (hw _ (List.mem_of_getElem? (i := 43) rfl)) (hw _ (List.mem_of_getElem? (i := 44) rfl)) (by decide) (rm_min l Z a0 hw (Int32.ofNat F) (Int32.ofNat T) _ n0 Z49) (W := 1) (by decide) (by decide) (g := (mkF m 285 #[.val (.ref a), .val (.int (Int32.ofNat G)), .val (.int (Int32.ofNat F)), .val (.int (Int32.ofNat T)), .val (.ref b15), .val (.int (Int32.ofNat i)), o6, o7] [(.int (Int32.ofNat T)), (.int (Int32.ofNat F)), (.int (Int32.ofNat i))])) rfl (by rw [hml]; rfl) (lenOf pd_3 rfl) rfl (by show 2 * 0 + _ ≤ _; exact Nat.le_of_eq rfl) (hb hby d_prog_70_method_1_285) (by decide) (by decide)
                  have N51 := Fr.app N49 Nq51
                  have e51 : T51.heap = T49.heap := eq51
                  refine Go.st st51 ?_
                  rw [own_minN (by omega) (by omega)]
                  show Go p e below P (T51.setTop (mkF m 288 #[.val (.ref a), .val (.int (Int32.ofNat G)), .val (.int (Int32.ofNat F)), .val (.int (Int32.ofNat T)), .val (.ref b15), .val (.int (Int32.ofNat i)), o6, o7] [(.int (Int32.ofNat (min F T))), (.int (Int32.ofNat i))]))
                  refine Go.st (fun _ kt => XS.icmpNo X51.here hx rfl (hb hby d_prog_70_method_1_288) rfl (tlt ((own_ltN (by omega) (by omega)).mpr (by omega))).2.1 (XS.aloadN X51.here hx rfl (hb hby d_prog_70_method_1_291) rfl rfl kt)) ?_
                  show Go p e below P (T51.setTop (mkF m 292 #[.val (.ref a), .val (.int (Int32.ofNat G)), .val (.int (Int32.ofNat F)), .val (.int (Int32.ofNat T)), .val (.ref b15), .val (.int (Int32.ofNat i)), o6, o7] [(.ref a)]))
                  obtain ⟨T52, X52, e52, st52⟩ := getF X51 hx hZ hown (host := "") (Or.inl (hw _ (List.mem_of_getElem? (i := 33) rfl))) Via.refl e51 fc49_5 (g := (mkF m 292 #[.val (.ref a), .val (.int (Int32.ofNat G)), .val (.int (Int32.ofNat F)), .val (.int (Int32.ofNat T)), .val (.ref b15), .val (.int (Int32.ofNat i)), o6, o7] [(.ref a)])) rfl rfl (hb hby d_prog_70_method_1_292)
                  refine Go.st st52 ?_
                  show Go p e below P (T52.setTop (mkF m 295 #[.val (.ref a), .val (.int (Int32.ofNat G)), .val (.int (Int32.ofNat F)), .val (.int (Int32.ofNat T)), .val (.ref b15), .val (.int (Int32.ofNat i)), o6, o7] [(.ref b21)]))
                  refine Go.st (fun _ kt => XS.iload X52.here hx rfl (hb hby d_prog_70_method_1_295) rfl (aryLdI X52 hx hZ e52 fc49_6 (j := (Int32.ofNat i)) (i := i) (isN_ofNat (by omega)) (by omega) (g := (mkF m 297 #[.val (.ref a), .val (.int (Int32.ofNat G)), .val (.int (Int32.ofNat F)), .val (.int (Int32.ofNat T)), .val (.ref b15), .val (.int (Int32.ofNat i)), o6, o7] [(.int (Int32.ofNat i)), (.ref b21)])) rfl rfl (hb hby d_prog_70_method_1_297) _ kt)) ?_
                  show Go p e below P (T52.setTop (mkF m 298 #[.val (.ref a), .val (.int (Int32.ofNat G)), .val (.int (Int32.ofNat F)), .val (.int (Int32.ofNat T)), .val (.ref b15), .val (.int (Int32.ofNat i)), o6, o7] [(.int ((fun g => own_enc (cr g)) i))]))
                  by_cases br53 : ((fun g => own_enc (cr g)) i) < (0 : Int32)
                  · refine Go.st (fun _ kt => XS.ifNo X52.here hx rfl (hb hby d_prog_70_method_1_298) rfl ((if0 _ _).trans (tlt br53).2.1) kt) ?_
                    show Go p e below P (T52.setTop (mkF m 301 #[.val (.ref a), .val (.int (Int32.ofNat G)), .val (.int (Int32.ofNat F)), .val (.int (Int32.ofNat T)), .val (.ref b15), .val (.int (Int32.ofNat i)), o6, o7] []))
                    refine Go.st (fun _ kt => XS.aloadN X52.here hx rfl (hb hby d_prog_70_method_1_301) rfl rfl kt) ?_
                    show Go p e below P (T52.setTop (mkF m 302 #[.val (.ref a), .val (.int (Int32.ofNat G)), .val (.int (Int32.ofNat F)), .val (.int (Int32.ofNat T)), .val (.ref b15), .val (.int (Int32.ofNat i)), o6, o7] [(.ref a)]))
                    obtain ⟨T54, X54, e54, st54⟩ := getF X52 hx hZ hown (host := "") (Or.inl (hw _ (List.mem_of_getElem? (i := 39) rfl))) Via.refl e52 fc49_4 (g := (mkF m 302 #[.val (.ref a), .val (.int (Int32.ofNat G)), .val (.int (Int32.ofNat F)), .val (.int (Int32.ofNat T)), .val (.ref b15), .val (.int (Int32.ofNat i)), o6, o7] [(.ref a)])) rfl rfl (hb hby d_prog_70_method_1_302)
                    refine Go.st st54 ?_
                    show Go p e below P (T54.setTop (mkF m 305 #[.val (.ref a), .val (.int (Int32.ofNat G)), .val (.int (Int32.ofNat F)), .val (.int (Int32.ofNat T)), .val (.ref b15), .val (.int (Int32.ofNat i)), o6, o7] [(.ref b36)]))
                    refine Go.st (fun _ kt => XS.iload X54.here hx rfl (hb hby d_prog_70_method_1_305) rfl (aryLdI X54 hx hZ e54 fc49_7 (j := (Int32.ofNat i)) (i := i) (isN_ofNat (by omega)) (by omega) (g := (mkF m 307 #[.val (.ref a), .val (.int (Int32.ofNat G)), .val (.int (Int32.ofNat F)), .val (.int (Int32.ofNat T)), .val (.ref b15), .val (.int (Int32.ofNat i)), o6, o7] [(.int (Int32.ofNat i)), (.ref b36)])) rfl rfl (hb hby d_prog_70_method_1_307) _ (XS.iload X54.here hx rfl (hb hby d_prog_70_method_1_308) rfl kt))) ?_
                    show Go p e below P (T54.setTop (mkF m 310 #[.val (.ref a), .val (.int (Int32.ofNat G)), .val (.int (Int32.ofNat F)), .val (.int (Int32.ofNat T)), .val (.ref b15), .val (.int (Int32.ofNat i)), o6, o7] [(.int (Int32.ofNat i)), (.int ((fun j => Int32.ofNat (hd j)) i))]))
                    by_cases br55 : ((fun j => Int32.ofNat (hd j)) i) = (Int32.ofNat i)
                    · refine Go.st (fun _ kt => XS.icmpNo X54.here hx rfl (hb hby d_prog_70_method_1_310) rfl (teq br55).2 kt) ?_
                      show Go p e below P (T54.setTop (mkF m 313 #[.val (.ref a), .val (.int (Int32.ofNat G)), .val (.int (Int32.ofNat F)), .val (.int (Int32.ofNat T)), .val (.ref b15), .val (.int (Int32.ofNat i)), o6, o7] []))
                      refine Go.st (fun _ kt => XS.aloadN X54.here hx rfl (hb hby d_prog_70_method_1_313) rfl rfl kt) ?_
                      show Go p e below P (T54.setTop (mkF m 314 #[.val (.ref a), .val (.int (Int32.ofNat G)), .val (.int (Int32.ofNat F)), .val (.int (Int32.ofNat T)), .val (.ref b15), .val (.int (Int32.ofNat i)), o6, o7] [(.ref a)]))
                      obtain ⟨T56, X56, e56, st56⟩ := getF X54 hx hZ hown (host := "") (Or.inl (hw _ (List.mem_of_getElem? (i := 33) rfl))) Via.refl e54 fc49_5 (g := (mkF m 314 #[.val (.ref a), .val (.int (Int32.ofNat G)), .val (.int (Int32.ofNat F)), .val (.int (Int32.ofNat T)), .val (.ref b15), .val (.int (Int32.ofNat i)), o6, o7] [(.ref a)])) rfl rfl (hb hby d_prog_70_method_1_314)
                      refine Go.st st56 ?_
                      show Go p e below P (T56.setTop (mkF m 317 #[.val (.ref a), .val (.int (Int32.ofNat G)), .val (.int (Int32.ofNat F)), .val (.int (Int32.ofNat T)), .val (.ref b15), .val (.int (Int32.ofNat i)), o6, o7] [(.ref b21)]))
                      refine Go.st (fun _ kt => XS.iload X56.here hx rfl (hb hby d_prog_70_method_1_317) rfl (XS.iload X56.here hx rfl (hb hby d_prog_70_method_1_319) rfl kt)) ?_
                      show Go p e below P (T56.setTop (mkF m 321 #[.val (.ref a), .val (.int (Int32.ofNat G)), .val (.int (Int32.ofNat F)), .val (.int (Int32.ofNat T)), .val (.ref b15), .val (.int (Int32.ofNat i)), o6, o7] [(.int (Int32.ofNat i)), (.int (Int32.ofNat i)), (.ref b21)]))
                      obtain ⟨T57, h57, X57, e57, W57, V57, st57⟩ := aryStI X56 hx hZ e56 fc49_6 (j := (Int32.ofNat i)) (x := (Int32.ofNat i)) (i := i) (isN_ofNat (by omega)) (by omega) (g := (mkF m 321 #[.val (.ref a), .val (.int (Int32.ofNat G)), .val (.int (Int32.ofNat F)), .val (.int (Int32.ofNat T)), .val (.ref b15), .val (.int (Int32.ofNat i)), o6, o7] [(.int (Int32.ofNat i)), (.int (Int32.ofNat i)), (.ref b21)])) rfl rfl (hb hby d_prog_70_method_1_321)
                      have Z58 : n0 ≤ h57.size := by rw [W57.size]; exact Z49
                      have N59 := Fr.snoc X57 N51 G21
                      refine Go.st st57 ?_
                      show Go p e below P (T57.setTop (mkF m 322 #[.val (.ref a), .val (.int (Int32.ofNat G)), .val (.int (Int32.ofNat F)), .val (.int (Int32.ofNat T)), .val (.ref b15), .val (.int (Int32.ofNat i)), o6, o7] []))
                      refine Go.st (fun _ kt => XS.iinc X57.here hx rfl (hb hby d_prog_70_method_1_322) rfl (l' := #[.val (.ref a), .val (.int (Int32.ofNat G)), .val (.int (Int32.ofNat F)), .val (.int (Int32.ofNat T)), .val (.ref b15), .val (.int ((Int32.ofNat i) + (1 : Int32))), o6, o7]) rfl (XS.goto X57.here hx rfl (pc0 := 325) (pc' := 281) rfl (hb hby d_prog_70_method_1_325) (by decide) (by decide) kt)) ?_
                      show Go p e below P (T57.setTop (mkF m 281 #[.val (.ref a), .val (.int (Int32.ofNat G)), .val (.int (Int32.ofNat F)), .val (.int (Int32.ofNat T)), .val (.ref b15), .val (.int ((Int32.ofNat i) + (1 : Int32))), o6, o7] []))
                      rw [own_succ]
                      have hn := (own_enc_neg (hcs' i)).mp br53
                      have f60 := (fc49_0.wr W57)
                      have f61 := (fc49_1.other W57 (Or.inl ne22))
                      have f62 := (fc49_2.other W57 (Or.inl ne22))
                      have f63 := (fc49_3.other W57 (Or.inl ne22))
                      have f64 := (fc49_4.other W57 (Or.inl ne22))
                      have f65 := (fc49_5.other W57 (Or.inl ne22))
                      have f66 := (fc49_7.other W57 (Ne.symm ne39))
                      exact ih49  _ _ (i + 1) (updN cr i (some i)) (X57.more (by decide) (by decide)) N59 (by rw [e57]; exact Z58) (by rw [e57]; exact f60) (by rw [e57]; exact f61) (by rw [e57]; exact f62) (by rw [e57]; exact f63) (by rw [e57]; exact f64) (by rw [e57]; exact f65) (by rw [e57]; exact (Ary.congr (f' := fun g => own_enc (updN cr i (some i) g)) V57 (fun g hg => by
                          by_cases e : g = i
                          · subst e; rw [updN_hit, updN_hit]; rfl
                          · rw [updN_miss e, updN_miss e]))) (by rw [e57]; exact f66) (by omega) (fun g => by
                          by_cases e : g = i
                          · subst e; rw [updN_hit]
                            rcases hcr g with q | ⟨q1, q2, q3⟩
                            · exact Or.inr ⟨by rw [← q]; exact hn, rfl, by omega⟩
                            · rw [q2] at hn; cases hn
                          · rw [updN_miss e]; exact hcr g)
                    · refine Go.st (fun _ kt => XS.icmpYes X54.here hx rfl (pc0 := 310) (pc' := 322) rfl (hb hby d_prog_70_method_1_310) rfl (feq br55).2 (by decide) (by decide) kt) ?_
                      show Go p e below P (T54.setTop (mkF m 322 #[.val (.ref a), .val (.int (Int32.ofNat G)), .val (.int (Int32.ofNat F)), .val (.int (Int32.ofNat T)), .val (.ref b15), .val (.int (Int32.ofNat i)), o6, o7] []))
                      refine Go.st (fun _ kt => XS.iinc X54.here hx rfl (hb hby d_prog_70_method_1_322) rfl (l' := #[.val (.ref a), .val (.int (Int32.ofNat G)), .val (.int (Int32.ofNat F)), .val (.int (Int32.ofNat T)), .val (.ref b15), .val (.int ((Int32.ofNat i) + (1 : Int32))), o6, o7]) rfl (XS.goto X54.here hx rfl (pc0 := 325) (pc' := 281) rfl (hb hby d_prog_70_method_1_325) (by decide) (by decide) kt)) ?_
                      show Go p e below P (T54.setTop (mkF m 281 #[.val (.ref a), .val (.int (Int32.ofNat G)), .val (.int (Int32.ofNat F)), .val (.int (Int32.ofNat T)), .val (.ref b15), .val (.int ((Int32.ofNat i) + (1 : Int32))), o6, o7] []))
                      rw [own_succ]
                      exact ih49  _ _ (i + 1) cr (X54.more (by decide) (by decide)) N51 (by rw [e54]; exact Z49) (by rw [e54]; exact fc49_0) (by rw [e54]; exact fc49_1) (by rw [e54]; exact fc49_2) (by rw [e54]; exact fc49_3) (by rw [e54]; exact fc49_4) (by rw [e54]; exact fc49_5) (by rw [e54]; exact fc49_6) (by rw [e54]; exact fc49_7) (by omega) hcr
                  · refine Go.st (fun _ kt => XS.ifYes X52.here hx rfl (pc0 := 298) (pc' := 322) rfl (hb hby d_prog_70_method_1_298) rfl ((if0 _ _).trans (flt br53).2.1) (by decide) (by decide) kt) ?_
                    show Go p e below P (T52.setTop (mkF m 322 #[.val (.ref a), .val (.int (Int32.ofNat G)), .val (.int (Int32.ofNat F)), .val (.int (Int32.ofNat T)), .val (.ref b15), .val (.int (Int32.ofNat i)), o6, o7] []))
                    refine Go.st (fun _ kt => XS.iinc X52.here hx rfl (hb hby d_prog_70_method_1_322) rfl (l' := #[.val (.ref a), .val (.int (Int32.ofNat G)), .val (.int (Int32.ofNat F)), .val (.int (Int32.ofNat T)), .val (.ref b15), .val (.int ((Int32.ofNat i) + (1 : Int32))), o6, o7]) rfl (XS.goto X52.here hx rfl (pc0 := 325) (pc' := 281) rfl (hb hby d_prog_70_method_1_325) (by decide) (by decide) kt)) ?_
                    show Go p e below P (T52.setTop (mkF m 281 #[.val (.ref a), .val (.int (Int32.ofNat G)), .val (.int (Int32.ofNat F)), .val (.int (Int32.ofNat T)), .val (.ref b15), .val (.int ((Int32.ofNat i) + (1 : Int32))), o6, o7] []))
                    rw [own_succ]
                    exact ih49  _ _ (i + 1) cr (X52.more (by decide) (by decide)) N51 (by rw [e52]; exact Z49) (by rw [e52]; exact fc49_0) (by rw [e52]; exact fc49_1) (by rw [e52]; exact fc49_2) (by rw [e52]; exact fc49_3) (by rw [e52]; exact fc49_4) (by rw [e52]; exact fc49_5) (by rw [e52]; exact fc49_6) (by rw [e52]; exact fc49_7) (by omega) hcr
              exact loop48 (min F T) _ _ 0 cq (X47.more (by decide) (by decide)) N47 Z47 fc47_0 fc47_1 fc47_2 fc47_3 fc47_4 fc47_5 fc47_7 fc47_8 (by omega) (fun g => Or.inl rfl)
            | succ d ih47 =>
              intro T47 Lk47 i hd X47 N47 Z47 fc47_0 fc47_1 fc47_2 fc47_3 fc47_4 fc47_5 fc47_6 fc47_7 fc47_8 hid hhd
              show Go p e below P (T47.setTop (mkF m 234 #[.val (.ref a), .val (.int (Int32.ofNat G)), .val (.int (Int32.ofNat F)), .val (.int (Int32.ofNat T)), .val (.ref b15), .val (.int (Int32.ofNat i)), o6, o7] []))
              have hpi := hpkF i (by omega)
              refine Go.st (fun _ kt => XS.iload X47.here hx rfl (hb hby d_prog_70_method_1_234) rfl (XS.iloadN X47.here hx rfl (hb hby d_prog_70_method_1_236) rfl (XS.icmpNo X47.here hx rfl (hb hby d_prog_70_method_1_237) rfl (tlt ((own_ltN (by omega) (by omega)).mpr (by omega))).2.1 (XS.aloadN X47.here hx rfl (hb hby d_prog_70_method_1_240) rfl rfl kt)))) ?_
              show Go p e below P (T47.setTop (mkF m 241 #[.val (.ref a), .val (.int (Int32.ofNat G)), .val (.int (Int32.ofNat F)), .val (.int (Int32.ofNat T)), .val (.ref b15), .val (.int (Int32.ofNat i)), o6, o7] [(.ref a)]))
              obtain ⟨T67, X67, e67, st67⟩ := getF X47 hx hZ hown (host := "") (Or.inl (hw _ (List.mem_of_getElem? (i := 39) rfl))) Via.refl rfl fc47_4 (g := (mkF m 241 #[.val (.ref a), .val (.int (Int32.ofNat G)), .val (.int (Int32.ofNat F)), .val (.int (Int32.ofNat T)), .val (.ref b15), .val (.int (Int32.ofNat i)), o6, o7] [(.ref a)])) rfl rfl (hb hby d_prog_70_method_1_241)
              refine Go.st st67 ?_
              show Go p e below P (T67.setTop (mkF m 244 #[.val (.ref a), .val (.int (Int32.ofNat G)), .val (.int (Int32.ofNat F)), .val (.int (Int32.ofNat T)), .val (.ref b15), .val (.int (Int32.ofNat i)), o6, o7] [(.ref b36)]))
              refine Go.st (fun _ kt => XS.iload X67.here hx rfl (hb hby d_prog_70_method_1_244) rfl (XS.aloadN X67.here hx rfl (hb hby d_prog_70_method_1_246) rfl rfl kt)) ?_
              show Go p e below P (T67.setTop (mkF m 247 #[.val (.ref a), .val (.int (Int32.ofNat G)), .val (.int (Int32.ofNat F)), .val (.int (Int32.ofNat T)), .val (.ref b15), .val (.int (Int32.ofNat i)), o6, o7] [(.ref a), (.int (Int32.ofNat i)), (.ref b36)]))
              obtain ⟨T68, X68, e68, st68⟩ := getF X67 hx hZ hown (host := "") (Or.inl (hw _ (List.mem_of_getElem? (i := 33) rfl))) Via.refl e67 fc47_5 (g := (mkF m 247 #[.val (.ref a), .val (.int (Int32.ofNat G)), .val (.int (Int32.ofNat F)), .val (.int (Int32.ofNat T)), .val (.ref b15), .val (.int (Int32.ofNat i)), o6, o7] [(.ref a), (.int (Int32.ofNat i)), (.ref b36)])) rfl rfl (hb hby d_prog_70_method_1_247)
              refine Go.st st68 ?_
              show Go p e below P (T68.setTop (mkF m 250 #[.val (.ref a), .val (.int (Int32.ofNat G)), .val (.int (Int32.ofNat F)), .val (.int (Int32.ofNat T)), .val (.ref b15), .val (.int (Int32.ofNat i)), o6, o7] [(.ref b21), (.int (Int32.ofNat i)), (.ref b36)]))
              refine Go.st (fun _ kt => XS.aload X68.here hx rfl (hb hby d_prog_70_method_1_250) rfl rfl (XS.iload X68.here hx rfl (hb hby d_prog_70_method_1_252) rfl (aryLdI X68 hx hZ e68 fc47_6 (j := (Int32.ofNat i)) (i := i) (isN_ofNat (by omega)) (by omega) (g := (mkF m 254 #[.val (.ref a), .val (.int (Int32.ofNat G)), .val (.int (Int32.ofNat F)), .val (.int (Int32.ofNat T)), .val (.ref b15), .val (.int (Int32.ofNat i)), o6, o7] [(.int (Int32.ofNat i)), (.ref b15), (.ref b21), (.int (Int32.ofNat i)), (.ref b36)])) rfl rfl (hb hby d_prog_70_method_1_254) _ (aryLdI X68 hx hZ e68 fc47_7 (j := ((fun j => Int32.ofNat (pk j)) i)) (i := (pk i)) (isN_ofNat (by omega)) hpi (g := (mkF m 255 #[.val (.ref a), .val (.int (Int32.ofNat G)), .val (.int (Int32.ofNat F)), .val (.int (Int32.ofNat T)), .val (.ref b15), .val (.int (Int32.ofNat i)), o6, o7] [(.int ((fun j => Int32.ofNat (pk j)) i)), (.ref b21), (.int (Int32.ofNat i)), (.ref b36)])) rfl rfl (hb hby d_prog_70_method_1_255) _ (XS.iload X68.here hx rfl (hb hby d_prog_70_method_1_256) rfl kt))))) ?_
              show Go p e below P (T68.setTop (mkF m 258 #[.val (.ref a), .val (.int (Int32.ofNat G)), .val (.int (Int32.ofNat F)), .val (.int (Int32.ofNat T)), .val (.ref b15), .val (.int (Int32.ofNat i)), o6, o7] [(.int (Int32.ofNat i)), (.int ((fun g => own_enc (cq g)) (pk i))), (.int (Int32.ofNat i)), (.ref b36)]))
              by_cases br69 : ((fun g => own_enc (cq g)) (pk i)) = (Int32.ofNat i)
              · refine Go.st (fun _ kt => XS.icmpNo X68.here hx rfl (hb hby d_prog_70_method_1_258) rfl (teq br69).2 kt) ?_
                show Go p e below P (T68.setTop (mkF m 261 #[.val (.ref a), .val (.int (Int32.ofNat G)), .val (.int (Int32.ofNat F)), .val (.int (Int32.ofNat T)), .val (.ref b15), .val (.int (Int32.ofNat i)), o6, o7] [(.int (Int32.ofNat i)), (.ref b36)]))
                refine Go.st (fun _ kt => XS.aload X68.here hx rfl (hb hby d_prog_70_method_1_261) rfl rfl (XS.iload X68.here hx rfl (hb hby d_prog_70_method_1_263) rfl (aryLdI X68 hx hZ e68 fc47_6 (j := (Int32.ofNat i)) (i := i) (isN_ofNat (by omega)) (by omega) (g := (mkF m 265 #[.val (.ref a), .val (.int (Int32.ofNat G)), .val (.int (Int32.ofNat F)), .val (.int (Int32.ofNat T)), .val (.ref b15), .val (.int (Int32.ofNat i)), o6, o7] [(.int (Int32.ofNat i)), (.ref b15), (.int (Int32.ofNat i)), (.ref b36)])) rfl rfl (hb hby d_prog_70_method_1_265) _ (XS.goto X68.here hx rfl (pc0 := 266) (pc' := 271) rfl (hb hby d_prog_70_method_1_266) (by decide) (by decide) kt)))) ?_
                show Go p e below P (T68.setTop (mkF m 271 #[.val (.ref a), .val (.int (Int32.ofNat G)), .val (.int (Int32.ofNat F)), .val (.int (Int32.ofNat T)), .val (.ref b15), .val (.int (Int32.ofNat i)), o6, o7] [(.int ((fun j => Int32.ofNat (pk j)) i)), (.int (Int32.ofNat i)), (.ref b36)]))
                obtain ⟨T70, h70, X70, e70, W70, V70, st70⟩ := aryStI X68 hx hZ e68 fc47_8 (j := (Int32.ofNat i)) (x := ((fun j => Int32.ofNat (pk j)) i)) (i := i) (isN_ofNat (by omega)) (by omega) (g := (mkF m 271 #[.val (.ref a), .val (.int (Int32.ofNat G)), .val (.int (Int32.ofNat F)), .val (.int (Int32.ofNat T)), .val (.ref b15), .val (.int (Int32.ofNat i)), o6, o7] [(.int ((fun j => Int32.ofNat (pk j)) i)), (.int (Int32.ofNat i)), (.ref b36)])) rfl rfl (hb hby d_prog_70_method_1_271)
                have Z71 : n0 ≤ h70.size := by rw [W70.size]; exact Z47
                have N72 := Fr.snoc X70 N47 G36
                refine Go.st st70 ?_
                show Go p e below P (T70.setTop (mkF m 272 #[.val (.ref a), .val (.int (Int32.ofNat G)), .val (.int (Int32.ofNat F)), .val (.int (Int32.ofNat T)), .val (.ref b15), .val (.int (Int32.ofNat i)), o6, o7] []))
                refine Go.st (fun _ kt => XS.iinc X70.here hx rfl (hb hby d_prog_70_method_1_272) rfl (l' := #[.val (.ref a), .val (.int (Int32.ofNat G)), .val (.int (Int32.ofNat F)), .val (.int (Int32.ofNat T)), .val (.ref b15), .val (.int ((Int32.ofNat i) + (1 : Int32))), o6, o7]) rfl (XS.goto X70.here hx rfl (pc0 := 275) (pc' := 234) rfl (hb hby d_prog_70_method_1_275) (by decide) (by decide) kt)) ?_
                show Go p e below P (T70.setTop (mkF m 234 #[.val (.ref a), .val (.int (Int32.ofNat G)), .val (.int (Int32.ofNat F)), .val (.int (Int32.ofNat T)), .val (.ref b15), .val (.int ((Int32.ofNat i) + (1 : Int32))), o6, o7] []))
                rw [own_succ]
                have hxbr69 : own_hd pk cq i = pk i := (by unfold own_hd; rw [if_pos ((own_enc_eq (hcs _) (by omega)).mp br69)])
                have f73 := (fc47_0.wr W70)
                have f74 := (fc47_1.other W70 (Or.inl ne37))
                have f75 := (fc47_2.other W70 (Or.inl ne37))
                have f76 := (fc47_3.other W70 (Or.inl ne37))
                have f77 := (fc47_4.other W70 (Or.inl ne37))
                have f78 := (fc47_5.other W70 (Or.inl ne37))
                have f79 := (fc47_6.other W70 ne38)
                have f80 := (fc47_7.other W70 ne39)
                exact ih47  _ _ (i + 1) (updN hd i (own_hd pk cq i)) (X70.more (by decide) (by decide)) N72 (by rw [e70]; exact Z71) (by rw [e70]; exact f73) (by rw [e70]; exact f74) (by rw [e70]; exact f75) (by rw [e70]; exact f76) (by rw [e70]; exact f77) (by rw [e70]; exact f78) (by rw [e70]; exact f79) (by rw [e70]; exact f80) (by rw [e70]; exact (Ary.congr (f' := fun j => Int32.ofNat (updN hd i (own_hd pk cq i) j)) V70 (fun j hj => by
                    by_cases e : j = i
                    · subst e; rw [updN_hit, updN_hit, hxbr69]
                    · rw [updN_miss e, updN_miss e]))) (by omega) (fun j hj => by
                    by_cases e : j = i
                    · subst e; rw [updN_hit]
                    · rw [updN_miss e]; exact hhd j (by omega))
              · refine Go.st (fun _ kt => XS.icmpYes X68.here hx rfl (pc0 := 258) (pc' := 269) rfl (hb hby d_prog_70_method_1_258) rfl (feq br69).2 (by decide) (by decide) kt) ?_
                show Go p e below P (T68.setTop (mkF m 269 #[.val (.ref a), .val (.int (Int32.ofNat G)), .val (.int (Int32.ofNat F)), .val (.int (Int32.ofNat T)), .val (.ref b15), .val (.int (Int32.ofNat i)), o6, o7] [(.int (Int32.ofNat i)), (.ref b36)]))
                refine Go.st (fun _ kt => XS.iload X68.here hx rfl (hb hby d_prog_70_method_1_269) rfl kt) ?_
                show Go p e below P (T68.setTop (mkF m 271 #[.val (.ref a), .val (.int (Int32.ofNat G)), .val (.int (Int32.ofNat F)), .val (.int (Int32.ofNat T)), .val (.ref b15), .val (.int (Int32.ofNat i)), o6, o7] [(.int (Int32.ofNat i)), (.int (Int32.ofNat i)), (.ref b36)]))
                obtain ⟨T81, h81, X81, e81, W81, V81, st81⟩ := aryStI X68 hx hZ e68 fc47_8 (j := (Int32.ofNat i)) (x := (Int32.ofNat i)) (i := i) (isN_ofNat (by omega)) (by omega) (g := (mkF m 271 #[.val (.ref a), .val (.int (Int32.ofNat G)), .val (.int (Int32.ofNat F)), .val (.int (Int32.ofNat T)), .val (.ref b15), .val (.int (Int32.ofNat i)), o6, o7] [(.int (Int32.ofNat i)), (.int (Int32.ofNat i)), (.ref b36)])) rfl rfl (hb hby d_prog_70_method_1_271)
                have Z82 : n0 ≤ h81.size := by rw [W81.size]; exact Z47
                have N83 := Fr.snoc X81 N47 G36
                refine Go.st st81 ?_
                show Go p e below P (T81.setTop (mkF m 272 #[.val (.ref a), .val (.int (Int32.ofNat G)), .val (.int (Int32.ofNat F)), .val (.int (Int32.ofNat T)), .val (.ref b15), .val (.int (Int32.ofNat i)), o6, o7] []))
                refine Go.st (fun _ kt => XS.iinc X81.here hx rfl (hb hby d_prog_70_method_1_272) rfl (l' := #[.val (.ref a), .val (.int (Int32.ofNat G)), .val (.int (Int32.ofNat F)), .val (.int (Int32.ofNat T)), .val (.ref b15), .val (.int ((Int32.ofNat i) + (1 : Int32))), o6, o7]) rfl (XS.goto X81.here hx rfl (pc0 := 275) (pc' := 234) rfl (hb hby d_prog_70_method_1_275) (by decide) (by decide) kt)) ?_
                show Go p e below P (T81.setTop (mkF m 234 #[.val (.ref a), .val (.int (Int32.ofNat G)), .val (.int (Int32.ofNat F)), .val (.int (Int32.ofNat T)), .val (.ref b15), .val (.int ((Int32.ofNat i) + (1 : Int32))), o6, o7] []))
                rw [own_succ]
                have hxbr69 : own_hd pk cq i = i := (by unfold own_hd; rw [if_neg (fun q => br69 ((own_enc_eq (hcs _) (by omega)).mpr q))])
                have f84 := (fc47_0.wr W81)
                have f85 := (fc47_1.other W81 (Or.inl ne37))
                have f86 := (fc47_2.other W81 (Or.inl ne37))
                have f87 := (fc47_3.other W81 (Or.inl ne37))
                have f88 := (fc47_4.other W81 (Or.inl ne37))
                have f89 := (fc47_5.other W81 (Or.inl ne37))
                have f90 := (fc47_6.other W81 ne38)
                have f91 := (fc47_7.other W81 ne39)
                exact ih47  _ _ (i + 1) (updN hd i (own_hd pk cq i)) (X81.more (by decide) (by decide)) N83 (by rw [e81]; exact Z82) (by rw [e81]; exact f84) (by rw [e81]; exact f85) (by rw [e81]; exact f86) (by rw [e81]; exact f87) (by rw [e81]; exact f88) (by rw [e81]; exact f89) (by rw [e81]; exact f90) (by rw [e81]; exact f91) (by rw [e81]; exact (Ary.congr (f' := fun j => Int32.ofNat (updN hd i (own_hd pk cq i) j)) V81 (fun j hj => by
                    by_cases e : j = i
                    · subst e; rw [updN_hit, updN_hit, hxbr69]
                    · rw [updN_miss e, updN_miss e]))) (by omega) (fun j hj => by
                    by_cases e : j = i
                    · subst e; rw [updN_hit]
                    · rw [updN_miss e]; exact hhd j (by omega))
          have f92 := (V36.other W41 (Ne.symm ne37))
          have f93 := (f43.wr W41)
          have f94 := ((fc35_1.ext E36).other W41 (Or.inr (slot_ne (Or.inr (hw _ (List.mem_of_getElem? (i := 11) rfl))) (Or.inr (hw _ (List.mem_of_getElem? (i := 40) rfl))) (by decide) (t := .int) (t' := (.array .int)) (by decide) (by decide))))
          have f95 := ((fc35_2.ext E36).other W41 (Or.inr (slot_ne (Or.inr (hw _ (List.mem_of_getElem? (i := 13) rfl))) (Or.inr (hw _ (List.mem_of_getElem? (i := 40) rfl))) (by decide) (t := .int) (t' := (.array .int)) (by decide) (by decide))))
          have f96 := ((fc35_3.ext E36).other W41 (Or.inr (slot_ne (Or.inr (hw _ (List.mem_of_getElem? (i := 15) rfl))) (Or.inr (hw _ (List.mem_of_getElem? (i := 40) rfl))) (by decide) (t := .int) (t' := (.array .int)) (by decide) (by decide))))
          have f97 := ((fc35_5.ext E36).other W41 (Or.inr (slot_ne (Or.inr (hw _ (List.mem_of_getElem? (i := 34) rfl))) (Or.inr (hw _ (List.mem_of_getElem? (i := 40) rfl))) (by decide) (t := (.array .int)) (t' := (.array .int)) (by decide) (by decide))))
          have f98 := ((fc35_6.ext E36).other W41 (Ne.symm ne16))
          have f99 := ((fc35_7.ext E36).other W41 (Ne.symm ne22))
          exact loop46 F _ _ 0 (fun _ => 0) (X41.more (by decide) (by decide)) N45 (by rw [e41]; exact Z44) (by rw [e41]; exact f93) (by rw [e41]; exact f94) (by rw [e41]; exact f95) (by rw [e41]; exact f96) (by rw [e41]; exact Fw41) (by rw [e41]; exact f97) (by rw [e41]; exact f98) (by rw [e41]; exact f99) (by rw [e41]; exact (Ary.congr (f' := fun j => Int32.ofNat 0) f92 (fun j hj => rfl))) (by omega) (fun j hj => by omega)
        | succ d ih35 =>
          intro T35 Lk35 i cq o6 o7 X35 N35 Z35 fc35_0 fc35_1 fc35_2 fc35_3 fc35_4 fc35_5 fc35_6 fc35_7 hid hc ho6 ho7
          show Go p e below P (T35.setTop (mkF m 137 #[.val (.ref a), .val (.int (Int32.ofNat G)), .val (.int (Int32.ofNat F)), .val (.int (Int32.ofNat T)), .val (.ref b15), .val (.int (Int32.ofNat i)), o6, o7] []))
          have hpi := hpkF i (by omega)
          have hcs : ∀ g j, cq g = some j → j < 2 ^ 31 := fun g j q => by have := hc g j q; omega
          refine Go.st (fun _ kt => XS.iload X35.here hx rfl (hb hby d_prog_70_method_1_137) rfl (XS.iloadN X35.here hx rfl (hb hby d_prog_70_method_1_139) rfl (XS.icmpNo X35.here hx rfl (hb hby d_prog_70_method_1_140) rfl (tlt ((own_ltN (by omega) (by omega)).mpr (by omega))).2.1 (XS.aload X35.here hx rfl (hb hby d_prog_70_method_1_143) rfl rfl (XS.iload X35.here hx rfl (hb hby d_prog_70_method_1_145) rfl (aryLdI X35 hx hZ rfl fc35_6 (j := (Int32.ofNat i)) (i := i) (isN_ofNat (by omega)) (by omega) (g := (mkF m 147 #[.val (.ref a), .val (.int (Int32.ofNat G)), .val (.int (Int32.ofNat F)), .val (.int (Int32.ofNat T)), .val (.ref b15), .val (.int (Int32.ofNat i)), o6, o7] [(.int (Int32.ofNat i)), (.ref b15)])) rfl rfl (hb hby d_prog_70_method_1_147) _ (XS.istore X35.here hx rfl (hb hby d_prog_70_method_1_148) rfl (l' := #[.val (.ref a), .val (.int (Int32.ofNat G)), .val (.int (Int32.ofNat F)), .val (.int (Int32.ofNat T)), .val (.ref b15), .val (.int (Int32.ofNat i)), .val (.int ((fun j => Int32.ofNat (pk j)) i)), o7]) (XS.store1 rfl ho6 rfl) (XS.aloadN X35.here hx rfl (hb hby d_prog_70_method_1_150) rfl rfl kt)))))))) ?_
          show Go p e below P (T35.setTop (mkF m 151 #[.val (.ref a), .val (.int (Int32.ofNat G)), .val (.int (Int32.ofNat F)), .val (.int (Int32.ofNat T)), .val (.ref b15), .val (.int (Int32.ofNat i)), .val (.int ((fun j => Int32.ofNat (pk j)) i)), o7] [(.ref a)]))
          obtain ⟨T100, X100, e100, st100⟩ := getF X35 hx hZ hown (host := "") (Or.inl (hw _ (List.mem_of_getElem? (i := 33) rfl))) Via.refl rfl fc35_5 (g := (mkF m 151 #[.val (.ref a), .val (.int (Int32.ofNat G)), .val (.int (Int32.ofNat F)), .val (.int (Int32.ofNat T)), .val (.ref b15), .val (.int (Int32.ofNat i)), .val (.int ((fun j => Int32.ofNat (pk j)) i)), o7] [(.ref a)])) rfl rfl (hb hby d_prog_70_method_1_151)
          refine Go.st st100 ?_
          show Go p e below P (T100.setTop (mkF m 154 #[.val (.ref a), .val (.int (Int32.ofNat G)), .val (.int (Int32.ofNat F)), .val (.int (Int32.ofNat T)), .val (.ref b15), .val (.int (Int32.ofNat i)), .val (.int ((fun j => Int32.ofNat (pk j)) i)), o7] [(.ref b21)]))
          refine Go.st (fun _ kt => XS.iload X100.here hx rfl (hb hby d_prog_70_method_1_154) rfl (aryLdI X100 hx hZ e100 fc35_7 (j := ((fun j => Int32.ofNat (pk j)) i)) (i := (pk i)) (isN_ofNat (by omega)) hpi (g := (mkF m 156 #[.val (.ref a), .val (.int (Int32.ofNat G)), .val (.int (Int32.ofNat F)), .val (.int (Int32.ofNat T)), .val (.ref b15), .val (.int (Int32.ofNat i)), .val (.int ((fun j => Int32.ofNat (pk j)) i)), o7] [(.int ((fun j => Int32.ofNat (pk j)) i)), (.ref b21)])) rfl rfl (hb hby d_prog_70_method_1_156) _ (XS.istore X100.here hx rfl (hb hby d_prog_70_method_1_157) rfl (l' := #[.val (.ref a), .val (.int (Int32.ofNat G)), .val (.int (Int32.ofNat F)), .val (.int (Int32.ofNat T)), .val (.ref b15), .val (.int (Int32.ofNat i)), .val (.int ((fun j => Int32.ofNat (pk j)) i)), .val (.int ((fun g => own_enc (cq g)) (pk i)))]) (XS.store1 rfl ho7 rfl) (XS.iload X100.here hx rfl (hb hby d_prog_70_method_1_159) rfl kt)))) ?_
          show Go p e below P (T100.setTop (mkF m 161 #[.val (.ref a), .val (.int (Int32.ofNat G)), .val (.int (Int32.ofNat F)), .val (.int (Int32.ofNat T)), .val (.ref b15), .val (.int (Int32.ofNat i)), .val (.int ((fun j => Int32.ofNat (pk j)) i)), .val (.int ((fun g => own_enc (cq g)) (pk i)))] [(.int ((fun g => own_enc (cq g)) (pk i)))]))
          by_cases br101 : ((fun g => own_enc (cq g)) (pk i)) < (0 : Int32)
          · refine Go.st (fun _ kt => XS.ifYes X100.here hx rfl (pc0 := 161) (pc' := 209) rfl (hb hby d_prog_70_method_1_161) rfl ((if0 _ _).trans (tlt br101).1) (by decide) (by decide) kt) ?_
            show Go p e below P (T100.setTop (mkF m 209 #[.val (.ref a), .val (.int (Int32.ofNat G)), .val (.int (Int32.ofNat F)), .val (.int (Int32.ofNat T)), .val (.ref b15), .val (.int (Int32.ofNat i)), .val (.int ((fun j => Int32.ofNat (pk j)) i)), .val (.int ((fun g => own_enc (cq g)) (pk i)))] []))
            refine Go.st (fun _ kt => XS.aloadN X100.here hx rfl (hb hby d_prog_70_method_1_209) rfl rfl kt) ?_
            show Go p e below P (T100.setTop (mkF m 210 #[.val (.ref a), .val (.int (Int32.ofNat G)), .val (.int (Int32.ofNat F)), .val (.int (Int32.ofNat T)), .val (.ref b15), .val (.int (Int32.ofNat i)), .val (.int ((fun j => Int32.ofNat (pk j)) i)), .val (.int ((fun g => own_enc (cq g)) (pk i)))] [(.ref a)]))
            obtain ⟨T102, X102, e102, st102⟩ := getF X100 hx hZ hown (host := "") (Or.inl (hw _ (List.mem_of_getElem? (i := 33) rfl))) Via.refl e100 fc35_5 (g := (mkF m 210 #[.val (.ref a), .val (.int (Int32.ofNat G)), .val (.int (Int32.ofNat F)), .val (.int (Int32.ofNat T)), .val (.ref b15), .val (.int (Int32.ofNat i)), .val (.int ((fun j => Int32.ofNat (pk j)) i)), .val (.int ((fun g => own_enc (cq g)) (pk i)))] [(.ref a)])) rfl rfl (hb hby d_prog_70_method_1_210)
            refine Go.st st102 ?_
            show Go p e below P (T102.setTop (mkF m 213 #[.val (.ref a), .val (.int (Int32.ofNat G)), .val (.int (Int32.ofNat F)), .val (.int (Int32.ofNat T)), .val (.ref b15), .val (.int (Int32.ofNat i)), .val (.int ((fun j => Int32.ofNat (pk j)) i)), .val (.int ((fun g => own_enc (cq g)) (pk i)))] [(.ref b21)]))
            refine Go.st (fun _ kt => XS.iload X102.here hx rfl (hb hby d_prog_70_method_1_213) rfl (XS.iload X102.here hx rfl (hb hby d_prog_70_method_1_215) rfl kt)) ?_
            show Go p e below P (T102.setTop (mkF m 217 #[.val (.ref a), .val (.int (Int32.ofNat G)), .val (.int (Int32.ofNat F)), .val (.int (Int32.ofNat T)), .val (.ref b15), .val (.int (Int32.ofNat i)), .val (.int ((fun j => Int32.ofNat (pk j)) i)), .val (.int ((fun g => own_enc (cq g)) (pk i)))] [(.int (Int32.ofNat i)), (.int ((fun j => Int32.ofNat (pk j)) i)), (.ref b21)]))
            obtain ⟨T103, h103, X103, e103, W103, V103, st103⟩ := aryStI X102 hx hZ e102 fc35_7 (j := ((fun j => Int32.ofNat (pk j)) i)) (x := (Int32.ofNat i)) (i := (pk i)) (isN_ofNat (by omega)) hpi (g := (mkF m 217 #[.val (.ref a), .val (.int (Int32.ofNat G)), .val (.int (Int32.ofNat F)), .val (.int (Int32.ofNat T)), .val (.ref b15), .val (.int (Int32.ofNat i)), .val (.int ((fun j => Int32.ofNat (pk j)) i)), .val (.int ((fun g => own_enc (cq g)) (pk i)))] [(.int (Int32.ofNat i)), (.int ((fun j => Int32.ofNat (pk j)) i)), (.ref b21)])) rfl rfl (hb hby d_prog_70_method_1_217)
            have Z104 : n0 ≤ h103.size := by rw [W103.size]; exact Z35
            have N105 := Fr.snoc X103 N35 G21
            refine Go.st st103 ?_
            show Go p e below P (T103.setTop (mkF m 218 #[.val (.ref a), .val (.int (Int32.ofNat G)), .val (.int (Int32.ofNat F)), .val (.int (Int32.ofNat T)), .val (.ref b15), .val (.int (Int32.ofNat i)), .val (.int ((fun j => Int32.ofNat (pk j)) i)), .val (.int ((fun g => own_enc (cq g)) (pk i)))] []))
            refine Go.st (fun _ kt => XS.iinc X103.here hx rfl (hb hby d_prog_70_method_1_218) rfl (l' := #[.val (.ref a), .val (.int (Int32.ofNat G)), .val (.int (Int32.ofNat F)), .val (.int (Int32.ofNat T)), .val (.ref b15), .val (.int ((Int32.ofNat i) + (1 : Int32))), .val (.int ((fun j => Int32.ofNat (pk j)) i)), .val (.int ((fun g => own_enc (cq g)) (pk i)))]) rfl (XS.goto X103.here hx rfl (pc0 := 221) (pc' := 137) rfl (hb hby d_prog_70_method_1_221) (by decide) (by decide) kt)) ?_
            show Go p e below P (T103.setTop (mkF m 137 #[.val (.ref a), .val (.int (Int32.ofNat G)), .val (.int (Int32.ofNat F)), .val (.int (Int32.ofNat T)), .val (.ref b15), .val (.int ((Int32.ofNat i) + (1 : Int32))), .val (.int ((fun j => Int32.ofNat (pk j)) i)), .val (.int ((fun g => own_enc (cq g)) (pk i)))] []))
            rw [own_succ]
            have f106 := (fc35_0.wr W103)
            have f107 := (fc35_1.other W103 (Or.inl ne22))
            have f108 := (fc35_2.other W103 (Or.inl ne22))
            have f109 := (fc35_3.other W103 (Or.inl ne22))
            have f110 := (fc35_4.other W103 (Or.inl ne22))
            have f111 := (fc35_5.other W103 (Or.inl ne22))
            have f112 := (fc35_6.other W103 ne23)
            exact ih35  _ _ (i + 1) (updN cq (pk i) (some i)) _ _ (X103.more (by decide) (by decide)) N105 (by rw [e103]; exact Z104) (by rw [e103]; exact f106) (by rw [e103]; exact f107) (by rw [e103]; exact f108) (by rw [e103]; exact f109) (by rw [e103]; exact f110) (by rw [e103]; exact f111) (by rw [e103]; exact f112) (by rw [e103]; exact (Ary.congr (f' := fun g => own_enc (updN cq (pk i) (some i) g)) V103 (fun g hg => by
                by_cases e : g = pk i
                · subst e; rw [updN_hit, updN_hit]; rfl
                · rw [updN_miss e, updN_miss e]))) (by omega) (fun g j q => by
                by_cases e : g = pk i
                · subst e; rw [updN_hit] at q; cases q; exact ⟨by omega, rfl⟩
                · rw [updN_miss e] at q; exact hc g j q) (Or.inr ⟨_, rfl, rfl⟩) (Or.inr ⟨_, rfl, rfl⟩)
          · refine Go.st (fun _ kt => XS.ifNo X100.here hx rfl (hb hby d_prog_70_method_1_161) rfl ((if0 _ _).trans (flt br101).1) kt) ?_
            show Go p e below P (T100.setTop (mkF m 164 #[.val (.ref a), .val (.int (Int32.ofNat G)), .val (.int (Int32.ofNat F)), .val (.int (Int32.ofNat T)), .val (.ref b15), .val (.int (Int32.ofNat i)), .val (.int ((fun j => Int32.ofNat (pk j)) i)), .val (.int ((fun g => own_enc (cq g)) (pk i)))] []))
            refine Go.st (fun _ kt => XS.aloadN X100.here hx rfl (hb hby d_prog_70_method_1_164) rfl rfl (XS.iload X100.here hx rfl (hb hby d_prog_70_method_1_165) rfl (XS.iload X100.here hx rfl (hb hby d_prog_70_method_1_167) rfl kt))) ?_
            show Go p e below P (T100.setTop (mkF m 169 #[.val (.ref a), .val (.int (Int32.ofNat G)), .val (.int (Int32.ofNat F)), .val (.int (Int32.ofNat T)), .val (.ref b15), .val (.int (Int32.ofNat i)), .val (.int ((fun j => Int32.ofNat (pk j)) i)), .val (.int ((fun g => own_enc (cq g)) (pk i)))] [(.int ((fun j => Int32.ofNat (pk j)) i)), (.int (Int32.ofNat i)), (.ref a)]))
            obtain ⟨_, T113, Lc113, X113, ⟨r113, rfl, Nq113, eq113⟩, st113⟩ := callCp X100 hx hZ e100 (y := (⟨"io/sluicegate/runtime/KeyGroupPlan", "shared", "(II)I"⟩ : MethodName)) (a := a) (argsL := [(.int (Int32.ofNat i)), (.int ((fun j => Int32.ofNat (pk j)) i))]) (rest := []) hown (hw _ (List.mem_of_getElem? (i := 50) rfl)) (hw _ (List.mem_of_getElem? (i := 51) rfl)) (hw _ (List.mem_of_getElem? (i := 52) rfl)) (hw _ (List.mem_of_getElem? (i := 2) rfl)) (hw _ (List.mem_of_getElem? (i := 3) rfl)) (hw _ (List.mem_of_getElem? (i := 53) rfl)) (by decide) fc35_0 (rmS l Z a0 hw a ((Int32.ofNat i)) (((fun j => Int32.ofNat (pk j)) i)) _ _ _ _ n0 Z35 fc35_0 fc35_1 fc35_2 fc35_3 (own_nz64 (by omega) (by omega)) (own_nz64 (by omega) (by omega))) (W := 0) (by decide) (by decide) (g := (mkF m 169 #[.val (.ref a), .val (.int (Int32.ofNat G)), .val (.int (Int32.ofNat F)), .val (.int (Int32.ofNat T)), .val (.ref b15), .val (.int (Int32.ofNat i)), .val (.int ((fun j => Int32.ofNat (pk j)) i)), .val (.int ((fun g => own_enc (cq g)) (pk i)))] [(.int ((fun j => Int32.ofNat (pk j)) i)), (.int (Int32.ofNat i)), (.ref a)])) rfl (by rw [hml]; rfl) (lenOf pd_3 rfl) rfl (by show 2 * 0 + _ ≤ _; exact Nat.le_of_eq rfl) (hb hby d_prog_70_method_1_169) (by decide) (by decide)
            have N113 := Fr.app N35 Nq113
            have e113 : T113.heap = T35.heap := eq113
            refine Go.st st113 ?_
            show Go p e below P (T113.setTop (mkF m 172 #[.val (.ref a), .val (.int (Int32.ofNat G)), .val (.int (Int32.ofNat F)), .val (.int (Int32.ofNat T)), .val (.ref b15), .val (.int (Int32.ofNat i)), .val (.int ((fun j => Int32.ofNat (pk j)) i)), .val (.int ((fun g => own_enc (cq g)) (pk i)))] [(.int r113)]))
            refine Go.st (fun _ kt => XS.aloadN X113.here hx rfl (hb hby d_prog_70_method_1_172) rfl rfl (XS.iload X113.here hx rfl (hb hby d_prog_70_method_1_173) rfl (XS.iload X113.here hx rfl (hb hby d_prog_70_method_1_175) rfl kt))) ?_
            show Go p e below P (T113.setTop (mkF m 177 #[.val (.ref a), .val (.int (Int32.ofNat G)), .val (.int (Int32.ofNat F)), .val (.int (Int32.ofNat T)), .val (.ref b15), .val (.int (Int32.ofNat i)), .val (.int ((fun j => Int32.ofNat (pk j)) i)), .val (.int ((fun g => own_enc (cq g)) (pk i)))] [(.int ((fun j => Int32.ofNat (pk j)) i)), (.int ((fun g => own_enc (cq g)) (pk i))), (.ref a), (.int r113)]))
            obtain ⟨_, T114, Lc114, X114, ⟨r114, rfl, Nq114, eq114⟩, st114⟩ := callCp X113 hx hZ e113 (y := (⟨"io/sluicegate/runtime/KeyGroupPlan", "shared", "(II)I"⟩ : MethodName)) (a := a) (argsL := [(.int ((fun g => own_enc (cq g)) (pk i))), (.int ((fun j => Int32.ofNat (pk j)) i))]) (rest := [(.int r113)]) hown (hw _ (List.mem_of_getElem? (i := 50) rfl)) (hw _ (List.mem_of_getElem? (i := 51) rfl)) (hw _ (List.mem_of_getElem? (i := 52) rfl)) (hw _ (List.mem_of_getElem? (i := 2) rfl)) (hw _ (List.mem_of_getElem? (i := 3) rfl)) (hw _ (List.mem_of_getElem? (i := 53) rfl)) (by decide) fc35_0 (rmS l Z a0 hw a (((fun g => own_enc (cq g)) (pk i))) (((fun j => Int32.ofNat (pk j)) i)) _ _ _ _ n0 Z35 fc35_0 fc35_1 fc35_2 fc35_3 (own_nz64 (by omega) (by omega)) (own_nz64 (by omega) (by omega))) (W := 1) (by decide) (by decide) (g := (mkF m 177 #[.val (.ref a), .val (.int (Int32.ofNat G)), .val (.int (Int32.ofNat F)), .val (.int (Int32.ofNat T)), .val (.ref b15), .val (.int (Int32.ofNat i)), .val (.int ((fun j => Int32.ofNat (pk j)) i)), .val (.int ((fun g => own_enc (cq g)) (pk i)))] [(.int ((fun j => Int32.ofNat (pk j)) i)), (.int ((fun g => own_enc (cq g)) (pk i))), (.ref a), (.int r113)])) rfl (by rw [hml]; rfl) (lenOf pd_3 rfl) rfl (by show 2 * 0 + _ ≤ _; exact Nat.le_of_eq rfl) (hb hby d_prog_70_method_1_177) (by decide) (by decide)
            have N114 := Fr.app N113 Nq114
            have e114 : T114.heap = T35.heap := eq114
            refine Go.st st114 ?_
            show Go p e below P (T114.setTop (mkF m 180 #[.val (.ref a), .val (.int (Int32.ofNat G)), .val (.int (Int32.ofNat F)), .val (.int (Int32.ofNat T)), .val (.ref b15), .val (.int (Int32.ofNat i)), .val (.int ((fun j => Int32.ofNat (pk j)) i)), .val (.int ((fun g => own_enc (cq g)) (pk i)))] [(.int r114), (.int r113)]))
            by_cases br115 : r114 < r113
            · refine Go.st (fun _ kt => XS.icmpYes X114.here hx rfl (pc0 := 180) (pc' := 209) rfl (hb hby d_prog_70_method_1_180) rfl (tlt br115).2.2.1 (by decide) (by decide) kt) ?_
              show Go p e below P (T114.setTop (mkF m 209 #[.val (.ref a), .val (.int (Int32.ofNat G)), .val (.int (Int32.ofNat F)), .val (.int (Int32.ofNat T)), .val (.ref b15), .val (.int (Int32.ofNat i)), .val (.int ((fun j => Int32.ofNat (pk j)) i)), .val (.int ((fun g => own_enc (cq g)) (pk i)))] []))
              refine Go.st (fun _ kt => XS.aloadN X114.here hx rfl (hb hby d_prog_70_method_1_209) rfl rfl kt) ?_
              show Go p e below P (T114.setTop (mkF m 210 #[.val (.ref a), .val (.int (Int32.ofNat G)), .val (.int (Int32.ofNat F)), .val (.int (Int32.ofNat T)), .val (.ref b15), .val (.int (Int32.ofNat i)), .val (.int ((fun j => Int32.ofNat (pk j)) i)), .val (.int ((fun g => own_enc (cq g)) (pk i)))] [(.ref a)]))
              obtain ⟨T116, X116, e116, st116⟩ := getF X114 hx hZ hown (host := "") (Or.inl (hw _ (List.mem_of_getElem? (i := 33) rfl))) Via.refl e114 fc35_5 (g := (mkF m 210 #[.val (.ref a), .val (.int (Int32.ofNat G)), .val (.int (Int32.ofNat F)), .val (.int (Int32.ofNat T)), .val (.ref b15), .val (.int (Int32.ofNat i)), .val (.int ((fun j => Int32.ofNat (pk j)) i)), .val (.int ((fun g => own_enc (cq g)) (pk i)))] [(.ref a)])) rfl rfl (hb hby d_prog_70_method_1_210)
              refine Go.st st116 ?_
              show Go p e below P (T116.setTop (mkF m 213 #[.val (.ref a), .val (.int (Int32.ofNat G)), .val (.int (Int32.ofNat F)), .val (.int (Int32.ofNat T)), .val (.ref b15), .val (.int (Int32.ofNat i)), .val (.int ((fun j => Int32.ofNat (pk j)) i)), .val (.int ((fun g => own_enc (cq g)) (pk i)))] [(.ref b21)]))
              refine Go.st (fun _ kt => XS.iload X116.here hx rfl (hb hby d_prog_70_method_1_213) rfl (XS.iload X116.here hx rfl (hb hby d_prog_70_method_1_215) rfl kt)) ?_
              show Go p e below P (T116.setTop (mkF m 217 #[.val (.ref a), .val (.int (Int32.ofNat G)), .val (.int (Int32.ofNat F)), .val (.int (Int32.ofNat T)), .val (.ref b15), .val (.int (Int32.ofNat i)), .val (.int ((fun j => Int32.ofNat (pk j)) i)), .val (.int ((fun g => own_enc (cq g)) (pk i)))] [(.int (Int32.ofNat i)), (.int ((fun j => Int32.ofNat (pk j)) i)), (.ref b21)]))
              obtain ⟨T117, h117, X117, e117, W117, V117, st117⟩ := aryStI X116 hx hZ e116 fc35_7 (j := ((fun j => Int32.ofNat (pk j)) i)) (x := (Int32.ofNat i)) (i := (pk i)) (isN_ofNat (by omega)) hpi (g := (mkF m 217 #[.val (.ref a), .val (.int (Int32.ofNat G)), .val (.int (Int32.ofNat F)), .val (.int (Int32.ofNat T)), .val (.ref b15), .val (.int (Int32.ofNat i)), .val (.int ((fun j => Int32.ofNat (pk j)) i)), .val (.int ((fun g => own_enc (cq g)) (pk i)))] [(.int (Int32.ofNat i)), (.int ((fun j => Int32.ofNat (pk j)) i)), (.ref b21)])) rfl rfl (hb hby d_prog_70_method_1_217)
              have Z118 : n0 ≤ h117.size := by rw [W117.size]; exact Z35
              have N119 := Fr.snoc X117 N114 G21
              refine Go.st st117 ?_
              show Go p e below P (T117.setTop (mkF m 218 #[.val (.ref a), .val (.int (Int32.ofNat G)), .val (.int (Int32.ofNat F)), .val (.int (Int32.ofNat T)), .val (.ref b15), .val (.int (Int32.ofNat i)), .val (.int ((fun j => Int32.ofNat (pk j)) i)), .val (.int ((fun g => own_enc (cq g)) (pk i)))] []))
              refine Go.st (fun _ kt => XS.iinc X117.here hx rfl (hb hby d_prog_70_method_1_218) rfl (l' := #[.val (.ref a), .val (.int (Int32.ofNat G)), .val (.int (Int32.ofNat F)), .val (.int (Int32.ofNat T)), .val (.ref b15), .val (.int ((Int32.ofNat i) + (1 : Int32))), .val (.int ((fun j => Int32.ofNat (pk j)) i)), .val (.int ((fun g => own_enc (cq g)) (pk i)))]) rfl (XS.goto X117.here hx rfl (pc0 := 221) (pc' := 137) rfl (hb hby d_prog_70_method_1_221) (by decide) (by decide) kt)) ?_
              show Go p e below P (T117.setTop (mkF m 137 #[.val (.ref a), .val (.int (Int32.ofNat G)), .val (.int (Int32.ofNat F)), .val (.int (Int32.ofNat T)), .val (.ref b15), .val (.int ((Int32.ofNat i) + (1 : Int32))), .val (.int ((fun j => Int32.ofNat (pk j)) i)), .val (.int ((fun g => own_enc (cq g)) (pk i)))] []))
              rw [own_succ]
              have f120 := (fc35_0.wr W117)
              have f121 := (fc35_1.other W117 (Or.inl ne22))
              have f122 := (fc35_2.other W117 (Or.inl ne22))
              have f123 := (fc35_3.other W117 (Or.inl ne22))
              have f124 := (fc35_4.other W117 (Or.inl ne22))
              have f125 := (fc35_5.other W117 (Or.inl ne22))
              have f126 := (fc35_6.other W117 ne23)
              exact ih35  _ _ (i + 1) (updN cq (pk i) (some i)) _ _ (X117.more (by decide) (by decide)) N119 (by rw [e117]; exact Z118) (by rw [e117]; exact f120) (by rw [e117]; exact f121) (by rw [e117]; exact f122) (by rw [e117]; exact f123) (by rw [e117]; exact f124) (by rw [e117]; exact f125) (by rw [e117]; exact f126) (by rw [e117]; exact (Ary.congr (f' := fun g => own_enc (updN cq (pk i) (some i) g)) V117 (fun g hg => by
                  by_cases e : g = pk i
                  · subst e; rw [updN_hit, updN_hit]; rfl
                  · rw [updN_miss e, updN_miss e]))) (by omega) (fun g j q => by
                  by_cases e : g = pk i
                  · subst e; rw [updN_hit] at q; cases q; exact ⟨by omega, rfl⟩
                  · rw [updN_miss e] at q; exact hc g j q) (Or.inr ⟨_, rfl, rfl⟩) (Or.inr ⟨_, rfl, rfl⟩)
            · refine Go.st (fun _ kt => XS.icmpNo X114.here hx rfl (hb hby d_prog_70_method_1_180) rfl (flt br115).2.2.1 kt) ?_
              show Go p e below P (T114.setTop (mkF m 183 #[.val (.ref a), .val (.int (Int32.ofNat G)), .val (.int (Int32.ofNat F)), .val (.int (Int32.ofNat T)), .val (.ref b15), .val (.int (Int32.ofNat i)), .val (.int ((fun j => Int32.ofNat (pk j)) i)), .val (.int ((fun g => own_enc (cq g)) (pk i)))] []))
              refine Go.st (fun _ kt => XS.aloadN X114.here hx rfl (hb hby d_prog_70_method_1_183) rfl rfl (XS.iload X114.here hx rfl (hb hby d_prog_70_method_1_184) rfl (XS.iload X114.here hx rfl (hb hby d_prog_70_method_1_186) rfl kt))) ?_
              show Go p e below P (T114.setTop (mkF m 188 #[.val (.ref a), .val (.int (Int32.ofNat G)), .val (.int (Int32.ofNat F)), .val (.int (Int32.ofNat T)), .val (.ref b15), .val (.int (Int32.ofNat i)), .val (.int ((fun j => Int32.ofNat (pk j)) i)), .val (.int ((fun g => own_enc (cq g)) (pk i)))] [(.int ((fun j => Int32.ofNat (pk j)) i)), (.int (Int32.ofNat i)), (.ref a)]))
              obtain ⟨_, T127, Lc127, X127, ⟨r127, rfl, Nq127, eq127⟩, st127⟩ := callCp X114 hx hZ e114 (y := (⟨"io/sluicegate/runtime/KeyGroupPlan", "shared", "(II)I"⟩ : MethodName)) (a := a) (argsL := [(.int (Int32.ofNat i)), (.int ((fun j => Int32.ofNat (pk j)) i))]) (rest := []) hown (hw _ (List.mem_of_getElem? (i := 50) rfl)) (hw _ (List.mem_of_getElem? (i := 51) rfl)) (hw _ (List.mem_of_getElem? (i := 52) rfl)) (hw _ (List.mem_of_getElem? (i := 2) rfl)) (hw _ (List.mem_of_getElem? (i := 3) rfl)) (hw _ (List.mem_of_getElem? (i := 53) rfl)) (by decide) fc35_0 (rmS l Z a0 hw a ((Int32.ofNat i)) (((fun j => Int32.ofNat (pk j)) i)) _ _ _ _ n0 Z35 fc35_0 fc35_1 fc35_2 fc35_3 (own_nz64 (by omega) (by omega)) (own_nz64 (by omega) (by omega))) (W := 0) (by decide) (by decide) (g := (mkF m 188 #[.val (.ref a), .val (.int (Int32.ofNat G)), .val (.int (Int32.ofNat F)), .val (.int (Int32.ofNat T)), .val (.ref b15), .val (.int (Int32.ofNat i)), .val (.int ((fun j => Int32.ofNat (pk j)) i)), .val (.int ((fun g => own_enc (cq g)) (pk i)))] [(.int ((fun j => Int32.ofNat (pk j)) i)), (.int (Int32.ofNat i)), (.ref a)])) rfl (by rw [hml]; rfl) (lenOf pd_3 rfl) rfl (by show 2 * 0 + _ ≤ _; exact Nat.le_of_eq rfl) (hb hby d_prog_70_method_1_188) (by decide) (by decide)
              have N127 := Fr.app N114 Nq127
              have e127 : T127.heap = T35.heap := eq127
              refine Go.st st127 ?_
              show Go p e below P (T127.setTop (mkF m 191 #[.val (.ref a), .val (.int (Int32.ofNat G)), .val (.int (Int32.ofNat F)), .val (.int (Int32.ofNat T)), .val (.ref b15), .val (.int (Int32.ofNat i)), .val (.int ((fun j => Int32.ofNat (pk j)) i)), .val (.int ((fun g => own_enc (cq g)) (pk i)))] [(.int r127)]))
              refine Go.st (fun _ kt => XS.aloadN X127.here hx rfl (hb hby d_prog_70_method_1_191) rfl rfl (XS.iload X127.here hx rfl (hb hby d_prog_70_method_1_192) rfl (XS.iload X127.here hx rfl (hb hby d_prog_70_method_1_194) rfl kt))) ?_
              show Go p e below P (T127.setTop (mkF m 196 #[.val (.ref a), .val (.int (Int32.ofNat G)), .val (.int (Int32.ofNat F)), .val (.int (Int32.ofNat T)), .val (.ref b15), .val (.int (Int32.ofNat i)), .val (.int ((fun j => Int32.ofNat (pk j)) i)), .val (.int ((fun g => own_enc (cq g)) (pk i)))] [(.int ((fun j => Int32.ofNat (pk j)) i)), (.int ((fun g => own_enc (cq g)) (pk i))), (.ref a), (.int r127)]))
              obtain ⟨_, T128, Lc128, X128, ⟨r128, rfl, Nq128, eq128⟩, st128⟩ := callCp X127 hx hZ e127 (y := (⟨"io/sluicegate/runtime/KeyGroupPlan", "shared", "(II)I"⟩ : MethodName)) (a := a) (argsL := [(.int ((fun g => own_enc (cq g)) (pk i))), (.int ((fun j => Int32.ofNat (pk j)) i))]) (rest := [(.int r127)]) hown (hw _ (List.mem_of_getElem? (i := 50) rfl)) (hw _ (List.mem_of_getElem? (i := 51) rfl)) (hw _ (List.mem_of_getElem? (i := 52) rfl)) (hw _ (List.mem_of_getElem? (i := 2) rfl)) (hw _ (List.mem_of_getElem? (i := 3) rfl)) (hw _ (List.mem_of_getElem? (i := 53) rfl)) (by decide) fc35_0 (rmS l Z a0 hw a (((fun g => own_enc (cq g)) (pk i))) (((fun j => Int32.ofNat (pk j)) i)) _ _ _ _ n0 Z35 fc35_0 fc35_1 fc35_2 fc35_3 (own_nz64 (by omega) (by omega)) (own_nz64 (by omega) (by omega))) (W := 1) (by decide) (by decide) (g := (mkF m 196 #[.val (.ref a), .val (.int (Int32.ofNat G)), .val (.int (Int32.ofNat F)), .val (.int (Int32.ofNat T)), .val (.ref b15), .val (.int (Int32.ofNat i)), .val (.int ((fun j => Int32.ofNat (pk j)) i)), .val (.int ((fun g => own_enc (cq g)) (pk i)))] [(.int ((fun j => Int32.ofNat (pk j)) i)), (.int ((fun g => own_enc (cq g)) (pk i))), (.ref a), (.int r127)])) rfl (by rw [hml]; rfl) (lenOf pd_3 rfl) rfl (by show 2 * 0 + _ ≤ _; exact Nat.le_of_eq rfl) (hb hby d_prog_70_method_1_196) (by decide) (by decide)
              have N128 := Fr.app N127 Nq128
              have e128 : T128.heap = T35.heap := eq128
              refine Go.st st128 ?_
              show Go p e below P (T128.setTop (mkF m 199 #[.val (.ref a), .val (.int (Int32.ofNat G)), .val (.int (Int32.ofNat F)), .val (.int (Int32.ofNat T)), .val (.ref b15), .val (.int (Int32.ofNat i)), .val (.int ((fun j => Int32.ofNat (pk j)) i)), .val (.int ((fun g => own_enc (cq g)) (pk i)))] [(.int r128), (.int r127)]))
              by_cases br129 : r127 = r128
              · refine Go.st (fun _ kt => XS.icmpNo X128.here hx rfl (hb hby d_prog_70_method_1_199) rfl (teq br129).2 kt) ?_
                show Go p e below P (T128.setTop (mkF m 202 #[.val (.ref a), .val (.int (Int32.ofNat G)), .val (.int (Int32.ofNat F)), .val (.int (Int32.ofNat T)), .val (.ref b15), .val (.int (Int32.ofNat i)), .val (.int ((fun j => Int32.ofNat (pk j)) i)), .val (.int ((fun g => own_enc (cq g)) (pk i)))] []))
                refine Go.st (fun _ kt => XS.iload X128.here hx rfl (hb hby d_prog_70_method_1_202) rfl (XS.iload X128.here hx rfl (hb hby d_prog_70_method_1_204) rfl kt)) ?_
                show Go p e below P (T128.setTop (mkF m 206 #[.val (.ref a), .val (.int (Int32.ofNat G)), .val (.int (Int32.ofNat F)), .val (.int (Int32.ofNat T)), .val (.ref b15), .val (.int (Int32.ofNat i)), .val (.int ((fun j => Int32.ofNat (pk j)) i)), .val (.int ((fun g => own_enc (cq g)) (pk i)))] [(.int ((fun j => Int32.ofNat (pk j)) i)), (.int (Int32.ofNat i))]))
                by_cases br130 : (Int32.ofNat i) = ((fun j => Int32.ofNat (pk j)) i)
                · refine Go.st (fun _ kt => XS.icmpNo X128.here hx rfl (hb hby d_prog_70_method_1_206) rfl (teq br130).2 kt) ?_
                  show Go p e below P (T128.setTop (mkF m 209 #[.val (.ref a), .val (.int (Int32.ofNat G)), .val (.int (Int32.ofNat F)), .val (.int (Int32.ofNat T)), .val (.ref b15), .val (.int (Int32.ofNat i)), .val (.int ((fun j => Int32.ofNat (pk j)) i)), .val (.int ((fun g => own_enc (cq g)) (pk i)))] []))
                  refine Go.st (fun _ kt => XS.aloadN X128.here hx rfl (hb hby d_prog_70_method_1_209) rfl rfl kt) ?_
                  show Go p e below P (T128.setTop (mkF m 210 #[.val (.ref a), .val (.int (Int32.ofNat G)), .val (.int (Int32.ofNat F)), .val (.int (Int32.ofNat T)), .val (.ref b15), .val (.int (Int32.ofNat i)), .val (.int ((fun j => Int32.ofNat (pk j)) i)), .val (.int ((fun g => own_enc (cq g)) (pk i)))] [(.ref a)]))
                  obtain ⟨T131, X131, e131, st131⟩ := getF X128 hx hZ hown (host := "") (Or.inl (hw _ (List.mem_of_getElem? (i := 33) rfl))) Via.refl e128 fc35_5 (g := (mkF m 210 #[.val (.ref a), .val (.int (Int32.ofNat G)), .val (.int (Int32.ofNat F)), .val (.int (Int32.ofNat T)), .val (.ref b15), .val (.int (Int32.ofNat i)), .val (.int ((fun j => Int32.ofNat (pk j)) i)), .val (.int ((fun g => own_enc (cq g)) (pk i)))] [(.ref a)])) rfl rfl (hb hby d_prog_70_method_1_210)
                  refine Go.st st131 ?_
                  show Go p e below P (T131.setTop (mkF m 213 #[.val (.ref a), .val (.int (Int32.ofNat G)), .val (.int (Int32.ofNat F)), .val (.int (Int32.ofNat T)), .val (.ref b15), .val (.int (Int32.ofNat i)), .val (.int ((fun j => Int32.ofNat (pk j)) i)), .val (.int ((fun g => own_enc (cq g)) (pk i)))] [(.ref b21)]))
                  refine Go.st (fun _ kt => XS.iload X131.here hx rfl (hb hby d_prog_70_method_1_213) rfl (XS.iload X131.here hx rfl (hb hby d_prog_70_method_1_215) rfl kt)) ?_
                  show Go p e below P (T131.setTop (mkF m 217 #[.val (.ref a), .val (.int (Int32.ofNat G)), .val (.int (Int32.ofNat F)), .val (.int (Int32.ofNat T)), .val (.ref b15), .val (.int (Int32.ofNat i)), .val (.int ((fun j => Int32.ofNat (pk j)) i)), .val (.int ((fun g => own_enc (cq g)) (pk i)))] [(.int (Int32.ofNat i)), (.int ((fun j => Int32.ofNat (pk j)) i)), (.ref b21)]))
                  obtain ⟨T132, h132, X132, e132, W132, V132, st132⟩ := aryStI X131 hx hZ e131 fc35_7 (j := ((fun j => Int32.ofNat (pk j)) i)) (x := (Int32.ofNat i)) (i := (pk i)) (isN_ofNat (by omega)) hpi (g := (mkF m 217 #[.val (.ref a), .val (.int (Int32.ofNat G)), .val (.int (Int32.ofNat F)), .val (.int (Int32.ofNat T)), .val (.ref b15), .val (.int (Int32.ofNat i)), .val (.int ((fun j => Int32.ofNat (pk j)) i)), .val (.int ((fun g => own_enc (cq g)) (pk i)))] [(.int (Int32.ofNat i)), (.int ((fun j => Int32.ofNat (pk j)) i)), (.ref b21)])) rfl rfl (hb hby d_prog_70_method_1_217)
                  have Z133 : n0 ≤ h132.size := by rw [W132.size]; exact Z35
                  have N134 := Fr.snoc X132 N128 G21
                  refine Go.st st132 ?_
                  show Go p e below P (T132.setTop (mkF m 218 #[.val (.ref a), .val (.int (Int32.ofNat G)), .val (.int (Int32.ofNat F)), .val (.int (Int32.ofNat T)), .val (.ref b15), .val (.int (Int32.ofNat i)), .val (.int ((fun j => Int32.ofNat (pk j)) i)), .val (.int ((fun g => own_enc (cq g)) (pk i)))] []))
                  refine Go.st (fun _ kt => XS.iinc X132.here hx rfl (hb hby d_prog_70_method_1_218) rfl (l' := #[.val (.ref a), .val (.int (Int32.ofNat G)), .val (.int (Int32.ofNat F)), .val (.int (Int32.ofNat T)), .val (.ref b15), .val (.int ((Int32.ofNat i) + (1 : Int32))), .val (.int ((fun j => Int32.ofNat (pk j)) i)), .val (.int ((fun g => own_enc (cq g)) (pk i)))]) rfl (XS.goto X132.here hx rfl (pc0 := 221) (pc' := 137) rfl (hb hby d_prog_70_method_1_221) (by decide) (by decide) kt)) ?_
                  show Go p e below P (T132.setTop (mkF m 137 #[.val (.ref a), .val (.int (Int32.ofNat G)), .val (.int (Int32.ofNat F)), .val (.int (Int32.ofNat T)), .val (.ref b15), .val (.int ((Int32.ofNat i) + (1 : Int32))), .val (.int ((fun j => Int32.ofNat (pk j)) i)), .val (.int ((fun g => own_enc (cq g)) (pk i)))] []))
                  rw [own_succ]
                  have f135 := (fc35_0.wr W132)
                  have f136 := (fc35_1.other W132 (Or.inl ne22))
                  have f137 := (fc35_2.other W132 (Or.inl ne22))
                  have f138 := (fc35_3.other W132 (Or.inl ne22))
                  have f139 := (fc35_4.other W132 (Or.inl ne22))
                  have f140 := (fc35_5.other W132 (Or.inl ne22))
                  have f141 := (fc35_6.other W132 ne23)
                  exact ih35  _ _ (i + 1) (updN cq (pk i) (some i)) _ _ (X132.more (by decide) (by decide)) N134 (by rw [e132]; exact Z133) (by rw [e132]; exact f135) (by rw [e132]; exact f136) (by rw [e132]; exact f137) (by rw [e132]; exact f138) (by rw [e132]; exact f139) (by rw [e132]; exact f140) (by rw [e132]; exact f141) (by rw [e132]; exact (Ary.congr (f' := fun g => own_enc (updN cq (pk i) (some i) g)) V132 (fun g hg => by
                      by_cases e : g = pk i
                      · subst e; rw [updN_hit, updN_hit]; rfl
                      · rw [updN_miss e, updN_miss e]))) (by omega) (fun g j q => by
                      by_cases e : g = pk i
                      · subst e; rw [updN_hit] at q; cases q; exact ⟨by omega, rfl⟩
                      · rw [updN_miss e] at q; exact hc g j q) (Or.inr ⟨_, rfl, rfl⟩) (Or.inr ⟨_, rfl, rfl⟩)
                · refine Go.st (fun _ kt => XS.icmpYes X128.here hx rfl (pc0 := 206) (pc' := 218) rfl (hb hby d_prog_70_method_1_206) rfl (feq br130).2 (by decide) (by decide) kt) ?_
                  show Go p e below P (T128.setTop (mkF m 218 #[.val (.ref a), .val (.int (Int32.ofNat G)), .val (.int (Int32.ofNat F)), .val (.int (Int32.ofNat T)), .val (.ref b15), .val (.int (Int32.ofNat i)), .val (.int ((fun j => Int32.ofNat (pk j)) i)), .val (.int ((fun g => own_enc (cq g)) (pk i)))] []))
                  refine Go.st (fun _ kt => XS.iinc X128.here hx rfl (hb hby d_prog_70_method_1_218) rfl (l' := #[.val (.ref a), .val (.int (Int32.ofNat G)), .val (.int (Int32.ofNat F)), .val (.int (Int32.ofNat T)), .val (.ref b15), .val (.int ((Int32.ofNat i) + (1 : Int32))), .val (.int ((fun j => Int32.ofNat (pk j)) i)), .val (.int ((fun g => own_enc (cq g)) (pk i)))]) rfl (XS.goto X128.here hx rfl (pc0 := 221) (pc' := 137) rfl (hb hby d_prog_70_method_1_221) (by decide) (by decide) kt)) ?_
                  show Go p e below P (T128.setTop (mkF m 137 #[.val (.ref a), .val (.int (Int32.ofNat G)), .val (.int (Int32.ofNat F)), .val (.int (Int32.ofNat T)), .val (.ref b15), .val (.int ((Int32.ofNat i) + (1 : Int32))), .val (.int ((fun j => Int32.ofNat (pk j)) i)), .val (.int ((fun g => own_enc (cq g)) (pk i)))] []))
                  rw [own_succ]
                  exact ih35  _ _ (i + 1) cq _ _ (X128.more (by decide) (by decide)) N128 (by rw [e128]; exact Z35) (by rw [e128]; exact fc35_0) (by rw [e128]; exact fc35_1) (by rw [e128]; exact fc35_2) (by rw [e128]; exact fc35_3) (by rw [e128]; exact fc35_4) (by rw [e128]; exact fc35_5) (by rw [e128]; exact fc35_6) (by rw [e128]; exact fc35_7) (by omega) hc (Or.inr ⟨_, rfl, rfl⟩) (Or.inr ⟨_, rfl, rfl⟩)
              · refine Go.st (fun _ kt => XS.icmpYes X128.here hx rfl (pc0 := 199) (pc' := 218) rfl (hb hby d_prog_70_method_1_199) rfl (feq br129).2 (by decide) (by decide) kt) ?_
                show Go p e below P (T128.setTop (mkF m 218 #[.val (.ref a), .val (.int (Int32.ofNat G)), .val (.int (Int32.ofNat F)), .val (.int (Int32.ofNat T)), .val (.ref b15), .val (.int (Int32.ofNat i)), .val (.int ((fun j => Int32.ofNat (pk j)) i)), .val (.int ((fun g => own_enc (cq g)) (pk i)))] []))
                refine Go.st (fun _ kt => XS.iinc X128.here hx rfl (hb hby d_prog_70_method_1_218) rfl (l' := #[.val (.ref a), .val (.int (Int32.ofNat G)), .val (.int (Int32.ofNat F)), .val (.int (Int32.ofNat T)), .val (.ref b15), .val (.int ((Int32.ofNat i) + (1 : Int32))), .val (.int ((fun j => Int32.ofNat (pk j)) i)), .val (.int ((fun g => own_enc (cq g)) (pk i)))]) rfl (XS.goto X128.here hx rfl (pc0 := 221) (pc' := 137) rfl (hb hby d_prog_70_method_1_221) (by decide) (by decide) kt)) ?_
                show Go p e below P (T128.setTop (mkF m 137 #[.val (.ref a), .val (.int (Int32.ofNat G)), .val (.int (Int32.ofNat F)), .val (.int (Int32.ofNat T)), .val (.ref b15), .val (.int ((Int32.ofNat i) + (1 : Int32))), .val (.int ((fun j => Int32.ofNat (pk j)) i)), .val (.int ((fun g => own_enc (cq g)) (pk i)))] []))
                rw [own_succ]
                exact ih35  _ _ (i + 1) cq _ _ (X128.more (by decide) (by decide)) N128 (by rw [e128]; exact Z35) (by rw [e128]; exact fc35_0) (by rw [e128]; exact fc35_1) (by rw [e128]; exact fc35_2) (by rw [e128]; exact fc35_3) (by rw [e128]; exact fc35_4) (by rw [e128]; exact fc35_5) (by rw [e128]; exact fc35_6) (by rw [e128]; exact fc35_7) (by omega) hc (Or.inr ⟨_, rfl, rfl⟩) (Or.inr ⟨_, rfl, rfl⟩)
      have f142 := ((f27.wr W25).keep K31)
      have f143 := (((fc20_1.ext E21).other W25 (Or.inr (slot_ne (Or.inr (hw _ (List.mem_of_getElem? (i := 11) rfl))) (Or.inr (hw _ (List.mem_of_getElem? (i := 34) rfl))) (by decide) (t := .int) (t' := (.array .int)) (by decide) (by decide)))).keep K31 (ninS ne22 nin0))
      have f144 := (((fc20_2.ext E21).other W25 (Or.inr (slot_ne (Or.inr (hw _ (List.mem_of_getElem? (i := 13) rfl))) (Or.inr (hw _ (List.mem_of_getElem? (i := 34) rfl))) (by decide) (t := .int) (t' := (.array .int)) (by decide) (by decide)))).keep K31 (ninS ne22 nin0))
      have f145 := (((fc20_3.ext E21).other W25 (Or.inr (slot_ne (Or.inr (hw _ (List.mem_of_getElem? (i := 15) rfl))) (Or.inr (hw _ (List.mem_of_getElem? (i := 34) rfl))) (by decide) (t := .int) (t' := (.array .int)) (by decide) (by decide)))).keep K31 (ninS ne22 nin0))
      have f146 := (((fc20_4.ext E21).other W25 (Or.inr (slot_ne (Or.inr (hw _ (List.mem_of_getElem? (i := 40) rfl))) (Or.inr (hw _ (List.mem_of_getElem? (i := 34) rfl))) (by decide) (t := (.array .int)) (t' := (.array .int)) (by decide) (by decide)))).keep K31 (ninS ne22 nin0))
      have f147 := (Fw25.keep K31 (ninS ne22 nin0))
      have f148 := (((fc20_6.ext E21).other W25 (Ne.symm ne16)).keep K31 (ninS ne23 nin0))
      exact loop34 F _ _ 0 (fun _ => none) _ _ (X31.more (by decide) (by decide)) N31 Z33 f142 f143 f144 f145 f146 f147 f148 (Ary.congr (f' := fun g => own_enc ((fun _ => none : Nat → Option Nat) g)) Vf31 (fun j hj => rfl)) (by omega) (fun g j q => by cases q) (Or.inl rfl) (Or.inl rfl)
    | succ d ih20 =>
      intro T20 Lk20 i pk X20 N20 Z20 fc20_0 fc20_1 fc20_2 fc20_3 fc20_4 fc20_5 fc20_6 hid hpk
      show Go p e below P (T20.setTop (mkF m 68 #[.val (.ref a), .val (.int (Int32.ofNat G)), .val (.int (Int32.ofNat F)), .val (.int (Int32.ofNat T)), .val (.ref b15), .val (.int (Int32.ofNat i)), .unset, .unset] []))
      have hgeo := own_geo (i := i) hF1 hFG hT1 hTG (by omega)
      refine Go.st (fun _ kt => XS.iload X20.here hx rfl (hb hby d_prog_70_method_1_68) rfl (XS.iloadN X20.here hx rfl (hb hby d_prog_70_method_1_70) rfl (XS.icmpNo X20.here hx rfl (hb hby d_prog_70_method_1_71) rfl (tlt ((own_ltN (by omega) (by omega)).mpr (by omega))).2.1 (XS.aload X20.here hx rfl (hb hby d_prog_70_method_1_74) rfl rfl (XS.iload X20.here hx rfl (hb hby d_prog_70_method_1_76) rfl (XS.aloadN X20.here hx rfl (hb hby d_prog_70_method_1_78) rfl rfl (XS.iload X20.here hx rfl (hb hby d_prog_70_method_1_79) rfl (XS.aloadN X20.here hx rfl (hb hby d_prog_70_method_1_81) rfl rfl kt)))))))) ?_
      show Go p e below P (T20.setTop (mkF m 82 #[.val (.ref a), .val (.int (Int32.ofNat G)), .val (.int (Int32.ofNat F)), .val (.int (Int32.ofNat T)), .val (.ref b15), .val (.int (Int32.ofNat i)), .unset, .unset] [(.ref a), (.int (Int32.ofNat i)), (.ref a), (.int (Int32.ofNat i)), (.ref b15)]))
      refine Go.st (fun _ kt => XS.aloadN X20.here hx rfl (hb hby d_prog_70_method_1_82) rfl rfl (XS.iload X20.here hx rfl (hb hby d_prog_70_method_1_83) rfl (XS.iloadN X20.here hx rfl (hb hby d_prog_70_method_1_85) rfl kt))) ?_
      show Go p e below P (T20.setTop (mkF m 86 #[.val (.ref a), .val (.int (Int32.ofNat G)), .val (.int (Int32.ofNat F)), .val (.int (Int32.ofNat T)), .val (.ref b15), .val (.int (Int32.ofNat i)), .unset, .unset] [(.int (Int32.ofNat F)), (.int (Int32.ofNat i)), (.ref a), (.ref a), (.int (Int32.ofNat i)), (.ref a), (.int (Int32.ofNat i)), (.ref b15)]))
      obtain ⟨_, T149, Lc149, X149, ⟨rfl, Nq149, eq149⟩, st149⟩ := callCp X20 hx hZ rfl (y := (⟨"io/sluicegate/runtime/KeyGroupPlan", "first", "(II)I"⟩ : MethodName)) (a := a) (argsL := [(.int (Int32.ofNat i)), (.int (Int32.ofNat F))]) (rest := [(.ref a), (.int (Int32.ofNat i)), (.ref a), (.int (Int32.ofNat i)), (.ref b15)]) hown (hw _ (List.mem_of_getElem? (i := 17) rfl)) (hw _ (List.mem_of_getElem? (i := 18) rfl)) (hw _ (List.mem_of_getElem? (i := 19) rfl)) (hw _ (List.mem_of_getElem? (i := 2) rfl)) (hw _ (List.mem_of_getElem? (i := 3) rfl)) (hw _ (List.mem_of_getElem? (i := 20) rfl)) (by decide) fc20_0 (rmF l Z a0 hw a (Int32.ofNat i) (Int32.ofNat F) _ _ n0 Z20 fc20_1 (own_nz64 (by omega) (by omega))) (W := 5) (by decide) (by decide) (g := (mkF m 86 #[.val (.ref a), .val (.int (Int32.ofNat G)), .val (.int (Int32.ofNat F)), .val (.int (Int32.ofNat T)), .val (.ref b15), .val (.int (Int32.ofNat i)), .unset, .unset] [(.int (Int32.ofNat F)), (.int (Int32.ofNat i)), (.ref a), (.ref a), (.int (Int32.ofNat i)), (.ref a), (.int (Int32.ofNat i)), (.ref b15)])) rfl (by rw [hml]; rfl) (lenOf pd_3 rfl) rfl (by show 2 * 0 + _ ≤ _; exact Nat.le_of_eq rfl) (hb hby d_prog_70_method_1_86) (by decide) (by decide)
      have N149 := Fr.app N20 Nq149
      have e149 : T149.heap = T20.heap := eq149
      refine Go.st st149 ?_
      rw [own_first (i := i) (G := G) (n := F) (by omega) (by omega) (by omega) (by omega) (by omega)]
      show Go p e below P (T149.setTop (mkF m 89 #[.val (.ref a), .val (.int (Int32.ofNat G)), .val (.int (Int32.ofNat F)), .val (.int (Int32.ofNat T)), .val (.ref b15), .val (.int (Int32.ofNat i)), .unset, .unset] [(.int (Int32.ofNat (i * G / F))), (.ref a), (.int (Int32.ofNat i)), (.ref a), (.int (Int32.ofNat i)), (.ref b15)]))
      refine Go.st (fun _ kt => XS.iloadN X149.here hx rfl (hb hby d_prog_70_method_1_89) rfl kt) ?_
      show Go p e below P (T149.setTop (mkF m 90 #[.val (.ref a), .val (.int (Int32.ofNat G)), .val (.int (Int32.ofNat F)), .val (.int (Int32.ofNat T)), .val (.ref b15), .val (.int (Int32.ofNat i)), .unset, .unset] [(.int (Int32.ofNat T)), (.int (Int32.ofNat (i * G / F))), (.ref a), (.int (Int32.ofNat i)), (.ref a), (.int (Int32.ofNat i)), (.ref b15)]))
      obtain ⟨_, T150, Lc150, X150, ⟨rfl, Nq150, eq150⟩, st150⟩ := callCp X149 hx hZ e149 (y := (⟨"io/sluicegate/runtime/KeyGroupPlan", "owner", "(II)I"⟩ : MethodName)) (a := a) (argsL := [(.int (Int32.ofNat (i * G / F))), (.int (Int32.ofNat T))]) (rest := [(.int (Int32.ofNat i)), (.ref a), (.int (Int32.ofNat i)), (.ref b15)]) hown (hw _ (List.mem_of_getElem? (i := 21) rfl)) (hw _ (List.mem_of_getElem? (i := 22) rfl)) (hw _ (List.mem_of_getElem? (i := 23) rfl)) (hw _ (List.mem_of_getElem? (i := 2) rfl)) (hw _ (List.mem_of_getElem? (i := 3) rfl)) (hw _ (List.mem_of_getElem? (i := 24) rfl)) (by decide) fc20_0 (rmO l Z a0 hw a (Int32.ofNat (i * G / F)) (Int32.ofNat T) _ _ n0 Z20 fc20_1 (own_nz64 (by omega) (by omega))) (W := 4) (by decide) (by decide) (g := (mkF m 90 #[.val (.ref a), .val (.int (Int32.ofNat G)), .val (.int (Int32.ofNat F)), .val (.int (Int32.ofNat T)), .val (.ref b15), .val (.int (Int32.ofNat i)), .unset, .unset] [(.int (Int32.ofNat T)), (.int (Int32.ofNat (i * G / F))), (.ref a), (.int (Int32.ofNat i)), (.ref a), (.int (Int32.ofNat i)), (.ref b15)])) rfl (by rw [hml]; rfl) (lenOf pd_3 rfl) rfl (by show 2 * 0 + _ ≤ _; exact Nat.le_of_eq rfl) (hb hby d_prog_70_method_1_90) (by decide) (by decide)
      have N150 := Fr.app N149 Nq150
      have e150 : T150.heap = T20.heap := eq150
      refine Go.st st150 ?_
      rw [own_owner (g := (i * G / F)) (G := G) (n := T) (by omega) (by omega) (by omega) (by omega) (by omega) (by omega)]
      show Go p e below P (T150.setTop (mkF m 93 #[.val (.ref a), .val (.int (Int32.ofNat G)), .val (.int (Int32.ofNat F)), .val (.int (Int32.ofNat T)), .val (.ref b15), .val (.int (Int32.ofNat i)), .unset, .unset] [(.int (Int32.ofNat (((i * G / F) * T + T - 1) / G))), (.int (Int32.ofNat i)), (.ref a), (.int (Int32.ofNat i)), (.ref b15)]))
      refine Go.st (fun _ kt => XS.aloadN X150.here hx rfl (hb hby d_prog_70_method_1_93) rfl rfl (XS.aloadN X150.here hx rfl (hb hby d_prog_70_method_1_94) rfl rfl (XS.iload X150.here hx rfl (hb hby d_prog_70_method_1_95) rfl (XS.iconst X150.here hx rfl (hb hby d_prog_70_method_1_97) (XS.iadd X150.here hx rfl (hb hby d_prog_70_method_1_98) rfl kt))))) ?_
      show Go p e below P (T150.setTop (mkF m 99 #[.val (.ref a), .val (.int (Int32.ofNat G)), .val (.int (Int32.ofNat F)), .val (.int (Int32.ofNat T)), .val (.ref b15), .val (.int (Int32.ofNat i)), .unset, .unset] [(.int ((Int32.ofNat i) + (1 : Int32))), (.ref a), (.ref a), (.int (Int32.ofNat (((i * G / F) * T + T - 1) / G))), (.int (Int32.ofNat i)), (.ref a), (.int (Int32.ofNat i)), (.ref b15)]))
      rw [own_succ]
      show Go p e below P (T150.setTop (mkF m 99 #[.val (.ref a), .val (.int (Int32.ofNat G)), .val (.int (Int32.ofNat F)), .val (.int (Int32.ofNat T)), .val (.ref b15), .val (.int (Int32.ofNat i)), .unset, .unset] [(.int (Int32.ofNat (i + 1))), (.ref a), (.ref a), (.int (Int32.ofNat (((i * G / F) * T + T - 1) / G))), (.int (Int32.ofNat i)), (.ref a), (.int (Int32.ofNat i)), (.ref b15)]))
      refine Go.st (fun _ kt => XS.iloadN X150.here hx rfl (hb hby d_prog_70_method_1_99) rfl kt) ?_
      show Go p e below P (T150.setTop (mkF m 100 #[.val (.ref a), .val (.int (Int32.ofNat G)), .val (.int (Int32.ofNat F)), .val (.int (Int32.ofNat T)), .val (.ref b15), .val (.int (Int32.ofNat i)), .unset, .unset] [(.int (Int32.ofNat F)), (.int (Int32.ofNat (i + 1))), (.ref a), (.ref a), (.int (Int32.ofNat (((i * G / F) * T + T - 1) / G))), (.int (Int32.ofNat i)), (.ref a), (.int (Int32.ofNat i)), (.ref b15)]))
      obtain ⟨_, T151, Lc151, X151, ⟨rfl, Nq151, eq151⟩, st151⟩ := callCp X150 hx hZ e150 (y := (⟨"io/sluicegate/runtime/KeyGroupPlan", "first", "(II)I"⟩ : MethodName)) (a := a) (argsL := [(.int (Int32.ofNat (i + 1))), (.int (Int32.ofNat F))]) (rest := [(.ref a), (.int (Int32.ofNat (((i * G / F) * T + T - 1) / G))), (.int (Int32.ofNat i)), (.ref a), (.int (Int32.ofNat i)), (.ref b15)]) hown (hw _ (List.mem_of_getElem? (i := 17) rfl)) (hw _ (List.mem_of_getElem? (i := 18) rfl)) (hw _ (List.mem_of_getElem? (i := 19) rfl)) (hw _ (List.mem_of_getElem? (i := 2) rfl)) (hw _ (List.mem_of_getElem? (i := 3) rfl)) (hw _ (List.mem_of_getElem? (i := 20) rfl)) (by decide) fc20_0 (rmF l Z a0 hw a (Int32.ofNat (i + 1)) (Int32.ofNat F) _ _ n0 Z20 fc20_1 (own_nz64 (by omega) (by omega))) (W := 6) (by decide) (by decide) (g := (mkF m 100 #[.val (.ref a), .val (.int (Int32.ofNat G)), .val (.int (Int32.ofNat F)), .val (.int (Int32.ofNat T)), .val (.ref b15), .val (.int (Int32.ofNat i)), .unset, .unset] [(.int (Int32.ofNat F)), (.int (Int32.ofNat (i + 1))), (.ref a), (.ref a), (.int (Int32.ofNat (((i * G / F) * T + T - 1) / G))), (.int (Int32.ofNat i)), (.ref a), (.int (Int32.ofNat i)), (.ref b15)])) rfl (by rw [hml]; rfl) (lenOf pd_3 rfl) rfl (by show 2 * 0 + _ ≤ _; exact Nat.le_of_eq rfl) (hb hby d_prog_70_method_1_100) (by decide) (by decide)
      have N151 := Fr.app N150 Nq151
      have e151 : T151.heap = T20.heap := eq151
      refine Go.st st151 ?_
      rw [own_first (i := (i + 1)) (G := G) (n := F) (by omega) (by omega) (by omega) (by omega) (by omega)]
      show Go p e below P (T151.setTop (mkF m 103 #[.val (.ref a), .val (.int (Int32.ofNat G)), .val (.int (Int32.ofNat F)), .val (.int (Int32.ofNat T)), .val (.ref b15), .val (.int (Int32.ofNat i)), .unset, .unset] [(.int (Int32.ofNat ((i + 1) * G / F))), (.ref a), (.int (Int32.ofNat (((i * G / F) * T + T - 1) / G))), (.int (Int32.ofNat i)), (.ref a), (.int (Int32.ofNat i)), (.ref b15)]))
      refine Go.st (fun _ kt => XS.iconst X151.here hx rfl (hb hby d_prog_70_method_1_103) (XS.isub X151.here hx rfl (hb hby d_prog_70_method_1_104) rfl kt)) ?_
      show Go p e below P (T151.setTop (mkF m 105 #[.val (.ref a), .val (.int (Int32.ofNat G)), .val (.int (Int32.ofNat F)), .val (.int (Int32.ofNat T)), .val (.ref b15), .val (.int (Int32.ofNat i)), .unset, .unset] [(.int ((Int32.ofNat ((i + 1) * G / F)) - (1 : Int32))), (.ref a), (.int (Int32.ofNat (((i * G / F) * T + T - 1) / G))), (.int (Int32.ofNat i)), (.ref a), (.int (Int32.ofNat i)), (.ref b15)]))
      rw [own_dn (Nat.le_trans (Nat.le_add_left 1 _) hgeo.1)]
      show Go p e below P (T151.setTop (mkF m 105 #[.val (.ref a), .val (.int (Int32.ofNat G)), .val (.int (Int32.ofNat F)), .val (.int (Int32.ofNat T)), .val (.ref b15), .val (.int (Int32.ofNat i)), .unset, .unset] [(.int (Int32.ofNat ((i + 1) * G / F - 1))), (.ref a), (.int (Int32.ofNat (((i * G / F) * T + T - 1) / G))), (.int (Int32.ofNat i)), (.ref a), (.int (Int32.ofNat i)), (.ref b15)]))
      refine Go.st (fun _ kt => XS.iloadN X151.here hx rfl (hb hby d_prog_70_method_1_105) rfl kt) ?_
      show Go p e below P (T151.setTop (mkF m 106 #[.val (.ref a), .val (.int (Int32.ofNat G)), .val (.int (Int32.ofNat F)), .val (.int (Int32.ofNat T)), .val (.ref b15), .val (.int (Int32.ofNat i)), .unset, .unset] [(.int (Int32.ofNat T)), (.int (Int32.ofNat ((i + 1) * G / F - 1))), (.ref a), (.int (Int32.ofNat (((i * G / F) * T + T - 1) / G))), (.int (Int32.ofNat i)), (.ref a), (.int (Int32.ofNat i)), (.ref b15)]))
      obtain ⟨_, T152, Lc152, X152, ⟨rfl, Nq152, eq152⟩, st152⟩ := callCp X151 hx hZ e151 (y := (⟨"io/sluicegate/runtime/KeyGroupPlan", "owner", "(II)I"⟩ : MethodName)) (a := a) (argsL := [(.int (Int32.ofNat ((i + 1) * G / F - 1))), (.int (Int32.ofNat T))]) (rest := [(.int (Int32.ofNat (((i * G / F) * T + T - 1) / G))), (.int (Int32.ofNat i)), (.ref a), (.int (Int32.ofNat i)), (.ref b15)]) hown (hw _ (List.mem_of_getElem? (i := 21) rfl)) (hw _ (List.mem_of_getElem? (i := 22) rfl)) (hw _ (List.mem_of_getElem? (i := 23) rfl)) (hw _ (List.mem_of_getElem? (i := 2) rfl)) (hw _ (List.mem_of_getElem? (i := 3) rfl)) (hw _ (List.mem_of_getElem? (i := 24) rfl)) (by decide) fc20_0 (rmO l Z a0 hw a (Int32.ofNat ((i + 1) * G / F - 1)) (Int32.ofNat T) _ _ n0 Z20 fc20_1 (own_nz64 (by omega) (by omega))) (W := 5) (by decide) (by decide) (g := (mkF m 106 #[.val (.ref a), .val (.int (Int32.ofNat G)), .val (.int (Int32.ofNat F)), .val (.int (Int32.ofNat T)), .val (.ref b15), .val (.int (Int32.ofNat i)), .unset, .unset] [(.int (Int32.ofNat T)), (.int (Int32.ofNat ((i + 1) * G / F - 1))), (.ref a), (.int (Int32.ofNat (((i * G / F) * T + T - 1) / G))), (.int (Int32.ofNat i)), (.ref a), (.int (Int32.ofNat i)), (.ref b15)])) rfl (by rw [hml]; rfl) (lenOf pd_3 rfl) rfl (by show 2 * 0 + _ ≤ _; exact Nat.le_of_eq rfl) (hb hby d_prog_70_method_1_106) (by decide) (by decide)
      have N152 := Fr.app N151 Nq152
      have e152 : T152.heap = T20.heap := eq152
      refine Go.st st152 ?_
      rw [own_owner (g := ((i + 1) * G / F - 1)) (G := G) (n := T) (by omega) (by omega) (by omega) (by omega) (by omega) (by omega)]
      show Go p e below P (T152.setTop (mkF m 109 #[.val (.ref a), .val (.int (Int32.ofNat G)), .val (.int (Int32.ofNat F)), .val (.int (Int32.ofNat T)), .val (.ref b15), .val (.int (Int32.ofNat i)), .unset, .unset] [(.int (Int32.ofNat ((((i + 1) * G / F - 1) * T + T - 1) / G))), (.int (Int32.ofNat (((i * G / F) * T + T - 1) / G))), (.int (Int32.ofNat i)), (.ref a), (.int (Int32.ofNat i)), (.ref b15)]))
      obtain ⟨_, T153, Lc153, X153, ⟨bb, rfl, hbl, hbh, Nq153, eq153⟩, st153⟩ := callCp X152 hx hZ e152 (y := (⟨"io/sluicegate/runtime/KeyGroupPlan", "best", "(III)I"⟩ : MethodName)) (a := a) (argsL := [(.int (Int32.ofNat i)), (.int (Int32.ofNat (((i * G / F) * T + T - 1) / G))), (.int (Int32.ofNat ((((i + 1) * G / F - 1) * T + T - 1) / G)))]) (rest := [(.int (Int32.ofNat i)), (.ref b15)]) hown (hw _ (List.mem_of_getElem? (i := 29) rfl)) (hw _ (List.mem_of_getElem? (i := 30) rfl)) (hw _ (List.mem_of_getElem? (i := 31) rfl)) (hw _ (List.mem_of_getElem? (i := 2) rfl)) (hw _ (List.mem_of_getElem? (i := 3) rfl)) (hw _ (List.mem_of_getElem? (i := 32) rfl)) (by decide) fc20_0 (rmB l Z a0 hw a (Int32.ofNat i) (Int32.ofNat (((i * G / F) * T + T - 1) / G)) (Int32.ofNat ((((i + 1) * G / F - 1) * T + T - 1) / G)) G F T (((i * G / F) * T + T - 1) / G) ((((i + 1) * G / F - 1) * T + T - 1) / G) _ n0 Z20 fc20_0 fc20_1 fc20_2 fc20_3 hF1 hFG hT1 hTG hG rfl rfl hgeo.2.2.1 hgeo.2.2.2) (W := 2) (by decide) (by decide) (g := (mkF m 109 #[.val (.ref a), .val (.int (Int32.ofNat G)), .val (.int (Int32.ofNat F)), .val (.int (Int32.ofNat T)), .val (.ref b15), .val (.int (Int32.ofNat i)), .unset, .unset] [(.int (Int32.ofNat ((((i + 1) * G / F - 1) * T + T - 1) / G))), (.int (Int32.ofNat (((i * G / F) * T + T - 1) / G))), (.int (Int32.ofNat i)), (.ref a), (.int (Int32.ofNat i)), (.ref b15)])) rfl (by rw [hml]; rfl) (lenOf pd_2 rfl) rfl (by show 2 * 0 + _ ≤ _; exact Nat.le_of_eq rfl) (hb hby d_prog_70_method_1_109) (by decide) (by decide)
      have N153 := Fr.app N152 Nq153
      have e153 : T153.heap = T20.heap := eq153
      refine Go.st st153 ?_
      show Go p e below P (T153.setTop (mkF m 112 #[.val (.ref a), .val (.int (Int32.ofNat G)), .val (.int (Int32.ofNat F)), .val (.int (Int32.ofNat T)), .val (.ref b15), .val (.int (Int32.ofNat i)), .unset, .unset] [(.int (Int32.ofNat bb)), (.int (Int32.ofNat i)), (.ref b15)]))
      obtain ⟨T154, h154, X154, e154, W154, V154, st154⟩ := aryStI X153 hx hZ e153 fc20_6 (j := (Int32.ofNat i)) (x := (Int32.ofNat bb)) (i := i) (isN_ofNat (by omega)) (by omega) (g := (mkF m 112 #[.val (.ref a), .val (.int (Int32.ofNat G)), .val (.int (Int32.ofNat F)), .val (.int (Int32.ofNat T)), .val (.ref b15), .val (.int (Int32.ofNat i)), .unset, .unset] [(.int (Int32.ofNat bb)), (.int (Int32.ofNat i)), (.ref b15)])) rfl rfl (hb hby d_prog_70_method_1_112)
      have Z155 : n0 ≤ h154.size := by rw [W154.size]; exact Z20
      have N156 := Fr.snoc X154 N153 G15
      refine Go.st st154 ?_
      show Go p e below P (T154.setTop (mkF m 113 #[.val (.ref a), .val (.int (Int32.ofNat G)), .val (.int (Int32.ofNat F)), .val (.int (Int32.ofNat T)), .val (.ref b15), .val (.int (Int32.ofNat i)), .unset, .unset] []))
      refine Go.st (fun _ kt => XS.iinc X154.here hx rfl (hb hby d_prog_70_method_1_113) rfl (l' := #[.val (.ref a), .val (.int (Int32.ofNat G)), .val (.int (Int32.ofNat F)), .val (.int (Int32.ofNat T)), .val (.ref b15), .val (.int ((Int32.ofNat i) + (1 : Int32))), .unset, .unset]) rfl (XS.goto X154.here hx rfl (pc0 := 116) (pc' := 68) rfl (hb hby d_prog_70_method_1_116) (by decide) (by decide) kt)) ?_
      show Go p e below P (T154.setTop (mkF m 68 #[.val (.ref a), .val (.int (Int32.ofNat G)), .val (.int (Int32.ofNat F)), .val (.int (Int32.ofNat T)), .val (.ref b15), .val (.int ((Int32.ofNat i) + (1 : Int32))), .unset, .unset] []))
      rw [own_succ]
      have f157 := (fc20_0.wr W154)
      have f158 := (fc20_1.other W154 (Or.inl ne16))
      have f159 := (fc20_2.other W154 (Or.inl ne16))
      have f160 := (fc20_3.other W154 (Or.inl ne16))
      have f161 := (fc20_4.other W154 (Or.inl ne16))
      have f162 := (fc20_5.other W154 (Or.inl ne16))
      exact ih20  _ _ (i + 1) (updN pk i bb) (X154.more (by decide) (by decide)) N156 (by rw [e154]; exact Z155) (by rw [e154]; exact f157) (by rw [e154]; exact f158) (by rw [e154]; exact f159) (by rw [e154]; exact f160) (by rw [e154]; exact f161) (by rw [e154]; exact f162) (by rw [e154]; exact (Ary.congr (f' := fun j => Int32.ofNat (updN pk i bb j)) V154 (fun j hj => by
          by_cases e : j = i
          · subst e; rw [updN_hit, updN_hit]
          · rw [updN_miss e, updN_miss e]))) (by omega) (fun j hj => by
          by_cases e : j = i
          · subst e; rw [updN_hit]; omega
          · rw [updN_miss e]; exact hpk j (by omega))
  have f163 := (f17.ext E15)
  have f164 := (((Fw2.other W5 (Or.inr (slot_ne (Or.inr (hw _ (List.mem_of_getElem? (i := 11) rfl))) (Or.inr (hw _ (List.mem_of_getElem? (i := 13) rfl))) (by decide) (t := .int) (t' := .int) (by decide) (by decide)))).other W10 (Or.inr (slot_ne (Or.inr (hw _ (List.mem_of_getElem? (i := 11) rfl))) (Or.inr (hw _ (List.mem_of_getElem? (i := 15) rfl))) (by decide) (t := .int) (t' := .int) (by decide) (by decide)))).ext E15)
  have f165 := ((Fw5.other W10 (Or.inr (slot_ne (Or.inr (hw _ (List.mem_of_getElem? (i := 13) rfl))) (Or.inr (hw _ (List.mem_of_getElem? (i := 15) rfl))) (by decide) (t := .int) (t' := .int) (by decide) (by decide)))).ext E15)
  have f166 := (Fw10.ext E15)
  have f167 := ((((Fholder0.other W2 (Or.inr (slot_ne (Or.inr (hw _ (List.mem_of_getElem? (i := 40) rfl))) (Or.inr (hw _ (List.mem_of_getElem? (i := 11) rfl))) (by decide) (t := (.array .int)) (t' := .int) (by decide) (by decide)))).other W5 (Or.inr (slot_ne (Or.inr (hw _ (List.mem_of_getElem? (i := 40) rfl))) (Or.inr (hw _ (List.mem_of_getElem? (i := 13) rfl))) (by decide) (t := (.array .int)) (t' := .int) (by decide) (by decide)))).other W10 (Or.inr (slot_ne (Or.inr (hw _ (List.mem_of_getElem? (i := 40) rfl))) (Or.inr (hw _ (List.mem_of_getElem? (i := 15) rfl))) (by decide) (t := (.array .int)) (t' := .int) (by decide) (by decide)))).ext E15)
  have f168 := ((((Fcopy0.other W2 (Or.inr (slot_ne (Or.inr (hw _ (List.mem_of_getElem? (i := 34) rfl))) (Or.inr (hw _ (List.mem_of_getElem? (i := 11) rfl))) (by decide) (t := (.array .int)) (t' := .int) (by decide) (by decide)))).other W5 (Or.inr (slot_ne (Or.inr (hw _ (List.mem_of_getElem? (i := 34) rfl))) (Or.inr (hw _ (List.mem_of_getElem? (i := 13) rfl))) (by decide) (t := (.array .int)) (t' := .int) (by decide) (by decide)))).other W10 (Or.inr (slot_ne (Or.inr (hw _ (List.mem_of_getElem? (i := 34) rfl))) (Or.inr (hw _ (List.mem_of_getElem? (i := 15) rfl))) (by decide) (t := (.array .int)) (t' := .int) (by decide) (by decide)))).ext E15)
  exact loop19 F _ _ 0 (fun _ => 0) (X15.more (by decide) (by decide)) N14 (by rw [e15]; exact Z18) (by rw [e15]; exact f163) (by rw [e15]; exact f164) (by rw [e15]; exact f165) (by rw [e15]; exact f166) (by rw [e15]; exact f167) (by rw [e15]; exact f168) (by rw [e15]; exact (Ary.congr (f' := fun j => Int32.ofNat 0) V15 (fun j hj => rfl))) (by omega) (fun j hj => by omega)
def own_cf (c : Nat → Option Nat) (T i : Nat) : Option Nat := if i < T ∧ c i ≠ some i then c i else none
theorem own_cf_none {c : Nat → Option Nat} {T i : Nat} (h : ¬ i < T ∨ c i = none ∨ c i = some i) : own_cf c T i = none := by
  unfold own_cf
  by_cases q : i < T ∧ c i ≠ some i
  · rw [if_pos q]
    rcases h with h | h | h
    · exact absurd q.1 h
    · exact h
    · exact absurd h q.2
  · rw [if_neg q]
theorem own_cf_some {c : Nat → Option Nat} {T i : Nat} (h1 : i < T) (h2 : c i ≠ some i) : own_cf c T i = c i := by unfold own_cf; rw [if_pos ⟨h1, h2⟩]
theorem d_prog_70_method_5_0 : decode prog_70_method_5_code 0 = .ok (.iload_n 1, 1) := by decide +kernel
theorem d_prog_70_method_5_1 : decode prog_70_method_5_code 1 = .ok (.aload_n 0, 1) := by decide +kernel
theorem d_prog_70_method_5_2 : decode prog_70_method_5_code 2 = .ok (.getfield 25, 3) := by decide +kernel
theorem d_prog_70_method_5_5 : decode prog_70_method_5_code 5 = .ok (.if_icmp .ge 31, 3) := by decide +kernel
theorem d_prog_70_method_5_8 : decode prog_70_method_5_code 8 = .ok (.aload_n 0, 1) := by decide +kernel
theorem d_prog_70_method_5_9 : decode prog_70_method_5_code 9 = .ok (.getfield 39, 3) := by decide +kernel
theorem d_prog_70_method_5_12 : decode prog_70_method_5_code 12 = .ok (.iload_n 1, 1) := by decide +kernel
theorem d_prog_70_method_5_13 : decode prog_70_method_5_code 13 = .ok (.iaload, 1) := by decide +kernel
theorem d_prog_70_method_5_14 : decode prog_70_method_5_code 14 = .ok (.ifCond .lt 22, 3) := by decide +kernel
theorem d_prog_70_method_5_36 : decode prog_70_method_5_code 36 = .ok (.iconst (-1), 1) := by decide +kernel
theorem d_prog_70_method_5_37 : decode prog_70_method_5_code 37 = .ok (.ireturn, 1) := by decide +kernel
theorem d_prog_70_method_5_17 : decode prog_70_method_5_code 17 = .ok (.aload_n 0, 1) := by decide +kernel
theorem d_prog_70_method_5_18 : decode prog_70_method_5_code 18 = .ok (.getfield 39, 3) := by decide +kernel
theorem d_prog_70_method_5_21 : decode prog_70_method_5_code 21 = .ok (.iload_n 1, 1) := by decide +kernel
theorem d_prog_70_method_5_22 : decode prog_70_method_5_code 22 = .ok (.iaload, 1) := by decide +kernel
theorem d_prog_70_method_5_23 : decode prog_70_method_5_code 23 = .ok (.iload_n 1, 1) := by decide +kernel
theorem d_prog_70_method_5_24 : decode prog_70_method_5_code 24 = .ok (.if_icmp .eq 12, 3) := by decide +kernel
theorem d_prog_70_method_5_27 : decode prog_70_method_5_code 27 = .ok (.aload_n 0, 1) := by decide +kernel
theorem d_prog_70_method_5_28 : decode prog_70_method_5_code 28 = .ok (.getfield 39, 3) := by decide +kernel
theorem d_prog_70_method_5_31 : decode prog_70_method_5_code 31 = .ok (.iload_n 1, 1) := by decide +kernel
theorem d_prog_70_method_5_32 : decode prog_70_method_5_code 32 = .ok (.iaload, 1) := by decide +kernel
theorem d_prog_70_method_5_33 : decode prog_70_method_5_code 33 = .ok (.goto 4, 3) := by decide +kernel
theorem ef_rmC (m : MethodId) (a : Addr) (ii : Int32) : entryFrame m #[(.ref a), (.int ii)] 2 = mkF m 0 #[.val (.ref a), .val (.int ii)] [] := by first | (simp [entryFrame, mkF, argsToLocals, Value.category]; done) | rfl
set_option maxRecDepth 65536 in
set_option maxHeartbeats 40000000 in
theorem rmC (l : Launch) (Z : State) (a0 : Array Value) (hw : ∀ d ∈ tables_1, d.before a0 Z = true) (a : Addr) (ii : Int32) (T i : Nat) (tc : Addr) (cq : Nat → Option Nat) (h0 : Heap) (n0 : Nat) (Z0 : n0 ≤ h0.size) (Fto : Fld Z h0 a "io/sluicegate/runtime/KeyGroupPlan" "to" "I" (.int (Int32.ofNat T))) (Fcp : Fld Z h0 a "io/sluicegate/runtime/KeyGroupPlan" "copy" "[I" (.ref tc)) (Vc : Ary Z h0 tc .int Value.int T (fun g => own_enc (cq g))) (hi : ii = Int32.ofNat i) (hi2 : i ≤ 256) (hT : T ≤ 256) (hcs : ∀ g j, cq g = some j → j ≤ 256) :
    Ct l (⟨"io/sluicegate/runtime/KeyGroupPlan", "copiesFrom", "(I)I"⟩ : MethodName) prog_70_method_5_code 2 (some .int) [] ({ frames := 0, cells := 0, slots := 0, locals := 0 } : Room) Z #[(.ref a), (.int ii)] h0 (fun v h L => v = some (.int (own_enc (own_cf cq T i))) ∧ Fr n0 L ∧ h = h0) := by
  refine Ct.of (plainFor_of_name pn_1) (fun m => ef_rmC m a ii) ?_
  intro p e s m below meth c T0 X0 hx hby hml hret hlk hown hnm hZ e0 P hP
  subst hi
  have hcs' : ∀ j, cq i = some j → j < 2 ^ 31 := fun j q => by have := hcs i j q; omega
  refine Go.st (fun _ kt => XS.iloadN X0.here hx rfl (hb hby d_prog_70_method_5_0) rfl (XS.aloadN X0.here hx rfl (hb hby d_prog_70_method_5_1) rfl rfl kt)) ?_
  show Go p e below P (T0.setTop (mkF m 2 #[.val (.ref a), .val (.int (Int32.ofNat i))] [(.ref a), (.int (Int32.ofNat i))]))
  obtain ⟨T1, X1, e1, st1⟩ := getF X0 hx hZ hown (host := "") (Or.inl (hw _ (List.mem_of_getElem? (i := 14) rfl))) Via.refl e0 Fto (g := (mkF m 2 #[.val (.ref a), .val (.int (Int32.ofNat i))] [(.ref a), (.int (Int32.ofNat i))])) rfl rfl (hb hby d_prog_70_method_5_2)
  refine Go.st st1 ?_
  show Go p e below P (T1.setTop (mkF m 5 #[.val (.ref a), .val (.int (Int32.ofNat i))] [(.int (Int32.ofNat T)), (.int (Int32.ofNat i))]))
  by_cases br2 : (Int32.ofNat i) < (Int32.ofNat T)
  · refine Go.st (fun _ kt => XS.icmpNo X1.here hx rfl (hb hby d_prog_70_method_5_5) rfl (tlt br2).2.1 kt) ?_
    show Go p e below P (T1.setTop (mkF m 8 #[.val (.ref a), .val (.int (Int32.ofNat i))] []))
    refine Go.st (fun _ kt => XS.aloadN X1.here hx rfl (hb hby d_prog_70_method_5_8) rfl rfl kt) ?_
    show Go p e below P (T1.setTop (mkF m 9 #[.val (.ref a), .val (.int (Int32.ofNat i))] [(.ref a)]))
    obtain ⟨T3, X3, e3, st3⟩ := getF X1 hx hZ hown (host := "") (Or.inl (hw _ (List.mem_of_getElem? (i := 33) rfl))) Via.refl e1 Fcp (g := (mkF m 9 #[.val (.ref a), .val (.int (Int32.ofNat i))] [(.ref a)])) rfl rfl (hb hby d_prog_70_method_5_9)
    refine Go.st st3 ?_
    show Go p e below P (T3.setTop (mkF m 12 #[.val (.ref a), .val (.int (Int32.ofNat i))] [(.ref tc)]))
    refine Go.st (fun _ kt => XS.iloadN X3.here hx rfl (hb hby d_prog_70_method_5_12) rfl (aryLdI X3 hx hZ e3 Vc (j := (Int32.ofNat i)) (i := i) (isN_ofNat (by omega)) ((own_ltN (by omega) (by omega)).mp br2) (g := (mkF m 13 #[.val (.ref a), .val (.int (Int32.ofNat i))] [(.int (Int32.ofNat i)), (.ref tc)])) rfl rfl (hb hby d_prog_70_method_5_13) _ kt)) ?_
    show Go p e below P (T3.setTop (mkF m 14 #[.val (.ref a), .val (.int (Int32.ofNat i))] [(.int ((fun g => own_enc (cq g)) i))]))
    by_cases br4 : ((fun g => own_enc (cq g)) i) < (0 : Int32)
    · refine Go.st (fun _ kt => XS.ifYes X3.here hx rfl (pc0 := 14) (pc' := 36) rfl (hb hby d_prog_70_method_5_14) rfl ((if0 _ _).trans (tlt br4).1) (by decide) (by decide) kt) ?_
      show Go p e below P (T3.setTop (mkF m 36 #[.val (.ref a), .val (.int (Int32.ofNat i))] []))
      refine Go.st (fun _ kt => XS.iconst X3.here hx rfl (hb hby d_prog_70_method_5_36) kt) ?_
      show Go p e below P (T3.setTop (mkF m 37 #[.val (.ref a), .val (.int (Int32.ofNat i))] [(.int (-1 : Int32))]))
      exact goI X3 hx hret hlk (hb hby d_prog_70_method_5_37) hP (by decide) (by decide) ⟨by rw [own_cf_none (Or.inr (Or.inl ((own_enc_neg hcs').mp br4)))]; rfl, (Fr.nil n0), e3⟩
    · refine Go.st (fun _ kt => XS.ifNo X3.here hx rfl (hb hby d_prog_70_method_5_14) rfl ((if0 _ _).trans (flt br4).1) kt) ?_
      show Go p e below P (T3.setTop (mkF m 17 #[.val (.ref a), .val (.int (Int32.ofNat i))] []))
      refine Go.st (fun _ kt => XS.aloadN X3.here hx rfl (hb hby d_prog_70_method_5_17) rfl rfl kt) ?_
      show Go p e below P (T3.setTop (mkF m 18 #[.val (.ref a), .val (.int (Int32.ofNat i))] [(.ref a)]))
      obtain ⟨T5, X5, e5, st5⟩ := getF X3 hx hZ hown (host := "") (Or.inl (hw _ (List.mem_of_getElem? (i := 33) rfl))) Via.refl e3 Fcp (g := (mkF m 18 #[.val (.ref a), .val (.int (Int32.ofNat i))] [(.ref a)])) rfl rfl (hb hby d_prog_70_method_5_18)
      refine Go.st st5 ?_
      show Go p e below P (T5.setTop (mkF m 21 #[.val (.ref a), .val (.int (Int32.ofNat i))] [(.ref tc)]))
      refine Go.st (fun _ kt => XS.iloadN X5.here hx rfl (hb hby d_prog_70_method_5_21) rfl (aryLdI X5 hx hZ e5 Vc (j := (Int32.ofNat i)) (i := i) (isN_ofNat (by omega)) ((own_ltN (by omega) (by omega)).mp br2) (g := (mkF m 22 #[.val (.ref a), .val (.int (Int32.ofNat i))] [(.int (Int32.ofNat i)), (.ref tc)])) rfl rfl (hb hby d_prog_70_method_5_22) _ (XS.iloadN X5.here hx rfl (hb hby d_prog_70_method_5_23) rfl kt))) ?_
      show Go p e below P (T5.setTop (mkF m 24 #[.val (.ref a), .val (.int (Int32.ofNat i))] [(.int (Int32.ofNat i)), (.int ((fun g => own_enc (cq g)) i))]))
      by_cases br6 : ((fun g => own_enc (cq g)) i) = (Int32.ofNat i)
      · refine Go.st (fun _ kt => XS.icmpYes X5.here hx rfl (pc0 := 24) (pc' := 36) rfl (hb hby d_prog_70_method_5_24) rfl (teq br6).1 (by decide) (by decide) kt) ?_
        show Go p e below P (T5.setTop (mkF m 36 #[.val (.ref a), .val (.int (Int32.ofNat i))] []))
        refine Go.st (fun _ kt => XS.iconst X5.here hx rfl (hb hby d_prog_70_method_5_36) kt) ?_
        show Go p e below P (T5.setTop (mkF m 37 #[.val (.ref a), .val (.int (Int32.ofNat i))] [(.int (-1 : Int32))]))
        exact goI X5 hx hret hlk (hb hby d_prog_70_method_5_37) hP (by decide) (by decide) ⟨by rw [own_cf_none (Or.inr (Or.inr ((own_enc_eq hcs' (by omega)).mp br6)))]; rfl, (Fr.nil n0), e5⟩
      · refine Go.st (fun _ kt => XS.icmpNo X5.here hx rfl (hb hby d_prog_70_method_5_24) rfl (feq br6).1 kt) ?_
        show Go p e below P (T5.setTop (mkF m 27 #[.val (.ref a), .val (.int (Int32.ofNat i))] []))
        refine Go.st (fun _ kt => XS.aloadN X5.here hx rfl (hb hby d_prog_70_method_5_27) rfl rfl kt) ?_
        show Go p e below P (T5.setTop (mkF m 28 #[.val (.ref a), .val (.int (Int32.ofNat i))] [(.ref a)]))
        obtain ⟨T7, X7, e7, st7⟩ := getF X5 hx hZ hown (host := "") (Or.inl (hw _ (List.mem_of_getElem? (i := 33) rfl))) Via.refl e5 Fcp (g := (mkF m 28 #[.val (.ref a), .val (.int (Int32.ofNat i))] [(.ref a)])) rfl rfl (hb hby d_prog_70_method_5_28)
        refine Go.st st7 ?_
        show Go p e below P (T7.setTop (mkF m 31 #[.val (.ref a), .val (.int (Int32.ofNat i))] [(.ref tc)]))
        refine Go.st (fun _ kt => XS.iloadN X7.here hx rfl (hb hby d_prog_70_method_5_31) rfl (aryLdI X7 hx hZ e7 Vc (j := (Int32.ofNat i)) (i := i) (isN_ofNat (by omega)) ((own_ltN (by omega) (by omega)).mp br2) (g := (mkF m 32 #[.val (.ref a), .val (.int (Int32.ofNat i))] [(.int (Int32.ofNat i)), (.ref tc)])) rfl rfl (hb hby d_prog_70_method_5_32) _ (XS.goto X7.here hx rfl (pc0 := 33) (pc' := 37) rfl (hb hby d_prog_70_method_5_33) (by decide) (by decide) kt))) ?_
        show Go p e below P (T7.setTop (mkF m 37 #[.val (.ref a), .val (.int (Int32.ofNat i))] [(.int ((fun g => own_enc (cq g)) i))]))
        exact goI X7 hx hret hlk (hb hby d_prog_70_method_5_37) hP (by decide) (by decide) ⟨by rw [own_cf_some ((own_ltN (by omega) (by omega)).mp br2) (fun q => br6 ((own_enc_eq hcs' (by omega)).mpr q))], (Fr.nil n0), e7⟩
  · refine Go.st (fun _ kt => XS.icmpYes X1.here hx rfl (pc0 := 5) (pc' := 36) rfl (hb hby d_prog_70_method_5_5) rfl (flt br2).2.1 (by decide) (by decide) kt) ?_
    show Go p e below P (T1.setTop (mkF m 36 #[.val (.ref a), .val (.int (Int32.ofNat i))] []))
    refine Go.st (fun _ kt => XS.iconst X1.here hx rfl (hb hby d_prog_70_method_5_36) kt) ?_
    show Go p e below P (T1.setTop (mkF m 37 #[.val (.ref a), .val (.int (Int32.ofNat i))] [(.int (-1 : Int32))]))
    exact goI X1 hx hret hlk (hb hby d_prog_70_method_5_37) hP (by decide) (by decide) ⟨by rw [own_cf_none (Or.inl (fun q => br2 ((own_ltN (by omega) (by omega)).mpr q)))]; rfl, (Fr.nil n0), e1⟩
theorem d_prog_70_method_4_0 : decode prog_70_method_4_code 0 = .ok (.aload_n 0, 1) := by decide +kernel
theorem d_prog_70_method_4_1 : decode prog_70_method_4_code 1 = .ok (.getfield 52, 3) := by decide +kernel
theorem d_prog_70_method_4_4 : decode prog_70_method_4_code 4 = .ok (.iload_n 1, 1) := by decide +kernel
theorem d_prog_70_method_4_5 : decode prog_70_method_4_code 5 = .ok (.iaload, 1) := by decide +kernel
theorem d_prog_70_method_4_6 : decode prog_70_method_4_code 6 = .ok (.ireturn, 1) := by decide +kernel
theorem ef_rmH (m : MethodId) (a : Addr) (oo : Int32) : entryFrame m #[(.ref a), (.int oo)] 2 = mkF m 0 #[.val (.ref a), .val (.int oo)] [] := by first | (simp [entryFrame, mkF, argsToLocals, Value.category]; done) | rfl
set_option maxRecDepth 65536 in
set_option maxHeartbeats 40000000 in
theorem rmH (l : Launch) (Z : State) (a0 : Array Value) (hw : ∀ d ∈ tables_1, d.before a0 Z = true) (a : Addr) (oo : Int32) (F o : Nat) (th : Addr) (hd : Nat → Nat) (h0 : Heap) (n0 : Nat) (Z0 : n0 ≤ h0.size) (Fh : Fld Z h0 a "io/sluicegate/runtime/KeyGroupPlan" "holder" "[I" (.ref th)) (Vh : Ary Z h0 th .int Value.int F (fun j => Int32.ofNat (hd j))) (ho : oo = Int32.ofNat o) (hoF : o < F) (hF : F ≤ 256) :
    Ct l (⟨"io/sluicegate/runtime/KeyGroupPlan", "holder", "(I)I"⟩ : MethodName) prog_70_method_4_code 2 (some .int) [] ({ frames := 0, cells := 0, slots := 0, locals := 0 } : Room) Z #[(.ref a), (.int oo)] h0 (fun v h L => v = some (.int (Int32.ofNat (hd o))) ∧ Fr n0 L ∧ h = h0) := by
  refine Ct.of (plainFor_of_name pn_1) (fun m => ef_rmH m a oo) ?_
  intro p e s m below meth c T0 X0 hx hby hml hret hlk hown hnm hZ e0 P hP
  subst ho
  refine Go.st (fun _ kt => XS.aloadN X0.here hx rfl (hb hby d_prog_70_method_4_0) rfl rfl kt) ?_
  show Go p e below P (T0.setTop (mkF m 1 #[.val (.ref a), .val (.int (Int32.ofNat o))] [(.ref a)]))
  obtain ⟨T1, X1, e1, st1⟩ := getF X0 hx hZ hown (host := "") (Or.inl (hw _ (List.mem_of_getElem? (i := 39) rfl))) Via.refl e0 Fh (g := (mkF m 1 #[.val (.ref a), .val (.int (Int32.ofNat o))] [(.ref a)])) rfl rfl (hb hby d_prog_70_method_4_1)
  refine Go.st st1 ?_
  show Go p e below P (T1.setTop (mkF m 4 #[.val (.ref a), .val (.int (Int32.ofNat o))] [(.ref th)]))
  refine Go.st (fun _ kt => XS.iloadN X1.here hx rfl (hb hby d_prog_70_method_4_4) rfl (aryLdI X1 hx hZ e1 Vh (j := (Int32.ofNat o)) (i := o) (isN_ofNat (by omega)) hoF (g := (mkF m 5 #[.val (.ref a), .val (.int (Int32.ofNat o))] [(.int (Int32.ofNat o)), (.ref th)])) rfl rfl (hb hby d_prog_70_method_4_5) _ kt)) ?_
  show Go p e below P (T1.setTop (mkF m 6 #[.val (.ref a), .val (.int (Int32.ofNat o))] [(.int ((fun j => Int32.ofNat (hd j)) o))]))
  exact goI X1 hx hret hlk (hb hby d_prog_70_method_4_6) hP (by decide) (by decide) ⟨rfl, (Fr.nil n0), e1⟩
theorem own_G (a : Int32) : ∃ G : Nat, (1 : Int32) + (a &&& (255 : Int32)) = Int32.ofNat G ∧ 1 ≤ G ∧ G ≤ 256 := by
  have h := own_mk a (k := 255) (n := 255) (by decide) (by decide)
  obtain ⟨n, e1, e2, e3⟩ := own_nat h.1
  exact ⟨n + 1, by rw [e1, Int32.add_comm, own_succ], by omega, by omega⟩
theorem own_F (a : Int32) {G : Nat} (h1 : 1 ≤ G) (h2 : G ≤ 256) : ∃ F : Nat, (1 : Int32) + (a &&& (2147483647 : Int32)) % Int32.ofNat G = Int32.ofNat F ∧ 1 ≤ F ∧ F ≤ G := by
  have q := own_rem (own_m a) (b := Int32.ofNat G) (by rw [own_tn (by omega)]; omega)
  rw [own_tn (by omega)] at q
  obtain ⟨n, e1, e2, e3⟩ := own_nat q.1
  exact ⟨n + 1, by rw [e1, Int32.add_comm, own_succ], by omega, by omega⟩
theorem own_I (a : Int32) {G : Nat} (h1 : 1 ≤ G) (h2 : G ≤ 257) : ∃ i : Nat, (a &&& (2147483647 : Int32)) % Int32.ofNat G = Int32.ofNat i ∧ i < G := by
  have q := own_rem (own_m a) (b := Int32.ofNat G) (by rw [own_tn (by omega)]; omega)
  rw [own_tn (by omega)] at q
  obtain ⟨n, e1, e2, e3⟩ := own_nat q.1
  exact ⟨n, e1, by omega⟩
theorem own_nzN {n : Nat} (h : 0 < n) (q : n < 2 ^ 31) : Int32.ofNat n ≠ 0 := own_nz (by rw [own_tn q]; omega)
theorem own_cf_eq {c : Nat → Option Nat} {T i o : Nat} (h1 : i < T) (h2 : o ≠ i) : own_cf c T i = some o ↔ c i = some o := by
  unfold own_cf
  by_cases q : i < T ∧ c i ≠ some i
  · rw [if_pos q]
  · rw [if_neg q]
    have e : c i = some i := Classical.byContradiction fun g => q ⟨h1, g⟩
    rw [e]
    constructor
    · intro g; cases g
    · intro g; cases g; exact absurd rfl h2
theorem pd_6 : parseMethodDescriptor "(III)V" = some ⟨[.int, .int, .int], none⟩ := by decide +kernel
theorem pd_7 : parseMethodDescriptor "(I)I" = some ⟨[.int], some .int⟩ := by decide +kernel
theorem pn_8 : plainName "io/sluicegate/runtime/KeyGroupPlanCopiesFromPinLaw" = true := by first | (simp [plainName, overriddenIn]; done) | decide +kernel
theorem ef_rm0 (m : MethodId) (g : Int32) (f : Int32) (t : Int32) (i0 : Int32) (o0 : Int32) : entryFrame m #[(.int g), (.int f), (.int t), (.int i0), (.int o0)] maxLocals = mkF m 0 #[.val (.int g), .val (.int f), .val (.int t), .val (.int i0), .val (.int o0), .unset, .unset, .unset, .unset, .unset, .unset, .unset, .unset] [] := by first | (simp [entryFrame, mkF, argsToLocals, Value.category, maxLocals]; done) | rfl
set_option maxRecDepth 65536 in
set_option maxHeartbeats 40000000 in
theorem rm0 (l : Launch) (Z : State) (a0 : Array Value) (hw : ∀ d ∈ tables_1, d.before a0 Z = true) (ws : List Jvm.Cond) (g : Int32) (f : Int32) (t : Int32) (i0 : Int32) (o0 : Int32)  (h0 : Heap) (n0 : Nat) (Z0 : n0 ≤ h0.size)  :
    Ct l x code maxLocals ret ws room_1 Z #[(.int g), (.int f), (.int t), (.int i0), (.int o0)] h0 (fun v h L => v = some (.int 1) ∧ Fr n0 L) := by
  refine Ct.of (plainFor_of_name pn_8) (fun m => ef_rm0 m g f t i0 o0) ?_
  intro p e s m below meth c T0 X0 hx hby hml hret hlk hown hnm hZ e0 P hP
  refine Go.st (fun _ kt => XS.iconst X0.here hx rfl (hb hby at_0) (XS.iloadN X0.here hx rfl (hb hby at_1) rfl (XS.sipush X0.here hx rfl (hb hby at_2) (XS.iand X0.here hx rfl (hb hby at_5) rfl (XS.iadd X0.here hx rfl (hb hby at_6) rfl kt))))) ?_
  show Go p e below P (T0.setTop (mkF m 7 #[.val (.int g), .val (.int f), .val (.int t), .val (.int i0), .val (.int o0), .unset, .unset, .unset, .unset, .unset, .unset, .unset, .unset] [(.int ((1 : Int32) + (g &&& (255 : Int32))))]))
  obtain ⟨G, hGe, hG1, hG⟩ := own_G g
  rw [hGe]
  show Go p e below P (T0.setTop (mkF m 7 #[.val (.int g), .val (.int f), .val (.int t), .val (.int i0), .val (.int o0), .unset, .unset, .unset, .unset, .unset, .unset, .unset, .unset] [(.int (Int32.ofNat G))]))
  refine Go.st (fun _ kt => XS.istore X0.here hx rfl (hb hby at_7) rfl (l' := #[.val (.int g), .val (.int f), .val (.int t), .val (.int i0), .val (.int o0), .val (.int (Int32.ofNat G)), .unset, .unset, .unset, .unset, .unset, .unset, .unset]) rfl (XS.iconst X0.here hx rfl (hb hby at_9) (XS.iloadN X0.here hx rfl (hb hby at_10) rfl (X0.ldcInt hx hown (mvT hZ (hw _ (List.mem_of_getElem? (i := 0) rfl))) (g := (mkF m 11 #[.val (.int g), .val (.int f), .val (.int t), .val (.int i0), .val (.int o0), .val (.int (Int32.ofNat G)), .unset, .unset, .unset, .unset, .unset, .unset, .unset] [(.int f), (.int (1 : Int32))])) rfl (hb hby at_11) _ (XS.iand X0.here hx rfl (hb hby at_13) rfl (XS.iload X0.here hx rfl (hb hby at_14) rfl (iremM X0 hx rfl (hb hby at_16) rfl (own_nzN (by omega) (by omega)) (XS.iadd X0.here hx rfl (hb hby at_17) rfl kt)))))))) ?_
  show Go p e below P (T0.setTop (mkF m 18 #[.val (.int g), .val (.int f), .val (.int t), .val (.int i0), .val (.int o0), .val (.int (Int32.ofNat G)), .unset, .unset, .unset, .unset, .unset, .unset, .unset] [(.int ((1 : Int32) + ((f &&& (2147483647 : Int32)) % (Int32.ofNat G))))]))
  obtain ⟨F, hFe, hF1, hFG⟩ := own_F f hG1 hG
  rw [hFe]
  show Go p e below P (T0.setTop (mkF m 18 #[.val (.int g), .val (.int f), .val (.int t), .val (.int i0), .val (.int o0), .val (.int (Int32.ofNat G)), .unset, .unset, .unset, .unset, .unset, .unset, .unset] [(.int (Int32.ofNat F))]))
  refine Go.st (fun _ kt => XS.istore X0.here hx rfl (hb hby at_18) rfl (l' := #[.val (.int g), .val (.int f), .val (.int t), .val (.int i0), .val (.int o0), .val (.int (Int32.ofNat G)), .val (.int (Int32.ofNat F)), .unset, .unset, .unset, .unset, .unset, .unset]) rfl (XS.iconst X0.here hx rfl (hb hby at_20) (XS.iloadN X0.here hx rfl (hb hby at_21) rfl (X0.ldcInt hx hown (mvT hZ (hw _ (List.mem_of_getElem? (i := 0) rfl))) (g := (mkF m 22 #[.val (.int g), .val (.int f), .val (.int t), .val (.int i0), .val (.int o0), .val (.int (Int32.ofNat G)), .val (.int (Int32.ofNat F)), .unset, .unset, .unset, .unset, .unset, .unset] [(.int t), (.int (1 : Int32))])) rfl (hb hby at_22) _ (XS.iand X0.here hx rfl (hb hby at_24) rfl (XS.iload X0.here hx rfl (hb hby at_25) rfl (iremM X0 hx rfl (hb hby at_27) rfl (own_nzN (by omega) (by omega)) (XS.iadd X0.here hx rfl (hb hby at_28) rfl kt)))))))) ?_
  show Go p e below P (T0.setTop (mkF m 29 #[.val (.int g), .val (.int f), .val (.int t), .val (.int i0), .val (.int o0), .val (.int (Int32.ofNat G)), .val (.int (Int32.ofNat F)), .unset, .unset, .unset, .unset, .unset, .unset] [(.int ((1 : Int32) + ((t &&& (2147483647 : Int32)) % (Int32.ofNat G))))]))
  obtain ⟨T, hTe, hT1, hTG⟩ := own_F t hG1 hG
  rw [hTe]
  show Go p e below P (T0.setTop (mkF m 29 #[.val (.int g), .val (.int f), .val (.int t), .val (.int i0), .val (.int o0), .val (.int (Int32.ofNat G)), .val (.int (Int32.ofNat F)), .unset, .unset, .unset, .unset, .unset, .unset] [(.int (Int32.ofNat T))]))
  refine Go.st (fun _ kt => XS.istore X0.here hx rfl (hb hby at_29) rfl (l' := #[.val (.int g), .val (.int f), .val (.int t), .val (.int i0), .val (.int o0), .val (.int (Int32.ofNat G)), .val (.int (Int32.ofNat F)), .val (.int (Int32.ofNat T)), .unset, .unset, .unset, .unset, .unset]) rfl kt) ?_
  show Go p e below P (T0.setTop (mkF m 31 #[.val (.int g), .val (.int f), .val (.int t), .val (.int i0), .val (.int o0), .val (.int (Int32.ofNat G)), .val (.int (Int32.ofNat F)), .val (.int (Int32.ofNat T)), .unset, .unset, .unset, .unset, .unset] []))
  obtain ⟨T1, h1, X1, e1, E1, A1, D1, -, st1⟩ := newO X0 hx hZ hown (hw _ (List.mem_of_getElem? (i := 1) rfl)) (hw _ (List.mem_of_getElem? (i := 2) rfl)) (hw _ (List.mem_of_getElem? (i := 3) rfl)) e0 (g := (mkF m 31 #[.val (.int g), .val (.int f), .val (.int t), .val (.int i0), .val (.int o0), .val (.int (Int32.ofNat G)), .val (.int (Int32.ofNat F)), .val (.int (Int32.ofNat T)), .unset, .unset, .unset, .unset, .unset] [])) rfl (hb hby at_31) (by decide) (by decide)
  obtain ⟨b1, g1⟩ : ∃ z, z = h0.size := ⟨_, rfl⟩
  rw [← g1] at A1 D1 st1
  have G1 : n0 ≤ b1 := Nat.le_trans Z0 (Nat.le_of_eq g1.symm)
  have F1_groups : Fld Z h1 b1 "io/sluicegate/runtime/KeyGroupPlan" "groups" "I" (.int (0 : Int32)) := D1 (Or.inr (hw _ (List.mem_of_getElem? (i := 11) rfl))) (ty := .int) (by decide)
  have F1_from : Fld Z h1 b1 "io/sluicegate/runtime/KeyGroupPlan" "from" "I" (.int (0 : Int32)) := D1 (Or.inr (hw _ (List.mem_of_getElem? (i := 13) rfl))) (ty := .int) (by decide)
  have F1_to : Fld Z h1 b1 "io/sluicegate/runtime/KeyGroupPlan" "to" "I" (.int (0 : Int32)) := D1 (Or.inr (hw _ (List.mem_of_getElem? (i := 15) rfl))) (ty := .int) (by decide)
  have F1_copy : Fld Z h1 b1 "io/sluicegate/runtime/KeyGroupPlan" "copy" "[I" .null := D1 (Or.inr (hw _ (List.mem_of_getElem? (i := 34) rfl))) (ty := (.array .int)) (by decide)
  have F1_holder : Fld Z h1 b1 "io/sluicegate/runtime/KeyGroupPlan" "holder" "[I" .null := D1 (Or.inr (hw _ (List.mem_of_getElem? (i := 40) rfl))) (ty := (.array .int)) (by decide)
  have Z2 := Nat.le_trans Z0 E1.1
  refine Go.st st1 ?_
  show Go p e below P (T1.setTop (mkF m 34 #[.val (.int g), .val (.int f), .val (.int t), .val (.int i0), .val (.int o0), .val (.int (Int32.ofNat G)), .val (.int (Int32.ofNat F)), .val (.int (Int32.ofNat T)), .unset, .unset, .unset, .unset, .unset] [(.ref b1)]))
  refine Go.st (fun _ kt => XS.dup X1.here hx rfl (hb hby at_34) rfl rfl (XS.iload X1.here hx rfl (hb hby at_35) rfl (XS.iload X1.here hx rfl (hb hby at_37) rfl (XS.iload X1.here hx rfl (hb hby at_39) rfl kt)))) ?_
  show Go p e below P (T1.setTop (mkF m 41 #[.val (.int g), .val (.int f), .val (.int t), .val (.int i0), .val (.int o0), .val (.int (Int32.ofNat G)), .val (.int (Int32.ofNat F)), .val (.int (Int32.ofNat T)), .unset, .unset, .unset, .unset, .unset] [(.int (Int32.ofNat T)), (.int (Int32.ofNat F)), (.int (Int32.ofNat G)), (.ref b1), (.ref b1)]))
  obtain ⟨_, T3, Lc3, X3, ⟨rfl, Nq3, K3, tc, th, c1, hd, Ei3, Ft3, Fc3, Fh3, Vc3, Vh3, hpl⟩, st3⟩ := callCtor X1 hx hZ e1 (y := (⟨"io/sluicegate/runtime/KeyGroupPlan", "<init>", "(III)V"⟩ : MethodName)) rfl (a := b1) (argsL := [(.int (Int32.ofNat G)), (.int (Int32.ofNat F)), (.int (Int32.ofNat T))]) (rest := [(.ref b1)]) hown (hw _ (List.mem_of_getElem? (i := 4) rfl)) (hw _ (List.mem_of_getElem? (i := 5) rfl)) (hw _ (List.mem_of_getElem? (i := 3) rfl)) (hw _ (List.mem_of_getElem? (i := 6) rfl)) (by decide) (rmI l Z a0 hw b1 (Int32.ofNat G) (Int32.ofNat F) (Int32.ofNat T) G F T _ n0 Z2 A1 F1_groups F1_from F1_to F1_holder F1_copy G1 hF1 hFG hT1 hTG hG rfl rfl rfl) (W := 1) (by decide) (by decide) (g := (mkF m 41 #[.val (.int g), .val (.int f), .val (.int t), .val (.int i0), .val (.int o0), .val (.int (Int32.ofNat G)), .val (.int (Int32.ofNat F)), .val (.int (Int32.ofNat T)), .unset, .unset, .unset, .unset, .unset] [(.int (Int32.ofNat T)), (.int (Int32.ofNat F)), (.int (Int32.ofNat G)), (.ref b1), (.ref b1)])) rfl (by rw [hml]; rfl) (lenOf pd_6 rfl) rfl (by show 2 * 0 + _ ≤ _; exact Nat.le_of_eq rfl) (hb hby at_41) (by decide) (by decide)
  have N3 := Fr.app (Fr.nil n0) Nq3
  refine Go.st st3 ?_
  show Go p e below P (T3.setTop (mkF m 44 #[.val (.int g), .val (.int f), .val (.int t), .val (.int i0), .val (.int o0), .val (.int (Int32.ofNat G)), .val (.int (Int32.ofNat F)), .val (.int (Int32.ofNat T)), .unset, .unset, .unset, .unset, .unset] [(.ref b1)]))
  refine Go.st (fun _ kt => XS.astore X3.here hx rfl (hb hby at_44) rfl rfl (l' := #[.val (.int g), .val (.int f), .val (.int t), .val (.int i0), .val (.int o0), .val (.int (Int32.ofNat G)), .val (.int (Int32.ofNat F)), .val (.int (Int32.ofNat T)), .val (.ref b1), .unset, .unset, .unset, .unset]) rfl (XS.iloadN X3.here hx rfl (hb hby at_46) rfl (X3.ldcInt hx hown (mvT hZ (hw _ (List.mem_of_getElem? (i := 0) rfl))) (g := (mkF m 47 #[.val (.int g), .val (.int f), .val (.int t), .val (.int i0), .val (.int o0), .val (.int (Int32.ofNat G)), .val (.int (Int32.ofNat F)), .val (.int (Int32.ofNat T)), .val (.ref b1), .unset, .unset, .unset, .unset] [(.int i0)])) rfl (hb hby at_47) _ (XS.iand X3.here hx rfl (hb hby at_49) rfl (XS.iload X3.here hx rfl (hb hby at_50) rfl (XS.iconst X3.here hx rfl (hb hby at_52) (XS.iadd X3.here hx rfl (hb hby at_53) rfl kt))))))) ?_
  show Go p e below P (T3.setTop (mkF m 54 #[.val (.int g), .val (.int f), .val (.int t), .val (.int i0), .val (.int o0), .val (.int (Int32.ofNat G)), .val (.int (Int32.ofNat F)), .val (.int (Int32.ofNat T)), .val (.ref b1), .unset, .unset, .unset, .unset] [(.int ((Int32.ofNat G) + (1 : Int32))), (.int (i0 &&& (2147483647 : Int32)))]))
  rw [own_succ]
  show Go p e below P (T3.setTop (mkF m 54 #[.val (.int g), .val (.int f), .val (.int t), .val (.int i0), .val (.int o0), .val (.int (Int32.ofNat G)), .val (.int (Int32.ofNat F)), .val (.int (Int32.ofNat T)), .val (.ref b1), .unset, .unset, .unset, .unset] [(.int (Int32.ofNat (G + 1))), (.int (i0 &&& (2147483647 : Int32)))]))
  refine Go.st (fun _ kt => iremM X3 hx rfl (hb hby at_54) rfl (own_nzN (by omega) (by omega)) kt) ?_
  show Go p e below P (T3.setTop (mkF m 55 #[.val (.int g), .val (.int f), .val (.int t), .val (.int i0), .val (.int o0), .val (.int (Int32.ofNat G)), .val (.int (Int32.ofNat F)), .val (.int (Int32.ofNat T)), .val (.ref b1), .unset, .unset, .unset, .unset] [(.int ((i0 &&& (2147483647 : Int32)) % (Int32.ofNat (G + 1))))]))
  obtain ⟨I, hIe, hI⟩ := own_I i0 (G := G + 1) (by omega) (by omega)
  rw [hIe]
  show Go p e below P (T3.setTop (mkF m 55 #[.val (.int g), .val (.int f), .val (.int t), .val (.int i0), .val (.int o0), .val (.int (Int32.ofNat G)), .val (.int (Int32.ofNat F)), .val (.int (Int32.ofNat T)), .val (.ref b1), .unset, .unset, .unset, .unset] [(.int (Int32.ofNat I))]))
  refine Go.st (fun _ kt => XS.istore X3.here hx rfl (hb hby at_55) rfl (l' := #[.val (.int g), .val (.int f), .val (.int t), .val (.int i0), .val (.int o0), .val (.int (Int32.ofNat G)), .val (.int (Int32.ofNat F)), .val (.int (Int32.ofNat T)), .val (.ref b1), .val (.int (Int32.ofNat I)), .unset, .unset, .unset]) rfl (XS.iload X3.here hx rfl (hb hby at_57) rfl (X3.ldcInt hx hown (mvT hZ (hw _ (List.mem_of_getElem? (i := 0) rfl))) (g := (mkF m 59 #[.val (.int g), .val (.int f), .val (.int t), .val (.int i0), .val (.int o0), .val (.int (Int32.ofNat G)), .val (.int (Int32.ofNat F)), .val (.int (Int32.ofNat T)), .val (.ref b1), .val (.int (Int32.ofNat I)), .unset, .unset, .unset] [(.int o0)])) rfl (hb hby at_59) _ (XS.iand X3.here hx rfl (hb hby at_61) rfl (XS.iload X3.here hx rfl (hb hby at_62) rfl (iremM X3 hx rfl (hb hby at_64) rfl (own_nzN (by omega) (by omega)) kt)))))) ?_
  show Go p e below P (T3.setTop (mkF m 65 #[.val (.int g), .val (.int f), .val (.int t), .val (.int i0), .val (.int o0), .val (.int (Int32.ofNat G)), .val (.int (Int32.ofNat F)), .val (.int (Int32.ofNat T)), .val (.ref b1), .val (.int (Int32.ofNat I)), .unset, .unset, .unset] [(.int ((o0 &&& (2147483647 : Int32)) % (Int32.ofNat F)))]))
  obtain ⟨O, hOe, hO⟩ := own_I o0 (G := F) (by omega) (by omega)
  rw [hOe]
  show Go p e below P (T3.setTop (mkF m 65 #[.val (.int g), .val (.int f), .val (.int t), .val (.int i0), .val (.int o0), .val (.int (Int32.ofNat G)), .val (.int (Int32.ofNat F)), .val (.int (Int32.ofNat T)), .val (.ref b1), .val (.int (Int32.ofNat I)), .unset, .unset, .unset] [(.int (Int32.ofNat O))]))
  refine Go.st (fun _ kt => XS.istore X3.here hx rfl (hb hby at_65) rfl (l' := #[.val (.int g), .val (.int f), .val (.int t), .val (.int i0), .val (.int o0), .val (.int (Int32.ofNat G)), .val (.int (Int32.ofNat F)), .val (.int (Int32.ofNat T)), .val (.ref b1), .val (.int (Int32.ofNat I)), .val (.int (Int32.ofNat O)), .unset, .unset]) rfl (XS.aload X3.here hx rfl (hb hby at_67) rfl rfl (XS.iload X3.here hx rfl (hb hby at_69) rfl kt))) ?_
  show Go p e below P (T3.setTop (mkF m 71 #[.val (.int g), .val (.int f), .val (.int t), .val (.int i0), .val (.int o0), .val (.int (Int32.ofNat G)), .val (.int (Int32.ofNat F)), .val (.int (Int32.ofNat T)), .val (.ref b1), .val (.int (Int32.ofNat I)), .val (.int (Int32.ofNat O)), .unset, .unset] [(.int (Int32.ofNat I)), (.ref b1)]))
  obtain ⟨_, T4, Lc4, X4, ⟨rfl, Nq4, eq4⟩, st4⟩ := callCv X3 hx hZ rfl (y := (⟨"io/sluicegate/runtime/KeyGroupPlan", "copiesFrom", "(I)I"⟩ : MethodName)) (a := b1) (argsL := [(.int (Int32.ofNat I))]) (rest := []) hown (hw _ (List.mem_of_getElem? (i := 45) rfl)) (hw _ (List.mem_of_getElem? (i := 46) rfl)) (hw _ (List.mem_of_getElem? (i := 48) rfl)) (hw _ (List.mem_of_getElem? (i := 47) rfl)) (hw _ (List.mem_of_getElem? (i := 3) rfl)) (hw _ (List.mem_of_getElem? (i := 49) rfl)) (by decide) Ei3 (rmC l Z a0 hw b1 (Int32.ofNat I) T I tc c1 _ n0 K3 Ft3 Fc3 Vc3 rfl (by omega) (by omega) (fun g j q => (hpl.1 g j q).1)) (W := 0) (by decide) (by decide) (g := (mkF m 71 #[.val (.int g), .val (.int f), .val (.int t), .val (.int i0), .val (.int o0), .val (.int (Int32.ofNat G)), .val (.int (Int32.ofNat F)), .val (.int (Int32.ofNat T)), .val (.ref b1), .val (.int (Int32.ofNat I)), .val (.int (Int32.ofNat O)), .unset, .unset] [(.int (Int32.ofNat I)), (.ref b1)])) rfl (by rw [hml]; rfl) (lenOf pd_7 rfl) rfl (by show 2 * 0 + _ ≤ _; exact Nat.le_of_eq rfl) (hb hby at_71) (by decide) (by decide)
  have N4 := Fr.app N3 Nq4
  have e4 : T4.heap = T3.heap := eq4
  refine Go.st st4 ?_
  show Go p e below P (T4.setTop (mkF m 74 #[.val (.int g), .val (.int f), .val (.int t), .val (.int i0), .val (.int o0), .val (.int (Int32.ofNat G)), .val (.int (Int32.ofNat F)), .val (.int (Int32.ofNat T)), .val (.ref b1), .val (.int (Int32.ofNat I)), .val (.int (Int32.ofNat O)), .unset, .unset] [(.int (own_enc (own_cf c1 T I)))]))
  refine Go.st (fun _ kt => XS.istore X4.here hx rfl (hb hby at_74) rfl (l' := #[.val (.int g), .val (.int f), .val (.int t), .val (.int i0), .val (.int o0), .val (.int (Int32.ofNat G)), .val (.int (Int32.ofNat F)), .val (.int (Int32.ofNat T)), .val (.ref b1), .val (.int (Int32.ofNat I)), .val (.int (Int32.ofNat O)), .val (.int (own_enc (own_cf c1 T I))), .unset]) rfl (XS.iload X4.here hx rfl (hb hby at_76) rfl (XS.iload X4.here hx rfl (hb hby at_78) rfl kt))) ?_
  show Go p e below P (T4.setTop (mkF m 80 #[.val (.int g), .val (.int f), .val (.int t), .val (.int i0), .val (.int o0), .val (.int (Int32.ofNat G)), .val (.int (Int32.ofNat F)), .val (.int (Int32.ofNat T)), .val (.ref b1), .val (.int (Int32.ofNat I)), .val (.int (Int32.ofNat O)), .val (.int (own_enc (own_cf c1 T I))), .unset] [(.int (Int32.ofNat T)), (.int (Int32.ofNat I))]))
  by_cases br5 : (Int32.ofNat I) < (Int32.ofNat T)
  · refine Go.st (fun _ kt => XS.icmpYes X4.here hx rfl (pc0 := 80) (pc' := 95) rfl (hb hby at_80) rfl (tlt br5).1 (by decide) (by decide) kt) ?_
    show Go p e below P (T4.setTop (mkF m 95 #[.val (.int g), .val (.int f), .val (.int t), .val (.int i0), .val (.int o0), .val (.int (Int32.ofNat G)), .val (.int (Int32.ofNat F)), .val (.int (Int32.ofNat T)), .val (.ref b1), .val (.int (Int32.ofNat I)), .val (.int (Int32.ofNat O)), .val (.int (own_enc (own_cf c1 T I))), .unset] []))
    rw [own_ltN (by omega) (by omega)] at br5
    obtain ⟨hk1, hk2, hk3⟩ : ¬ own_enc (own_cf c1 T I) < (-1 : Int32) ∧ own_enc (own_cf c1 T I) < Int32.ofNat F ∧ ¬ own_enc (own_cf c1 T I) = Int32.ofNat I := by
        have hm : (-1 : Int32).toInt = -1 := by decide
        cases hcf : own_cf c1 T I with
        | none => rw [own_enc_none]; exact ⟨by decide, by rw [Int32.lt_iff_toInt_lt, hm, own_tn (by omega)]; omega, fun q => by have := congrArg Int32.toInt q; rw [hm, own_tn (by omega)] at this; omega⟩
        | some j =>
          have hj : c1 I = some j ∧ j ≠ I := by
            unfold own_cf at hcf
            by_cases q : I < T ∧ c1 I ≠ some I
            · rw [if_pos q] at hcf; exact ⟨hcf, fun e => q.2 (by rw [hcf, e])⟩
            · rw [if_neg q] at hcf; cases hcf
          have hb := hpl.1 I j hj.1
          rw [own_enc_some]
          exact ⟨by rw [own_lti hm, own_tn (by omega)]; omega, by rw [own_ltN (by omega) (by omega)]; omega, fun q => hj.2 (own_ofn (by omega) (by omega) q)⟩
    refine Go.st (fun _ kt => XS.iload X4.here hx rfl (hb hby at_95) rfl (XS.iconst X4.here hx rfl (hb hby at_97) (XS.icmpNo X4.here hx rfl (hb hby at_98) rfl (flt (hk1 : ¬ (own_enc (own_cf c1 T I)) < (-1 : Int32))).1 (XS.iload X4.here hx rfl (hb hby at_101) rfl (XS.iload X4.here hx rfl (hb hby at_103) rfl (XS.icmpNo X4.here hx rfl (hb hby at_105) rfl (tlt hk2).2.1 (XS.iload X4.here hx rfl (hb hby at_108) rfl (XS.iload X4.here hx rfl (hb hby at_110) rfl kt)))))))) ?_
    show Go p e below P (T4.setTop (mkF m 112 #[.val (.int g), .val (.int f), .val (.int t), .val (.int i0), .val (.int o0), .val (.int (Int32.ofNat G)), .val (.int (Int32.ofNat F)), .val (.int (Int32.ofNat T)), .val (.ref b1), .val (.int (Int32.ofNat I)), .val (.int (Int32.ofNat O)), .val (.int (own_enc (own_cf c1 T I))), .unset] [(.int (Int32.ofNat I)), (.int (own_enc (own_cf c1 T I)))]))
    refine Go.st (fun _ kt => XS.icmpYes X4.here hx rfl (pc0 := 112) (pc' := 117) rfl (hb hby at_112) rfl (feq hk3).2 (by decide) (by decide) (XS.iload X4.here hx rfl (hb hby at_117) rfl (XS.iload X4.here hx rfl (hb hby at_119) rfl kt))) ?_
    show Go p e below P (T4.setTop (mkF m 121 #[.val (.int g), .val (.int f), .val (.int t), .val (.int i0), .val (.int o0), .val (.int (Int32.ofNat G)), .val (.int (Int32.ofNat F)), .val (.int (Int32.ofNat T)), .val (.ref b1), .val (.int (Int32.ofNat I)), .val (.int (Int32.ofNat O)), .val (.int (own_enc (own_cf c1 T I))), .unset] [(.int (Int32.ofNat I)), (.int (Int32.ofNat O))]))
    by_cases br6 : (Int32.ofNat O) = (Int32.ofNat I)
    · refine Go.st (fun _ kt => XS.icmpNo X4.here hx rfl (hb hby at_121) rfl (teq br6).2 kt) ?_
      show Go p e below P (T4.setTop (mkF m 124 #[.val (.int g), .val (.int f), .val (.int t), .val (.int i0), .val (.int o0), .val (.int (Int32.ofNat G)), .val (.int (Int32.ofNat F)), .val (.int (Int32.ofNat T)), .val (.ref b1), .val (.int (Int32.ofNat I)), .val (.int (Int32.ofNat O)), .val (.int (own_enc (own_cf c1 T I))), .unset] []))
      refine Go.st (fun _ kt => XS.iconst X4.here hx rfl (hb hby at_124) kt) ?_
      show Go p e below P (T4.setTop (mkF m 125 #[.val (.int g), .val (.int f), .val (.int t), .val (.int i0), .val (.int o0), .val (.int (Int32.ofNat G)), .val (.int (Int32.ofNat F)), .val (.int (Int32.ofNat T)), .val (.ref b1), .val (.int (Int32.ofNat I)), .val (.int (Int32.ofNat O)), .val (.int (own_enc (own_cf c1 T I))), .unset] [(.int (1 : Int32))]))
      exact goN X4 hx (t := .boolean) hret (by simp) hlk (hb hby at_125) hP (by decide) (by decide) ⟨rfl, N4⟩
    · refine Go.st (fun _ kt => XS.icmpYes X4.here hx rfl (pc0 := 121) (pc' := 126) rfl (hb hby at_121) rfl (feq br6).2 (by decide) (by decide) kt) ?_
      show Go p e below P (T4.setTop (mkF m 126 #[.val (.int g), .val (.int f), .val (.int t), .val (.int i0), .val (.int o0), .val (.int (Int32.ofNat G)), .val (.int (Int32.ofNat F)), .val (.int (Int32.ofNat T)), .val (.ref b1), .val (.int (Int32.ofNat I)), .val (.int (Int32.ofNat O)), .val (.int (own_enc (own_cf c1 T I))), .unset] []))
      refine Go.st (fun _ kt => XS.aload X4.here hx rfl (hb hby at_126) rfl rfl (XS.iload X4.here hx rfl (hb hby at_128) rfl kt)) ?_
      show Go p e below P (T4.setTop (mkF m 130 #[.val (.int g), .val (.int f), .val (.int t), .val (.int i0), .val (.int o0), .val (.int (Int32.ofNat G)), .val (.int (Int32.ofNat F)), .val (.int (Int32.ofNat T)), .val (.ref b1), .val (.int (Int32.ofNat I)), .val (.int (Int32.ofNat O)), .val (.int (own_enc (own_cf c1 T I))), .unset] [(.int (Int32.ofNat O)), (.ref b1)]))
      obtain ⟨_, T7, Lc7, X7, ⟨rfl, Nq7, eq7⟩, st7⟩ := callCv X4 hx hZ e4 (y := (⟨"io/sluicegate/runtime/KeyGroupPlan", "holder", "(I)I"⟩ : MethodName)) (a := b1) (argsL := [(.int (Int32.ofNat O))]) (rest := []) hown (hw _ (List.mem_of_getElem? (i := 57) rfl)) (hw _ (List.mem_of_getElem? (i := 58) rfl)) (hw _ (List.mem_of_getElem? (i := 60) rfl)) (hw _ (List.mem_of_getElem? (i := 59) rfl)) (hw _ (List.mem_of_getElem? (i := 3) rfl)) (hw _ (List.mem_of_getElem? (i := 61) rfl)) (by decide) Ei3 (rmH l Z a0 hw b1 (Int32.ofNat O) F O th hd _ n0 K3 Fh3 Vh3 rfl hO (by omega)) (W := 0) (by decide) (by decide) (g := (mkF m 130 #[.val (.int g), .val (.int f), .val (.int t), .val (.int i0), .val (.int o0), .val (.int (Int32.ofNat G)), .val (.int (Int32.ofNat F)), .val (.int (Int32.ofNat T)), .val (.ref b1), .val (.int (Int32.ofNat I)), .val (.int (Int32.ofNat O)), .val (.int (own_enc (own_cf c1 T I))), .unset] [(.int (Int32.ofNat O)), (.ref b1)])) rfl (by rw [hml]; rfl) (lenOf pd_7 rfl) rfl (by show 2 * 0 + _ ≤ _; exact Nat.le_of_eq rfl) (hb hby at_130) (by decide) (by decide)
      have N7 := Fr.app N4 Nq7
      have e7 : T7.heap = T3.heap := eq7
      refine Go.st st7 ?_
      show Go p e below P (T7.setTop (mkF m 133 #[.val (.int g), .val (.int f), .val (.int t), .val (.int i0), .val (.int o0), .val (.int (Int32.ofNat G)), .val (.int (Int32.ofNat F)), .val (.int (Int32.ofNat T)), .val (.ref b1), .val (.int (Int32.ofNat I)), .val (.int (Int32.ofNat O)), .val (.int (own_enc (own_cf c1 T I))), .unset] [(.int (Int32.ofNat (hd O)))]))
      refine Go.st (fun _ kt => XS.iload X7.here hx rfl (hb hby at_133) rfl kt) ?_
      show Go p e below P (T7.setTop (mkF m 135 #[.val (.int g), .val (.int f), .val (.int t), .val (.int i0), .val (.int o0), .val (.int (Int32.ofNat G)), .val (.int (Int32.ofNat F)), .val (.int (Int32.ofNat T)), .val (.ref b1), .val (.int (Int32.ofNat I)), .val (.int (Int32.ofNat O)), .val (.int (own_enc (own_cf c1 T I))), .unset] [(.int (Int32.ofNat I)), (.int (Int32.ofNat (hd O)))]))
      by_cases br8 : (Int32.ofNat (hd O)) = (Int32.ofNat I)
      · refine Go.st (fun _ kt => XS.icmpNo X7.here hx rfl (hb hby at_135) rfl (teq br8).2 kt) ?_
        show Go p e below P (T7.setTop (mkF m 138 #[.val (.int g), .val (.int f), .val (.int t), .val (.int i0), .val (.int o0), .val (.int (Int32.ofNat G)), .val (.int (Int32.ofNat F)), .val (.int (Int32.ofNat T)), .val (.ref b1), .val (.int (Int32.ofNat I)), .val (.int (Int32.ofNat O)), .val (.int (own_enc (own_cf c1 T I))), .unset] []))
        refine Go.st (fun _ kt => XS.iconst X7.here hx rfl (hb hby at_138) (XS.goto X7.here hx rfl (pc0 := 139) (pc' := 143) rfl (hb hby at_139) (by decide) (by decide) (XS.istore X7.here hx rfl (hb hby at_143) rfl (l' := #[.val (.int g), .val (.int f), .val (.int t), .val (.int i0), .val (.int o0), .val (.int (Int32.ofNat G)), .val (.int (Int32.ofNat F)), .val (.int (Int32.ofNat T)), .val (.ref b1), .val (.int (Int32.ofNat I)), .val (.int (Int32.ofNat O)), .val (.int (own_enc (own_cf c1 T I))), .val (.int (1 : Int32))]) rfl (XS.iload X7.here hx rfl (hb hby at_145) rfl (XS.iload X7.here hx rfl (hb hby at_147) rfl kt))))) ?_
        show Go p e below P (T7.setTop (mkF m 149 #[.val (.int g), .val (.int f), .val (.int t), .val (.int i0), .val (.int o0), .val (.int (Int32.ofNat G)), .val (.int (Int32.ofNat F)), .val (.int (Int32.ofNat T)), .val (.ref b1), .val (.int (Int32.ofNat I)), .val (.int (Int32.ofNat O)), .val (.int (own_enc (own_cf c1 T I))), .val (.int (1 : Int32))] [(.int (Int32.ofNat O)), (.int (own_enc (own_cf c1 T I)))]))
        by_cases br9 : (own_enc (own_cf c1 T I)) = (Int32.ofNat O)
        · refine Go.st (fun _ kt => XS.icmpNo X7.here hx rfl (hb hby at_149) rfl (teq br9).2 kt) ?_
          show Go p e below P (T7.setTop (mkF m 152 #[.val (.int g), .val (.int f), .val (.int t), .val (.int i0), .val (.int o0), .val (.int (Int32.ofNat G)), .val (.int (Int32.ofNat F)), .val (.int (Int32.ofNat T)), .val (.ref b1), .val (.int (Int32.ofNat I)), .val (.int (Int32.ofNat O)), .val (.int (own_enc (own_cf c1 T I))), .val (.int (1 : Int32))] []))
          refine Go.st (fun _ kt => XS.iconst X7.here hx rfl (hb hby at_152) (XS.goto X7.here hx rfl (pc0 := 153) (pc' := 157) rfl (hb hby at_153) (by decide) (by decide) (XS.iload X7.here hx rfl (hb hby at_157) rfl (XS.icmpNo X7.here hx rfl (hb hby at_159) rfl (teq (by decide : (1 : Int32) = (1 : Int32))).2 (XS.iconst X7.here hx rfl (hb hby at_162) (XS.goto X7.here hx rfl (pc0 := 163) (pc' := 167) rfl (hb hby at_163) (by decide) (by decide) kt)))))) ?_
          show Go p e below P (T7.setTop (mkF m 167 #[.val (.int g), .val (.int f), .val (.int t), .val (.int i0), .val (.int o0), .val (.int (Int32.ofNat G)), .val (.int (Int32.ofNat F)), .val (.int (Int32.ofNat T)), .val (.ref b1), .val (.int (Int32.ofNat I)), .val (.int (Int32.ofNat O)), .val (.int (own_enc (own_cf c1 T I))), .val (.int (1 : Int32))] [(.int (1 : Int32))]))
          exact goN X7 hx (t := .boolean) hret (by simp) hlk (hb hby at_167) hP (by decide) (by decide) ⟨rfl, N7⟩
        · refine Go.st (fun _ kt => XS.icmpYes X7.here hx rfl (pc0 := 149) (pc' := 156) rfl (hb hby at_149) rfl (feq br9).2 (by decide) (by decide) kt) ?_
          show Go p e below P (T7.setTop (mkF m 156 #[.val (.int g), .val (.int f), .val (.int t), .val (.int i0), .val (.int o0), .val (.int (Int32.ofNat G)), .val (.int (Int32.ofNat F)), .val (.int (Int32.ofNat T)), .val (.ref b1), .val (.int (Int32.ofNat I)), .val (.int (Int32.ofNat O)), .val (.int (own_enc (own_cf c1 T I))), .val (.int (1 : Int32))] []))
          refine Go.st (fun _ kt => XS.iconst X7.here hx rfl (hb hby at_156) (XS.iload X7.here hx rfl (hb hby at_157) rfl (XS.icmpYes X7.here hx rfl (pc0 := 159) (pc' := 166) rfl (hb hby at_159) rfl (feq (by decide : ¬ ((0 : Int32) = (1 : Int32)))).2 (by decide) (by decide) (XS.iconst X7.here hx rfl (hb hby at_166) kt)))) ?_
          show Go p e below P (T7.setTop (mkF m 167 #[.val (.int g), .val (.int f), .val (.int t), .val (.int i0), .val (.int o0), .val (.int (Int32.ofNat G)), .val (.int (Int32.ofNat F)), .val (.int (Int32.ofNat T)), .val (.ref b1), .val (.int (Int32.ofNat I)), .val (.int (Int32.ofNat O)), .val (.int (own_enc (own_cf c1 T I))), .val (.int (1 : Int32))] [(.int (0 : Int32))]))
          exfalso
          have hne : O ≠ I := fun q => br6 (by rw [q])
          have hhd2 := hpl.2.1 O hO
          have key := hpl.2.2 I O hne br5 hO
          rw [← own_cf_eq br5 hne] at key
          have k1 : own_enc (own_cf c1 T I) = Int32.ofNat O ↔ own_cf c1 T I = some O := own_enc_eq (fun j q => by
              unfold own_cf at q
              split at q
              · have := hpl.1 I j q; omega
              · cases q) (by omega)
          have k2 : Int32.ofNat (hd O) = Int32.ofNat I ↔ hd O = I := ⟨fun q => own_ofn (by omega) (by omega) q, fun q => by rw [q]⟩
          exact br9 (k1.mpr (key.mpr (k2.mp br8)))
      · refine Go.st (fun _ kt => XS.icmpYes X7.here hx rfl (pc0 := 135) (pc' := 142) rfl (hb hby at_135) rfl (feq br8).2 (by decide) (by decide) kt) ?_
        show Go p e below P (T7.setTop (mkF m 142 #[.val (.int g), .val (.int f), .val (.int t), .val (.int i0), .val (.int o0), .val (.int (Int32.ofNat G)), .val (.int (Int32.ofNat F)), .val (.int (Int32.ofNat T)), .val (.ref b1), .val (.int (Int32.ofNat I)), .val (.int (Int32.ofNat O)), .val (.int (own_enc (own_cf c1 T I))), .unset] []))
        refine Go.st (fun _ kt => XS.iconst X7.here hx rfl (hb hby at_142) (XS.istore X7.here hx rfl (hb hby at_143) rfl (l' := #[.val (.int g), .val (.int f), .val (.int t), .val (.int i0), .val (.int o0), .val (.int (Int32.ofNat G)), .val (.int (Int32.ofNat F)), .val (.int (Int32.ofNat T)), .val (.ref b1), .val (.int (Int32.ofNat I)), .val (.int (Int32.ofNat O)), .val (.int (own_enc (own_cf c1 T I))), .val (.int (0 : Int32))]) rfl (XS.iload X7.here hx rfl (hb hby at_145) rfl (XS.iload X7.here hx rfl (hb hby at_147) rfl kt)))) ?_
        show Go p e below P (T7.setTop (mkF m 149 #[.val (.int g), .val (.int f), .val (.int t), .val (.int i0), .val (.int o0), .val (.int (Int32.ofNat G)), .val (.int (Int32.ofNat F)), .val (.int (Int32.ofNat T)), .val (.ref b1), .val (.int (Int32.ofNat I)), .val (.int (Int32.ofNat O)), .val (.int (own_enc (own_cf c1 T I))), .val (.int (0 : Int32))] [(.int (Int32.ofNat O)), (.int (own_enc (own_cf c1 T I)))]))
        by_cases br10 : (own_enc (own_cf c1 T I)) = (Int32.ofNat O)
        · refine Go.st (fun _ kt => XS.icmpNo X7.here hx rfl (hb hby at_149) rfl (teq br10).2 kt) ?_
          show Go p e below P (T7.setTop (mkF m 152 #[.val (.int g), .val (.int f), .val (.int t), .val (.int i0), .val (.int o0), .val (.int (Int32.ofNat G)), .val (.int (Int32.ofNat F)), .val (.int (Int32.ofNat T)), .val (.ref b1), .val (.int (Int32.ofNat I)), .val (.int (Int32.ofNat O)), .val (.int (own_enc (own_cf c1 T I))), .val (.int (0 : Int32))] []))
          refine Go.st (fun _ kt => XS.iconst X7.here hx rfl (hb hby at_152) (XS.goto X7.here hx rfl (pc0 := 153) (pc' := 157) rfl (hb hby at_153) (by decide) (by decide) (XS.iload X7.here hx rfl (hb hby at_157) rfl (XS.icmpYes X7.here hx rfl (pc0 := 159) (pc' := 166) rfl (hb hby at_159) rfl (feq (by decide : ¬ ((1 : Int32) = (0 : Int32)))).2 (by decide) (by decide) (XS.iconst X7.here hx rfl (hb hby at_166) kt))))) ?_
          show Go p e below P (T7.setTop (mkF m 167 #[.val (.int g), .val (.int f), .val (.int t), .val (.int i0), .val (.int o0), .val (.int (Int32.ofNat G)), .val (.int (Int32.ofNat F)), .val (.int (Int32.ofNat T)), .val (.ref b1), .val (.int (Int32.ofNat I)), .val (.int (Int32.ofNat O)), .val (.int (own_enc (own_cf c1 T I))), .val (.int (0 : Int32))] [(.int (0 : Int32))]))
          exfalso
          have hne : O ≠ I := fun q => br6 (by rw [q])
          have hhd2 := hpl.2.1 O hO
          have key := hpl.2.2 I O hne br5 hO
          rw [← own_cf_eq br5 hne] at key
          have k1 : own_enc (own_cf c1 T I) = Int32.ofNat O ↔ own_cf c1 T I = some O := own_enc_eq (fun j q => by
              unfold own_cf at q
              split at q
              · have := hpl.1 I j q; omega
              · cases q) (by omega)
          have k2 : Int32.ofNat (hd O) = Int32.ofNat I ↔ hd O = I := ⟨fun q => own_ofn (by omega) (by omega) q, fun q => by rw [q]⟩
          exact br8 (k2.mpr (key.mp (k1.mp br10)))
        · refine Go.st (fun _ kt => XS.icmpYes X7.here hx rfl (pc0 := 149) (pc' := 156) rfl (hb hby at_149) rfl (feq br10).2 (by decide) (by decide) kt) ?_
          show Go p e below P (T7.setTop (mkF m 156 #[.val (.int g), .val (.int f), .val (.int t), .val (.int i0), .val (.int o0), .val (.int (Int32.ofNat G)), .val (.int (Int32.ofNat F)), .val (.int (Int32.ofNat T)), .val (.ref b1), .val (.int (Int32.ofNat I)), .val (.int (Int32.ofNat O)), .val (.int (own_enc (own_cf c1 T I))), .val (.int (0 : Int32))] []))
          refine Go.st (fun _ kt => XS.iconst X7.here hx rfl (hb hby at_156) (XS.iload X7.here hx rfl (hb hby at_157) rfl (XS.icmpNo X7.here hx rfl (hb hby at_159) rfl (teq (by decide : (0 : Int32) = (0 : Int32))).2 (XS.iconst X7.here hx rfl (hb hby at_162) (XS.goto X7.here hx rfl (pc0 := 163) (pc' := 167) rfl (hb hby at_163) (by decide) (by decide) kt))))) ?_
          show Go p e below P (T7.setTop (mkF m 167 #[.val (.int g), .val (.int f), .val (.int t), .val (.int i0), .val (.int o0), .val (.int (Int32.ofNat G)), .val (.int (Int32.ofNat F)), .val (.int (Int32.ofNat T)), .val (.ref b1), .val (.int (Int32.ofNat I)), .val (.int (Int32.ofNat O)), .val (.int (own_enc (own_cf c1 T I))), .val (.int (0 : Int32))] [(.int (1 : Int32))]))
          exact goN X7 hx (t := .boolean) hret (by simp) hlk (hb hby at_167) hP (by decide) (by decide) ⟨rfl, N7⟩
  · refine Go.st (fun _ kt => XS.icmpNo X4.here hx rfl (hb hby at_80) rfl (flt br5).1 kt) ?_
    show Go p e below P (T4.setTop (mkF m 83 #[.val (.int g), .val (.int f), .val (.int t), .val (.int i0), .val (.int o0), .val (.int (Int32.ofNat G)), .val (.int (Int32.ofNat F)), .val (.int (Int32.ofNat T)), .val (.ref b1), .val (.int (Int32.ofNat I)), .val (.int (Int32.ofNat O)), .val (.int (own_enc (own_cf c1 T I))), .unset] []))
    refine Go.st (fun _ kt => XS.iload X4.here hx rfl (hb hby at_83) rfl (XS.iconst X4.here hx rfl (hb hby at_85) (XS.icmpNo X4.here hx rfl (hb hby at_86) rfl (teq ((by rw [own_cf_none (Or.inl (fun q => br5 ((own_ltN (by omega) (by omega)).mpr q)))]; rfl) : (own_enc (own_cf c1 T I)) = (-1 : Int32))).2 (XS.iconst X4.here hx rfl (hb hby at_89) (XS.goto X4.here hx rfl (pc0 := 90) (pc' := 94) rfl (hb hby at_90) (by decide) (by decide) kt))))) ?_
    show Go p e below P (T4.setTop (mkF m 94 #[.val (.int g), .val (.int f), .val (.int t), .val (.int i0), .val (.int o0), .val (.int (Int32.ofNat G)), .val (.int (Int32.ofNat F)), .val (.int (Int32.ofNat T)), .val (.ref b1), .val (.int (Int32.ofNat I)), .val (.int (Int32.ofNat O)), .val (.int (own_enc (own_cf c1 T I))), .unset] [(.int (1 : Int32))]))
    exact goN X4 hx (t := .boolean) hret (by simp) hlk (hb hby at_94) hP (by decide) (by decide) ⟨rfl, N4⟩
set_option maxRecDepth 65536 in
set_option maxHeartbeats 40000000 in
theorem comes_1 {Post : Tables → Env → Array Value → State → Outcome → State → Prop} (hpost : ∀ tb e args s v u, (limb_1_1.after args s (.returned v) u = true ∧ limb_1_2.after args s (.returned v) u = true ∧ True) → FrameEnd s (.returned v) u (Jvm.fieldLocs frame_1_writes args s ++ Jvm.arrayLocs frame_1_arrays args s ++ Jvm.staticLocs frame_1_statics s) 16 1664 → Post tb e args s (.returned v) u) :
    ArmFor flags0 classFile x code maxLocals ret World_1 tables_1 room_1 Calls_1 rest_1 Pre_1 Post := by
  intro l hfl _ _ p e ha hc hk s m args below hf hA hF happ hP
  obtain ⟨hcalls, hrest, hpre⟩ := hP
  obtain ⟨-, -, -, hnamed, -, -, -, hat⟩ := (Spec.applies_iff hf).mp happ
  obtain ⟨hg, hn⟩ := and_e (Cond.before_iff.mp (show (Jvm.Cond.and given_1 narrow_1).before args s = true from hpre))
  obtain ⟨g1, g2⟩ := and_e hg
  obtain ⟨g3, g4⟩ := and_e g2
  obtain ⟨g5, g6⟩ := and_e g4
  obtain ⟨g7, g8⟩ := and_e g6
  obtain ⟨g9, g10⟩ := and_e g8
  obtain ⟨w0, w1, w2, w3, w4, rfl⟩ : ∃ w0 w1 w2 w3 w4 : Value, args = #[w0, w1, w2, w3, w4] := by
    have hs : args.size = 5 := by simpa [Cond.value, given_1] using g1
    obtain ⟨L⟩ := args
    match L, hs with
    | [w0, w1, w2, w3, w4], _ => exact ⟨w0, w1, w2, w3, w4, rfl⟩
  have hw := fun d (hd : d ∈ tables_1) => atoms_spec (ws := Jvm.Cond.code x code maxLocals ret :: tables_1) hat d (List.mem_cons_of_mem _ hd)
  obtain ⟨i0, ei0⟩ := is_v g3
  obtain rfl : w0 = (.int i0) := Option.some.inj ei0
  obtain ⟨i1, ei1⟩ := is_v g5
  obtain rfl : w1 = (.int i1) := Option.some.inj ei1
  obtain ⟨i2, ei2⟩ := is_v g7
  obtain rfl : w2 = (.int i2) := Option.some.inj ei2
  obtain ⟨i3, ei3⟩ := is_v g9
  obtain rfl : w3 = (.int i3) := Option.some.inj ei3
  obtain ⟨i4, ei4⟩ := is_v g10
  obtain rfl : w4 = (.int i4) := Option.some.inj ei4
  obtain ⟨n, o, h1, h2, h3, _, L, rfl, ⟨rfl, N⟩, hq⟩ := rm0 l s _ hw tables_1 i0 i1 i2 i3 i4 s.heap s.heap.size (Nat.le_refl _) p e ha hc hk s m _ below hf ((Spec.applies_iff_loose hf).mp happ).1 ⟨rfl, State.Warmed39.refl s, rfl⟩ trivial
  refine ⟨n, _, h1, h2, h3, hpost _ _ _ _ _ _ ⟨Cond.after_iff.mpr rfl, Cond.after_iff.mpr (eq_i res_at (Term.int_eval (1)) rfl), trivial⟩ ⟨hq.1, hq.2.1, (hq.2.2.sift fun y hy => Or.inr (N y hy)).mono (by decide) (by decide)⟩⟩
theorem main_1_1 : Claimed_1_1 := comes_1 fun _ _ _ _ _ _ h hF => ⟨h.1, hF⟩
theorem main_1_2 : Claimed_1_2 := comes_1 fun _ _ _ _ _ _ h hF => ⟨h.2.1, hF⟩
end Jvm.Pilot.@@N@@
namespace Jvm.Pilot.@@N@@
open Jvm Jvm.ClassFile Sem Op Lib Jvm.Free Jvm.Stand Jvm.Pilot.@@N@@.Jvm.D
/-! MADE BY PROGRAM (witnessworld.py) out of the Statement's table words and the real class files: 12 classes; the members and pool entries that the words name. The judged class is class 1, her method 1. -/
namespace start1
open Jvm.ClassFile
def u (s : String) : CpInfo := .utf8 (stringToUtf16 s)
/-- a pool by its gaps: so many unusable entries, then the entry; so many at the end -/
def gap : Nat → List CpInfo → List CpInfo
  | 0, r => r
  | n + 1, r => .unusable :: gap n r
def poolList (es : List (Nat × CpInfo)) (last : Nat) : List CpInfo := es.foldr (fun e r => gap e.1 (e.2 :: r)) (gap last [])
def pool (es : List (Nat × CpInfo)) (last : Nat) : Array CpInfo := ⟨poolList es last⟩
def fileOf (pool : Array CpInfo) (this : Nat) (attrs : Array Attribute := #[]) (ms : Array MethodInfo := #[]) (fl : Nat := 33) (sup : Nat := 0) (ifs : Array Nat := #[]) (fds : Array FieldInfo := #[]) : ClassFile where
  minorVersion := 0
  majorVersion := 65
  constantPool := pool
  accessFlags := fl
  thisClass := this
  superClass := sup
  interfaces := ifs
  fields := fds
  methods := ms
  attributes := attrs
def plain (name : String) (sup : Option ClassId) : Class where
  name := name
  kind := .ordinary
  loader := none
  accessFlags := 33
  super := sup
  interfaces := #[]
  cf := none
  fields := #[]
  methods := #[]
  instanceTypes := #[]
  staticTypes := #[]
  resolved := #[]
  callSites := []
  init := .initialized
  statics := none
  mirror := none

def pool0 : Array CpInfo := pool [(5, u "<init>"), (0, u "()V"), (1, .class_ 10), (1, u "java/lang/Object")] 113

def k0c0 : Code := { maxStack := 0, maxLocals := 1, code := object_method_1_code, exceptionTable := #[], attributes := #[] }
def k0m0 : Method := { name := "<init>", desc := "()V", sig := { parameters := [], returnType := none }, accessFlags := 1, code := some k0c0 }
/-- java/lang/Object -/
def k0 : Class := { plain "java/lang/Object" none with
  accessFlags := 33
  interfaces := #[]
  cf := some (fileOf pool0 8 #[] #[{ accessFlags := 1, nameIndex := 5, descriptorIndex := 6, attributes := #[] }] 33 0 #[] #[])
  fields := #[]
  methods := #[k0m0]
  instanceTypes := #[]
  staticTypes := #[]
  resolved := Array.replicate 124 none
  statics := none }

def pool1 : Array CpInfo := pool [(2, .class_ 4), (1, u "java/lang/Object"), (0, u "<init>"), (0, u "()V"), (0, .integer 2147483647), (0, .class_ 9), (0, u "io/sluicegate/runtime/KeyGroupPlan"), (0, .methodref 8 11), (0, .nameAndType 5 12), (0, u "(III)V"), (0, .methodref 8 14), (0, .nameAndType 15 16), (0, u "copiesFrom"), (0, u "(I)I"), (0, .methodref 8 18), (0, .nameAndType 19 16), (0, u "holder"), (0, .class_ 21), (0, u "io/sluicegate/runtime/KeyGroupPlanCopiesFromPinLaw"), (2, u "law"), (0, u "(IIIII)Z")] 3

def k1m0 : Method := { name := "<init>", desc := "()V", sig := { parameters := [], returnType := none }, accessFlags := 1, code := none }
def k1c1 : Code := { maxStack := 5, maxLocals := 13, code := code, exceptionTable := #[], attributes := #[] }
def k1m1 : Method := { name := "law", desc := "(IIIII)Z", sig := { parameters := [.int, .int, .int, .int, .int], returnType := some .boolean }, accessFlags := 9, code := some k1c1 }
/-- io/sluicegate/runtime/KeyGroupPlanCopiesFromPinLaw -/
def k1 : Class := { plain "io/sluicegate/runtime/KeyGroupPlanCopiesFromPinLaw" (some 0) with
  accessFlags := 49
  interfaces := #[]
  cf := some (fileOf pool1 20 #[] #[{ accessFlags := 1, nameIndex := 5, descriptorIndex := 6, attributes := #[] }, { accessFlags := 9, nameIndex := 24, descriptorIndex := 25, attributes := #[] }] 49 2 #[] #[])
  fields := #[]
  methods := #[k1m0, k1m1]
  instanceTypes := #[]
  staticTypes := #[]
  resolved := Array.replicate 29 none
  statics := none }

def pool2 : Array CpInfo := pool [(1, .methodref 2 3), (0, .class_ 4), (0, .nameAndType 5 6), (0, u "java/lang/Object"), (0, u "<init>"), (0, u "()V"), (9, .fieldref 17 18), (0, .class_ 19), (0, .nameAndType 20 21), (0, u "io/sluicegate/runtime/KeyGroupPlan"), (0, u "groups"), (0, u "I"), (0, .fieldref 17 23), (0, .nameAndType 24 21), (0, u "from"), (0, .fieldref 17 26), (0, .nameAndType 27 21), (0, u "to"), (0, .methodref 17 29), (0, .nameAndType 30 31), (0, u "first"), (0, u "(II)I"), (0, .methodref 17 33), (0, .nameAndType 34 31), (0, u "owner"), (0, .methodref 17 36), (0, .nameAndType 37 38), (0, u "best"), (0, u "(III)I"), (0, .fieldref 17 40), (0, .nameAndType 41 42), (0, u "copy"), (0, u "[I"), (0, .methodref 44 45), (0, .class_ 46), (0, .nameAndType 47 48), (0, u "java/util/Arrays"), (0, u "fill"), (0, u "([II)V"), (0, .methodref 17 50), (0, .nameAndType 51 31), (0, u "shared"), (0, .fieldref 17 53), (0, .nameAndType 54 42), (0, u "holder"), (0, .methodref 56 57), (0, .class_ 58), (0, .nameAndType 59 31), (0, u "java/lang/Math"), (0, u "min"), (11, u "copiesFrom"), (0, u "(I)I"), (63, .methodref 56 137), (0, .nameAndType 138 31), (0, u "max"), (0, .methodref 140 141), (0, .class_ 142), (0, .nameAndType 34 38), (0, u "io/sluicegate/runtime/KeyGroups"), (3, u "(III)V")] 56

def k2c0 : Code := { maxStack := 9, maxLocals := 8, code := prog_70_method_1_code, exceptionTable := #[], attributes := #[] }
def k2m0 : Method := { name := "<init>", desc := "(III)V", sig := { parameters := [.int, .int, .int], returnType := none }, accessFlags := 1, code := some k2c0 }
def k2c1 : Code := { maxStack := 2, maxLocals := 2, code := prog_70_method_4_code, exceptionTable := #[], attributes := #[] }
def k2m1 : Method := { name := "holder", desc := "(I)I", sig := { parameters := [.int], returnType := some .int }, accessFlags := 0, code := some k2c1 }
def k2c2 : Code := { maxStack := 2, maxLocals := 2, code := prog_70_method_5_code, exceptionTable := #[], attributes := #[] }
def k2m2 : Method := { name := "copiesFrom", desc := "(I)I", sig := { parameters := [.int], returnType := some .int }, accessFlags := 0, code := some k2c2 }
def k2c3 : Code := { maxStack := 4, maxLocals := 6, code := prog_70_method_11_code, exceptionTable := #[], attributes := #[] }
def k2m3 : Method := { name := "best", desc := "(III)I", sig := { parameters := [.int, .int, .int], returnType := some .int }, accessFlags := 2, code := some k2c3 }
def k2c4 : Code := { maxStack := 6, maxLocals := 3, code := prog_70_method_12_code, exceptionTable := #[], attributes := #[] }
def k2m4 : Method := { name := "shared", desc := "(II)I", sig := { parameters := [.int, .int], returnType := some .int }, accessFlags := 2, code := some k2c4 }
def k2c5 : Code := { maxStack := 4, maxLocals := 3, code := prog_70_method_13_code, exceptionTable := #[], attributes := #[] }
def k2m5 : Method := { name := "first", desc := "(II)I", sig := { parameters := [.int, .int], returnType := some .int }, accessFlags := 2, code := some k2c5 }
def k2c6 : Code := { maxStack := 3, maxLocals := 3, code := prog_70_method_14_code, exceptionTable := #[], attributes := #[] }
def k2m6 : Method := { name := "owner", desc := "(II)I", sig := { parameters := [.int, .int], returnType := some .int }, accessFlags := 2, code := some k2c6 }
/-- io/sluicegate/runtime/KeyGroupPlan -/
def k2 : Class := { plain "io/sluicegate/runtime/KeyGroupPlan" (some 0) with
  accessFlags := 49
  interfaces := #[]
  cf := some (fileOf pool2 17 #[] #[{ accessFlags := 1, nameIndex := 5, descriptorIndex := 146, attributes := #[] }, { accessFlags := 0, nameIndex := 54, descriptorIndex := 72, attributes := #[] }, { accessFlags := 0, nameIndex := 71, descriptorIndex := 72, attributes := #[] }, { accessFlags := 2, nameIndex := 37, descriptorIndex := 38, attributes := #[] }, { accessFlags := 2, nameIndex := 51, descriptorIndex := 31, attributes := #[] }, { accessFlags := 2, nameIndex := 30, descriptorIndex := 31, attributes := #[] }, { accessFlags := 2, nameIndex := 34, descriptorIndex := 31, attributes := #[] }] 49 2 #[] #[{ accessFlags := 18, nameIndex := 20, descriptorIndex := 21, attributes := #[] }, { accessFlags := 18, nameIndex := 24, descriptorIndex := 21, attributes := #[] }, { accessFlags := 18, nameIndex := 27, descriptorIndex := 21, attributes := #[] }, { accessFlags := 18, nameIndex := 54, descriptorIndex := 42, attributes := #[] }, { accessFlags := 18, nameIndex := 41, descriptorIndex := 42, attributes := #[] }])
  fields := #[{ name := "groups", type := .int, accessFlags := 18, slot := 0, constantValue := 0 }, { name := "from", type := .int, accessFlags := 18, slot := 1, constantValue := 0 }, { name := "to", type := .int, accessFlags := 18, slot := 2, constantValue := 0 }, { name := "holder", type := (.array .int), accessFlags := 18, slot := 3, constantValue := 0 }, { name := "copy", type := (.array .int), accessFlags := 18, slot := 4, constantValue := 0 }]
  methods := #[k2m0, k2m1, k2m2, k2m3, k2m4, k2m5, k2m6]
  instanceTypes := #[.int, .int, .int, (.array .int), (.array .int)]
  staticTypes := #[]
  resolved := Array.replicate 203 none
  statics := none }

def pool3 : Array CpInfo := pool [(2, .class_ 4), (1, u "java/lang/Object"), (12, .class_ 19), (1, u "io/sluicegate/runtime/KeyGroups"), (0, u "count"), (0, u "I"), (20, u "owner"), (0, u "(III)I")] 22

def k3c0 : Code := { maxStack := 4, maxLocals := 3, code := prog_72_method_5_code, exceptionTable := #[], attributes := #[] }
def k3m0 : Method := { name := "owner", desc := "(III)I", sig := { parameters := [.int, .int, .int], returnType := some .int }, accessFlags := 8, code := some k3c0 }
/-- io/sluicegate/runtime/KeyGroups -/
def k3 : Class := { plain "io/sluicegate/runtime/KeyGroups" (some 0) with
  accessFlags := 48
  interfaces := #[]
  cf := some (fileOf pool3 17 #[] #[{ accessFlags := 8, nameIndex := 42, descriptorIndex := 43, attributes := #[] }] 48 2 #[] #[{ accessFlags := 18, nameIndex := 20, descriptorIndex := 21, attributes := #[] }])
  fields := #[{ name := "count", type := .int, accessFlags := 18, slot := 0, constantValue := 0 }]
  methods := #[k3m0]
  instanceTypes := #[.int]
  staticTypes := #[]
  resolved := Array.replicate 66 none
  statics := none }

def pool4 : Array CpInfo := pool [(2, .class_ 4), (1, u "java/lang/Object"), (0, u "<init>"), (0, u "()V"), (7, .class_ 16), (1, u "java/util/Arrays"), (57, .class_ 76), (1, u "java/util/Arrays$NaturalOrder"), (36, .class_ 115), (1, u "java/util/Arrays$LegacyMergeSort"), (1, u "Z"), (257, .class_ 376), (0, u "java/util/Arrays$ArrayList"), (68, u "$assertionsDisabled"), (269, u "MIN_ARRAY_SORT_GRAN"), (0, u "I"), (2, u "INSERTIONSORT_THRESHOLD"), (120, u "fill"), (4, u "([II)V"), (129, .class_ 976), (0, u "java/util/Arrays$ArrayItr")] 52

def k4m0 : Method := { name := "<init>", desc := "()V", sig := { parameters := [], returnType := none }, accessFlags := 2, code := none }
def k4c1 : Code := { maxStack := 3, maxLocals := 4, code := jdk_65_method_103_code, exceptionTable := #[], attributes := #[] }
def k4m1 : Method := { name := "fill", desc := "([II)V", sig := { parameters := [(.array .int), .int], returnType := none }, accessFlags := 9, code := some k4c1 }
/-- java/util/Arrays -/
def k4 : Class := { plain "java/util/Arrays" (some 0) with
  accessFlags := 49
  interfaces := #[]
  cf := some (fileOf pool4 14 #[.nestMembers #[975, 375, 113, 74]] #[{ accessFlags := 2, nameIndex := 5, descriptorIndex := 6, attributes := #[] }, { accessFlags := 9, nameIndex := 840, descriptorIndex := 845, attributes := #[] }] 49 2 #[] #[{ accessFlags := 26, nameIndex := 715, descriptorIndex := 716, attributes := #[] }, { accessFlags := 26, nameIndex := 719, descriptorIndex := 716, attributes := #[] }, { accessFlags := 4120, nameIndex := 445, descriptorIndex := 117, attributes := #[] }])
  fields := #[{ name := "MIN_ARRAY_SORT_GRAN", type := .int, accessFlags := 26, slot := 0, constantValue := 0 }, { name := "INSERTIONSORT_THRESHOLD", type := .int, accessFlags := 26, slot := 1, constantValue := 0 }, { name := "$assertionsDisabled", type := .boolean, accessFlags := 4120, slot := 2, constantValue := 0 }]
  methods := #[k4m0, k4m1]
  instanceTypes := #[]
  staticTypes := #[.int, .int, .boolean]
  resolved := Array.replicate 1029 none
  statics := none }

def pool5 : Array CpInfo := pool [(1, .class_ 2), (0, u "java/lang/Math"), (1, .class_ 6), (1, u "java/lang/Object"), (0, u "<init>"), (0, u "()V"), (89, .class_ 100), (1, u "java/lang/Math$RandomNumberGeneratorHolder"), (71, u "negativeZeroFloatBits"), (0, u "J"), (2, u "negativeZeroDoubleBits"), (21, u "max"), (2, u "min"), (43, u "$assertionsDisabled"), (0, u "Z"), (88, u "(II)I"), (2, u "twoToTheDoubleScaleDown"), (0, u "D"), (4, u "twoToTheDoubleScaleUp"), (9, u "E"), (3, u "PI"), (2, u "TAU"), (2, u "DEGREES_TO_RADIANS"), (0, u "RADIANS_TO_DEGREES")] 94

def k5m0 : Method := { name := "<init>", desc := "()V", sig := { parameters := [], returnType := none }, accessFlags := 2, code := none }
def k5c1 : Code := { maxStack := 2, maxLocals := 2, code := jdk_29_method_65_code, exceptionTable := #[], attributes := #[] }
def k5m1 : Method := { name := "max", desc := "(II)I", sig := { parameters := [.int, .int], returnType := some .int }, accessFlags := 9, code := some k5c1 }
def k5c2 : Code := { maxStack := 2, maxLocals := 2, code := jdk_29_method_69_code, exceptionTable := #[], attributes := #[] }
def k5m2 : Method := { name := "min", desc := "(II)I", sig := { parameters := [.int, .int], returnType := some .int }, accessFlags := 9, code := some k5c2 }
/-- java/lang/Math -/
def k5 : Class := { plain "java/lang/Math" (some 0) with
  accessFlags := 49
  interfaces := #[]
  cf := some (fileOf pool5 1 #[.nestMembers #[98]] #[{ accessFlags := 2, nameIndex := 7, descriptorIndex := 8, attributes := #[] }, { accessFlags := 9, nameIndex := 198, descriptorIndex := 335, attributes := #[] }, { accessFlags := 9, nameIndex := 201, descriptorIndex := 335, attributes := #[] }] 49 4 #[] #[{ accessFlags := 25, nameIndex := 354, descriptorIndex := 339, attributes := #[] }, { accessFlags := 25, nameIndex := 358, descriptorIndex := 339, attributes := #[] }, { accessFlags := 25, nameIndex := 361, descriptorIndex := 339, attributes := #[] }, { accessFlags := 26, nameIndex := 364, descriptorIndex := 339, attributes := #[] }, { accessFlags := 26, nameIndex := 365, descriptorIndex := 339, attributes := #[] }, { accessFlags := 26, nameIndex := 172, descriptorIndex := 173, attributes := #[] }, { accessFlags := 26, nameIndex := 176, descriptorIndex := 173, attributes := #[] }, { accessFlags := 8, nameIndex := 344, descriptorIndex := 339, attributes := #[] }, { accessFlags := 8, nameIndex := 338, descriptorIndex := 339, attributes := #[] }, { accessFlags := 4120, nameIndex := 245, descriptorIndex := 246, attributes := #[] }])
  fields := #[{ name := "E", type := .double, accessFlags := 25, slot := 0, constantValue := 0 }, { name := "PI", type := .double, accessFlags := 25, slot := 1, constantValue := 0 }, { name := "TAU", type := .double, accessFlags := 25, slot := 2, constantValue := 0 }, { name := "DEGREES_TO_RADIANS", type := .double, accessFlags := 26, slot := 3, constantValue := 0 }, { name := "RADIANS_TO_DEGREES", type := .double, accessFlags := 26, slot := 4, constantValue := 0 }, { name := "negativeZeroFloatBits", type := .long, accessFlags := 26, slot := 5, constantValue := 0 }, { name := "negativeZeroDoubleBits", type := .long, accessFlags := 26, slot := 6, constantValue := 0 }, { name := "twoToTheDoubleScaleUp", type := .double, accessFlags := 8, slot := 7, constantValue := 0 }, { name := "twoToTheDoubleScaleDown", type := .double, accessFlags := 8, slot := 8, constantValue := 0 }, { name := "$assertionsDisabled", type := .boolean, accessFlags := 4120, slot := 9, constantValue := 0 }]
  methods := #[k5m0, k5m1, k5m2]
  instanceTypes := #[]
  staticTypes := #[.double, .double, .double, .double, .double, .long, .long, .double, .double, .boolean]
  resolved := Array.replicate 460 none
  statics := none }

def pool6 : Array CpInfo := pool [(1, u "java/lang/Cloneable"), (0, .class_ 1), (0, u "java/lang/Object"), (0, .class_ 3)] 3

/-- java/lang/Cloneable -/
def k6 : Class := { plain "java/lang/Cloneable" (some 0) with
  accessFlags := 1537
  interfaces := #[]
  cf := some (fileOf pool6 2 #[] #[] 1537 4 #[] #[])
  fields := #[]
  methods := #[]
  instanceTypes := #[]
  staticTypes := #[]
  resolved := Array.replicate 8 none
  statics := none }

def pool7 : Array CpInfo := pool [(1, u "java/io/Serializable"), (0, .class_ 1), (0, u "java/lang/Object"), (0, .class_ 3)] 3

/-- java/io/Serializable -/
def k7 : Class := { plain "java/io/Serializable" (some 0) with
  accessFlags := 1537
  interfaces := #[]
  cf := some (fileOf pool7 2 #[] #[] 1537 4 #[] #[])
  fields := #[]
  methods := #[]
  instanceTypes := #[]
  staticTypes := #[]
  resolved := Array.replicate 8 none
  statics := none }

/-- the primitive byte -/
def k8 : Class := { plain "byte" none with kind := .primitive 'B', accessFlags := 0x411 }
/-- [B -/
def k9 : Class := { plain "[B" (some 0) with kind := .array 8 .byte, interfaces := #[6, 7], accessFlags := 1041 }

/-- the primitive int -/
def k10 : Class := { plain "int" none with kind := .primitive 'I', accessFlags := 0x411 }
/-- [I -/
def k11 : Class := { plain "[I" (some 0) with kind := .array 10 .int, interfaces := #[6, 7], accessFlags := 1041 }

def heap : Heap := #[]
def classes : Array Class := #[k0, k1, k2, k3, k4, k5, k6, k7, k8, k9, k10, k11]
def interned : List (Array UInt16 × Addr) := []
def slotsUsed : Nat := 0
def theMethod : MethodId := ⟨1, 1⟩
def args0 : Array Value := #[.int 5, .int 6, .int 7, .int 8, .int 9]
def aboutOver (below : List Frame) : State where
  vm := { classes := classes, interned := interned.toArray }
  heap := heap
  slotsUsed := slotsUsed
  threads := #[{ frames := .invoking theMethod args0 :: below }]
def below0 : List Frame := [.native { method := ⟨0, 0⟩, args := #[] }]
def about1 : State := aboutOver below0
def p0 : Program := .bare "" "" ""
def e0 : Env := launch0.env 0 0 0
theorem w_frames : about1.frames = Frame.invoking theMethod args0 :: below0 := rfl
set_option maxRecDepth 65536 in
theorem w_args : argsFit about1.vm theMethod args0 = true := by decide +kernel
set_option maxRecDepth 65536 in
theorem w_heap : heapFits about1 = true := by decide +kernel
set_option maxRecDepth 65536 in
theorem w_runnable : about1.curStatus? = some .runnable := by decide +kernel
set_option maxRecDepth 65536 in
theorem w_alone : about1.alone = true := by decide +kernel
set_option maxRecDepth 65536 in
theorem w_named : about1.methodNamed? x = some theMethod := by decide +kernel
set_option maxRecDepth 65536 in
theorem w_hears : about1.hears theMethod below0 = true := by decide +kernel
set_option maxRecDepth 65536 in
theorem w_ripe : about1.ripe theMethod args0 below0 = true := by decide +kernel
theorem w_running : about1.status = .running := rfl
set_option maxRecDepth 65536 in
theorem w_room : about1.hasRoom e0.platform room_1 = true :=
  launch0.hasRoom_least _ room_1 (by decide +kernel) (by decide +kernel) (by decide +kernel) (by decide +kernel) (by decide +kernel) (by decide +kernel)
theorem allAtoms_all (ts : List Jvm.Cond) (a : Array Jvm.Value) (st : Jvm.State) : (allAtoms ts).before a st = ts.all (fun c => c.before a st) := by
  induction ts with
  | nil => rfl
  | cons c t ih =>
    show (Jvm.Cond.and c (allAtoms t)).before a st = _
    rw [Jvm.Cond.before_and, ih, List.all_cons]
def words1 : List Jvm.Cond := Jvm.Cond.code x code maxLocals ret :: tables_1
/-- a 'code' word, met by the world's own term for the bytes: nothing is compared byte by byte -/
theorem code_word {y : MethodName} {bytes : ByteArray} {mx : Nat} {rt : Option FieldType} {a : Array Value} {s : State} {m : MethodId} {meth : Method} {c : Code} (h1 : s.methodNamed? y = some m) (h2 : s.vm.method? m = some meth) (h3 : meth.code = some c) (h4 : c.code = bytes)
    (h5 : (c.maxLocals == mx && c.exceptionTable.isEmpty && decide (c.maxStack ≤ mostOperands) && decide (meth.sig.returnType = rt) && !meth.locks && decide (parseMethodDescriptor y.desc = some meth.sig)) = true) : (Jvm.Cond.code y bytes mx rt).before a s = true := by
  simp only [Bool.and_eq_true, beq_iff_eq, Bool.not_eq_true', decide_eq_true_eq] at h5
  obtain ⟨⟨⟨⟨⟨g1, g2⟩, g3⟩, g4⟩, g5⟩, g6⟩ := h5
  simp [Cond.before, Cond.holds, Cond.value, h1, h2, h3, h4, g1, g2, g3, g4, g5, g6]
def isCode : Jvm.Cond → Bool
  | .code _ _ _ _ => true
  | _ => false
theorem all_split {L : List Jvm.Cond} {P : Jvm.Cond → Bool} (h1 : L.all (fun c => isCode c || P c) = true) (h2 : ∀ c ∈ L.filter isCode, P c = true) : L.all P = true := by
  refine List.all_eq_true.mpr fun c hc => ?_
  have h := List.all_eq_true.mp h1 c hc
  rcases Bool.eq_false_or_eq_true (isCode c) with hi | hi
  · exact h2 c (List.mem_filter.mpr ⟨hc, hi⟩)
  · simpa [hi] using h
set_option maxRecDepth 65536 in
theorem w_c0 : (Jvm.Cond.code x code maxLocals ret).before args0 about1 = true := code_word (m := ⟨1, 1⟩) (meth := k1m1) (c := k1c1) (by decide +kernel) rfl rfl rfl (by decide +kernel)
set_option maxRecDepth 65536 in
theorem w_c1 : (Jvm.Cond.code ({ cls := "io/sluicegate/runtime/KeyGroupPlan", name := "<init>", desc := "(III)V" } : Jvm.MethodName) prog_70_method_1_code (8 : Nat) (Option.none : Option Jvm.ClassFile.FieldType)).before args0 about1 = true := code_word (m := ⟨2, 0⟩) (meth := k2m0) (c := k2c0) (by decide +kernel) rfl rfl rfl (by decide +kernel)
set_option maxRecDepth 65536 in
theorem w_c2 : (Jvm.Cond.code ({ cls := "java/lang/Object", name := "<init>", desc := "()V" } : Jvm.MethodName) object_method_1_code (1 : Nat) (Option.none : Option Jvm.ClassFile.FieldType)).before args0 about1 = true := code_word (m := ⟨0, 0⟩) (meth := k0m0) (c := k0c0) (by decide +kernel) rfl rfl rfl (by decide +kernel)
set_option maxRecDepth 65536 in
theorem w_c3 : (Jvm.Cond.code ({ cls := "io/sluicegate/runtime/KeyGroupPlan", name := "first", desc := "(II)I" } : Jvm.MethodName) prog_70_method_13_code (3 : Nat) (Option.some Jvm.ClassFile.FieldType.int)).before args0 about1 = true := code_word (m := ⟨2, 5⟩) (meth := k2m5) (c := k2c5) (by decide +kernel) rfl rfl rfl (by decide +kernel)
set_option maxRecDepth 65536 in
theorem w_c4 : (Jvm.Cond.code ({ cls := "io/sluicegate/runtime/KeyGroupPlan", name := "owner", desc := "(II)I" } : Jvm.MethodName) prog_70_method_14_code (3 : Nat) (Option.some Jvm.ClassFile.FieldType.int)).before args0 about1 = true := code_word (m := ⟨2, 6⟩) (meth := k2m6) (c := k2c6) (by decide +kernel) rfl rfl rfl (by decide +kernel)
set_option maxRecDepth 65536 in
theorem w_c5 : (Jvm.Cond.code ({ cls := "io/sluicegate/runtime/KeyGroups", name := "owner", desc := "(III)I" } : Jvm.MethodName) prog_72_method_5_code (3 : Nat) (Option.some Jvm.ClassFile.FieldType.int)).before args0 about1 = true := code_word (m := ⟨3, 0⟩) (meth := k3m0) (c := k3c0) (by decide +kernel) rfl rfl rfl (by decide +kernel)
set_option maxRecDepth 65536 in
theorem w_c6 : (Jvm.Cond.code ({ cls := "io/sluicegate/runtime/KeyGroupPlan", name := "best", desc := "(III)I" } : Jvm.MethodName) prog_70_method_11_code (6 : Nat) (Option.some Jvm.ClassFile.FieldType.int)).before args0 about1 = true := code_word (m := ⟨2, 3⟩) (meth := k2m3) (c := k2c3) (by decide +kernel) rfl rfl rfl (by decide +kernel)
set_option maxRecDepth 65536 in
theorem w_c7 : (Jvm.Cond.code ({ cls := "java/util/Arrays", name := "fill", desc := "([II)V" } : Jvm.MethodName) jdk_65_method_103_code (4 : Nat) (Option.none : Option Jvm.ClassFile.FieldType)).before args0 about1 = true := code_word (m := ⟨4, 1⟩) (meth := k4m1) (c := k4c1) (by decide +kernel) rfl rfl rfl (by decide +kernel)
set_option maxRecDepth 65536 in
theorem w_c8 : (Jvm.Cond.code ({ cls := "java/lang/Math", name := "min", desc := "(II)I" } : Jvm.MethodName) jdk_29_method_69_code (2 : Nat) (Option.some Jvm.ClassFile.FieldType.int)).before args0 about1 = true := code_word (m := ⟨5, 2⟩) (meth := k5m2) (c := k5c2) (by decide +kernel) rfl rfl rfl (by decide +kernel)
set_option maxRecDepth 65536 in
theorem w_c9 : (Jvm.Cond.code ({ cls := "io/sluicegate/runtime/KeyGroupPlan", name := "copiesFrom", desc := "(I)I" } : Jvm.MethodName) prog_70_method_5_code (2 : Nat) (Option.some Jvm.ClassFile.FieldType.int)).before args0 about1 = true := code_word (m := ⟨2, 2⟩) (meth := k2m2) (c := k2c2) (by decide +kernel) rfl rfl rfl (by decide +kernel)
set_option maxRecDepth 65536 in
theorem w_c10 : (Jvm.Cond.code ({ cls := "io/sluicegate/runtime/KeyGroupPlan", name := "shared", desc := "(II)I" } : Jvm.MethodName) prog_70_method_12_code (3 : Nat) (Option.some Jvm.ClassFile.FieldType.int)).before args0 about1 = true := code_word (m := ⟨2, 4⟩) (meth := k2m4) (c := k2c4) (by decide +kernel) rfl rfl rfl (by decide +kernel)
set_option maxRecDepth 65536 in
theorem w_c11 : (Jvm.Cond.code ({ cls := "java/lang/Math", name := "max", desc := "(II)I" } : Jvm.MethodName) jdk_29_method_65_code (2 : Nat) (Option.some Jvm.ClassFile.FieldType.int)).before args0 about1 = true := code_word (m := ⟨5, 1⟩) (meth := k5m1) (c := k5c1) (by decide +kernel) rfl rfl rfl (by decide +kernel)
set_option maxRecDepth 65536 in
theorem w_c12 : (Jvm.Cond.code ({ cls := "io/sluicegate/runtime/KeyGroupPlan", name := "holder", desc := "(I)I" } : Jvm.MethodName) prog_70_method_4_code (2 : Nat) (Option.some Jvm.ClassFile.FieldType.int)).before args0 about1 = true := code_word (m := ⟨2, 1⟩) (meth := k2m1) (c := k2c1) (by decide +kernel) rfl rfl rfl (by decide +kernel)
def codes1 : List Jvm.Cond := [Jvm.Cond.code x code maxLocals ret, Jvm.Cond.code ({ cls := "io/sluicegate/runtime/KeyGroupPlan", name := "<init>", desc := "(III)V" } : Jvm.MethodName) prog_70_method_1_code (8 : Nat) (Option.none : Option Jvm.ClassFile.FieldType), Jvm.Cond.code ({ cls := "java/lang/Object", name := "<init>", desc := "()V" } : Jvm.MethodName) object_method_1_code (1 : Nat) (Option.none : Option Jvm.ClassFile.FieldType), Jvm.Cond.code ({ cls := "io/sluicegate/runtime/KeyGroupPlan", name := "first", desc := "(II)I" } : Jvm.MethodName) prog_70_method_13_code (3 : Nat) (Option.some Jvm.ClassFile.FieldType.int), Jvm.Cond.code ({ cls := "io/sluicegate/runtime/KeyGroupPlan", name := "owner", desc := "(II)I" } : Jvm.MethodName) prog_70_method_14_code (3 : Nat) (Option.some Jvm.ClassFile.FieldType.int), Jvm.Cond.code ({ cls := "io/sluicegate/runtime/KeyGroups", name := "owner", desc := "(III)I" } : Jvm.MethodName) prog_72_method_5_code (3 : Nat) (Option.some Jvm.ClassFile.FieldType.int), Jvm.Cond.code ({ cls := "io/sluicegate/runtime/KeyGroupPlan", name := "best", desc := "(III)I" } : Jvm.MethodName) prog_70_method_11_code (6 : Nat) (Option.some Jvm.ClassFile.FieldType.int), Jvm.Cond.code ({ cls := "java/util/Arrays", name := "fill", desc := "([II)V" } : Jvm.MethodName) jdk_65_method_103_code (4 : Nat) (Option.none : Option Jvm.ClassFile.FieldType), Jvm.Cond.code ({ cls := "java/lang/Math", name := "min", desc := "(II)I" } : Jvm.MethodName) jdk_29_method_69_code (2 : Nat) (Option.some Jvm.ClassFile.FieldType.int), Jvm.Cond.code ({ cls := "io/sluicegate/runtime/KeyGroupPlan", name := "copiesFrom", desc := "(I)I" } : Jvm.MethodName) prog_70_method_5_code (2 : Nat) (Option.some Jvm.ClassFile.FieldType.int), Jvm.Cond.code ({ cls := "io/sluicegate/runtime/KeyGroupPlan", name := "shared", desc := "(II)I" } : Jvm.MethodName) prog_70_method_12_code (3 : Nat) (Option.some Jvm.ClassFile.FieldType.int), Jvm.Cond.code ({ cls := "java/lang/Math", name := "max", desc := "(II)I" } : Jvm.MethodName) jdk_29_method_65_code (2 : Nat) (Option.some Jvm.ClassFile.FieldType.int), Jvm.Cond.code ({ cls := "io/sluicegate/runtime/KeyGroupPlan", name := "holder", desc := "(I)I" } : Jvm.MethodName) prog_70_method_4_code (2 : Nat) (Option.some Jvm.ClassFile.FieldType.int)]
set_option maxRecDepth 65536 in
theorem codes_eq : words1.filter isCode = codes1 := rfl
theorem w_codes : ∀ c ∈ words1.filter isCode, c.before args0 about1 = true := by
  rw [codes_eq]
  intro c hc
  simp only [codes1, List.mem_cons, List.not_mem_nil, or_false] at hc
  rcases hc with rfl | rfl | rfl | rfl | rfl | rfl | rfl | rfl | rfl | rfl | rfl | rfl | rfl
  · exact w_c0
  · exact w_c1
  · exact w_c2
  · exact w_c3
  · exact w_c4
  · exact w_c5
  · exact w_c6
  · exact w_c7
  · exact w_c8
  · exact w_c9
  · exact w_c10
  · exact w_c11
  · exact w_c12
set_option maxRecDepth 65536 in
theorem w_t1 : (words1.take 24).all (fun c => isCode c || c.before args0 about1) = true := by decide +kernel
set_option maxRecDepth 65536 in
theorem w_t2 : ((words1.drop 24).take 24).all (fun c => isCode c || c.before args0 about1) = true := by decide +kernel
set_option maxRecDepth 65536 in
theorem w_t3 : ((words1.drop 24).drop 24).all (fun c => isCode c || c.before args0 about1) = true := by decide +kernel
theorem w_tables : (allAtoms (Jvm.Cond.code x code maxLocals ret :: tables_1)).before args0 about1 = true := by
  rw [allAtoms_all]
  show words1.all (fun c => c.before args0 about1) = true
  refine all_split ?_ w_codes
  rw [← List.take_append_drop 24 words1, List.all_append, w_t1, ← List.take_append_drop 24 (words1.drop 24), List.all_append, w_t2, w_t3]
  rfl
set_option maxRecDepth 65536 in
theorem w_case : (Jvm.Cond.and given_1 narrow_1).before args0 about1 = true := by decide +kernel
theorem w_applies : (headSpec (Jvm.Cond.code x code maxLocals ret :: tables_1) room_1).applies x e0.platform about1 = true :=
  (Spec.applies_iff w_frames).mpr ⟨w_running, w_runnable, w_alone, w_named, w_hears, w_ripe, w_room, w_tables⟩
theorem atStart : AtStart classFile x code maxLocals ret World_1 tables_1 room_1 Calls_1 rest_1 Pre_1 launch0 p0 e0 about1 theMethod args0 below0 :=
  ⟨lists_1, trivial, launch0.admits_env _ _ _, launch0.least_env, fairChoices_fair.cas, fairChoices_fair.clock, w_frames, w_args, w_heap, w_applies, trivial, trivial, w_case⟩
end start1
theorem witness_1 : WitnessClaimed_1 := ⟨start1.p0, start1.e0, start1.about1, start1.theMethod, start1.args0, start1.below0, start1.atStart⟩
end Jvm.Pilot.@@N@@
