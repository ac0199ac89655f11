import JvmDerived
import JvmDerived.Pilot.@@N@@Statement
import JvmDerived.Pilot.@@N@@Code
set_option linter.unusedVariables false
set_option linter.unusedSimpArgs false
@@BLOCK:NumsL.lean.txt@@
@@BLOCK:Masks.lean.txt@@
namespace Jvm.RoadKit
open Sem ClassFile Op Lib Jvm.Stand Jvm.Free Jvm.LawKit
section OwnGo
variable {p : Program} {l : Launch} {e : Env} {R : Room} {s : State} {m : MethodId} {args : Array Value} {below : List Frame} {meth : Method} {c : Code} {T : State} {locs : List Loc} {cells slots : Nat} {Z : State} {a0 : Array Value} {h : Heap}
/-- from A the run comes to an end of which P holds -/
def Go (p : Program) (e : Env) (below : List Frame) (P : State → Outcome → Prop) (A : State) : Prop := ∃ t o, Steps p.tables e below A t ∧ t.status = .running ∧ Ended t below o ∧ P t o
theorem Go.st {P : State → Outcome → Prop} {A B : State} (st : ∀ t, Steps p.tables e below A t → Steps p.tables e below B t) (k : Go p e below P A) : Go p e below P B := by
  obtain ⟨t, o, h1, h2⟩ := k
  exact ⟨t, o, st t h1, h2⟩
theorem Go.tr {P : State → Outcome → Prop} {A B : State} (st : Steps p.tables e below B A) (k : Go p e below P A) : Go p e below P B := Go.st (fun _ h => st.trans h) k
def Pst (s : State) (Q : Option Value → Heap → List Loc → Prop) (C S : Nat) : State → Outcome → Prop := fun t o => ∃ v L, o = .returned v ∧ Q v t.heap L ∧ FrameEnd s o t L C S
/-- a method's contract at the heap h0, for the arguments as -/
def Ct (l : Launch) (y : MethodName) (bytes : ByteArray) (maxL : Nat) (ret : Option FieldType) (ws : List Cond) (rm : Room) (Z : State) (as : Array Value) (h0 : Heap) (Q : Option Value → Heap → List Loc → Prop) : Prop :=
  MetFree l y (head1 (Cond.code y bytes maxL ret :: ws) rm) (fun a U => a = as ∧ Z.Warmed39 U.vm ∧ U.heap = h0) (fun _ _ _ _ _ => True) (fun _ U o U' => ∃ v L, o = .returned v ∧ Q v U'.heap L ∧ FrameEnd U o U' L rm.cells rm.slots)
theorem Ct.of {y : MethodName} {bytes : ByteArray} {maxL : Nat} {ret : Option FieldType} {ws : List Cond} {rm : Room} {as : Array Value} {h0 : Heap} {Q : Option Value → Heap → List Loc → Prop} {Ls : Array Slot}
    (hpl : plainFor y = true) (hef : ∀ m, entryFrame m as maxL = mkF m 0 Ls [])
    (body : ∀ (p : Program) (e : Env) (s : State) (m : MethodId) (below : List Frame) (meth : Method) (c : Code) (T : State), Stand p l e rm s m as below meth c T [] 0 0 → p.tables.exec = Jvm.exec → c.code = bytes → c.maxLocals = maxL → meth.sig.returnType = ret → meth.locks = false → s.vm.findClass y.cls = some m.cls → meth.name = y.name → Z.Warmed39 s.vm → T.heap = h0 →
      ∀ P : State → Outcome → Prop, P = Pst s Q rm.cells rm.slots → Go p e below P (T.setTop (mkF m 0 Ls []))) : Ct l y bytes maxL ret ws rm Z as h0 Q := by
  refine MetFree.of_bodySF hpl hisR ?_
  intro p e s m args below meth c s₁ Bd hml0 hP hK
  obtain ⟨rfl, hZ, hh⟩ := hP
  have X0 : Stand p l e rm s m args below meth c s₁ [] 0 0 := Stand.of_body Bd
  obtain ⟨t, o, h1, h2⟩ := body p e s m below meth c s₁ X0 Bd.exec Bd.bytes hml0 Bd.returns Bd.notSynchronized (findClass_of_methodNamed Bd.named) (name_of_methodNamed Bd.named Bd.method).1 hZ (by rw [← hh, Bd.state]; rfl) _ rfl
  exact ⟨t, o, castTop (hef m) h1, h2⟩
theorem goRet {t : FieldType} {i : Instr} {v w : Value} {pc : Nat} {Ls : Array Slot} {rest : List Value} {Q : Option Value → Heap → List Loc → Prop} {C S : Nat}
    (X : Stand p l e R s m args below meth c T locs cells slots) (hret : meth.sig.returnType = some t) (hlk : meth.locks = false)
    (st : ∀ {fs : List Frame}, (∀ (f : JFrame) (acts : List Action), f.method = m → f.locked = none → f.entered = [] → (doReturn e (T.setTop f) acts (some w)).1 = T.setFrames fs) → Steps p.tables e below (T.setTop (mkF m pc Ls (v :: rest))) (T.setFrames fs))
    (hc : cells ≤ C) (hs : slots ≤ S) (hQ : Q (some w) T.heap locs) : Go p e below (Pst s Q C S) (T.setTop (mkF m pc Ls (v :: rest))) := by
  obtain ⟨fs, hr, hrun, hended, hW, hsame⟩ := X.leave (v := some w) (fun h => by rw [hret] at h; cases h) hlk
  exact ⟨_, _, st hr, hrun, hended, _, _, rfl, hQ, ⟨_, rfl⟩, hW, hsame.mono hc hs⟩
theorem retI (X : Stand p l e R s m args below meth c T locs cells slots) (hx : p.tables.exec = Jvm.exec) {pc : Nat} {Ls : Array Slot} {z : Int32} {rest : List Value} (hret : meth.sig.returnType = some .int) (hd : decode c.code pc = .ok (.ireturn, 1)) {fs : List Frame}
    (hl : ∀ (f : JFrame) (acts : List Action), f.method = m → f.locked = none → f.entered = [] → (doReturn e (T.setTop f) acts (some (.int z))).1 = T.setFrames fs) : Steps p.tables e below (T.setTop (mkF m pc Ls (.int z :: rest))) (T.setFrames fs) :=
  retOut X hx hret rfl (Or.inl ⟨rfl, Or.inl rfl, z, rfl⟩) hd hl
theorem goI {pc : Nat} {Ls : Array Slot} {z : Int32} {rest : List Value} {Q : Option Value → Heap → List Loc → Prop} {C S : Nat} {P : State → Outcome → Prop}
    (X : Stand p l e R s m args below meth c T locs cells slots) (hx : p.tables.exec = Jvm.exec) (hret : meth.sig.returnType = some .int) (hlk : meth.locks = false) (hd : decode c.code pc = .ok (.ireturn, 1))
    (hP : P = Pst s Q C S) (hc : cells ≤ C) (hs : slots ≤ S) (hQ : Q (some (.int z)) T.heap locs) : Go p e below P (T.setTop (mkF m pc Ls (.int z :: rest))) := by
  subst hP
  exact goRet (i := .ireturn) X hret hlk (fun hr => retI X hx hret hd hr) hc hs hQ
theorem goN {pc : Nat} {Ls : Array Slot} {z : Int32} {t : FieldType} {rest : List Value} {Q : Option Value → Heap → List Loc → Prop} {C S : Nat} {P : State → Outcome → Prop}
    (X : Stand p l e R s m args below meth c T locs cells slots) (hx : p.tables.exec = Jvm.exec) (hret : meth.sig.returnType = some t) (ht : t = .boolean ∨ t = .byte ∨ t = .char ∨ t = .short) (hlk : meth.locks = false) (hd : decode c.code pc = .ok (.ireturn, 1))
    (hP : P = Pst s Q C S) (hc : cells ≤ C) (hs : slots ≤ S) (hQ : Q (some (.int (nar t z))) T.heap locs) : Go p e below P (T.setTop (mkF m pc Ls (.int z :: rest))) := by
  subst hP
  exact goRet (i := .ireturn) X hret hlk (fun hr => retN X hx hret ht hd hr) hc hs hQ
theorem goJ {pc : Nat} {Ls : Array Slot} {z : Int64} {rest : List Value} {Q : Option Value → Heap → List Loc → Prop} {C S : Nat} {P : State → Outcome → Prop}
    (X : Stand p l e R s m args below meth c T locs cells slots) (hx : p.tables.exec = Jvm.exec) (hret : meth.sig.returnType = some .long) (hlk : meth.locks = false) (hd : decode c.code pc = .ok (.lreturn, 1))
    (hP : P = Pst s Q C S) (hc : cells ≤ C) (hs : slots ≤ S) (hQ : Q (some (.long z)) T.heap locs) : Go p e below P (T.setTop (mkF m pc Ls (.long z :: rest))) := by
  subst hP
  exact goRet (i := .lreturn) X hret hlk (fun hr => retOut X hx hret rfl (Or.inr (Or.inl ⟨rfl, rfl, z, rfl⟩)) hd hr) hc hs hQ
theorem goA {pc : Nat} {Ls : Array Slot} {z : Addr} {t : FieldType} {rest : List Value} {Q : Option Value → Heap → List Loc → Prop} {C S : Nat} {P : State → Outcome → Prop}
    (X : Stand p l e R s m args below meth c T locs cells slots) (hx : p.tables.exec = Jvm.exec) (hret : meth.sig.returnType = some t) (ht : t.isReference = true) (hn : narrow t (.ref z) = .ref z) (hlk : meth.locks = false) (hd : decode c.code pc = .ok (.areturn, 1))
    (hP : P = Pst s Q C S) (hc : cells ≤ C) (hs : slots ≤ S) (hQ : Q (some (.ref z)) T.heap locs) : Go p e below P (T.setTop (mkF m pc Ls (.ref z :: rest))) := by
  subst hP
  exact goRet (i := .areturn) X hret hlk (fun hr => retOut X hx hret hn (Or.inr (Or.inr (Or.inr (Or.inr ⟨rfl, ht, rfl⟩)))) hd hr) hc hs hQ
theorem goV {pc : Nat} {Ls : Array Slot} {Q : Option Value → Heap → List Loc → Prop} {C S : Nat} {P : State → Outcome → Prop}
    (X : Stand p l e R s m args below meth c T locs cells slots) (hx : p.tables.exec = Jvm.exec) (hret : meth.sig.returnType = none) (hlk : meth.locks = false) (hd : decode c.code pc = .ok (.return_, 1))
    (hP : P = Pst s Q C S) (hc : cells ≤ C) (hs : slots ≤ S) (hQ : Q none T.heap locs) : Go p e below P (T.setTop (mkF m pc Ls [])) := by
  subst hP
  obtain ⟨fs, hr, hrun, hended, hW, hsame⟩ := X.leave (v := none) (fun _ => rfl) hlk
  exact ⟨_, _, X.returnOut hx hret hd hr, hrun, hended, _, _, rfl, hQ, ⟨_, rfl⟩, hW, hsame.mono hc hs⟩
/-- a static call by its contract -/
theorem callCt (X : Stand p l e R s m args below meth c T locs cells slots) (hx : p.tables.exec = Jvm.exec) (hZ : Z.Warmed39 s.vm) (eT : T.heap = h) {own : String} {index : Nat} {y : MethodName} {bytes : ByteArray} {maxL : Nat} {ret : Option FieldType} {rm : Room} {Q : Option Value → Heap → List Loc → Prop} {argsL rest : List Value}
    (hown : s.vm.findClass own = some m.cls) (w1 : (Cond.methodLink own index y).before a0 Z = true) (w2 : (Cond.static y).before a0 Z = true) (w3 : (Cond.initialized y.cls).before a0 Z = true) (w4 : (Cond.code y bytes maxL ret).before a0 Z = true)
    (hy : y.cls ≠ "java/lang/invoke/MethodHandle" ∧ y.cls ≠ "java/lang/invoke/VarHandle") (hM : Ct l y bytes maxL ret [] rm Z argsL.toArray h Q) {W : Nat} (hf : rm.frames + 1 ≤ R.frames) (hl : W + (maxL + 11) + rm.locals ≤ R.locals)
    {g : JFrame} (hg : g.method = m) (hsize : g.locals.size = c.maxLocals) (hlen : ∀ sig, parseMethodDescriptor y.desc = some sig → argsL.length = sig.parameters.length) (hstack : g.stack = argsL.reverse ++ rest) (hW : 2 * g.monitorRoom + (rest.map fun v => v.category).sum ≤ W)
    (hdg : decode c.code g.pc = .ok (.invokestatic index, 3)) (hc : cells + rm.cells ≤ R.cells) (hs : slots + rm.slots ≤ R.slots) :
    ∃ (v : Option Value) (T' : State) (L : List Loc), Stand p l e R s m args below meth c T' (locs ++ L) (cells + rm.cells) (slots + rm.slots) ∧ Q v T'.heap L ∧ ∀ target, Steps p.tables e below (T'.setTop { g with pc := g.pc + 3, stack := v.toList ++ rest }) target → Steps p.tables e below (T.setTop g) target := by
  subst eT
  obtain ⟨v, _, ⟨T', L', k', n'⟩, -, X', ⟨Lc, hQ, l18, y18, z18⟩, st⟩ := Jvm.LawKit.callS X hx (y := y) hown (mvT hZ w1) (mvT hZ w2) (mvT hZ w3) (mvT hZ w4) hy (backOf (W := W) hM hZ w4 w3 hf hl) hg hsize hlen hstack hW hdg (fun _ _ => ⟨rfl, rfl, hc, hs⟩)
  dsimp only [Pt.U, Pt.locs, Pt.cells, Pt.slots] at X' l18 y18 z18 st hQ
  subst l18 y18 z18
  exact ⟨v, T', Lc, X', hQ, st⟩
/-- a constructor by its contract -/
theorem callCtor (X : Stand p l e R s m args below meth c T locs cells slots) (hx : p.tables.exec = Jvm.exec) (hZ : Z.Warmed39 s.vm) (eT : T.heap = h) {own : String} {index : Nat} {y : MethodName} (hy1 : y.name = "<init>") {bytes : ByteArray} {maxL : Nat} {rm : Room} {Q : Option Value → Heap → List Loc → Prop} {a : Addr} {argsL rest : List Value}
    (hown : s.vm.findClass own = some m.cls) (w1 : (Cond.methodLink own index y).before a0 Z = true) (w2 : (Cond.instanceMethod y).before a0 Z = true) (w3 : (Cond.initialized y.cls).before a0 Z = true) (w4 : (Cond.code y bytes maxL none).before a0 Z = true)
    (hy : y.cls ≠ "java/lang/invoke/MethodHandle" ∧ y.cls ≠ "java/lang/invoke/VarHandle") (hM : Ct l y bytes maxL none [] rm Z (.ref a :: argsL).toArray h Q) {W : Nat} (hf : rm.frames + 1 ≤ R.frames) (hl : W + (maxL + 11) + rm.locals ≤ R.locals)
    {g : JFrame} (hg : g.method = m) (hsize : g.locals.size = c.maxLocals) (hlen : ∀ sig, parseMethodDescriptor y.desc = some sig → argsL.length = sig.parameters.length) (hstack : g.stack = argsL.reverse ++ .ref a :: rest) (hW : 2 * g.monitorRoom + (rest.map fun v => v.category).sum ≤ W)
    (hdg : decode c.code g.pc = .ok (.invokespecial index, 3)) (hc : cells + rm.cells ≤ R.cells) (hs : slots + rm.slots ≤ R.slots) :
    ∃ (v : Option Value) (T' : State) (L : List Loc), Stand p l e R s m args below meth c T' (locs ++ L) (cells + rm.cells) (slots + rm.slots) ∧ Q v T'.heap L ∧ ∀ target, Steps p.tables e below (T'.setTop { g with pc := g.pc + 3, stack := v.toList ++ rest }) target → Steps p.tables e below (T.setTop g) target := by
  subst eT
  obtain ⟨v, _, ⟨T', L', k', n'⟩, -, X', ⟨Lc, hQ, l18, y18, z18⟩, st⟩ := X.specialBack hx (y := y) hy1 hown (mvT hZ w1) (mvT hZ w2) (mvT hZ w4) hy (backOf (W := W) hM hZ w4 w3 hf hl) hg hsize (Steps.refl _) hlen hstack hW hdg (fun _ _ => ⟨rfl, rfl, hc, hs⟩)
  dsimp only [Pt.U, Pt.locs, Pt.cells, Pt.slots] at X' l18 y18 z18 st hQ
  subst l18 y18 z18
  exact ⟨v, T', Lc, X', hQ, fun _ k => st.trans k⟩
/-- an instance method that its own class selects, by its contract -/
theorem callCv (X : Stand p l e R s m args below meth c T locs cells slots) (hx : p.tables.exec = Jvm.exec) (hZ : Z.Warmed39 s.vm) (eT : T.heap = h) {own : String} {index : Nat} {y : MethodName} {bytes : ByteArray} {maxL : Nat} {ret : Option FieldType} {rm : Room} {Q : Option Value → Heap → List Loc → Prop} {a : Addr} {argsL rest : List Value}
    (hown : s.vm.findClass own = some m.cls) (w1 : (Cond.methodLink own index y).before a0 Z = true) (w5 : (Cond.declares y).before a0 Z = true) (w6 : (Cond.selects y.cls y y).before a0 Z = true) (w2 : (Cond.instanceMethod y).before a0 Z = true) (w3 : (Cond.initialized y.cls).before a0 Z = true) (w4 : (Cond.code y bytes maxL ret).before a0 Z = true)
    (hy : y.cls ≠ "java/lang/invoke/MethodHandle" ∧ y.cls ≠ "java/lang/invoke/VarHandle") (E : Exa Z h a y.cls) (hM : Ct l y bytes maxL ret [] rm Z (.ref a :: argsL).toArray h Q) {W : Nat} (hf : rm.frames + 1 ≤ R.frames) (hl : W + (maxL + 11) + rm.locals ≤ R.locals)
    {g : JFrame} (hg : g.method = m) (hsize : g.locals.size = c.maxLocals) (hlen : ∀ sig, parseMethodDescriptor y.desc = some sig → argsL.length = sig.parameters.length) (hstack : g.stack = argsL.reverse ++ .ref a :: rest) (hW : 2 * g.monitorRoom + (rest.map fun v => v.category).sum ≤ W)
    (hdg : decode c.code g.pc = .ok (.invokevirtual index, 3)) (hc : cells + rm.cells ≤ R.cells) (hs : slots + rm.slots ≤ R.slots) :
    ∃ (v : Option Value) (T' : State) (L : List Loc), Stand p l e R s m args below meth c T' (locs ++ L) (cells + rm.cells) (slots + rm.slots) ∧ Q v T'.heap L ∧ ∀ target, Steps p.tables e below (T'.setTop { g with pc := g.pc + 3, stack := v.toList ++ rest }) target → Steps p.tables e below (T.setTop g) target := by
  subst eT
  obtain ⟨cq, kq, qa, qb, qc⟩ := isOf hZ rfl E
  obtain ⟨v, _, ⟨T', L', k', n'⟩, -, X', ⟨Lc, hQ, l18, y18, z18⟩, st⟩ := X.virtualBack hx (y := y) (z := y) hown (mvT hZ w1) (mvT hZ w5) (notFace_of_selects (args := #[]) (mvT hZ w6)) (mvT hZ w6) (mvT hZ w2) hy (backOf (W := W) hM hZ w4 w3 hf hl) qa qc hg hsize (Steps.refl _) hlen hstack hW hdg (fun _ _ => ⟨rfl, rfl, hc, hs⟩)
  dsimp only [Pt.U, Pt.locs, Pt.cells, Pt.slots] at X' l18 y18 z18 st hQ
  subst l18 y18 z18
  exact ⟨v, T', Lc, X', hQ, fun _ k => st.trans k⟩
/-- a private instance method by its contract -/
theorem callCp (X : Stand p l e R s m args below meth c T locs cells slots) (hx : p.tables.exec = Jvm.exec) (hZ : Z.Warmed39 s.vm) (eT : T.heap = h) {own : String} {index : Nat} {y : MethodName} {bytes : ByteArray} {maxL k : Nat} {ret : Option FieldType} {rm : Room} {Q : Option Value → Heap → List Loc → Prop} {a : Addr} {argsL rest : List Value}
    (hown : s.vm.findClass own = some m.cls) (w1 : (Cond.methodLink own index y).before a0 Z = true) (w2 : (Cond.instanceMethod y).before a0 Z = true) (w7 : (Cond.privateMethod y).before a0 Z = true) (wi : (Cond.instantiable y.cls k).before a0 Z = true) (w3 : (Cond.initialized y.cls).before a0 Z = true) (w4 : (Cond.code y bytes maxL ret).before a0 Z = true)
    (hy : y.cls ≠ "java/lang/invoke/MethodHandle" ∧ y.cls ≠ "java/lang/invoke/VarHandle") (E : Exa Z h a y.cls) (hM : Ct l y bytes maxL ret [] rm Z (.ref a :: argsL).toArray h Q) {W : Nat} (hf : rm.frames + 1 ≤ R.frames) (hl : W + (maxL + 11) + rm.locals ≤ R.locals)
    {g : JFrame} (hg : g.method = m) (hsize : g.locals.size = c.maxLocals) (hlen : ∀ sig, parseMethodDescriptor y.desc = some sig → argsL.length = sig.parameters.length) (hstack : g.stack = argsL.reverse ++ .ref a :: rest) (hW : 2 * g.monitorRoom + (rest.map fun v => v.category).sum ≤ W)
    (hdg : decode c.code g.pc = .ok (.invokevirtual index, 3)) (hc : cells + rm.cells ≤ R.cells) (hs : slots + rm.slots ≤ R.slots) :
    ∃ (v : Option Value) (T' : State) (L : List Loc), Stand p l e R s m args below meth c T' (locs ++ L) (cells + rm.cells) (slots + rm.slots) ∧ Q v T'.heap L ∧ ∀ target, Steps p.tables e below (T'.setTop { g with pc := g.pc + 3, stack := v.toList ++ rest }) target → Steps p.tables e below (T.setTop g) target := by
  subst eT
  obtain ⟨cq, q1, q2⟩ := E.cell
  have hpriv : s.PrivateAt y := Cond.privateMethod_at (mvP hZ w7 (args := #[]))
  obtain ⟨cc, kk, i1, i2, -, i4, -⟩ := Cond.instantiable_spec (mvT (args := args) hZ wi)
  have hni : kk.isInterface = false := by simp only [Bool.or_eq_false_iff] at i4; exact i4.1
  have hsel := selects_self_of_private (args := args) i1 i2 hni hpriv (mvT hZ w2) hy
  obtain ⟨v, _, ⟨T', L', k', n'⟩, -, X', ⟨Lc, hQ, l18, y18, z18⟩, st⟩ := X.privateBack hx (y := y) hown (mvT hZ w1) (mvT hZ w2) hsel hpriv (mvT hZ w4) hy (backOf (W := W) hM hZ w4 w3 hf hl) hg hsize (Steps.refl _) q1 q2 hlen hstack hW hdg (fun _ _ => ⟨rfl, rfl, hc, hs⟩)
  dsimp only [Pt.U, Pt.locs, Pt.cells, Pt.slots] at X' l18 y18 z18 st hQ
  subst l18 y18 z18
  exact ⟨v, T', Lc, X', hQ, fun _ k => st.trans k⟩
end OwnGo
end Jvm.RoadKit
namespace Jvm.RoadKit
open Sem ClassFile Op Lib Jvm.Stand Jvm.Free Jvm.LawKit
section OwnAry
variable {p : Program} {l : Launch} {e : Env} {R : Room} {s : State} {m : MethodId} {args : Array Value} {below : List Frame} {meth : Method} {c : Code} {T : State} {locs : List Loc} {cells slots : Nat} {Z : State} {a0 : Array Value} {h h' : Heap} {a b : Addr} {ws : List Addr}
/-- the int j is the natural i -/
def IsN (j : Int32) (i : Nat) : Prop := ¬ j < 0 ∧ j.toNatClampNeg = i
def updN {α : Type} (f : Nat → α) (i : Nat) (x : α) : Nat → α := fun k => if k = i then x else f k
theorem updN_hit {α : Type} (f : Nat → α) (i : Nat) (x : α) : updN f i x i = x := if_pos rfl
theorem updN_miss {α : Type} {f : Nat → α} {i k : Nat} {x : α} (q : k ≠ i) : updN f i x k = f k := if_neg q
theorem isN_ofNat {n : Nat} (q : n < 2 ^ 31) : IsN (Int32.ofNat n) n := by
  have e : (Int32.ofNat n).toInt = n := len_toInt q
  exact ⟨by simp only [Int32.lt_iff_toInt_lt, e, Int32.reduceToInt]; omega, by simp only [Int32.toNatClampNeg, e]; omega⟩
theorem isN_of {j : Int32} {n : Nat} (q : j.toInt = n) : IsN j n :=
  ⟨by simp only [Int32.lt_iff_toInt_lt, q, Int32.reduceToInt]; omega, by simp only [Int32.toNatClampNeg, q]; omega⟩
theorem IsN.toInt {j : Int32} {n : Nat} (q : IsN j n) : j.toInt = n := by
  obtain ⟨q1, q2⟩ := q
  simp only [Int32.lt_iff_toInt_lt, Int32.reduceToInt, Int32.toNatClampNeg] at q1 q2; omega
/-- the array at a: of ty, n places; the place i holds mk (f i) -/
def Ary {α : Type} (Z : State) (h : Heap) (a : Addr) (ty : FieldType) (mk : α → Value) (n : Nat) (f : Nat → α) : Prop := ∃ c : Cell, Arr Z h a c ty ∧ c.slots.size = n ∧ n < 2 ^ 31 ∧ ∀ i, i < n → c.slots[i]? = some (mk (f i))
variable {α : Type} {ty : FieldType} {mk : α → Value} {n : Nat} {f f' : Nat → α}
theorem Ary.lt (V : Ary Z h a ty mk n f) : a < h.size := by obtain ⟨c, A, -⟩ := V; exact A.lt
theorem Ary.ext (V : Ary Z h a ty mk n f) (E : Ext h h') : Ary Z h' a ty mk n f := by obtain ⟨c, A, r⟩ := V; exact ⟨c, A.ext E, r⟩
theorem Ary.other {sl : Nat} {v : Value} (V : Ary Z h b ty mk n f) (W : Wr h h' a sl v) (q : b ≠ a) : Ary Z h' b ty mk n f := by obtain ⟨c, A, r⟩ := V; exact ⟨c, A.other W q, r⟩
theorem Ary.keep (V : Ary Z h a ty mk n f) (K : Keep h h' ws) (q : a ∉ ws) : Ary Z h' a ty mk n f := by obtain ⟨c, A, r⟩ := V; exact ⟨c, ⟨K.2.1 a c A.1 q, A.2⟩, r⟩
theorem Ary.congr (V : Ary Z h a ty mk n f) (q : ∀ i, i < n → f i = f' i) : Ary Z h a ty mk n f' := by
  obtain ⟨c, A, S, B, H⟩ := V; exact ⟨c, A, S, B, fun i hi => by rw [← q i hi]; exact H i hi⟩
theorem Ary.small (V : Ary Z h a ty mk n f) : n < 2 ^ 31 := by obtain ⟨c, A, S, B, H⟩ := V; exact B
theorem Ary.set {i : Nat} {x : α} (V : Ary Z h a ty mk n f) (W : Wr h h' a i (mk x)) : Ary Z h' a ty mk n (updN f i x) := by
  obtain ⟨c, A, S, B, H⟩ := V
  refine ⟨c.setSlot i (mk x), A.same W, by rw [sz_set]; exact S, B, fun k hk => ?_⟩
  by_cases e : k = i
  · subst e
    rw [updN_hit]
    exact Array.getElem?_setIfInBounds_self_of_lt (by omega)
  · rw [updN_miss e]
    exact (Array.getElem?_setIfInBounds_ne (Ne.symm e)).trans (H k hk)
theorem Ary.ne {C : String} {k : Nat} (V : Ary Z h a ty mk n f) (E : Exa Z h b C) (wi : (Cond.instantiable C k).before a0 Z = true) : b ≠ a := by
  obtain ⟨c, A, -⟩ := V; exact ne_arr E wi A
theorem Ary.new {k : ClassId} {z : Int32} {d : α} (A : Arr Z h a (newA k ty z) ty) (hz : IsN z n) (hd : defaultValue ty = mk d) : Ary Z h a ty mk n (fun _ => d) := by
  obtain ⟨h1, rfl⟩ := hz
  exact ⟨_, A, sz_new _ _ _, (back32 h1).2, fun i hi => by simp [newA, hi, hd]⟩
theorem aryLen (X : Stand p l e R s m args below meth c T locs cells slots) (hx : p.tables.exec = Jvm.exec) (hZ : Z.Warmed39 s.vm) (eT : T.heap = h) (V : Ary Z h a ty mk n f) {g : JFrame} (hg : g.method = m) {rest : List Value} (hs : g.stack = .ref a :: rest) (hd : decode c.code g.pc = .ok (.arraylength, 1)) :
    ∀ t, Steps p.tables e below (T.setTop { g with pc := g.pc + 1, stack := .int (Int32.ofNat n) :: rest }) t → Steps p.tables e below (T.setTop g) t := by
  obtain ⟨c', A, S, B, H⟩ := V
  intro t k
  exact X.arraylength hx (by rw [eT]; exact A.1) (State.isArrayOf_alike hZ.alike A.2.1) hg hs hd t (by rw [S]; exact k)
theorem aryLdI {f : Nat → Int32} (X : Stand p l e R s m args below meth c T locs cells slots) (hx : p.tables.exec = Jvm.exec) (hZ : Z.Warmed39 s.vm) (eT : T.heap = h) (V : Ary Z h a .int Value.int n f) {j : Int32} {i : Nat} (hj : IsN j i) (hi : i < n) {g : JFrame} (hg : g.method = m) {rest : List Value} (hs : g.stack = .int j :: .ref a :: rest) (hd : decode c.code g.pc = .ok (.iaload, 1)) :
    ∀ t, Steps p.tables e below (T.setTop { g with pc := g.pc + 1, stack := .int (f i) :: rest }) t → Steps p.tables e below (T.setTop g) t := by
  obtain ⟨c', A, S, B, H⟩ := V
  obtain ⟨h1, rfl⟩ := hj
  exact fun t k => X.iaload hx (by rw [eT]; exact A.1) (State.isArrayOf_alike hZ.alike A.2.1) A.2.2 (fun q => q.elim h1 (fun q => by omega)) (H _ hi) hg hs hd t k
theorem aryLdJ {f : Nat → Int64} (X : Stand p l e R s m args below meth c T locs cells slots) (hx : p.tables.exec = Jvm.exec) (hZ : Z.Warmed39 s.vm) (eT : T.heap = h) (V : Ary Z h a .long Value.long n f) {j : Int32} {i : Nat} (hj : IsN j i) (hi : i < n) {g : JFrame} (hg : g.method = m) {rest : List Value} (hs : g.stack = .int j :: .ref a :: rest) (hd : decode c.code g.pc = .ok (.laload, 1)) :
    ∀ t, Steps p.tables e below (T.setTop { g with pc := g.pc + 1, stack := .long (f i) :: rest }) t → Steps p.tables e below (T.setTop g) t := by
  obtain ⟨c', A, S, B, H⟩ := V
  obtain ⟨h1, rfl⟩ := hj
  exact fun t k => X.laload hx (by rw [eT]; exact A.1) (State.isArrayOf_alike hZ.alike A.2.1) A.2.2 (fun q => q.elim h1 (fun q => by omega)) (H _ hi) hg hs hd t k
theorem aryLdB {f : Nat → Int32} (X : Stand p l e R s m args below meth c T locs cells slots) (hx : p.tables.exec = Jvm.exec) (hZ : Z.Warmed39 s.vm) (eT : T.heap = h) (V : Ary Z h a .byte Value.int n f) {j : Int32} {i : Nat} (hj : IsN j i) (hi : i < n) {g : JFrame} (hg : g.method = m) {rest : List Value} (hs : g.stack = .int j :: .ref a :: rest) (hd : decode c.code g.pc = .ok (.baload, 1)) :
    ∀ t, Steps p.tables e below (T.setTop { g with pc := g.pc + 1, stack := .int (f i) :: rest }) t → Steps p.tables e below (T.setTop g) t := by
  obtain ⟨c', A, S, B, H⟩ := V
  obtain ⟨h1, rfl⟩ := hj
  exact fun t k => X.baloadBytes hx (by rw [eT]; exact A.1) (State.isArrayOf_alike hZ.alike A.2.1) A.2.2 (fun q => q.elim h1 (fun q => by omega)) (H _ hi) hg hs hd t k
theorem aryStI {f : Nat → Int32} (X : Stand p l e R s m args below meth c T locs cells slots) (hx : p.tables.exec = Jvm.exec) (hZ : Z.Warmed39 s.vm) (eT : T.heap = h) (V : Ary Z h a .int Value.int n f) {j x : Int32} {i : Nat} (hj : IsN j i) (hi : i < n) {g : JFrame} (hg : g.method = m) {rest : List Value} (hs : g.stack = .int x :: .int j :: .ref a :: rest) (hd : decode c.code g.pc = .ok (.iastore, 1)) :
    ∃ T' h', Stand p l e R s m args below meth c T' (locs ++ [⟨a, i⟩]) cells slots ∧ T'.heap = h' ∧ Wr h h' a i (.int x) ∧ Ary Z h' a .int Value.int n (updN f i x) ∧ ∀ target, Steps p.tables e below (T'.setTop { g with pc := g.pc + 1, stack := rest }) target → Steps p.tables e below (T.setTop g) target := by
  obtain ⟨c', A, S, B, H⟩ := id V
  obtain ⟨h1, rfl⟩ := hj
  obtain ⟨T', h', X', e', W', st⟩ := stI X hx hZ eT A (fun q => q.elim h1 (fun q => by omega)) hg hs hd
  exact ⟨T', h', X', e', W', V.set (mk := Value.int) W', st⟩
theorem aryStJ {f : Nat → Int64} (X : Stand p l e R s m args below meth c T locs cells slots) (hx : p.tables.exec = Jvm.exec) (hZ : Z.Warmed39 s.vm) (eT : T.heap = h) (V : Ary Z h a .long Value.long n f) {j : Int32} {x : Int64} {i : Nat} (hj : IsN j i) (hi : i < n) {g : JFrame} (hg : g.method = m) {rest : List Value} (hs : g.stack = .long x :: .int j :: .ref a :: rest) (hd : decode c.code g.pc = .ok (.lastore, 1)) :
    ∃ T' h', Stand p l e R s m args below meth c T' (locs ++ [⟨a, i⟩]) cells slots ∧ T'.heap = h' ∧ Wr h h' a i (.long x) ∧ Ary Z h' a .long Value.long n (updN f i x) ∧ ∀ target, Steps p.tables e below (T'.setTop { g with pc := g.pc + 1, stack := rest }) target → Steps p.tables e below (T.setTop g) target := by
  obtain ⟨c', A, S, B, H⟩ := id V
  obtain ⟨h1, rfl⟩ := hj
  obtain ⟨T', h', X', e', W', st⟩ := stJ X hx hZ eT A (fun q => q.elim h1 (fun q => by omega)) hg hs hd
  exact ⟨T', h', X', e', W', V.set (mk := Value.long) W', st⟩
theorem aryStB {f : Nat → Int32} (X : Stand p l e R s m args below meth c T locs cells slots) (hx : p.tables.exec = Jvm.exec) (hZ : Z.Warmed39 s.vm) (eT : T.heap = h) (V : Ary Z h a .byte Value.int n f) {j x : Int32} {i : Nat} (hj : IsN j i) (hi : i < n) {g : JFrame} (hg : g.method = m) {rest : List Value} (hs : g.stack = .int x :: .int j :: .ref a :: rest) (hd : decode c.code g.pc = .ok (.bastore, 1)) :
    ∃ T' h', Stand p l e R s m args below meth c T' (locs ++ [⟨a, i⟩]) cells slots ∧ T'.heap = h' ∧ Wr h h' a i (.int x.toInt8.toInt32) ∧ Ary Z h' a .byte Value.int n (updN f i x.toInt8.toInt32) ∧ ∀ target, Steps p.tables e below (T'.setTop { g with pc := g.pc + 1, stack := rest }) target → Steps p.tables e below (T.setTop g) target := by
  obtain ⟨c', A, S, B, H⟩ := id V
  obtain ⟨h1, rfl⟩ := hj
  obtain ⟨T', h', X', e', W', st⟩ := stB X hx hZ eT A (fun q => q.elim h1 (fun q => by omega)) hg hs hd
  exact ⟨T', h', X', e', W', V.set (mk := Value.int) W', st⟩
theorem aryStZ {f : Nat → Int32} (X : Stand p l e R s m args below meth c T locs cells slots) (hx : p.tables.exec = Jvm.exec) (hZ : Z.Warmed39 s.vm) (eT : T.heap = h) (V : Ary Z h a .boolean Value.int n f) {j x : Int32} {i : Nat} (hj : IsN j i) (hi : i < n) {g : JFrame} (hg : g.method = m) {rest : List Value} (hs : g.stack = .int x :: .int j :: .ref a :: rest) (hd : decode c.code g.pc = .ok (.bastore, 1)) :
    ∃ T' h', Stand p l e R s m args below meth c T' (locs ++ [⟨a, i⟩]) cells slots ∧ T'.heap = h' ∧ Wr h h' a i (.int (x &&& 1)) ∧ Ary Z h' a .boolean Value.int n (updN f i (x &&& 1)) ∧ ∀ target, Steps p.tables e below (T'.setTop { g with pc := g.pc + 1, stack := rest }) target → Steps p.tables e below (T.setTop g) target := by
  obtain ⟨c', A, S, B, H⟩ := id V
  obtain ⟨h1, rfl⟩ := hj
  obtain ⟨T', h', X', e', W', st⟩ := stZ X hx hZ eT A (fun q => q.elim h1 (fun q => by omega)) hg hs hd
  exact ⟨T', h', X', e', W', V.set (mk := Value.int) W', st⟩
end OwnAry
end Jvm.RoadKit
namespace Jvm.Kit
open Jvm.RoadKit
theorem own_gt (x y : Int64) : (0 : Int32) < lcmpW x y ↔ y.toInt < x.toInt := by
  rw [← Int64.lt_iff_toInt_lt]; unfold lcmpW
  by_cases h : y < x
  · simp [h]
  · by_cases h2 : x = y
    · subst h2; simp
    · simp [h, h2]
theorem own_lt (x y : Int64) : lcmpW x y < (0 : Int32) ↔ x.toInt < y.toInt := by
  have e : x.toInt < y.toInt ↔ ¬ y < x ∧ x ≠ y := by
    rw [Int64.lt_iff_toInt_lt, ne_eq, ← Int64.toInt_inj]; omega
  rw [e]; unfold lcmpW
  by_cases h : y < x
  · simp [h]
  · by_cases h2 : x = y
    · subst h2; simp
    · simp [h, h2]
theorem own_ceq (x y : Int64) : lcmpW x y = (0 : Int32) ↔ x = y := by
  unfold lcmpW
  by_cases h : y < x
  · simp [h]; intro q; subst q; exact absurd h (by simp)
  · by_cases h2 : x = y
    · subst h2; simp
    · simp [h, h2]
theorem own_lti {x : Int32} {r : Int32} {k : Int} (e : r.toInt = k) : x < r ↔ x.toInt < k := by rw [Int32.lt_iff_toInt_lt, e]
theorem own_gti {x : Int32} {r : Int32} {k : Int} (e : r.toInt = k) : r < x ↔ k < x.toInt := by rw [Int32.lt_iff_toInt_lt, e]
theorem own_m (a : Int32) : 0 ≤ (a &&& (2147483647 : Int32)).toInt := by
  have h := i32_and_bounds a (m := 2147483647) (by decide)
  rw [Kit.i32_nonneg] at h; exact h.1
theorem own_mk (a : Int32) {k : Int32} {n : Int} (hk : 0 ≤ k) (e : k.toInt = n) : 0 ≤ (a &&& k).toInt ∧ (a &&& k).toInt ≤ n := by
  have h := i32_and_bounds a hk
  rw [Kit.i32_nonneg, Int32.le_iff_toInt_le, e] at h; exact h
theorem own_rem {a b : Int32} (ha : 0 ≤ a.toInt) (hb : 0 < b.toInt) : 0 ≤ (a % b).toInt ∧ (a % b).toInt < b.toInt := by
  rw [i32_rem_nonneg ha]; exact ⟨Int.emod_nonneg _ (by omega), Int.emod_lt_of_pos _ hb⟩
theorem own_one : (1 : Int32).toInt = 1 := by decide
theorem own_zero : (0 : Int32).toInt = 0 := by decide
theorem own_zero64 : (0 : Int64).toInt = 0 := by decide
theorem own_one64 : (1 : Int64).toInt = 1 := by decide
theorem own_nz {a : Int32} (h : 0 < a.toInt) : a ≠ 0 := fun q => by rw [q] at h; exact absurd h (by decide)
end Jvm.Kit
namespace Jvm.Kit
theorem own_succ (i : Nat) : Int32.ofNat i + (1 : Int32) = Int32.ofNat (i + 1) := by rw [Int32.ofNat_add]; rfl
theorem own_tn {n : Nat} (q : n < 2 ^ 31) : (Int32.ofNat n).toInt = n := Jvm.RoadKit.len_toInt q
theorem own_ltN {i n : Nat} (hi : i < 2 ^ 31) (hn : n < 2 ^ 31) : Int32.ofNat i < Int32.ofNat n ↔ i < n := by
  rw [Int32.lt_iff_toInt_lt, own_tn hi, own_tn hn]; omega
theorem own_nat {j : Int32} (h : 0 ≤ j.toInt) : ∃ n : Nat, j = Int32.ofNat n ∧ n < 2 ^ 31 ∧ j.toInt = n := by
  have := j.toInt_lt
  have hn : j.toInt.toNat < 2 ^ 31 := by omega
  exact ⟨j.toInt.toNat, Int32.toInt_inj.mp (by rw [own_tn hn]; omega), hn, by omega⟩
end Jvm.Kit
namespace Jvm.Pilot.@@N@@
open Jvm Jvm.ClassFile Sem Op Lib Jvm.Free Jvm.Stand Jvm.LawKit Jvm.RoadKit Bundle Jvm.Pilot.@@N@@.Jvm.D
open Jvm.Kit
def own_min (x y : Int32) : Int32 := if y < x then y else x
def own_max (x y : Int32) : Int32 := if x < y then y else x
def own_cov (F K x : Int32) : Int32 := if x < F then 0 else if K < x then 0 else 1
theorem own_cov1 {F K x : Int32} (h1 : F.toInt ≤ x.toInt) (h2 : x.toInt ≤ K.toInt) : own_cov F K x = 1 := by
  unfold own_cov
  rw [if_neg (by rw [Int32.lt_iff_toInt_lt]; omega), if_neg (by rw [Int32.lt_iff_toInt_lt]; omega)]
theorem own_cov0 {F K x : Int32} (h1 : x.toInt < F.toInt ∨ K.toInt < x.toInt) : own_cov F K x = 0 := by
  unfold own_cov
  by_cases q : x < F
  · rw [if_pos q]
  · rw [if_neg q]
    rw [Int32.lt_iff_toInt_lt] at q
    rw [if_pos (by rw [Int32.lt_iff_toInt_lt]; omega)]
theorem own_mm (a b : Int32) : 0 ≤ (own_min (a &&& (255 : Int32)) (b &&& (255 : Int32))).toInt ∧ (own_min (a &&& (255 : Int32)) (b &&& (255 : Int32))).toInt ≤ (own_max (a &&& (255 : Int32)) (b &&& (255 : Int32))).toInt ∧ (own_max (a &&& (255 : Int32)) (b &&& (255 : Int32))).toInt ≤ 255 := by
  have h1 := own_mk a (k := 255) (n := 255) (by decide) (by decide)
  have h2 := own_mk b (k := 255) (n := 255) (by decide) (by decide)
  generalize a &&& (255 : Int32) = x at h1 ⊢
  generalize b &&& (255 : Int32) = y at h2 ⊢
  unfold own_min own_max
  by_cases q : y < x
  · rw [if_pos q]; rw [Int32.lt_iff_toInt_lt] at q
    rw [if_neg (by rw [Int32.lt_iff_toInt_lt]; omega)]; omega
  · rw [if_neg q]; rw [Int32.lt_iff_toInt_lt] at q
    by_cases r : x < y
    · rw [if_pos r]; omega
    · rw [if_neg r]; omega
theorem own_d (x F : Int32) : (x.toInt64 - F.toInt64).toInt = x.toInt - F.toInt := by
  have := x.toInt_lt; have := x.le_toInt; have := F.toInt_lt; have := F.le_toInt
  rw [Kit.i64_sub (by rw [Kit.i64_of_i32, Kit.i64_of_i32]; omega) (by rw [Kit.i64_of_i32, Kit.i64_of_i32]; omega), Kit.i64_of_i32, Kit.i64_of_i32]
theorem own_w {F K : Int32} (h : 0 ≤ F.toInt ∧ F.toInt ≤ K.toInt ∧ K.toInt ≤ 255) : ((K - F).toInt64).toInt = K.toInt - F.toInt := by
  rw [Kit.i64_of_i32, Kit.i32_sub (by omega) (by omega)]
theorem d_jdk_29_method_69_0 : decode jdk_29_method_69_code 0 = .ok (.iload_n 0, 1) := by decide +kernel
theorem d_jdk_29_method_69_1 : decode jdk_29_method_69_code 1 = .ok (.iload_n 1, 1) := by decide +kernel
theorem d_jdk_29_method_69_2 : decode jdk_29_method_69_code 2 = .ok (.if_icmp .gt 7, 3) := by decide +kernel
theorem d_jdk_29_method_69_9 : decode jdk_29_method_69_code 9 = .ok (.iload_n 1, 1) := by decide +kernel
theorem d_jdk_29_method_69_10 : decode jdk_29_method_69_code 10 = .ok (.ireturn, 1) := by decide +kernel
theorem d_jdk_29_method_69_5 : decode jdk_29_method_69_code 5 = .ok (.iload_n 0, 1) := by decide +kernel
theorem d_jdk_29_method_69_6 : decode jdk_29_method_69_code 6 = .ok (.goto 4, 3) := by decide +kernel
theorem ef_rm_min (m : MethodId) (i : Int32) (j : Int32) : entryFrame m #[(.int i), (.int j)] 2 = mkF m 0 #[.val (.int i), .val (.int j)] [] := by first | (simp [entryFrame, mkF, argsToLocals, Value.category]; done) | rfl
set_option maxRecDepth 65536 in
set_option maxHeartbeats 40000000 in
theorem rm_min (l : Launch) (Z : State) (a0 : Array Value) (hw : ∀ d ∈ tables_1, d.before a0 Z = true) (i : Int32) (j : Int32)  (h0 : Heap) (n0 : Nat) (Z0 : n0 ≤ h0.size)  :
    Ct l (⟨"java/lang/Math", "min", "(II)I"⟩ : MethodName) jdk_29_method_69_code 2 (some .int) [] ({ frames := 0, cells := 0, slots := 0, locals := 0 } : Room) Z #[(.int i), (.int j)] h0 (fun v h L => v = some (.int (own_min i j)) ∧ Fr n0 L ∧ h = h0) := by
  refine Ct.of (Jvm.Free.JP.mathPlain rfl (by decide +kernel)) (fun m => ef_rm_min m i j) ?_
  intro p e s m below meth c T0 X0 hx hby hml hret hlk hown hnm hZ e0 P hP
  refine Go.st (fun _ kt => XS.iloadN X0.here hx rfl (hb hby d_jdk_29_method_69_0) rfl (XS.iloadN X0.here hx rfl (hb hby d_jdk_29_method_69_1) rfl kt)) ?_
  show Go p e below P (T0.setTop (mkF m 2 #[.val (.int i), .val (.int j)] [(.int j), (.int i)]))
  by_cases br1 : j < i
  · refine Go.st (fun _ kt => XS.icmpYes X0.here hx rfl (pc0 := 2) (pc' := 9) rfl (hb hby d_jdk_29_method_69_2) rfl (tlt br1).2.2.1 (by decide) (by decide) kt) ?_
    show Go p e below P (T0.setTop (mkF m 9 #[.val (.int i), .val (.int j)] []))
    refine Go.st (fun _ kt => XS.iloadN X0.here hx rfl (hb hby d_jdk_29_method_69_9) rfl kt) ?_
    show Go p e below P (T0.setTop (mkF m 10 #[.val (.int i), .val (.int j)] [(.int j)]))
    exact goI X0 hx hret hlk (hb hby d_jdk_29_method_69_10) hP (by decide) (by decide) ⟨by simp [own_min, br1], (Fr.nil n0), e0⟩
  · refine Go.st (fun _ kt => XS.icmpNo X0.here hx rfl (hb hby d_jdk_29_method_69_2) rfl (flt br1).2.2.1 kt) ?_
    show Go p e below P (T0.setTop (mkF m 5 #[.val (.int i), .val (.int j)] []))
    refine Go.st (fun _ kt => XS.iloadN X0.here hx rfl (hb hby d_jdk_29_method_69_5) rfl (XS.goto X0.here hx rfl (pc0 := 6) (pc' := 10) rfl (hb hby d_jdk_29_method_69_6) (by decide) (by decide) kt)) ?_
    show Go p e below P (T0.setTop (mkF m 10 #[.val (.int i), .val (.int j)] [(.int i)]))
    exact goI X0 hx hret hlk (hb hby d_jdk_29_method_69_10) hP (by decide) (by decide) ⟨by simp [own_min, br1], (Fr.nil n0), e0⟩
theorem d_jdk_29_method_65_0 : decode jdk_29_method_65_code 0 = .ok (.iload_n 0, 1) := by decide +kernel
theorem d_jdk_29_method_65_1 : decode jdk_29_method_65_code 1 = .ok (.iload_n 1, 1) := by decide +kernel
theorem d_jdk_29_method_65_2 : decode jdk_29_method_65_code 2 = .ok (.if_icmp .lt 7, 3) := by decide +kernel
theorem d_jdk_29_method_65_9 : decode jdk_29_method_65_code 9 = .ok (.iload_n 1, 1) := by decide +kernel
theorem d_jdk_29_method_65_10 : decode jdk_29_method_65_code 10 = .ok (.ireturn, 1) := by decide +kernel
theorem d_jdk_29_method_65_5 : decode jdk_29_method_65_code 5 = .ok (.iload_n 0, 1) := by decide +kernel
theorem d_jdk_29_method_65_6 : decode jdk_29_method_65_code 6 = .ok (.goto 4, 3) := by decide +kernel
theorem ef_rm_max (m : MethodId) (i : Int32) (j : Int32) : entryFrame m #[(.int i), (.int j)] 2 = mkF m 0 #[.val (.int i), .val (.int j)] [] := by first | (simp [entryFrame, mkF, argsToLocals, Value.category]; done) | rfl
set_option maxRecDepth 65536 in
set_option maxHeartbeats 40000000 in
theorem rm_max (l : Launch) (Z : State) (a0 : Array Value) (hw : ∀ d ∈ tables_1, d.before a0 Z = true) (i : Int32) (j : Int32)  (h0 : Heap) (n0 : Nat) (Z0 : n0 ≤ h0.size)  :
    Ct l (⟨"java/lang/Math", "max", "(II)I"⟩ : MethodName) jdk_29_method_65_code 2 (some .int) [] ({ frames := 0, cells := 0, slots := 0, locals := 0 } : Room) Z #[(.int i), (.int j)] h0 (fun v h L => v = some (.int (own_max i j)) ∧ Fr n0 L ∧ h = h0) := by
  refine Ct.of (Jvm.Free.JP.mathPlain rfl (by decide +kernel)) (fun m => ef_rm_max m i j) ?_
  intro p e s m below meth c T0 X0 hx hby hml hret hlk hown hnm hZ e0 P hP
  refine Go.st (fun _ kt => XS.iloadN X0.here hx rfl (hb hby d_jdk_29_method_65_0) rfl (XS.iloadN X0.here hx rfl (hb hby d_jdk_29_method_65_1) rfl kt)) ?_
  show Go p e below P (T0.setTop (mkF m 2 #[.val (.int i), .val (.int j)] [(.int j), (.int i)]))
  by_cases br1 : i < j
  · refine Go.st (fun _ kt => XS.icmpYes X0.here hx rfl (pc0 := 2) (pc' := 9) rfl (hb hby d_jdk_29_method_65_2) rfl (tlt br1).1 (by decide) (by decide) kt) ?_
    show Go p e below P (T0.setTop (mkF m 9 #[.val (.int i), .val (.int j)] []))
    refine Go.st (fun _ kt => XS.iloadN X0.here hx rfl (hb hby d_jdk_29_method_65_9) rfl kt) ?_
    show Go p e below P (T0.setTop (mkF m 10 #[.val (.int i), .val (.int j)] [(.int j)]))
    exact goI X0 hx hret hlk (hb hby d_jdk_29_method_65_10) hP (by decide) (by decide) ⟨by simp [own_max, br1], (Fr.nil n0), e0⟩
  · refine Go.st (fun _ kt => XS.icmpNo X0.here hx rfl (hb hby d_jdk_29_method_65_2) rfl (flt br1).1 kt) ?_
    show Go p e below P (T0.setTop (mkF m 5 #[.val (.int i), .val (.int j)] []))
    refine Go.st (fun _ kt => XS.iloadN X0.here hx rfl (hb hby d_jdk_29_method_65_5) rfl (XS.goto X0.here hx rfl (pc0 := 6) (pc' := 10) rfl (hb hby d_jdk_29_method_65_6) (by decide) (by decide) kt)) ?_
    show Go p e below P (T0.setTop (mkF m 10 #[.val (.int i), .val (.int j)] [(.int i)]))
    exact goI X0 hx hret hlk (hb hby d_jdk_29_method_65_10) hP (by decide) (by decide) ⟨by simp [own_max, br1], (Fr.nil n0), e0⟩
theorem d_jdk_30_method_1_0 : decode jdk_30_method_1_code 0 = .ok (.aload_n 0, 1) := by decide +kernel
theorem d_jdk_30_method_1_1 : decode jdk_30_method_1_code 1 = .ok (.invokespecial 1, 3) := by decide +kernel
theorem d_jdk_30_method_1_4 : decode jdk_30_method_1_code 4 = .ok (.return_, 1) := by decide +kernel
theorem pn_0 : plainName "java/lang/Record" = true := by first | (simp [plainName, overriddenIn]; done) | decide +kernel
theorem ef_rmR (m : MethodId) (a : Addr) : entryFrame m #[(.ref a)] 1 = mkF m 0 #[.val (.ref a)] [] := by first | (simp [entryFrame, mkF, argsToLocals, Value.category]; done) | rfl
set_option maxRecDepth 65536 in
set_option maxHeartbeats 40000000 in
theorem rmR (l : Launch) (Z : State) (a0 : Array Value) (hw : ∀ d ∈ tables_1, d.before a0 Z = true) (a : Addr)  (h0 : Heap) (n0 : Nat) (Z0 : n0 ≤ h0.size)  :
    Ct l (⟨"java/lang/Record", "<init>", "()V"⟩ : MethodName) jdk_30_method_1_code 1 none [] ({ frames := 1, cells := 0, slots := 0, locals := 12 } : Room) Z #[(.ref a)] h0 (fun v h L => v = none ∧ Fr n0 L ∧ h = h0) := by
  refine Ct.of (plainFor_of_name pn_0) (fun m => ef_rmR m a) ?_
  intro p e s m below meth c T0 X0 hx hby hml hret hlk hown hnm hZ e0 P hP
  refine Go.st (fun _ kt => XS.aloadN X0.here hx rfl (hb hby d_jdk_30_method_1_0) rfl rfl kt) ?_
  show Go p e below P (T0.setTop (mkF m 1 #[.val (.ref a)] [(.ref a)]))
  obtain ⟨T1, X1, e1, st1⟩ := initO X0 hx hZ hown (hw _ (List.mem_of_getElem? (i := 18) rfl)) (hw _ (List.mem_of_getElem? (i := 19) rfl)) (hw _ (List.mem_of_getElem? (i := 20) rfl)) e0 (g := (mkF m 1 #[.val (.ref a)] [(.ref a)])) rfl (by rw [hml]; rfl) rfl (hb hby d_jdk_30_method_1_1) (by decide) (W := 0) (by show 2 * 0 + _ ≤ _; exact Nat.le_of_eq rfl) (by decide)
  refine Go.st st1 ?_
  show Go p e below P (T1.setTop (mkF m 4 #[.val (.ref a)] []))
  exact goV X1 hx hret hlk (hb hby d_jdk_30_method_1_4) hP (by decide) (by decide) ⟨rfl, (Fr.nil n0), e1⟩
theorem d_prog_6_method_1_0 : decode prog_6_method_1_code 0 = .ok (.aload_n 0, 1) := by decide +kernel
theorem pd_1 : parseMethodDescriptor "()V" = some ⟨[], none⟩ := by decide +kernel
theorem d_prog_6_method_1_1 : decode prog_6_method_1_code 1 = .ok (.invokespecial 1, 3) := by decide +kernel
theorem d_prog_6_method_1_4 : decode prog_6_method_1_code 4 = .ok (.iload_n 1, 1) := by decide +kernel
theorem d_prog_6_method_1_5 : decode prog_6_method_1_code 5 = .ok (.ifCond .lt 15, 3) := by decide +kernel
theorem d_prog_6_method_1_8 : decode prog_6_method_1_code 8 = .ok (.iload_n 1, 1) := by decide +kernel
theorem d_prog_6_method_1_9 : decode prog_6_method_1_code 9 = .ok (.iload_n 2, 1) := by decide +kernel
theorem d_prog_6_method_1_10 : decode prog_6_method_1_code 10 = .ok (.if_icmp .gt 10, 3) := by decide +kernel
theorem d_prog_6_method_1_13 : decode prog_6_method_1_code 13 = .ok (.iload_n 2, 1) := by decide +kernel
theorem d_prog_6_method_1_14 : decode prog_6_method_1_code 14 = .ok (.sipush 256, 3) := by decide +kernel
theorem d_prog_6_method_1_17 : decode prog_6_method_1_code 17 = .ok (.if_icmp .lt 18, 3) := by decide +kernel
theorem d_prog_6_method_1_35 : decode prog_6_method_1_code 35 = .ok (.aload_n 0, 1) := by decide +kernel
theorem d_prog_6_method_1_36 : decode prog_6_method_1_code 36 = .ok (.iload_n 1, 1) := by decide +kernel
theorem d_prog_6_method_1_37 : decode prog_6_method_1_code 37 = .ok (.putfield 18, 3) := by decide +kernel
theorem d_prog_6_method_1_40 : decode prog_6_method_1_code 40 = .ok (.aload_n 0, 1) := by decide +kernel
theorem d_prog_6_method_1_41 : decode prog_6_method_1_code 41 = .ok (.iload_n 2, 1) := by decide +kernel
theorem d_prog_6_method_1_42 : decode prog_6_method_1_code 42 = .ok (.putfield 24, 3) := by decide +kernel
theorem d_prog_6_method_1_45 : decode prog_6_method_1_code 45 = .ok (.return_, 1) := by decide +kernel
theorem pn_2 : plainName "io/sluicegate/io/HashRange" = true := by first | (simp [plainName, overriddenIn]; done) | decide +kernel
theorem ef_rmI (m : MethodId) (a : Addr) (i : Int32) (j : Int32) : entryFrame m #[(.ref a), (.int i), (.int j)] 3 = mkF m 0 #[.val (.ref a), .val (.int i), .val (.int j)] [] := by first | (simp [entryFrame, mkF, argsToLocals, Value.category]; done) | rfl
set_option maxRecDepth 65536 in
set_option maxHeartbeats 40000000 in
theorem rmI (l : Launch) (Z : State) (a0 : Array Value) (hw : ∀ d ∈ tables_1, d.before a0 Z = true) (a : Addr) (i : Int32) (j : Int32)  (h0 : Heap) (n0 : Nat) (Z0 : n0 ≤ h0.size) (Ea : Exa Z h0 a "io/sluicegate/io/HashRange") (Ff : Fld Z h0 a "io/sluicegate/io/HashRange" "first" "I" (.int (0 : Int32))) (Fl : Fld Z h0 a "io/sluicegate/io/HashRange" "last" "I" (.int (0 : Int32))) (Ga : n0 ≤ a) (h1 : ¬ i < 0) (h2 : ¬ j < i) (h3 : j < 256) :
    Ct l (⟨"io/sluicegate/io/HashRange", "<init>", "(II)V"⟩ : MethodName) prog_6_method_1_code 3 none [] ({ frames := 2, cells := 0, slots := 0, locals := 24 } : Room) Z #[(.ref a), (.int i), (.int j)] h0 (fun v h L => v = none ∧ Fr n0 L ∧ Keep h0 h [a] ∧ Exa Z h a "io/sluicegate/io/HashRange" ∧ Fld Z h a "io/sluicegate/io/HashRange" "first" "I" (.int i) ∧ Fld Z h a "io/sluicegate/io/HashRange" "last" "I" (.int j)) := by
  refine Ct.of (plainFor_of_name pn_2) (fun m => ef_rmI m a i j) ?_
  intro p e s m below meth c T0 X0 hx hby hml hret hlk hown hnm hZ e0 P hP
  refine Go.st (fun _ kt => XS.aloadN X0.here hx rfl (hb hby d_prog_6_method_1_0) rfl rfl kt) ?_
  show Go p e below P (T0.setTop (mkF m 1 #[.val (.ref a), .val (.int i), .val (.int j)] [(.ref a)]))
  obtain ⟨_, T1, Lc1, X1, ⟨rfl, Nq1, eq1⟩, st1⟩ := callCtor X0 hx hZ e0 (y := (⟨"java/lang/Record", "<init>", "()V"⟩ : MethodName)) rfl (a := a) (argsL := []) (rest := []) hown (hw _ (List.mem_of_getElem? (i := 13) rfl)) (hw _ (List.mem_of_getElem? (i := 14) rfl)) (hw _ (List.mem_of_getElem? (i := 16) rfl)) (hw _ (List.mem_of_getElem? (i := 17) rfl)) (by decide) (rmR l Z a0 hw a _ n0 Z0) (W := 0) (by decide) (by decide) (g := (mkF m 1 #[.val (.ref a), .val (.int i), .val (.int j)] [(.ref a)])) rfl (by rw [hml]; rfl) (lenOf pd_1 rfl) rfl (by show 2 * 0 + _ ≤ _; exact Nat.le_of_eq rfl) (hb hby d_prog_6_method_1_1) (by decide) (by decide)
  have N1 := Fr.app (Fr.nil n0) Nq1
  have e1 : T1.heap = h0 := eq1
  refine Go.st st1 ?_
  show Go p e below P (T1.setTop (mkF m 4 #[.val (.ref a), .val (.int i), .val (.int j)] []))
  refine Go.st (fun _ kt => XS.iloadN X1.here hx rfl (hb hby d_prog_6_method_1_4) rfl (XS.ifNo X1.here hx rfl (hb hby d_prog_6_method_1_5) rfl ((if0 _ _).trans (flt h1).1) (XS.iloadN X1.here hx rfl (hb hby d_prog_6_method_1_8) rfl (XS.iloadN X1.here hx rfl (hb hby d_prog_6_method_1_9) rfl (XS.icmpNo X1.here hx rfl (hb hby d_prog_6_method_1_10) rfl (flt h2).2.2.1 (XS.iloadN X1.here hx rfl (hb hby d_prog_6_method_1_13) rfl (XS.sipush X1.here hx rfl (hb hby d_prog_6_method_1_14) (XS.icmpYes X1.here hx rfl (pc0 := 17) (pc' := 35) rfl (hb hby d_prog_6_method_1_17) rfl (tlt h3).1 (by decide) (by decide) kt)))))))) ?_
  show Go p e below P (T1.setTop (mkF m 35 #[.val (.ref a), .val (.int i), .val (.int j)] []))
  refine Go.st (fun _ kt => XS.aloadN X1.here hx rfl (hb hby d_prog_6_method_1_35) rfl rfl (XS.iloadN X1.here hx rfl (hb hby d_prog_6_method_1_36) rfl kt)) ?_
  show Go p e below P (T1.setTop (mkF m 37 #[.val (.ref a), .val (.int i), .val (.int j)] [(.int i), (.ref a)]))
  obtain ⟨T2, h2, X2, e2, W2, st2⟩ := putF X1 hx hZ hown (host := "") (Or.inl (hw _ (List.mem_of_getElem? (i := 21) rfl))) Via.refl e1 Ff Ea (Or.inr ⟨(hw _ (List.mem_of_getElem? (i := 22) rfl)), rfl, hnm⟩) (hw _ (List.mem_of_getElem? (i := 8) rfl)) (ty := .int) (by decide) rfl rfl (g := (mkF m 37 #[.val (.ref a), .val (.int i), .val (.int j)] [(.int i), (.ref a)])) rfl rfl (hb hby d_prog_6_method_1_37)
  have Fw2 := Fld.same W2 Ff
  have K3 := Keep.wr (Keep.refl h0 [a]) W2 (Or.inl (List.mem_of_getElem? (i := 0) rfl))
  have Z4 : n0 ≤ h2.size := by rw [W2.size]; exact Z0
  have N5 := Fr.snoc X2 N1 Ga
  refine Go.st st2 ?_
  show Go p e below P (T2.setTop (mkF m 40 #[.val (.ref a), .val (.int i), .val (.int j)] []))
  refine Go.st (fun _ kt => XS.aloadN X2.here hx rfl (hb hby d_prog_6_method_1_40) rfl rfl (XS.iloadN X2.here hx rfl (hb hby d_prog_6_method_1_41) rfl kt)) ?_
  show Go p e below P (T2.setTop (mkF m 42 #[.val (.ref a), .val (.int i), .val (.int j)] [(.int j), (.ref a)]))
  have f7 := (Fl.other W2 (Or.inr (slot_ne (Or.inr (hw _ (List.mem_of_getElem? (i := 24) rfl))) (Or.inr (hw _ (List.mem_of_getElem? (i := 22) rfl))) (by decide) (t := .int) (t' := .int) (by decide) (by decide))))
  have f8 := (Ea.wr W2)
  obtain ⟨T6, h6, X6, e6, W6, st6⟩ := putF X2 hx hZ hown (host := "") (Or.inl (hw _ (List.mem_of_getElem? (i := 23) rfl))) Via.refl e2 f7 f8 (Or.inr ⟨(hw _ (List.mem_of_getElem? (i := 24) rfl)), rfl, hnm⟩) (hw _ (List.mem_of_getElem? (i := 8) rfl)) (ty := .int) (by decide) rfl rfl (g := (mkF m 42 #[.val (.ref a), .val (.int i), .val (.int j)] [(.int j), (.ref a)])) rfl rfl (hb hby d_prog_6_method_1_42)
  have Fw6 := Fld.same W6 f7
  have K9 := Keep.wr K3 W6 (Or.inl (List.mem_of_getElem? (i := 0) rfl))
  have Z10 : n0 ≤ h6.size := by rw [W6.size]; exact Z4
  have N11 := Fr.snoc X6 N5 Ga
  refine Go.st st6 ?_
  show Go p e below P (T6.setTop (mkF m 45 #[.val (.ref a), .val (.int i), .val (.int j)] []))
  have f12 := (f8.wr W6)
  have f13 := (Fw2.other W6 (Or.inr (slot_ne (Or.inr (hw _ (List.mem_of_getElem? (i := 22) rfl))) (Or.inr (hw _ (List.mem_of_getElem? (i := 24) rfl))) (by decide) (t := .int) (t' := .int) (by decide) (by decide))))
  exact goV X6 hx hret hlk (hb hby d_prog_6_method_1_45) hP (by decide) (by decide) (by rw [e6]; exact ⟨rfl, N11, K9, f12, f13, Fw6⟩)
theorem d_prog_6_method_4_0 : decode prog_6_method_4_code 0 = .ok (.aload_n 0, 1) := by decide +kernel
theorem d_prog_6_method_4_1 : decode prog_6_method_4_code 1 = .ok (.getfield 18, 3) := by decide +kernel
theorem d_prog_6_method_4_4 : decode prog_6_method_4_code 4 = .ok (.iload_n 1, 1) := by decide +kernel
theorem d_prog_6_method_4_5 : decode prog_6_method_4_code 5 = .ok (.if_icmp .gt 15, 3) := by decide +kernel
theorem d_prog_6_method_4_20 : decode prog_6_method_4_code 20 = .ok (.iconst 0, 1) := by decide +kernel
theorem d_prog_6_method_4_21 : decode prog_6_method_4_code 21 = .ok (.ireturn, 1) := by decide +kernel
theorem d_prog_6_method_4_8 : decode prog_6_method_4_code 8 = .ok (.iload_n 1, 1) := by decide +kernel
theorem d_prog_6_method_4_9 : decode prog_6_method_4_code 9 = .ok (.aload_n 0, 1) := by decide +kernel
theorem d_prog_6_method_4_10 : decode prog_6_method_4_code 10 = .ok (.getfield 24, 3) := by decide +kernel
theorem d_prog_6_method_4_13 : decode prog_6_method_4_code 13 = .ok (.if_icmp .gt 7, 3) := by decide +kernel
theorem d_prog_6_method_4_16 : decode prog_6_method_4_code 16 = .ok (.iconst 1, 1) := by decide +kernel
theorem d_prog_6_method_4_17 : decode prog_6_method_4_code 17 = .ok (.goto 4, 3) := by decide +kernel
theorem ef_rmC (m : MethodId) (a : Addr) (x0 : Int32) : entryFrame m #[(.ref a), (.int x0)] 2 = mkF m 0 #[.val (.ref a), .val (.int x0)] [] := by first | (simp [entryFrame, mkF, argsToLocals, Value.category]; done) | rfl
set_option maxRecDepth 65536 in
set_option maxHeartbeats 40000000 in
theorem rmC (l : Launch) (Z : State) (a0 : Array Value) (hw : ∀ d ∈ tables_1, d.before a0 Z = true) (a : Addr) (x0 : Int32) (F K : Int32) (h0 : Heap) (n0 : Nat) (Z0 : n0 ≤ h0.size) (Ff : Fld Z h0 a "io/sluicegate/io/HashRange" "first" "I" (.int F)) (Fl : Fld Z h0 a "io/sluicegate/io/HashRange" "last" "I" (.int K)) :
    Ct l (⟨"io/sluicegate/io/HashRange", "covers", "(I)Z"⟩ : MethodName) prog_6_method_4_code 2 (some .boolean) [] ({ frames := 0, cells := 0, slots := 0, locals := 0 } : Room) Z #[(.ref a), (.int x0)] h0 (fun v h L => v = some (.int (own_cov F K x0)) ∧ Fr n0 L ∧ h = h0) := by
  refine Ct.of (plainFor_of_name pn_2) (fun m => ef_rmC m a x0) ?_
  intro p e s m below meth c T0 X0 hx hby hml hret hlk hown hnm hZ e0 P hP
  refine Go.st (fun _ kt => XS.aloadN X0.here hx rfl (hb hby d_prog_6_method_4_0) rfl rfl kt) ?_
  show Go p e below P (T0.setTop (mkF m 1 #[.val (.ref a), .val (.int x0)] [(.ref a)]))
  obtain ⟨T1, X1, e1, st1⟩ := getF X0 hx hZ hown (host := "") (Or.inl (hw _ (List.mem_of_getElem? (i := 21) rfl))) Via.refl e0 Ff (g := (mkF m 1 #[.val (.ref a), .val (.int x0)] [(.ref a)])) rfl rfl (hb hby d_prog_6_method_4_1)
  refine Go.st st1 ?_
  show Go p e below P (T1.setTop (mkF m 4 #[.val (.ref a), .val (.int x0)] [(.int F)]))
  refine Go.st (fun _ kt => XS.iloadN X1.here hx rfl (hb hby d_prog_6_method_4_4) rfl kt) ?_
  show Go p e below P (T1.setTop (mkF m 5 #[.val (.ref a), .val (.int x0)] [(.int x0), (.int F)]))
  by_cases br2 : x0 < F
  · refine Go.st (fun _ kt => XS.icmpYes X1.here hx rfl (pc0 := 5) (pc' := 20) rfl (hb hby d_prog_6_method_4_5) rfl (tlt br2).2.2.1 (by decide) (by decide) kt) ?_
    show Go p e below P (T1.setTop (mkF m 20 #[.val (.ref a), .val (.int x0)] []))
    refine Go.st (fun _ kt => XS.iconst X1.here hx rfl (hb hby d_prog_6_method_4_20) kt) ?_
    show Go p e below P (T1.setTop (mkF m 21 #[.val (.ref a), .val (.int x0)] [(.int (0 : Int32))]))
    exact goN X1 hx (t := .boolean) hret (by simp) hlk (hb hby d_prog_6_method_4_21) hP (by decide) (by decide) ⟨by simp [own_cov, br2]; rfl, (Fr.nil n0), e1⟩
  · refine Go.st (fun _ kt => XS.icmpNo X1.here hx rfl (hb hby d_prog_6_method_4_5) rfl (flt br2).2.2.1 kt) ?_
    show Go p e below P (T1.setTop (mkF m 8 #[.val (.ref a), .val (.int x0)] []))
    refine Go.st (fun _ kt => XS.iloadN X1.here hx rfl (hb hby d_prog_6_method_4_8) rfl (XS.aloadN X1.here hx rfl (hb hby d_prog_6_method_4_9) rfl rfl kt)) ?_
    show Go p e below P (T1.setTop (mkF m 10 #[.val (.ref a), .val (.int x0)] [(.ref a), (.int x0)]))
    obtain ⟨T3, X3, e3, st3⟩ := getF X1 hx hZ hown (host := "") (Or.inl (hw _ (List.mem_of_getElem? (i := 23) rfl))) Via.refl e1 Fl (g := (mkF m 10 #[.val (.ref a), .val (.int x0)] [(.ref a), (.int x0)])) rfl rfl (hb hby d_prog_6_method_4_10)
    refine Go.st st3 ?_
    show Go p e below P (T3.setTop (mkF m 13 #[.val (.ref a), .val (.int x0)] [(.int K), (.int x0)]))
    by_cases br4 : K < x0
    · refine Go.st (fun _ kt => XS.icmpYes X3.here hx rfl (pc0 := 13) (pc' := 20) rfl (hb hby d_prog_6_method_4_13) rfl (tlt br4).2.2.1 (by decide) (by decide) kt) ?_
      show Go p e below P (T3.setTop (mkF m 20 #[.val (.ref a), .val (.int x0)] []))
      refine Go.st (fun _ kt => XS.iconst X3.here hx rfl (hb hby d_prog_6_method_4_20) kt) ?_
      show Go p e below P (T3.setTop (mkF m 21 #[.val (.ref a), .val (.int x0)] [(.int (0 : Int32))]))
      exact goN X3 hx (t := .boolean) hret (by simp) hlk (hb hby d_prog_6_method_4_21) hP (by decide) (by decide) ⟨by simp [own_cov, br2, br4]; rfl, (Fr.nil n0), e3⟩
    · refine Go.st (fun _ kt => XS.icmpNo X3.here hx rfl (hb hby d_prog_6_method_4_13) rfl (flt br4).2.2.1 kt) ?_
      show Go p e below P (T3.setTop (mkF m 16 #[.val (.ref a), .val (.int x0)] []))
      refine Go.st (fun _ kt => XS.iconst X3.here hx rfl (hb hby d_prog_6_method_4_16) (XS.goto X3.here hx rfl (pc0 := 17) (pc' := 21) rfl (hb hby d_prog_6_method_4_17) (by decide) (by decide) kt)) ?_
      show Go p e below P (T3.setTop (mkF m 21 #[.val (.ref a), .val (.int x0)] [(.int (1 : Int32))]))
      exact goN X3 hx (t := .boolean) hret (by simp) hlk (hb hby d_prog_6_method_4_21) hP (by decide) (by decide) ⟨by simp [own_cov, br2, br4]; rfl, (Fr.nil n0), e3⟩
theorem pd_3 : parseMethodDescriptor "(II)I" = some ⟨[.int, .int], some .int⟩ := by decide +kernel
theorem pd_4 : parseMethodDescriptor "(II)V" = some ⟨[.int, .int], none⟩ := by decide +kernel
theorem pd_5 : parseMethodDescriptor "(I)Z" = some ⟨[.int], some .boolean⟩ := by decide +kernel
theorem pn_6 : plainName "io/sluicegate/io/HashRangeCoversPinLaw" = true := by first | (simp [plainName, overriddenIn]; done) | decide +kernel
theorem ef_rm0 (m : MethodId) (a : Int32) (b : Int32) (k : Int32) : entryFrame m #[(.int a), (.int b), (.int k)] maxLocals = mkF m 0 #[.val (.int a), .val (.int b), .val (.int k), .unset, .unset, .unset, .unset, .unset, .unset, .unset, .unset] [] := by first | (simp [entryFrame, mkF, argsToLocals, Value.category, maxLocals]; done) | rfl
set_option maxRecDepth 65536 in
set_option maxHeartbeats 40000000 in
theorem rm0 (l : Launch) (Z : State) (a0 : Array Value) (hw : ∀ d ∈ tables_1, d.before a0 Z = true) (ws : List Jvm.Cond) (a : Int32) (b : Int32) (k : Int32)  (h0 : Heap) (n0 : Nat) (Z0 : n0 ≤ h0.size)  :
    Ct l x code maxLocals ret ws room_1 Z #[(.int a), (.int b), (.int k)] h0 (fun v h L => v = some (.int 1) ∧ Fr n0 L) := by
  refine Ct.of (plainFor_of_name pn_6) (fun m => ef_rm0 m a b k) ?_
  intro p e s m below meth c T0 X0 hx hby hml hret hlk hown hnm hZ e0 P hP
  refine Go.st (fun _ kt => XS.iloadN X0.here hx rfl (hb hby at_0) rfl (XS.sipush X0.here hx rfl (hb hby at_1) (XS.iand X0.here hx rfl (hb hby at_4) rfl (XS.istoreN X0.here hx rfl (hb hby at_5) rfl (l' := #[.val (.int a), .val (.int b), .val (.int k), .val (.int (a &&& (255 : Int32))), .unset, .unset, .unset, .unset, .unset, .unset, .unset]) rfl (XS.iloadN X0.here hx rfl (hb hby at_6) rfl (XS.sipush X0.here hx rfl (hb hby at_7) (XS.iand X0.here hx rfl (hb hby at_10) rfl (XS.istore X0.here hx rfl (hb hby at_11) rfl (l' := #[.val (.int a), .val (.int b), .val (.int k), .val (.int (a &&& (255 : Int32))), .val (.int (b &&& (255 : Int32))), .unset, .unset, .unset, .unset, .unset, .unset]) rfl kt)))))))) ?_
  show Go p e below P (T0.setTop (mkF m 13 #[.val (.int a), .val (.int b), .val (.int k), .val (.int (a &&& (255 : Int32))), .val (.int (b &&& (255 : Int32))), .unset, .unset, .unset, .unset, .unset, .unset] []))
  refine Go.st (fun _ kt => XS.iloadN X0.here hx rfl (hb hby at_13) rfl (XS.iload X0.here hx rfl (hb hby at_14) rfl kt)) ?_
  show Go p e below P (T0.setTop (mkF m 16 #[.val (.int a), .val (.int b), .val (.int k), .val (.int (a &&& (255 : Int32))), .val (.int (b &&& (255 : Int32))), .unset, .unset, .unset, .unset, .unset, .unset] [(.int (b &&& (255 : Int32))), (.int (a &&& (255 : Int32)))]))
  obtain ⟨_, T1, Lc1, X1, ⟨rfl, Nq1, eq1⟩, st1⟩ := callCt X0 hx hZ e0 (y := (⟨"java/lang/Math", "min", "(II)I"⟩ : MethodName)) (argsL := [(.int (a &&& (255 : Int32))), (.int (b &&& (255 : Int32)))]) (rest := []) hown (hw _ (List.mem_of_getElem? (i := 0) rfl)) (hw _ (List.mem_of_getElem? (i := 1) rfl)) (hw _ (List.mem_of_getElem? (i := 2) rfl)) (hw _ (List.mem_of_getElem? (i := 3) rfl)) (by decide) (rm_min l Z a0 hw (a &&& (255 : Int32)) (b &&& (255 : Int32)) _ n0 Z0) (W := 0) (by decide) (by decide) (g := (mkF m 16 #[.val (.int a), .val (.int b), .val (.int k), .val (.int (a &&& (255 : Int32))), .val (.int (b &&& (255 : Int32))), .unset, .unset, .unset, .unset, .unset, .unset] [(.int (b &&& (255 : Int32))), (.int (a &&& (255 : Int32)))])) rfl (by rw [hml]; rfl) (lenOf pd_3 rfl) rfl (by show 2 * 0 + _ ≤ _; exact Nat.le_of_eq rfl) (hb hby at_16) (by decide) (by decide)
  have N1 := Fr.app (Fr.nil n0) Nq1
  have e1 : T1.heap = h0 := eq1
  refine Go.st st1 ?_
  show Go p e below P (T1.setTop (mkF m 19 #[.val (.int a), .val (.int b), .val (.int k), .val (.int (a &&& (255 : Int32))), .val (.int (b &&& (255 : Int32))), .unset, .unset, .unset, .unset, .unset, .unset] [(.int (own_min (a &&& (255 : Int32)) (b &&& (255 : Int32))))]))
  refine Go.st (fun _ kt => XS.istore X1.here hx rfl (hb hby at_19) rfl (l' := #[.val (.int a), .val (.int b), .val (.int k), .val (.int (a &&& (255 : Int32))), .val (.int (b &&& (255 : Int32))), .val (.int (own_min (a &&& (255 : Int32)) (b &&& (255 : Int32)))), .unset, .unset, .unset, .unset, .unset]) rfl (XS.iloadN X1.here hx rfl (hb hby at_21) rfl (XS.iload X1.here hx rfl (hb hby at_22) rfl kt))) ?_
  show Go p e below P (T1.setTop (mkF m 24 #[.val (.int a), .val (.int b), .val (.int k), .val (.int (a &&& (255 : Int32))), .val (.int (b &&& (255 : Int32))), .val (.int (own_min (a &&& (255 : Int32)) (b &&& (255 : Int32)))), .unset, .unset, .unset, .unset, .unset] [(.int (b &&& (255 : Int32))), (.int (a &&& (255 : Int32)))]))
  obtain ⟨_, T2, Lc2, X2, ⟨rfl, Nq2, eq2⟩, st2⟩ := callCt X1 hx hZ e1 (y := (⟨"java/lang/Math", "max", "(II)I"⟩ : MethodName)) (argsL := [(.int (a &&& (255 : Int32))), (.int (b &&& (255 : Int32)))]) (rest := []) hown (hw _ (List.mem_of_getElem? (i := 4) rfl)) (hw _ (List.mem_of_getElem? (i := 5) rfl)) (hw _ (List.mem_of_getElem? (i := 2) rfl)) (hw _ (List.mem_of_getElem? (i := 6) rfl)) (by decide) (rm_max l Z a0 hw (a &&& (255 : Int32)) (b &&& (255 : Int32)) _ n0 Z0) (W := 0) (by decide) (by decide) (g := (mkF m 24 #[.val (.int a), .val (.int b), .val (.int k), .val (.int (a &&& (255 : Int32))), .val (.int (b &&& (255 : Int32))), .val (.int (own_min (a &&& (255 : Int32)) (b &&& (255 : Int32)))), .unset, .unset, .unset, .unset, .unset] [(.int (b &&& (255 : Int32))), (.int (a &&& (255 : Int32)))])) rfl (by rw [hml]; rfl) (lenOf pd_3 rfl) rfl (by show 2 * 0 + _ ≤ _; exact Nat.le_of_eq rfl) (hb hby at_24) (by decide) (by decide)
  have N2 := Fr.app N1 Nq2
  have e2 : T2.heap = h0 := eq2
  refine Go.st st2 ?_
  show Go p e below P (T2.setTop (mkF m 27 #[.val (.int a), .val (.int b), .val (.int k), .val (.int (a &&& (255 : Int32))), .val (.int (b &&& (255 : Int32))), .val (.int (own_min (a &&& (255 : Int32)) (b &&& (255 : Int32)))), .unset, .unset, .unset, .unset, .unset] [(.int (own_max (a &&& (255 : Int32)) (b &&& (255 : Int32))))]))
  have hFK := own_mm a b
  generalize (own_min (a &&& (255 : Int32)) (b &&& (255 : Int32))) = F at hFK ⊢
  generalize (own_max (a &&& (255 : Int32)) (b &&& (255 : Int32))) = K at hFK ⊢
  show Go p e below P (T2.setTop (mkF m 27 #[.val (.int a), .val (.int b), .val (.int k), .val (.int (a &&& (255 : Int32))), .val (.int (b &&& (255 : Int32))), .val (.int F), .unset, .unset, .unset, .unset, .unset] [(.int K)]))
  obtain ⟨hF0, hFK1, hK⟩ := hFK
  refine Go.st (fun _ kt => XS.istore X2.here hx rfl (hb hby at_27) rfl (l' := #[.val (.int a), .val (.int b), .val (.int k), .val (.int (a &&& (255 : Int32))), .val (.int (b &&& (255 : Int32))), .val (.int F), .val (.int K), .unset, .unset, .unset, .unset]) rfl kt) ?_
  show Go p e below P (T2.setTop (mkF m 29 #[.val (.int a), .val (.int b), .val (.int k), .val (.int (a &&& (255 : Int32))), .val (.int (b &&& (255 : Int32))), .val (.int F), .val (.int K), .unset, .unset, .unset, .unset] []))
  obtain ⟨T3, h3, X3, e3, E3, A3, D3, -, st3⟩ := newO X2 hx hZ hown (hw _ (List.mem_of_getElem? (i := 7) rfl)) (hw _ (List.mem_of_getElem? (i := 8) rfl)) (hw _ (List.mem_of_getElem? (i := 9) rfl)) e2 (g := (mkF m 29 #[.val (.int a), .val (.int b), .val (.int k), .val (.int (a &&& (255 : Int32))), .val (.int (b &&& (255 : Int32))), .val (.int F), .val (.int K), .unset, .unset, .unset, .unset] [])) rfl (hb hby at_29) (by decide) (by decide)
  obtain ⟨b3, g3⟩ : ∃ z, z = h0.size := ⟨_, rfl⟩
  rw [← g3] at A3 D3 st3
  have G3 : n0 ≤ b3 := Nat.le_trans Z0 (Nat.le_of_eq g3.symm)
  have F3_first : Fld Z h3 b3 "io/sluicegate/io/HashRange" "first" "I" (.int (0 : Int32)) := D3 (Or.inr (hw _ (List.mem_of_getElem? (i := 22) rfl))) (ty := .int) (by decide)
  have F3_last : Fld Z h3 b3 "io/sluicegate/io/HashRange" "last" "I" (.int (0 : Int32)) := D3 (Or.inr (hw _ (List.mem_of_getElem? (i := 24) rfl))) (ty := .int) (by decide)
  have Z4 := Nat.le_trans Z0 E3.1
  refine Go.st st3 ?_
  show Go p e below P (T3.setTop (mkF m 32 #[.val (.int a), .val (.int b), .val (.int k), .val (.int (a &&& (255 : Int32))), .val (.int (b &&& (255 : Int32))), .val (.int F), .val (.int K), .unset, .unset, .unset, .unset] [(.ref b3)]))
  refine Go.st (fun _ kt => XS.dup X3.here hx rfl (hb hby at_32) rfl rfl (XS.iload X3.here hx rfl (hb hby at_33) rfl (XS.iload X3.here hx rfl (hb hby at_35) rfl kt))) ?_
  show Go p e below P (T3.setTop (mkF m 37 #[.val (.int a), .val (.int b), .val (.int k), .val (.int (a &&& (255 : Int32))), .val (.int (b &&& (255 : Int32))), .val (.int F), .val (.int K), .unset, .unset, .unset, .unset] [(.int K), (.int F), (.ref b3), (.ref b3)]))
  obtain ⟨_, T5, Lc5, X5, ⟨rfl, Nq5, K5, Ei5, Ff5, Fl5⟩, st5⟩ := callCtor X3 hx hZ e3 (y := (⟨"io/sluicegate/io/HashRange", "<init>", "(II)V"⟩ : MethodName)) rfl (a := b3) (argsL := [(.int F), (.int K)]) (rest := [(.ref b3)]) hown (hw _ (List.mem_of_getElem? (i := 10) rfl)) (hw _ (List.mem_of_getElem? (i := 11) rfl)) (hw _ (List.mem_of_getElem? (i := 9) rfl)) (hw _ (List.mem_of_getElem? (i := 12) rfl)) (by decide) (rmI l Z a0 hw b3 F K _ n0 Z4 A3 F3_first F3_last G3 (by rw [own_lti own_zero]; omega) (by rw [Int32.lt_iff_toInt_lt]; omega) ((own_lti (k := 256) (by decide)).mpr (by omega))) (W := 1) (by decide) (by decide) (g := (mkF m 37 #[.val (.int a), .val (.int b), .val (.int k), .val (.int (a &&& (255 : Int32))), .val (.int (b &&& (255 : Int32))), .val (.int F), .val (.int K), .unset, .unset, .unset, .unset] [(.int K), (.int F), (.ref b3), (.ref b3)])) rfl (by rw [hml]; rfl) (lenOf pd_4 rfl) rfl (by show 2 * 0 + _ ≤ _; exact Nat.le_of_eq rfl) (hb hby at_37) (by decide) (by decide)
  have N5 := Fr.app N2 Nq5
  have Z6 := Nat.le_trans Z4 K5.1
  refine Go.st st5 ?_
  show Go p e below P (T5.setTop (mkF m 40 #[.val (.int a), .val (.int b), .val (.int k), .val (.int (a &&& (255 : Int32))), .val (.int (b &&& (255 : Int32))), .val (.int F), .val (.int K), .unset, .unset, .unset, .unset] [(.ref b3)]))
  refine Go.st (fun _ kt => XS.astore X5.here hx rfl (hb hby at_40) rfl rfl (l' := #[.val (.int a), .val (.int b), .val (.int k), .val (.int (a &&& (255 : Int32))), .val (.int (b &&& (255 : Int32))), .val (.int F), .val (.int K), .val (.ref b3), .unset, .unset, .unset]) rfl (XS.iloadN X5.here hx rfl (hb hby at_42) rfl (XS.i2l X5.here hx rfl (hb hby at_43) rfl (XS.iload X5.here hx rfl (hb hby at_44) rfl (XS.i2l X5.here hx rfl (hb hby at_46) rfl (XS.lsub X5.here hx rfl (hb hby at_47) rfl (XS.lstore X5.here hx rfl (hb hby at_48) rfl (l' := #[.val (.int a), .val (.int b), .val (.int k), .val (.int (a &&& (255 : Int32))), .val (.int (b &&& (255 : Int32))), .val (.int F), .val (.int K), .val (.ref b3), .val (.long ((k.toInt64) - (F.toInt64))), .second, .unset]) rfl (XS.lload X5.here hx rfl (hb hby at_50) rfl kt)))))))) ?_
  show Go p e below P (T5.setTop (mkF m 52 #[.val (.int a), .val (.int b), .val (.int k), .val (.int (a &&& (255 : Int32))), .val (.int (b &&& (255 : Int32))), .val (.int F), .val (.int K), .val (.ref b3), .val (.long ((k.toInt64) - (F.toInt64))), .second, .unset] [(.long ((k.toInt64) - (F.toInt64)))]))
  refine Go.st (fun _ kt => XS.lconst X5.here hx rfl (hb hby at_52) (XS.lcmp X5.here hx rfl (hb hby at_53) rfl kt)) ?_
  show Go p e below P (T5.setTop (mkF m 54 #[.val (.int a), .val (.int b), .val (.int k), .val (.int (a &&& (255 : Int32))), .val (.int (b &&& (255 : Int32))), .val (.int F), .val (.int K), .val (.ref b3), .val (.long ((k.toInt64) - (F.toInt64))), .second, .unset] [(.int (lcmpW ((k.toInt64) - (F.toInt64)) (0 : Int64)))]))
  by_cases br7 : (lcmpW ((k.toInt64) - (F.toInt64)) (0 : Int64)) < (0 : Int32)
  · refine Go.st (fun _ kt => XS.ifYes X5.here hx rfl (pc0 := 54) (pc' := 73) rfl (hb hby at_54) rfl ((if0 _ _).trans (tlt br7).1) (by decide) (by decide) kt) ?_
    show Go p e below P (T5.setTop (mkF m 73 #[.val (.int a), .val (.int b), .val (.int k), .val (.int (a &&& (255 : Int32))), .val (.int (b &&& (255 : Int32))), .val (.int F), .val (.int K), .val (.ref b3), .val (.long ((k.toInt64) - (F.toInt64))), .second, .unset] []))
    refine Go.st (fun _ kt => XS.iconst X5.here hx rfl (hb hby at_73) (XS.istore X5.here hx rfl (hb hby at_74) rfl (l' := #[.val (.int a), .val (.int b), .val (.int k), .val (.int (a &&& (255 : Int32))), .val (.int (b &&& (255 : Int32))), .val (.int F), .val (.int K), .val (.ref b3), .val (.long ((k.toInt64) - (F.toInt64))), .second, .val (.int (0 : Int32))]) rfl (XS.aload X5.here hx rfl (hb hby at_76) rfl rfl (XS.iloadN X5.here hx rfl (hb hby at_78) rfl kt)))) ?_
    show Go p e below P (T5.setTop (mkF m 79 #[.val (.int a), .val (.int b), .val (.int k), .val (.int (a &&& (255 : Int32))), .val (.int (b &&& (255 : Int32))), .val (.int F), .val (.int K), .val (.ref b3), .val (.long ((k.toInt64) - (F.toInt64))), .second, .val (.int (0 : Int32))] [(.int k), (.ref b3)]))
    obtain ⟨_, T8, Lc8, X8, ⟨rfl, Nq8, eq8⟩, st8⟩ := callCv X5 hx hZ rfl (y := (⟨"io/sluicegate/io/HashRange", "covers", "(I)Z"⟩ : MethodName)) (a := b3) (argsL := [(.int k)]) (rest := []) hown (hw _ (List.mem_of_getElem? (i := 25) rfl)) (hw _ (List.mem_of_getElem? (i := 26) rfl)) (hw _ (List.mem_of_getElem? (i := 28) rfl)) (hw _ (List.mem_of_getElem? (i := 27) rfl)) (hw _ (List.mem_of_getElem? (i := 9) rfl)) (hw _ (List.mem_of_getElem? (i := 29) rfl)) (by decide) Ei5 (rmC l Z a0 hw b3 k F K _ n0 Z6 Ff5 Fl5) (W := 0) (by decide) (by decide) (g := (mkF m 79 #[.val (.int a), .val (.int b), .val (.int k), .val (.int (a &&& (255 : Int32))), .val (.int (b &&& (255 : Int32))), .val (.int F), .val (.int K), .val (.ref b3), .val (.long ((k.toInt64) - (F.toInt64))), .second, .val (.int (0 : Int32))] [(.int k), (.ref b3)])) rfl (by rw [hml]; rfl) (lenOf pd_5 rfl) rfl (by show 2 * 0 + _ ≤ _; exact Nat.le_of_eq rfl) (hb hby at_79) (by decide) (by decide)
    have N8 := Fr.app N5 Nq8
    have e8 : T8.heap = T5.heap := eq8
    refine Go.st st8 ?_
    show Go p e below P (T8.setTop (mkF m 82 #[.val (.int a), .val (.int b), .val (.int k), .val (.int (a &&& (255 : Int32))), .val (.int (b &&& (255 : Int32))), .val (.int F), .val (.int K), .val (.ref b3), .val (.long ((k.toInt64) - (F.toInt64))), .second, .val (.int (0 : Int32))] [(.int (own_cov F K k))]))
    refine Go.st (fun _ kt => XS.iload X8.here hx rfl (hb hby at_82) rfl (XS.icmpNo X8.here hx rfl (hb hby at_84) rfl (teq (by rw [own_lt, own_d, own_zero64] at br7; exact own_cov0 (by omega))).2 (XS.aload X8.here hx rfl (hb hby at_87) rfl rfl (XS.iload X8.here hx rfl (hb hby at_89) rfl kt)))) ?_
    show Go p e below P (T8.setTop (mkF m 91 #[.val (.int a), .val (.int b), .val (.int k), .val (.int (a &&& (255 : Int32))), .val (.int (b &&& (255 : Int32))), .val (.int F), .val (.int K), .val (.ref b3), .val (.long ((k.toInt64) - (F.toInt64))), .second, .val (.int (0 : Int32))] [(.int F), (.ref b3)]))
    obtain ⟨_, T9, Lc9, X9, ⟨rfl, Nq9, eq9⟩, st9⟩ := callCv X8 hx hZ e8 (y := (⟨"io/sluicegate/io/HashRange", "covers", "(I)Z"⟩ : MethodName)) (a := b3) (argsL := [(.int F)]) (rest := []) hown (hw _ (List.mem_of_getElem? (i := 25) rfl)) (hw _ (List.mem_of_getElem? (i := 26) rfl)) (hw _ (List.mem_of_getElem? (i := 28) rfl)) (hw _ (List.mem_of_getElem? (i := 27) rfl)) (hw _ (List.mem_of_getElem? (i := 9) rfl)) (hw _ (List.mem_of_getElem? (i := 29) rfl)) (by decide) Ei5 (rmC l Z a0 hw b3 F F K _ n0 Z6 Ff5 Fl5) (W := 0) (by decide) (by decide) (g := (mkF m 91 #[.val (.int a), .val (.int b), .val (.int k), .val (.int (a &&& (255 : Int32))), .val (.int (b &&& (255 : Int32))), .val (.int F), .val (.int K), .val (.ref b3), .val (.long ((k.toInt64) - (F.toInt64))), .second, .val (.int (0 : Int32))] [(.int F), (.ref b3)])) rfl (by rw [hml]; rfl) (lenOf pd_5 rfl) rfl (by show 2 * 0 + _ ≤ _; exact Nat.le_of_eq rfl) (hb hby at_91) (by decide) (by decide)
    have N9 := Fr.app N8 Nq9
    have e9 : T9.heap = T5.heap := eq9
    refine Go.st st9 ?_
    show Go p e below P (T9.setTop (mkF m 94 #[.val (.int a), .val (.int b), .val (.int k), .val (.int (a &&& (255 : Int32))), .val (.int (b &&& (255 : Int32))), .val (.int F), .val (.int K), .val (.ref b3), .val (.long ((k.toInt64) - (F.toInt64))), .second, .val (.int (0 : Int32))] [(.int (own_cov F K F))]))
    refine Go.st (fun _ kt => XS.ifNo X9.here hx rfl (hb hby at_94) rfl ((if0 _ _).trans (feq (by rw [own_cov1 (by omega) (by omega)]; decide)).1) (XS.aload X9.here hx rfl (hb hby at_97) rfl rfl (XS.iload X9.here hx rfl (hb hby at_99) rfl kt))) ?_
    show Go p e below P (T9.setTop (mkF m 101 #[.val (.int a), .val (.int b), .val (.int k), .val (.int (a &&& (255 : Int32))), .val (.int (b &&& (255 : Int32))), .val (.int F), .val (.int K), .val (.ref b3), .val (.long ((k.toInt64) - (F.toInt64))), .second, .val (.int (0 : Int32))] [(.int K), (.ref b3)]))
    obtain ⟨_, T10, Lc10, X10, ⟨rfl, Nq10, eq10⟩, st10⟩ := callCv X9 hx hZ e9 (y := (⟨"io/sluicegate/io/HashRange", "covers", "(I)Z"⟩ : MethodName)) (a := b3) (argsL := [(.int K)]) (rest := []) hown (hw _ (List.mem_of_getElem? (i := 25) rfl)) (hw _ (List.mem_of_getElem? (i := 26) rfl)) (hw _ (List.mem_of_getElem? (i := 28) rfl)) (hw _ (List.mem_of_getElem? (i := 27) rfl)) (hw _ (List.mem_of_getElem? (i := 9) rfl)) (hw _ (List.mem_of_getElem? (i := 29) rfl)) (by decide) Ei5 (rmC l Z a0 hw b3 K F K _ n0 Z6 Ff5 Fl5) (W := 0) (by decide) (by decide) (g := (mkF m 101 #[.val (.int a), .val (.int b), .val (.int k), .val (.int (a &&& (255 : Int32))), .val (.int (b &&& (255 : Int32))), .val (.int F), .val (.int K), .val (.ref b3), .val (.long ((k.toInt64) - (F.toInt64))), .second, .val (.int (0 : Int32))] [(.int K), (.ref b3)])) rfl (by rw [hml]; rfl) (lenOf pd_5 rfl) rfl (by show 2 * 0 + _ ≤ _; exact Nat.le_of_eq rfl) (hb hby at_101) (by decide) (by decide)
    have N10 := Fr.app N9 Nq10
    have e10 : T10.heap = T5.heap := eq10
    refine Go.st st10 ?_
    show Go p e below P (T10.setTop (mkF m 104 #[.val (.int a), .val (.int b), .val (.int k), .val (.int (a &&& (255 : Int32))), .val (.int (b &&& (255 : Int32))), .val (.int F), .val (.int K), .val (.ref b3), .val (.long ((k.toInt64) - (F.toInt64))), .second, .val (.int (0 : Int32))] [(.int (own_cov F K K))]))
    refine Go.st (fun _ kt => XS.ifNo X10.here hx rfl (hb hby at_104) rfl ((if0 _ _).trans (feq (by rw [own_cov1 (by omega) (by omega)]; decide)).1) (XS.aload X10.here hx rfl (hb hby at_107) rfl rfl (XS.iload X10.here hx rfl (hb hby at_109) rfl (XS.iconst X10.here hx rfl (hb hby at_111) (XS.isub X10.here hx rfl (hb hby at_112) rfl kt))))) ?_
    show Go p e below P (T10.setTop (mkF m 113 #[.val (.int a), .val (.int b), .val (.int k), .val (.int (a &&& (255 : Int32))), .val (.int (b &&& (255 : Int32))), .val (.int F), .val (.int K), .val (.ref b3), .val (.long ((k.toInt64) - (F.toInt64))), .second, .val (.int (0 : Int32))] [(.int (F - (1 : Int32))), (.ref b3)]))
    obtain ⟨_, T11, Lc11, X11, ⟨rfl, Nq11, eq11⟩, st11⟩ := callCv X10 hx hZ e10 (y := (⟨"io/sluicegate/io/HashRange", "covers", "(I)Z"⟩ : MethodName)) (a := b3) (argsL := [(.int (F - (1 : Int32)))]) (rest := []) hown (hw _ (List.mem_of_getElem? (i := 25) rfl)) (hw _ (List.mem_of_getElem? (i := 26) rfl)) (hw _ (List.mem_of_getElem? (i := 28) rfl)) (hw _ (List.mem_of_getElem? (i := 27) rfl)) (hw _ (List.mem_of_getElem? (i := 9) rfl)) (hw _ (List.mem_of_getElem? (i := 29) rfl)) (by decide) Ei5 (rmC l Z a0 hw b3 (F - (1 : Int32)) F K _ n0 Z6 Ff5 Fl5) (W := 0) (by decide) (by decide) (g := (mkF m 113 #[.val (.int a), .val (.int b), .val (.int k), .val (.int (a &&& (255 : Int32))), .val (.int (b &&& (255 : Int32))), .val (.int F), .val (.int K), .val (.ref b3), .val (.long ((k.toInt64) - (F.toInt64))), .second, .val (.int (0 : Int32))] [(.int (F - (1 : Int32))), (.ref b3)])) rfl (by rw [hml]; rfl) (lenOf pd_5 rfl) rfl (by show 2 * 0 + _ ≤ _; exact Nat.le_of_eq rfl) (hb hby at_113) (by decide) (by decide)
    have N11 := Fr.app N10 Nq11
    have e11 : T11.heap = T5.heap := eq11
    refine Go.st st11 ?_
    show Go p e below P (T11.setTop (mkF m 116 #[.val (.int a), .val (.int b), .val (.int k), .val (.int (a &&& (255 : Int32))), .val (.int (b &&& (255 : Int32))), .val (.int F), .val (.int K), .val (.ref b3), .val (.long ((k.toInt64) - (F.toInt64))), .second, .val (.int (0 : Int32))] [(.int (own_cov F K (F - (1 : Int32))))]))
    refine Go.st (fun _ kt => XS.ifNo X11.here hx rfl (hb hby at_116) rfl ((if0 _ _).trans (teq (own_cov0 (by rw [Kit.i32_sub (by rw [own_one]; omega) (by rw [own_one]; omega), own_one]; omega))).2) (XS.aload X11.here hx rfl (hb hby at_119) rfl rfl (XS.iload X11.here hx rfl (hb hby at_121) rfl (XS.iconst X11.here hx rfl (hb hby at_123) (XS.iadd X11.here hx rfl (hb hby at_124) rfl kt))))) ?_
    show Go p e below P (T11.setTop (mkF m 125 #[.val (.int a), .val (.int b), .val (.int k), .val (.int (a &&& (255 : Int32))), .val (.int (b &&& (255 : Int32))), .val (.int F), .val (.int K), .val (.ref b3), .val (.long ((k.toInt64) - (F.toInt64))), .second, .val (.int (0 : Int32))] [(.int (K + (1 : Int32))), (.ref b3)]))
    obtain ⟨_, T12, Lc12, X12, ⟨rfl, Nq12, eq12⟩, st12⟩ := callCv X11 hx hZ e11 (y := (⟨"io/sluicegate/io/HashRange", "covers", "(I)Z"⟩ : MethodName)) (a := b3) (argsL := [(.int (K + (1 : Int32)))]) (rest := []) hown (hw _ (List.mem_of_getElem? (i := 25) rfl)) (hw _ (List.mem_of_getElem? (i := 26) rfl)) (hw _ (List.mem_of_getElem? (i := 28) rfl)) (hw _ (List.mem_of_getElem? (i := 27) rfl)) (hw _ (List.mem_of_getElem? (i := 9) rfl)) (hw _ (List.mem_of_getElem? (i := 29) rfl)) (by decide) Ei5 (rmC l Z a0 hw b3 (K + (1 : Int32)) F K _ n0 Z6 Ff5 Fl5) (W := 0) (by decide) (by decide) (g := (mkF m 125 #[.val (.int a), .val (.int b), .val (.int k), .val (.int (a &&& (255 : Int32))), .val (.int (b &&& (255 : Int32))), .val (.int F), .val (.int K), .val (.ref b3), .val (.long ((k.toInt64) - (F.toInt64))), .second, .val (.int (0 : Int32))] [(.int (K + (1 : Int32))), (.ref b3)])) rfl (by rw [hml]; rfl) (lenOf pd_5 rfl) rfl (by show 2 * 0 + _ ≤ _; exact Nat.le_of_eq rfl) (hb hby at_125) (by decide) (by decide)
    have N12 := Fr.app N11 Nq12
    have e12 : T12.heap = T5.heap := eq12
    refine Go.st st12 ?_
    show Go p e below P (T12.setTop (mkF m 128 #[.val (.int a), .val (.int b), .val (.int k), .val (.int (a &&& (255 : Int32))), .val (.int (b &&& (255 : Int32))), .val (.int F), .val (.int K), .val (.ref b3), .val (.long ((k.toInt64) - (F.toInt64))), .second, .val (.int (0 : Int32))] [(.int (own_cov F K (K + (1 : Int32))))]))
    refine Go.st (fun _ kt => XS.ifNo X12.here hx rfl (hb hby at_128) rfl ((if0 _ _).trans (teq (own_cov0 (by rw [Kit.i32_add (by rw [own_one]; omega) (by rw [own_one]; omega), own_one]; omega))).2) (XS.iconst X12.here hx rfl (hb hby at_131) (XS.goto X12.here hx rfl (pc0 := 132) (pc' := 136) rfl (hb hby at_132) (by decide) (by decide) kt))) ?_
    show Go p e below P (T12.setTop (mkF m 136 #[.val (.int a), .val (.int b), .val (.int k), .val (.int (a &&& (255 : Int32))), .val (.int (b &&& (255 : Int32))), .val (.int F), .val (.int K), .val (.ref b3), .val (.long ((k.toInt64) - (F.toInt64))), .second, .val (.int (0 : Int32))] [(.int (1 : Int32))]))
    exact goN X12 hx (t := .boolean) hret (by simp) hlk (hb hby at_136) hP (by decide) (by decide) ⟨rfl, N12⟩
  · refine Go.st (fun _ kt => XS.ifNo X5.here hx rfl (hb hby at_54) rfl ((if0 _ _).trans (flt br7).1) kt) ?_
    show Go p e below P (T5.setTop (mkF m 57 #[.val (.int a), .val (.int b), .val (.int k), .val (.int (a &&& (255 : Int32))), .val (.int (b &&& (255 : Int32))), .val (.int F), .val (.int K), .val (.ref b3), .val (.long ((k.toInt64) - (F.toInt64))), .second, .unset] []))
    refine Go.st (fun _ kt => XS.lload X5.here hx rfl (hb hby at_57) rfl (XS.iload X5.here hx rfl (hb hby at_59) rfl (XS.iload X5.here hx rfl (hb hby at_61) rfl (XS.isub X5.here hx rfl (hb hby at_63) rfl (XS.i2l X5.here hx rfl (hb hby at_64) rfl (XS.lcmp X5.here hx rfl (hb hby at_65) rfl kt)))))) ?_
    show Go p e below P (T5.setTop (mkF m 66 #[.val (.int a), .val (.int b), .val (.int k), .val (.int (a &&& (255 : Int32))), .val (.int (b &&& (255 : Int32))), .val (.int F), .val (.int K), .val (.ref b3), .val (.long ((k.toInt64) - (F.toInt64))), .second, .unset] [(.int (lcmpW ((k.toInt64) - (F.toInt64)) ((K - F).toInt64)))]))
    by_cases br13 : (0 : Int32) < (lcmpW ((k.toInt64) - (F.toInt64)) ((K - F).toInt64))
    · refine Go.st (fun _ kt => XS.ifYes X5.here hx rfl (pc0 := 66) (pc' := 73) rfl (hb hby at_66) rfl ((if0 _ _).trans (tlt br13).2.2.1) (by decide) (by decide) kt) ?_
      show Go p e below P (T5.setTop (mkF m 73 #[.val (.int a), .val (.int b), .val (.int k), .val (.int (a &&& (255 : Int32))), .val (.int (b &&& (255 : Int32))), .val (.int F), .val (.int K), .val (.ref b3), .val (.long ((k.toInt64) - (F.toInt64))), .second, .unset] []))
      refine Go.st (fun _ kt => XS.iconst X5.here hx rfl (hb hby at_73) (XS.istore X5.here hx rfl (hb hby at_74) rfl (l' := #[.val (.int a), .val (.int b), .val (.int k), .val (.int (a &&& (255 : Int32))), .val (.int (b &&& (255 : Int32))), .val (.int F), .val (.int K), .val (.ref b3), .val (.long ((k.toInt64) - (F.toInt64))), .second, .val (.int (0 : Int32))]) rfl (XS.aload X5.here hx rfl (hb hby at_76) rfl rfl (XS.iloadN X5.here hx rfl (hb hby at_78) rfl kt)))) ?_
      show Go p e below P (T5.setTop (mkF m 79 #[.val (.int a), .val (.int b), .val (.int k), .val (.int (a &&& (255 : Int32))), .val (.int (b &&& (255 : Int32))), .val (.int F), .val (.int K), .val (.ref b3), .val (.long ((k.toInt64) - (F.toInt64))), .second, .val (.int (0 : Int32))] [(.int k), (.ref b3)]))
      obtain ⟨_, T14, Lc14, X14, ⟨rfl, Nq14, eq14⟩, st14⟩ := callCv X5 hx hZ rfl (y := (⟨"io/sluicegate/io/HashRange", "covers", "(I)Z"⟩ : MethodName)) (a := b3) (argsL := [(.int k)]) (rest := []) hown (hw _ (List.mem_of_getElem? (i := 25) rfl)) (hw _ (List.mem_of_getElem? (i := 26) rfl)) (hw _ (List.mem_of_getElem? (i := 28) rfl)) (hw _ (List.mem_of_getElem? (i := 27) rfl)) (hw _ (List.mem_of_getElem? (i := 9) rfl)) (hw _ (List.mem_of_getElem? (i := 29) rfl)) (by decide) Ei5 (rmC l Z a0 hw b3 k F K _ n0 Z6 Ff5 Fl5) (W := 0) (by decide) (by decide) (g := (mkF m 79 #[.val (.int a), .val (.int b), .val (.int k), .val (.int (a &&& (255 : Int32))), .val (.int (b &&& (255 : Int32))), .val (.int F), .val (.int K), .val (.ref b3), .val (.long ((k.toInt64) - (F.toInt64))), .second, .val (.int (0 : Int32))] [(.int k), (.ref b3)])) rfl (by rw [hml]; rfl) (lenOf pd_5 rfl) rfl (by show 2 * 0 + _ ≤ _; exact Nat.le_of_eq rfl) (hb hby at_79) (by decide) (by decide)
      have N14 := Fr.app N5 Nq14
      have e14 : T14.heap = T5.heap := eq14
      refine Go.st st14 ?_
      show Go p e below P (T14.setTop (mkF m 82 #[.val (.int a), .val (.int b), .val (.int k), .val (.int (a &&& (255 : Int32))), .val (.int (b &&& (255 : Int32))), .val (.int F), .val (.int K), .val (.ref b3), .val (.long ((k.toInt64) - (F.toInt64))), .second, .val (.int (0 : Int32))] [(.int (own_cov F K k))]))
      refine Go.st (fun _ kt => XS.iload X14.here hx rfl (hb hby at_82) rfl (XS.icmpNo X14.here hx rfl (hb hby at_84) rfl (teq (by rw [own_lt, own_d, own_zero64] at br7; rw [own_gt, own_d, own_w ⟨hF0, hFK1, hK⟩] at br13; exact own_cov0 (by omega))).2 (XS.aload X14.here hx rfl (hb hby at_87) rfl rfl (XS.iload X14.here hx rfl (hb hby at_89) rfl kt)))) ?_
      show Go p e below P (T14.setTop (mkF m 91 #[.val (.int a), .val (.int b), .val (.int k), .val (.int (a &&& (255 : Int32))), .val (.int (b &&& (255 : Int32))), .val (.int F), .val (.int K), .val (.ref b3), .val (.long ((k.toInt64) - (F.toInt64))), .second, .val (.int (0 : Int32))] [(.int F), (.ref b3)]))
      obtain ⟨_, T15, Lc15, X15, ⟨rfl, Nq15, eq15⟩, st15⟩ := callCv X14 hx hZ e14 (y := (⟨"io/sluicegate/io/HashRange", "covers", "(I)Z"⟩ : MethodName)) (a := b3) (argsL := [(.int F)]) (rest := []) hown (hw _ (List.mem_of_getElem? (i := 25) rfl)) (hw _ (List.mem_of_getElem? (i := 26) rfl)) (hw _ (List.mem_of_getElem? (i := 28) rfl)) (hw _ (List.mem_of_getElem? (i := 27) rfl)) (hw _ (List.mem_of_getElem? (i := 9) rfl)) (hw _ (List.mem_of_getElem? (i := 29) rfl)) (by decide) Ei5 (rmC l Z a0 hw b3 F F K _ n0 Z6 Ff5 Fl5) (W := 0) (by decide) (by decide) (g := (mkF m 91 #[.val (.int a), .val (.int b), .val (.int k), .val (.int (a &&& (255 : Int32))), .val (.int (b &&& (255 : Int32))), .val (.int F), .val (.int K), .val (.ref b3), .val (.long ((k.toInt64) - (F.toInt64))), .second, .val (.int (0 : Int32))] [(.int F), (.ref b3)])) rfl (by rw [hml]; rfl) (lenOf pd_5 rfl) rfl (by show 2 * 0 + _ ≤ _; exact Nat.le_of_eq rfl) (hb hby at_91) (by decide) (by decide)
      have N15 := Fr.app N14 Nq15
      have e15 : T15.heap = T5.heap := eq15
      refine Go.st st15 ?_
      show Go p e below P (T15.setTop (mkF m 94 #[.val (.int a), .val (.int b), .val (.int k), .val (.int (a &&& (255 : Int32))), .val (.int (b &&& (255 : Int32))), .val (.int F), .val (.int K), .val (.ref b3), .val (.long ((k.toInt64) - (F.toInt64))), .second, .val (.int (0 : Int32))] [(.int (own_cov F K F))]))
      refine Go.st (fun _ kt => XS.ifNo X15.here hx rfl (hb hby at_94) rfl ((if0 _ _).trans (feq (by rw [own_cov1 (by omega) (by omega)]; decide)).1) (XS.aload X15.here hx rfl (hb hby at_97) rfl rfl (XS.iload X15.here hx rfl (hb hby at_99) rfl kt))) ?_
      show Go p e below P (T15.setTop (mkF m 101 #[.val (.int a), .val (.int b), .val (.int k), .val (.int (a &&& (255 : Int32))), .val (.int (b &&& (255 : Int32))), .val (.int F), .val (.int K), .val (.ref b3), .val (.long ((k.toInt64) - (F.toInt64))), .second, .val (.int (0 : Int32))] [(.int K), (.ref b3)]))
      obtain ⟨_, T16, Lc16, X16, ⟨rfl, Nq16, eq16⟩, st16⟩ := callCv X15 hx hZ e15 (y := (⟨"io/sluicegate/io/HashRange", "covers", "(I)Z"⟩ : MethodName)) (a := b3) (argsL := [(.int K)]) (rest := []) hown (hw _ (List.mem_of_getElem? (i := 25) rfl)) (hw _ (List.mem_of_getElem? (i := 26) rfl)) (hw _ (List.mem_of_getElem? (i := 28) rfl)) (hw _ (List.mem_of_getElem? (i := 27) rfl)) (hw _ (List.mem_of_getElem? (i := 9) rfl)) (hw _ (List.mem_of_getElem? (i := 29) rfl)) (by decide) Ei5 (rmC l Z a0 hw b3 K F K _ n0 Z6 Ff5 Fl5) (W := 0) (by decide) (by decide) (g := (mkF m 101 #[.val (.int a), .val (.int b), .val (.int k), .val (.int (a &&& (255 : Int32))), .val (.int (b &&& (255 : Int32))), .val (.int F), .val (.int K), .val (.ref b3), .val (.long ((k.toInt64) - (F.toInt64))), .second, .val (.int (0 : Int32))] [(.int K), (.ref b3)])) rfl (by rw [hml]; rfl) (lenOf pd_5 rfl) rfl (by show 2 * 0 + _ ≤ _; exact Nat.le_of_eq rfl) (hb hby at_101) (by decide) (by decide)
      have N16 := Fr.app N15 Nq16
      have e16 : T16.heap = T5.heap := eq16
      refine Go.st st16 ?_
      show Go p e below P (T16.setTop (mkF m 104 #[.val (.int a), .val (.int b), .val (.int k), .val (.int (a &&& (255 : Int32))), .val (.int (b &&& (255 : Int32))), .val (.int F), .val (.int K), .val (.ref b3), .val (.long ((k.toInt64) - (F.toInt64))), .second, .val (.int (0 : Int32))] [(.int (own_cov F K K))]))
      refine Go.st (fun _ kt => XS.ifNo X16.here hx rfl (hb hby at_104) rfl ((if0 _ _).trans (feq (by rw [own_cov1 (by omega) (by omega)]; decide)).1) (XS.aload X16.here hx rfl (hb hby at_107) rfl rfl (XS.iload X16.here hx rfl (hb hby at_109) rfl (XS.iconst X16.here hx rfl (hb hby at_111) (XS.isub X16.here hx rfl (hb hby at_112) rfl kt))))) ?_
      show Go p e below P (T16.setTop (mkF m 113 #[.val (.int a), .val (.int b), .val (.int k), .val (.int (a &&& (255 : Int32))), .val (.int (b &&& (255 : Int32))), .val (.int F), .val (.int K), .val (.ref b3), .val (.long ((k.toInt64) - (F.toInt64))), .second, .val (.int (0 : Int32))] [(.int (F - (1 : Int32))), (.ref b3)]))
      obtain ⟨_, T17, Lc17, X17, ⟨rfl, Nq17, eq17⟩, st17⟩ := callCv X16 hx hZ e16 (y := (⟨"io/sluicegate/io/HashRange", "covers", "(I)Z"⟩ : MethodName)) (a := b3) (argsL := [(.int (F - (1 : Int32)))]) (rest := []) hown (hw _ (List.mem_of_getElem? (i := 25) rfl)) (hw _ (List.mem_of_getElem? (i := 26) rfl)) (hw _ (List.mem_of_getElem? (i := 28) rfl)) (hw _ (List.mem_of_getElem? (i := 27) rfl)) (hw _ (List.mem_of_getElem? (i := 9) rfl)) (hw _ (List.mem_of_getElem? (i := 29) rfl)) (by decide) Ei5 (rmC l Z a0 hw b3 (F - (1 : Int32)) F K _ n0 Z6 Ff5 Fl5) (W := 0) (by decide) (by decide) (g := (mkF m 113 #[.val (.int a), .val (.int b), .val (.int k), .val (.int (a &&& (255 : Int32))), .val (.int (b &&& (255 : Int32))), .val (.int F), .val (.int K), .val (.ref b3), .val (.long ((k.toInt64) - (F.toInt64))), .second, .val (.int (0 : Int32))] [(.int (F - (1 : Int32))), (.ref b3)])) rfl (by rw [hml]; rfl) (lenOf pd_5 rfl) rfl (by show 2 * 0 + _ ≤ _; exact Nat.le_of_eq rfl) (hb hby at_113) (by decide) (by decide)
      have N17 := Fr.app N16 Nq17
      have e17 : T17.heap = T5.heap := eq17
      refine Go.st st17 ?_
      show Go p e below P (T17.setTop (mkF m 116 #[.val (.int a), .val (.int b), .val (.int k), .val (.int (a &&& (255 : Int32))), .val (.int (b &&& (255 : Int32))), .val (.int F), .val (.int K), .val (.ref b3), .val (.long ((k.toInt64) - (F.toInt64))), .second, .val (.int (0 : Int32))] [(.int (own_cov F K (F - (1 : Int32))))]))
      refine Go.st (fun _ kt => XS.ifNo X17.here hx rfl (hb hby at_116) rfl ((if0 _ _).trans (teq (own_cov0 (by rw [Kit.i32_sub (by rw [own_one]; omega) (by rw [own_one]; omega), own_one]; omega))).2) (XS.aload X17.here hx rfl (hb hby at_119) rfl rfl (XS.iload X17.here hx rfl (hb hby at_121) rfl (XS.iconst X17.here hx rfl (hb hby at_123) (XS.iadd X17.here hx rfl (hb hby at_124) rfl kt))))) ?_
      show Go p e below P (T17.setTop (mkF m 125 #[.val (.int a), .val (.int b), .val (.int k), .val (.int (a &&& (255 : Int32))), .val (.int (b &&& (255 : Int32))), .val (.int F), .val (.int K), .val (.ref b3), .val (.long ((k.toInt64) - (F.toInt64))), .second, .val (.int (0 : Int32))] [(.int (K + (1 : Int32))), (.ref b3)]))
      obtain ⟨_, T18, Lc18, X18, ⟨rfl, Nq18, eq18⟩, st18⟩ := callCv X17 hx hZ e17 (y := (⟨"io/sluicegate/io/HashRange", "covers", "(I)Z"⟩ : MethodName)) (a := b3) (argsL := [(.int (K + (1 : Int32)))]) (rest := []) hown (hw _ (List.mem_of_getElem? (i := 25) rfl)) (hw _ (List.mem_of_getElem? (i := 26) rfl)) (hw _ (List.mem_of_getElem? (i := 28) rfl)) (hw _ (List.mem_of_getElem? (i := 27) rfl)) (hw _ (List.mem_of_getElem? (i := 9) rfl)) (hw _ (List.mem_of_getElem? (i := 29) rfl)) (by decide) Ei5 (rmC l Z a0 hw b3 (K + (1 : Int32)) F K _ n0 Z6 Ff5 Fl5) (W := 0) (by decide) (by decide) (g := (mkF m 125 #[.val (.int a), .val (.int b), .val (.int k), .val (.int (a &&& (255 : Int32))), .val (.int (b &&& (255 : Int32))), .val (.int F), .val (.int K), .val (.ref b3), .val (.long ((k.toInt64) - (F.toInt64))), .second, .val (.int (0 : Int32))] [(.int (K + (1 : Int32))), (.ref b3)])) rfl (by rw [hml]; rfl) (lenOf pd_5 rfl) rfl (by show 2 * 0 + _ ≤ _; exact Nat.le_of_eq rfl) (hb hby at_125) (by decide) (by decide)
      have N18 := Fr.app N17 Nq18
      have e18 : T18.heap = T5.heap := eq18
      refine Go.st st18 ?_
      show Go p e below P (T18.setTop (mkF m 128 #[.val (.int a), .val (.int b), .val (.int k), .val (.int (a &&& (255 : Int32))), .val (.int (b &&& (255 : Int32))), .val (.int F), .val (.int K), .val (.ref b3), .val (.long ((k.toInt64) - (F.toInt64))), .second, .val (.int (0 : Int32))] [(.int (own_cov F K (K + (1 : Int32))))]))
      refine Go.st (fun _ kt => XS.ifNo X18.here hx rfl (hb hby at_128) rfl ((if0 _ _).trans (teq (own_cov0 (by rw [Kit.i32_add (by rw [own_one]; omega) (by rw [own_one]; omega), own_one]; omega))).2) (XS.iconst X18.here hx rfl (hb hby at_131) (XS.goto X18.here hx rfl (pc0 := 132) (pc' := 136) rfl (hb hby at_132) (by decide) (by decide) kt))) ?_
      show Go p e below P (T18.setTop (mkF m 136 #[.val (.int a), .val (.int b), .val (.int k), .val (.int (a &&& (255 : Int32))), .val (.int (b &&& (255 : Int32))), .val (.int F), .val (.int K), .val (.ref b3), .val (.long ((k.toInt64) - (F.toInt64))), .second, .val (.int (0 : Int32))] [(.int (1 : Int32))]))
      exact goN X18 hx (t := .boolean) hret (by simp) hlk (hb hby at_136) hP (by decide) (by decide) ⟨rfl, N18⟩
    · refine Go.st (fun _ kt => XS.ifNo X5.here hx rfl (hb hby at_66) rfl ((if0 _ _).trans (flt br13).2.2.1) kt) ?_
      show Go p e below P (T5.setTop (mkF m 69 #[.val (.int a), .val (.int b), .val (.int k), .val (.int (a &&& (255 : Int32))), .val (.int (b &&& (255 : Int32))), .val (.int F), .val (.int K), .val (.ref b3), .val (.long ((k.toInt64) - (F.toInt64))), .second, .unset] []))
      refine Go.st (fun _ kt => XS.iconst X5.here hx rfl (hb hby at_69) (XS.goto X5.here hx rfl (pc0 := 70) (pc' := 74) rfl (hb hby at_70) (by decide) (by decide) (XS.istore X5.here hx rfl (hb hby at_74) rfl (l' := #[.val (.int a), .val (.int b), .val (.int k), .val (.int (a &&& (255 : Int32))), .val (.int (b &&& (255 : Int32))), .val (.int F), .val (.int K), .val (.ref b3), .val (.long ((k.toInt64) - (F.toInt64))), .second, .val (.int (1 : Int32))]) rfl (XS.aload X5.here hx rfl (hb hby at_76) rfl rfl (XS.iloadN X5.here hx rfl (hb hby at_78) rfl kt))))) ?_
      show Go p e below P (T5.setTop (mkF m 79 #[.val (.int a), .val (.int b), .val (.int k), .val (.int (a &&& (255 : Int32))), .val (.int (b &&& (255 : Int32))), .val (.int F), .val (.int K), .val (.ref b3), .val (.long ((k.toInt64) - (F.toInt64))), .second, .val (.int (1 : Int32))] [(.int k), (.ref b3)]))
      obtain ⟨_, T19, Lc19, X19, ⟨rfl, Nq19, eq19⟩, st19⟩ := callCv X5 hx hZ rfl (y := (⟨"io/sluicegate/io/HashRange", "covers", "(I)Z"⟩ : MethodName)) (a := b3) (argsL := [(.int k)]) (rest := []) hown (hw _ (List.mem_of_getElem? (i := 25) rfl)) (hw _ (List.mem_of_getElem? (i := 26) rfl)) (hw _ (List.mem_of_getElem? (i := 28) rfl)) (hw _ (List.mem_of_getElem? (i := 27) rfl)) (hw _ (List.mem_of_getElem? (i := 9) rfl)) (hw _ (List.mem_of_getElem? (i := 29) rfl)) (by decide) Ei5 (rmC l Z a0 hw b3 k F K _ n0 Z6 Ff5 Fl5) (W := 0) (by decide) (by decide) (g := (mkF m 79 #[.val (.int a), .val (.int b), .val (.int k), .val (.int (a &&& (255 : Int32))), .val (.int (b &&& (255 : Int32))), .val (.int F), .val (.int K), .val (.ref b3), .val (.long ((k.toInt64) - (F.toInt64))), .second, .val (.int (1 : Int32))] [(.int k), (.ref b3)])) rfl (by rw [hml]; rfl) (lenOf pd_5 rfl) rfl (by show 2 * 0 + _ ≤ _; exact Nat.le_of_eq rfl) (hb hby at_79) (by decide) (by decide)
      have N19 := Fr.app N5 Nq19
      have e19 : T19.heap = T5.heap := eq19
      refine Go.st st19 ?_
      show Go p e below P (T19.setTop (mkF m 82 #[.val (.int a), .val (.int b), .val (.int k), .val (.int (a &&& (255 : Int32))), .val (.int (b &&& (255 : Int32))), .val (.int F), .val (.int K), .val (.ref b3), .val (.long ((k.toInt64) - (F.toInt64))), .second, .val (.int (1 : Int32))] [(.int (own_cov F K k))]))
      refine Go.st (fun _ kt => XS.iload X19.here hx rfl (hb hby at_82) rfl (XS.icmpNo X19.here hx rfl (hb hby at_84) rfl (teq (by rw [own_lt, own_d, own_zero64] at br7; rw [own_gt, own_d, own_w ⟨hF0, hFK1, hK⟩] at br13; exact own_cov1 (by omega) (by omega))).2 (XS.aload X19.here hx rfl (hb hby at_87) rfl rfl (XS.iload X19.here hx rfl (hb hby at_89) rfl kt)))) ?_
      show Go p e below P (T19.setTop (mkF m 91 #[.val (.int a), .val (.int b), .val (.int k), .val (.int (a &&& (255 : Int32))), .val (.int (b &&& (255 : Int32))), .val (.int F), .val (.int K), .val (.ref b3), .val (.long ((k.toInt64) - (F.toInt64))), .second, .val (.int (1 : Int32))] [(.int F), (.ref b3)]))
      obtain ⟨_, T20, Lc20, X20, ⟨rfl, Nq20, eq20⟩, st20⟩ := callCv X19 hx hZ e19 (y := (⟨"io/sluicegate/io/HashRange", "covers", "(I)Z"⟩ : MethodName)) (a := b3) (argsL := [(.int F)]) (rest := []) hown (hw _ (List.mem_of_getElem? (i := 25) rfl)) (hw _ (List.mem_of_getElem? (i := 26) rfl)) (hw _ (List.mem_of_getElem? (i := 28) rfl)) (hw _ (List.mem_of_getElem? (i := 27) rfl)) (hw _ (List.mem_of_getElem? (i := 9) rfl)) (hw _ (List.mem_of_getElem? (i := 29) rfl)) (by decide) Ei5 (rmC l Z a0 hw b3 F F K _ n0 Z6 Ff5 Fl5) (W := 0) (by decide) (by decide) (g := (mkF m 91 #[.val (.int a), .val (.int b), .val (.int k), .val (.int (a &&& (255 : Int32))), .val (.int (b &&& (255 : Int32))), .val (.int F), .val (.int K), .val (.ref b3), .val (.long ((k.toInt64) - (F.toInt64))), .second, .val (.int (1 : Int32))] [(.int F), (.ref b3)])) rfl (by rw [hml]; rfl) (lenOf pd_5 rfl) rfl (by show 2 * 0 + _ ≤ _; exact Nat.le_of_eq rfl) (hb hby at_91) (by decide) (by decide)
      have N20 := Fr.app N19 Nq20
      have e20 : T20.heap = T5.heap := eq20
      refine Go.st st20 ?_
      show Go p e below P (T20.setTop (mkF m 94 #[.val (.int a), .val (.int b), .val (.int k), .val (.int (a &&& (255 : Int32))), .val (.int (b &&& (255 : Int32))), .val (.int F), .val (.int K), .val (.ref b3), .val (.long ((k.toInt64) - (F.toInt64))), .second, .val (.int (1 : Int32))] [(.int (own_cov F K F))]))
      refine Go.st (fun _ kt => XS.ifNo X20.here hx rfl (hb hby at_94) rfl ((if0 _ _).trans (feq (by rw [own_cov1 (by omega) (by omega)]; decide)).1) (XS.aload X20.here hx rfl (hb hby at_97) rfl rfl (XS.iload X20.here hx rfl (hb hby at_99) rfl kt))) ?_
      show Go p e below P (T20.setTop (mkF m 101 #[.val (.int a), .val (.int b), .val (.int k), .val (.int (a &&& (255 : Int32))), .val (.int (b &&& (255 : Int32))), .val (.int F), .val (.int K), .val (.ref b3), .val (.long ((k.toInt64) - (F.toInt64))), .second, .val (.int (1 : Int32))] [(.int K), (.ref b3)]))
      obtain ⟨_, T21, Lc21, X21, ⟨rfl, Nq21, eq21⟩, st21⟩ := callCv X20 hx hZ e20 (y := (⟨"io/sluicegate/io/HashRange", "covers", "(I)Z"⟩ : MethodName)) (a := b3) (argsL := [(.int K)]) (rest := []) hown (hw _ (List.mem_of_getElem? (i := 25) rfl)) (hw _ (List.mem_of_getElem? (i := 26) rfl)) (hw _ (List.mem_of_getElem? (i := 28) rfl)) (hw _ (List.mem_of_getElem? (i := 27) rfl)) (hw _ (List.mem_of_getElem? (i := 9) rfl)) (hw _ (List.mem_of_getElem? (i := 29) rfl)) (by decide) Ei5 (rmC l Z a0 hw b3 K F K _ n0 Z6 Ff5 Fl5) (W := 0) (by decide) (by decide) (g := (mkF m 101 #[.val (.int a), .val (.int b), .val (.int k), .val (.int (a &&& (255 : Int32))), .val (.int (b &&& (255 : Int32))), .val (.int F), .val (.int K), .val (.ref b3), .val (.long ((k.toInt64) - (F.toInt64))), .second, .val (.int (1 : Int32))] [(.int K), (.ref b3)])) rfl (by rw [hml]; rfl) (lenOf pd_5 rfl) rfl (by show 2 * 0 + _ ≤ _; exact Nat.le_of_eq rfl) (hb hby at_101) (by decide) (by decide)
      have N21 := Fr.app N20 Nq21
      have e21 : T21.heap = T5.heap := eq21
      refine Go.st st21 ?_
      show Go p e below P (T21.setTop (mkF m 104 #[.val (.int a), .val (.int b), .val (.int k), .val (.int (a &&& (255 : Int32))), .val (.int (b &&& (255 : Int32))), .val (.int F), .val (.int K), .val (.ref b3), .val (.long ((k.toInt64) - (F.toInt64))), .second, .val (.int (1 : Int32))] [(.int (own_cov F K K))]))
      refine Go.st (fun _ kt => XS.ifNo X21.here hx rfl (hb hby at_104) rfl ((if0 _ _).trans (feq (by rw [own_cov1 (by omega) (by omega)]; decide)).1) (XS.aload X21.here hx rfl (hb hby at_107) rfl rfl (XS.iload X21.here hx rfl (hb hby at_109) rfl (XS.iconst X21.here hx rfl (hb hby at_111) (XS.isub X21.here hx rfl (hb hby at_112) rfl kt))))) ?_
      show Go p e below P (T21.setTop (mkF m 113 #[.val (.int a), .val (.int b), .val (.int k), .val (.int (a &&& (255 : Int32))), .val (.int (b &&& (255 : Int32))), .val (.int F), .val (.int K), .val (.ref b3), .val (.long ((k.toInt64) - (F.toInt64))), .second, .val (.int (1 : Int32))] [(.int (F - (1 : Int32))), (.ref b3)]))
      obtain ⟨_, T22, Lc22, X22, ⟨rfl, Nq22, eq22⟩, st22⟩ := callCv X21 hx hZ e21 (y := (⟨"io/sluicegate/io/HashRange", "covers", "(I)Z"⟩ : MethodName)) (a := b3) (argsL := [(.int (F - (1 : Int32)))]) (rest := []) hown (hw _ (List.mem_of_getElem? (i := 25) rfl)) (hw _ (List.mem_of_getElem? (i := 26) rfl)) (hw _ (List.mem_of_getElem? (i := 28) rfl)) (hw _ (List.mem_of_getElem? (i := 27) rfl)) (hw _ (List.mem_of_getElem? (i := 9) rfl)) (hw _ (List.mem_of_getElem? (i := 29) rfl)) (by decide) Ei5 (rmC l Z a0 hw b3 (F - (1 : Int32)) F K _ n0 Z6 Ff5 Fl5) (W := 0) (by decide) (by decide) (g := (mkF m 113 #[.val (.int a), .val (.int b), .val (.int k), .val (.int (a &&& (255 : Int32))), .val (.int (b &&& (255 : Int32))), .val (.int F), .val (.int K), .val (.ref b3), .val (.long ((k.toInt64) - (F.toInt64))), .second, .val (.int (1 : Int32))] [(.int (F - (1 : Int32))), (.ref b3)])) rfl (by rw [hml]; rfl) (lenOf pd_5 rfl) rfl (by show 2 * 0 + _ ≤ _; exact Nat.le_of_eq rfl) (hb hby at_113) (by decide) (by decide)
      have N22 := Fr.app N21 Nq22
      have e22 : T22.heap = T5.heap := eq22
      refine Go.st st22 ?_
      show Go p e below P (T22.setTop (mkF m 116 #[.val (.int a), .val (.int b), .val (.int k), .val (.int (a &&& (255 : Int32))), .val (.int (b &&& (255 : Int32))), .val (.int F), .val (.int K), .val (.ref b3), .val (.long ((k.toInt64) - (F.toInt64))), .second, .val (.int (1 : Int32))] [(.int (own_cov F K (F - (1 : Int32))))]))
      refine Go.st (fun _ kt => XS.ifNo X22.here hx rfl (hb hby at_116) rfl ((if0 _ _).trans (teq (own_cov0 (by rw [Kit.i32_sub (by rw [own_one]; omega) (by rw [own_one]; omega), own_one]; omega))).2) (XS.aload X22.here hx rfl (hb hby at_119) rfl rfl (XS.iload X22.here hx rfl (hb hby at_121) rfl (XS.iconst X22.here hx rfl (hb hby at_123) (XS.iadd X22.here hx rfl (hb hby at_124) rfl kt))))) ?_
      show Go p e below P (T22.setTop (mkF m 125 #[.val (.int a), .val (.int b), .val (.int k), .val (.int (a &&& (255 : Int32))), .val (.int (b &&& (255 : Int32))), .val (.int F), .val (.int K), .val (.ref b3), .val (.long ((k.toInt64) - (F.toInt64))), .second, .val (.int (1 : Int32))] [(.int (K + (1 : Int32))), (.ref b3)]))
      obtain ⟨_, T23, Lc23, X23, ⟨rfl, Nq23, eq23⟩, st23⟩ := callCv X22 hx hZ e22 (y := (⟨"io/sluicegate/io/HashRange", "covers", "(I)Z"⟩ : MethodName)) (a := b3) (argsL := [(.int (K + (1 : Int32)))]) (rest := []) hown (hw _ (List.mem_of_getElem? (i := 25) rfl)) (hw _ (List.mem_of_getElem? (i := 26) rfl)) (hw _ (List.mem_of_getElem? (i := 28) rfl)) (hw _ (List.mem_of_getElem? (i := 27) rfl)) (hw _ (List.mem_of_getElem? (i := 9) rfl)) (hw _ (List.mem_of_getElem? (i := 29) rfl)) (by decide) Ei5 (rmC l Z a0 hw b3 (K + (1 : Int32)) F K _ n0 Z6 Ff5 Fl5) (W := 0) (by decide) (by decide) (g := (mkF m 125 #[.val (.int a), .val (.int b), .val (.int k), .val (.int (a &&& (255 : Int32))), .val (.int (b &&& (255 : Int32))), .val (.int F), .val (.int K), .val (.ref b3), .val (.long ((k.toInt64) - (F.toInt64))), .second, .val (.int (1 : Int32))] [(.int (K + (1 : Int32))), (.ref b3)])) rfl (by rw [hml]; rfl) (lenOf pd_5 rfl) rfl (by show 2 * 0 + _ ≤ _; exact Nat.le_of_eq rfl) (hb hby at_125) (by decide) (by decide)
      have N23 := Fr.app N22 Nq23
      have e23 : T23.heap = T5.heap := eq23
      refine Go.st st23 ?_
      show Go p e below P (T23.setTop (mkF m 128 #[.val (.int a), .val (.int b), .val (.int k), .val (.int (a &&& (255 : Int32))), .val (.int (b &&& (255 : Int32))), .val (.int F), .val (.int K), .val (.ref b3), .val (.long ((k.toInt64) - (F.toInt64))), .second, .val (.int (1 : Int32))] [(.int (own_cov F K (K + (1 : Int32))))]))
      refine Go.st (fun _ kt => XS.ifNo X23.here hx rfl (hb hby at_128) rfl ((if0 _ _).trans (teq (own_cov0 (by rw [Kit.i32_add (by rw [own_one]; omega) (by rw [own_one]; omega), own_one]; omega))).2) (XS.iconst X23.here hx rfl (hb hby at_131) (XS.goto X23.here hx rfl (pc0 := 132) (pc' := 136) rfl (hb hby at_132) (by decide) (by decide) kt))) ?_
      show Go p e below P (T23.setTop (mkF m 136 #[.val (.int a), .val (.int b), .val (.int k), .val (.int (a &&& (255 : Int32))), .val (.int (b &&& (255 : Int32))), .val (.int F), .val (.int K), .val (.ref b3), .val (.long ((k.toInt64) - (F.toInt64))), .second, .val (.int (1 : Int32))] [(.int (1 : Int32))]))
      exact goN X23 hx (t := .boolean) hret (by simp) hlk (hb hby at_136) hP (by decide) (by decide) ⟨rfl, N23⟩
set_option maxRecDepth 65536 in
set_option maxHeartbeats 40000000 in
theorem comes_1 {Post : Tables → Env → Array Value → State → Outcome → State → Prop} (hpost : ∀ tb e args s v u, (limb_1_1.after args s (.returned v) u = true ∧ limb_1_2.after args s (.returned v) u = true ∧ True) → FrameEnd s (.returned v) u (Jvm.fieldLocs frame_1_writes args s ++ Jvm.arrayLocs frame_1_arrays args s ++ Jvm.staticLocs frame_1_statics s) 16 128 → Post tb e args s (.returned v) u) :
    ArmFor flags0 classFile x code maxLocals ret World_1 tables_1 room_1 Calls_1 rest_1 Pre_1 Post := by
  intro l hfl _ _ p e ha hc hk s m args below hf hA hF happ hP
  obtain ⟨hcalls, hrest, hpre⟩ := hP
  obtain ⟨-, -, -, hnamed, -, -, -, hat⟩ := (Spec.applies_iff hf).mp happ
  obtain ⟨hg, hn⟩ := and_e (Cond.before_iff.mp (show (Jvm.Cond.and given_1 narrow_1).before args s = true from hpre))
  obtain ⟨g1, g2⟩ := and_e hg
  obtain ⟨g3, g4⟩ := and_e g2
  obtain ⟨g5, g6⟩ := and_e g4
  obtain ⟨w0, w1, w2, rfl⟩ : ∃ w0 w1 w2 : Value, args = #[w0, w1, w2] := by
    have hs : args.size = 3 := by simpa [Cond.value, given_1] using g1
    obtain ⟨L⟩ := args
    match L, hs with
    | [w0, w1, w2], _ => exact ⟨w0, w1, w2, rfl⟩
  have hw := fun d (hd : d ∈ tables_1) => atoms_spec (ws := Jvm.Cond.code x code maxLocals ret :: tables_1) hat d (List.mem_cons_of_mem _ hd)
  obtain ⟨i0, ei0⟩ := is_v g3
  obtain rfl : w0 = (.int i0) := Option.some.inj ei0
  obtain ⟨i1, ei1⟩ := is_v g5
  obtain rfl : w1 = (.int i1) := Option.some.inj ei1
  obtain ⟨i2, ei2⟩ := is_v g6
  obtain rfl : w2 = (.int i2) := Option.some.inj ei2
  obtain ⟨n, o, h1, h2, h3, _, L, rfl, ⟨rfl, N⟩, hq⟩ := rm0 l s _ hw tables_1 i0 i1 i2 s.heap s.heap.size (Nat.le_refl _) p e ha hc hk s m _ below hf ((Spec.applies_iff_loose hf).mp happ).1 ⟨rfl, State.Warmed39.refl s, rfl⟩ trivial
  refine ⟨n, _, h1, h2, h3, hpost _ _ _ _ _ _ ⟨Cond.after_iff.mpr rfl, Cond.after_iff.mpr (eq_i res_at (Term.int_eval (1)) rfl), trivial⟩ ⟨hq.1, hq.2.1, (hq.2.2.sift fun y hy => Or.inr (N y hy)).mono (by decide) (by decide)⟩⟩
theorem main_1_1 : Claimed_1_1 := comes_1 fun _ _ _ _ _ _ h hF => ⟨h.1, hF⟩
theorem main_1_2 : Claimed_1_2 := comes_1 fun _ _ _ _ _ _ h hF => ⟨h.2.1, hF⟩
end Jvm.Pilot.@@N@@
namespace Jvm.Pilot.@@N@@
open Jvm Jvm.ClassFile Sem Op Lib Jvm.Free Jvm.Stand Jvm.Pilot.@@N@@.Jvm.D
/-! MADE BY PROGRAM (witnessworld.py) out of the Statement's table words and the real class files: 11 classes; the members and pool entries that the words name. The judged class is class 1, her method 1. -/
namespace start1
open Jvm.ClassFile
def u (s : String) : CpInfo := .utf8 (stringToUtf16 s)
/-- a pool by its gaps: so many unusable entries, then the entry; so many at the end -/
def gap : Nat → List CpInfo → List CpInfo
  | 0, r => r
  | n + 1, r => .unusable :: gap n r
def poolList (es : List (Nat × CpInfo)) (last : Nat) : List CpInfo := es.foldr (fun e r => gap e.1 (e.2 :: r)) (gap last [])
def pool (es : List (Nat × CpInfo)) (last : Nat) : Array CpInfo := ⟨poolList es last⟩
def fileOf (pool : Array CpInfo) (this : Nat) (attrs : Array Attribute := #[]) (ms : Array MethodInfo := #[]) (fl : Nat := 33) (sup : Nat := 0) (ifs : Array Nat := #[]) (fds : Array FieldInfo := #[]) : ClassFile where
  minorVersion := 0
  majorVersion := 65
  constantPool := pool
  accessFlags := fl
  thisClass := this
  superClass := sup
  interfaces := ifs
  fields := fds
  methods := ms
  attributes := attrs
def plain (name : String) (sup : Option ClassId) : Class where
  name := name
  kind := .ordinary
  loader := none
  accessFlags := 33
  super := sup
  interfaces := #[]
  cf := none
  fields := #[]
  methods := #[]
  instanceTypes := #[]
  staticTypes := #[]
  resolved := #[]
  callSites := []
  init := .initialized
  statics := none
  mirror := none

def pool0 : Array CpInfo := pool [(5, u "<init>"), (0, u "()V"), (1, .class_ 10), (1, u "java/lang/Object")] 113

def k0c0 : Code := { maxStack := 0, maxLocals := 1, code := object_method_1_code, exceptionTable := #[], attributes := #[] }
def k0m0 : Method := { name := "<init>", desc := "()V", sig := { parameters := [], returnType := none }, accessFlags := 1, code := some k0c0 }
/-- java/lang/Object -/
def k0 : Class := { plain "java/lang/Object" none with
  accessFlags := 33
  interfaces := #[]
  cf := some (fileOf pool0 8 #[] #[{ accessFlags := 1, nameIndex := 5, descriptorIndex := 6, attributes := #[] }] 33 0 #[] #[])
  fields := #[]
  methods := #[k0m0]
  instanceTypes := #[]
  staticTypes := #[]
  resolved := Array.replicate 124 none
  statics := none }

def pool1 : Array CpInfo := pool [(2, .class_ 4), (1, u "java/lang/Object"), (0, u "<init>"), (0, u "()V"), (0, .methodref 8 9), (0, .class_ 10), (0, .nameAndType 11 12), (0, u "java/lang/Math"), (0, u "min"), (0, u "(II)I"), (0, .methodref 8 14), (0, .nameAndType 15 12), (0, u "max"), (0, .class_ 17), (0, u "io/sluicegate/io/HashRange"), (0, .methodref 16 19), (0, .nameAndType 5 20), (0, u "(II)V"), (0, .methodref 16 22), (0, .nameAndType 23 24), (0, u "covers"), (0, u "(I)Z"), (0, .class_ 26), (0, u "io/sluicegate/io/HashRangeCoversPinLaw"), (2, u "law"), (0, u "(III)Z")] 3

def k1m0 : Method := { name := "<init>", desc := "()V", sig := { parameters := [], returnType := none }, accessFlags := 1, code := none }
def k1c1 : Code := { maxStack := 4, maxLocals := 11, code := code, exceptionTable := #[], attributes := #[] }
def k1m1 : Method := { name := "law", desc := "(III)Z", sig := { parameters := [.int, .int, .int], returnType := some .boolean }, accessFlags := 9, code := some k1c1 }
/-- io/sluicegate/io/HashRangeCoversPinLaw -/
def k1 : Class := { plain "io/sluicegate/io/HashRangeCoversPinLaw" (some 0) with
  accessFlags := 49
  interfaces := #[]
  cf := some (fileOf pool1 25 #[] #[{ accessFlags := 1, nameIndex := 5, descriptorIndex := 6, attributes := #[] }, { accessFlags := 9, nameIndex := 29, descriptorIndex := 30, attributes := #[] }] 49 2 #[] #[])
  fields := #[]
  methods := #[k1m0, k1m1]
  instanceTypes := #[]
  staticTypes := #[]
  resolved := Array.replicate 34 none
  statics := none }

def pool2 : Array CpInfo := pool [(1, .class_ 2), (0, u "java/lang/Math"), (1, .class_ 6), (1, u "java/lang/Object"), (0, u "<init>"), (0, u "()V"), (89, .class_ 100), (1, u "java/lang/Math$RandomNumberGeneratorHolder"), (71, u "negativeZeroFloatBits"), (0, u "J"), (2, u "negativeZeroDoubleBits"), (21, u "max"), (2, u "min"), (43, u "$assertionsDisabled"), (0, u "Z"), (88, u "(II)I"), (2, u "twoToTheDoubleScaleDown"), (0, u "D"), (4, u "twoToTheDoubleScaleUp"), (9, u "E"), (3, u "PI"), (2, u "TAU"), (2, u "DEGREES_TO_RADIANS"), (0, u "RADIANS_TO_DEGREES")] 94

def k2m0 : Method := { name := "<init>", desc := "()V", sig := { parameters := [], returnType := none }, accessFlags := 2, code := none }
def k2c1 : Code := { maxStack := 2, maxLocals := 2, code := jdk_29_method_65_code, exceptionTable := #[], attributes := #[] }
def k2m1 : Method := { name := "max", desc := "(II)I", sig := { parameters := [.int, .int], returnType := some .int }, accessFlags := 9, code := some k2c1 }
def k2c2 : Code := { maxStack := 2, maxLocals := 2, code := jdk_29_method_69_code, exceptionTable := #[], attributes := #[] }
def k2m2 : Method := { name := "min", desc := "(II)I", sig := { parameters := [.int, .int], returnType := some .int }, accessFlags := 9, code := some k2c2 }
/-- java/lang/Math -/
def k2 : Class := { plain "java/lang/Math" (some 0) with
  accessFlags := 49
  interfaces := #[]
  cf := some (fileOf pool2 1 #[.nestMembers #[98]] #[{ accessFlags := 2, nameIndex := 7, descriptorIndex := 8, attributes := #[] }, { accessFlags := 9, nameIndex := 198, descriptorIndex := 335, attributes := #[] }, { accessFlags := 9, nameIndex := 201, descriptorIndex := 335, attributes := #[] }] 49 4 #[] #[{ accessFlags := 25, nameIndex := 354, descriptorIndex := 339, attributes := #[] }, { accessFlags := 25, nameIndex := 358, descriptorIndex := 339, attributes := #[] }, { accessFlags := 25, nameIndex := 361, descriptorIndex := 339, attributes := #[] }, { accessFlags := 26, nameIndex := 364, descriptorIndex := 339, attributes := #[] }, { accessFlags := 26, nameIndex := 365, descriptorIndex := 339, attributes := #[] }, { accessFlags := 26, nameIndex := 172, descriptorIndex := 173, attributes := #[] }, { accessFlags := 26, nameIndex := 176, descriptorIndex := 173, attributes := #[] }, { accessFlags := 8, nameIndex := 344, descriptorIndex := 339, attributes := #[] }, { accessFlags := 8, nameIndex := 338, descriptorIndex := 339, attributes := #[] }, { accessFlags := 4120, nameIndex := 245, descriptorIndex := 246, attributes := #[] }])
  fields := #[{ name := "E", type := .double, accessFlags := 25, slot := 0, constantValue := 0 }, { name := "PI", type := .double, accessFlags := 25, slot := 1, constantValue := 0 }, { name := "TAU", type := .double, accessFlags := 25, slot := 2, constantValue := 0 }, { name := "DEGREES_TO_RADIANS", type := .double, accessFlags := 26, slot := 3, constantValue := 0 }, { name := "RADIANS_TO_DEGREES", type := .double, accessFlags := 26, slot := 4, constantValue := 0 }, { name := "negativeZeroFloatBits", type := .long, accessFlags := 26, slot := 5, constantValue := 0 }, { name := "negativeZeroDoubleBits", type := .long, accessFlags := 26, slot := 6, constantValue := 0 }, { name := "twoToTheDoubleScaleUp", type := .double, accessFlags := 8, slot := 7, constantValue := 0 }, { name := "twoToTheDoubleScaleDown", type := .double, accessFlags := 8, slot := 8, constantValue := 0 }, { name := "$assertionsDisabled", type := .boolean, accessFlags := 4120, slot := 9, constantValue := 0 }]
  methods := #[k2m0, k2m1, k2m2]
  instanceTypes := #[]
  staticTypes := #[.double, .double, .double, .double, .double, .long, .long, .double, .double, .boolean]
  resolved := Array.replicate 460 none
  statics := none }

def pool3 : Array CpInfo := pool [(1, .methodref 2 3), (0, .class_ 4), (0, .nameAndType 5 6), (0, u "java/lang/Object"), (0, u "<init>"), (0, u "()V"), (0, .class_ 8), (0, u "java/lang/Record")] 13

def k3c0 : Code := { maxStack := 1, maxLocals := 1, code := jdk_30_method_1_code, exceptionTable := #[], attributes := #[] }
def k3m0 : Method := { name := "<init>", desc := "()V", sig := { parameters := [], returnType := none }, accessFlags := 4, code := some k3c0 }
/-- java/lang/Record -/
def k3 : Class := { plain "java/lang/Record" (some 0) with
  accessFlags := 1057
  interfaces := #[]
  cf := some (fileOf pool3 7 #[] #[{ accessFlags := 4, nameIndex := 5, descriptorIndex := 6, attributes := #[] }] 1057 2 #[] #[])
  fields := #[]
  methods := #[k3m0]
  instanceTypes := #[]
  staticTypes := #[]
  resolved := Array.replicate 22 none
  statics := none }

def pool4 : Array CpInfo := pool [(1, .methodref 2 3), (0, .class_ 4), (0, .nameAndType 5 6), (0, u "java/lang/Record"), (0, u "<init>"), (0, u "()V"), (11, .fieldref 19 20), (0, .class_ 21), (0, .nameAndType 22 23), (0, u "io/sluicegate/io/HashRange"), (0, u "first"), (0, u "I"), (0, .fieldref 19 25), (0, .nameAndType 26 23), (0, u "last"), (10, u "(II)V"), (44, u "covers"), (0, u "(I)Z")] 35

def k4c0 : Code := { maxStack := 4, maxLocals := 3, code := prog_6_method_1_code, exceptionTable := #[], attributes := #[] }
def k4m0 : Method := { name := "<init>", desc := "(II)V", sig := { parameters := [.int, .int], returnType := none }, accessFlags := 1, code := some k4c0 }
def k4c1 : Code := { maxStack := 2, maxLocals := 2, code := prog_6_method_4_code, exceptionTable := #[], attributes := #[] }
def k4m1 : Method := { name := "covers", desc := "(I)Z", sig := { parameters := [.int], returnType := some .boolean }, accessFlags := 1, code := some k4c1 }
/-- io/sluicegate/io/HashRange -/
def k4 : Class := { plain "io/sluicegate/io/HashRange" (some 3) with
  accessFlags := 49
  interfaces := #[]
  cf := some (fileOf pool4 19 #[] #[{ accessFlags := 1, nameIndex := 5, descriptorIndex := 37, attributes := #[] }, { accessFlags := 1, nameIndex := 82, descriptorIndex := 83, attributes := #[] }] 49 2 #[] #[{ accessFlags := 18, nameIndex := 22, descriptorIndex := 23, attributes := #[] }, { accessFlags := 18, nameIndex := 26, descriptorIndex := 23, attributes := #[] }])
  fields := #[{ name := "first", type := .int, accessFlags := 18, slot := 0, constantValue := 0 }, { name := "last", type := .int, accessFlags := 18, slot := 1, constantValue := 0 }]
  methods := #[k4m0, k4m1]
  instanceTypes := #[.int, .int]
  staticTypes := #[]
  resolved := Array.replicate 119 none
  statics := none }

def pool5 : Array CpInfo := pool [(1, u "java/lang/Cloneable"), (0, .class_ 1), (0, u "java/lang/Object"), (0, .class_ 3)] 3

/-- java/lang/Cloneable -/
def k5 : Class := { plain "java/lang/Cloneable" (some 0) with
  accessFlags := 1537
  interfaces := #[]
  cf := some (fileOf pool5 2 #[] #[] 1537 4 #[] #[])
  fields := #[]
  methods := #[]
  instanceTypes := #[]
  staticTypes := #[]
  resolved := Array.replicate 8 none
  statics := none }

def pool6 : Array CpInfo := pool [(1, u "java/io/Serializable"), (0, .class_ 1), (0, u "java/lang/Object"), (0, .class_ 3)] 3

/-- java/io/Serializable -/
def k6 : Class := { plain "java/io/Serializable" (some 0) with
  accessFlags := 1537
  interfaces := #[]
  cf := some (fileOf pool6 2 #[] #[] 1537 4 #[] #[])
  fields := #[]
  methods := #[]
  instanceTypes := #[]
  staticTypes := #[]
  resolved := Array.replicate 8 none
  statics := none }

/-- the primitive byte -/
def k7 : Class := { plain "byte" none with kind := .primitive 'B', accessFlags := 0x411 }
/-- [B -/
def k8 : Class := { plain "[B" (some 0) with kind := .array 7 .byte, interfaces := #[5, 6], accessFlags := 1041 }

/-- the primitive int -/
def k9 : Class := { plain "int" none with kind := .primitive 'I', accessFlags := 0x411 }
/-- [I -/
def k10 : Class := { plain "[I" (some 0) with kind := .array 9 .int, interfaces := #[5, 6], accessFlags := 1041 }

def heap : Heap := #[]
def classes : Array Class := #[k0, k1, k2, k3, k4, k5, k6, k7, k8, k9, k10]
def interned : List (Array UInt16 × Addr) := []
def slotsUsed : Nat := 0
def theMethod : MethodId := ⟨1, 1⟩
def args0 : Array Value := #[.int 5, .int 7, .int 9]
def aboutOver (below : List Frame) : State where
  vm := { classes := classes, interned := interned.toArray }
  heap := heap
  slotsUsed := slotsUsed
  threads := #[{ frames := .invoking theMethod args0 :: below }]
def below0 : List Frame := [.native { method := ⟨0, 0⟩, args := #[] }]
def about1 : State := aboutOver below0
def p0 : Program := .bare "" "" ""
def e0 : Env := launch0.env 0 0 0
theorem w_frames : about1.frames = Frame.invoking theMethod args0 :: below0 := rfl
set_option maxRecDepth 65536 in
theorem w_args : argsFit about1.vm theMethod args0 = true := by decide +kernel
set_option maxRecDepth 65536 in
theorem w_heap : heapFits about1 = true := by decide +kernel
set_option maxRecDepth 65536 in
theorem w_runnable : about1.curStatus? = some .runnable := by decide +kernel
set_option maxRecDepth 65536 in
theorem w_alone : about1.alone = true := by decide +kernel
set_option maxRecDepth 65536 in
theorem w_named : about1.methodNamed? x = some theMethod := by decide +kernel
set_option maxRecDepth 65536 in
theorem w_hears : about1.hears theMethod below0 = true := by decide +kernel
set_option maxRecDepth 65536 in
theorem w_ripe : about1.ripe theMethod args0 below0 = true := by decide +kernel
theorem w_running : about1.status = .running := rfl
set_option maxRecDepth 65536 in
theorem w_room : about1.hasRoom e0.platform room_1 = true :=
  launch0.hasRoom_least _ room_1 (by decide +kernel) (by decide +kernel) (by decide +kernel) (by decide +kernel) (by decide +kernel) (by decide +kernel)
theorem allAtoms_all (ts : List Jvm.Cond) (a : Array Jvm.Value) (st : Jvm.State) : (allAtoms ts).before a st = ts.all (fun c => c.before a st) := by
  induction ts with
  | nil => rfl
  | cons c t ih =>
    show (Jvm.Cond.and c (allAtoms t)).before a st = _
    rw [Jvm.Cond.before_and, ih, List.all_cons]
def words1 : List Jvm.Cond := Jvm.Cond.code x code maxLocals ret :: tables_1
/-- a 'code' word, met by the world's own term for the bytes: nothing is compared byte by byte -/
theorem code_word {y : MethodName} {bytes : ByteArray} {mx : Nat} {rt : Option FieldType} {a : Array Value} {s : State} {m : MethodId} {meth : Method} {c : Code} (h1 : s.methodNamed? y = some m) (h2 : s.vm.method? m = some meth) (h3 : meth.code = some c) (h4 : c.code = bytes)
    (h5 : (c.maxLocals == mx && c.exceptionTable.isEmpty && decide (c.maxStack ≤ mostOperands) && decide (meth.sig.returnType = rt) && !meth.locks && decide (parseMethodDescriptor y.desc = some meth.sig)) = true) : (Jvm.Cond.code y bytes mx rt).before a s = true := by
  simp only [Bool.and_eq_true, beq_iff_eq, Bool.not_eq_true', decide_eq_true_eq] at h5
  obtain ⟨⟨⟨⟨⟨g1, g2⟩, g3⟩, g4⟩, g5⟩, g6⟩ := h5
  simp [Cond.before, Cond.holds, Cond.value, h1, h2, h3, h4, g1, g2, g3, g4, g5, g6]
def isCode : Jvm.Cond → Bool
  | .code _ _ _ _ => true
  | _ => false
theorem all_split {L : List Jvm.Cond} {P : Jvm.Cond → Bool} (h1 : L.all (fun c => isCode c || P c) = true) (h2 : ∀ c ∈ L.filter isCode, P c = true) : L.all P = true := by
  refine List.all_eq_true.mpr fun c hc => ?_
  have h := List.all_eq_true.mp h1 c hc
  rcases Bool.eq_false_or_eq_true (isCode c) with hi | hi
  · exact h2 c (List.mem_filter.mpr ⟨hc, hi⟩)
  · simpa [hi] using h
set_option maxRecDepth 65536 in
theorem w_c0 : (Jvm.Cond.code x code maxLocals ret).before args0 about1 = true := code_word (m := ⟨1, 1⟩) (meth := k1m1) (c := k1c1) (by decide +kernel) rfl rfl rfl (by decide +kernel)
set_option maxRecDepth 65536 in
theorem w_c1 : (Jvm.Cond.code ({ cls := "java/lang/Math", name := "min", desc := "(II)I" } : Jvm.MethodName) jdk_29_method_69_code (2 : Nat) (Option.some Jvm.ClassFile.FieldType.int)).before args0 about1 = true := code_word (m := ⟨2, 2⟩) (meth := k2m2) (c := k2c2) (by decide +kernel) rfl rfl rfl (by decide +kernel)
set_option maxRecDepth 65536 in
theorem w_c2 : (Jvm.Cond.code ({ cls := "java/lang/Math", name := "max", desc := "(II)I" } : Jvm.MethodName) jdk_29_method_65_code (2 : Nat) (Option.some Jvm.ClassFile.FieldType.int)).before args0 about1 = true := code_word (m := ⟨2, 1⟩) (meth := k2m1) (c := k2c1) (by decide +kernel) rfl rfl rfl (by decide +kernel)
set_option maxRecDepth 65536 in
theorem w_c3 : (Jvm.Cond.code ({ cls := "io/sluicegate/io/HashRange", name := "<init>", desc := "(II)V" } : Jvm.MethodName) prog_6_method_1_code (3 : Nat) (Option.none : Option Jvm.ClassFile.FieldType)).before args0 about1 = true := code_word (m := ⟨4, 0⟩) (meth := k4m0) (c := k4c0) (by decide +kernel) rfl rfl rfl (by decide +kernel)
set_option maxRecDepth 65536 in
theorem w_c4 : (Jvm.Cond.code ({ cls := "java/lang/Record", name := "<init>", desc := "()V" } : Jvm.MethodName) jdk_30_method_1_code (1 : Nat) (Option.none : Option Jvm.ClassFile.FieldType)).before args0 about1 = true := code_word (m := ⟨3, 0⟩) (meth := k3m0) (c := k3c0) (by decide +kernel) rfl rfl rfl (by decide +kernel)
set_option maxRecDepth 65536 in
theorem w_c5 : (Jvm.Cond.code ({ cls := "java/lang/Object", name := "<init>", desc := "()V" } : Jvm.MethodName) object_method_1_code (1 : Nat) (Option.none : Option Jvm.ClassFile.FieldType)).before args0 about1 = true := code_word (m := ⟨0, 0⟩) (meth := k0m0) (c := k0c0) (by decide +kernel) rfl rfl rfl (by decide +kernel)
set_option maxRecDepth 65536 in
theorem w_c6 : (Jvm.Cond.code ({ cls := "io/sluicegate/io/HashRange", name := "covers", desc := "(I)Z" } : Jvm.MethodName) prog_6_method_4_code (2 : Nat) (Option.some Jvm.ClassFile.FieldType.boolean)).before args0 about1 = true := code_word (m := ⟨4, 1⟩) (meth := k4m1) (c := k4c1) (by decide +kernel) rfl rfl rfl (by decide +kernel)
def codes1 : List Jvm.Cond := [Jvm.Cond.code x code maxLocals ret, Jvm.Cond.code ({ cls := "java/lang/Math", name := "min", desc := "(II)I" } : Jvm.MethodName) jdk_29_method_69_code (2 : Nat) (Option.some Jvm.ClassFile.FieldType.int), Jvm.Cond.code ({ cls := "java/lang/Math", name := "max", desc := "(II)I" } : Jvm.MethodName) jdk_29_method_65_code (2 : Nat) (Option.some Jvm.ClassFile.FieldType.int), Jvm.Cond.code ({ cls := "io/sluicegate/io/HashRange", name := "<init>", desc := "(II)V" } : Jvm.MethodName) prog_6_method_1_code (3 : Nat) (Option.none : Option Jvm.ClassFile.FieldType), Jvm.Cond.code ({ cls := "java/lang/Record", name := "<init>", desc := "()V" } : Jvm.MethodName) jdk_30_method_1_code (1 : Nat) (Option.none : Option Jvm.ClassFile.FieldType), Jvm.Cond.code ({ cls := "java/lang/Object", name := "<init>", desc := "()V" } : Jvm.MethodName) object_method_1_code (1 : Nat) (Option.none : Option Jvm.ClassFile.FieldType), Jvm.Cond.code ({ cls := "io/sluicegate/io/HashRange", name := "covers", desc := "(I)Z" } : Jvm.MethodName) prog_6_method_4_code (2 : Nat) (Option.some Jvm.ClassFile.FieldType.boolean)]
set_option maxRecDepth 65536 in
theorem codes_eq : words1.filter isCode = codes1 := rfl
theorem w_codes : ∀ c ∈ words1.filter isCode, c.before args0 about1 = true := by
  rw [codes_eq]
  intro c hc
  simp only [codes1, List.mem_cons, List.not_mem_nil, or_false] at hc
  rcases hc with rfl | rfl | rfl | rfl | rfl | rfl | rfl
  · exact w_c0
  · exact w_c1
  · exact w_c2
  · exact w_c3
  · exact w_c4
  · exact w_c5
  · exact w_c6
set_option maxRecDepth 65536 in
theorem w_t1 : (words1.take 24).all (fun c => isCode c || c.before args0 about1) = true := by decide +kernel
set_option maxRecDepth 65536 in
theorem w_t2 : (words1.drop 24).all (fun c => isCode c || c.before args0 about1) = true := by decide +kernel
theorem w_tables : (allAtoms (Jvm.Cond.code x code maxLocals ret :: tables_1)).before args0 about1 = true := by
  rw [allAtoms_all]
  show words1.all (fun c => c.before args0 about1) = true
  refine all_split ?_ w_codes
  rw [← List.take_append_drop 24 words1, List.all_append, w_t1, w_t2]
  rfl
set_option maxRecDepth 65536 in
theorem w_case : (Jvm.Cond.and given_1 narrow_1).before args0 about1 = true := by decide +kernel
theorem w_applies : (headSpec (Jvm.Cond.code x code maxLocals ret :: tables_1) room_1).applies x e0.platform about1 = true :=
  (Spec.applies_iff w_frames).mpr ⟨w_running, w_runnable, w_alone, w_named, w_hears, w_ripe, w_room, w_tables⟩
theorem atStart : AtStart classFile x code maxLocals ret World_1 tables_1 room_1 Calls_1 rest_1 Pre_1 launch0 p0 e0 about1 theMethod args0 below0 :=
  ⟨lists_1, trivial, launch0.admits_env _ _ _, launch0.least_env, fairChoices_fair.cas, fairChoices_fair.clock, w_frames, w_args, w_heap, w_applies, trivial, trivial, w_case⟩
end start1
theorem witness_1 : WitnessClaimed_1 := ⟨start1.p0, start1.e0, start1.about1, start1.theMethod, start1.args0, start1.below0, start1.atStart⟩
end Jvm.Pilot.@@N@@
