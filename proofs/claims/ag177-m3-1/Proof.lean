import JvmDerived
import JvmDerived.Pilot.@@N@@Statement
import JvmDerived.Pilot.@@N@@Code
set_option linter.unusedVariables false
set_option linter.unusedSimpArgs false
@@BLOCK:NumsL.lean.txt@@
@@BLOCK:Masks.lean.txt@@
namespace Jvm.RoadKit
open Sem ClassFile Op Lib Jvm.Stand Jvm.Free Jvm.LawKit
section OwnGo
variable {p : Program} {l : Launch} {e : Env} {R : Room} {s : State} {m : MethodId} {args : Array Value} {below : List Frame} {meth : Method} {c : Code} {T : State} {locs : List Loc} {cells slots : Nat} {Z : State} {a0 : Array Value} {h : Heap}
/-- from A the run comes to an end of which P holds -/
def Go (p : Program) (e : Env) (below : List Frame) (P : State → Outcome → Prop) (A : State) : Prop := ∃ t o, Steps p.tables e below A t ∧ t.status = .running ∧ Ended t below o ∧ P t o
theorem Go.st {P : State → Outcome → Prop} {A B : State} (st : ∀ t, Steps p.tables e below A t → Steps p.tables e below B t) (k : Go p e below P A) : Go p e below P B := by
  obtain ⟨t, o, h1, h2⟩ := k
  exact ⟨t, o, st t h1, h2⟩
theorem Go.tr {P : State → Outcome → Prop} {A B : State} (st : Steps p.tables e below B A) (k : Go p e below P A) : Go p e below P B := Go.st (fun _ h => st.trans h) k
def Pst (s : State) (Q : Option Value → Heap → List Loc → Prop) (C S : Nat) : State → Outcome → Prop := fun t o => ∃ v L, o = .returned v ∧ Q v t.heap L ∧ FrameEnd s o t L C S
/-- a method's contract at the heap h0, for the arguments as -/
def Ct (l : Launch) (y : MethodName) (bytes : ByteArray) (maxL : Nat) (ret : Option FieldType) (ws : List Cond) (rm : Room) (Z : State) (as : Array Value) (h0 : Heap) (Q : Option Value → Heap → List Loc → Prop) : Prop :=
  MetFree l y (head1 (Cond.code y bytes maxL ret :: ws) rm) (fun a U => a = as ∧ Z.Warmed39 U.vm ∧ U.heap = h0) (fun _ _ _ _ _ => True) (fun _ U o U' => ∃ v L, o = .returned v ∧ Q v U'.heap L ∧ FrameEnd U o U' L rm.cells rm.slots)
theorem Ct.of {y : MethodName} {bytes : ByteArray} {maxL : Nat} {ret : Option FieldType} {ws : List Cond} {rm : Room} {as : Array Value} {h0 : Heap} {Q : Option Value → Heap → List Loc → Prop} {Ls : Array Slot}
    (hpl : plainFor y = true) (hef : ∀ m, entryFrame m as maxL = mkF m 0 Ls [])
    (body : ∀ (p : Program) (e : Env) (s : State) (m : MethodId) (below : List Frame) (meth : Method) (c : Code) (T : State), Stand p l e rm s m as below meth c T [] 0 0 → p.tables.exec = Jvm.exec → c.code = bytes → c.maxLocals = maxL → meth.sig.returnType = ret → meth.locks = false → s.vm.findClass y.cls = some m.cls → meth.name = y.name → Z.Warmed39 s.vm → T.heap = h0 →
      ∀ P : State → Outcome → Prop, P = Pst s Q rm.cells rm.slots → Go p e below P (T.setTop (mkF m 0 Ls []))) : Ct l y bytes maxL ret ws rm Z as h0 Q := by
  refine MetFree.of_bodySF hpl hisR ?_
  intro p e s m args below meth c s₁ Bd hml0 hP hK
  obtain ⟨rfl, hZ, hh⟩ := hP
  have X0 : Stand p l e rm s m args below meth c s₁ [] 0 0 := Stand.of_body Bd
  obtain ⟨t, o, h1, h2⟩ := body p e s m below meth c s₁ X0 Bd.exec Bd.bytes hml0 Bd.returns Bd.notSynchronized (findClass_of_methodNamed Bd.named) (name_of_methodNamed Bd.named Bd.method).1 hZ (by rw [← hh, Bd.state]; rfl) _ rfl
  exact ⟨t, o, castTop (hef m) h1, h2⟩
theorem goRet {t : FieldType} {i : Instr} {v w : Value} {pc : Nat} {Ls : Array Slot} {rest : List Value} {Q : Option Value → Heap → List Loc → Prop} {C S : Nat}
    (X : Stand p l e R s m args below meth c T locs cells slots) (hret : meth.sig.returnType = some t) (hlk : meth.locks = false)
    (st : ∀ {fs : List Frame}, (∀ (f : JFrame) (acts : List Action), f.method = m → f.locked = none → f.entered = [] → (doReturn e (T.setTop f) acts (some w)).1 = T.setFrames fs) → Steps p.tables e below (T.setTop (mkF m pc Ls (v :: rest))) (T.setFrames fs))
    (hc : cells ≤ C) (hs : slots ≤ S) (hQ : Q (some w) T.heap locs) : Go p e below (Pst s Q C S) (T.setTop (mkF m pc Ls (v :: rest))) := by
  obtain ⟨fs, hr, hrun, hended, hW, hsame⟩ := X.leave (v := some w) (fun h => by rw [hret] at h; cases h) hlk
  exact ⟨_, _, st hr, hrun, hended, _, _, rfl, hQ, ⟨_, rfl⟩, hW, hsame.mono hc hs⟩
theorem retI (X : Stand p l e R s m args below meth c T locs cells slots) (hx : p.tables.exec = Jvm.exec) {pc : Nat} {Ls : Array Slot} {z : Int32} {rest : List Value} (hret : meth.sig.returnType = some .int) (hd : decode c.code pc = .ok (.ireturn, 1)) {fs : List Frame}
    (hl : ∀ (f : JFrame) (acts : List Action), f.method = m → f.locked = none → f.entered = [] → (doReturn e (T.setTop f) acts (some (.int z))).1 = T.setFrames fs) : Steps p.tables e below (T.setTop (mkF m pc Ls (.int z :: rest))) (T.setFrames fs) :=
  retOut X hx hret rfl (Or.inl ⟨rfl, Or.inl rfl, z, rfl⟩) hd hl
theorem goI {pc : Nat} {Ls : Array Slot} {z : Int32} {rest : List Value} {Q : Option Value → Heap → List Loc → Prop} {C S : Nat} {P : State → Outcome → Prop}
    (X : Stand p l e R s m args below meth c T locs cells slots) (hx : p.tables.exec = Jvm.exec) (hret : meth.sig.returnType = some .int) (hlk : meth.locks = false) (hd : decode c.code pc = .ok (.ireturn, 1))
    (hP : P = Pst s Q C S) (hc : cells ≤ C) (hs : slots ≤ S) (hQ : Q (some (.int z)) T.heap locs) : Go p e below P (T.setTop (mkF m pc Ls (.int z :: rest))) := by
  subst hP
  exact goRet (i := .ireturn) X hret hlk (fun hr => retI X hx hret hd hr) hc hs hQ
theorem goN {pc : Nat} {Ls : Array Slot} {z : Int32} {t : FieldType} {rest : List Value} {Q : Option Value → Heap → List Loc → Prop} {C S : Nat} {P : State → Outcome → Prop}
    (X : Stand p l e R s m args below meth c T locs cells slots) (hx : p.tables.exec = Jvm.exec) (hret : meth.sig.returnType = some t) (ht : t = .boolean ∨ t = .byte ∨ t = .char ∨ t = .short) (hlk : meth.locks = false) (hd : decode c.code pc = .ok (.ireturn, 1))
    (hP : P = Pst s Q C S) (hc : cells ≤ C) (hs : slots ≤ S) (hQ : Q (some (.int (nar t z))) T.heap locs) : Go p e below P (T.setTop (mkF m pc Ls (.int z :: rest))) := by
  subst hP
  exact goRet (i := .ireturn) X hret hlk (fun hr => retN X hx hret ht hd hr) hc hs hQ
theorem goJ {pc : Nat} {Ls : Array Slot} {z : Int64} {rest : List Value} {Q : Option Value → Heap → List Loc → Prop} {C S : Nat} {P : State → Outcome → Prop}
    (X : Stand p l e R s m args below meth c T locs cells slots) (hx : p.tables.exec = Jvm.exec) (hret : meth.sig.returnType = some .long) (hlk : meth.locks = false) (hd : decode c.code pc = .ok (.lreturn, 1))
    (hP : P = Pst s Q C S) (hc : cells ≤ C) (hs : slots ≤ S) (hQ : Q (some (.long z)) T.heap locs) : Go p e below P (T.setTop (mkF m pc Ls (.long z :: rest))) := by
  subst hP
  exact goRet (i := .lreturn) X hret hlk (fun hr => retOut X hx hret rfl (Or.inr (Or.inl ⟨rfl, rfl, z, rfl⟩)) hd hr) hc hs hQ
theorem goA {pc : Nat} {Ls : Array Slot} {z : Addr} {t : FieldType} {rest : List Value} {Q : Option Value → Heap → List Loc → Prop} {C S : Nat} {P : State → Outcome → Prop}
    (X : Stand p l e R s m args below meth c T locs cells slots) (hx : p.tables.exec = Jvm.exec) (hret : meth.sig.returnType = some t) (ht : t.isReference = true) (hn : narrow t (.ref z) = .ref z) (hlk : meth.locks = false) (hd : decode c.code pc = .ok (.areturn, 1))
    (hP : P = Pst s Q C S) (hc : cells ≤ C) (hs : slots ≤ S) (hQ : Q (some (.ref z)) T.heap locs) : Go p e below P (T.setTop (mkF m pc Ls (.ref z :: rest))) := by
  subst hP
  exact goRet (i := .areturn) X hret hlk (fun hr => retOut X hx hret hn (Or.inr (Or.inr (Or.inr (Or.inr ⟨rfl, ht, rfl⟩)))) hd hr) hc hs hQ
theorem goV {pc : Nat} {Ls : Array Slot} {Q : Option Value → Heap → List Loc → Prop} {C S : Nat} {P : State → Outcome → Prop}
    (X : Stand p l e R s m args below meth c T locs cells slots) (hx : p.tables.exec = Jvm.exec) (hret : meth.sig.returnType = none) (hlk : meth.locks = false) (hd : decode c.code pc = .ok (.return_, 1))
    (hP : P = Pst s Q C S) (hc : cells ≤ C) (hs : slots ≤ S) (hQ : Q none T.heap locs) : Go p e below P (T.setTop (mkF m pc Ls [])) := by
  subst hP
  obtain ⟨fs, hr, hrun, hended, hW, hsame⟩ := X.leave (v := none) (fun _ => rfl) hlk
  exact ⟨_, _, X.returnOut hx hret hd hr, hrun, hended, _, _, rfl, hQ, ⟨_, rfl⟩, hW, hsame.mono hc hs⟩
/-- a static call by its contract -/
theorem callCt (X : Stand p l e R s m args below meth c T locs cells slots) (hx : p.tables.exec = Jvm.exec) (hZ : Z.Warmed39 s.vm) (eT : T.heap = h) {own : String} {index : Nat} {y : MethodName} {bytes : ByteArray} {maxL : Nat} {ret : Option FieldType} {rm : Room} {Q : Option Value → Heap → List Loc → Prop} {argsL rest : List Value}
    (hown : s.vm.findClass own = some m.cls) (w1 : (Cond.methodLink own index y).before a0 Z = true) (w2 : (Cond.static y).before a0 Z = true) (w3 : (Cond.initialized y.cls).before a0 Z = true) (w4 : (Cond.code y bytes maxL ret).before a0 Z = true)
    (hy : y.cls ≠ "java/lang/invoke/MethodHandle" ∧ y.cls ≠ "java/lang/invoke/VarHandle") (hM : Ct l y bytes maxL ret [] rm Z argsL.toArray h Q) {W : Nat} (hf : rm.frames + 1 ≤ R.frames) (hl : W + (maxL + 11) + rm.locals ≤ R.locals)
    {g : JFrame} (hg : g.method = m) (hsize : g.locals.size = c.maxLocals) (hlen : ∀ sig, parseMethodDescriptor y.desc = some sig → argsL.length = sig.parameters.length) (hstack : g.stack = argsL.reverse ++ rest) (hW : 2 * g.monitorRoom + (rest.map fun v => v.category).sum ≤ W)
    (hdg : decode c.code g.pc = .ok (.invokestatic index, 3)) (hc : cells + rm.cells ≤ R.cells) (hs : slots + rm.slots ≤ R.slots) :
    ∃ (v : Option Value) (T' : State) (L : List Loc), Stand p l e R s m args below meth c T' (locs ++ L) (cells + rm.cells) (slots + rm.slots) ∧ Q v T'.heap L ∧ ∀ target, Steps p.tables e below (T'.setTop { g with pc := g.pc + 3, stack := v.toList ++ rest }) target → Steps p.tables e below (T.setTop g) target := by
  subst eT
  obtain ⟨v, _, ⟨T', L', k', n'⟩, -, X', ⟨Lc, hQ, l18, y18, z18⟩, st⟩ := Jvm.LawKit.callS X hx (y := y) hown (mvT hZ w1) (mvT hZ w2) (mvT hZ w3) (mvT hZ w4) hy (backOf (W := W) hM hZ w4 w3 hf hl) hg hsize hlen hstack hW hdg (fun _ _ => ⟨rfl, rfl, hc, hs⟩)
  dsimp only [Pt.U, Pt.locs, Pt.cells, Pt.slots] at X' l18 y18 z18 st hQ
  subst l18 y18 z18
  exact ⟨v, T', Lc, X', hQ, st⟩
/-- a constructor by its contract -/
theorem callCtor (X : Stand p l e R s m args below meth c T locs cells slots) (hx : p.tables.exec = Jvm.exec) (hZ : Z.Warmed39 s.vm) (eT : T.heap = h) {own : String} {index : Nat} {y : MethodName} (hy1 : y.name = "<init>") {bytes : ByteArray} {maxL : Nat} {rm : Room} {Q : Option Value → Heap → List Loc → Prop} {a : Addr} {argsL rest : List Value}
    (hown : s.vm.findClass own = some m.cls) (w1 : (Cond.methodLink own index y).before a0 Z = true) (w2 : (Cond.instanceMethod y).before a0 Z = true) (w3 : (Cond.initialized y.cls).before a0 Z = true) (w4 : (Cond.code y bytes maxL none).before a0 Z = true)
    (hy : y.cls ≠ "java/lang/invoke/MethodHandle" ∧ y.cls ≠ "java/lang/invoke/VarHandle") (hM : Ct l y bytes maxL none [] rm Z (.ref a :: argsL).toArray h Q) {W : Nat} (hf : rm.frames + 1 ≤ R.frames) (hl : W + (maxL + 11) + rm.locals ≤ R.locals)
    {g : JFrame} (hg : g.method = m) (hsize : g.locals.size = c.maxLocals) (hlen : ∀ sig, parseMethodDescriptor y.desc = some sig → argsL.length = sig.parameters.length) (hstack : g.stack = argsL.reverse ++ .ref a :: rest) (hW : 2 * g.monitorRoom + (rest.map fun v => v.category).sum ≤ W)
    (hdg : decode c.code g.pc = .ok (.invokespecial index, 3)) (hc : cells + rm.cells ≤ R.cells) (hs : slots + rm.slots ≤ R.slots) :
    ∃ (v : Option Value) (T' : State) (L : List Loc), Stand p l e R s m args below meth c T' (locs ++ L) (cells + rm.cells) (slots + rm.slots) ∧ Q v T'.heap L ∧ ∀ target, Steps p.tables e below (T'.setTop { g with pc := g.pc + 3, stack := v.toList ++ rest }) target → Steps p.tables e below (T.setTop g) target := by
  subst eT
  obtain ⟨v, _, ⟨T', L', k', n'⟩, -, X', ⟨Lc, hQ, l18, y18, z18⟩, st⟩ := X.specialBack hx (y := y) hy1 hown (mvT hZ w1) (mvT hZ w2) (mvT hZ w4) hy (backOf (W := W) hM hZ w4 w3 hf hl) hg hsize (Steps.refl _) hlen hstack hW hdg (fun _ _ => ⟨rfl, rfl, hc, hs⟩)
  dsimp only [Pt.U, Pt.locs, Pt.cells, Pt.slots] at X' l18 y18 z18 st hQ
  subst l18 y18 z18
  exact ⟨v, T', Lc, X', hQ, fun _ k => st.trans k⟩
/-- an instance method that its own class selects, by its contract -/
theorem callCv (X : Stand p l e R s m args below meth c T locs cells slots) (hx : p.tables.exec = Jvm.exec) (hZ : Z.Warmed39 s.vm) (eT : T.heap = h) {own : String} {index : Nat} {y : MethodName} {bytes : ByteArray} {maxL : Nat} {ret : Option FieldType} {rm : Room} {Q : Option Value → Heap → List Loc → Prop} {a : Addr} {argsL rest : List Value}
    (hown : s.vm.findClass own = some m.cls) (w1 : (Cond.methodLink own index y).before a0 Z = true) (w5 : (Cond.declares y).before a0 Z = true) (w6 : (Cond.selects y.cls y y).before a0 Z = true) (w2 : (Cond.instanceMethod y).before a0 Z = true) (w3 : (Cond.initialized y.cls).before a0 Z = true) (w4 : (Cond.code y bytes maxL ret).before a0 Z = true)
    (hy : y.cls ≠ "java/lang/invoke/MethodHandle" ∧ y.cls ≠ "java/lang/invoke/VarHandle") (E : Exa Z h a y.cls) (hM : Ct l y bytes maxL ret [] rm Z (.ref a :: argsL).toArray h Q) {W : Nat} (hf : rm.frames + 1 ≤ R.frames) (hl : W + (maxL + 11) + rm.locals ≤ R.locals)
    {g : JFrame} (hg : g.method = m) (hsize : g.locals.size = c.maxLocals) (hlen : ∀ sig, parseMethodDescriptor y.desc = some sig → argsL.length = sig.parameters.length) (hstack : g.stack = argsL.reverse ++ .ref a :: rest) (hW : 2 * g.monitorRoom + (rest.map fun v => v.category).sum ≤ W)
    (hdg : decode c.code g.pc = .ok (.invokevirtual index, 3)) (hc : cells + rm.cells ≤ R.cells) (hs : slots + rm.slots ≤ R.slots) :
    ∃ (v : Option Value) (T' : State) (L : List Loc), Stand p l e R s m args below meth c T' (locs ++ L) (cells + rm.cells) (slots + rm.slots) ∧ Q v T'.heap L ∧ ∀ target, Steps p.tables e below (T'.setTop { g with pc := g.pc + 3, stack := v.toList ++ rest }) target → Steps p.tables e below (T.setTop g) target := by
  subst eT
  obtain ⟨cq, kq, qa, qb, qc⟩ := isOf hZ rfl E
  obtain ⟨v, _, ⟨T', L', k', n'⟩, -, X', ⟨Lc, hQ, l18, y18, z18⟩, st⟩ := X.virtualBack hx (y := y) (z := y) hown (mvT hZ w1) (mvT hZ w5) (notFace_of_selects (args := #[]) (mvT hZ w6)) (mvT hZ w6) (mvT hZ w2) hy (backOf (W := W) hM hZ w4 w3 hf hl) qa qc hg hsize (Steps.refl _) hlen hstack hW hdg (fun _ _ => ⟨rfl, rfl, hc, hs⟩)
  dsimp only [Pt.U, Pt.locs, Pt.cells, Pt.slots] at X' l18 y18 z18 st hQ
  subst l18 y18 z18
  exact ⟨v, T', Lc, X', hQ, fun _ k => st.trans k⟩
/-- a private instance method by its contract -/
theorem callCp (X : Stand p l e R s m args below meth c T locs cells slots) (hx : p.tables.exec = Jvm.exec) (hZ : Z.Warmed39 s.vm) (eT : T.heap = h) {own : String} {index : Nat} {y : MethodName} {bytes : ByteArray} {maxL k : Nat} {ret : Option FieldType} {rm : Room} {Q : Option Value → Heap → List Loc → Prop} {a : Addr} {argsL rest : List Value}
    (hown : s.vm.findClass own = some m.cls) (w1 : (Cond.methodLink own index y).before a0 Z = true) (w2 : (Cond.instanceMethod y).before a0 Z = true) (w7 : (Cond.privateMethod y).before a0 Z = true) (wi : (Cond.instantiable y.cls k).before a0 Z = true) (w3 : (Cond.initialized y.cls).before a0 Z = true) (w4 : (Cond.code y bytes maxL ret).before a0 Z = true)
    (hy : y.cls ≠ "java/lang/invoke/MethodHandle" ∧ y.cls ≠ "java/lang/invoke/VarHandle") (E : Exa Z h a y.cls) (hM : Ct l y bytes maxL ret [] rm Z (.ref a :: argsL).toArray h Q) {W : Nat} (hf : rm.frames + 1 ≤ R.frames) (hl : W + (maxL + 11) + rm.locals ≤ R.locals)
    {g : JFrame} (hg : g.method = m) (hsize : g.locals.size = c.maxLocals) (hlen : ∀ sig, parseMethodDescriptor y.desc = some sig → argsL.length = sig.parameters.length) (hstack : g.stack = argsL.reverse ++ .ref a :: rest) (hW : 2 * g.monitorRoom + (rest.map fun v => v.category).sum ≤ W)
    (hdg : decode c.code g.pc = .ok (.invokevirtual index, 3)) (hc : cells + rm.cells ≤ R.cells) (hs : slots + rm.slots ≤ R.slots) :
    ∃ (v : Option Value) (T' : State) (L : List Loc), Stand p l e R s m args below meth c T' (locs ++ L) (cells + rm.cells) (slots + rm.slots) ∧ Q v T'.heap L ∧ ∀ target, Steps p.tables e below (T'.setTop { g with pc := g.pc + 3, stack := v.toList ++ rest }) target → Steps p.tables e below (T.setTop g) target := by
  subst eT
  obtain ⟨cq, q1, q2⟩ := E.cell
  have hpriv : s.PrivateAt y := Cond.privateMethod_at (mvP hZ w7 (args := #[]))
  obtain ⟨cc, kk, i1, i2, -, i4, -⟩ := Cond.instantiable_spec (mvT (args := args) hZ wi)
  have hni : kk.isInterface = false := by simp only [Bool.or_eq_false_iff] at i4; exact i4.1
  have hsel := selects_self_of_private (args := args) i1 i2 hni hpriv (mvT hZ w2) hy
  obtain ⟨v, _, ⟨T', L', k', n'⟩, -, X', ⟨Lc, hQ, l18, y18, z18⟩, st⟩ := X.privateBack hx (y := y) hown (mvT hZ w1) (mvT hZ w2) hsel hpriv (mvT hZ w4) hy (backOf (W := W) hM hZ w4 w3 hf hl) hg hsize (Steps.refl _) q1 q2 hlen hstack hW hdg (fun _ _ => ⟨rfl, rfl, hc, hs⟩)
  dsimp only [Pt.U, Pt.locs, Pt.cells, Pt.slots] at X' l18 y18 z18 st hQ
  subst l18 y18 z18
  exact ⟨v, T', Lc, X', hQ, fun _ k => st.trans k⟩
end OwnGo
end Jvm.RoadKit
namespace Jvm.RoadKit
open Sem ClassFile Op Lib Jvm.Stand Jvm.Free Jvm.LawKit
section OwnAry
variable {p : Program} {l : Launch} {e : Env} {R : Room} {s : State} {m : MethodId} {args : Array Value} {below : List Frame} {meth : Method} {c : Code} {T : State} {locs : List Loc} {cells slots : Nat} {Z : State} {a0 : Array Value} {h h' : Heap} {a b : Addr} {ws : List Addr}
/-- the int j is the natural i -/
def IsN (j : Int32) (i : Nat) : Prop := ¬ j < 0 ∧ j.toNatClampNeg = i
def upd {α : Type} (f : Nat → α) (i : Nat) (x : α) : Nat → α := fun k => if k = i then x else f k
theorem upd_hit {α : Type} (f : Nat → α) (i : Nat) (x : α) : upd f i x i = x := if_pos rfl
theorem upd_miss {α : Type} {f : Nat → α} {i k : Nat} {x : α} (q : k ≠ i) : upd f i x k = f k := if_neg q
theorem isN_ofNat {n : Nat} (q : n < 2 ^ 31) : IsN (Int32.ofNat n) n := by
  have e : (Int32.ofNat n).toInt = n := len_toInt q
  exact ⟨by simp only [Int32.lt_iff_toInt_lt, e, Int32.reduceToInt]; omega, by simp only [Int32.toNatClampNeg, e]; omega⟩
theorem isN_of {j : Int32} {n : Nat} (q : j.toInt = n) : IsN j n :=
  ⟨by simp only [Int32.lt_iff_toInt_lt, q, Int32.reduceToInt]; omega, by simp only [Int32.toNatClampNeg, q]; omega⟩
theorem IsN.toInt {j : Int32} {n : Nat} (q : IsN j n) : j.toInt = n := by
  obtain ⟨q1, q2⟩ := q
  simp only [Int32.lt_iff_toInt_lt, Int32.reduceToInt, Int32.toNatClampNeg] at q1 q2; omega
/-- the array at a: of ty, n places; the place i holds mk (f i) -/
def Ary {α : Type} (Z : State) (h : Heap) (a : Addr) (ty : FieldType) (mk : α → Value) (n : Nat) (f : Nat → α) : Prop := ∃ c : Cell, Arr Z h a c ty ∧ c.slots.size = n ∧ n < 2 ^ 31 ∧ ∀ i, i < n → c.slots[i]? = some (mk (f i))
variable {α : Type} {ty : FieldType} {mk : α → Value} {n : Nat} {f f' : Nat → α}
theorem Ary.lt (V : Ary Z h a ty mk n f) : a < h.size := by obtain ⟨c, A, -⟩ := V; exact A.lt
theorem Ary.ext (V : Ary Z h a ty mk n f) (E : Ext h h') : Ary Z h' a ty mk n f := by obtain ⟨c, A, r⟩ := V; exact ⟨c, A.ext E, r⟩
theorem Ary.other {sl : Nat} {v : Value} (V : Ary Z h b ty mk n f) (W : Wr h h' a sl v) (q : b ≠ a) : Ary Z h' b ty mk n f := by obtain ⟨c, A, r⟩ := V; exact ⟨c, A.other W q, r⟩
theorem Ary.keep (V : Ary Z h a ty mk n f) (K : Keep h h' ws) (q : a ∉ ws) : Ary Z h' a ty mk n f := by obtain ⟨c, A, r⟩ := V; exact ⟨c, ⟨K.2.1 a c A.1 q, A.2⟩, r⟩
theorem Ary.congr (V : Ary Z h a ty mk n f) (q : ∀ i, i < n → f i = f' i) : Ary Z h a ty mk n f' := by
  obtain ⟨c, A, S, B, H⟩ := V; exact ⟨c, A, S, B, fun i hi => by rw [← q i hi]; exact H i hi⟩
theorem Ary.small (V : Ary Z h a ty mk n f) : n < 2 ^ 31 := by obtain ⟨c, A, S, B, H⟩ := V; exact B
theorem Ary.set {i : Nat} {x : α} (V : Ary Z h a ty mk n f) (W : Wr h h' a i (mk x)) : Ary Z h' a ty mk n (upd f i x) := by
  obtain ⟨c, A, S, B, H⟩ := V
  refine ⟨c.setSlot i (mk x), A.same W, by rw [sz_set]; exact S, B, fun k hk => ?_⟩
  by_cases e : k = i
  · subst e
    rw [upd_hit]
    exact Array.getElem?_setIfInBounds_self_of_lt (by omega)
  · rw [upd_miss e]
    exact (Array.getElem?_setIfInBounds_ne (Ne.symm e)).trans (H k hk)
theorem Ary.ne {C : String} {k : Nat} (V : Ary Z h a ty mk n f) (E : Exa Z h b C) (wi : (Cond.instantiable C k).before a0 Z = true) : b ≠ a := by
  obtain ⟨c, A, -⟩ := V; exact ne_arr E wi A
theorem Ary.new {k : ClassId} {z : Int32} {d : α} (A : Arr Z h a (newA k ty z) ty) (hz : IsN z n) (hd : defaultValue ty = mk d) : Ary Z h a ty mk n (fun _ => d) := by
  obtain ⟨h1, rfl⟩ := hz
  exact ⟨_, A, sz_new _ _ _, (back32 h1).2, fun i hi => by simp [newA, hi, hd]⟩
theorem aryLen (X : Stand p l e R s m args below meth c T locs cells slots) (hx : p.tables.exec = Jvm.exec) (hZ : Z.Warmed39 s.vm) (eT : T.heap = h) (V : Ary Z h a ty mk n f) {g : JFrame} (hg : g.method = m) {rest : List Value} (hs : g.stack = .ref a :: rest) (hd : decode c.code g.pc = .ok (.arraylength, 1)) :
    ∀ t, Steps p.tables e below (T.setTop { g with pc := g.pc + 1, stack := .int (Int32.ofNat n) :: rest }) t → Steps p.tables e below (T.setTop g) t := by
  obtain ⟨c', A, S, B, H⟩ := V
  intro t k
  exact X.arraylength hx (by rw [eT]; exact A.1) (State.isArrayOf_alike hZ.alike A.2.1) hg hs hd t (by rw [S]; exact k)
theorem aryLdI {f : Nat → Int32} (X : Stand p l e R s m args below meth c T locs cells slots) (hx : p.tables.exec = Jvm.exec) (hZ : Z.Warmed39 s.vm) (eT : T.heap = h) (V : Ary Z h a .int Value.int n f) {j : Int32} {i : Nat} (hj : IsN j i) (hi : i < n) {g : JFrame} (hg : g.method = m) {rest : List Value} (hs : g.stack = .int j :: .ref a :: rest) (hd : decode c.code g.pc = .ok (.iaload, 1)) :
    ∀ t, Steps p.tables e below (T.setTop { g with pc := g.pc + 1, stack := .int (f i) :: rest }) t → Steps p.tables e below (T.setTop g) t := by
  obtain ⟨c', A, S, B, H⟩ := V
  obtain ⟨h1, rfl⟩ := hj
  exact fun t k => X.iaload hx (by rw [eT]; exact A.1) (State.isArrayOf_alike hZ.alike A.2.1) A.2.2 (fun q => q.elim h1 (fun q => by omega)) (H _ hi) hg hs hd t k
theorem aryLdJ {f : Nat → Int64} (X : Stand p l e R s m args below meth c T locs cells slots) (hx : p.tables.exec = Jvm.exec) (hZ : Z.Warmed39 s.vm) (eT : T.heap = h) (V : Ary Z h a .long Value.long n f) {j : Int32} {i : Nat} (hj : IsN j i) (hi : i < n) {g : JFrame} (hg : g.method = m) {rest : List Value} (hs : g.stack = .int j :: .ref a :: rest) (hd : decode c.code g.pc = .ok (.laload, 1)) :
    ∀ t, Steps p.tables e below (T.setTop { g with pc := g.pc + 1, stack := .long (f i) :: rest }) t → Steps p.tables e below (T.setTop g) t := by
  obtain ⟨c', A, S, B, H⟩ := V
  obtain ⟨h1, rfl⟩ := hj
  exact fun t k => X.laload hx (by rw [eT]; exact A.1) (State.isArrayOf_alike hZ.alike A.2.1) A.2.2 (fun q => q.elim h1 (fun q => by omega)) (H _ hi) hg hs hd t k
theorem aryLdB {f : Nat → Int32} (X : Stand p l e R s m args below meth c T locs cells slots) (hx : p.tables.exec = Jvm.exec) (hZ : Z.Warmed39 s.vm) (eT : T.heap = h) (V : Ary Z h a .byte Value.int n f) {j : Int32} {i : Nat} (hj : IsN j i) (hi : i < n) {g : JFrame} (hg : g.method = m) {rest : List Value} (hs : g.stack = .int j :: .ref a :: rest) (hd : decode c.code g.pc = .ok (.baload, 1)) :
    ∀ t, Steps p.tables e below (T.setTop { g with pc := g.pc + 1, stack := .int (f i) :: rest }) t → Steps p.tables e below (T.setTop g) t := by
  obtain ⟨c', A, S, B, H⟩ := V
  obtain ⟨h1, rfl⟩ := hj
  exact fun t k => X.baloadBytes hx (by rw [eT]; exact A.1) (State.isArrayOf_alike hZ.alike A.2.1) A.2.2 (fun q => q.elim h1 (fun q => by omega)) (H _ hi) hg hs hd t k
theorem aryStI {f : Nat → Int32} (X : Stand p l e R s m args below meth c T locs cells slots) (hx : p.tables.exec = Jvm.exec) (hZ : Z.Warmed39 s.vm) (eT : T.heap = h) (V : Ary Z h a .int Value.int n f) {j x : Int32} {i : Nat} (hj : IsN j i) (hi : i < n) {g : JFrame} (hg : g.method = m) {rest : List Value} (hs : g.stack = .int x :: .int j :: .ref a :: rest) (hd : decode c.code g.pc = .ok (.iastore, 1)) :
    ∃ T' h', Stand p l e R s m args below meth c T' (locs ++ [⟨a, i⟩]) cells slots ∧ T'.heap = h' ∧ Wr h h' a i (.int x) ∧ Ary Z h' a .int Value.int n (upd f i x) ∧ ∀ target, Steps p.tables e below (T'.setTop { g with pc := g.pc + 1, stack := rest }) target → Steps p.tables e below (T.setTop g) target := by
  obtain ⟨c', A, S, B, H⟩ := id V
  obtain ⟨h1, rfl⟩ := hj
  obtain ⟨T', h', X', e', W', st⟩ := stI X hx hZ eT A (fun q => q.elim h1 (fun q => by omega)) hg hs hd
  exact ⟨T', h', X', e', W', V.set (mk := Value.int) W', st⟩
theorem aryStJ {f : Nat → Int64} (X : Stand p l e R s m args below meth c T locs cells slots) (hx : p.tables.exec = Jvm.exec) (hZ : Z.Warmed39 s.vm) (eT : T.heap = h) (V : Ary Z h a .long Value.long n f) {j : Int32} {x : Int64} {i : Nat} (hj : IsN j i) (hi : i < n) {g : JFrame} (hg : g.method = m) {rest : List Value} (hs : g.stack = .long x :: .int j :: .ref a :: rest) (hd : decode c.code g.pc = .ok (.lastore, 1)) :
    ∃ T' h', Stand p l e R s m args below meth c T' (locs ++ [⟨a, i⟩]) cells slots ∧ T'.heap = h' ∧ Wr h h' a i (.long x) ∧ Ary Z h' a .long Value.long n (upd f i x) ∧ ∀ target, Steps p.tables e below (T'.setTop { g with pc := g.pc + 1, stack := rest }) target → Steps p.tables e below (T.setTop g) target := by
  obtain ⟨c', A, S, B, H⟩ := id V
  obtain ⟨h1, rfl⟩ := hj
  obtain ⟨T', h', X', e', W', st⟩ := stJ X hx hZ eT A (fun q => q.elim h1 (fun q => by omega)) hg hs hd
  exact ⟨T', h', X', e', W', V.set (mk := Value.long) W', st⟩
theorem aryStB {f : Nat → Int32} (X : Stand p l e R s m args below meth c T locs cells slots) (hx : p.tables.exec = Jvm.exec) (hZ : Z.Warmed39 s.vm) (eT : T.heap = h) (V : Ary Z h a .byte Value.int n f) {j x : Int32} {i : Nat} (hj : IsN j i) (hi : i < n) {g : JFrame} (hg : g.method = m) {rest : List Value} (hs : g.stack = .int x :: .int j :: .ref a :: rest) (hd : decode c.code g.pc = .ok (.bastore, 1)) :
    ∃ T' h', Stand p l e R s m args below meth c T' (locs ++ [⟨a, i⟩]) cells slots ∧ T'.heap = h' ∧ Wr h h' a i (.int x.toInt8.toInt32) ∧ Ary Z h' a .byte Value.int n (upd f i x.toInt8.toInt32) ∧ ∀ target, Steps p.tables e below (T'.setTop { g with pc := g.pc + 1, stack := rest }) target → Steps p.tables e below (T.setTop g) target := by
  obtain ⟨c', A, S, B, H⟩ := id V
  obtain ⟨h1, rfl⟩ := hj
  obtain ⟨T', h', X', e', W', st⟩ := stB X hx hZ eT A (fun q => q.elim h1 (fun q => by omega)) hg hs hd
  exact ⟨T', h', X', e', W', V.set (mk := Value.int) W', st⟩
theorem aryStZ {f : Nat → Int32} (X : Stand p l e R s m args below meth c T locs cells slots) (hx : p.tables.exec = Jvm.exec) (hZ : Z.Warmed39 s.vm) (eT : T.heap = h) (V : Ary Z h a .boolean Value.int n f) {j x : Int32} {i : Nat} (hj : IsN j i) (hi : i < n) {g : JFrame} (hg : g.method = m) {rest : List Value} (hs : g.stack = .int x :: .int j :: .ref a :: rest) (hd : decode c.code g.pc = .ok (.bastore, 1)) :
    ∃ T' h', Stand p l e R s m args below meth c T' (locs ++ [⟨a, i⟩]) cells slots ∧ T'.heap = h' ∧ Wr h h' a i (.int (x &&& 1)) ∧ Ary Z h' a .boolean Value.int n (upd f i (x &&& 1)) ∧ ∀ target, Steps p.tables e below (T'.setTop { g with pc := g.pc + 1, stack := rest }) target → Steps p.tables e below (T.setTop g) target := by
  obtain ⟨c', A, S, B, H⟩ := id V
  obtain ⟨h1, rfl⟩ := hj
  obtain ⟨T', h', X', e', W', st⟩ := stZ X hx hZ eT A (fun q => q.elim h1 (fun q => by omega)) hg hs hd
  exact ⟨T', h', X', e', W', V.set (mk := Value.int) W', st⟩
end OwnAry
end Jvm.RoadKit
namespace Jvm.Kit
open Jvm.RoadKit
theorem own_gt (x y : Int64) : (0 : Int32) < lcmpW x y ↔ y.toInt < x.toInt := by
  rw [← Int64.lt_iff_toInt_lt]; unfold lcmpW
  by_cases h : y < x
  · simp [h]
  · by_cases h2 : x = y
    · subst h2; simp
    · simp [h, h2]
theorem own_lt (x y : Int64) : lcmpW x y < (0 : Int32) ↔ x.toInt < y.toInt := by
  have e : x.toInt < y.toInt ↔ ¬ y < x ∧ x ≠ y := by
    rw [Int64.lt_iff_toInt_lt, ne_eq, ← Int64.toInt_inj]; omega
  rw [e]; unfold lcmpW
  by_cases h : y < x
  · simp [h]
  · by_cases h2 : x = y
    · subst h2; simp
    · simp [h, h2]
theorem own_ceq (x y : Int64) : lcmpW x y = (0 : Int32) ↔ x = y := by
  unfold lcmpW
  by_cases h : y < x
  · simp [h]; intro q; subst q; exact absurd h (by simp)
  · by_cases h2 : x = y
    · subst h2; simp
    · simp [h, h2]
theorem own_lti {x : Int32} {r : Int32} {k : Int} (e : r.toInt = k) : x < r ↔ x.toInt < k := by rw [Int32.lt_iff_toInt_lt, e]
theorem own_gti {x : Int32} {r : Int32} {k : Int} (e : r.toInt = k) : r < x ↔ k < x.toInt := by rw [Int32.lt_iff_toInt_lt, e]
theorem own_m (a : Int32) : 0 ≤ (a &&& (2147483647 : Int32)).toInt := by
  have h := i32_and_bounds a (m := 2147483647) (by decide)
  rw [Kit.i32_nonneg] at h; exact h.1
theorem own_mk (a : Int32) {k : Int32} {n : Int} (hk : 0 ≤ k) (e : k.toInt = n) : 0 ≤ (a &&& k).toInt ∧ (a &&& k).toInt ≤ n := by
  have h := i32_and_bounds a hk
  rw [Kit.i32_nonneg, Int32.le_iff_toInt_le, e] at h; exact h
theorem own_rem {a b : Int32} (ha : 0 ≤ a.toInt) (hb : 0 < b.toInt) : 0 ≤ (a % b).toInt ∧ (a % b).toInt < b.toInt := by
  rw [i32_rem_nonneg ha]; exact ⟨Int.emod_nonneg _ (by omega), Int.emod_lt_of_pos _ hb⟩
theorem own_one : (1 : Int32).toInt = 1 := by decide
theorem own_zero : (0 : Int32).toInt = 0 := by decide
theorem own_zero64 : (0 : Int64).toInt = 0 := by decide
theorem own_one64 : (1 : Int64).toInt = 1 := by decide
theorem own_nz {a : Int32} (h : 0 < a.toInt) : a ≠ 0 := fun q => by rw [q] at h; exact absurd h (by decide)
end Jvm.Kit
namespace Jvm.Kit
theorem own_succ (i : Nat) : Int32.ofNat i + (1 : Int32) = Int32.ofNat (i + 1) := by rw [Int32.ofNat_add]; rfl
theorem own_tn {n : Nat} (q : n < 2 ^ 31) : (Int32.ofNat n).toInt = n := Jvm.RoadKit.len_toInt q
theorem own_ltN {i n : Nat} (hi : i < 2 ^ 31) (hn : n < 2 ^ 31) : Int32.ofNat i < Int32.ofNat n ↔ i < n := by
  rw [Int32.lt_iff_toInt_lt, own_tn hi, own_tn hn]; omega
theorem own_nat {j : Int32} (h : 0 ≤ j.toInt) : ∃ n : Nat, j = Int32.ofNat n ∧ n < 2 ^ 31 ∧ j.toInt = n := by
  have := j.toInt_lt
  have hn : j.toInt.toNat < 2 ^ 31 := by omega
  exact ⟨j.toInt.toNat, Int32.toInt_inj.mp (by rw [own_tn hn]; omega), hn, by omega⟩
end Jvm.Kit
namespace Jvm.Pilot.@@N@@
open Jvm Jvm.ClassFile Sem Op Lib Jvm.Free Jvm.Stand Jvm.LawKit Jvm.RoadKit Bundle Jvm.Pilot.@@N@@.Jvm.D
open Jvm.Kit
def own_tb (x : Int64) (t : Nat) : Bool := x.toBitVec.getLsbD t
theorem own_tb_out (x : Int64) {t : Nat} (h : 64 ≤ t) : own_tb x t = false := BitVec.getLsbD_of_ge _ _ h
theorem own_tb_and (x y : Int64) (t : Nat) : own_tb (x &&& y) t = (own_tb x t && own_tb y t) := by unfold own_tb; rw [Int64.toBitVec_and, BitVec.getLsbD_and]
theorem own_tb_or (x y : Int64) (t : Nat) : own_tb (x ||| y) t = (own_tb x t || own_tb y t) := by unfold own_tb; rw [Int64.toBitVec_or, BitVec.getLsbD_or]
theorem own_sh : ∀ n : Fin 64, (((Int32.ofNat n) &&& 0x3f).toInt64.toUInt64.toBitVec % 64#64).toNat = n := by decide +kernel
theorem own_tb_us (x : Int64) {n : Nat} (hn : n < 64) (t : Nat) : own_tb ((x.toUInt64 >>> ((Int32.ofNat n) &&& 0x3f).toInt64.toUInt64).toInt64) t = own_tb x (n + t) := by
  unfold own_tb
  rw [UInt64.toBitVec_toInt64, UInt64.toBitVec_shiftRight, Int64.toBitVec_toUInt64, BitVec.ushiftRight_eq', BitVec.getLsbD_ushiftRight]
  rw [show (((Int32.ofNat n) &&& 0x3f).toInt64.toUInt64.toBitVec % 64).toNat = n from own_sh ⟨n, hn⟩]
theorem own_shl : ∀ n : Fin 64, 0 < (n : Nat) → ((((-(Int32.ofNat n)) &&& 0x3f).toInt64.toBitVec.smod 64).toNat = 64 - (n : Nat)) := by decide +kernel
theorem own_tb_shl (x : Int64) {n : Nat} (hn : n < 64) (h0 : 0 < n) (t : Nat) : own_tb (x <<< ((-(Int32.ofNat n)) &&& 0x3f).toInt64) t = (decide (t < 64) && !decide (t < 64 - n) && own_tb x (t - (64 - n))) := by
  have e : (x <<< ((-(Int32.ofNat n)) &&& 0x3f).toInt64).toBitVec = x.toBitVec <<< (((-(Int32.ofNat n)) &&& 0x3f).toInt64.toBitVec.smod 64) := rfl
  unfold own_tb
  rw [e, BitVec.shiftLeft_eq', own_shl ⟨n, hn⟩ h0, BitVec.getLsbD_shiftLeft]
theorem own_and1 (z : Int64) : z &&& (1 : Int64) = 0 ↔ own_tb z 0 = false := by
  unfold own_tb
  constructor
  · intro h
    have h2 := congrArg (fun q : Int64 => q.toBitVec.getLsbD 0) h
    simpa [Int64.toBitVec_and, BitVec.getLsbD_and] using h2
  · intro h
    apply Int64.toBitVec_inj.mp
    rw [Int64.toBitVec_and]
    show z.toBitVec &&& 1#64 = 0#64
    rw [BitVec.and_one_eq_setWidth_ofBool_getLsbD, h]; rfl
theorem own_bit (z : Int64) {k : Nat} (hk : k < 64) : lcmpW (((z.toUInt64 >>> ((Int32.ofNat k) &&& 0x3f).toInt64.toUInt64).toInt64) &&& (1 : Int64)) (0 : Int64) = (0 : Int32) ↔ own_tb z k = false := by
  rw [own_ceq, own_and1, own_tb_us z hk, Nat.add_zero]
theorem own_ones : ∀ t : Fin 64, own_tb (-1) t = true := by decide +kernel
theorem own_div : ∀ b : Fin 256, (((Int32.ofNat b).toUInt32 >>> ((6 : Int32) &&& 31).toUInt32).toInt32) = Int32.ofNat ((b : Nat) / 64) := by decide +kernel
theorem own_mod : ∀ b : Fin 256, Int32.ofNat b &&& (63 : Int32) = Int32.ofNat ((b : Nat) % 64) := by decide +kernel
theorem own_63 (a : Int32) : ∃ k : Nat, a &&& (63 : Int32) = Int32.ofNat k ∧ k < 64 := by
  have h := own_mk a (k := 63) (n := 63) (by decide) (by decide)
  obtain ⟨n, e1, e2, e3⟩ := own_nat h.1
  exact ⟨n, e1, by omega⟩
theorem own_R (a : Int32) : ∃ R : Nat, (1 : Int32) + (a &&& (2147483647 : Int32)) % (192 : Int32) = Int32.ofNat R ∧ 1 ≤ R ∧ R ≤ 192 := by
  have q := own_rem (own_m a) (b := 192) (by decide)
  have e : (192 : Int32).toInt = 192 := by decide
  obtain ⟨n, e1, e2, e3⟩ := own_nat q.1
  exact ⟨n + 1, by rw [e1, Int32.add_comm, own_succ], by omega, by omega⟩
theorem own_B (a : Int32) {R : Nat} (h : 1 ≤ R) (h2 : R ≤ 192) : ∃ B : Nat, (a &&& (2147483647 : Int32)) % Int32.ofNat R = Int32.ofNat B ∧ B < R := by
  have q := own_rem (own_m a) (b := Int32.ofNat R) (by rw [own_tn (by omega)]; omega)
  rw [own_tn (by omega)] at q
  obtain ⟨n, e1, e2, e3⟩ := own_nat q.1
  exact ⟨n, e1, by omega⟩
def own_gt' (f : Nat → Int64) (n B k : Nat) : Bool := if B % 64 + k < 64 then own_tb (f (B / 64)) (B % 64 + k) else if B / 64 + 1 < n then own_tb (f (B / 64 + 1)) (B % 64 + k - 64) else false
theorem own_key {f g : Nat → Int64} {n R B K : Nat} (hn : (R + 63) / 64 = n) (hR : 1 ≤ R) (hB : B < R) (hK : K < 64) (hz : ∀ j, j < n → ∀ t, t < 64 → R ≤ 64 * j + t → own_tb (f j) t = false) (hf : ∀ j, j < n → g j = f j) :
    own_gt' f n B K = (decide (B + K < R) && own_tb (g ((B + K) / 64)) ((B + K) % 64)) := by
  unfold own_gt'
  by_cases h1 : B % 64 + K < 64
  · rw [if_pos h1]
    have e1 : (B + K) / 64 = B / 64 := by omega
    have e2 : (B + K) % 64 = B % 64 + K := by omega
    rw [e1, e2, hf _ (by omega)]
    by_cases h2 : B + K < R
    · simp [h2]
    · simp [h2]; exact hz _ (by omega) _ h1 (by omega)
  · rw [if_neg h1]
    have e1 : (B + K) / 64 = B / 64 + 1 := by omega
    have e2 : (B + K) % 64 = B % 64 + K - 64 := by omega
    rw [e1, e2]
    by_cases h3 : B / 64 + 1 < n
    · rw [if_pos h3, hf _ h3]
      by_cases h2 : B + K < R
      · simp [h2]
      · simp [h2]; exact hz _ h3 _ (by omega) (by omega)
    · rw [if_neg h3]
      have h2 : ¬ B + K < R := by omega
      simp [h2]
theorem own_len {R : Nat} (h : 1 ≤ R) (h2 : R ≤ 192) : (((Int32.ofNat R).toInt64 + (64 : Int64) - (1 : Int64)) / (64 : Int64)).toInt32 = Int32.ofNat ((R + 63) / 64) := by
  have : ∀ R : Fin 193, (((Int32.ofNat R).toInt64 + (64 : Int64) - (1 : Int64)) / (64 : Int64)).toInt32 = Int32.ofNat (((R : Nat) + 63) / 64) := by decide +kernel
  exact this ⟨R, by omega⟩
theorem d_prog_164_method_3_0 : decode prog_164_method_3_code 0 = .ok (.aload_n 0, 1) := by decide +kernel
theorem d_prog_164_method_3_1 : decode prog_164_method_3_code 1 = .ok (.invokespecial 13, 3) := by decide +kernel
theorem d_prog_164_method_3_4 : decode prog_164_method_3_code 4 = .ok (.iload_n 1, 1) := by decide +kernel
theorem d_prog_164_method_3_5 : decode prog_164_method_3_code 5 = .ok (.ifCond .ge 17, 3) := by decide +kernel
theorem d_prog_164_method_3_22 : decode prog_164_method_3_code 22 = .ok (.aload_n 0, 1) := by decide +kernel
theorem d_prog_164_method_3_23 : decode prog_164_method_3_code 23 = .ok (.iload_n 1, 1) := by decide +kernel
theorem d_prog_164_method_3_24 : decode prog_164_method_3_code 24 = .ok (.putfield 27, 3) := by decide +kernel
theorem d_prog_164_method_3_27 : decode prog_164_method_3_code 27 = .ok (.aload_n 0, 1) := by decide +kernel
theorem d_prog_164_method_3_28 : decode prog_164_method_3_code 28 = .ok (.aload_n 2, 1) := by decide +kernel
theorem d_prog_164_method_3_29 : decode prog_164_method_3_code 29 = .ok (.putfield 30, 3) := by decide +kernel
theorem d_prog_164_method_3_32 : decode prog_164_method_3_code 32 = .ok (.aload_n 0, 1) := by decide +kernel
theorem d_prog_164_method_3_33 : decode prog_164_method_3_code 33 = .ok (.iload_n 1, 1) := by decide +kernel
theorem d_prog_164_method_3_34 : decode prog_164_method_3_code 34 = .ok (.i2l, 1) := by decide +kernel
theorem d_prog_164_method_3_35 : decode prog_164_method_3_code 35 = .ok (.ldc2_w 36, 3) := by decide +kernel
theorem d_prog_164_method_3_38 : decode prog_164_method_3_code 38 = .ok (.ladd, 1) := by decide +kernel
theorem d_prog_164_method_3_39 : decode prog_164_method_3_code 39 = .ok (.lconst 1, 1) := by decide +kernel
theorem d_prog_164_method_3_40 : decode prog_164_method_3_code 40 = .ok (.lsub, 1) := by decide +kernel
theorem d_prog_164_method_3_41 : decode prog_164_method_3_code 41 = .ok (.ldc2_w 36, 3) := by decide +kernel
theorem d_prog_164_method_3_44 : decode prog_164_method_3_code 44 = .ok (.ldiv, 1) := by decide +kernel
theorem d_prog_164_method_3_45 : decode prog_164_method_3_code 45 = .ok (.l2i, 1) := by decide +kernel
theorem d_prog_164_method_3_46 : decode prog_164_method_3_code 46 = .ok (.newarray .long, 2) := by decide +kernel
theorem d_prog_164_method_3_48 : decode prog_164_method_3_code 48 = .ok (.putfield 38, 3) := by decide +kernel
theorem d_prog_164_method_3_51 : decode prog_164_method_3_code 51 = .ok (.return_, 1) := by decide +kernel
theorem pn_0 : plainName "com/example/numtrie/numtrie/index/RecordSet" = true := by first | (simp [plainName, overriddenIn]; done) | decide +kernel
theorem ef_rmI2 (m : MethodId) (a : Addr) (r : Int32) : entryFrame m #[(.ref a), (.int r), .null] 3 = mkF m 0 #[.val (.ref a), .val (.int r), .val .null] [] := by first | (simp [entryFrame, mkF, argsToLocals, Value.category]; done) | rfl
set_option maxRecDepth 65536 in
set_option maxHeartbeats 40000000 in
theorem rmI2 (l : Launch) (Z : State) (a0 : Array Value) (hw : ∀ d ∈ tables_1, d.before a0 Z = true) (a : Addr) (r : Int32) (R : Nat) (h0 : Heap) (n0 : Nat) (Z0 : n0 ≤ h0.size) (Ea : Exa Z h0 a "com/example/numtrie/numtrie/index/RecordSet") (Fr0 : Fld Z h0 a "com/example/numtrie/numtrie/index/RecordSet" "records" "I" (.int (0 : Int32))) (Fd0 : Fld Z h0 a "com/example/numtrie/numtrie/index/RecordSet" "reader" "Lcom/example/numtrie/numtrie/index/IndexReader;" .null) (Fw0 : Fld Z h0 a "com/example/numtrie/numtrie/index/RecordSet" "words" "[J" .null) (Ga : n0 ≤ a) (hr : r = Int32.ofNat R) (hR1 : 1 ≤ R) (hR2 : R ≤ 192) :
    Ct l (⟨"com/example/numtrie/numtrie/index/RecordSet", "<init>", "(ILcom/example/numtrie/numtrie/index/IndexReader;)V"⟩ : MethodName) prog_164_method_3_code 3 none [] ({ frames := 1, cells := 1, slots := 3, locals := 12 } : Room) Z #[(.ref a), (.int r), .null] h0 (fun v h L => v = none ∧ Fr n0 L ∧ Keep h0 h [a] ∧ Exa Z h a "com/example/numtrie/numtrie/index/RecordSet" ∧ ∃ t : Addr, Fld Z h a "com/example/numtrie/numtrie/index/RecordSet" "words" "[J" (.ref t) ∧ Ary Z h t .long Value.long ((R + 63) / 64) (fun _ => (0 : Int64)) ∧ n0 ≤ t ∧ h0.size ≤ t) := by
  refine Ct.of (plainFor_of_name pn_0) (fun m => ef_rmI2 m a r) ?_
  intro p e s m below meth c T0 X0 hx hby hml hret hlk hown hnm hZ e0 P hP
  subst hr
  refine Go.st (fun _ kt => XS.aloadN X0.here hx rfl (hb hby d_prog_164_method_3_0) rfl rfl kt) ?_
  show Go p e below P (T0.setTop (mkF m 1 #[.val (.ref a), .val (.int (Int32.ofNat R)), .val .null] [(.ref a)]))
  obtain ⟨T1, X1, e1, st1⟩ := initO X0 hx hZ hown (hw _ (List.mem_of_getElem? (i := 12) rfl)) (hw _ (List.mem_of_getElem? (i := 13) rfl)) (hw _ (List.mem_of_getElem? (i := 14) rfl)) e0 (g := (mkF m 1 #[.val (.ref a), .val (.int (Int32.ofNat R)), .val .null] [(.ref a)])) rfl (by rw [hml]; rfl) rfl (hb hby d_prog_164_method_3_1) (by decide) (W := 0) (by show 2 * 0 + _ ≤ _; exact Nat.le_of_eq rfl) (by decide)
  refine Go.st st1 ?_
  show Go p e below P (T1.setTop (mkF m 4 #[.val (.ref a), .val (.int (Int32.ofNat R)), .val .null] []))
  refine Go.st (fun _ kt => XS.iloadN X1.here hx rfl (hb hby d_prog_164_method_3_4) rfl (XS.ifYes X1.here hx rfl (pc0 := 5) (pc' := 22) rfl (hb hby d_prog_164_method_3_5) rfl ((if0 _ _).trans (flt (fun q => by rw [own_lti own_zero, own_tn (by omega)] at q; omega)).2.1) (by decide) (by decide) (XS.aloadN X1.here hx rfl (hb hby d_prog_164_method_3_22) rfl rfl (XS.iloadN X1.here hx rfl (hb hby d_prog_164_method_3_23) rfl kt)))) ?_
  show Go p e below P (T1.setTop (mkF m 24 #[.val (.ref a), .val (.int (Int32.ofNat R)), .val .null] [(.int (Int32.ofNat R)), (.ref a)]))
  obtain ⟨T2, h2, X2, e2, W2, st2⟩ := putF X1 hx hZ hown (host := "") (Or.inl (hw _ (List.mem_of_getElem? (i := 15) rfl))) Via.refl e1 Fr0 Ea (Or.inr ⟨(hw _ (List.mem_of_getElem? (i := 16) rfl)), rfl, hnm⟩) (hw _ (List.mem_of_getElem? (i := 4) rfl)) (ty := .int) (by decide) rfl rfl (g := (mkF m 24 #[.val (.ref a), .val (.int (Int32.ofNat R)), .val .null] [(.int (Int32.ofNat R)), (.ref a)])) rfl rfl (hb hby d_prog_164_method_3_24)
  have Fw2 := Fld.same W2 Fr0
  have K3 := Keep.wr (Keep.refl h0 [a]) W2 (Or.inl (List.mem_of_getElem? (i := 0) rfl))
  have Z4 : n0 ≤ h2.size := by rw [W2.size]; exact Z0
  have N5 := Fr.snoc X2 (Fr.nil n0) Ga
  refine Go.st st2 ?_
  show Go p e below P (T2.setTop (mkF m 27 #[.val (.ref a), .val (.int (Int32.ofNat R)), .val .null] []))
  refine Go.st (fun _ kt => XS.aloadN X2.here hx rfl (hb hby d_prog_164_method_3_27) rfl rfl (XS.aloadN X2.here hx rfl (hb hby d_prog_164_method_3_28) rfl rfl kt)) ?_
  show Go p e below P (T2.setTop (mkF m 29 #[.val (.ref a), .val (.int (Int32.ofNat R)), .val .null] [.null, (.ref a)]))
  have f7 := (Fd0.other W2 (Or.inr (slot_ne (Or.inr (hw _ (List.mem_of_getElem? (i := 18) rfl))) (Or.inr (hw _ (List.mem_of_getElem? (i := 16) rfl))) (by decide) (t := (.object "com/example/numtrie/numtrie/index/IndexReader")) (t' := .int) (by decide) (by decide))))
  have f8 := (Ea.wr W2)
  obtain ⟨T6, h6, X6, e6, W6, st6⟩ := putF X2 hx hZ hown (host := "") (Or.inl (hw _ (List.mem_of_getElem? (i := 17) rfl))) Via.refl e2 f7 f8 (Or.inr ⟨(hw _ (List.mem_of_getElem? (i := 18) rfl)), rfl, hnm⟩) (hw _ (List.mem_of_getElem? (i := 4) rfl)) (ty := (.object "com/example/numtrie/numtrie/index/IndexReader")) (by decide) rfl rfl (g := (mkF m 29 #[.val (.ref a), .val (.int (Int32.ofNat R)), .val .null] [.null, (.ref a)])) rfl rfl (hb hby d_prog_164_method_3_29)
  have Fw6 := Fld.same W6 f7
  have K9 := Keep.wr K3 W6 (Or.inl (List.mem_of_getElem? (i := 0) rfl))
  have Z10 : n0 ≤ h6.size := by rw [W6.size]; exact Z4
  have N11 := Fr.snoc X6 N5 Ga
  refine Go.st st6 ?_
  show Go p e below P (T6.setTop (mkF m 32 #[.val (.ref a), .val (.int (Int32.ofNat R)), .val .null] []))
  refine Go.st (fun _ kt => XS.aloadN X6.here hx rfl (hb hby d_prog_164_method_3_32) rfl rfl (XS.iloadN X6.here hx rfl (hb hby d_prog_164_method_3_33) rfl (XS.i2l X6.here hx rfl (hb hby d_prog_164_method_3_34) rfl (X6.ldc2Long hx hown (mvT hZ (hw _ (List.mem_of_getElem? (i := 19) rfl))) (g := (mkF m 35 #[.val (.ref a), .val (.int (Int32.ofNat R)), .val .null] [(.long ((Int32.ofNat R).toInt64)), (.ref a)])) rfl (hb hby d_prog_164_method_3_35) _ (XS.ladd X6.here hx rfl (hb hby d_prog_164_method_3_38) rfl (XS.lconst X6.here hx rfl (hb hby d_prog_164_method_3_39) (XS.lsub X6.here hx rfl (hb hby d_prog_164_method_3_40) rfl (X6.ldc2Long hx hown (mvT hZ (hw _ (List.mem_of_getElem? (i := 19) rfl))) (g := (mkF m 41 #[.val (.ref a), .val (.int (Int32.ofNat R)), .val .null] [(.long ((((Int32.ofNat R).toInt64) + (64 : Int64)) - (1 : Int64))), (.ref a)])) rfl (hb hby d_prog_164_method_3_41) _ kt)))))))) ?_
  show Go p e below P (T6.setTop (mkF m 44 #[.val (.ref a), .val (.int (Int32.ofNat R)), .val .null] [(.long (64 : Int64)), (.long ((((Int32.ofNat R).toInt64) + (64 : Int64)) - (1 : Int64))), (.ref a)]))
  refine Go.st (fun _ kt => XS.ldiv X6.here hx rfl (hb hby d_prog_164_method_3_44) rfl (by decide) (XS.l2i X6.here hx rfl (hb hby d_prog_164_method_3_45) rfl kt)) ?_
  show Go p e below P (T6.setTop (mkF m 46 #[.val (.ref a), .val (.int (Int32.ofNat R)), .val .null] [(.int ((((((Int32.ofNat R).toInt64) + (64 : Int64)) - (1 : Int64)) / (64 : Int64)).toInt32)), (.ref a)]))
  rw [own_len hR1 hR2]
  show Go p e below P (T6.setTop (mkF m 46 #[.val (.ref a), .val (.int (Int32.ofNat R)), .val .null] [(.int (Int32.ofNat ((R + 63) / 64))), (.ref a)]))
  have hz12 : IsN (Int32.ofNat ((R + 63) / 64)) ((R + 63) / 64) := (isN_ofNat (by omega))
  obtain ⟨T12, h12, k12, X12, e12, E12, A12, st12⟩ := newP X6 hx hZ (hw _ (List.mem_of_getElem? (i := 1) rfl)) e6 (g := (mkF m 46 #[.val (.ref a), .val (.int (Int32.ofNat R)), .val .null] [(.int (Int32.ofNat ((R + 63) / 64))), (.ref a)])) rfl (hb hby d_prog_164_method_3_46) rfl hz12.1 (cap := 3) (by rw [hz12.2]; exact (show (R + 63) / 64 ≤ 3 by omega)) (by decide) (by decide) (by decide)
  obtain ⟨b12, g12⟩ : ∃ z, z = h6.size := ⟨_, rfl⟩
  rw [← g12] at A12 st12
  have f14 := (f8.wr W6)
  have ne13 : a ≠ b12 := Nat.ne_of_lt (Nat.lt_of_lt_of_le f14.lt (Nat.le_of_eq g12.symm))
  have G12 : n0 ≤ b12 := Nat.le_trans Z10 (Nat.le_of_eq g12.symm)
  have SZ12 : h0.size ≤ b12 := Nat.le_trans K9.1 (Nat.le_of_eq g12.symm)
  have V12 : Ary Z h12 b12 .long Value.long ((R + 63) / 64) (fun _ => (0 : Int64)) := Ary.new A12 hz12 rfl
  have K15 := Keep.ext K9 E12
  have Z16 := Nat.le_trans Z10 E12.1
  refine Go.st st12 ?_
  show Go p e below P (T12.setTop (mkF m 48 #[.val (.ref a), .val (.int (Int32.ofNat R)), .val .null] [(.ref b12), (.ref a)]))
  have f18 := (((Fw0.other W2 (Or.inr (slot_ne (Or.inr (hw _ (List.mem_of_getElem? (i := 21) rfl))) (Or.inr (hw _ (List.mem_of_getElem? (i := 16) rfl))) (by decide) (t := (.array .long)) (t' := .int) (by decide) (by decide)))).other W6 (Or.inr (slot_ne (Or.inr (hw _ (List.mem_of_getElem? (i := 21) rfl))) (Or.inr (hw _ (List.mem_of_getElem? (i := 18) rfl))) (by decide) (t := (.array .long)) (t' := (.object "com/example/numtrie/numtrie/index/IndexReader")) (by decide) (by decide)))).ext E12)
  have f19 := (f14.ext E12)
  obtain ⟨T17, h17, X17, e17, W17, st17⟩ := putF X12 hx hZ hown (host := "") (Or.inl (hw _ (List.mem_of_getElem? (i := 20) rfl))) Via.refl e12 f18 f19 (Or.inr ⟨(hw _ (List.mem_of_getElem? (i := 21) rfl)), rfl, hnm⟩) (hw _ (List.mem_of_getElem? (i := 4) rfl)) (ty := (.array .long)) (by decide) rfl rfl (g := (mkF m 48 #[.val (.ref a), .val (.int (Int32.ofNat R)), .val .null] [(.ref b12), (.ref a)])) rfl rfl (hb hby d_prog_164_method_3_48)
  have Fw17 := Fld.same W17 f18
  have K20 := Keep.wr K15 W17 (Or.inl (List.mem_of_getElem? (i := 0) rfl))
  have Z21 : n0 ≤ h17.size := by rw [W17.size]; exact Z16
  have N22 := Fr.snoc X17 N11 Ga
  refine Go.st st17 ?_
  show Go p e below P (T17.setTop (mkF m 51 #[.val (.ref a), .val (.int (Int32.ofNat R)), .val .null] []))
  have f23 := (f19.wr W17)
  have f24 := (V12.other W17 (Ne.symm ne13))
  exact goV X17 hx hret hlk (hb hby d_prog_164_method_3_51) hP (by decide) (by decide) (by rw [e17]; exact ⟨rfl, N22, K20, f23, b12, Fw17, f24, G12, SZ12⟩)
theorem d_prog_164_method_1_0 : decode prog_164_method_1_code 0 = .ok (.aload_n 0, 1) := by decide +kernel
theorem d_prog_164_method_1_1 : decode prog_164_method_1_code 1 = .ok (.iload_n 1, 1) := by decide +kernel
theorem d_prog_164_method_1_2 : decode prog_164_method_1_code 2 = .ok (.aconst_null, 1) := by decide +kernel
theorem pd_1 : parseMethodDescriptor "(ILcom/example/numtrie/numtrie/index/IndexReader;)V" = some ⟨[.int, (.object "com/example/numtrie/numtrie/index/IndexReader")], none⟩ := by decide +kernel
theorem d_prog_164_method_1_3 : decode prog_164_method_1_code 3 = .ok (.invokespecial 1, 3) := by decide +kernel
theorem d_prog_164_method_1_6 : decode prog_164_method_1_code 6 = .ok (.return_, 1) := by decide +kernel
theorem ef_rmI (m : MethodId) (a : Addr) (r : Int32) : entryFrame m #[(.ref a), (.int r)] 2 = mkF m 0 #[.val (.ref a), .val (.int r)] [] := by first | (simp [entryFrame, mkF, argsToLocals, Value.category]; done) | rfl
set_option maxRecDepth 65536 in
set_option maxHeartbeats 40000000 in
theorem rmI (l : Launch) (Z : State) (a0 : Array Value) (hw : ∀ d ∈ tables_1, d.before a0 Z = true) (a : Addr) (r : Int32) (R : Nat) (h0 : Heap) (n0 : Nat) (Z0 : n0 ≤ h0.size) (Ea : Exa Z h0 a "com/example/numtrie/numtrie/index/RecordSet") (Fr0 : Fld Z h0 a "com/example/numtrie/numtrie/index/RecordSet" "records" "I" (.int (0 : Int32))) (Fd0 : Fld Z h0 a "com/example/numtrie/numtrie/index/RecordSet" "reader" "Lcom/example/numtrie/numtrie/index/IndexReader;" .null) (Fw0 : Fld Z h0 a "com/example/numtrie/numtrie/index/RecordSet" "words" "[J" .null) (Ga : n0 ≤ a) (hr : r = Int32.ofNat R) (hR1 : 1 ≤ R) (hR2 : R ≤ 192) :
    Ct l (⟨"com/example/numtrie/numtrie/index/RecordSet", "<init>", "(I)V"⟩ : MethodName) prog_164_method_1_code 2 none [] ({ frames := 2, cells := 1, slots := 3, locals := 26 } : Room) Z #[(.ref a), (.int r)] h0 (fun v h L => v = none ∧ Fr n0 L ∧ Keep h0 h [a] ∧ Exa Z h a "com/example/numtrie/numtrie/index/RecordSet" ∧ ∃ t : Addr, Fld Z h a "com/example/numtrie/numtrie/index/RecordSet" "words" "[J" (.ref t) ∧ Ary Z h t .long Value.long ((R + 63) / 64) (fun _ => (0 : Int64)) ∧ n0 ≤ t ∧ h0.size ≤ t) := by
  refine Ct.of (plainFor_of_name pn_0) (fun m => ef_rmI m a r) ?_
  intro p e s m below meth c T0 X0 hx hby hml hret hlk hown hnm hZ e0 P hP
  subst hr
  refine Go.st (fun _ kt => XS.aloadN X0.here hx rfl (hb hby d_prog_164_method_1_0) rfl rfl (XS.iloadN X0.here hx rfl (hb hby d_prog_164_method_1_1) rfl (XS.aconstNull X0.here hx rfl (hb hby d_prog_164_method_1_2) kt))) ?_
  show Go p e below P (T0.setTop (mkF m 3 #[.val (.ref a), .val (.int (Int32.ofNat R))] [.null, (.int (Int32.ofNat R)), (.ref a)]))
  obtain ⟨_, T1, Lc1, X1, ⟨rfl, Nq1, K1, Ei1, t, Fi1, Vi1, Gt1, Sz1⟩, st1⟩ := callCtor X0 hx hZ e0 (y := (⟨"com/example/numtrie/numtrie/index/RecordSet", "<init>", "(ILcom/example/numtrie/numtrie/index/IndexReader;)V"⟩ : MethodName)) rfl (a := a) (argsL := [(.int (Int32.ofNat R)), .null]) (rest := []) hown (hw _ (List.mem_of_getElem? (i := 9) rfl)) (hw _ (List.mem_of_getElem? (i := 10) rfl)) (hw _ (List.mem_of_getElem? (i := 5) rfl)) (hw _ (List.mem_of_getElem? (i := 11) rfl)) (by decide) (rmI2 l Z a0 hw a (Int32.ofNat R) R _ n0 Z0 Ea Fr0 Fd0 Fw0 Ga rfl hR1 hR2) (W := 0) (by decide) (by decide) (g := (mkF m 3 #[.val (.ref a), .val (.int (Int32.ofNat R))] [.null, (.int (Int32.ofNat R)), (.ref a)])) rfl (by rw [hml]; rfl) (lenOf pd_1 rfl) rfl (by show 2 * 0 + _ ≤ _; exact Nat.le_of_eq rfl) (hb hby d_prog_164_method_1_3) (by decide) (by decide)
  have N1 := Fr.app (Fr.nil n0) Nq1
  have K2 := Keep.trans (Keep.refl h0 [a]) K1 (allS (P := fun x => x ∈ [a] ∨ h0.size ≤ x) (Or.inl (List.mem_of_getElem? (i := 0) rfl)) all0)
  have Z3 := Nat.le_trans Z0 K1.1
  refine Go.st st1 ?_
  show Go p e below P (T1.setTop (mkF m 6 #[.val (.ref a), .val (.int (Int32.ofNat R))] []))
  exact goV X1 hx hret hlk (hb hby d_prog_164_method_1_6) hP (by decide) (by decide) ⟨rfl, N1, K2, Ei1, t, Fi1, Vi1, Gt1, Sz1⟩
theorem d_prog_164_method_11_0 : decode prog_164_method_11_code 0 = .ok (.iload_n 1, 1) := by decide +kernel
theorem d_prog_164_method_11_1 : decode prog_164_method_11_code 1 = .ok (.bipush 6, 2) := by decide +kernel
theorem d_prog_164_method_11_3 : decode prog_164_method_11_code 3 = .ok (.iushr, 1) := by decide +kernel
theorem d_prog_164_method_11_4 : decode prog_164_method_11_code 4 = .ok (.istore_n 2, 1) := by decide +kernel
theorem d_prog_164_method_11_5 : decode prog_164_method_11_code 5 = .ok (.iload_n 1, 1) := by decide +kernel
theorem d_prog_164_method_11_6 : decode prog_164_method_11_code 6 = .ok (.bipush 63, 2) := by decide +kernel
theorem d_prog_164_method_11_8 : decode prog_164_method_11_code 8 = .ok (.iand, 1) := by decide +kernel
theorem d_prog_164_method_11_9 : decode prog_164_method_11_code 9 = .ok (.istore_n 3, 1) := by decide +kernel
theorem d_prog_164_method_11_10 : decode prog_164_method_11_code 10 = .ok (.aload_n 0, 1) := by decide +kernel
theorem d_prog_164_method_11_11 : decode prog_164_method_11_code 11 = .ok (.getfield 38, 3) := by decide +kernel
theorem d_prog_164_method_11_14 : decode prog_164_method_11_code 14 = .ok (.iload_n 2, 1) := by decide +kernel
theorem d_prog_164_method_11_15 : decode prog_164_method_11_code 15 = .ok (.laload, 1) := by decide +kernel
theorem d_prog_164_method_11_16 : decode prog_164_method_11_code 16 = .ok (.iload_n 3, 1) := by decide +kernel
theorem d_prog_164_method_11_17 : decode prog_164_method_11_code 17 = .ok (.lushr, 1) := by decide +kernel
theorem d_prog_164_method_11_18 : decode prog_164_method_11_code 18 = .ok (.lstore 4, 2) := by decide +kernel
theorem d_prog_164_method_11_20 : decode prog_164_method_11_code 20 = .ok (.iload_n 3, 1) := by decide +kernel
theorem d_prog_164_method_11_21 : decode prog_164_method_11_code 21 = .ok (.ifCond .le 30, 3) := by decide +kernel
theorem d_prog_164_method_11_24 : decode prog_164_method_11_code 24 = .ok (.iload_n 2, 1) := by decide +kernel
theorem d_prog_164_method_11_25 : decode prog_164_method_11_code 25 = .ok (.iconst 1, 1) := by decide +kernel
theorem d_prog_164_method_11_26 : decode prog_164_method_11_code 26 = .ok (.iadd, 1) := by decide +kernel
theorem d_prog_164_method_11_27 : decode prog_164_method_11_code 27 = .ok (.aload_n 0, 1) := by decide +kernel
theorem d_prog_164_method_11_28 : decode prog_164_method_11_code 28 = .ok (.getfield 38, 3) := by decide +kernel
theorem d_prog_164_method_11_31 : decode prog_164_method_11_code 31 = .ok (.arraylength, 1) := by decide +kernel
theorem d_prog_164_method_11_32 : decode prog_164_method_11_code 32 = .ok (.if_icmp .ge 19, 3) := by decide +kernel
theorem d_prog_164_method_11_35 : decode prog_164_method_11_code 35 = .ok (.lload 4, 2) := by decide +kernel
theorem d_prog_164_method_11_37 : decode prog_164_method_11_code 37 = .ok (.aload_n 0, 1) := by decide +kernel
theorem d_prog_164_method_11_38 : decode prog_164_method_11_code 38 = .ok (.getfield 38, 3) := by decide +kernel
theorem d_prog_164_method_11_41 : decode prog_164_method_11_code 41 = .ok (.iload_n 2, 1) := by decide +kernel
theorem d_prog_164_method_11_42 : decode prog_164_method_11_code 42 = .ok (.iconst 1, 1) := by decide +kernel
theorem d_prog_164_method_11_43 : decode prog_164_method_11_code 43 = .ok (.iadd, 1) := by decide +kernel
theorem d_prog_164_method_11_44 : decode prog_164_method_11_code 44 = .ok (.laload, 1) := by decide +kernel
theorem d_prog_164_method_11_45 : decode prog_164_method_11_code 45 = .ok (.iload_n 3, 1) := by decide +kernel
theorem d_prog_164_method_11_46 : decode prog_164_method_11_code 46 = .ok (.ineg, 1) := by decide +kernel
theorem d_prog_164_method_11_47 : decode prog_164_method_11_code 47 = .ok (.lshl, 1) := by decide +kernel
theorem d_prog_164_method_11_48 : decode prog_164_method_11_code 48 = .ok (.lor, 1) := by decide +kernel
theorem d_prog_164_method_11_49 : decode prog_164_method_11_code 49 = .ok (.lstore 4, 2) := by decide +kernel
theorem d_prog_164_method_11_51 : decode prog_164_method_11_code 51 = .ok (.lload 4, 2) := by decide +kernel
theorem d_prog_164_method_11_53 : decode prog_164_method_11_code 53 = .ok (.lreturn, 1) := by decide +kernel
theorem ef_rmW (m : MethodId) (a : Addr) (bb : Int32) : entryFrame m #[(.ref a), (.int bb)] 6 = mkF m 0 #[.val (.ref a), .val (.int bb), .unset, .unset, .unset, .unset] [] := by first | (simp [entryFrame, mkF, argsToLocals, Value.category]; done) | rfl
set_option maxRecDepth 65536 in
set_option maxHeartbeats 40000000 in
theorem rmW (l : Launch) (Z : State) (a0 : Array Value) (hw : ∀ d ∈ tables_1, d.before a0 Z = true) (a : Addr) (bb : Int32) (t : Addr) (n B : Nat) (f : Nat → Int64) (h0 : Heap) (n0 : Nat) (Z0 : n0 ≤ h0.size) (Fw : Fld Z h0 a "com/example/numtrie/numtrie/index/RecordSet" "words" "[J" (.ref t)) (Vt : Ary Z h0 t .long Value.long n f) (hb : bb = Int32.ofNat B) (hn : n ≤ 3) (hB : B / 64 < n) :
    Ct l (⟨"com/example/numtrie/numtrie/index/RecordSet", "wordFrom", "(I)J"⟩ : MethodName) prog_164_method_11_code 6 (some .long) [] ({ frames := 0, cells := 0, slots := 0, locals := 0 } : Room) Z #[(.ref a), (.int bb)] h0 (fun v h L => ∃ g : Int64, v = some (.long g) ∧ Fr n0 L ∧ h = h0 ∧ ∀ k, k < 64 → own_tb g k = own_gt' f n B k) := by
  refine Ct.of (plainFor_of_name pn_0) (fun m => ef_rmW m a bb) ?_
  intro p e s m below meth c T0 X0 hx hby hml hret hlk hown hnm hZ e0 P hP
  subst hb
  refine Go.st (fun _ kt => XS.iloadN X0.here hx rfl (hb hby d_prog_164_method_11_0) rfl (XS.bipush X0.here hx rfl (hb hby d_prog_164_method_11_1) (XS.iushr X0.here hx rfl (hb hby d_prog_164_method_11_3) rfl kt))) ?_
  show Go p e below P (T0.setTop (mkF m 4 #[.val (.ref a), .val (.int (Int32.ofNat B)), .unset, .unset, .unset, .unset] [(.int (((Int32.ofNat B).toUInt32 >>> ((6 : Int32) &&& 31).toUInt32).toInt32))]))
  rw [own_div ⟨B, by omega⟩]
  show Go p e below P (T0.setTop (mkF m 4 #[.val (.ref a), .val (.int (Int32.ofNat B)), .unset, .unset, .unset, .unset] [(.int (Int32.ofNat (B / 64)))]))
  refine Go.st (fun _ kt => XS.istoreN X0.here hx rfl (hb hby d_prog_164_method_11_4) rfl (l' := #[.val (.ref a), .val (.int (Int32.ofNat B)), .val (.int (Int32.ofNat (B / 64))), .unset, .unset, .unset]) rfl (XS.iloadN X0.here hx rfl (hb hby d_prog_164_method_11_5) rfl (XS.bipush X0.here hx rfl (hb hby d_prog_164_method_11_6) (XS.iand X0.here hx rfl (hb hby d_prog_164_method_11_8) rfl kt)))) ?_
  show Go p e below P (T0.setTop (mkF m 9 #[.val (.ref a), .val (.int (Int32.ofNat B)), .val (.int (Int32.ofNat (B / 64))), .unset, .unset, .unset] [(.int ((Int32.ofNat B) &&& (63 : Int32)))]))
  rw [own_mod ⟨B, by omega⟩]
  show Go p e below P (T0.setTop (mkF m 9 #[.val (.ref a), .val (.int (Int32.ofNat B)), .val (.int (Int32.ofNat (B / 64))), .unset, .unset, .unset] [(.int (Int32.ofNat (B % 64)))]))
  refine Go.st (fun _ kt => XS.istoreN X0.here hx rfl (hb hby d_prog_164_method_11_9) rfl (l' := #[.val (.ref a), .val (.int (Int32.ofNat B)), .val (.int (Int32.ofNat (B / 64))), .val (.int (Int32.ofNat (B % 64))), .unset, .unset]) rfl (XS.aloadN X0.here hx rfl (hb hby d_prog_164_method_11_10) rfl rfl kt)) ?_
  show Go p e below P (T0.setTop (mkF m 11 #[.val (.ref a), .val (.int (Int32.ofNat B)), .val (.int (Int32.ofNat (B / 64))), .val (.int (Int32.ofNat (B % 64))), .unset, .unset] [(.ref a)]))
  obtain ⟨T1, X1, e1, st1⟩ := getF X0 hx hZ hown (host := "") (Or.inl (hw _ (List.mem_of_getElem? (i := 20) rfl))) Via.refl e0 Fw (g := (mkF m 11 #[.val (.ref a), .val (.int (Int32.ofNat B)), .val (.int (Int32.ofNat (B / 64))), .val (.int (Int32.ofNat (B % 64))), .unset, .unset] [(.ref a)])) rfl rfl (hb hby d_prog_164_method_11_11)
  refine Go.st st1 ?_
  show Go p e below P (T1.setTop (mkF m 14 #[.val (.ref a), .val (.int (Int32.ofNat B)), .val (.int (Int32.ofNat (B / 64))), .val (.int (Int32.ofNat (B % 64))), .unset, .unset] [(.ref t)]))
  refine Go.st (fun _ kt => XS.iloadN X1.here hx rfl (hb hby d_prog_164_method_11_14) rfl (aryLdJ X1 hx hZ e1 Vt (j := (Int32.ofNat (B / 64))) (i := (B / 64)) (isN_ofNat (by omega)) hB (g := (mkF m 15 #[.val (.ref a), .val (.int (Int32.ofNat B)), .val (.int (Int32.ofNat (B / 64))), .val (.int (Int32.ofNat (B % 64))), .unset, .unset] [(.int (Int32.ofNat (B / 64))), (.ref t)])) rfl rfl (hb hby d_prog_164_method_11_15) _ (XS.iloadN X1.here hx rfl (hb hby d_prog_164_method_11_16) rfl (XS.lushr X1.here hx rfl (hb hby d_prog_164_method_11_17) rfl (XS.lstore X1.here hx rfl (hb hby d_prog_164_method_11_18) rfl (l' := #[.val (.ref a), .val (.int (Int32.ofNat B)), .val (.int (Int32.ofNat (B / 64))), .val (.int (Int32.ofNat (B % 64))), .val (.long (((f (B / 64)).toUInt64 >>> ((Int32.ofNat (B % 64)) &&& 0x3f).toInt64.toUInt64).toInt64)), .second]) rfl (XS.iloadN X1.here hx rfl (hb hby d_prog_164_method_11_20) rfl kt)))))) ?_
  show Go p e below P (T1.setTop (mkF m 21 #[.val (.ref a), .val (.int (Int32.ofNat B)), .val (.int (Int32.ofNat (B / 64))), .val (.int (Int32.ofNat (B % 64))), .val (.long (((f (B / 64)).toUInt64 >>> ((Int32.ofNat (B % 64)) &&& 0x3f).toInt64.toUInt64).toInt64)), .second] [(.int (Int32.ofNat (B % 64)))]))
  by_cases br2 : (0 : Int32) < (Int32.ofNat (B % 64))
  · refine Go.st (fun _ kt => XS.ifNo X1.here hx rfl (hb hby d_prog_164_method_11_21) rfl ((if0 _ _).trans (tlt br2).2.2.2) kt) ?_
    show Go p e below P (T1.setTop (mkF m 24 #[.val (.ref a), .val (.int (Int32.ofNat B)), .val (.int (Int32.ofNat (B / 64))), .val (.int (Int32.ofNat (B % 64))), .val (.long (((f (B / 64)).toUInt64 >>> ((Int32.ofNat (B % 64)) &&& 0x3f).toInt64.toUInt64).toInt64)), .second] []))
    refine Go.st (fun _ kt => XS.iloadN X1.here hx rfl (hb hby d_prog_164_method_11_24) rfl (XS.iconst X1.here hx rfl (hb hby d_prog_164_method_11_25) (XS.iadd X1.here hx rfl (hb hby d_prog_164_method_11_26) rfl (XS.aloadN X1.here hx rfl (hb hby d_prog_164_method_11_27) rfl rfl kt)))) ?_
    show Go p e below P (T1.setTop (mkF m 28 #[.val (.ref a), .val (.int (Int32.ofNat B)), .val (.int (Int32.ofNat (B / 64))), .val (.int (Int32.ofNat (B % 64))), .val (.long (((f (B / 64)).toUInt64 >>> ((Int32.ofNat (B % 64)) &&& 0x3f).toInt64.toUInt64).toInt64)), .second] [(.ref a), (.int ((Int32.ofNat (B / 64)) + (1 : Int32)))]))
    obtain ⟨T3, X3, e3, st3⟩ := getF X1 hx hZ hown (host := "") (Or.inl (hw _ (List.mem_of_getElem? (i := 20) rfl))) Via.refl e1 Fw (g := (mkF m 28 #[.val (.ref a), .val (.int (Int32.ofNat B)), .val (.int (Int32.ofNat (B / 64))), .val (.int (Int32.ofNat (B % 64))), .val (.long (((f (B / 64)).toUInt64 >>> ((Int32.ofNat (B % 64)) &&& 0x3f).toInt64.toUInt64).toInt64)), .second] [(.ref a), (.int ((Int32.ofNat (B / 64)) + (1 : Int32)))])) rfl rfl (hb hby d_prog_164_method_11_28)
    refine Go.st st3 ?_
    show Go p e below P (T3.setTop (mkF m 31 #[.val (.ref a), .val (.int (Int32.ofNat B)), .val (.int (Int32.ofNat (B / 64))), .val (.int (Int32.ofNat (B % 64))), .val (.long (((f (B / 64)).toUInt64 >>> ((Int32.ofNat (B % 64)) &&& 0x3f).toInt64.toUInt64).toInt64)), .second] [(.ref t), (.int ((Int32.ofNat (B / 64)) + (1 : Int32)))]))
    refine Go.st (fun _ kt => aryLen X3 hx hZ e3 Vt (g := (mkF m 31 #[.val (.ref a), .val (.int (Int32.ofNat B)), .val (.int (Int32.ofNat (B / 64))), .val (.int (Int32.ofNat (B % 64))), .val (.long (((f (B / 64)).toUInt64 >>> ((Int32.ofNat (B % 64)) &&& 0x3f).toInt64.toUInt64).toInt64)), .second] [(.ref t), (.int ((Int32.ofNat (B / 64)) + (1 : Int32)))])) rfl rfl (hb hby d_prog_164_method_11_31) _ kt) ?_
    show Go p e below P (T3.setTop (mkF m 32 #[.val (.ref a), .val (.int (Int32.ofNat B)), .val (.int (Int32.ofNat (B / 64))), .val (.int (Int32.ofNat (B % 64))), .val (.long (((f (B / 64)).toUInt64 >>> ((Int32.ofNat (B % 64)) &&& 0x3f).toInt64.toUInt64).toInt64)), .second] [(.int (Int32.ofNat n)), (.int ((Int32.ofNat (B / 64)) + (1 : Int32)))]))
    by_cases br4 : ((Int32.ofNat (B / 64)) + (1 : Int32)) < (Int32.ofNat n)
    · refine Go.st (fun _ kt => XS.icmpNo X3.here hx rfl (hb hby d_prog_164_method_11_32) rfl (tlt br4).2.1 kt) ?_
      show Go p e below P (T3.setTop (mkF m 35 #[.val (.ref a), .val (.int (Int32.ofNat B)), .val (.int (Int32.ofNat (B / 64))), .val (.int (Int32.ofNat (B % 64))), .val (.long (((f (B / 64)).toUInt64 >>> ((Int32.ofNat (B % 64)) &&& 0x3f).toInt64.toUInt64).toInt64)), .second] []))
      refine Go.st (fun _ kt => XS.lload X3.here hx rfl (hb hby d_prog_164_method_11_35) rfl (XS.aloadN X3.here hx rfl (hb hby d_prog_164_method_11_37) rfl rfl kt)) ?_
      show Go p e below P (T3.setTop (mkF m 38 #[.val (.ref a), .val (.int (Int32.ofNat B)), .val (.int (Int32.ofNat (B / 64))), .val (.int (Int32.ofNat (B % 64))), .val (.long (((f (B / 64)).toUInt64 >>> ((Int32.ofNat (B % 64)) &&& 0x3f).toInt64.toUInt64).toInt64)), .second] [(.ref a), (.long (((f (B / 64)).toUInt64 >>> ((Int32.ofNat (B % 64)) &&& 0x3f).toInt64.toUInt64).toInt64))]))
      obtain ⟨T5, X5, e5, st5⟩ := getF X3 hx hZ hown (host := "") (Or.inl (hw _ (List.mem_of_getElem? (i := 20) rfl))) Via.refl e3 Fw (g := (mkF m 38 #[.val (.ref a), .val (.int (Int32.ofNat B)), .val (.int (Int32.ofNat (B / 64))), .val (.int (Int32.ofNat (B % 64))), .val (.long (((f (B / 64)).toUInt64 >>> ((Int32.ofNat (B % 64)) &&& 0x3f).toInt64.toUInt64).toInt64)), .second] [(.ref a), (.long (((f (B / 64)).toUInt64 >>> ((Int32.ofNat (B % 64)) &&& 0x3f).toInt64.toUInt64).toInt64))])) rfl rfl (hb hby d_prog_164_method_11_38)
      refine Go.st st5 ?_
      show Go p e below P (T5.setTop (mkF m 41 #[.val (.ref a), .val (.int (Int32.ofNat B)), .val (.int (Int32.ofNat (B / 64))), .val (.int (Int32.ofNat (B % 64))), .val (.long (((f (B / 64)).toUInt64 >>> ((Int32.ofNat (B % 64)) &&& 0x3f).toInt64.toUInt64).toInt64)), .second] [(.ref t), (.long (((f (B / 64)).toUInt64 >>> ((Int32.ofNat (B % 64)) &&& 0x3f).toInt64.toUInt64).toInt64))]))
      refine Go.st (fun _ kt => XS.iloadN X5.here hx rfl (hb hby d_prog_164_method_11_41) rfl (XS.iconst X5.here hx rfl (hb hby d_prog_164_method_11_42) (XS.iadd X5.here hx rfl (hb hby d_prog_164_method_11_43) rfl (aryLdJ X5 hx hZ e5 Vt (j := ((Int32.ofNat (B / 64)) + (1 : Int32))) (i := (B / 64 + 1)) (by rw [own_succ]; exact isN_ofNat (by omega)) (by have q := br4; rw [own_succ, own_ltN (by omega) (by omega)] at q; exact q) (g := (mkF m 44 #[.val (.ref a), .val (.int (Int32.ofNat B)), .val (.int (Int32.ofNat (B / 64))), .val (.int (Int32.ofNat (B % 64))), .val (.long (((f (B / 64)).toUInt64 >>> ((Int32.ofNat (B % 64)) &&& 0x3f).toInt64.toUInt64).toInt64)), .second] [(.int ((Int32.ofNat (B / 64)) + (1 : Int32))), (.ref t), (.long (((f (B / 64)).toUInt64 >>> ((Int32.ofNat (B % 64)) &&& 0x3f).toInt64.toUInt64).toInt64))])) rfl rfl (hb hby d_prog_164_method_11_44) _ (XS.iloadN X5.here hx rfl (hb hby d_prog_164_method_11_45) rfl (XS.ineg X5.here hx rfl (hb hby d_prog_164_method_11_46) rfl (XS.lshl X5.here hx rfl (hb hby d_prog_164_method_11_47) rfl (XS.lor X5.here hx rfl (hb hby d_prog_164_method_11_48) rfl kt)))))))) ?_
      show Go p e below P (T5.setTop (mkF m 49 #[.val (.ref a), .val (.int (Int32.ofNat B)), .val (.int (Int32.ofNat (B / 64))), .val (.int (Int32.ofNat (B % 64))), .val (.long (((f (B / 64)).toUInt64 >>> ((Int32.ofNat (B % 64)) &&& 0x3f).toInt64.toUInt64).toInt64)), .second] [(.long ((((f (B / 64)).toUInt64 >>> ((Int32.ofNat (B % 64)) &&& 0x3f).toInt64.toUInt64).toInt64) ||| ((f (B / 64 + 1)) <<< ((-(Int32.ofNat (B % 64))) &&& 0x3f).toInt64)))]))
      refine Go.st (fun _ kt => XS.lstore X5.here hx rfl (hb hby d_prog_164_method_11_49) rfl (l' := #[.val (.ref a), .val (.int (Int32.ofNat B)), .val (.int (Int32.ofNat (B / 64))), .val (.int (Int32.ofNat (B % 64))), .val (.long ((((f (B / 64)).toUInt64 >>> ((Int32.ofNat (B % 64)) &&& 0x3f).toInt64.toUInt64).toInt64) ||| ((f (B / 64 + 1)) <<< ((-(Int32.ofNat (B % 64))) &&& 0x3f).toInt64))), .second]) rfl (XS.lload X5.here hx rfl (hb hby d_prog_164_method_11_51) rfl kt)) ?_
      show Go p e below P (T5.setTop (mkF m 53 #[.val (.ref a), .val (.int (Int32.ofNat B)), .val (.int (Int32.ofNat (B / 64))), .val (.int (Int32.ofNat (B % 64))), .val (.long ((((f (B / 64)).toUInt64 >>> ((Int32.ofNat (B % 64)) &&& 0x3f).toInt64.toUInt64).toInt64) ||| ((f (B / 64 + 1)) <<< ((-(Int32.ofNat (B % 64))) &&& 0x3f).toInt64))), .second] [(.long ((((f (B / 64)).toUInt64 >>> ((Int32.ofNat (B % 64)) &&& 0x3f).toInt64.toUInt64).toInt64) ||| ((f (B / 64 + 1)) <<< ((-(Int32.ofNat (B % 64))) &&& 0x3f).toInt64)))]))
      exact goJ X5 hx hret hlk (hb hby d_prog_164_method_11_53) hP (by decide) (by decide) ⟨_, rfl, (Fr.nil n0), e5, fun k hk => by
          rw [own_gti own_zero, own_tn (by omega)] at br2
          rw [own_succ, own_ltN (by omega) (by omega)] at br4
          rw [own_tb_or, own_tb_us _ (by omega), own_tb_shl _ (by omega) (by omega)]; unfold own_gt'; by_cases q : B % 64 + k < 64
          · rw [if_pos q]; simp [show k < 64 - B % 64 by omega]
          · rw [if_neg q, if_pos br4, own_tb_out _ (by omega : 64 ≤ B % 64 + k), show k - (64 - B % 64) = B % 64 + k - 64 by omega]; simp [hk, show ¬ k < 64 - B % 64 by omega]⟩
    · refine Go.st (fun _ kt => XS.icmpYes X3.here hx rfl (pc0 := 32) (pc' := 51) rfl (hb hby d_prog_164_method_11_32) rfl (flt br4).2.1 (by decide) (by decide) kt) ?_
      show Go p e below P (T3.setTop (mkF m 51 #[.val (.ref a), .val (.int (Int32.ofNat B)), .val (.int (Int32.ofNat (B / 64))), .val (.int (Int32.ofNat (B % 64))), .val (.long (((f (B / 64)).toUInt64 >>> ((Int32.ofNat (B % 64)) &&& 0x3f).toInt64.toUInt64).toInt64)), .second] []))
      refine Go.st (fun _ kt => XS.lload X3.here hx rfl (hb hby d_prog_164_method_11_51) rfl kt) ?_
      show Go p e below P (T3.setTop (mkF m 53 #[.val (.ref a), .val (.int (Int32.ofNat B)), .val (.int (Int32.ofNat (B / 64))), .val (.int (Int32.ofNat (B % 64))), .val (.long (((f (B / 64)).toUInt64 >>> ((Int32.ofNat (B % 64)) &&& 0x3f).toInt64.toUInt64).toInt64)), .second] [(.long (((f (B / 64)).toUInt64 >>> ((Int32.ofNat (B % 64)) &&& 0x3f).toInt64.toUInt64).toInt64))]))
      exact goJ X3 hx hret hlk (hb hby d_prog_164_method_11_53) hP (by decide) (by decide) ⟨_, rfl, (Fr.nil n0), e3, fun k hk => by
          rw [own_gti own_zero, own_tn (by omega)] at br2
          rw [own_succ, own_ltN (by omega) (by omega)] at br4
          rw [own_tb_us _ (by omega)]; unfold own_gt'; by_cases q : B % 64 + k < 64
          · rw [if_pos q]
          · rw [if_neg q, if_neg br4]; exact own_tb_out _ (by omega)⟩
  · refine Go.st (fun _ kt => XS.ifYes X1.here hx rfl (pc0 := 21) (pc' := 51) rfl (hb hby d_prog_164_method_11_21) rfl ((if0 _ _).trans (flt br2).2.2.2) (by decide) (by decide) kt) ?_
    show Go p e below P (T1.setTop (mkF m 51 #[.val (.ref a), .val (.int (Int32.ofNat B)), .val (.int (Int32.ofNat (B / 64))), .val (.int (Int32.ofNat (B % 64))), .val (.long (((f (B / 64)).toUInt64 >>> ((Int32.ofNat (B % 64)) &&& 0x3f).toInt64.toUInt64).toInt64)), .second] []))
    refine Go.st (fun _ kt => XS.lload X1.here hx rfl (hb hby d_prog_164_method_11_51) rfl kt) ?_
    show Go p e below P (T1.setTop (mkF m 53 #[.val (.ref a), .val (.int (Int32.ofNat B)), .val (.int (Int32.ofNat (B / 64))), .val (.int (Int32.ofNat (B % 64))), .val (.long (((f (B / 64)).toUInt64 >>> ((Int32.ofNat (B % 64)) &&& 0x3f).toInt64.toUInt64).toInt64)), .second] [(.long (((f (B / 64)).toUInt64 >>> ((Int32.ofNat (B % 64)) &&& 0x3f).toInt64.toUInt64).toInt64))]))
    exact goJ X1 hx hret hlk (hb hby d_prog_164_method_11_53) hP (by decide) (by decide) ⟨_, rfl, (Fr.nil n0), e1, fun k hk => by
          rw [own_gti own_zero, own_tn (by omega)] at br2
          rw [own_tb_us _ (by omega)]; unfold own_gt'; rw [if_pos (by omega)]⟩
theorem own_ofn {n k : Nat} (hn : n < 2 ^ 31) (hk : k < 2 ^ 31) (h : Int32.ofNat n = Int32.ofNat k) : n = k := by
  have := congrArg Int32.toInt h
  rw [own_tn hn, own_tn hk] at this; omega
theorem own_sb {a b : Nat} (h : b ≤ a) : Int32.ofNat a - Int32.ofNat b = Int32.ofNat (a - b) := by
  obtain ⟨k, rfl⟩ : ∃ k, a = k + b := ⟨a - b, by omega⟩
  rw [Int32.ofNat_add, Int32.add_sub_cancel, Nat.add_sub_cancel]
theorem pd_2 : parseMethodDescriptor "(I)V" = some ⟨[.int], none⟩ := by decide +kernel
theorem pd_3 : parseMethodDescriptor "(I)J" = some ⟨[.int], some .long⟩ := by decide +kernel
theorem pn_4 : plainName "com/example/numtrie/numtrie/index/RecordSetWordFromPinLaw" = true := by first | (simp [plainName, overriddenIn]; done) | decide +kernel
theorem ef_rm0 (m : MethodId) (rc : Int32) (bb : Int32) (ii : Int32) (x0 : Int64) (x1 : Int64) (x2 : Int64) : entryFrame m #[(.int rc), (.int bb), (.int ii), (.long x0), (.long x1), (.long x2)] maxLocals = mkF m 0 #[.val (.int rc), .val (.int bb), .val (.int ii), .val (.long x0), .second, .val (.long x1), .second, .val (.long x2), .second, .unset, .unset, .unset, .unset, .unset, .unset, .unset, .unset, .unset, .unset, .unset, .unset, .unset, .unset] [] := by first | (simp [entryFrame, mkF, argsToLocals, Value.category, maxLocals]; done) | rfl
set_option maxRecDepth 65536 in
set_option maxHeartbeats 40000000 in
theorem rm0 (l : Launch) (Z : State) (a0 : Array Value) (hw : ∀ d ∈ tables_1, d.before a0 Z = true) (ws : List Jvm.Cond) (rc : Int32) (bb : Int32) (ii : Int32) (x0 : Int64) (x1 : Int64) (x2 : Int64)  (h0 : Heap) (n0 : Nat) (Z0 : n0 ≤ h0.size)  :
    Ct l x code maxLocals ret ws room_1 Z #[(.int rc), (.int bb), (.int ii), (.long x0), (.long x1), (.long x2)] h0 (fun v h L => v = some (.int 1) ∧ Fr n0 L) := by
  refine Ct.of (plainFor_of_name pn_4) (fun m => ef_rm0 m rc bb ii x0 x1 x2) ?_
  intro p e s m below meth c T0 X0 hx hby hml hret hlk hown hnm hZ e0 P hP
  refine Go.st (fun _ kt => XS.iconst X0.here hx rfl (hb hby at_0) (XS.iloadN X0.here hx rfl (hb hby at_1) rfl (X0.ldcInt hx hown (mvT hZ (hw _ (List.mem_of_getElem? (i := 0) rfl))) (g := (mkF m 2 #[.val (.int rc), .val (.int bb), .val (.int ii), .val (.long x0), .second, .val (.long x1), .second, .val (.long x2), .second, .unset, .unset, .unset, .unset, .unset, .unset, .unset, .unset, .unset, .unset, .unset, .unset, .unset, .unset] [(.int rc), (.int (1 : Int32))])) rfl (hb hby at_2) _ (XS.iand X0.here hx rfl (hb hby at_4) rfl (XS.sipush X0.here hx rfl (hb hby at_5) (iremM X0 hx rfl (hb hby at_8) rfl (by decide) (XS.iadd X0.here hx rfl (hb hby at_9) rfl kt))))))) ?_
  show Go p e below P (T0.setTop (mkF m 10 #[.val (.int rc), .val (.int bb), .val (.int ii), .val (.long x0), .second, .val (.long x1), .second, .val (.long x2), .second, .unset, .unset, .unset, .unset, .unset, .unset, .unset, .unset, .unset, .unset, .unset, .unset, .unset, .unset] [(.int ((1 : Int32) + ((rc &&& (2147483647 : Int32)) % (192 : Int32))))]))
  obtain ⟨R, hR, hR1, hR2⟩ := own_R rc
  rw [hR]
  show Go p e below P (T0.setTop (mkF m 10 #[.val (.int rc), .val (.int bb), .val (.int ii), .val (.long x0), .second, .val (.long x1), .second, .val (.long x2), .second, .unset, .unset, .unset, .unset, .unset, .unset, .unset, .unset, .unset, .unset, .unset, .unset, .unset, .unset] [(.int (Int32.ofNat R))]))
  refine Go.st (fun _ kt => XS.istore X0.here hx rfl (hb hby at_10) rfl (l' := #[.val (.int rc), .val (.int bb), .val (.int ii), .val (.long x0), .second, .val (.long x1), .second, .val (.long x2), .second, .val (.int (Int32.ofNat R)), .unset, .unset, .unset, .unset, .unset, .unset, .unset, .unset, .unset, .unset, .unset, .unset, .unset]) rfl (XS.iload X0.here hx rfl (hb hby at_12) rfl (XS.bipush X0.here hx rfl (hb hby at_14) (XS.iadd X0.here hx rfl (hb hby at_16) rfl (XS.bipush X0.here hx rfl (hb hby at_17) (XS.iushr X0.here hx rfl (hb hby at_19) rfl kt)))))) ?_
  show Go p e below P (T0.setTop (mkF m 20 #[.val (.int rc), .val (.int bb), .val (.int ii), .val (.long x0), .second, .val (.long x1), .second, .val (.long x2), .second, .val (.int (Int32.ofNat R)), .unset, .unset, .unset, .unset, .unset, .unset, .unset, .unset, .unset, .unset, .unset, .unset, .unset] [(.int ((((Int32.ofNat R) + (63 : Int32)).toUInt32 >>> ((6 : Int32) &&& 31).toUInt32).toInt32))]))
  rw [show Int32.ofNat R + (63 : Int32) = Int32.ofNat (R + 63) from by rw [Int32.ofNat_add]; rfl, own_div ⟨R + 63, by omega⟩]
  show Go p e below P (T0.setTop (mkF m 20 #[.val (.int rc), .val (.int bb), .val (.int ii), .val (.long x0), .second, .val (.long x1), .second, .val (.long x2), .second, .val (.int (Int32.ofNat R)), .unset, .unset, .unset, .unset, .unset, .unset, .unset, .unset, .unset, .unset, .unset, .unset, .unset] [(.int (Int32.ofNat ((R + 63) / 64)))]))
  refine Go.st (fun _ kt => XS.istore X0.here hx rfl (hb hby at_20) rfl (l' := #[.val (.int rc), .val (.int bb), .val (.int ii), .val (.long x0), .second, .val (.long x1), .second, .val (.long x2), .second, .val (.int (Int32.ofNat R)), .val (.int (Int32.ofNat ((R + 63) / 64))), .unset, .unset, .unset, .unset, .unset, .unset, .unset, .unset, .unset, .unset, .unset, .unset]) rfl (XS.iconst X0.here hx rfl (hb hby at_22) kt)) ?_
  show Go p e below P (T0.setTop (mkF m 23 #[.val (.int rc), .val (.int bb), .val (.int ii), .val (.long x0), .second, .val (.long x1), .second, .val (.long x2), .second, .val (.int (Int32.ofNat R)), .val (.int (Int32.ofNat ((R + 63) / 64))), .unset, .unset, .unset, .unset, .unset, .unset, .unset, .unset, .unset, .unset, .unset, .unset] [(.int (3 : Int32))]))
  have hz1 : IsN (3 : Int32) 3 := ⟨by decide, by decide⟩
  obtain ⟨T1, h1, k1, X1, e1, E1, A1, st1⟩ := newP X0 hx hZ (hw _ (List.mem_of_getElem? (i := 1) rfl)) e0 (g := (mkF m 23 #[.val (.int rc), .val (.int bb), .val (.int ii), .val (.long x0), .second, .val (.long x1), .second, .val (.long x2), .second, .val (.int (Int32.ofNat R)), .val (.int (Int32.ofNat ((R + 63) / 64))), .unset, .unset, .unset, .unset, .unset, .unset, .unset, .unset, .unset, .unset, .unset, .unset] [(.int (3 : Int32))])) rfl (hb hby at_23) rfl hz1.1 (cap := 3) (by rw [hz1.2]; exact (by decide)) (by decide) (by decide) (by decide)
  obtain ⟨b1, g1⟩ : ∃ z, z = h0.size := ⟨_, rfl⟩
  rw [← g1] at A1 st1
  have G1 : n0 ≤ b1 := Nat.le_trans Z0 (Nat.le_of_eq g1.symm)
  have V1 : Ary Z h1 b1 .long Value.long 3 (fun _ => (0 : Int64)) := Ary.new A1 hz1 rfl
  have Z2 := Nat.le_trans Z0 E1.1
  refine Go.st st1 ?_
  show Go p e below P (T1.setTop (mkF m 25 #[.val (.int rc), .val (.int bb), .val (.int ii), .val (.long x0), .second, .val (.long x1), .second, .val (.long x2), .second, .val (.int (Int32.ofNat R)), .val (.int (Int32.ofNat ((R + 63) / 64))), .unset, .unset, .unset, .unset, .unset, .unset, .unset, .unset, .unset, .unset, .unset, .unset] [(.ref b1)]))
  refine Go.st (fun _ kt => XS.astore X1.here hx rfl (hb hby at_25) rfl rfl (l' := #[.val (.int rc), .val (.int bb), .val (.int ii), .val (.long x0), .second, .val (.long x1), .second, .val (.long x2), .second, .val (.int (Int32.ofNat R)), .val (.int (Int32.ofNat ((R + 63) / 64))), .val (.ref b1), .unset, .unset, .unset, .unset, .unset, .unset, .unset, .unset, .unset, .unset, .unset]) rfl (XS.aload X1.here hx rfl (hb hby at_27) rfl rfl (XS.iconst X1.here hx rfl (hb hby at_29) (XS.lloadN X1.here hx rfl (hb hby at_30) rfl kt)))) ?_
  show Go p e below P (T1.setTop (mkF m 31 #[.val (.int rc), .val (.int bb), .val (.int ii), .val (.long x0), .second, .val (.long x1), .second, .val (.long x2), .second, .val (.int (Int32.ofNat R)), .val (.int (Int32.ofNat ((R + 63) / 64))), .val (.ref b1), .unset, .unset, .unset, .unset, .unset, .unset, .unset, .unset, .unset, .unset, .unset] [(.long x0), (.int (0 : Int32)), (.ref b1)]))
  obtain ⟨T3, h3, X3, e3, W3, V3, st3⟩ := aryStJ X1 hx hZ e1 V1 (j := (0 : Int32)) (x := x0) (i := 0) ⟨by decide, by decide⟩ (by decide) (g := (mkF m 31 #[.val (.int rc), .val (.int bb), .val (.int ii), .val (.long x0), .second, .val (.long x1), .second, .val (.long x2), .second, .val (.int (Int32.ofNat R)), .val (.int (Int32.ofNat ((R + 63) / 64))), .val (.ref b1), .unset, .unset, .unset, .unset, .unset, .unset, .unset, .unset, .unset, .unset, .unset] [(.long x0), (.int (0 : Int32)), (.ref b1)])) rfl rfl (hb hby at_31)
  have Z4 : n0 ≤ h3.size := by rw [W3.size]; exact Z2
  have N5 := Fr.snoc X3 (Fr.nil n0) G1
  refine Go.st st3 ?_
  show Go p e below P (T3.setTop (mkF m 32 #[.val (.int rc), .val (.int bb), .val (.int ii), .val (.long x0), .second, .val (.long x1), .second, .val (.long x2), .second, .val (.int (Int32.ofNat R)), .val (.int (Int32.ofNat ((R + 63) / 64))), .val (.ref b1), .unset, .unset, .unset, .unset, .unset, .unset, .unset, .unset, .unset, .unset, .unset] []))
  refine Go.st (fun _ kt => XS.aload X3.here hx rfl (hb hby at_32) rfl rfl (XS.iconst X3.here hx rfl (hb hby at_34) (XS.lload X3.here hx rfl (hb hby at_35) rfl kt))) ?_
  show Go p e below P (T3.setTop (mkF m 37 #[.val (.int rc), .val (.int bb), .val (.int ii), .val (.long x0), .second, .val (.long x1), .second, .val (.long x2), .second, .val (.int (Int32.ofNat R)), .val (.int (Int32.ofNat ((R + 63) / 64))), .val (.ref b1), .unset, .unset, .unset, .unset, .unset, .unset, .unset, .unset, .unset, .unset, .unset] [(.long x1), (.int (1 : Int32)), (.ref b1)]))
  obtain ⟨T6, h6, X6, e6, W6, V6, st6⟩ := aryStJ X3 hx hZ e3 V3 (j := (1 : Int32)) (x := x1) (i := 1) ⟨by decide, by decide⟩ (by decide) (g := (mkF m 37 #[.val (.int rc), .val (.int bb), .val (.int ii), .val (.long x0), .second, .val (.long x1), .second, .val (.long x2), .second, .val (.int (Int32.ofNat R)), .val (.int (Int32.ofNat ((R + 63) / 64))), .val (.ref b1), .unset, .unset, .unset, .unset, .unset, .unset, .unset, .unset, .unset, .unset, .unset] [(.long x1), (.int (1 : Int32)), (.ref b1)])) rfl rfl (hb hby at_37)
  have Z7 : n0 ≤ h6.size := by rw [W6.size]; exact Z4
  have N8 := Fr.snoc X6 N5 G1
  refine Go.st st6 ?_
  show Go p e below P (T6.setTop (mkF m 38 #[.val (.int rc), .val (.int bb), .val (.int ii), .val (.long x0), .second, .val (.long x1), .second, .val (.long x2), .second, .val (.int (Int32.ofNat R)), .val (.int (Int32.ofNat ((R + 63) / 64))), .val (.ref b1), .unset, .unset, .unset, .unset, .unset, .unset, .unset, .unset, .unset, .unset, .unset] []))
  refine Go.st (fun _ kt => XS.aload X6.here hx rfl (hb hby at_38) rfl rfl (XS.iconst X6.here hx rfl (hb hby at_40) (XS.lload X6.here hx rfl (hb hby at_41) rfl kt))) ?_
  show Go p e below P (T6.setTop (mkF m 43 #[.val (.int rc), .val (.int bb), .val (.int ii), .val (.long x0), .second, .val (.long x1), .second, .val (.long x2), .second, .val (.int (Int32.ofNat R)), .val (.int (Int32.ofNat ((R + 63) / 64))), .val (.ref b1), .unset, .unset, .unset, .unset, .unset, .unset, .unset, .unset, .unset, .unset, .unset] [(.long x2), (.int (2 : Int32)), (.ref b1)]))
  obtain ⟨T9, h9, X9, e9, W9, V9, st9⟩ := aryStJ X6 hx hZ e6 V6 (j := (2 : Int32)) (x := x2) (i := 2) ⟨by decide, by decide⟩ (by decide) (g := (mkF m 43 #[.val (.int rc), .val (.int bb), .val (.int ii), .val (.long x0), .second, .val (.long x1), .second, .val (.long x2), .second, .val (.int (Int32.ofNat R)), .val (.int (Int32.ofNat ((R + 63) / 64))), .val (.ref b1), .unset, .unset, .unset, .unset, .unset, .unset, .unset, .unset, .unset, .unset, .unset] [(.long x2), (.int (2 : Int32)), (.ref b1)])) rfl rfl (hb hby at_43)
  have Z10 : n0 ≤ h9.size := by rw [W9.size]; exact Z7
  have N11 := Fr.snoc X9 N8 G1
  refine Go.st st9 ?_
  show Go p e below P (T9.setTop (mkF m 44 #[.val (.int rc), .val (.int bb), .val (.int ii), .val (.long x0), .second, .val (.long x1), .second, .val (.long x2), .second, .val (.int (Int32.ofNat R)), .val (.int (Int32.ofNat ((R + 63) / 64))), .val (.ref b1), .unset, .unset, .unset, .unset, .unset, .unset, .unset, .unset, .unset, .unset, .unset] []))
  refine Go.st (fun _ kt => XS.iload X9.here hx rfl (hb hby at_44) rfl (XS.bipush X9.here hx rfl (hb hby at_46) (XS.iand X9.here hx rfl (hb hby at_48) rfl kt))) ?_
  show Go p e below P (T9.setTop (mkF m 49 #[.val (.int rc), .val (.int bb), .val (.int ii), .val (.long x0), .second, .val (.long x1), .second, .val (.long x2), .second, .val (.int (Int32.ofNat R)), .val (.int (Int32.ofNat ((R + 63) / 64))), .val (.ref b1), .unset, .unset, .unset, .unset, .unset, .unset, .unset, .unset, .unset, .unset, .unset] [(.int ((Int32.ofNat R) &&& (63 : Int32)))]))
  rw [own_mod ⟨R, by omega⟩]
  show Go p e below P (T9.setTop (mkF m 49 #[.val (.int rc), .val (.int bb), .val (.int ii), .val (.long x0), .second, .val (.long x1), .second, .val (.long x2), .second, .val (.int (Int32.ofNat R)), .val (.int (Int32.ofNat ((R + 63) / 64))), .val (.ref b1), .unset, .unset, .unset, .unset, .unset, .unset, .unset, .unset, .unset, .unset, .unset] [(.int (Int32.ofNat (R % 64)))]))
  refine Go.st (fun _ kt => XS.istore X9.here hx rfl (hb hby at_49) rfl (l' := #[.val (.int rc), .val (.int bb), .val (.int ii), .val (.long x0), .second, .val (.long x1), .second, .val (.long x2), .second, .val (.int (Int32.ofNat R)), .val (.int (Int32.ofNat ((R + 63) / 64))), .val (.ref b1), .val (.int (Int32.ofNat (R % 64))), .unset, .unset, .unset, .unset, .unset, .unset, .unset, .unset, .unset, .unset]) rfl (XS.iload X9.here hx rfl (hb hby at_51) rfl kt)) ?_
  show Go p e below P (T9.setTop (mkF m 53 #[.val (.int rc), .val (.int bb), .val (.int ii), .val (.long x0), .second, .val (.long x1), .second, .val (.long x2), .second, .val (.int (Int32.ofNat R)), .val (.int (Int32.ofNat ((R + 63) / 64))), .val (.ref b1), .val (.int (Int32.ofNat (R % 64))), .unset, .unset, .unset, .unset, .unset, .unset, .unset, .unset, .unset, .unset] [(.int (Int32.ofNat (R % 64)))]))
  have cut12 : ∀ mk : Int64, (∀ t, t < 64 → own_tb mk t = decide (R % 64 = 0 ∨ t < R % 64)) → Go p e below P (T9.setTop (mkF m 71 #[.val (.int rc), .val (.int bb), .val (.int ii), .val (.long x0), .second, .val (.long x1), .second, .val (.long x2), .second, .val (.int (Int32.ofNat R)), .val (.int (Int32.ofNat ((R + 63) / 64))), .val (.ref b1), .val (.int (Int32.ofNat (R % 64))), .unset, .unset, .unset, .unset, .unset, .unset, .unset, .unset, .unset, .unset] [(.long mk)])) := by
    intro mk hmk
    refine Go.st (fun _ kt => XS.lstore X9.here hx rfl (hb hby at_71) rfl (l' := #[.val (.int rc), .val (.int bb), .val (.int ii), .val (.long x0), .second, .val (.long x1), .second, .val (.long x2), .second, .val (.int (Int32.ofNat R)), .val (.int (Int32.ofNat ((R + 63) / 64))), .val (.ref b1), .val (.int (Int32.ofNat (R % 64))), .val (.long mk), .second, .unset, .unset, .unset, .unset, .unset, .unset, .unset, .unset]) rfl kt) ?_
    show Go p e below P (T9.setTop (mkF m 73 #[.val (.int rc), .val (.int bb), .val (.int ii), .val (.long x0), .second, .val (.long x1), .second, .val (.long x2), .second, .val (.int (Int32.ofNat R)), .val (.int (Int32.ofNat ((R + 63) / 64))), .val (.ref b1), .val (.int (Int32.ofNat (R % 64))), .val (.long mk), .second, .unset, .unset, .unset, .unset, .unset, .unset, .unset, .unset] []))
    rcases (by omega : (R + 63) / 64 = 1 ∨ (R + 63) / 64 = 2 ∨ (R + 63) / 64 = 3) with hN | hN | hN
    · rw [hN]
      show Go p e below P (T9.setTop (mkF m 73 #[.val (.int rc), .val (.int bb), .val (.int ii), .val (.long x0), .second, .val (.long x1), .second, .val (.long x2), .second, .val (.int (Int32.ofNat R)), .val (.int (1 : Int32)), .val (.ref b1), .val (.int (Int32.ofNat (R % 64))), .val (.long mk), .second, .unset, .unset, .unset, .unset, .unset, .unset, .unset, .unset] []))
      refine Go.st (fun _ kt => XS.aload X9.here hx rfl (hb hby at_73) rfl rfl (XS.iload X9.here hx rfl (hb hby at_75) rfl (XS.iconst X9.here hx rfl (hb hby at_77) (XS.isub X9.here hx rfl (hb hby at_78) rfl kt)))) ?_
      show Go p e below P (T9.setTop (mkF m 79 #[.val (.int rc), .val (.int bb), .val (.int ii), .val (.long x0), .second, .val (.long x1), .second, .val (.long x2), .second, .val (.int (Int32.ofNat R)), .val (.int (1 : Int32)), .val (.ref b1), .val (.int (Int32.ofNat (R % 64))), .val (.long mk), .second, .unset, .unset, .unset, .unset, .unset, .unset, .unset, .unset] [(.int ((1 : Int32) - (1 : Int32))), (.ref b1)]))
      rw [show ((1 : Int32) - (1 : Int32)) = (0 : Int32) from by decide]
      show Go p e below P (T9.setTop (mkF m 79 #[.val (.int rc), .val (.int bb), .val (.int ii), .val (.long x0), .second, .val (.long x1), .second, .val (.long x2), .second, .val (.int (Int32.ofNat R)), .val (.int (1 : Int32)), .val (.ref b1), .val (.int (Int32.ofNat (R % 64))), .val (.long mk), .second, .unset, .unset, .unset, .unset, .unset, .unset, .unset, .unset] [(.int (0 : Int32)), (.ref b1)]))
      refine Go.st (fun _ kt => Jvm.Free.XT.dup2 X9.here hx rfl (hb hby at_79) rfl rfl rfl (aryLdJ X9 hx hZ e9 V9 (j := (0 : Int32)) (i := 0) ⟨by decide, by decide⟩ (by decide) (g := (mkF m 80 #[.val (.int rc), .val (.int bb), .val (.int ii), .val (.long x0), .second, .val (.long x1), .second, .val (.long x2), .second, .val (.int (Int32.ofNat R)), .val (.int (1 : Int32)), .val (.ref b1), .val (.int (Int32.ofNat (R % 64))), .val (.long mk), .second, .unset, .unset, .unset, .unset, .unset, .unset, .unset, .unset] [(.int (0 : Int32)), (.ref b1), (.int (0 : Int32)), (.ref b1)])) rfl rfl (hb hby at_80) _ (XS.lload X9.here hx rfl (hb hby at_81) rfl (XS.land X9.here hx rfl (hb hby at_83) rfl kt)))) ?_
      show Go p e below P (T9.setTop (mkF m 84 #[.val (.int rc), .val (.int bb), .val (.int ii), .val (.long x0), .second, .val (.long x1), .second, .val (.long x2), .second, .val (.int (Int32.ofNat R)), .val (.int (1 : Int32)), .val (.ref b1), .val (.int (Int32.ofNat (R % 64))), .val (.long mk), .second, .unset, .unset, .unset, .unset, .unset, .unset, .unset, .unset] [(.long (x0 &&& mk)), (.int (0 : Int32)), (.ref b1)]))
      obtain ⟨T13, h13, X13, e13, W13, V13, st13⟩ := aryStJ X9 hx hZ e9 V9 (j := (0 : Int32)) (x := (x0 &&& mk)) (i := 0) ⟨by decide, by decide⟩ (by decide) (g := (mkF m 84 #[.val (.int rc), .val (.int bb), .val (.int ii), .val (.long x0), .second, .val (.long x1), .second, .val (.long x2), .second, .val (.int (Int32.ofNat R)), .val (.int (1 : Int32)), .val (.ref b1), .val (.int (Int32.ofNat (R % 64))), .val (.long mk), .second, .unset, .unset, .unset, .unset, .unset, .unset, .unset, .unset] [(.long (x0 &&& mk)), (.int (0 : Int32)), (.ref b1)])) rfl rfl (hb hby at_84)
      have Z14 : n0 ≤ h13.size := by rw [W13.size]; exact Z10
      have N15 := Fr.snoc X13 N11 G1
      refine Go.st st13 ?_
      show Go p e below P (T13.setTop (mkF m 85 #[.val (.int rc), .val (.int bb), .val (.int ii), .val (.long x0), .second, .val (.long x1), .second, .val (.long x2), .second, .val (.int (Int32.ofNat R)), .val (.int (1 : Int32)), .val (.ref b1), .val (.int (Int32.ofNat (R % 64))), .val (.long mk), .second, .unset, .unset, .unset, .unset, .unset, .unset, .unset, .unset] []))
      refine Go.st (fun _ kt => XS.iload X13.here hx rfl (hb hby at_85) rfl (XS.iconst X13.here hx rfl (hb hby at_87) (XS.icmpNo X13.here hx rfl (hb hby at_88) rfl (tlt (by decide : (1 : Int32) < (3 : Int32))).2.1 (XS.aload X13.here hx rfl (hb hby at_91) rfl rfl (XS.iconst X13.here hx rfl (hb hby at_93) (XS.lconst X13.here hx rfl (hb hby at_94) kt)))))) ?_
      show Go p e below P (T13.setTop (mkF m 95 #[.val (.int rc), .val (.int bb), .val (.int ii), .val (.long x0), .second, .val (.long x1), .second, .val (.long x2), .second, .val (.int (Int32.ofNat R)), .val (.int (1 : Int32)), .val (.ref b1), .val (.int (Int32.ofNat (R % 64))), .val (.long mk), .second, .unset, .unset, .unset, .unset, .unset, .unset, .unset, .unset] [(.long (0 : Int64)), (.int (2 : Int32)), (.ref b1)]))
      obtain ⟨T16, h16, X16, e16, W16, V16, st16⟩ := aryStJ X13 hx hZ e13 V13 (j := (2 : Int32)) (x := (0 : Int64)) (i := 2) ⟨by decide, by decide⟩ (by decide) (g := (mkF m 95 #[.val (.int rc), .val (.int bb), .val (.int ii), .val (.long x0), .second, .val (.long x1), .second, .val (.long x2), .second, .val (.int (Int32.ofNat R)), .val (.int (1 : Int32)), .val (.ref b1), .val (.int (Int32.ofNat (R % 64))), .val (.long mk), .second, .unset, .unset, .unset, .unset, .unset, .unset, .unset, .unset] [(.long (0 : Int64)), (.int (2 : Int32)), (.ref b1)])) rfl rfl (hb hby at_95)
      have Z17 : n0 ≤ h16.size := by rw [W16.size]; exact Z14
      have N18 := Fr.snoc X16 N15 G1
      refine Go.st st16 ?_
      show Go p e below P (T16.setTop (mkF m 96 #[.val (.int rc), .val (.int bb), .val (.int ii), .val (.long x0), .second, .val (.long x1), .second, .val (.long x2), .second, .val (.int (Int32.ofNat R)), .val (.int (1 : Int32)), .val (.ref b1), .val (.int (Int32.ofNat (R % 64))), .val (.long mk), .second, .unset, .unset, .unset, .unset, .unset, .unset, .unset, .unset] []))
      refine Go.st (fun _ kt => XS.iload X16.here hx rfl (hb hby at_96) rfl (XS.iconst X16.here hx rfl (hb hby at_98) (XS.icmpNo X16.here hx rfl (hb hby at_99) rfl (tlt (by decide : (1 : Int32) < (2 : Int32))).2.1 (XS.aload X16.here hx rfl (hb hby at_102) rfl rfl (XS.iconst X16.here hx rfl (hb hby at_104) (XS.lconst X16.here hx rfl (hb hby at_105) kt)))))) ?_
      show Go p e below P (T16.setTop (mkF m 106 #[.val (.int rc), .val (.int bb), .val (.int ii), .val (.long x0), .second, .val (.long x1), .second, .val (.long x2), .second, .val (.int (Int32.ofNat R)), .val (.int (1 : Int32)), .val (.ref b1), .val (.int (Int32.ofNat (R % 64))), .val (.long mk), .second, .unset, .unset, .unset, .unset, .unset, .unset, .unset, .unset] [(.long (0 : Int64)), (.int (1 : Int32)), (.ref b1)]))
      obtain ⟨T19, h19, X19, e19, W19, V19, st19⟩ := aryStJ X16 hx hZ e16 V16 (j := (1 : Int32)) (x := (0 : Int64)) (i := 1) ⟨by decide, by decide⟩ (by decide) (g := (mkF m 106 #[.val (.int rc), .val (.int bb), .val (.int ii), .val (.long x0), .second, .val (.long x1), .second, .val (.long x2), .second, .val (.int (Int32.ofNat R)), .val (.int (1 : Int32)), .val (.ref b1), .val (.int (Int32.ofNat (R % 64))), .val (.long mk), .second, .unset, .unset, .unset, .unset, .unset, .unset, .unset, .unset] [(.long (0 : Int64)), (.int (1 : Int32)), (.ref b1)])) rfl rfl (hb hby at_106)
      have Z20 : n0 ≤ h19.size := by rw [W19.size]; exact Z17
      have N21 := Fr.snoc X19 N18 G1
      refine Go.st st19 ?_
      show Go p e below P (T19.setTop (mkF m 107 #[.val (.int rc), .val (.int bb), .val (.int ii), .val (.long x0), .second, .val (.long x1), .second, .val (.long x2), .second, .val (.int (Int32.ofNat R)), .val (.int (1 : Int32)), .val (.ref b1), .val (.int (Int32.ofNat (R % 64))), .val (.long mk), .second, .unset, .unset, .unset, .unset, .unset, .unset, .unset, .unset] []))
      obtain ⟨T22, h22, X22, e22, E22, A22, D22, -, st22⟩ := newO X19 hx hZ hown (hw _ (List.mem_of_getElem? (i := 3) rfl)) (hw _ (List.mem_of_getElem? (i := 4) rfl)) (hw _ (List.mem_of_getElem? (i := 5) rfl)) e19 (g := (mkF m 107 #[.val (.int rc), .val (.int bb), .val (.int ii), .val (.long x0), .second, .val (.long x1), .second, .val (.long x2), .second, .val (.int (Int32.ofNat R)), .val (.int (1 : Int32)), .val (.ref b1), .val (.int (Int32.ofNat (R % 64))), .val (.long mk), .second, .unset, .unset, .unset, .unset, .unset, .unset, .unset, .unset] [])) rfl (hb hby at_107) (by decide) (by decide)
      obtain ⟨b22, g22⟩ : ∃ z, z = h19.size := ⟨_, rfl⟩
      rw [← g22] at A22 D22 st22
      have ne23 : b1 ≠ b22 := Nat.ne_of_lt (Nat.lt_of_lt_of_le V19.lt (Nat.le_of_eq g22.symm))
      have G22 : n0 ≤ b22 := Nat.le_trans Z20 (Nat.le_of_eq g22.symm)
      have F22_records : Fld Z h22 b22 "com/example/numtrie/numtrie/index/RecordSet" "records" "I" (.int (0 : Int32)) := D22 (Or.inr (hw _ (List.mem_of_getElem? (i := 16) rfl))) (ty := .int) (by decide)
      have F22_reader : Fld Z h22 b22 "com/example/numtrie/numtrie/index/RecordSet" "reader" "Lcom/example/numtrie/numtrie/index/IndexReader;" .null := D22 (Or.inr (hw _ (List.mem_of_getElem? (i := 18) rfl))) (ty := (.object "com/example/numtrie/numtrie/index/IndexReader")) (by decide)
      have F22_words : Fld Z h22 b22 "com/example/numtrie/numtrie/index/RecordSet" "words" "[J" .null := D22 (Or.inr (hw _ (List.mem_of_getElem? (i := 21) rfl))) (ty := (.array .long)) (by decide)
      have Z24 := Nat.le_trans Z20 E22.1
      refine Go.st st22 ?_
      show Go p e below P (T22.setTop (mkF m 110 #[.val (.int rc), .val (.int bb), .val (.int ii), .val (.long x0), .second, .val (.long x1), .second, .val (.long x2), .second, .val (.int (Int32.ofNat R)), .val (.int (1 : Int32)), .val (.ref b1), .val (.int (Int32.ofNat (R % 64))), .val (.long mk), .second, .unset, .unset, .unset, .unset, .unset, .unset, .unset, .unset] [(.ref b22)]))
      refine Go.st (fun _ kt => XS.dup X22.here hx rfl (hb hby at_110) rfl rfl (XS.iload X22.here hx rfl (hb hby at_111) rfl kt)) ?_
      show Go p e below P (T22.setTop (mkF m 113 #[.val (.int rc), .val (.int bb), .val (.int ii), .val (.long x0), .second, .val (.long x1), .second, .val (.long x2), .second, .val (.int (Int32.ofNat R)), .val (.int (1 : Int32)), .val (.ref b1), .val (.int (Int32.ofNat (R % 64))), .val (.long mk), .second, .unset, .unset, .unset, .unset, .unset, .unset, .unset, .unset] [(.int (Int32.ofNat R)), (.ref b22), (.ref b22)]))
      have f26 := (V19.ext E22)
      obtain ⟨_, T25, Lc25, X25, ⟨rfl, Nq25, K25, Ei25, t25, Fi25, Vi25, Gt25, Sz25⟩, st25⟩ := callCtor X22 hx hZ e22 (y := (⟨"com/example/numtrie/numtrie/index/RecordSet", "<init>", "(I)V"⟩ : MethodName)) rfl (a := b22) (argsL := [(.int (Int32.ofNat R))]) (rest := [(.ref b22)]) hown (hw _ (List.mem_of_getElem? (i := 6) rfl)) (hw _ (List.mem_of_getElem? (i := 7) rfl)) (hw _ (List.mem_of_getElem? (i := 5) rfl)) (hw _ (List.mem_of_getElem? (i := 8) rfl)) (by decide) (rmI l Z a0 hw b22 (Int32.ofNat R) R _ n0 Z24 A22 F22_records F22_reader F22_words G22 rfl hR1 hR2) (W := 1) (by decide) (by decide) (g := (mkF m 113 #[.val (.int rc), .val (.int bb), .val (.int ii), .val (.long x0), .second, .val (.long x1), .second, .val (.long x2), .second, .val (.int (Int32.ofNat R)), .val (.int (1 : Int32)), .val (.ref b1), .val (.int (Int32.ofNat (R % 64))), .val (.long mk), .second, .unset, .unset, .unset, .unset, .unset, .unset, .unset, .unset] [(.int (Int32.ofNat R)), (.ref b22), (.ref b22)])) rfl (by rw [hml]; rfl) (lenOf pd_2 rfl) rfl (by show 2 * 0 + _ ≤ _; exact Nat.le_of_eq rfl) (hb hby at_113) (by decide) (by decide)
      have N25 := Fr.app N21 Nq25
      have Z27 := Nat.le_trans Z24 K25.1
      have Vj25 := Vi25
      rw [hN] at Vj25
      have ne28 : b1 ≠ t25 := Nat.ne_of_lt (Nat.lt_of_lt_of_le f26.lt Sz25)
      refine Go.st st25 ?_
      show Go p e below P (T25.setTop (mkF m 116 #[.val (.int rc), .val (.int bb), .val (.int ii), .val (.long x0), .second, .val (.long x1), .second, .val (.long x2), .second, .val (.int (Int32.ofNat R)), .val (.int (1 : Int32)), .val (.ref b1), .val (.int (Int32.ofNat (R % 64))), .val (.long mk), .second, .unset, .unset, .unset, .unset, .unset, .unset, .unset, .unset] [(.ref b22)]))
      refine Go.st (fun _ kt => XS.astore X25.here hx rfl (hb hby at_116) rfl rfl (l' := #[.val (.int rc), .val (.int bb), .val (.int ii), .val (.long x0), .second, .val (.long x1), .second, .val (.long x2), .second, .val (.int (Int32.ofNat R)), .val (.int (1 : Int32)), .val (.ref b1), .val (.int (Int32.ofNat (R % 64))), .val (.long mk), .second, .val (.ref b22), .unset, .unset, .unset, .unset, .unset, .unset, .unset]) rfl (XS.aload X25.here hx rfl (hb hby at_118) rfl rfl kt)) ?_
      show Go p e below P (T25.setTop (mkF m 120 #[.val (.int rc), .val (.int bb), .val (.int ii), .val (.long x0), .second, .val (.long x1), .second, .val (.long x2), .second, .val (.int (Int32.ofNat R)), .val (.int (1 : Int32)), .val (.ref b1), .val (.int (Int32.ofNat (R % 64))), .val (.long mk), .second, .val (.ref b22), .unset, .unset, .unset, .unset, .unset, .unset, .unset] [(.ref b22)]))
      obtain ⟨T29, X29, e29, st29⟩ := getF X25 hx hZ hown (host := "") (Or.inl (hw _ (List.mem_of_getElem? (i := 22) rfl))) Via.refl rfl Fi25 (g := (mkF m 120 #[.val (.int rc), .val (.int bb), .val (.int ii), .val (.long x0), .second, .val (.long x1), .second, .val (.long x2), .second, .val (.int (Int32.ofNat R)), .val (.int (1 : Int32)), .val (.ref b1), .val (.int (Int32.ofNat (R % 64))), .val (.long mk), .second, .val (.ref b22), .unset, .unset, .unset, .unset, .unset, .unset, .unset] [(.ref b22)])) rfl rfl (hb hby at_120)
      refine Go.st st29 ?_
      show Go p e below P (T29.setTop (mkF m 123 #[.val (.int rc), .val (.int bb), .val (.int ii), .val (.long x0), .second, .val (.long x1), .second, .val (.long x2), .second, .val (.int (Int32.ofNat R)), .val (.int (1 : Int32)), .val (.ref b1), .val (.int (Int32.ofNat (R % 64))), .val (.long mk), .second, .val (.ref b22), .unset, .unset, .unset, .unset, .unset, .unset, .unset] [(.ref t25)]))
      have f30 := (f26.keep K25 (ninS ne23 nin0))
      refine Go.st (fun _ kt => XS.iconst X29.here hx rfl (hb hby at_123) (XS.aload X29.here hx rfl (hb hby at_124) rfl rfl (XS.iconst X29.here hx rfl (hb hby at_126) (aryLdJ X29 hx hZ e29 f30 (j := (0 : Int32)) (i := 0) ⟨by decide, by decide⟩ (by decide) (g := (mkF m 127 #[.val (.int rc), .val (.int bb), .val (.int ii), .val (.long x0), .second, .val (.long x1), .second, .val (.long x2), .second, .val (.int (Int32.ofNat R)), .val (.int (1 : Int32)), .val (.ref b1), .val (.int (Int32.ofNat (R % 64))), .val (.long mk), .second, .val (.ref b22), .unset, .unset, .unset, .unset, .unset, .unset, .unset] [(.int (0 : Int32)), (.ref b1), (.int (0 : Int32)), (.ref t25)])) rfl rfl (hb hby at_127) _ kt)))) ?_
      show Go p e below P (T29.setTop (mkF m 128 #[.val (.int rc), .val (.int bb), .val (.int ii), .val (.long x0), .second, .val (.long x1), .second, .val (.long x2), .second, .val (.int (Int32.ofNat R)), .val (.int (1 : Int32)), .val (.ref b1), .val (.int (Int32.ofNat (R % 64))), .val (.long mk), .second, .val (.ref b22), .unset, .unset, .unset, .unset, .unset, .unset, .unset] [(.long (x0 &&& mk)), (.int (0 : Int32)), (.ref t25)]))
      have ne32 := Ary.ne Vj25 Ei25 (hw _ (List.mem_of_getElem? (i := 4) rfl))
      obtain ⟨T31, h31, X31, e31, W31, V31, st31⟩ := aryStJ X29 hx hZ e29 Vj25 (j := (0 : Int32)) (x := (x0 &&& mk)) (i := 0) ⟨by decide, by decide⟩ (by decide) (g := (mkF m 128 #[.val (.int rc), .val (.int bb), .val (.int ii), .val (.long x0), .second, .val (.long x1), .second, .val (.long x2), .second, .val (.int (Int32.ofNat R)), .val (.int (1 : Int32)), .val (.ref b1), .val (.int (Int32.ofNat (R % 64))), .val (.long mk), .second, .val (.ref b22), .unset, .unset, .unset, .unset, .unset, .unset, .unset] [(.long (x0 &&& mk)), (.int (0 : Int32)), (.ref t25)])) rfl rfl (hb hby at_128)
      have Z33 : n0 ≤ h31.size := by rw [W31.size]; exact Z27
      have N34 := Fr.snoc X31 N25 Gt25
      refine Go.st st31 ?_
      show Go p e below P (T31.setTop (mkF m 129 #[.val (.int rc), .val (.int bb), .val (.int ii), .val (.long x0), .second, .val (.long x1), .second, .val (.long x2), .second, .val (.int (Int32.ofNat R)), .val (.int (1 : Int32)), .val (.ref b1), .val (.int (Int32.ofNat (R % 64))), .val (.long mk), .second, .val (.ref b22), .unset, .unset, .unset, .unset, .unset, .unset, .unset] []))
      refine Go.st (fun _ kt => XS.iload X31.here hx rfl (hb hby at_129) rfl (XS.iconst X31.here hx rfl (hb hby at_131) (XS.icmpYes X31.here hx rfl (pc0 := 132) (pc' := 146) rfl (hb hby at_132) rfl (flt (by decide : ¬ ((1 : Int32) < (1 : Int32)))).2.2.2 (by decide) (by decide) (XS.iload X31.here hx rfl (hb hby at_146) rfl (XS.iconst X31.here hx rfl (hb hby at_148) (XS.icmpYes X31.here hx rfl (pc0 := 149) (pc' := 163) rfl (hb hby at_149) rfl (flt (by decide : ¬ ((2 : Int32) < (1 : Int32)))).2.2.2 (by decide) (by decide) (XS.iloadN X31.here hx rfl (hb hby at_163) rfl (X31.ldcInt hx hown (mvT hZ (hw _ (List.mem_of_getElem? (i := 0) rfl))) (g := (mkF m 164 #[.val (.int rc), .val (.int bb), .val (.int ii), .val (.long x0), .second, .val (.long x1), .second, .val (.long x2), .second, .val (.int (Int32.ofNat R)), .val (.int (1 : Int32)), .val (.ref b1), .val (.int (Int32.ofNat (R % 64))), .val (.long mk), .second, .val (.ref b22), .unset, .unset, .unset, .unset, .unset, .unset, .unset] [(.int bb)])) rfl (hb hby at_164) _ kt)))))))) ?_
      show Go p e below P (T31.setTop (mkF m 166 #[.val (.int rc), .val (.int bb), .val (.int ii), .val (.long x0), .second, .val (.long x1), .second, .val (.long x2), .second, .val (.int (Int32.ofNat R)), .val (.int (1 : Int32)), .val (.ref b1), .val (.int (Int32.ofNat (R % 64))), .val (.long mk), .second, .val (.ref b22), .unset, .unset, .unset, .unset, .unset, .unset, .unset] [(.int (2147483647 : Int32)), (.int bb)]))
      refine Go.st (fun _ kt => XS.iand X31.here hx rfl (hb hby at_166) rfl (XS.iload X31.here hx rfl (hb hby at_167) rfl (iremM X31 hx rfl (hb hby at_169) rfl (own_nz (by rw [own_tn (by omega)]; omega)) kt))) ?_
      show Go p e below P (T31.setTop (mkF m 170 #[.val (.int rc), .val (.int bb), .val (.int ii), .val (.long x0), .second, .val (.long x1), .second, .val (.long x2), .second, .val (.int (Int32.ofNat R)), .val (.int (1 : Int32)), .val (.ref b1), .val (.int (Int32.ofNat (R % 64))), .val (.long mk), .second, .val (.ref b22), .unset, .unset, .unset, .unset, .unset, .unset, .unset] [(.int ((bb &&& (2147483647 : Int32)) % (Int32.ofNat R)))]))
      obtain ⟨B, hB, hBR⟩ := own_B bb hR1 hR2
      rw [hB]
      show Go p e below P (T31.setTop (mkF m 170 #[.val (.int rc), .val (.int bb), .val (.int ii), .val (.long x0), .second, .val (.long x1), .second, .val (.long x2), .second, .val (.int (Int32.ofNat R)), .val (.int (1 : Int32)), .val (.ref b1), .val (.int (Int32.ofNat (R % 64))), .val (.long mk), .second, .val (.ref b22), .unset, .unset, .unset, .unset, .unset, .unset, .unset] [(.int (Int32.ofNat B))]))
      refine Go.st (fun _ kt => XS.istore X31.here hx rfl (hb hby at_170) rfl (l' := #[.val (.int rc), .val (.int bb), .val (.int ii), .val (.long x0), .second, .val (.long x1), .second, .val (.long x2), .second, .val (.int (Int32.ofNat R)), .val (.int (1 : Int32)), .val (.ref b1), .val (.int (Int32.ofNat (R % 64))), .val (.long mk), .second, .val (.ref b22), .val (.int (Int32.ofNat B)), .unset, .unset, .unset, .unset, .unset, .unset]) rfl (XS.iloadN X31.here hx rfl (hb hby at_172) rfl (XS.bipush X31.here hx rfl (hb hby at_173) (XS.iand X31.here hx rfl (hb hby at_175) rfl kt)))) ?_
      show Go p e below P (T31.setTop (mkF m 176 #[.val (.int rc), .val (.int bb), .val (.int ii), .val (.long x0), .second, .val (.long x1), .second, .val (.long x2), .second, .val (.int (Int32.ofNat R)), .val (.int (1 : Int32)), .val (.ref b1), .val (.int (Int32.ofNat (R % 64))), .val (.long mk), .second, .val (.ref b22), .val (.int (Int32.ofNat B)), .unset, .unset, .unset, .unset, .unset, .unset] [(.int (ii &&& (63 : Int32)))]))
      obtain ⟨K, hK, hK64⟩ := own_63 ii
      rw [hK]
      show Go p e below P (T31.setTop (mkF m 176 #[.val (.int rc), .val (.int bb), .val (.int ii), .val (.long x0), .second, .val (.long x1), .second, .val (.long x2), .second, .val (.int (Int32.ofNat R)), .val (.int (1 : Int32)), .val (.ref b1), .val (.int (Int32.ofNat (R % 64))), .val (.long mk), .second, .val (.ref b22), .val (.int (Int32.ofNat B)), .unset, .unset, .unset, .unset, .unset, .unset] [(.int (Int32.ofNat K))]))
      refine Go.st (fun _ kt => XS.istore X31.here hx rfl (hb hby at_176) rfl (l' := #[.val (.int rc), .val (.int bb), .val (.int ii), .val (.long x0), .second, .val (.long x1), .second, .val (.long x2), .second, .val (.int (Int32.ofNat R)), .val (.int (1 : Int32)), .val (.ref b1), .val (.int (Int32.ofNat (R % 64))), .val (.long mk), .second, .val (.ref b22), .val (.int (Int32.ofNat B)), .val (.int (Int32.ofNat K)), .unset, .unset, .unset, .unset, .unset]) rfl (XS.aload X31.here hx rfl (hb hby at_178) rfl rfl (XS.iload X31.here hx rfl (hb hby at_180) rfl kt))) ?_
      show Go p e below P (T31.setTop (mkF m 182 #[.val (.int rc), .val (.int bb), .val (.int ii), .val (.long x0), .second, .val (.long x1), .second, .val (.long x2), .second, .val (.int (Int32.ofNat R)), .val (.int (1 : Int32)), .val (.ref b1), .val (.int (Int32.ofNat (R % 64))), .val (.long mk), .second, .val (.ref b22), .val (.int (Int32.ofNat B)), .val (.int (Int32.ofNat K)), .unset, .unset, .unset, .unset, .unset] [(.int (Int32.ofNat B)), (.ref b22)]))
      have f36 := (Fi25.other W31 (Or.inl ne32))
      have f37 := (Ei25.wr W31)
      obtain ⟨_, T35, Lc35, X35, ⟨g, rfl, Nq35, eq35, hg⟩, st35⟩ := callCv X31 hx hZ e31 (y := (⟨"com/example/numtrie/numtrie/index/RecordSet", "wordFrom", "(I)J"⟩ : MethodName)) (a := b22) (argsL := [(.int (Int32.ofNat B))]) (rest := []) hown (hw _ (List.mem_of_getElem? (i := 23) rfl)) (hw _ (List.mem_of_getElem? (i := 24) rfl)) (hw _ (List.mem_of_getElem? (i := 26) rfl)) (hw _ (List.mem_of_getElem? (i := 25) rfl)) (hw _ (List.mem_of_getElem? (i := 5) rfl)) (hw _ (List.mem_of_getElem? (i := 27) rfl)) (by decide) f37 (rmW l Z a0 hw b22 (Int32.ofNat B) t25 1 B _ _ n0 Z33 f36 V31 rfl (by decide) (by omega)) (W := 0) (by decide) (by decide) (g := (mkF m 182 #[.val (.int rc), .val (.int bb), .val (.int ii), .val (.long x0), .second, .val (.long x1), .second, .val (.long x2), .second, .val (.int (Int32.ofNat R)), .val (.int (1 : Int32)), .val (.ref b1), .val (.int (Int32.ofNat (R % 64))), .val (.long mk), .second, .val (.ref b22), .val (.int (Int32.ofNat B)), .val (.int (Int32.ofNat K)), .unset, .unset, .unset, .unset, .unset] [(.int (Int32.ofNat B)), (.ref b22)])) rfl (by rw [hml]; rfl) (lenOf pd_3 rfl) rfl (by show 2 * 0 + _ ≤ _; exact Nat.le_of_eq rfl) (hb hby at_182) (by decide) (by decide)
      have N35 := Fr.app N34 Nq35
      have e35 : T35.heap = h31 := eq35
      refine Go.st st35 ?_
      show Go p e below P (T35.setTop (mkF m 185 #[.val (.int rc), .val (.int bb), .val (.int ii), .val (.long x0), .second, .val (.long x1), .second, .val (.long x2), .second, .val (.int (Int32.ofNat R)), .val (.int (1 : Int32)), .val (.ref b1), .val (.int (Int32.ofNat (R % 64))), .val (.long mk), .second, .val (.ref b22), .val (.int (Int32.ofNat B)), .val (.int (Int32.ofNat K)), .unset, .unset, .unset, .unset, .unset] [(.long g)]))
      have hkey := (hg K hK64).trans (own_key (g := (upd (upd (upd (upd (upd (upd (fun _ => (0 : Int64)) 0 x0) 1 x1) 2 x2) 0 (x0 &&& mk)) 2 (0 : Int64)) 1 (0 : Int64))) hN hR1 hBR hK64 (fun j hj t ht hRt => by
        obtain ⟨rfl, h2⟩ : j = 0 ∧ ¬ (R % 64 = 0 ∨ t < R % 64) := by omega
        show own_tb (x0 &&& mk) t = false
        rw [own_tb_and, hmk t ht]; simp only [h2, decide_false, Bool.and_false]) (fun j hj => by
        rcases (by omega : j = 0) with rfl <;> rfl))
      clear hg
      refine Go.st (fun _ kt => XS.lstore X35.here hx rfl (hb hby at_185) rfl (l' := #[.val (.int rc), .val (.int bb), .val (.int ii), .val (.long x0), .second, .val (.long x1), .second, .val (.long x2), .second, .val (.int (Int32.ofNat R)), .val (.int (1 : Int32)), .val (.ref b1), .val (.int (Int32.ofNat (R % 64))), .val (.long mk), .second, .val (.ref b22), .val (.int (Int32.ofNat B)), .val (.int (Int32.ofNat K)), .val (.long g), .second, .unset, .unset, .unset]) rfl (XS.iload X35.here hx rfl (hb hby at_187) rfl (XS.iload X35.here hx rfl (hb hby at_189) rfl (XS.iadd X35.here hx rfl (hb hby at_191) rfl kt)))) ?_
      show Go p e below P (T35.setTop (mkF m 192 #[.val (.int rc), .val (.int bb), .val (.int ii), .val (.long x0), .second, .val (.long x1), .second, .val (.long x2), .second, .val (.int (Int32.ofNat R)), .val (.int (1 : Int32)), .val (.ref b1), .val (.int (Int32.ofNat (R % 64))), .val (.long mk), .second, .val (.ref b22), .val (.int (Int32.ofNat B)), .val (.int (Int32.ofNat K)), .val (.long g), .second, .unset, .unset, .unset] [(.int ((Int32.ofNat B) + (Int32.ofNat K)))]))
      rw [show Int32.ofNat B + Int32.ofNat K = Int32.ofNat (B + K) from by rw [Int32.ofNat_add]]
      show Go p e below P (T35.setTop (mkF m 192 #[.val (.int rc), .val (.int bb), .val (.int ii), .val (.long x0), .second, .val (.long x1), .second, .val (.long x2), .second, .val (.int (Int32.ofNat R)), .val (.int (1 : Int32)), .val (.ref b1), .val (.int (Int32.ofNat (R % 64))), .val (.long mk), .second, .val (.ref b22), .val (.int (Int32.ofNat B)), .val (.int (Int32.ofNat K)), .val (.long g), .second, .unset, .unset, .unset] [(.int (Int32.ofNat (B + K)))]))
      refine Go.st (fun _ kt => XS.istore X35.here hx rfl (hb hby at_192) rfl (l' := #[.val (.int rc), .val (.int bb), .val (.int ii), .val (.long x0), .second, .val (.long x1), .second, .val (.long x2), .second, .val (.int (Int32.ofNat R)), .val (.int (1 : Int32)), .val (.ref b1), .val (.int (Int32.ofNat (R % 64))), .val (.long mk), .second, .val (.ref b22), .val (.int (Int32.ofNat B)), .val (.int (Int32.ofNat K)), .val (.long g), .second, .val (.int (Int32.ofNat (B + K))), .unset, .unset]) rfl (XS.iload X35.here hx rfl (hb hby at_194) rfl (XS.iload X35.here hx rfl (hb hby at_196) rfl kt))) ?_
      show Go p e below P (T35.setTop (mkF m 198 #[.val (.int rc), .val (.int bb), .val (.int ii), .val (.long x0), .second, .val (.long x1), .second, .val (.long x2), .second, .val (.int (Int32.ofNat R)), .val (.int (1 : Int32)), .val (.ref b1), .val (.int (Int32.ofNat (R % 64))), .val (.long mk), .second, .val (.ref b22), .val (.int (Int32.ofNat B)), .val (.int (Int32.ofNat K)), .val (.long g), .second, .val (.int (Int32.ofNat (B + K))), .unset, .unset] [(.int (Int32.ofNat R)), (.int (Int32.ofNat (B + K)))]))
      by_cases hp38 : (Int32.ofNat (B + K)) < (Int32.ofNat R)
      · refine Go.st (fun _ kt => XS.icmpNo X35.here hx rfl (hb hby at_198) rfl (tlt hp38).2.1 kt) ?_
        show Go p e below P (T35.setTop (mkF m 201 #[.val (.int rc), .val (.int bb), .val (.int ii), .val (.long x0), .second, .val (.long x1), .second, .val (.long x2), .second, .val (.int (Int32.ofNat R)), .val (.int (1 : Int32)), .val (.ref b1), .val (.int (Int32.ofNat (R % 64))), .val (.long mk), .second, .val (.ref b22), .val (.int (Int32.ofNat B)), .val (.int (Int32.ofNat K)), .val (.long g), .second, .val (.int (Int32.ofNat (B + K))), .unset, .unset] []))
        have f39 := (f30.other W31 ne28)
        refine Go.st (fun _ kt => XS.aload X35.here hx rfl (hb hby at_201) rfl rfl (XS.iload X35.here hx rfl (hb hby at_203) rfl (XS.bipush X35.here hx rfl (hb hby at_205) (XS.iushr X35.here hx rfl (hb hby at_207) rfl (aryLdJ X35 hx hZ e35 f39 (j := (((Int32.ofNat (B + K)).toUInt32 >>> ((6 : Int32) &&& 31).toUInt32).toInt32)) (i := ((B + K) / 64)) (by rw [own_div ⟨B + K, by omega⟩]; exact isN_ofNat (by omega)) (by have q := hp38; rw [own_ltN (by omega) (by omega)] at q; omega) (g := (mkF m 208 #[.val (.int rc), .val (.int bb), .val (.int ii), .val (.long x0), .second, .val (.long x1), .second, .val (.long x2), .second, .val (.int (Int32.ofNat R)), .val (.int (1 : Int32)), .val (.ref b1), .val (.int (Int32.ofNat (R % 64))), .val (.long mk), .second, .val (.ref b22), .val (.int (Int32.ofNat B)), .val (.int (Int32.ofNat K)), .val (.long g), .second, .val (.int (Int32.ofNat (B + K))), .unset, .unset] [(.int (((Int32.ofNat (B + K)).toUInt32 >>> ((6 : Int32) &&& 31).toUInt32).toInt32)), (.ref b1)])) rfl rfl (hb hby at_208) _ (XS.iload X35.here hx rfl (hb hby at_209) rfl (XS.bipush X35.here hx rfl (hb hby at_211) (XS.iand X35.here hx rfl (hb hby at_213) rfl kt)))))))) ?_
        show Go p e below P (T35.setTop (mkF m 214 #[.val (.int rc), .val (.int bb), .val (.int ii), .val (.long x0), .second, .val (.long x1), .second, .val (.long x2), .second, .val (.int (Int32.ofNat R)), .val (.int (1 : Int32)), .val (.ref b1), .val (.int (Int32.ofNat (R % 64))), .val (.long mk), .second, .val (.ref b22), .val (.int (Int32.ofNat B)), .val (.int (Int32.ofNat K)), .val (.long g), .second, .val (.int (Int32.ofNat (B + K))), .unset, .unset] [(.int ((Int32.ofNat (B + K)) &&& (63 : Int32))), (.long ((upd (upd (upd (upd (upd (upd (fun _ => (0 : Int64)) 0 x0) 1 x1) 2 x2) 0 (x0 &&& mk)) 2 (0 : Int64)) 1 (0 : Int64)) ((B + K) / 64)))]))
        rw [own_mod ⟨B + K, by omega⟩]
        show Go p e below P (T35.setTop (mkF m 214 #[.val (.int rc), .val (.int bb), .val (.int ii), .val (.long x0), .second, .val (.long x1), .second, .val (.long x2), .second, .val (.int (Int32.ofNat R)), .val (.int (1 : Int32)), .val (.ref b1), .val (.int (Int32.ofNat (R % 64))), .val (.long mk), .second, .val (.ref b22), .val (.int (Int32.ofNat B)), .val (.int (Int32.ofNat K)), .val (.long g), .second, .val (.int (Int32.ofNat (B + K))), .unset, .unset] [(.int (Int32.ofNat ((B + K) % 64))), (.long ((upd (upd (upd (upd (upd (upd (fun _ => (0 : Int64)) 0 x0) 1 x1) 2 x2) 0 (x0 &&& mk)) 2 (0 : Int64)) 1 (0 : Int64)) ((B + K) / 64)))]))
        refine Go.st (fun _ kt => XS.lushr X35.here hx rfl (hb hby at_214) rfl (XS.lconst X35.here hx rfl (hb hby at_215) (XS.land X35.here hx rfl (hb hby at_216) rfl (XS.lconst X35.here hx rfl (hb hby at_217) (XS.lcmp X35.here hx rfl (hb hby at_218) rfl kt))))) ?_
        show Go p e below P (T35.setTop (mkF m 219 #[.val (.int rc), .val (.int bb), .val (.int ii), .val (.long x0), .second, .val (.long x1), .second, .val (.long x2), .second, .val (.int (Int32.ofNat R)), .val (.int (1 : Int32)), .val (.ref b1), .val (.int (Int32.ofNat (R % 64))), .val (.long mk), .second, .val (.ref b22), .val (.int (Int32.ofNat B)), .val (.int (Int32.ofNat K)), .val (.long g), .second, .val (.int (Int32.ofNat (B + K))), .unset, .unset] [(.int (lcmpW (((((upd (upd (upd (upd (upd (upd (fun _ => (0 : Int64)) 0 x0) 1 x1) 2 x2) 0 (x0 &&& mk)) 2 (0 : Int64)) 1 (0 : Int64)) ((B + K) / 64)).toUInt64 >>> ((Int32.ofNat ((B + K) % 64)) &&& 0x3f).toInt64.toUInt64).toInt64) &&& (1 : Int64)) (0 : Int64)))]))
        by_cases hx40 : (lcmpW (((((upd (upd (upd (upd (upd (upd (fun _ => (0 : Int64)) 0 x0) 1 x1) 2 x2) 0 (x0 &&& mk)) 2 (0 : Int64)) 1 (0 : Int64)) ((B + K) / 64)).toUInt64 >>> ((Int32.ofNat ((B + K) % 64)) &&& 0x3f).toInt64.toUInt64).toInt64) &&& (1 : Int64)) (0 : Int64)) = (0 : Int32)
        · refine Go.st (fun _ kt => XS.ifYes X35.here hx rfl (pc0 := 219) (pc' := 226) rfl (hb hby at_219) rfl ((if0 _ _).trans (teq hx40).1) (by decide) (by decide) kt) ?_
          show Go p e below P (T35.setTop (mkF m 226 #[.val (.int rc), .val (.int bb), .val (.int ii), .val (.long x0), .second, .val (.long x1), .second, .val (.long x2), .second, .val (.int (Int32.ofNat R)), .val (.int (1 : Int32)), .val (.ref b1), .val (.int (Int32.ofNat (R % 64))), .val (.long mk), .second, .val (.ref b22), .val (.int (Int32.ofNat B)), .val (.int (Int32.ofNat K)), .val (.long g), .second, .val (.int (Int32.ofNat (B + K))), .unset, .unset] []))
          refine Go.st (fun _ kt => XS.iconst X35.here hx rfl (hb hby at_226) (XS.istore X35.here hx rfl (hb hby at_227) rfl (l' := #[.val (.int rc), .val (.int bb), .val (.int ii), .val (.long x0), .second, .val (.long x1), .second, .val (.long x2), .second, .val (.int (Int32.ofNat R)), .val (.int (1 : Int32)), .val (.ref b1), .val (.int (Int32.ofNat (R % 64))), .val (.long mk), .second, .val (.ref b22), .val (.int (Int32.ofNat B)), .val (.int (Int32.ofNat K)), .val (.long g), .second, .val (.int (Int32.ofNat (B + K))), .val (.int (0 : Int32)), .unset]) rfl (XS.lload X35.here hx rfl (hb hby at_229) rfl (XS.iload X35.here hx rfl (hb hby at_231) rfl (XS.lushr X35.here hx rfl (hb hby at_233) rfl (XS.lconst X35.here hx rfl (hb hby at_234) (XS.land X35.here hx rfl (hb hby at_235) rfl (XS.lconst X35.here hx rfl (hb hby at_236) kt)))))))) ?_
          show Go p e below P (T35.setTop (mkF m 237 #[.val (.int rc), .val (.int bb), .val (.int ii), .val (.long x0), .second, .val (.long x1), .second, .val (.long x2), .second, .val (.int (Int32.ofNat R)), .val (.int (1 : Int32)), .val (.ref b1), .val (.int (Int32.ofNat (R % 64))), .val (.long mk), .second, .val (.ref b22), .val (.int (Int32.ofNat B)), .val (.int (Int32.ofNat K)), .val (.long g), .second, .val (.int (Int32.ofNat (B + K))), .val (.int (0 : Int32)), .unset] [(.long (0 : Int64)), (.long (((g.toUInt64 >>> ((Int32.ofNat K) &&& 0x3f).toInt64.toUInt64).toInt64) &&& (1 : Int64)))]))
          refine Go.st (fun _ kt => XS.lcmp X35.here hx rfl (hb hby at_237) rfl kt) ?_
          show Go p e below P (T35.setTop (mkF m 238 #[.val (.int rc), .val (.int bb), .val (.int ii), .val (.long x0), .second, .val (.long x1), .second, .val (.long x2), .second, .val (.int (Int32.ofNat R)), .val (.int (1 : Int32)), .val (.ref b1), .val (.int (Int32.ofNat (R % 64))), .val (.long mk), .second, .val (.ref b22), .val (.int (Int32.ofNat B)), .val (.int (Int32.ofNat K)), .val (.long g), .second, .val (.int (Int32.ofNat (B + K))), .val (.int (0 : Int32)), .unset] [(.int (lcmpW (((g.toUInt64 >>> ((Int32.ofNat K) &&& 0x3f).toInt64.toUInt64).toInt64) &&& (1 : Int64)) (0 : Int64)))]))
          by_cases ha41 : (lcmpW (((g.toUInt64 >>> ((Int32.ofNat K) &&& 0x3f).toInt64.toUInt64).toInt64) &&& (1 : Int64)) (0 : Int64)) = (0 : Int32)
          · refine Go.st (fun _ kt => XS.ifYes X35.here hx rfl (pc0 := 238) (pc' := 245) rfl (hb hby at_238) rfl ((if0 _ _).trans (teq ha41).1) (by decide) (by decide) kt) ?_
            show Go p e below P (T35.setTop (mkF m 245 #[.val (.int rc), .val (.int bb), .val (.int ii), .val (.long x0), .second, .val (.long x1), .second, .val (.long x2), .second, .val (.int (Int32.ofNat R)), .val (.int (1 : Int32)), .val (.ref b1), .val (.int (Int32.ofNat (R % 64))), .val (.long mk), .second, .val (.ref b22), .val (.int (Int32.ofNat B)), .val (.int (Int32.ofNat K)), .val (.long g), .second, .val (.int (Int32.ofNat (B + K))), .val (.int (0 : Int32)), .unset] []))
            refine Go.st (fun _ kt => XS.iconst X35.here hx rfl (hb hby at_245) (XS.istore X35.here hx rfl (hb hby at_246) rfl (l' := #[.val (.int rc), .val (.int bb), .val (.int ii), .val (.long x0), .second, .val (.long x1), .second, .val (.long x2), .second, .val (.int (Int32.ofNat R)), .val (.int (1 : Int32)), .val (.ref b1), .val (.int (Int32.ofNat (R % 64))), .val (.long mk), .second, .val (.ref b22), .val (.int (Int32.ofNat B)), .val (.int (Int32.ofNat K)), .val (.long g), .second, .val (.int (Int32.ofNat (B + K))), .val (.int (0 : Int32)), .val (.int (0 : Int32))]) rfl (XS.iload X35.here hx rfl (hb hby at_248) rfl (XS.iload X35.here hx rfl (hb hby at_250) rfl (XS.icmpNo X35.here hx rfl (hb hby at_252) rfl (teq (by decide : (0 : Int32) = (0 : Int32))).2 (XS.iconst X35.here hx rfl (hb hby at_255) (XS.goto X35.here hx rfl (pc0 := 256) (pc' := 260) rfl (hb hby at_256) (by decide) (by decide) kt))))))) ?_
            show Go p e below P (T35.setTop (mkF m 260 #[.val (.int rc), .val (.int bb), .val (.int ii), .val (.long x0), .second, .val (.long x1), .second, .val (.long x2), .second, .val (.int (Int32.ofNat R)), .val (.int (1 : Int32)), .val (.ref b1), .val (.int (Int32.ofNat (R % 64))), .val (.long mk), .second, .val (.ref b22), .val (.int (Int32.ofNat B)), .val (.int (Int32.ofNat K)), .val (.long g), .second, .val (.int (Int32.ofNat (B + K))), .val (.int (0 : Int32)), .val (.int (0 : Int32))] [(.int (1 : Int32))]))
            exact goN X35 hx (t := .boolean) hret (by simp) hlk (hb hby at_260) hP (by decide) (by decide) ⟨rfl, N35⟩
          · refine Go.st (fun _ kt => XS.ifNo X35.here hx rfl (hb hby at_238) rfl ((if0 _ _).trans (feq ha41).1) kt) ?_
            show Go p e below P (T35.setTop (mkF m 241 #[.val (.int rc), .val (.int bb), .val (.int ii), .val (.long x0), .second, .val (.long x1), .second, .val (.long x2), .second, .val (.int (Int32.ofNat R)), .val (.int (1 : Int32)), .val (.ref b1), .val (.int (Int32.ofNat (R % 64))), .val (.long mk), .second, .val (.ref b22), .val (.int (Int32.ofNat B)), .val (.int (Int32.ofNat K)), .val (.long g), .second, .val (.int (Int32.ofNat (B + K))), .val (.int (0 : Int32)), .unset] []))
            refine Go.st (fun _ kt => XS.iconst X35.here hx rfl (hb hby at_241) (XS.goto X35.here hx rfl (pc0 := 242) (pc' := 246) rfl (hb hby at_242) (by decide) (by decide) (XS.istore X35.here hx rfl (hb hby at_246) rfl (l' := #[.val (.int rc), .val (.int bb), .val (.int ii), .val (.long x0), .second, .val (.long x1), .second, .val (.long x2), .second, .val (.int (Int32.ofNat R)), .val (.int (1 : Int32)), .val (.ref b1), .val (.int (Int32.ofNat (R % 64))), .val (.long mk), .second, .val (.ref b22), .val (.int (Int32.ofNat B)), .val (.int (Int32.ofNat K)), .val (.long g), .second, .val (.int (Int32.ofNat (B + K))), .val (.int (0 : Int32)), .val (.int (1 : Int32))]) rfl (XS.iload X35.here hx rfl (hb hby at_248) rfl (XS.iload X35.here hx rfl (hb hby at_250) rfl (XS.icmpYes X35.here hx rfl (pc0 := 252) (pc' := 259) rfl (hb hby at_252) rfl (feq (by decide : ¬ ((0 : Int32) = (1 : Int32)))).2 (by decide) (by decide) (XS.iconst X35.here hx rfl (hb hby at_259) kt))))))) ?_
            show Go p e below P (T35.setTop (mkF m 260 #[.val (.int rc), .val (.int bb), .val (.int ii), .val (.long x0), .second, .val (.long x1), .second, .val (.long x2), .second, .val (.int (Int32.ofNat R)), .val (.int (1 : Int32)), .val (.ref b1), .val (.int (Int32.ofNat (R % 64))), .val (.long mk), .second, .val (.ref b22), .val (.int (Int32.ofNat B)), .val (.int (Int32.ofNat K)), .val (.long g), .second, .val (.int (Int32.ofNat (B + K))), .val (.int (0 : Int32)), .val (.int (1 : Int32))] [(.int (0 : Int32))]))
            exfalso
            rw [own_ltN (by omega) (by omega)] at hp38
            rw [own_bit _ hK64, hkey] at ha41
            rw [own_bit _ (by omega)] at hx40
            simp [hp38] at ha41
            simp_all
        · refine Go.st (fun _ kt => XS.ifNo X35.here hx rfl (hb hby at_219) rfl ((if0 _ _).trans (feq hx40).1) kt) ?_
          show Go p e below P (T35.setTop (mkF m 222 #[.val (.int rc), .val (.int bb), .val (.int ii), .val (.long x0), .second, .val (.long x1), .second, .val (.long x2), .second, .val (.int (Int32.ofNat R)), .val (.int (1 : Int32)), .val (.ref b1), .val (.int (Int32.ofNat (R % 64))), .val (.long mk), .second, .val (.ref b22), .val (.int (Int32.ofNat B)), .val (.int (Int32.ofNat K)), .val (.long g), .second, .val (.int (Int32.ofNat (B + K))), .unset, .unset] []))
          refine Go.st (fun _ kt => XS.iconst X35.here hx rfl (hb hby at_222) (XS.goto X35.here hx rfl (pc0 := 223) (pc' := 227) rfl (hb hby at_223) (by decide) (by decide) (XS.istore X35.here hx rfl (hb hby at_227) rfl (l' := #[.val (.int rc), .val (.int bb), .val (.int ii), .val (.long x0), .second, .val (.long x1), .second, .val (.long x2), .second, .val (.int (Int32.ofNat R)), .val (.int (1 : Int32)), .val (.ref b1), .val (.int (Int32.ofNat (R % 64))), .val (.long mk), .second, .val (.ref b22), .val (.int (Int32.ofNat B)), .val (.int (Int32.ofNat K)), .val (.long g), .second, .val (.int (Int32.ofNat (B + K))), .val (.int (1 : Int32)), .unset]) rfl (XS.lload X35.here hx rfl (hb hby at_229) rfl (XS.iload X35.here hx rfl (hb hby at_231) rfl (XS.lushr X35.here hx rfl (hb hby at_233) rfl (XS.lconst X35.here hx rfl (hb hby at_234) (XS.land X35.here hx rfl (hb hby at_235) rfl kt)))))))) ?_
          show Go p e below P (T35.setTop (mkF m 236 #[.val (.int rc), .val (.int bb), .val (.int ii), .val (.long x0), .second, .val (.long x1), .second, .val (.long x2), .second, .val (.int (Int32.ofNat R)), .val (.int (1 : Int32)), .val (.ref b1), .val (.int (Int32.ofNat (R % 64))), .val (.long mk), .second, .val (.ref b22), .val (.int (Int32.ofNat B)), .val (.int (Int32.ofNat K)), .val (.long g), .second, .val (.int (Int32.ofNat (B + K))), .val (.int (1 : Int32)), .unset] [(.long (((g.toUInt64 >>> ((Int32.ofNat K) &&& 0x3f).toInt64.toUInt64).toInt64) &&& (1 : Int64)))]))
          refine Go.st (fun _ kt => XS.lconst X35.here hx rfl (hb hby at_236) (XS.lcmp X35.here hx rfl (hb hby at_237) rfl kt)) ?_
          show Go p e below P (T35.setTop (mkF m 238 #[.val (.int rc), .val (.int bb), .val (.int ii), .val (.long x0), .second, .val (.long x1), .second, .val (.long x2), .second, .val (.int (Int32.ofNat R)), .val (.int (1 : Int32)), .val (.ref b1), .val (.int (Int32.ofNat (R % 64))), .val (.long mk), .second, .val (.ref b22), .val (.int (Int32.ofNat B)), .val (.int (Int32.ofNat K)), .val (.long g), .second, .val (.int (Int32.ofNat (B + K))), .val (.int (1 : Int32)), .unset] [(.int (lcmpW (((g.toUInt64 >>> ((Int32.ofNat K) &&& 0x3f).toInt64.toUInt64).toInt64) &&& (1 : Int64)) (0 : Int64)))]))
          by_cases ha42 : (lcmpW (((g.toUInt64 >>> ((Int32.ofNat K) &&& 0x3f).toInt64.toUInt64).toInt64) &&& (1 : Int64)) (0 : Int64)) = (0 : Int32)
          · refine Go.st (fun _ kt => XS.ifYes X35.here hx rfl (pc0 := 238) (pc' := 245) rfl (hb hby at_238) rfl ((if0 _ _).trans (teq ha42).1) (by decide) (by decide) kt) ?_
            show Go p e below P (T35.setTop (mkF m 245 #[.val (.int rc), .val (.int bb), .val (.int ii), .val (.long x0), .second, .val (.long x1), .second, .val (.long x2), .second, .val (.int (Int32.ofNat R)), .val (.int (1 : Int32)), .val (.ref b1), .val (.int (Int32.ofNat (R % 64))), .val (.long mk), .second, .val (.ref b22), .val (.int (Int32.ofNat B)), .val (.int (Int32.ofNat K)), .val (.long g), .second, .val (.int (Int32.ofNat (B + K))), .val (.int (1 : Int32)), .unset] []))
            refine Go.st (fun _ kt => XS.iconst X35.here hx rfl (hb hby at_245) (XS.istore X35.here hx rfl (hb hby at_246) rfl (l' := #[.val (.int rc), .val (.int bb), .val (.int ii), .val (.long x0), .second, .val (.long x1), .second, .val (.long x2), .second, .val (.int (Int32.ofNat R)), .val (.int (1 : Int32)), .val (.ref b1), .val (.int (Int32.ofNat (R % 64))), .val (.long mk), .second, .val (.ref b22), .val (.int (Int32.ofNat B)), .val (.int (Int32.ofNat K)), .val (.long g), .second, .val (.int (Int32.ofNat (B + K))), .val (.int (1 : Int32)), .val (.int (0 : Int32))]) rfl (XS.iload X35.here hx rfl (hb hby at_248) rfl (XS.iload X35.here hx rfl (hb hby at_250) rfl (XS.icmpYes X35.here hx rfl (pc0 := 252) (pc' := 259) rfl (hb hby at_252) rfl (feq (by decide : ¬ ((1 : Int32) = (0 : Int32)))).2 (by decide) (by decide) (XS.iconst X35.here hx rfl (hb hby at_259) kt)))))) ?_
            show Go p e below P (T35.setTop (mkF m 260 #[.val (.int rc), .val (.int bb), .val (.int ii), .val (.long x0), .second, .val (.long x1), .second, .val (.long x2), .second, .val (.int (Int32.ofNat R)), .val (.int (1 : Int32)), .val (.ref b1), .val (.int (Int32.ofNat (R % 64))), .val (.long mk), .second, .val (.ref b22), .val (.int (Int32.ofNat B)), .val (.int (Int32.ofNat K)), .val (.long g), .second, .val (.int (Int32.ofNat (B + K))), .val (.int (1 : Int32)), .val (.int (0 : Int32))] [(.int (0 : Int32))]))
            exfalso
            rw [own_ltN (by omega) (by omega)] at hp38
            rw [own_bit _ hK64, hkey] at ha42
            rw [own_bit _ (by omega)] at hx40
            simp [hp38] at ha42
            simp_all
          · refine Go.st (fun _ kt => XS.ifNo X35.here hx rfl (hb hby at_238) rfl ((if0 _ _).trans (feq ha42).1) kt) ?_
            show Go p e below P (T35.setTop (mkF m 241 #[.val (.int rc), .val (.int bb), .val (.int ii), .val (.long x0), .second, .val (.long x1), .second, .val (.long x2), .second, .val (.int (Int32.ofNat R)), .val (.int (1 : Int32)), .val (.ref b1), .val (.int (Int32.ofNat (R % 64))), .val (.long mk), .second, .val (.ref b22), .val (.int (Int32.ofNat B)), .val (.int (Int32.ofNat K)), .val (.long g), .second, .val (.int (Int32.ofNat (B + K))), .val (.int (1 : Int32)), .unset] []))
            refine Go.st (fun _ kt => XS.iconst X35.here hx rfl (hb hby at_241) (XS.goto X35.here hx rfl (pc0 := 242) (pc' := 246) rfl (hb hby at_242) (by decide) (by decide) (XS.istore X35.here hx rfl (hb hby at_246) rfl (l' := #[.val (.int rc), .val (.int bb), .val (.int ii), .val (.long x0), .second, .val (.long x1), .second, .val (.long x2), .second, .val (.int (Int32.ofNat R)), .val (.int (1 : Int32)), .val (.ref b1), .val (.int (Int32.ofNat (R % 64))), .val (.long mk), .second, .val (.ref b22), .val (.int (Int32.ofNat B)), .val (.int (Int32.ofNat K)), .val (.long g), .second, .val (.int (Int32.ofNat (B + K))), .val (.int (1 : Int32)), .val (.int (1 : Int32))]) rfl (XS.iload X35.here hx rfl (hb hby at_248) rfl (XS.iload X35.here hx rfl (hb hby at_250) rfl (XS.icmpNo X35.here hx rfl (hb hby at_252) rfl (teq (by decide : (1 : Int32) = (1 : Int32))).2 (XS.iconst X35.here hx rfl (hb hby at_255) (XS.goto X35.here hx rfl (pc0 := 256) (pc' := 260) rfl (hb hby at_256) (by decide) (by decide) kt)))))))) ?_
            show Go p e below P (T35.setTop (mkF m 260 #[.val (.int rc), .val (.int bb), .val (.int ii), .val (.long x0), .second, .val (.long x1), .second, .val (.long x2), .second, .val (.int (Int32.ofNat R)), .val (.int (1 : Int32)), .val (.ref b1), .val (.int (Int32.ofNat (R % 64))), .val (.long mk), .second, .val (.ref b22), .val (.int (Int32.ofNat B)), .val (.int (Int32.ofNat K)), .val (.long g), .second, .val (.int (Int32.ofNat (B + K))), .val (.int (1 : Int32)), .val (.int (1 : Int32))] [(.int (1 : Int32))]))
            exact goN X35 hx (t := .boolean) hret (by simp) hlk (hb hby at_260) hP (by decide) (by decide) ⟨rfl, N35⟩
      · refine Go.st (fun _ kt => XS.icmpYes X35.here hx rfl (pc0 := 198) (pc' := 226) rfl (hb hby at_198) rfl (flt hp38).2.1 (by decide) (by decide) kt) ?_
        show Go p e below P (T35.setTop (mkF m 226 #[.val (.int rc), .val (.int bb), .val (.int ii), .val (.long x0), .second, .val (.long x1), .second, .val (.long x2), .second, .val (.int (Int32.ofNat R)), .val (.int (1 : Int32)), .val (.ref b1), .val (.int (Int32.ofNat (R % 64))), .val (.long mk), .second, .val (.ref b22), .val (.int (Int32.ofNat B)), .val (.int (Int32.ofNat K)), .val (.long g), .second, .val (.int (Int32.ofNat (B + K))), .unset, .unset] []))
        refine Go.st (fun _ kt => XS.iconst X35.here hx rfl (hb hby at_226) (XS.istore X35.here hx rfl (hb hby at_227) rfl (l' := #[.val (.int rc), .val (.int bb), .val (.int ii), .val (.long x0), .second, .val (.long x1), .second, .val (.long x2), .second, .val (.int (Int32.ofNat R)), .val (.int (1 : Int32)), .val (.ref b1), .val (.int (Int32.ofNat (R % 64))), .val (.long mk), .second, .val (.ref b22), .val (.int (Int32.ofNat B)), .val (.int (Int32.ofNat K)), .val (.long g), .second, .val (.int (Int32.ofNat (B + K))), .val (.int (0 : Int32)), .unset]) rfl (XS.lload X35.here hx rfl (hb hby at_229) rfl (XS.iload X35.here hx rfl (hb hby at_231) rfl (XS.lushr X35.here hx rfl (hb hby at_233) rfl (XS.lconst X35.here hx rfl (hb hby at_234) (XS.land X35.here hx rfl (hb hby at_235) rfl (XS.lconst X35.here hx rfl (hb hby at_236) kt)))))))) ?_
        show Go p e below P (T35.setTop (mkF m 237 #[.val (.int rc), .val (.int bb), .val (.int ii), .val (.long x0), .second, .val (.long x1), .second, .val (.long x2), .second, .val (.int (Int32.ofNat R)), .val (.int (1 : Int32)), .val (.ref b1), .val (.int (Int32.ofNat (R % 64))), .val (.long mk), .second, .val (.ref b22), .val (.int (Int32.ofNat B)), .val (.int (Int32.ofNat K)), .val (.long g), .second, .val (.int (Int32.ofNat (B + K))), .val (.int (0 : Int32)), .unset] [(.long (0 : Int64)), (.long (((g.toUInt64 >>> ((Int32.ofNat K) &&& 0x3f).toInt64.toUInt64).toInt64) &&& (1 : Int64)))]))
        refine Go.st (fun _ kt => XS.lcmp X35.here hx rfl (hb hby at_237) rfl kt) ?_
        show Go p e below P (T35.setTop (mkF m 238 #[.val (.int rc), .val (.int bb), .val (.int ii), .val (.long x0), .second, .val (.long x1), .second, .val (.long x2), .second, .val (.int (Int32.ofNat R)), .val (.int (1 : Int32)), .val (.ref b1), .val (.int (Int32.ofNat (R % 64))), .val (.long mk), .second, .val (.ref b22), .val (.int (Int32.ofNat B)), .val (.int (Int32.ofNat K)), .val (.long g), .second, .val (.int (Int32.ofNat (B + K))), .val (.int (0 : Int32)), .unset] [(.int (lcmpW (((g.toUInt64 >>> ((Int32.ofNat K) &&& 0x3f).toInt64.toUInt64).toInt64) &&& (1 : Int64)) (0 : Int64)))]))
        by_cases ha43 : (lcmpW (((g.toUInt64 >>> ((Int32.ofNat K) &&& 0x3f).toInt64.toUInt64).toInt64) &&& (1 : Int64)) (0 : Int64)) = (0 : Int32)
        · refine Go.st (fun _ kt => XS.ifYes X35.here hx rfl (pc0 := 238) (pc' := 245) rfl (hb hby at_238) rfl ((if0 _ _).trans (teq ha43).1) (by decide) (by decide) kt) ?_
          show Go p e below P (T35.setTop (mkF m 245 #[.val (.int rc), .val (.int bb), .val (.int ii), .val (.long x0), .second, .val (.long x1), .second, .val (.long x2), .second, .val (.int (Int32.ofNat R)), .val (.int (1 : Int32)), .val (.ref b1), .val (.int (Int32.ofNat (R % 64))), .val (.long mk), .second, .val (.ref b22), .val (.int (Int32.ofNat B)), .val (.int (Int32.ofNat K)), .val (.long g), .second, .val (.int (Int32.ofNat (B + K))), .val (.int (0 : Int32)), .unset] []))
          refine Go.st (fun _ kt => XS.iconst X35.here hx rfl (hb hby at_245) (XS.istore X35.here hx rfl (hb hby at_246) rfl (l' := #[.val (.int rc), .val (.int bb), .val (.int ii), .val (.long x0), .second, .val (.long x1), .second, .val (.long x2), .second, .val (.int (Int32.ofNat R)), .val (.int (1 : Int32)), .val (.ref b1), .val (.int (Int32.ofNat (R % 64))), .val (.long mk), .second, .val (.ref b22), .val (.int (Int32.ofNat B)), .val (.int (Int32.ofNat K)), .val (.long g), .second, .val (.int (Int32.ofNat (B + K))), .val (.int (0 : Int32)), .val (.int (0 : Int32))]) rfl (XS.iload X35.here hx rfl (hb hby at_248) rfl (XS.iload X35.here hx rfl (hb hby at_250) rfl (XS.icmpNo X35.here hx rfl (hb hby at_252) rfl (teq (by decide : (0 : Int32) = (0 : Int32))).2 (XS.iconst X35.here hx rfl (hb hby at_255) (XS.goto X35.here hx rfl (pc0 := 256) (pc' := 260) rfl (hb hby at_256) (by decide) (by decide) kt))))))) ?_
          show Go p e below P (T35.setTop (mkF m 260 #[.val (.int rc), .val (.int bb), .val (.int ii), .val (.long x0), .second, .val (.long x1), .second, .val (.long x2), .second, .val (.int (Int32.ofNat R)), .val (.int (1 : Int32)), .val (.ref b1), .val (.int (Int32.ofNat (R % 64))), .val (.long mk), .second, .val (.ref b22), .val (.int (Int32.ofNat B)), .val (.int (Int32.ofNat K)), .val (.long g), .second, .val (.int (Int32.ofNat (B + K))), .val (.int (0 : Int32)), .val (.int (0 : Int32))] [(.int (1 : Int32))]))
          exact goN X35 hx (t := .boolean) hret (by simp) hlk (hb hby at_260) hP (by decide) (by decide) ⟨rfl, N35⟩
        · refine Go.st (fun _ kt => XS.ifNo X35.here hx rfl (hb hby at_238) rfl ((if0 _ _).trans (feq ha43).1) kt) ?_
          show Go p e below P (T35.setTop (mkF m 241 #[.val (.int rc), .val (.int bb), .val (.int ii), .val (.long x0), .second, .val (.long x1), .second, .val (.long x2), .second, .val (.int (Int32.ofNat R)), .val (.int (1 : Int32)), .val (.ref b1), .val (.int (Int32.ofNat (R % 64))), .val (.long mk), .second, .val (.ref b22), .val (.int (Int32.ofNat B)), .val (.int (Int32.ofNat K)), .val (.long g), .second, .val (.int (Int32.ofNat (B + K))), .val (.int (0 : Int32)), .unset] []))
          refine Go.st (fun _ kt => XS.iconst X35.here hx rfl (hb hby at_241) (XS.goto X35.here hx rfl (pc0 := 242) (pc' := 246) rfl (hb hby at_242) (by decide) (by decide) (XS.istore X35.here hx rfl (hb hby at_246) rfl (l' := #[.val (.int rc), .val (.int bb), .val (.int ii), .val (.long x0), .second, .val (.long x1), .second, .val (.long x2), .second, .val (.int (Int32.ofNat R)), .val (.int (1 : Int32)), .val (.ref b1), .val (.int (Int32.ofNat (R % 64))), .val (.long mk), .second, .val (.ref b22), .val (.int (Int32.ofNat B)), .val (.int (Int32.ofNat K)), .val (.long g), .second, .val (.int (Int32.ofNat (B + K))), .val (.int (0 : Int32)), .val (.int (1 : Int32))]) rfl (XS.iload X35.here hx rfl (hb hby at_248) rfl (XS.iload X35.here hx rfl (hb hby at_250) rfl (XS.icmpYes X35.here hx rfl (pc0 := 252) (pc' := 259) rfl (hb hby at_252) rfl (feq (by decide : ¬ ((0 : Int32) = (1 : Int32)))).2 (by decide) (by decide) (XS.iconst X35.here hx rfl (hb hby at_259) kt))))))) ?_
          show Go p e below P (T35.setTop (mkF m 260 #[.val (.int rc), .val (.int bb), .val (.int ii), .val (.long x0), .second, .val (.long x1), .second, .val (.long x2), .second, .val (.int (Int32.ofNat R)), .val (.int (1 : Int32)), .val (.ref b1), .val (.int (Int32.ofNat (R % 64))), .val (.long mk), .second, .val (.ref b22), .val (.int (Int32.ofNat B)), .val (.int (Int32.ofNat K)), .val (.long g), .second, .val (.int (Int32.ofNat (B + K))), .val (.int (0 : Int32)), .val (.int (1 : Int32))] [(.int (0 : Int32))]))
          exfalso
          rw [own_ltN (by omega) (by omega)] at hp38
          rw [own_bit _ hK64, hkey] at ha43
          simp [hp38] at ha43
    · rw [hN]
      show Go p e below P (T9.setTop (mkF m 73 #[.val (.int rc), .val (.int bb), .val (.int ii), .val (.long x0), .second, .val (.long x1), .second, .val (.long x2), .second, .val (.int (Int32.ofNat R)), .val (.int (2 : Int32)), .val (.ref b1), .val (.int (Int32.ofNat (R % 64))), .val (.long mk), .second, .unset, .unset, .unset, .unset, .unset, .unset, .unset, .unset] []))
      refine Go.st (fun _ kt => XS.aload X9.here hx rfl (hb hby at_73) rfl rfl (XS.iload X9.here hx rfl (hb hby at_75) rfl (XS.iconst X9.here hx rfl (hb hby at_77) (XS.isub X9.here hx rfl (hb hby at_78) rfl kt)))) ?_
      show Go p e below P (T9.setTop (mkF m 79 #[.val (.int rc), .val (.int bb), .val (.int ii), .val (.long x0), .second, .val (.long x1), .second, .val (.long x2), .second, .val (.int (Int32.ofNat R)), .val (.int (2 : Int32)), .val (.ref b1), .val (.int (Int32.ofNat (R % 64))), .val (.long mk), .second, .unset, .unset, .unset, .unset, .unset, .unset, .unset, .unset] [(.int ((2 : Int32) - (1 : Int32))), (.ref b1)]))
      rw [show ((2 : Int32) - (1 : Int32)) = (1 : Int32) from by decide]
      show Go p e below P (T9.setTop (mkF m 79 #[.val (.int rc), .val (.int bb), .val (.int ii), .val (.long x0), .second, .val (.long x1), .second, .val (.long x2), .second, .val (.int (Int32.ofNat R)), .val (.int (2 : Int32)), .val (.ref b1), .val (.int (Int32.ofNat (R % 64))), .val (.long mk), .second, .unset, .unset, .unset, .unset, .unset, .unset, .unset, .unset] [(.int (1 : Int32)), (.ref b1)]))
      refine Go.st (fun _ kt => Jvm.Free.XT.dup2 X9.here hx rfl (hb hby at_79) rfl rfl rfl (aryLdJ X9 hx hZ e9 V9 (j := (1 : Int32)) (i := 1) ⟨by decide, by decide⟩ (by decide) (g := (mkF m 80 #[.val (.int rc), .val (.int bb), .val (.int ii), .val (.long x0), .second, .val (.long x1), .second, .val (.long x2), .second, .val (.int (Int32.ofNat R)), .val (.int (2 : Int32)), .val (.ref b1), .val (.int (Int32.ofNat (R % 64))), .val (.long mk), .second, .unset, .unset, .unset, .unset, .unset, .unset, .unset, .unset] [(.int (1 : Int32)), (.ref b1), (.int (1 : Int32)), (.ref b1)])) rfl rfl (hb hby at_80) _ (XS.lload X9.here hx rfl (hb hby at_81) rfl (XS.land X9.here hx rfl (hb hby at_83) rfl kt)))) ?_
      show Go p e below P (T9.setTop (mkF m 84 #[.val (.int rc), .val (.int bb), .val (.int ii), .val (.long x0), .second, .val (.long x1), .second, .val (.long x2), .second, .val (.int (Int32.ofNat R)), .val (.int (2 : Int32)), .val (.ref b1), .val (.int (Int32.ofNat (R % 64))), .val (.long mk), .second, .unset, .unset, .unset, .unset, .unset, .unset, .unset, .unset] [(.long (x1 &&& mk)), (.int (1 : Int32)), (.ref b1)]))
      obtain ⟨T44, h44, X44, e44, W44, V44, st44⟩ := aryStJ X9 hx hZ e9 V9 (j := (1 : Int32)) (x := (x1 &&& mk)) (i := 1) ⟨by decide, by decide⟩ (by decide) (g := (mkF m 84 #[.val (.int rc), .val (.int bb), .val (.int ii), .val (.long x0), .second, .val (.long x1), .second, .val (.long x2), .second, .val (.int (Int32.ofNat R)), .val (.int (2 : Int32)), .val (.ref b1), .val (.int (Int32.ofNat (R % 64))), .val (.long mk), .second, .unset, .unset, .unset, .unset, .unset, .unset, .unset, .unset] [(.long (x1 &&& mk)), (.int (1 : Int32)), (.ref b1)])) rfl rfl (hb hby at_84)
      have Z45 : n0 ≤ h44.size := by rw [W44.size]; exact Z10
      have N46 := Fr.snoc X44 N11 G1
      refine Go.st st44 ?_
      show Go p e below P (T44.setTop (mkF m 85 #[.val (.int rc), .val (.int bb), .val (.int ii), .val (.long x0), .second, .val (.long x1), .second, .val (.long x2), .second, .val (.int (Int32.ofNat R)), .val (.int (2 : Int32)), .val (.ref b1), .val (.int (Int32.ofNat (R % 64))), .val (.long mk), .second, .unset, .unset, .unset, .unset, .unset, .unset, .unset, .unset] []))
      refine Go.st (fun _ kt => XS.iload X44.here hx rfl (hb hby at_85) rfl (XS.iconst X44.here hx rfl (hb hby at_87) (XS.icmpNo X44.here hx rfl (hb hby at_88) rfl (tlt (by decide : (2 : Int32) < (3 : Int32))).2.1 (XS.aload X44.here hx rfl (hb hby at_91) rfl rfl (XS.iconst X44.here hx rfl (hb hby at_93) (XS.lconst X44.here hx rfl (hb hby at_94) kt)))))) ?_
      show Go p e below P (T44.setTop (mkF m 95 #[.val (.int rc), .val (.int bb), .val (.int ii), .val (.long x0), .second, .val (.long x1), .second, .val (.long x2), .second, .val (.int (Int32.ofNat R)), .val (.int (2 : Int32)), .val (.ref b1), .val (.int (Int32.ofNat (R % 64))), .val (.long mk), .second, .unset, .unset, .unset, .unset, .unset, .unset, .unset, .unset] [(.long (0 : Int64)), (.int (2 : Int32)), (.ref b1)]))
      obtain ⟨T47, h47, X47, e47, W47, V47, st47⟩ := aryStJ X44 hx hZ e44 V44 (j := (2 : Int32)) (x := (0 : Int64)) (i := 2) ⟨by decide, by decide⟩ (by decide) (g := (mkF m 95 #[.val (.int rc), .val (.int bb), .val (.int ii), .val (.long x0), .second, .val (.long x1), .second, .val (.long x2), .second, .val (.int (Int32.ofNat R)), .val (.int (2 : Int32)), .val (.ref b1), .val (.int (Int32.ofNat (R % 64))), .val (.long mk), .second, .unset, .unset, .unset, .unset, .unset, .unset, .unset, .unset] [(.long (0 : Int64)), (.int (2 : Int32)), (.ref b1)])) rfl rfl (hb hby at_95)
      have Z48 : n0 ≤ h47.size := by rw [W47.size]; exact Z45
      have N49 := Fr.snoc X47 N46 G1
      refine Go.st st47 ?_
      show Go p e below P (T47.setTop (mkF m 96 #[.val (.int rc), .val (.int bb), .val (.int ii), .val (.long x0), .second, .val (.long x1), .second, .val (.long x2), .second, .val (.int (Int32.ofNat R)), .val (.int (2 : Int32)), .val (.ref b1), .val (.int (Int32.ofNat (R % 64))), .val (.long mk), .second, .unset, .unset, .unset, .unset, .unset, .unset, .unset, .unset] []))
      refine Go.st (fun _ kt => XS.iload X47.here hx rfl (hb hby at_96) rfl (XS.iconst X47.here hx rfl (hb hby at_98) (XS.icmpYes X47.here hx rfl (pc0 := 99) (pc' := 107) rfl (hb hby at_99) rfl (flt (by decide : ¬ ((2 : Int32) < (2 : Int32)))).2.1 (by decide) (by decide) kt))) ?_
      show Go p e below P (T47.setTop (mkF m 107 #[.val (.int rc), .val (.int bb), .val (.int ii), .val (.long x0), .second, .val (.long x1), .second, .val (.long x2), .second, .val (.int (Int32.ofNat R)), .val (.int (2 : Int32)), .val (.ref b1), .val (.int (Int32.ofNat (R % 64))), .val (.long mk), .second, .unset, .unset, .unset, .unset, .unset, .unset, .unset, .unset] []))
      obtain ⟨T50, h50, X50, e50, E50, A50, D50, -, st50⟩ := newO X47 hx hZ hown (hw _ (List.mem_of_getElem? (i := 3) rfl)) (hw _ (List.mem_of_getElem? (i := 4) rfl)) (hw _ (List.mem_of_getElem? (i := 5) rfl)) e47 (g := (mkF m 107 #[.val (.int rc), .val (.int bb), .val (.int ii), .val (.long x0), .second, .val (.long x1), .second, .val (.long x2), .second, .val (.int (Int32.ofNat R)), .val (.int (2 : Int32)), .val (.ref b1), .val (.int (Int32.ofNat (R % 64))), .val (.long mk), .second, .unset, .unset, .unset, .unset, .unset, .unset, .unset, .unset] [])) rfl (hb hby at_107) (by decide) (by decide)
      obtain ⟨b50, g50⟩ : ∃ z, z = h47.size := ⟨_, rfl⟩
      rw [← g50] at A50 D50 st50
      have ne51 : b1 ≠ b50 := Nat.ne_of_lt (Nat.lt_of_lt_of_le V47.lt (Nat.le_of_eq g50.symm))
      have G50 : n0 ≤ b50 := Nat.le_trans Z48 (Nat.le_of_eq g50.symm)
      have F50_records : Fld Z h50 b50 "com/example/numtrie/numtrie/index/RecordSet" "records" "I" (.int (0 : Int32)) := D50 (Or.inr (hw _ (List.mem_of_getElem? (i := 16) rfl))) (ty := .int) (by decide)
      have F50_reader : Fld Z h50 b50 "com/example/numtrie/numtrie/index/RecordSet" "reader" "Lcom/example/numtrie/numtrie/index/IndexReader;" .null := D50 (Or.inr (hw _ (List.mem_of_getElem? (i := 18) rfl))) (ty := (.object "com/example/numtrie/numtrie/index/IndexReader")) (by decide)
      have F50_words : Fld Z h50 b50 "com/example/numtrie/numtrie/index/RecordSet" "words" "[J" .null := D50 (Or.inr (hw _ (List.mem_of_getElem? (i := 21) rfl))) (ty := (.array .long)) (by decide)
      have Z52 := Nat.le_trans Z48 E50.1
      refine Go.st st50 ?_
      show Go p e below P (T50.setTop (mkF m 110 #[.val (.int rc), .val (.int bb), .val (.int ii), .val (.long x0), .second, .val (.long x1), .second, .val (.long x2), .second, .val (.int (Int32.ofNat R)), .val (.int (2 : Int32)), .val (.ref b1), .val (.int (Int32.ofNat (R % 64))), .val (.long mk), .second, .unset, .unset, .unset, .unset, .unset, .unset, .unset, .unset] [(.ref b50)]))
      refine Go.st (fun _ kt => XS.dup X50.here hx rfl (hb hby at_110) rfl rfl (XS.iload X50.here hx rfl (hb hby at_111) rfl kt)) ?_
      show Go p e below P (T50.setTop (mkF m 113 #[.val (.int rc), .val (.int bb), .val (.int ii), .val (.long x0), .second, .val (.long x1), .second, .val (.long x2), .second, .val (.int (Int32.ofNat R)), .val (.int (2 : Int32)), .val (.ref b1), .val (.int (Int32.ofNat (R % 64))), .val (.long mk), .second, .unset, .unset, .unset, .unset, .unset, .unset, .unset, .unset] [(.int (Int32.ofNat R)), (.ref b50), (.ref b50)]))
      have f54 := (V47.ext E50)
      obtain ⟨_, T53, Lc53, X53, ⟨rfl, Nq53, K53, Ei53, t53, Fi53, Vi53, Gt53, Sz53⟩, st53⟩ := callCtor X50 hx hZ e50 (y := (⟨"com/example/numtrie/numtrie/index/RecordSet", "<init>", "(I)V"⟩ : MethodName)) rfl (a := b50) (argsL := [(.int (Int32.ofNat R))]) (rest := [(.ref b50)]) hown (hw _ (List.mem_of_getElem? (i := 6) rfl)) (hw _ (List.mem_of_getElem? (i := 7) rfl)) (hw _ (List.mem_of_getElem? (i := 5) rfl)) (hw _ (List.mem_of_getElem? (i := 8) rfl)) (by decide) (rmI l Z a0 hw b50 (Int32.ofNat R) R _ n0 Z52 A50 F50_records F50_reader F50_words G50 rfl hR1 hR2) (W := 1) (by decide) (by decide) (g := (mkF m 113 #[.val (.int rc), .val (.int bb), .val (.int ii), .val (.long x0), .second, .val (.long x1), .second, .val (.long x2), .second, .val (.int (Int32.ofNat R)), .val (.int (2 : Int32)), .val (.ref b1), .val (.int (Int32.ofNat (R % 64))), .val (.long mk), .second, .unset, .unset, .unset, .unset, .unset, .unset, .unset, .unset] [(.int (Int32.ofNat R)), (.ref b50), (.ref b50)])) rfl (by rw [hml]; rfl) (lenOf pd_2 rfl) rfl (by show 2 * 0 + _ ≤ _; exact Nat.le_of_eq rfl) (hb hby at_113) (by decide) (by decide)
      have N53 := Fr.app N49 Nq53
      have Z55 := Nat.le_trans Z52 K53.1
      have Vj53 := Vi53
      rw [hN] at Vj53
      have ne56 : b1 ≠ t53 := Nat.ne_of_lt (Nat.lt_of_lt_of_le f54.lt Sz53)
      refine Go.st st53 ?_
      show Go p e below P (T53.setTop (mkF m 116 #[.val (.int rc), .val (.int bb), .val (.int ii), .val (.long x0), .second, .val (.long x1), .second, .val (.long x2), .second, .val (.int (Int32.ofNat R)), .val (.int (2 : Int32)), .val (.ref b1), .val (.int (Int32.ofNat (R % 64))), .val (.long mk), .second, .unset, .unset, .unset, .unset, .unset, .unset, .unset, .unset] [(.ref b50)]))
      refine Go.st (fun _ kt => XS.astore X53.here hx rfl (hb hby at_116) rfl rfl (l' := #[.val (.int rc), .val (.int bb), .val (.int ii), .val (.long x0), .second, .val (.long x1), .second, .val (.long x2), .second, .val (.int (Int32.ofNat R)), .val (.int (2 : Int32)), .val (.ref b1), .val (.int (Int32.ofNat (R % 64))), .val (.long mk), .second, .val (.ref b50), .unset, .unset, .unset, .unset, .unset, .unset, .unset]) rfl (XS.aload X53.here hx rfl (hb hby at_118) rfl rfl kt)) ?_
      show Go p e below P (T53.setTop (mkF m 120 #[.val (.int rc), .val (.int bb), .val (.int ii), .val (.long x0), .second, .val (.long x1), .second, .val (.long x2), .second, .val (.int (Int32.ofNat R)), .val (.int (2 : Int32)), .val (.ref b1), .val (.int (Int32.ofNat (R % 64))), .val (.long mk), .second, .val (.ref b50), .unset, .unset, .unset, .unset, .unset, .unset, .unset] [(.ref b50)]))
      obtain ⟨T57, X57, e57, st57⟩ := getF X53 hx hZ hown (host := "") (Or.inl (hw _ (List.mem_of_getElem? (i := 22) rfl))) Via.refl rfl Fi53 (g := (mkF m 120 #[.val (.int rc), .val (.int bb), .val (.int ii), .val (.long x0), .second, .val (.long x1), .second, .val (.long x2), .second, .val (.int (Int32.ofNat R)), .val (.int (2 : Int32)), .val (.ref b1), .val (.int (Int32.ofNat (R % 64))), .val (.long mk), .second, .val (.ref b50), .unset, .unset, .unset, .unset, .unset, .unset, .unset] [(.ref b50)])) rfl rfl (hb hby at_120)
      refine Go.st st57 ?_
      show Go p e below P (T57.setTop (mkF m 123 #[.val (.int rc), .val (.int bb), .val (.int ii), .val (.long x0), .second, .val (.long x1), .second, .val (.long x2), .second, .val (.int (Int32.ofNat R)), .val (.int (2 : Int32)), .val (.ref b1), .val (.int (Int32.ofNat (R % 64))), .val (.long mk), .second, .val (.ref b50), .unset, .unset, .unset, .unset, .unset, .unset, .unset] [(.ref t53)]))
      have f58 := (f54.keep K53 (ninS ne51 nin0))
      refine Go.st (fun _ kt => XS.iconst X57.here hx rfl (hb hby at_123) (XS.aload X57.here hx rfl (hb hby at_124) rfl rfl (XS.iconst X57.here hx rfl (hb hby at_126) (aryLdJ X57 hx hZ e57 f58 (j := (0 : Int32)) (i := 0) ⟨by decide, by decide⟩ (by decide) (g := (mkF m 127 #[.val (.int rc), .val (.int bb), .val (.int ii), .val (.long x0), .second, .val (.long x1), .second, .val (.long x2), .second, .val (.int (Int32.ofNat R)), .val (.int (2 : Int32)), .val (.ref b1), .val (.int (Int32.ofNat (R % 64))), .val (.long mk), .second, .val (.ref b50), .unset, .unset, .unset, .unset, .unset, .unset, .unset] [(.int (0 : Int32)), (.ref b1), (.int (0 : Int32)), (.ref t53)])) rfl rfl (hb hby at_127) _ kt)))) ?_
      show Go p e below P (T57.setTop (mkF m 128 #[.val (.int rc), .val (.int bb), .val (.int ii), .val (.long x0), .second, .val (.long x1), .second, .val (.long x2), .second, .val (.int (Int32.ofNat R)), .val (.int (2 : Int32)), .val (.ref b1), .val (.int (Int32.ofNat (R % 64))), .val (.long mk), .second, .val (.ref b50), .unset, .unset, .unset, .unset, .unset, .unset, .unset] [(.long x0), (.int (0 : Int32)), (.ref t53)]))
      have ne60 := Ary.ne Vj53 Ei53 (hw _ (List.mem_of_getElem? (i := 4) rfl))
      obtain ⟨T59, h59, X59, e59, W59, V59, st59⟩ := aryStJ X57 hx hZ e57 Vj53 (j := (0 : Int32)) (x := x0) (i := 0) ⟨by decide, by decide⟩ (by decide) (g := (mkF m 128 #[.val (.int rc), .val (.int bb), .val (.int ii), .val (.long x0), .second, .val (.long x1), .second, .val (.long x2), .second, .val (.int (Int32.ofNat R)), .val (.int (2 : Int32)), .val (.ref b1), .val (.int (Int32.ofNat (R % 64))), .val (.long mk), .second, .val (.ref b50), .unset, .unset, .unset, .unset, .unset, .unset, .unset] [(.long x0), (.int (0 : Int32)), (.ref t53)])) rfl rfl (hb hby at_128)
      have Z61 : n0 ≤ h59.size := by rw [W59.size]; exact Z55
      have N62 := Fr.snoc X59 N53 Gt53
      refine Go.st st59 ?_
      show Go p e below P (T59.setTop (mkF m 129 #[.val (.int rc), .val (.int bb), .val (.int ii), .val (.long x0), .second, .val (.long x1), .second, .val (.long x2), .second, .val (.int (Int32.ofNat R)), .val (.int (2 : Int32)), .val (.ref b1), .val (.int (Int32.ofNat (R % 64))), .val (.long mk), .second, .val (.ref b50), .unset, .unset, .unset, .unset, .unset, .unset, .unset] []))
      refine Go.st (fun _ kt => XS.iload X59.here hx rfl (hb hby at_129) rfl (XS.iconst X59.here hx rfl (hb hby at_131) (XS.icmpNo X59.here hx rfl (hb hby at_132) rfl (tlt (by decide : (1 : Int32) < (2 : Int32))).2.2.2 (XS.aload X59.here hx rfl (hb hby at_135) rfl rfl kt)))) ?_
      show Go p e below P (T59.setTop (mkF m 137 #[.val (.int rc), .val (.int bb), .val (.int ii), .val (.long x0), .second, .val (.long x1), .second, .val (.long x2), .second, .val (.int (Int32.ofNat R)), .val (.int (2 : Int32)), .val (.ref b1), .val (.int (Int32.ofNat (R % 64))), .val (.long mk), .second, .val (.ref b50), .unset, .unset, .unset, .unset, .unset, .unset, .unset] [(.ref b50)]))
      have f64 := (Fi53.other W59 (Or.inl ne60))
      obtain ⟨T63, X63, e63, st63⟩ := getF X59 hx hZ hown (host := "") (Or.inl (hw _ (List.mem_of_getElem? (i := 22) rfl))) Via.refl e59 f64 (g := (mkF m 137 #[.val (.int rc), .val (.int bb), .val (.int ii), .val (.long x0), .second, .val (.long x1), .second, .val (.long x2), .second, .val (.int (Int32.ofNat R)), .val (.int (2 : Int32)), .val (.ref b1), .val (.int (Int32.ofNat (R % 64))), .val (.long mk), .second, .val (.ref b50), .unset, .unset, .unset, .unset, .unset, .unset, .unset] [(.ref b50)])) rfl rfl (hb hby at_137)
      refine Go.st st63 ?_
      show Go p e below P (T63.setTop (mkF m 140 #[.val (.int rc), .val (.int bb), .val (.int ii), .val (.long x0), .second, .val (.long x1), .second, .val (.long x2), .second, .val (.int (Int32.ofNat R)), .val (.int (2 : Int32)), .val (.ref b1), .val (.int (Int32.ofNat (R % 64))), .val (.long mk), .second, .val (.ref b50), .unset, .unset, .unset, .unset, .unset, .unset, .unset] [(.ref t53)]))
      have f65 := (f58.other W59 ne56)
      refine Go.st (fun _ kt => XS.iconst X63.here hx rfl (hb hby at_140) (XS.aload X63.here hx rfl (hb hby at_141) rfl rfl (XS.iconst X63.here hx rfl (hb hby at_143) (aryLdJ X63 hx hZ e63 f65 (j := (1 : Int32)) (i := 1) ⟨by decide, by decide⟩ (by decide) (g := (mkF m 144 #[.val (.int rc), .val (.int bb), .val (.int ii), .val (.long x0), .second, .val (.long x1), .second, .val (.long x2), .second, .val (.int (Int32.ofNat R)), .val (.int (2 : Int32)), .val (.ref b1), .val (.int (Int32.ofNat (R % 64))), .val (.long mk), .second, .val (.ref b50), .unset, .unset, .unset, .unset, .unset, .unset, .unset] [(.int (1 : Int32)), (.ref b1), (.int (1 : Int32)), (.ref t53)])) rfl rfl (hb hby at_144) _ kt)))) ?_
      show Go p e below P (T63.setTop (mkF m 145 #[.val (.int rc), .val (.int bb), .val (.int ii), .val (.long x0), .second, .val (.long x1), .second, .val (.long x2), .second, .val (.int (Int32.ofNat R)), .val (.int (2 : Int32)), .val (.ref b1), .val (.int (Int32.ofNat (R % 64))), .val (.long mk), .second, .val (.ref b50), .unset, .unset, .unset, .unset, .unset, .unset, .unset] [(.long (x1 &&& mk)), (.int (1 : Int32)), (.ref t53)]))
      obtain ⟨T66, h66, X66, e66, W66, V66, st66⟩ := aryStJ X63 hx hZ e63 V59 (j := (1 : Int32)) (x := (x1 &&& mk)) (i := 1) ⟨by decide, by decide⟩ (by decide) (g := (mkF m 145 #[.val (.int rc), .val (.int bb), .val (.int ii), .val (.long x0), .second, .val (.long x1), .second, .val (.long x2), .second, .val (.int (Int32.ofNat R)), .val (.int (2 : Int32)), .val (.ref b1), .val (.int (Int32.ofNat (R % 64))), .val (.long mk), .second, .val (.ref b50), .unset, .unset, .unset, .unset, .unset, .unset, .unset] [(.long (x1 &&& mk)), (.int (1 : Int32)), (.ref t53)])) rfl rfl (hb hby at_145)
      have Z67 : n0 ≤ h66.size := by rw [W66.size]; exact Z61
      have N68 := Fr.snoc X66 N62 Gt53
      refine Go.st st66 ?_
      show Go p e below P (T66.setTop (mkF m 146 #[.val (.int rc), .val (.int bb), .val (.int ii), .val (.long x0), .second, .val (.long x1), .second, .val (.long x2), .second, .val (.int (Int32.ofNat R)), .val (.int (2 : Int32)), .val (.ref b1), .val (.int (Int32.ofNat (R % 64))), .val (.long mk), .second, .val (.ref b50), .unset, .unset, .unset, .unset, .unset, .unset, .unset] []))
      refine Go.st (fun _ kt => XS.iload X66.here hx rfl (hb hby at_146) rfl (XS.iconst X66.here hx rfl (hb hby at_148) (XS.icmpYes X66.here hx rfl (pc0 := 149) (pc' := 163) rfl (hb hby at_149) rfl (flt (by decide : ¬ ((2 : Int32) < (2 : Int32)))).2.2.2 (by decide) (by decide) (XS.iloadN X66.here hx rfl (hb hby at_163) rfl (X66.ldcInt hx hown (mvT hZ (hw _ (List.mem_of_getElem? (i := 0) rfl))) (g := (mkF m 164 #[.val (.int rc), .val (.int bb), .val (.int ii), .val (.long x0), .second, .val (.long x1), .second, .val (.long x2), .second, .val (.int (Int32.ofNat R)), .val (.int (2 : Int32)), .val (.ref b1), .val (.int (Int32.ofNat (R % 64))), .val (.long mk), .second, .val (.ref b50), .unset, .unset, .unset, .unset, .unset, .unset, .unset] [(.int bb)])) rfl (hb hby at_164) _ (XS.iand X66.here hx rfl (hb hby at_166) rfl (XS.iload X66.here hx rfl (hb hby at_167) rfl (iremM X66 hx rfl (hb hby at_169) rfl (own_nz (by rw [own_tn (by omega)]; omega)) kt)))))))) ?_
      show Go p e below P (T66.setTop (mkF m 170 #[.val (.int rc), .val (.int bb), .val (.int ii), .val (.long x0), .second, .val (.long x1), .second, .val (.long x2), .second, .val (.int (Int32.ofNat R)), .val (.int (2 : Int32)), .val (.ref b1), .val (.int (Int32.ofNat (R % 64))), .val (.long mk), .second, .val (.ref b50), .unset, .unset, .unset, .unset, .unset, .unset, .unset] [(.int ((bb &&& (2147483647 : Int32)) % (Int32.ofNat R)))]))
      obtain ⟨B, hB, hBR⟩ := own_B bb hR1 hR2
      rw [hB]
      show Go p e below P (T66.setTop (mkF m 170 #[.val (.int rc), .val (.int bb), .val (.int ii), .val (.long x0), .second, .val (.long x1), .second, .val (.long x2), .second, .val (.int (Int32.ofNat R)), .val (.int (2 : Int32)), .val (.ref b1), .val (.int (Int32.ofNat (R % 64))), .val (.long mk), .second, .val (.ref b50), .unset, .unset, .unset, .unset, .unset, .unset, .unset] [(.int (Int32.ofNat B))]))
      refine Go.st (fun _ kt => XS.istore X66.here hx rfl (hb hby at_170) rfl (l' := #[.val (.int rc), .val (.int bb), .val (.int ii), .val (.long x0), .second, .val (.long x1), .second, .val (.long x2), .second, .val (.int (Int32.ofNat R)), .val (.int (2 : Int32)), .val (.ref b1), .val (.int (Int32.ofNat (R % 64))), .val (.long mk), .second, .val (.ref b50), .val (.int (Int32.ofNat B)), .unset, .unset, .unset, .unset, .unset, .unset]) rfl (XS.iloadN X66.here hx rfl (hb hby at_172) rfl (XS.bipush X66.here hx rfl (hb hby at_173) (XS.iand X66.here hx rfl (hb hby at_175) rfl kt)))) ?_
      show Go p e below P (T66.setTop (mkF m 176 #[.val (.int rc), .val (.int bb), .val (.int ii), .val (.long x0), .second, .val (.long x1), .second, .val (.long x2), .second, .val (.int (Int32.ofNat R)), .val (.int (2 : Int32)), .val (.ref b1), .val (.int (Int32.ofNat (R % 64))), .val (.long mk), .second, .val (.ref b50), .val (.int (Int32.ofNat B)), .unset, .unset, .unset, .unset, .unset, .unset] [(.int (ii &&& (63 : Int32)))]))
      obtain ⟨K, hK, hK64⟩ := own_63 ii
      rw [hK]
      show Go p e below P (T66.setTop (mkF m 176 #[.val (.int rc), .val (.int bb), .val (.int ii), .val (.long x0), .second, .val (.long x1), .second, .val (.long x2), .second, .val (.int (Int32.ofNat R)), .val (.int (2 : Int32)), .val (.ref b1), .val (.int (Int32.ofNat (R % 64))), .val (.long mk), .second, .val (.ref b50), .val (.int (Int32.ofNat B)), .unset, .unset, .unset, .unset, .unset, .unset] [(.int (Int32.ofNat K))]))
      refine Go.st (fun _ kt => XS.istore X66.here hx rfl (hb hby at_176) rfl (l' := #[.val (.int rc), .val (.int bb), .val (.int ii), .val (.long x0), .second, .val (.long x1), .second, .val (.long x2), .second, .val (.int (Int32.ofNat R)), .val (.int (2 : Int32)), .val (.ref b1), .val (.int (Int32.ofNat (R % 64))), .val (.long mk), .second, .val (.ref b50), .val (.int (Int32.ofNat B)), .val (.int (Int32.ofNat K)), .unset, .unset, .unset, .unset, .unset]) rfl (XS.aload X66.here hx rfl (hb hby at_178) rfl rfl (XS.iload X66.here hx rfl (hb hby at_180) rfl kt))) ?_
      show Go p e below P (T66.setTop (mkF m 182 #[.val (.int rc), .val (.int bb), .val (.int ii), .val (.long x0), .second, .val (.long x1), .second, .val (.long x2), .second, .val (.int (Int32.ofNat R)), .val (.int (2 : Int32)), .val (.ref b1), .val (.int (Int32.ofNat (R % 64))), .val (.long mk), .second, .val (.ref b50), .val (.int (Int32.ofNat B)), .val (.int (Int32.ofNat K)), .unset, .unset, .unset, .unset, .unset] [(.int (Int32.ofNat B)), (.ref b50)]))
      have f70 := (f64.other W66 (Or.inl ne60))
      have f71 := ((Ei53.wr W59).wr W66)
      obtain ⟨_, T69, Lc69, X69, ⟨g, rfl, Nq69, eq69, hg⟩, st69⟩ := callCv X66 hx hZ e66 (y := (⟨"com/example/numtrie/numtrie/index/RecordSet", "wordFrom", "(I)J"⟩ : MethodName)) (a := b50) (argsL := [(.int (Int32.ofNat B))]) (rest := []) hown (hw _ (List.mem_of_getElem? (i := 23) rfl)) (hw _ (List.mem_of_getElem? (i := 24) rfl)) (hw _ (List.mem_of_getElem? (i := 26) rfl)) (hw _ (List.mem_of_getElem? (i := 25) rfl)) (hw _ (List.mem_of_getElem? (i := 5) rfl)) (hw _ (List.mem_of_getElem? (i := 27) rfl)) (by decide) f71 (rmW l Z a0 hw b50 (Int32.ofNat B) t53 2 B _ _ n0 Z67 f70 V66 rfl (by decide) (by omega)) (W := 0) (by decide) (by decide) (g := (mkF m 182 #[.val (.int rc), .val (.int bb), .val (.int ii), .val (.long x0), .second, .val (.long x1), .second, .val (.long x2), .second, .val (.int (Int32.ofNat R)), .val (.int (2 : Int32)), .val (.ref b1), .val (.int (Int32.ofNat (R % 64))), .val (.long mk), .second, .val (.ref b50), .val (.int (Int32.ofNat B)), .val (.int (Int32.ofNat K)), .unset, .unset, .unset, .unset, .unset] [(.int (Int32.ofNat B)), (.ref b50)])) rfl (by rw [hml]; rfl) (lenOf pd_3 rfl) rfl (by show 2 * 0 + _ ≤ _; exact Nat.le_of_eq rfl) (hb hby at_182) (by decide) (by decide)
      have N69 := Fr.app N68 Nq69
      have e69 : T69.heap = h66 := eq69
      refine Go.st st69 ?_
      show Go p e below P (T69.setTop (mkF m 185 #[.val (.int rc), .val (.int bb), .val (.int ii), .val (.long x0), .second, .val (.long x1), .second, .val (.long x2), .second, .val (.int (Int32.ofNat R)), .val (.int (2 : Int32)), .val (.ref b1), .val (.int (Int32.ofNat (R % 64))), .val (.long mk), .second, .val (.ref b50), .val (.int (Int32.ofNat B)), .val (.int (Int32.ofNat K)), .unset, .unset, .unset, .unset, .unset] [(.long g)]))
      have hkey := (hg K hK64).trans (own_key (g := (upd (upd (upd (upd (upd (fun _ => (0 : Int64)) 0 x0) 1 x1) 2 x2) 1 (x1 &&& mk)) 2 (0 : Int64))) hN hR1 hBR hK64 (fun j hj t ht hRt => by
        obtain ⟨rfl, h2⟩ : j = 1 ∧ ¬ (R % 64 = 0 ∨ t < R % 64) := by omega
        show own_tb (x1 &&& mk) t = false
        rw [own_tb_and, hmk t ht]; simp only [h2, decide_false, Bool.and_false]) (fun j hj => by
        rcases (by omega : j = 0 ∨ j = 1) with rfl | rfl <;> rfl))
      clear hg
      refine Go.st (fun _ kt => XS.lstore X69.here hx rfl (hb hby at_185) rfl (l' := #[.val (.int rc), .val (.int bb), .val (.int ii), .val (.long x0), .second, .val (.long x1), .second, .val (.long x2), .second, .val (.int (Int32.ofNat R)), .val (.int (2 : Int32)), .val (.ref b1), .val (.int (Int32.ofNat (R % 64))), .val (.long mk), .second, .val (.ref b50), .val (.int (Int32.ofNat B)), .val (.int (Int32.ofNat K)), .val (.long g), .second, .unset, .unset, .unset]) rfl (XS.iload X69.here hx rfl (hb hby at_187) rfl (XS.iload X69.here hx rfl (hb hby at_189) rfl (XS.iadd X69.here hx rfl (hb hby at_191) rfl kt)))) ?_
      show Go p e below P (T69.setTop (mkF m 192 #[.val (.int rc), .val (.int bb), .val (.int ii), .val (.long x0), .second, .val (.long x1), .second, .val (.long x2), .second, .val (.int (Int32.ofNat R)), .val (.int (2 : Int32)), .val (.ref b1), .val (.int (Int32.ofNat (R % 64))), .val (.long mk), .second, .val (.ref b50), .val (.int (Int32.ofNat B)), .val (.int (Int32.ofNat K)), .val (.long g), .second, .unset, .unset, .unset] [(.int ((Int32.ofNat B) + (Int32.ofNat K)))]))
      rw [show Int32.ofNat B + Int32.ofNat K = Int32.ofNat (B + K) from by rw [Int32.ofNat_add]]
      show Go p e below P (T69.setTop (mkF m 192 #[.val (.int rc), .val (.int bb), .val (.int ii), .val (.long x0), .second, .val (.long x1), .second, .val (.long x2), .second, .val (.int (Int32.ofNat R)), .val (.int (2 : Int32)), .val (.ref b1), .val (.int (Int32.ofNat (R % 64))), .val (.long mk), .second, .val (.ref b50), .val (.int (Int32.ofNat B)), .val (.int (Int32.ofNat K)), .val (.long g), .second, .unset, .unset, .unset] [(.int (Int32.ofNat (B + K)))]))
      refine Go.st (fun _ kt => XS.istore X69.here hx rfl (hb hby at_192) rfl (l' := #[.val (.int rc), .val (.int bb), .val (.int ii), .val (.long x0), .second, .val (.long x1), .second, .val (.long x2), .second, .val (.int (Int32.ofNat R)), .val (.int (2 : Int32)), .val (.ref b1), .val (.int (Int32.ofNat (R % 64))), .val (.long mk), .second, .val (.ref b50), .val (.int (Int32.ofNat B)), .val (.int (Int32.ofNat K)), .val (.long g), .second, .val (.int (Int32.ofNat (B + K))), .unset, .unset]) rfl (XS.iload X69.here hx rfl (hb hby at_194) rfl (XS.iload X69.here hx rfl (hb hby at_196) rfl kt))) ?_
      show Go p e below P (T69.setTop (mkF m 198 #[.val (.int rc), .val (.int bb), .val (.int ii), .val (.long x0), .second, .val (.long x1), .second, .val (.long x2), .second, .val (.int (Int32.ofNat R)), .val (.int (2 : Int32)), .val (.ref b1), .val (.int (Int32.ofNat (R % 64))), .val (.long mk), .second, .val (.ref b50), .val (.int (Int32.ofNat B)), .val (.int (Int32.ofNat K)), .val (.long g), .second, .val (.int (Int32.ofNat (B + K))), .unset, .unset] [(.int (Int32.ofNat R)), (.int (Int32.ofNat (B + K)))]))
      by_cases hp72 : (Int32.ofNat (B + K)) < (Int32.ofNat R)
      · refine Go.st (fun _ kt => XS.icmpNo X69.here hx rfl (hb hby at_198) rfl (tlt hp72).2.1 kt) ?_
        show Go p e below P (T69.setTop (mkF m 201 #[.val (.int rc), .val (.int bb), .val (.int ii), .val (.long x0), .second, .val (.long x1), .second, .val (.long x2), .second, .val (.int (Int32.ofNat R)), .val (.int (2 : Int32)), .val (.ref b1), .val (.int (Int32.ofNat (R % 64))), .val (.long mk), .second, .val (.ref b50), .val (.int (Int32.ofNat B)), .val (.int (Int32.ofNat K)), .val (.long g), .second, .val (.int (Int32.ofNat (B + K))), .unset, .unset] []))
        have f73 := (f65.other W66 ne56)
        refine Go.st (fun _ kt => XS.aload X69.here hx rfl (hb hby at_201) rfl rfl (XS.iload X69.here hx rfl (hb hby at_203) rfl (XS.bipush X69.here hx rfl (hb hby at_205) (XS.iushr X69.here hx rfl (hb hby at_207) rfl (aryLdJ X69 hx hZ e69 f73 (j := (((Int32.ofNat (B + K)).toUInt32 >>> ((6 : Int32) &&& 31).toUInt32).toInt32)) (i := ((B + K) / 64)) (by rw [own_div ⟨B + K, by omega⟩]; exact isN_ofNat (by omega)) (by have q := hp72; rw [own_ltN (by omega) (by omega)] at q; omega) (g := (mkF m 208 #[.val (.int rc), .val (.int bb), .val (.int ii), .val (.long x0), .second, .val (.long x1), .second, .val (.long x2), .second, .val (.int (Int32.ofNat R)), .val (.int (2 : Int32)), .val (.ref b1), .val (.int (Int32.ofNat (R % 64))), .val (.long mk), .second, .val (.ref b50), .val (.int (Int32.ofNat B)), .val (.int (Int32.ofNat K)), .val (.long g), .second, .val (.int (Int32.ofNat (B + K))), .unset, .unset] [(.int (((Int32.ofNat (B + K)).toUInt32 >>> ((6 : Int32) &&& 31).toUInt32).toInt32)), (.ref b1)])) rfl rfl (hb hby at_208) _ (XS.iload X69.here hx rfl (hb hby at_209) rfl (XS.bipush X69.here hx rfl (hb hby at_211) (XS.iand X69.here hx rfl (hb hby at_213) rfl kt)))))))) ?_
        show Go p e below P (T69.setTop (mkF m 214 #[.val (.int rc), .val (.int bb), .val (.int ii), .val (.long x0), .second, .val (.long x1), .second, .val (.long x2), .second, .val (.int (Int32.ofNat R)), .val (.int (2 : Int32)), .val (.ref b1), .val (.int (Int32.ofNat (R % 64))), .val (.long mk), .second, .val (.ref b50), .val (.int (Int32.ofNat B)), .val (.int (Int32.ofNat K)), .val (.long g), .second, .val (.int (Int32.ofNat (B + K))), .unset, .unset] [(.int ((Int32.ofNat (B + K)) &&& (63 : Int32))), (.long ((upd (upd (upd (upd (upd (fun _ => (0 : Int64)) 0 x0) 1 x1) 2 x2) 1 (x1 &&& mk)) 2 (0 : Int64)) ((B + K) / 64)))]))
        rw [own_mod ⟨B + K, by omega⟩]
        show Go p e below P (T69.setTop (mkF m 214 #[.val (.int rc), .val (.int bb), .val (.int ii), .val (.long x0), .second, .val (.long x1), .second, .val (.long x2), .second, .val (.int (Int32.ofNat R)), .val (.int (2 : Int32)), .val (.ref b1), .val (.int (Int32.ofNat (R % 64))), .val (.long mk), .second, .val (.ref b50), .val (.int (Int32.ofNat B)), .val (.int (Int32.ofNat K)), .val (.long g), .second, .val (.int (Int32.ofNat (B + K))), .unset, .unset] [(.int (Int32.ofNat ((B + K) % 64))), (.long ((upd (upd (upd (upd (upd (fun _ => (0 : Int64)) 0 x0) 1 x1) 2 x2) 1 (x1 &&& mk)) 2 (0 : Int64)) ((B + K) / 64)))]))
        refine Go.st (fun _ kt => XS.lushr X69.here hx rfl (hb hby at_214) rfl (XS.lconst X69.here hx rfl (hb hby at_215) (XS.land X69.here hx rfl (hb hby at_216) rfl (XS.lconst X69.here hx rfl (hb hby at_217) (XS.lcmp X69.here hx rfl (hb hby at_218) rfl kt))))) ?_
        show Go p e below P (T69.setTop (mkF m 219 #[.val (.int rc), .val (.int bb), .val (.int ii), .val (.long x0), .second, .val (.long x1), .second, .val (.long x2), .second, .val (.int (Int32.ofNat R)), .val (.int (2 : Int32)), .val (.ref b1), .val (.int (Int32.ofNat (R % 64))), .val (.long mk), .second, .val (.ref b50), .val (.int (Int32.ofNat B)), .val (.int (Int32.ofNat K)), .val (.long g), .second, .val (.int (Int32.ofNat (B + K))), .unset, .unset] [(.int (lcmpW (((((upd (upd (upd (upd (upd (fun _ => (0 : Int64)) 0 x0) 1 x1) 2 x2) 1 (x1 &&& mk)) 2 (0 : Int64)) ((B + K) / 64)).toUInt64 >>> ((Int32.ofNat ((B + K) % 64)) &&& 0x3f).toInt64.toUInt64).toInt64) &&& (1 : Int64)) (0 : Int64)))]))
        by_cases hx74 : (lcmpW (((((upd (upd (upd (upd (upd (fun _ => (0 : Int64)) 0 x0) 1 x1) 2 x2) 1 (x1 &&& mk)) 2 (0 : Int64)) ((B + K) / 64)).toUInt64 >>> ((Int32.ofNat ((B + K) % 64)) &&& 0x3f).toInt64.toUInt64).toInt64) &&& (1 : Int64)) (0 : Int64)) = (0 : Int32)
        · refine Go.st (fun _ kt => XS.ifYes X69.here hx rfl (pc0 := 219) (pc' := 226) rfl (hb hby at_219) rfl ((if0 _ _).trans (teq hx74).1) (by decide) (by decide) kt) ?_
          show Go p e below P (T69.setTop (mkF m 226 #[.val (.int rc), .val (.int bb), .val (.int ii), .val (.long x0), .second, .val (.long x1), .second, .val (.long x2), .second, .val (.int (Int32.ofNat R)), .val (.int (2 : Int32)), .val (.ref b1), .val (.int (Int32.ofNat (R % 64))), .val (.long mk), .second, .val (.ref b50), .val (.int (Int32.ofNat B)), .val (.int (Int32.ofNat K)), .val (.long g), .second, .val (.int (Int32.ofNat (B + K))), .unset, .unset] []))
          refine Go.st (fun _ kt => XS.iconst X69.here hx rfl (hb hby at_226) (XS.istore X69.here hx rfl (hb hby at_227) rfl (l' := #[.val (.int rc), .val (.int bb), .val (.int ii), .val (.long x0), .second, .val (.long x1), .second, .val (.long x2), .second, .val (.int (Int32.ofNat R)), .val (.int (2 : Int32)), .val (.ref b1), .val (.int (Int32.ofNat (R % 64))), .val (.long mk), .second, .val (.ref b50), .val (.int (Int32.ofNat B)), .val (.int (Int32.ofNat K)), .val (.long g), .second, .val (.int (Int32.ofNat (B + K))), .val (.int (0 : Int32)), .unset]) rfl (XS.lload X69.here hx rfl (hb hby at_229) rfl (XS.iload X69.here hx rfl (hb hby at_231) rfl (XS.lushr X69.here hx rfl (hb hby at_233) rfl (XS.lconst X69.here hx rfl (hb hby at_234) (XS.land X69.here hx rfl (hb hby at_235) rfl (XS.lconst X69.here hx rfl (hb hby at_236) kt)))))))) ?_
          show Go p e below P (T69.setTop (mkF m 237 #[.val (.int rc), .val (.int bb), .val (.int ii), .val (.long x0), .second, .val (.long x1), .second, .val (.long x2), .second, .val (.int (Int32.ofNat R)), .val (.int (2 : Int32)), .val (.ref b1), .val (.int (Int32.ofNat (R % 64))), .val (.long mk), .second, .val (.ref b50), .val (.int (Int32.ofNat B)), .val (.int (Int32.ofNat K)), .val (.long g), .second, .val (.int (Int32.ofNat (B + K))), .val (.int (0 : Int32)), .unset] [(.long (0 : Int64)), (.long (((g.toUInt64 >>> ((Int32.ofNat K) &&& 0x3f).toInt64.toUInt64).toInt64) &&& (1 : Int64)))]))
          refine Go.st (fun _ kt => XS.lcmp X69.here hx rfl (hb hby at_237) rfl kt) ?_
          show Go p e below P (T69.setTop (mkF m 238 #[.val (.int rc), .val (.int bb), .val (.int ii), .val (.long x0), .second, .val (.long x1), .second, .val (.long x2), .second, .val (.int (Int32.ofNat R)), .val (.int (2 : Int32)), .val (.ref b1), .val (.int (Int32.ofNat (R % 64))), .val (.long mk), .second, .val (.ref b50), .val (.int (Int32.ofNat B)), .val (.int (Int32.ofNat K)), .val (.long g), .second, .val (.int (Int32.ofNat (B + K))), .val (.int (0 : Int32)), .unset] [(.int (lcmpW (((g.toUInt64 >>> ((Int32.ofNat K) &&& 0x3f).toInt64.toUInt64).toInt64) &&& (1 : Int64)) (0 : Int64)))]))
          by_cases ha75 : (lcmpW (((g.toUInt64 >>> ((Int32.ofNat K) &&& 0x3f).toInt64.toUInt64).toInt64) &&& (1 : Int64)) (0 : Int64)) = (0 : Int32)
          · refine Go.st (fun _ kt => XS.ifYes X69.here hx rfl (pc0 := 238) (pc' := 245) rfl (hb hby at_238) rfl ((if0 _ _).trans (teq ha75).1) (by decide) (by decide) kt) ?_
            show Go p e below P (T69.setTop (mkF m 245 #[.val (.int rc), .val (.int bb), .val (.int ii), .val (.long x0), .second, .val (.long x1), .second, .val (.long x2), .second, .val (.int (Int32.ofNat R)), .val (.int (2 : Int32)), .val (.ref b1), .val (.int (Int32.ofNat (R % 64))), .val (.long mk), .second, .val (.ref b50), .val (.int (Int32.ofNat B)), .val (.int (Int32.ofNat K)), .val (.long g), .second, .val (.int (Int32.ofNat (B + K))), .val (.int (0 : Int32)), .unset] []))
            refine Go.st (fun _ kt => XS.iconst X69.here hx rfl (hb hby at_245) (XS.istore X69.here hx rfl (hb hby at_246) rfl (l' := #[.val (.int rc), .val (.int bb), .val (.int ii), .val (.long x0), .second, .val (.long x1), .second, .val (.long x2), .second, .val (.int (Int32.ofNat R)), .val (.int (2 : Int32)), .val (.ref b1), .val (.int (Int32.ofNat (R % 64))), .val (.long mk), .second, .val (.ref b50), .val (.int (Int32.ofNat B)), .val (.int (Int32.ofNat K)), .val (.long g), .second, .val (.int (Int32.ofNat (B + K))), .val (.int (0 : Int32)), .val (.int (0 : Int32))]) rfl (XS.iload X69.here hx rfl (hb hby at_248) rfl (XS.iload X69.here hx rfl (hb hby at_250) rfl (XS.icmpNo X69.here hx rfl (hb hby at_252) rfl (teq (by decide : (0 : Int32) = (0 : Int32))).2 (XS.iconst X69.here hx rfl (hb hby at_255) (XS.goto X69.here hx rfl (pc0 := 256) (pc' := 260) rfl (hb hby at_256) (by decide) (by decide) kt))))))) ?_
            show Go p e below P (T69.setTop (mkF m 260 #[.val (.int rc), .val (.int bb), .val (.int ii), .val (.long x0), .second, .val (.long x1), .second, .val (.long x2), .second, .val (.int (Int32.ofNat R)), .val (.int (2 : Int32)), .val (.ref b1), .val (.int (Int32.ofNat (R % 64))), .val (.long mk), .second, .val (.ref b50), .val (.int (Int32.ofNat B)), .val (.int (Int32.ofNat K)), .val (.long g), .second, .val (.int (Int32.ofNat (B + K))), .val (.int (0 : Int32)), .val (.int (0 : Int32))] [(.int (1 : Int32))]))
            exact goN X69 hx (t := .boolean) hret (by simp) hlk (hb hby at_260) hP (by decide) (by decide) ⟨rfl, N69⟩
          · refine Go.st (fun _ kt => XS.ifNo X69.here hx rfl (hb hby at_238) rfl ((if0 _ _).trans (feq ha75).1) kt) ?_
            show Go p e below P (T69.setTop (mkF m 241 #[.val (.int rc), .val (.int bb), .val (.int ii), .val (.long x0), .second, .val (.long x1), .second, .val (.long x2), .second, .val (.int (Int32.ofNat R)), .val (.int (2 : Int32)), .val (.ref b1), .val (.int (Int32.ofNat (R % 64))), .val (.long mk), .second, .val (.ref b50), .val (.int (Int32.ofNat B)), .val (.int (Int32.ofNat K)), .val (.long g), .second, .val (.int (Int32.ofNat (B + K))), .val (.int (0 : Int32)), .unset] []))
            refine Go.st (fun _ kt => XS.iconst X69.here hx rfl (hb hby at_241) (XS.goto X69.here hx rfl (pc0 := 242) (pc' := 246) rfl (hb hby at_242) (by decide) (by decide) (XS.istore X69.here hx rfl (hb hby at_246) rfl (l' := #[.val (.int rc), .val (.int bb), .val (.int ii), .val (.long x0), .second, .val (.long x1), .second, .val (.long x2), .second, .val (.int (Int32.ofNat R)), .val (.int (2 : Int32)), .val (.ref b1), .val (.int (Int32.ofNat (R % 64))), .val (.long mk), .second, .val (.ref b50), .val (.int (Int32.ofNat B)), .val (.int (Int32.ofNat K)), .val (.long g), .second, .val (.int (Int32.ofNat (B + K))), .val (.int (0 : Int32)), .val (.int (1 : Int32))]) rfl (XS.iload X69.here hx rfl (hb hby at_248) rfl (XS.iload X69.here hx rfl (hb hby at_250) rfl (XS.icmpYes X69.here hx rfl (pc0 := 252) (pc' := 259) rfl (hb hby at_252) rfl (feq (by decide : ¬ ((0 : Int32) = (1 : Int32)))).2 (by decide) (by decide) (XS.iconst X69.here hx rfl (hb hby at_259) kt))))))) ?_
            show Go p e below P (T69.setTop (mkF m 260 #[.val (.int rc), .val (.int bb), .val (.int ii), .val (.long x0), .second, .val (.long x1), .second, .val (.long x2), .second, .val (.int (Int32.ofNat R)), .val (.int (2 : Int32)), .val (.ref b1), .val (.int (Int32.ofNat (R % 64))), .val (.long mk), .second, .val (.ref b50), .val (.int (Int32.ofNat B)), .val (.int (Int32.ofNat K)), .val (.long g), .second, .val (.int (Int32.ofNat (B + K))), .val (.int (0 : Int32)), .val (.int (1 : Int32))] [(.int (0 : Int32))]))
            exfalso
            rw [own_ltN (by omega) (by omega)] at hp72
            rw [own_bit _ hK64, hkey] at ha75
            rw [own_bit _ (by omega)] at hx74
            simp [hp72] at ha75
            simp_all
        · refine Go.st (fun _ kt => XS.ifNo X69.here hx rfl (hb hby at_219) rfl ((if0 _ _).trans (feq hx74).1) kt) ?_
          show Go p e below P (T69.setTop (mkF m 222 #[.val (.int rc), .val (.int bb), .val (.int ii), .val (.long x0), .second, .val (.long x1), .second, .val (.long x2), .second, .val (.int (Int32.ofNat R)), .val (.int (2 : Int32)), .val (.ref b1), .val (.int (Int32.ofNat (R % 64))), .val (.long mk), .second, .val (.ref b50), .val (.int (Int32.ofNat B)), .val (.int (Int32.ofNat K)), .val (.long g), .second, .val (.int (Int32.ofNat (B + K))), .unset, .unset] []))
          refine Go.st (fun _ kt => XS.iconst X69.here hx rfl (hb hby at_222) (XS.goto X69.here hx rfl (pc0 := 223) (pc' := 227) rfl (hb hby at_223) (by decide) (by decide) (XS.istore X69.here hx rfl (hb hby at_227) rfl (l' := #[.val (.int rc), .val (.int bb), .val (.int ii), .val (.long x0), .second, .val (.long x1), .second, .val (.long x2), .second, .val (.int (Int32.ofNat R)), .val (.int (2 : Int32)), .val (.ref b1), .val (.int (Int32.ofNat (R % 64))), .val (.long mk), .second, .val (.ref b50), .val (.int (Int32.ofNat B)), .val (.int (Int32.ofNat K)), .val (.long g), .second, .val (.int (Int32.ofNat (B + K))), .val (.int (1 : Int32)), .unset]) rfl (XS.lload X69.here hx rfl (hb hby at_229) rfl (XS.iload X69.here hx rfl (hb hby at_231) rfl (XS.lushr X69.here hx rfl (hb hby at_233) rfl (XS.lconst X69.here hx rfl (hb hby at_234) (XS.land X69.here hx rfl (hb hby at_235) rfl kt)))))))) ?_
          show Go p e below P (T69.setTop (mkF m 236 #[.val (.int rc), .val (.int bb), .val (.int ii), .val (.long x0), .second, .val (.long x1), .second, .val (.long x2), .second, .val (.int (Int32.ofNat R)), .val (.int (2 : Int32)), .val (.ref b1), .val (.int (Int32.ofNat (R % 64))), .val (.long mk), .second, .val (.ref b50), .val (.int (Int32.ofNat B)), .val (.int (Int32.ofNat K)), .val (.long g), .second, .val (.int (Int32.ofNat (B + K))), .val (.int (1 : Int32)), .unset] [(.long (((g.toUInt64 >>> ((Int32.ofNat K) &&& 0x3f).toInt64.toUInt64).toInt64) &&& (1 : Int64)))]))
          refine Go.st (fun _ kt => XS.lconst X69.here hx rfl (hb hby at_236) (XS.lcmp X69.here hx rfl (hb hby at_237) rfl kt)) ?_
          show Go p e below P (T69.setTop (mkF m 238 #[.val (.int rc), .val (.int bb), .val (.int ii), .val (.long x0), .second, .val (.long x1), .second, .val (.long x2), .second, .val (.int (Int32.ofNat R)), .val (.int (2 : Int32)), .val (.ref b1), .val (.int (Int32.ofNat (R % 64))), .val (.long mk), .second, .val (.ref b50), .val (.int (Int32.ofNat B)), .val (.int (Int32.ofNat K)), .val (.long g), .second, .val (.int (Int32.ofNat (B + K))), .val (.int (1 : Int32)), .unset] [(.int (lcmpW (((g.toUInt64 >>> ((Int32.ofNat K) &&& 0x3f).toInt64.toUInt64).toInt64) &&& (1 : Int64)) (0 : Int64)))]))
          by_cases ha76 : (lcmpW (((g.toUInt64 >>> ((Int32.ofNat K) &&& 0x3f).toInt64.toUInt64).toInt64) &&& (1 : Int64)) (0 : Int64)) = (0 : Int32)
          · refine Go.st (fun _ kt => XS.ifYes X69.here hx rfl (pc0 := 238) (pc' := 245) rfl (hb hby at_238) rfl ((if0 _ _).trans (teq ha76).1) (by decide) (by decide) kt) ?_
            show Go p e below P (T69.setTop (mkF m 245 #[.val (.int rc), .val (.int bb), .val (.int ii), .val (.long x0), .second, .val (.long x1), .second, .val (.long x2), .second, .val (.int (Int32.ofNat R)), .val (.int (2 : Int32)), .val (.ref b1), .val (.int (Int32.ofNat (R % 64))), .val (.long mk), .second, .val (.ref b50), .val (.int (Int32.ofNat B)), .val (.int (Int32.ofNat K)), .val (.long g), .second, .val (.int (Int32.ofNat (B + K))), .val (.int (1 : Int32)), .unset] []))
            refine Go.st (fun _ kt => XS.iconst X69.here hx rfl (hb hby at_245) (XS.istore X69.here hx rfl (hb hby at_246) rfl (l' := #[.val (.int rc), .val (.int bb), .val (.int ii), .val (.long x0), .second, .val (.long x1), .second, .val (.long x2), .second, .val (.int (Int32.ofNat R)), .val (.int (2 : Int32)), .val (.ref b1), .val (.int (Int32.ofNat (R % 64))), .val (.long mk), .second, .val (.ref b50), .val (.int (Int32.ofNat B)), .val (.int (Int32.ofNat K)), .val (.long g), .second, .val (.int (Int32.ofNat (B + K))), .val (.int (1 : Int32)), .val (.int (0 : Int32))]) rfl (XS.iload X69.here hx rfl (hb hby at_248) rfl (XS.iload X69.here hx rfl (hb hby at_250) rfl (XS.icmpYes X69.here hx rfl (pc0 := 252) (pc' := 259) rfl (hb hby at_252) rfl (feq (by decide : ¬ ((1 : Int32) = (0 : Int32)))).2 (by decide) (by decide) (XS.iconst X69.here hx rfl (hb hby at_259) kt)))))) ?_
            show Go p e below P (T69.setTop (mkF m 260 #[.val (.int rc), .val (.int bb), .val (.int ii), .val (.long x0), .second, .val (.long x1), .second, .val (.long x2), .second, .val (.int (Int32.ofNat R)), .val (.int (2 : Int32)), .val (.ref b1), .val (.int (Int32.ofNat (R % 64))), .val (.long mk), .second, .val (.ref b50), .val (.int (Int32.ofNat B)), .val (.int (Int32.ofNat K)), .val (.long g), .second, .val (.int (Int32.ofNat (B + K))), .val (.int (1 : Int32)), .val (.int (0 : Int32))] [(.int (0 : Int32))]))
            exfalso
            rw [own_ltN (by omega) (by omega)] at hp72
            rw [own_bit _ hK64, hkey] at ha76
            rw [own_bit _ (by omega)] at hx74
            simp [hp72] at ha76
            simp_all
          · refine Go.st (fun _ kt => XS.ifNo X69.here hx rfl (hb hby at_238) rfl ((if0 _ _).trans (feq ha76).1) kt) ?_
            show Go p e below P (T69.setTop (mkF m 241 #[.val (.int rc), .val (.int bb), .val (.int ii), .val (.long x0), .second, .val (.long x1), .second, .val (.long x2), .second, .val (.int (Int32.ofNat R)), .val (.int (2 : Int32)), .val (.ref b1), .val (.int (Int32.ofNat (R % 64))), .val (.long mk), .second, .val (.ref b50), .val (.int (Int32.ofNat B)), .val (.int (Int32.ofNat K)), .val (.long g), .second, .val (.int (Int32.ofNat (B + K))), .val (.int (1 : Int32)), .unset] []))
            refine Go.st (fun _ kt => XS.iconst X69.here hx rfl (hb hby at_241) (XS.goto X69.here hx rfl (pc0 := 242) (pc' := 246) rfl (hb hby at_242) (by decide) (by decide) (XS.istore X69.here hx rfl (hb hby at_246) rfl (l' := #[.val (.int rc), .val (.int bb), .val (.int ii), .val (.long x0), .second, .val (.long x1), .second, .val (.long x2), .second, .val (.int (Int32.ofNat R)), .val (.int (2 : Int32)), .val (.ref b1), .val (.int (Int32.ofNat (R % 64))), .val (.long mk), .second, .val (.ref b50), .val (.int (Int32.ofNat B)), .val (.int (Int32.ofNat K)), .val (.long g), .second, .val (.int (Int32.ofNat (B + K))), .val (.int (1 : Int32)), .val (.int (1 : Int32))]) rfl (XS.iload X69.here hx rfl (hb hby at_248) rfl (XS.iload X69.here hx rfl (hb hby at_250) rfl (XS.icmpNo X69.here hx rfl (hb hby at_252) rfl (teq (by decide : (1 : Int32) = (1 : Int32))).2 (XS.iconst X69.here hx rfl (hb hby at_255) (XS.goto X69.here hx rfl (pc0 := 256) (pc' := 260) rfl (hb hby at_256) (by decide) (by decide) kt)))))))) ?_
            show Go p e below P (T69.setTop (mkF m 260 #[.val (.int rc), .val (.int bb), .val (.int ii), .val (.long x0), .second, .val (.long x1), .second, .val (.long x2), .second, .val (.int (Int32.ofNat R)), .val (.int (2 : Int32)), .val (.ref b1), .val (.int (Int32.ofNat (R % 64))), .val (.long mk), .second, .val (.ref b50), .val (.int (Int32.ofNat B)), .val (.int (Int32.ofNat K)), .val (.long g), .second, .val (.int (Int32.ofNat (B + K))), .val (.int (1 : Int32)), .val (.int (1 : Int32))] [(.int (1 : Int32))]))
            exact goN X69 hx (t := .boolean) hret (by simp) hlk (hb hby at_260) hP (by decide) (by decide) ⟨rfl, N69⟩
      · refine Go.st (fun _ kt => XS.icmpYes X69.here hx rfl (pc0 := 198) (pc' := 226) rfl (hb hby at_198) rfl (flt hp72).2.1 (by decide) (by decide) kt) ?_
        show Go p e below P (T69.setTop (mkF m 226 #[.val (.int rc), .val (.int bb), .val (.int ii), .val (.long x0), .second, .val (.long x1), .second, .val (.long x2), .second, .val (.int (Int32.ofNat R)), .val (.int (2 : Int32)), .val (.ref b1), .val (.int (Int32.ofNat (R % 64))), .val (.long mk), .second, .val (.ref b50), .val (.int (Int32.ofNat B)), .val (.int (Int32.ofNat K)), .val (.long g), .second, .val (.int (Int32.ofNat (B + K))), .unset, .unset] []))
        refine Go.st (fun _ kt => XS.iconst X69.here hx rfl (hb hby at_226) (XS.istore X69.here hx rfl (hb hby at_227) rfl (l' := #[.val (.int rc), .val (.int bb), .val (.int ii), .val (.long x0), .second, .val (.long x1), .second, .val (.long x2), .second, .val (.int (Int32.ofNat R)), .val (.int (2 : Int32)), .val (.ref b1), .val (.int (Int32.ofNat (R % 64))), .val (.long mk), .second, .val (.ref b50), .val (.int (Int32.ofNat B)), .val (.int (Int32.ofNat K)), .val (.long g), .second, .val (.int (Int32.ofNat (B + K))), .val (.int (0 : Int32)), .unset]) rfl (XS.lload X69.here hx rfl (hb hby at_229) rfl (XS.iload X69.here hx rfl (hb hby at_231) rfl (XS.lushr X69.here hx rfl (hb hby at_233) rfl (XS.lconst X69.here hx rfl (hb hby at_234) (XS.land X69.here hx rfl (hb hby at_235) rfl (XS.lconst X69.here hx rfl (hb hby at_236) kt)))))))) ?_
        show Go p e below P (T69.setTop (mkF m 237 #[.val (.int rc), .val (.int bb), .val (.int ii), .val (.long x0), .second, .val (.long x1), .second, .val (.long x2), .second, .val (.int (Int32.ofNat R)), .val (.int (2 : Int32)), .val (.ref b1), .val (.int (Int32.ofNat (R % 64))), .val (.long mk), .second, .val (.ref b50), .val (.int (Int32.ofNat B)), .val (.int (Int32.ofNat K)), .val (.long g), .second, .val (.int (Int32.ofNat (B + K))), .val (.int (0 : Int32)), .unset] [(.long (0 : Int64)), (.long (((g.toUInt64 >>> ((Int32.ofNat K) &&& 0x3f).toInt64.toUInt64).toInt64) &&& (1 : Int64)))]))
        refine Go.st (fun _ kt => XS.lcmp X69.here hx rfl (hb hby at_237) rfl kt) ?_
        show Go p e below P (T69.setTop (mkF m 238 #[.val (.int rc), .val (.int bb), .val (.int ii), .val (.long x0), .second, .val (.long x1), .second, .val (.long x2), .second, .val (.int (Int32.ofNat R)), .val (.int (2 : Int32)), .val (.ref b1), .val (.int (Int32.ofNat (R % 64))), .val (.long mk), .second, .val (.ref b50), .val (.int (Int32.ofNat B)), .val (.int (Int32.ofNat K)), .val (.long g), .second, .val (.int (Int32.ofNat (B + K))), .val (.int (0 : Int32)), .unset] [(.int (lcmpW (((g.toUInt64 >>> ((Int32.ofNat K) &&& 0x3f).toInt64.toUInt64).toInt64) &&& (1 : Int64)) (0 : Int64)))]))
        by_cases ha77 : (lcmpW (((g.toUInt64 >>> ((Int32.ofNat K) &&& 0x3f).toInt64.toUInt64).toInt64) &&& (1 : Int64)) (0 : Int64)) = (0 : Int32)
        · refine Go.st (fun _ kt => XS.ifYes X69.here hx rfl (pc0 := 238) (pc' := 245) rfl (hb hby at_238) rfl ((if0 _ _).trans (teq ha77).1) (by decide) (by decide) kt) ?_
          show Go p e below P (T69.setTop (mkF m 245 #[.val (.int rc), .val (.int bb), .val (.int ii), .val (.long x0), .second, .val (.long x1), .second, .val (.long x2), .second, .val (.int (Int32.ofNat R)), .val (.int (2 : Int32)), .val (.ref b1), .val (.int (Int32.ofNat (R % 64))), .val (.long mk), .second, .val (.ref b50), .val (.int (Int32.ofNat B)), .val (.int (Int32.ofNat K)), .val (.long g), .second, .val (.int (Int32.ofNat (B + K))), .val (.int (0 : Int32)), .unset] []))
          refine Go.st (fun _ kt => XS.iconst X69.here hx rfl (hb hby at_245) (XS.istore X69.here hx rfl (hb hby at_246) rfl (l' := #[.val (.int rc), .val (.int bb), .val (.int ii), .val (.long x0), .second, .val (.long x1), .second, .val (.long x2), .second, .val (.int (Int32.ofNat R)), .val (.int (2 : Int32)), .val (.ref b1), .val (.int (Int32.ofNat (R % 64))), .val (.long mk), .second, .val (.ref b50), .val (.int (Int32.ofNat B)), .val (.int (Int32.ofNat K)), .val (.long g), .second, .val (.int (Int32.ofNat (B + K))), .val (.int (0 : Int32)), .val (.int (0 : Int32))]) rfl (XS.iload X69.here hx rfl (hb hby at_248) rfl (XS.iload X69.here hx rfl (hb hby at_250) rfl (XS.icmpNo X69.here hx rfl (hb hby at_252) rfl (teq (by decide : (0 : Int32) = (0 : Int32))).2 (XS.iconst X69.here hx rfl (hb hby at_255) (XS.goto X69.here hx rfl (pc0 := 256) (pc' := 260) rfl (hb hby at_256) (by decide) (by decide) kt))))))) ?_
          show Go p e below P (T69.setTop (mkF m 260 #[.val (.int rc), .val (.int bb), .val (.int ii), .val (.long x0), .second, .val (.long x1), .second, .val (.long x2), .second, .val (.int (Int32.ofNat R)), .val (.int (2 : Int32)), .val (.ref b1), .val (.int (Int32.ofNat (R % 64))), .val (.long mk), .second, .val (.ref b50), .val (.int (Int32.ofNat B)), .val (.int (Int32.ofNat K)), .val (.long g), .second, .val (.int (Int32.ofNat (B + K))), .val (.int (0 : Int32)), .val (.int (0 : Int32))] [(.int (1 : Int32))]))
          exact goN X69 hx (t := .boolean) hret (by simp) hlk (hb hby at_260) hP (by decide) (by decide) ⟨rfl, N69⟩
        · refine Go.st (fun _ kt => XS.ifNo X69.here hx rfl (hb hby at_238) rfl ((if0 _ _).trans (feq ha77).1) kt) ?_
          show Go p e below P (T69.setTop (mkF m 241 #[.val (.int rc), .val (.int bb), .val (.int ii), .val (.long x0), .second, .val (.long x1), .second, .val (.long x2), .second, .val (.int (Int32.ofNat R)), .val (.int (2 : Int32)), .val (.ref b1), .val (.int (Int32.ofNat (R % 64))), .val (.long mk), .second, .val (.ref b50), .val (.int (Int32.ofNat B)), .val (.int (Int32.ofNat K)), .val (.long g), .second, .val (.int (Int32.ofNat (B + K))), .val (.int (0 : Int32)), .unset] []))
          refine Go.st (fun _ kt => XS.iconst X69.here hx rfl (hb hby at_241) (XS.goto X69.here hx rfl (pc0 := 242) (pc' := 246) rfl (hb hby at_242) (by decide) (by decide) (XS.istore X69.here hx rfl (hb hby at_246) rfl (l' := #[.val (.int rc), .val (.int bb), .val (.int ii), .val (.long x0), .second, .val (.long x1), .second, .val (.long x2), .second, .val (.int (Int32.ofNat R)), .val (.int (2 : Int32)), .val (.ref b1), .val (.int (Int32.ofNat (R % 64))), .val (.long mk), .second, .val (.ref b50), .val (.int (Int32.ofNat B)), .val (.int (Int32.ofNat K)), .val (.long g), .second, .val (.int (Int32.ofNat (B + K))), .val (.int (0 : Int32)), .val (.int (1 : Int32))]) rfl (XS.iload X69.here hx rfl (hb hby at_248) rfl (XS.iload X69.here hx rfl (hb hby at_250) rfl (XS.icmpYes X69.here hx rfl (pc0 := 252) (pc' := 259) rfl (hb hby at_252) rfl (feq (by decide : ¬ ((0 : Int32) = (1 : Int32)))).2 (by decide) (by decide) (XS.iconst X69.here hx rfl (hb hby at_259) kt))))))) ?_
          show Go p e below P (T69.setTop (mkF m 260 #[.val (.int rc), .val (.int bb), .val (.int ii), .val (.long x0), .second, .val (.long x1), .second, .val (.long x2), .second, .val (.int (Int32.ofNat R)), .val (.int (2 : Int32)), .val (.ref b1), .val (.int (Int32.ofNat (R % 64))), .val (.long mk), .second, .val (.ref b50), .val (.int (Int32.ofNat B)), .val (.int (Int32.ofNat K)), .val (.long g), .second, .val (.int (Int32.ofNat (B + K))), .val (.int (0 : Int32)), .val (.int (1 : Int32))] [(.int (0 : Int32))]))
          exfalso
          rw [own_ltN (by omega) (by omega)] at hp72
          rw [own_bit _ hK64, hkey] at ha77
          simp [hp72] at ha77
    · rw [hN]
      show Go p e below P (T9.setTop (mkF m 73 #[.val (.int rc), .val (.int bb), .val (.int ii), .val (.long x0), .second, .val (.long x1), .second, .val (.long x2), .second, .val (.int (Int32.ofNat R)), .val (.int (3 : Int32)), .val (.ref b1), .val (.int (Int32.ofNat (R % 64))), .val (.long mk), .second, .unset, .unset, .unset, .unset, .unset, .unset, .unset, .unset] []))
      refine Go.st (fun _ kt => XS.aload X9.here hx rfl (hb hby at_73) rfl rfl (XS.iload X9.here hx rfl (hb hby at_75) rfl (XS.iconst X9.here hx rfl (hb hby at_77) (XS.isub X9.here hx rfl (hb hby at_78) rfl kt)))) ?_
      show Go p e below P (T9.setTop (mkF m 79 #[.val (.int rc), .val (.int bb), .val (.int ii), .val (.long x0), .second, .val (.long x1), .second, .val (.long x2), .second, .val (.int (Int32.ofNat R)), .val (.int (3 : Int32)), .val (.ref b1), .val (.int (Int32.ofNat (R % 64))), .val (.long mk), .second, .unset, .unset, .unset, .unset, .unset, .unset, .unset, .unset] [(.int ((3 : Int32) - (1 : Int32))), (.ref b1)]))
      rw [show ((3 : Int32) - (1 : Int32)) = (2 : Int32) from by decide]
      show Go p e below P (T9.setTop (mkF m 79 #[.val (.int rc), .val (.int bb), .val (.int ii), .val (.long x0), .second, .val (.long x1), .second, .val (.long x2), .second, .val (.int (Int32.ofNat R)), .val (.int (3 : Int32)), .val (.ref b1), .val (.int (Int32.ofNat (R % 64))), .val (.long mk), .second, .unset, .unset, .unset, .unset, .unset, .unset, .unset, .unset] [(.int (2 : Int32)), (.ref b1)]))
      refine Go.st (fun _ kt => Jvm.Free.XT.dup2 X9.here hx rfl (hb hby at_79) rfl rfl rfl (aryLdJ X9 hx hZ e9 V9 (j := (2 : Int32)) (i := 2) ⟨by decide, by decide⟩ (by decide) (g := (mkF m 80 #[.val (.int rc), .val (.int bb), .val (.int ii), .val (.long x0), .second, .val (.long x1), .second, .val (.long x2), .second, .val (.int (Int32.ofNat R)), .val (.int (3 : Int32)), .val (.ref b1), .val (.int (Int32.ofNat (R % 64))), .val (.long mk), .second, .unset, .unset, .unset, .unset, .unset, .unset, .unset, .unset] [(.int (2 : Int32)), (.ref b1), (.int (2 : Int32)), (.ref b1)])) rfl rfl (hb hby at_80) _ (XS.lload X9.here hx rfl (hb hby at_81) rfl (XS.land X9.here hx rfl (hb hby at_83) rfl kt)))) ?_
      show Go p e below P (T9.setTop (mkF m 84 #[.val (.int rc), .val (.int bb), .val (.int ii), .val (.long x0), .second, .val (.long x1), .second, .val (.long x2), .second, .val (.int (Int32.ofNat R)), .val (.int (3 : Int32)), .val (.ref b1), .val (.int (Int32.ofNat (R % 64))), .val (.long mk), .second, .unset, .unset, .unset, .unset, .unset, .unset, .unset, .unset] [(.long (x2 &&& mk)), (.int (2 : Int32)), (.ref b1)]))
      obtain ⟨T78, h78, X78, e78, W78, V78, st78⟩ := aryStJ X9 hx hZ e9 V9 (j := (2 : Int32)) (x := (x2 &&& mk)) (i := 2) ⟨by decide, by decide⟩ (by decide) (g := (mkF m 84 #[.val (.int rc), .val (.int bb), .val (.int ii), .val (.long x0), .second, .val (.long x1), .second, .val (.long x2), .second, .val (.int (Int32.ofNat R)), .val (.int (3 : Int32)), .val (.ref b1), .val (.int (Int32.ofNat (R % 64))), .val (.long mk), .second, .unset, .unset, .unset, .unset, .unset, .unset, .unset, .unset] [(.long (x2 &&& mk)), (.int (2 : Int32)), (.ref b1)])) rfl rfl (hb hby at_84)
      have Z79 : n0 ≤ h78.size := by rw [W78.size]; exact Z10
      have N80 := Fr.snoc X78 N11 G1
      refine Go.st st78 ?_
      show Go p e below P (T78.setTop (mkF m 85 #[.val (.int rc), .val (.int bb), .val (.int ii), .val (.long x0), .second, .val (.long x1), .second, .val (.long x2), .second, .val (.int (Int32.ofNat R)), .val (.int (3 : Int32)), .val (.ref b1), .val (.int (Int32.ofNat (R % 64))), .val (.long mk), .second, .unset, .unset, .unset, .unset, .unset, .unset, .unset, .unset] []))
      refine Go.st (fun _ kt => XS.iload X78.here hx rfl (hb hby at_85) rfl (XS.iconst X78.here hx rfl (hb hby at_87) (XS.icmpYes X78.here hx rfl (pc0 := 88) (pc' := 96) rfl (hb hby at_88) rfl (flt (by decide : ¬ ((3 : Int32) < (3 : Int32)))).2.1 (by decide) (by decide) (XS.iload X78.here hx rfl (hb hby at_96) rfl (XS.iconst X78.here hx rfl (hb hby at_98) (XS.icmpYes X78.here hx rfl (pc0 := 99) (pc' := 107) rfl (hb hby at_99) rfl (flt (by decide : ¬ ((3 : Int32) < (2 : Int32)))).2.1 (by decide) (by decide) kt)))))) ?_
      show Go p e below P (T78.setTop (mkF m 107 #[.val (.int rc), .val (.int bb), .val (.int ii), .val (.long x0), .second, .val (.long x1), .second, .val (.long x2), .second, .val (.int (Int32.ofNat R)), .val (.int (3 : Int32)), .val (.ref b1), .val (.int (Int32.ofNat (R % 64))), .val (.long mk), .second, .unset, .unset, .unset, .unset, .unset, .unset, .unset, .unset] []))
      obtain ⟨T81, h81, X81, e81, E81, A81, D81, -, st81⟩ := newO X78 hx hZ hown (hw _ (List.mem_of_getElem? (i := 3) rfl)) (hw _ (List.mem_of_getElem? (i := 4) rfl)) (hw _ (List.mem_of_getElem? (i := 5) rfl)) e78 (g := (mkF m 107 #[.val (.int rc), .val (.int bb), .val (.int ii), .val (.long x0), .second, .val (.long x1), .second, .val (.long x2), .second, .val (.int (Int32.ofNat R)), .val (.int (3 : Int32)), .val (.ref b1), .val (.int (Int32.ofNat (R % 64))), .val (.long mk), .second, .unset, .unset, .unset, .unset, .unset, .unset, .unset, .unset] [])) rfl (hb hby at_107) (by decide) (by decide)
      obtain ⟨b81, g81⟩ : ∃ z, z = h78.size := ⟨_, rfl⟩
      rw [← g81] at A81 D81 st81
      have ne82 : b1 ≠ b81 := Nat.ne_of_lt (Nat.lt_of_lt_of_le V78.lt (Nat.le_of_eq g81.symm))
      have G81 : n0 ≤ b81 := Nat.le_trans Z79 (Nat.le_of_eq g81.symm)
      have F81_records : Fld Z h81 b81 "com/example/numtrie/numtrie/index/RecordSet" "records" "I" (.int (0 : Int32)) := D81 (Or.inr (hw _ (List.mem_of_getElem? (i := 16) rfl))) (ty := .int) (by decide)
      have F81_reader : Fld Z h81 b81 "com/example/numtrie/numtrie/index/RecordSet" "reader" "Lcom/example/numtrie/numtrie/index/IndexReader;" .null := D81 (Or.inr (hw _ (List.mem_of_getElem? (i := 18) rfl))) (ty := (.object "com/example/numtrie/numtrie/index/IndexReader")) (by decide)
      have F81_words : Fld Z h81 b81 "com/example/numtrie/numtrie/index/RecordSet" "words" "[J" .null := D81 (Or.inr (hw _ (List.mem_of_getElem? (i := 21) rfl))) (ty := (.array .long)) (by decide)
      have Z83 := Nat.le_trans Z79 E81.1
      refine Go.st st81 ?_
      show Go p e below P (T81.setTop (mkF m 110 #[.val (.int rc), .val (.int bb), .val (.int ii), .val (.long x0), .second, .val (.long x1), .second, .val (.long x2), .second, .val (.int (Int32.ofNat R)), .val (.int (3 : Int32)), .val (.ref b1), .val (.int (Int32.ofNat (R % 64))), .val (.long mk), .second, .unset, .unset, .unset, .unset, .unset, .unset, .unset, .unset] [(.ref b81)]))
      refine Go.st (fun _ kt => XS.dup X81.here hx rfl (hb hby at_110) rfl rfl (XS.iload X81.here hx rfl (hb hby at_111) rfl kt)) ?_
      show Go p e below P (T81.setTop (mkF m 113 #[.val (.int rc), .val (.int bb), .val (.int ii), .val (.long x0), .second, .val (.long x1), .second, .val (.long x2), .second, .val (.int (Int32.ofNat R)), .val (.int (3 : Int32)), .val (.ref b1), .val (.int (Int32.ofNat (R % 64))), .val (.long mk), .second, .unset, .unset, .unset, .unset, .unset, .unset, .unset, .unset] [(.int (Int32.ofNat R)), (.ref b81), (.ref b81)]))
      have f85 := (V78.ext E81)
      obtain ⟨_, T84, Lc84, X84, ⟨rfl, Nq84, K84, Ei84, t84, Fi84, Vi84, Gt84, Sz84⟩, st84⟩ := callCtor X81 hx hZ e81 (y := (⟨"com/example/numtrie/numtrie/index/RecordSet", "<init>", "(I)V"⟩ : MethodName)) rfl (a := b81) (argsL := [(.int (Int32.ofNat R))]) (rest := [(.ref b81)]) hown (hw _ (List.mem_of_getElem? (i := 6) rfl)) (hw _ (List.mem_of_getElem? (i := 7) rfl)) (hw _ (List.mem_of_getElem? (i := 5) rfl)) (hw _ (List.mem_of_getElem? (i := 8) rfl)) (by decide) (rmI l Z a0 hw b81 (Int32.ofNat R) R _ n0 Z83 A81 F81_records F81_reader F81_words G81 rfl hR1 hR2) (W := 1) (by decide) (by decide) (g := (mkF m 113 #[.val (.int rc), .val (.int bb), .val (.int ii), .val (.long x0), .second, .val (.long x1), .second, .val (.long x2), .second, .val (.int (Int32.ofNat R)), .val (.int (3 : Int32)), .val (.ref b1), .val (.int (Int32.ofNat (R % 64))), .val (.long mk), .second, .unset, .unset, .unset, .unset, .unset, .unset, .unset, .unset] [(.int (Int32.ofNat R)), (.ref b81), (.ref b81)])) rfl (by rw [hml]; rfl) (lenOf pd_2 rfl) rfl (by show 2 * 0 + _ ≤ _; exact Nat.le_of_eq rfl) (hb hby at_113) (by decide) (by decide)
      have N84 := Fr.app N80 Nq84
      have Z86 := Nat.le_trans Z83 K84.1
      have Vj84 := Vi84
      rw [hN] at Vj84
      have ne87 : b1 ≠ t84 := Nat.ne_of_lt (Nat.lt_of_lt_of_le f85.lt Sz84)
      refine Go.st st84 ?_
      show Go p e below P (T84.setTop (mkF m 116 #[.val (.int rc), .val (.int bb), .val (.int ii), .val (.long x0), .second, .val (.long x1), .second, .val (.long x2), .second, .val (.int (Int32.ofNat R)), .val (.int (3 : Int32)), .val (.ref b1), .val (.int (Int32.ofNat (R % 64))), .val (.long mk), .second, .unset, .unset, .unset, .unset, .unset, .unset, .unset, .unset] [(.ref b81)]))
      refine Go.st (fun _ kt => XS.astore X84.here hx rfl (hb hby at_116) rfl rfl (l' := #[.val (.int rc), .val (.int bb), .val (.int ii), .val (.long x0), .second, .val (.long x1), .second, .val (.long x2), .second, .val (.int (Int32.ofNat R)), .val (.int (3 : Int32)), .val (.ref b1), .val (.int (Int32.ofNat (R % 64))), .val (.long mk), .second, .val (.ref b81), .unset, .unset, .unset, .unset, .unset, .unset, .unset]) rfl (XS.aload X84.here hx rfl (hb hby at_118) rfl rfl kt)) ?_
      show Go p e below P (T84.setTop (mkF m 120 #[.val (.int rc), .val (.int bb), .val (.int ii), .val (.long x0), .second, .val (.long x1), .second, .val (.long x2), .second, .val (.int (Int32.ofNat R)), .val (.int (3 : Int32)), .val (.ref b1), .val (.int (Int32.ofNat (R % 64))), .val (.long mk), .second, .val (.ref b81), .unset, .unset, .unset, .unset, .unset, .unset, .unset] [(.ref b81)]))
      obtain ⟨T88, X88, e88, st88⟩ := getF X84 hx hZ hown (host := "") (Or.inl (hw _ (List.mem_of_getElem? (i := 22) rfl))) Via.refl rfl Fi84 (g := (mkF m 120 #[.val (.int rc), .val (.int bb), .val (.int ii), .val (.long x0), .second, .val (.long x1), .second, .val (.long x2), .second, .val (.int (Int32.ofNat R)), .val (.int (3 : Int32)), .val (.ref b1), .val (.int (Int32.ofNat (R % 64))), .val (.long mk), .second, .val (.ref b81), .unset, .unset, .unset, .unset, .unset, .unset, .unset] [(.ref b81)])) rfl rfl (hb hby at_120)
      refine Go.st st88 ?_
      show Go p e below P (T88.setTop (mkF m 123 #[.val (.int rc), .val (.int bb), .val (.int ii), .val (.long x0), .second, .val (.long x1), .second, .val (.long x2), .second, .val (.int (Int32.ofNat R)), .val (.int (3 : Int32)), .val (.ref b1), .val (.int (Int32.ofNat (R % 64))), .val (.long mk), .second, .val (.ref b81), .unset, .unset, .unset, .unset, .unset, .unset, .unset] [(.ref t84)]))
      have f89 := (f85.keep K84 (ninS ne82 nin0))
      refine Go.st (fun _ kt => XS.iconst X88.here hx rfl (hb hby at_123) (XS.aload X88.here hx rfl (hb hby at_124) rfl rfl (XS.iconst X88.here hx rfl (hb hby at_126) (aryLdJ X88 hx hZ e88 f89 (j := (0 : Int32)) (i := 0) ⟨by decide, by decide⟩ (by decide) (g := (mkF m 127 #[.val (.int rc), .val (.int bb), .val (.int ii), .val (.long x0), .second, .val (.long x1), .second, .val (.long x2), .second, .val (.int (Int32.ofNat R)), .val (.int (3 : Int32)), .val (.ref b1), .val (.int (Int32.ofNat (R % 64))), .val (.long mk), .second, .val (.ref b81), .unset, .unset, .unset, .unset, .unset, .unset, .unset] [(.int (0 : Int32)), (.ref b1), (.int (0 : Int32)), (.ref t84)])) rfl rfl (hb hby at_127) _ kt)))) ?_
      show Go p e below P (T88.setTop (mkF m 128 #[.val (.int rc), .val (.int bb), .val (.int ii), .val (.long x0), .second, .val (.long x1), .second, .val (.long x2), .second, .val (.int (Int32.ofNat R)), .val (.int (3 : Int32)), .val (.ref b1), .val (.int (Int32.ofNat (R % 64))), .val (.long mk), .second, .val (.ref b81), .unset, .unset, .unset, .unset, .unset, .unset, .unset] [(.long x0), (.int (0 : Int32)), (.ref t84)]))
      have ne91 := Ary.ne Vj84 Ei84 (hw _ (List.mem_of_getElem? (i := 4) rfl))
      obtain ⟨T90, h90, X90, e90, W90, V90, st90⟩ := aryStJ X88 hx hZ e88 Vj84 (j := (0 : Int32)) (x := x0) (i := 0) ⟨by decide, by decide⟩ (by decide) (g := (mkF m 128 #[.val (.int rc), .val (.int bb), .val (.int ii), .val (.long x0), .second, .val (.long x1), .second, .val (.long x2), .second, .val (.int (Int32.ofNat R)), .val (.int (3 : Int32)), .val (.ref b1), .val (.int (Int32.ofNat (R % 64))), .val (.long mk), .second, .val (.ref b81), .unset, .unset, .unset, .unset, .unset, .unset, .unset] [(.long x0), (.int (0 : Int32)), (.ref t84)])) rfl rfl (hb hby at_128)
      have Z92 : n0 ≤ h90.size := by rw [W90.size]; exact Z86
      have N93 := Fr.snoc X90 N84 Gt84
      refine Go.st st90 ?_
      show Go p e below P (T90.setTop (mkF m 129 #[.val (.int rc), .val (.int bb), .val (.int ii), .val (.long x0), .second, .val (.long x1), .second, .val (.long x2), .second, .val (.int (Int32.ofNat R)), .val (.int (3 : Int32)), .val (.ref b1), .val (.int (Int32.ofNat (R % 64))), .val (.long mk), .second, .val (.ref b81), .unset, .unset, .unset, .unset, .unset, .unset, .unset] []))
      refine Go.st (fun _ kt => XS.iload X90.here hx rfl (hb hby at_129) rfl (XS.iconst X90.here hx rfl (hb hby at_131) (XS.icmpNo X90.here hx rfl (hb hby at_132) rfl (tlt (by decide : (1 : Int32) < (3 : Int32))).2.2.2 (XS.aload X90.here hx rfl (hb hby at_135) rfl rfl kt)))) ?_
      show Go p e below P (T90.setTop (mkF m 137 #[.val (.int rc), .val (.int bb), .val (.int ii), .val (.long x0), .second, .val (.long x1), .second, .val (.long x2), .second, .val (.int (Int32.ofNat R)), .val (.int (3 : Int32)), .val (.ref b1), .val (.int (Int32.ofNat (R % 64))), .val (.long mk), .second, .val (.ref b81), .unset, .unset, .unset, .unset, .unset, .unset, .unset] [(.ref b81)]))
      have f95 := (Fi84.other W90 (Or.inl ne91))
      obtain ⟨T94, X94, e94, st94⟩ := getF X90 hx hZ hown (host := "") (Or.inl (hw _ (List.mem_of_getElem? (i := 22) rfl))) Via.refl e90 f95 (g := (mkF m 137 #[.val (.int rc), .val (.int bb), .val (.int ii), .val (.long x0), .second, .val (.long x1), .second, .val (.long x2), .second, .val (.int (Int32.ofNat R)), .val (.int (3 : Int32)), .val (.ref b1), .val (.int (Int32.ofNat (R % 64))), .val (.long mk), .second, .val (.ref b81), .unset, .unset, .unset, .unset, .unset, .unset, .unset] [(.ref b81)])) rfl rfl (hb hby at_137)
      refine Go.st st94 ?_
      show Go p e below P (T94.setTop (mkF m 140 #[.val (.int rc), .val (.int bb), .val (.int ii), .val (.long x0), .second, .val (.long x1), .second, .val (.long x2), .second, .val (.int (Int32.ofNat R)), .val (.int (3 : Int32)), .val (.ref b1), .val (.int (Int32.ofNat (R % 64))), .val (.long mk), .second, .val (.ref b81), .unset, .unset, .unset, .unset, .unset, .unset, .unset] [(.ref t84)]))
      have f96 := (f89.other W90 ne87)
      refine Go.st (fun _ kt => XS.iconst X94.here hx rfl (hb hby at_140) (XS.aload X94.here hx rfl (hb hby at_141) rfl rfl (XS.iconst X94.here hx rfl (hb hby at_143) (aryLdJ X94 hx hZ e94 f96 (j := (1 : Int32)) (i := 1) ⟨by decide, by decide⟩ (by decide) (g := (mkF m 144 #[.val (.int rc), .val (.int bb), .val (.int ii), .val (.long x0), .second, .val (.long x1), .second, .val (.long x2), .second, .val (.int (Int32.ofNat R)), .val (.int (3 : Int32)), .val (.ref b1), .val (.int (Int32.ofNat (R % 64))), .val (.long mk), .second, .val (.ref b81), .unset, .unset, .unset, .unset, .unset, .unset, .unset] [(.int (1 : Int32)), (.ref b1), (.int (1 : Int32)), (.ref t84)])) rfl rfl (hb hby at_144) _ kt)))) ?_
      show Go p e below P (T94.setTop (mkF m 145 #[.val (.int rc), .val (.int bb), .val (.int ii), .val (.long x0), .second, .val (.long x1), .second, .val (.long x2), .second, .val (.int (Int32.ofNat R)), .val (.int (3 : Int32)), .val (.ref b1), .val (.int (Int32.ofNat (R % 64))), .val (.long mk), .second, .val (.ref b81), .unset, .unset, .unset, .unset, .unset, .unset, .unset] [(.long x1), (.int (1 : Int32)), (.ref t84)]))
      obtain ⟨T97, h97, X97, e97, W97, V97, st97⟩ := aryStJ X94 hx hZ e94 V90 (j := (1 : Int32)) (x := x1) (i := 1) ⟨by decide, by decide⟩ (by decide) (g := (mkF m 145 #[.val (.int rc), .val (.int bb), .val (.int ii), .val (.long x0), .second, .val (.long x1), .second, .val (.long x2), .second, .val (.int (Int32.ofNat R)), .val (.int (3 : Int32)), .val (.ref b1), .val (.int (Int32.ofNat (R % 64))), .val (.long mk), .second, .val (.ref b81), .unset, .unset, .unset, .unset, .unset, .unset, .unset] [(.long x1), (.int (1 : Int32)), (.ref t84)])) rfl rfl (hb hby at_145)
      have Z98 : n0 ≤ h97.size := by rw [W97.size]; exact Z92
      have N99 := Fr.snoc X97 N93 Gt84
      refine Go.st st97 ?_
      show Go p e below P (T97.setTop (mkF m 146 #[.val (.int rc), .val (.int bb), .val (.int ii), .val (.long x0), .second, .val (.long x1), .second, .val (.long x2), .second, .val (.int (Int32.ofNat R)), .val (.int (3 : Int32)), .val (.ref b1), .val (.int (Int32.ofNat (R % 64))), .val (.long mk), .second, .val (.ref b81), .unset, .unset, .unset, .unset, .unset, .unset, .unset] []))
      refine Go.st (fun _ kt => XS.iload X97.here hx rfl (hb hby at_146) rfl (XS.iconst X97.here hx rfl (hb hby at_148) (XS.icmpNo X97.here hx rfl (hb hby at_149) rfl (tlt (by decide : (2 : Int32) < (3 : Int32))).2.2.2 (XS.aload X97.here hx rfl (hb hby at_152) rfl rfl kt)))) ?_
      show Go p e below P (T97.setTop (mkF m 154 #[.val (.int rc), .val (.int bb), .val (.int ii), .val (.long x0), .second, .val (.long x1), .second, .val (.long x2), .second, .val (.int (Int32.ofNat R)), .val (.int (3 : Int32)), .val (.ref b1), .val (.int (Int32.ofNat (R % 64))), .val (.long mk), .second, .val (.ref b81), .unset, .unset, .unset, .unset, .unset, .unset, .unset] [(.ref b81)]))
      have f101 := (f95.other W97 (Or.inl ne91))
      obtain ⟨T100, X100, e100, st100⟩ := getF X97 hx hZ hown (host := "") (Or.inl (hw _ (List.mem_of_getElem? (i := 22) rfl))) Via.refl e97 f101 (g := (mkF m 154 #[.val (.int rc), .val (.int bb), .val (.int ii), .val (.long x0), .second, .val (.long x1), .second, .val (.long x2), .second, .val (.int (Int32.ofNat R)), .val (.int (3 : Int32)), .val (.ref b1), .val (.int (Int32.ofNat (R % 64))), .val (.long mk), .second, .val (.ref b81), .unset, .unset, .unset, .unset, .unset, .unset, .unset] [(.ref b81)])) rfl rfl (hb hby at_154)
      refine Go.st st100 ?_
      show Go p e below P (T100.setTop (mkF m 157 #[.val (.int rc), .val (.int bb), .val (.int ii), .val (.long x0), .second, .val (.long x1), .second, .val (.long x2), .second, .val (.int (Int32.ofNat R)), .val (.int (3 : Int32)), .val (.ref b1), .val (.int (Int32.ofNat (R % 64))), .val (.long mk), .second, .val (.ref b81), .unset, .unset, .unset, .unset, .unset, .unset, .unset] [(.ref t84)]))
      have f102 := (f96.other W97 ne87)
      refine Go.st (fun _ kt => XS.iconst X100.here hx rfl (hb hby at_157) (XS.aload X100.here hx rfl (hb hby at_158) rfl rfl (XS.iconst X100.here hx rfl (hb hby at_160) (aryLdJ X100 hx hZ e100 f102 (j := (2 : Int32)) (i := 2) ⟨by decide, by decide⟩ (by decide) (g := (mkF m 161 #[.val (.int rc), .val (.int bb), .val (.int ii), .val (.long x0), .second, .val (.long x1), .second, .val (.long x2), .second, .val (.int (Int32.ofNat R)), .val (.int (3 : Int32)), .val (.ref b1), .val (.int (Int32.ofNat (R % 64))), .val (.long mk), .second, .val (.ref b81), .unset, .unset, .unset, .unset, .unset, .unset, .unset] [(.int (2 : Int32)), (.ref b1), (.int (2 : Int32)), (.ref t84)])) rfl rfl (hb hby at_161) _ kt)))) ?_
      show Go p e below P (T100.setTop (mkF m 162 #[.val (.int rc), .val (.int bb), .val (.int ii), .val (.long x0), .second, .val (.long x1), .second, .val (.long x2), .second, .val (.int (Int32.ofNat R)), .val (.int (3 : Int32)), .val (.ref b1), .val (.int (Int32.ofNat (R % 64))), .val (.long mk), .second, .val (.ref b81), .unset, .unset, .unset, .unset, .unset, .unset, .unset] [(.long (x2 &&& mk)), (.int (2 : Int32)), (.ref t84)]))
      obtain ⟨T103, h103, X103, e103, W103, V103, st103⟩ := aryStJ X100 hx hZ e100 V97 (j := (2 : Int32)) (x := (x2 &&& mk)) (i := 2) ⟨by decide, by decide⟩ (by decide) (g := (mkF m 162 #[.val (.int rc), .val (.int bb), .val (.int ii), .val (.long x0), .second, .val (.long x1), .second, .val (.long x2), .second, .val (.int (Int32.ofNat R)), .val (.int (3 : Int32)), .val (.ref b1), .val (.int (Int32.ofNat (R % 64))), .val (.long mk), .second, .val (.ref b81), .unset, .unset, .unset, .unset, .unset, .unset, .unset] [(.long (x2 &&& mk)), (.int (2 : Int32)), (.ref t84)])) rfl rfl (hb hby at_162)
      have Z104 : n0 ≤ h103.size := by rw [W103.size]; exact Z98
      have N105 := Fr.snoc X103 N99 Gt84
      refine Go.st st103 ?_
      show Go p e below P (T103.setTop (mkF m 163 #[.val (.int rc), .val (.int bb), .val (.int ii), .val (.long x0), .second, .val (.long x1), .second, .val (.long x2), .second, .val (.int (Int32.ofNat R)), .val (.int (3 : Int32)), .val (.ref b1), .val (.int (Int32.ofNat (R % 64))), .val (.long mk), .second, .val (.ref b81), .unset, .unset, .unset, .unset, .unset, .unset, .unset] []))
      refine Go.st (fun _ kt => XS.iloadN X103.here hx rfl (hb hby at_163) rfl (X103.ldcInt hx hown (mvT hZ (hw _ (List.mem_of_getElem? (i := 0) rfl))) (g := (mkF m 164 #[.val (.int rc), .val (.int bb), .val (.int ii), .val (.long x0), .second, .val (.long x1), .second, .val (.long x2), .second, .val (.int (Int32.ofNat R)), .val (.int (3 : Int32)), .val (.ref b1), .val (.int (Int32.ofNat (R % 64))), .val (.long mk), .second, .val (.ref b81), .unset, .unset, .unset, .unset, .unset, .unset, .unset] [(.int bb)])) rfl (hb hby at_164) _ (XS.iand X103.here hx rfl (hb hby at_166) rfl (XS.iload X103.here hx rfl (hb hby at_167) rfl (iremM X103 hx rfl (hb hby at_169) rfl (own_nz (by rw [own_tn (by omega)]; omega)) kt))))) ?_
      show Go p e below P (T103.setTop (mkF m 170 #[.val (.int rc), .val (.int bb), .val (.int ii), .val (.long x0), .second, .val (.long x1), .second, .val (.long x2), .second, .val (.int (Int32.ofNat R)), .val (.int (3 : Int32)), .val (.ref b1), .val (.int (Int32.ofNat (R % 64))), .val (.long mk), .second, .val (.ref b81), .unset, .unset, .unset, .unset, .unset, .unset, .unset] [(.int ((bb &&& (2147483647 : Int32)) % (Int32.ofNat R)))]))
      obtain ⟨B, hB, hBR⟩ := own_B bb hR1 hR2
      rw [hB]
      show Go p e below P (T103.setTop (mkF m 170 #[.val (.int rc), .val (.int bb), .val (.int ii), .val (.long x0), .second, .val (.long x1), .second, .val (.long x2), .second, .val (.int (Int32.ofNat R)), .val (.int (3 : Int32)), .val (.ref b1), .val (.int (Int32.ofNat (R % 64))), .val (.long mk), .second, .val (.ref b81), .unset, .unset, .unset, .unset, .unset, .unset, .unset] [(.int (Int32.ofNat B))]))
      refine Go.st (fun _ kt => XS.istore X103.here hx rfl (hb hby at_170) rfl (l' := #[.val (.int rc), .val (.int bb), .val (.int ii), .val (.long x0), .second, .val (.long x1), .second, .val (.long x2), .second, .val (.int (Int32.ofNat R)), .val (.int (3 : Int32)), .val (.ref b1), .val (.int (Int32.ofNat (R % 64))), .val (.long mk), .second, .val (.ref b81), .val (.int (Int32.ofNat B)), .unset, .unset, .unset, .unset, .unset, .unset]) rfl (XS.iloadN X103.here hx rfl (hb hby at_172) rfl (XS.bipush X103.here hx rfl (hb hby at_173) (XS.iand X103.here hx rfl (hb hby at_175) rfl kt)))) ?_
      show Go p e below P (T103.setTop (mkF m 176 #[.val (.int rc), .val (.int bb), .val (.int ii), .val (.long x0), .second, .val (.long x1), .second, .val (.long x2), .second, .val (.int (Int32.ofNat R)), .val (.int (3 : Int32)), .val (.ref b1), .val (.int (Int32.ofNat (R % 64))), .val (.long mk), .second, .val (.ref b81), .val (.int (Int32.ofNat B)), .unset, .unset, .unset, .unset, .unset, .unset] [(.int (ii &&& (63 : Int32)))]))
      obtain ⟨K, hK, hK64⟩ := own_63 ii
      rw [hK]
      show Go p e below P (T103.setTop (mkF m 176 #[.val (.int rc), .val (.int bb), .val (.int ii), .val (.long x0), .second, .val (.long x1), .second, .val (.long x2), .second, .val (.int (Int32.ofNat R)), .val (.int (3 : Int32)), .val (.ref b1), .val (.int (Int32.ofNat (R % 64))), .val (.long mk), .second, .val (.ref b81), .val (.int (Int32.ofNat B)), .unset, .unset, .unset, .unset, .unset, .unset] [(.int (Int32.ofNat K))]))
      refine Go.st (fun _ kt => XS.istore X103.here hx rfl (hb hby at_176) rfl (l' := #[.val (.int rc), .val (.int bb), .val (.int ii), .val (.long x0), .second, .val (.long x1), .second, .val (.long x2), .second, .val (.int (Int32.ofNat R)), .val (.int (3 : Int32)), .val (.ref b1), .val (.int (Int32.ofNat (R % 64))), .val (.long mk), .second, .val (.ref b81), .val (.int (Int32.ofNat B)), .val (.int (Int32.ofNat K)), .unset, .unset, .unset, .unset, .unset]) rfl (XS.aload X103.here hx rfl (hb hby at_178) rfl rfl (XS.iload X103.here hx rfl (hb hby at_180) rfl kt))) ?_
      show Go p e below P (T103.setTop (mkF m 182 #[.val (.int rc), .val (.int bb), .val (.int ii), .val (.long x0), .second, .val (.long x1), .second, .val (.long x2), .second, .val (.int (Int32.ofNat R)), .val (.int (3 : Int32)), .val (.ref b1), .val (.int (Int32.ofNat (R % 64))), .val (.long mk), .second, .val (.ref b81), .val (.int (Int32.ofNat B)), .val (.int (Int32.ofNat K)), .unset, .unset, .unset, .unset, .unset] [(.int (Int32.ofNat B)), (.ref b81)]))
      have f107 := (f101.other W103 (Or.inl ne91))
      have f108 := (((Ei84.wr W90).wr W97).wr W103)
      obtain ⟨_, T106, Lc106, X106, ⟨g, rfl, Nq106, eq106, hg⟩, st106⟩ := callCv X103 hx hZ e103 (y := (⟨"com/example/numtrie/numtrie/index/RecordSet", "wordFrom", "(I)J"⟩ : MethodName)) (a := b81) (argsL := [(.int (Int32.ofNat B))]) (rest := []) hown (hw _ (List.mem_of_getElem? (i := 23) rfl)) (hw _ (List.mem_of_getElem? (i := 24) rfl)) (hw _ (List.mem_of_getElem? (i := 26) rfl)) (hw _ (List.mem_of_getElem? (i := 25) rfl)) (hw _ (List.mem_of_getElem? (i := 5) rfl)) (hw _ (List.mem_of_getElem? (i := 27) rfl)) (by decide) f108 (rmW l Z a0 hw b81 (Int32.ofNat B) t84 3 B _ _ n0 Z104 f107 V103 rfl (by decide) (by omega)) (W := 0) (by decide) (by decide) (g := (mkF m 182 #[.val (.int rc), .val (.int bb), .val (.int ii), .val (.long x0), .second, .val (.long x1), .second, .val (.long x2), .second, .val (.int (Int32.ofNat R)), .val (.int (3 : Int32)), .val (.ref b1), .val (.int (Int32.ofNat (R % 64))), .val (.long mk), .second, .val (.ref b81), .val (.int (Int32.ofNat B)), .val (.int (Int32.ofNat K)), .unset, .unset, .unset, .unset, .unset] [(.int (Int32.ofNat B)), (.ref b81)])) rfl (by rw [hml]; rfl) (lenOf pd_3 rfl) rfl (by show 2 * 0 + _ ≤ _; exact Nat.le_of_eq rfl) (hb hby at_182) (by decide) (by decide)
      have N106 := Fr.app N105 Nq106
      have e106 : T106.heap = h103 := eq106
      refine Go.st st106 ?_
      show Go p e below P (T106.setTop (mkF m 185 #[.val (.int rc), .val (.int bb), .val (.int ii), .val (.long x0), .second, .val (.long x1), .second, .val (.long x2), .second, .val (.int (Int32.ofNat R)), .val (.int (3 : Int32)), .val (.ref b1), .val (.int (Int32.ofNat (R % 64))), .val (.long mk), .second, .val (.ref b81), .val (.int (Int32.ofNat B)), .val (.int (Int32.ofNat K)), .unset, .unset, .unset, .unset, .unset] [(.long g)]))
      have hkey := (hg K hK64).trans (own_key (g := (upd (upd (upd (upd (fun _ => (0 : Int64)) 0 x0) 1 x1) 2 x2) 2 (x2 &&& mk))) hN hR1 hBR hK64 (fun j hj t ht hRt => by
        obtain ⟨rfl, h2⟩ : j = 2 ∧ ¬ (R % 64 = 0 ∨ t < R % 64) := by omega
        show own_tb (x2 &&& mk) t = false
        rw [own_tb_and, hmk t ht]; simp only [h2, decide_false, Bool.and_false]) (fun j hj => by
        rcases (by omega : j = 0 ∨ j = 1 ∨ j = 2) with rfl | rfl | rfl <;> rfl))
      clear hg
      refine Go.st (fun _ kt => XS.lstore X106.here hx rfl (hb hby at_185) rfl (l' := #[.val (.int rc), .val (.int bb), .val (.int ii), .val (.long x0), .second, .val (.long x1), .second, .val (.long x2), .second, .val (.int (Int32.ofNat R)), .val (.int (3 : Int32)), .val (.ref b1), .val (.int (Int32.ofNat (R % 64))), .val (.long mk), .second, .val (.ref b81), .val (.int (Int32.ofNat B)), .val (.int (Int32.ofNat K)), .val (.long g), .second, .unset, .unset, .unset]) rfl (XS.iload X106.here hx rfl (hb hby at_187) rfl (XS.iload X106.here hx rfl (hb hby at_189) rfl (XS.iadd X106.here hx rfl (hb hby at_191) rfl kt)))) ?_
      show Go p e below P (T106.setTop (mkF m 192 #[.val (.int rc), .val (.int bb), .val (.int ii), .val (.long x0), .second, .val (.long x1), .second, .val (.long x2), .second, .val (.int (Int32.ofNat R)), .val (.int (3 : Int32)), .val (.ref b1), .val (.int (Int32.ofNat (R % 64))), .val (.long mk), .second, .val (.ref b81), .val (.int (Int32.ofNat B)), .val (.int (Int32.ofNat K)), .val (.long g), .second, .unset, .unset, .unset] [(.int ((Int32.ofNat B) + (Int32.ofNat K)))]))
      rw [show Int32.ofNat B + Int32.ofNat K = Int32.ofNat (B + K) from by rw [Int32.ofNat_add]]
      show Go p e below P (T106.setTop (mkF m 192 #[.val (.int rc), .val (.int bb), .val (.int ii), .val (.long x0), .second, .val (.long x1), .second, .val (.long x2), .second, .val (.int (Int32.ofNat R)), .val (.int (3 : Int32)), .val (.ref b1), .val (.int (Int32.ofNat (R % 64))), .val (.long mk), .second, .val (.ref b81), .val (.int (Int32.ofNat B)), .val (.int (Int32.ofNat K)), .val (.long g), .second, .unset, .unset, .unset] [(.int (Int32.ofNat (B + K)))]))
      refine Go.st (fun _ kt => XS.istore X106.here hx rfl (hb hby at_192) rfl (l' := #[.val (.int rc), .val (.int bb), .val (.int ii), .val (.long x0), .second, .val (.long x1), .second, .val (.long x2), .second, .val (.int (Int32.ofNat R)), .val (.int (3 : Int32)), .val (.ref b1), .val (.int (Int32.ofNat (R % 64))), .val (.long mk), .second, .val (.ref b81), .val (.int (Int32.ofNat B)), .val (.int (Int32.ofNat K)), .val (.long g), .second, .val (.int (Int32.ofNat (B + K))), .unset, .unset]) rfl (XS.iload X106.here hx rfl (hb hby at_194) rfl (XS.iload X106.here hx rfl (hb hby at_196) rfl kt))) ?_
      show Go p e below P (T106.setTop (mkF m 198 #[.val (.int rc), .val (.int bb), .val (.int ii), .val (.long x0), .second, .val (.long x1), .second, .val (.long x2), .second, .val (.int (Int32.ofNat R)), .val (.int (3 : Int32)), .val (.ref b1), .val (.int (Int32.ofNat (R % 64))), .val (.long mk), .second, .val (.ref b81), .val (.int (Int32.ofNat B)), .val (.int (Int32.ofNat K)), .val (.long g), .second, .val (.int (Int32.ofNat (B + K))), .unset, .unset] [(.int (Int32.ofNat R)), (.int (Int32.ofNat (B + K)))]))
      by_cases hp109 : (Int32.ofNat (B + K)) < (Int32.ofNat R)
      · refine Go.st (fun _ kt => XS.icmpNo X106.here hx rfl (hb hby at_198) rfl (tlt hp109).2.1 kt) ?_
        show Go p e below P (T106.setTop (mkF m 201 #[.val (.int rc), .val (.int bb), .val (.int ii), .val (.long x0), .second, .val (.long x1), .second, .val (.long x2), .second, .val (.int (Int32.ofNat R)), .val (.int (3 : Int32)), .val (.ref b1), .val (.int (Int32.ofNat (R % 64))), .val (.long mk), .second, .val (.ref b81), .val (.int (Int32.ofNat B)), .val (.int (Int32.ofNat K)), .val (.long g), .second, .val (.int (Int32.ofNat (B + K))), .unset, .unset] []))
        have f110 := (f102.other W103 ne87)
        refine Go.st (fun _ kt => XS.aload X106.here hx rfl (hb hby at_201) rfl rfl (XS.iload X106.here hx rfl (hb hby at_203) rfl (XS.bipush X106.here hx rfl (hb hby at_205) (XS.iushr X106.here hx rfl (hb hby at_207) rfl (aryLdJ X106 hx hZ e106 f110 (j := (((Int32.ofNat (B + K)).toUInt32 >>> ((6 : Int32) &&& 31).toUInt32).toInt32)) (i := ((B + K) / 64)) (by rw [own_div ⟨B + K, by omega⟩]; exact isN_ofNat (by omega)) (by have q := hp109; rw [own_ltN (by omega) (by omega)] at q; omega) (g := (mkF m 208 #[.val (.int rc), .val (.int bb), .val (.int ii), .val (.long x0), .second, .val (.long x1), .second, .val (.long x2), .second, .val (.int (Int32.ofNat R)), .val (.int (3 : Int32)), .val (.ref b1), .val (.int (Int32.ofNat (R % 64))), .val (.long mk), .second, .val (.ref b81), .val (.int (Int32.ofNat B)), .val (.int (Int32.ofNat K)), .val (.long g), .second, .val (.int (Int32.ofNat (B + K))), .unset, .unset] [(.int (((Int32.ofNat (B + K)).toUInt32 >>> ((6 : Int32) &&& 31).toUInt32).toInt32)), (.ref b1)])) rfl rfl (hb hby at_208) _ (XS.iload X106.here hx rfl (hb hby at_209) rfl (XS.bipush X106.here hx rfl (hb hby at_211) (XS.iand X106.here hx rfl (hb hby at_213) rfl kt)))))))) ?_
        show Go p e below P (T106.setTop (mkF m 214 #[.val (.int rc), .val (.int bb), .val (.int ii), .val (.long x0), .second, .val (.long x1), .second, .val (.long x2), .second, .val (.int (Int32.ofNat R)), .val (.int (3 : Int32)), .val (.ref b1), .val (.int (Int32.ofNat (R % 64))), .val (.long mk), .second, .val (.ref b81), .val (.int (Int32.ofNat B)), .val (.int (Int32.ofNat K)), .val (.long g), .second, .val (.int (Int32.ofNat (B + K))), .unset, .unset] [(.int ((Int32.ofNat (B + K)) &&& (63 : Int32))), (.long ((upd (upd (upd (upd (fun _ => (0 : Int64)) 0 x0) 1 x1) 2 x2) 2 (x2 &&& mk)) ((B + K) / 64)))]))
        rw [own_mod ⟨B + K, by omega⟩]
        show Go p e below P (T106.setTop (mkF m 214 #[.val (.int rc), .val (.int bb), .val (.int ii), .val (.long x0), .second, .val (.long x1), .second, .val (.long x2), .second, .val (.int (Int32.ofNat R)), .val (.int (3 : Int32)), .val (.ref b1), .val (.int (Int32.ofNat (R % 64))), .val (.long mk), .second, .val (.ref b81), .val (.int (Int32.ofNat B)), .val (.int (Int32.ofNat K)), .val (.long g), .second, .val (.int (Int32.ofNat (B + K))), .unset, .unset] [(.int (Int32.ofNat ((B + K) % 64))), (.long ((upd (upd (upd (upd (fun _ => (0 : Int64)) 0 x0) 1 x1) 2 x2) 2 (x2 &&& mk)) ((B + K) / 64)))]))
        refine Go.st (fun _ kt => XS.lushr X106.here hx rfl (hb hby at_214) rfl (XS.lconst X106.here hx rfl (hb hby at_215) (XS.land X106.here hx rfl (hb hby at_216) rfl (XS.lconst X106.here hx rfl (hb hby at_217) (XS.lcmp X106.here hx rfl (hb hby at_218) rfl kt))))) ?_
        show Go p e below P (T106.setTop (mkF m 219 #[.val (.int rc), .val (.int bb), .val (.int ii), .val (.long x0), .second, .val (.long x1), .second, .val (.long x2), .second, .val (.int (Int32.ofNat R)), .val (.int (3 : Int32)), .val (.ref b1), .val (.int (Int32.ofNat (R % 64))), .val (.long mk), .second, .val (.ref b81), .val (.int (Int32.ofNat B)), .val (.int (Int32.ofNat K)), .val (.long g), .second, .val (.int (Int32.ofNat (B + K))), .unset, .unset] [(.int (lcmpW (((((upd (upd (upd (upd (fun _ => (0 : Int64)) 0 x0) 1 x1) 2 x2) 2 (x2 &&& mk)) ((B + K) / 64)).toUInt64 >>> ((Int32.ofNat ((B + K) % 64)) &&& 0x3f).toInt64.toUInt64).toInt64) &&& (1 : Int64)) (0 : Int64)))]))
        by_cases hx111 : (lcmpW (((((upd (upd (upd (upd (fun _ => (0 : Int64)) 0 x0) 1 x1) 2 x2) 2 (x2 &&& mk)) ((B + K) / 64)).toUInt64 >>> ((Int32.ofNat ((B + K) % 64)) &&& 0x3f).toInt64.toUInt64).toInt64) &&& (1 : Int64)) (0 : Int64)) = (0 : Int32)
        · refine Go.st (fun _ kt => XS.ifYes X106.here hx rfl (pc0 := 219) (pc' := 226) rfl (hb hby at_219) rfl ((if0 _ _).trans (teq hx111).1) (by decide) (by decide) kt) ?_
          show Go p e below P (T106.setTop (mkF m 226 #[.val (.int rc), .val (.int bb), .val (.int ii), .val (.long x0), .second, .val (.long x1), .second, .val (.long x2), .second, .val (.int (Int32.ofNat R)), .val (.int (3 : Int32)), .val (.ref b1), .val (.int (Int32.ofNat (R % 64))), .val (.long mk), .second, .val (.ref b81), .val (.int (Int32.ofNat B)), .val (.int (Int32.ofNat K)), .val (.long g), .second, .val (.int (Int32.ofNat (B + K))), .unset, .unset] []))
          refine Go.st (fun _ kt => XS.iconst X106.here hx rfl (hb hby at_226) (XS.istore X106.here hx rfl (hb hby at_227) rfl (l' := #[.val (.int rc), .val (.int bb), .val (.int ii), .val (.long x0), .second, .val (.long x1), .second, .val (.long x2), .second, .val (.int (Int32.ofNat R)), .val (.int (3 : Int32)), .val (.ref b1), .val (.int (Int32.ofNat (R % 64))), .val (.long mk), .second, .val (.ref b81), .val (.int (Int32.ofNat B)), .val (.int (Int32.ofNat K)), .val (.long g), .second, .val (.int (Int32.ofNat (B + K))), .val (.int (0 : Int32)), .unset]) rfl (XS.lload X106.here hx rfl (hb hby at_229) rfl (XS.iload X106.here hx rfl (hb hby at_231) rfl (XS.lushr X106.here hx rfl (hb hby at_233) rfl (XS.lconst X106.here hx rfl (hb hby at_234) (XS.land X106.here hx rfl (hb hby at_235) rfl (XS.lconst X106.here hx rfl (hb hby at_236) kt)))))))) ?_
          show Go p e below P (T106.setTop (mkF m 237 #[.val (.int rc), .val (.int bb), .val (.int ii), .val (.long x0), .second, .val (.long x1), .second, .val (.long x2), .second, .val (.int (Int32.ofNat R)), .val (.int (3 : Int32)), .val (.ref b1), .val (.int (Int32.ofNat (R % 64))), .val (.long mk), .second, .val (.ref b81), .val (.int (Int32.ofNat B)), .val (.int (Int32.ofNat K)), .val (.long g), .second, .val (.int (Int32.ofNat (B + K))), .val (.int (0 : Int32)), .unset] [(.long (0 : Int64)), (.long (((g.toUInt64 >>> ((Int32.ofNat K) &&& 0x3f).toInt64.toUInt64).toInt64) &&& (1 : Int64)))]))
          refine Go.st (fun _ kt => XS.lcmp X106.here hx rfl (hb hby at_237) rfl kt) ?_
          show Go p e below P (T106.setTop (mkF m 238 #[.val (.int rc), .val (.int bb), .val (.int ii), .val (.long x0), .second, .val (.long x1), .second, .val (.long x2), .second, .val (.int (Int32.ofNat R)), .val (.int (3 : Int32)), .val (.ref b1), .val (.int (Int32.ofNat (R % 64))), .val (.long mk), .second, .val (.ref b81), .val (.int (Int32.ofNat B)), .val (.int (Int32.ofNat K)), .val (.long g), .second, .val (.int (Int32.ofNat (B + K))), .val (.int (0 : Int32)), .unset] [(.int (lcmpW (((g.toUInt64 >>> ((Int32.ofNat K) &&& 0x3f).toInt64.toUInt64).toInt64) &&& (1 : Int64)) (0 : Int64)))]))
          by_cases ha112 : (lcmpW (((g.toUInt64 >>> ((Int32.ofNat K) &&& 0x3f).toInt64.toUInt64).toInt64) &&& (1 : Int64)) (0 : Int64)) = (0 : Int32)
          · refine Go.st (fun _ kt => XS.ifYes X106.here hx rfl (pc0 := 238) (pc' := 245) rfl (hb hby at_238) rfl ((if0 _ _).trans (teq ha112).1) (by decide) (by decide) kt) ?_
            show Go p e below P (T106.setTop (mkF m 245 #[.val (.int rc), .val (.int bb), .val (.int ii), .val (.long x0), .second, .val (.long x1), .second, .val (.long x2), .second, .val (.int (Int32.ofNat R)), .val (.int (3 : Int32)), .val (.ref b1), .val (.int (Int32.ofNat (R % 64))), .val (.long mk), .second, .val (.ref b81), .val (.int (Int32.ofNat B)), .val (.int (Int32.ofNat K)), .val (.long g), .second, .val (.int (Int32.ofNat (B + K))), .val (.int (0 : Int32)), .unset] []))
            refine Go.st (fun _ kt => XS.iconst X106.here hx rfl (hb hby at_245) (XS.istore X106.here hx rfl (hb hby at_246) rfl (l' := #[.val (.int rc), .val (.int bb), .val (.int ii), .val (.long x0), .second, .val (.long x1), .second, .val (.long x2), .second, .val (.int (Int32.ofNat R)), .val (.int (3 : Int32)), .val (.ref b1), .val (.int (Int32.ofNat (R % 64))), .val (.long mk), .second, .val (.ref b81), .val (.int (Int32.ofNat B)), .val (.int (Int32.ofNat K)), .val (.long g), .second, .val (.int (Int32.ofNat (B + K))), .val (.int (0 : Int32)), .val (.int (0 : Int32))]) rfl (XS.iload X106.here hx rfl (hb hby at_248) rfl (XS.iload X106.here hx rfl (hb hby at_250) rfl (XS.icmpNo X106.here hx rfl (hb hby at_252) rfl (teq (by decide : (0 : Int32) = (0 : Int32))).2 (XS.iconst X106.here hx rfl (hb hby at_255) (XS.goto X106.here hx rfl (pc0 := 256) (pc' := 260) rfl (hb hby at_256) (by decide) (by decide) kt))))))) ?_
            show Go p e below P (T106.setTop (mkF m 260 #[.val (.int rc), .val (.int bb), .val (.int ii), .val (.long x0), .second, .val (.long x1), .second, .val (.long x2), .second, .val (.int (Int32.ofNat R)), .val (.int (3 : Int32)), .val (.ref b1), .val (.int (Int32.ofNat (R % 64))), .val (.long mk), .second, .val (.ref b81), .val (.int (Int32.ofNat B)), .val (.int (Int32.ofNat K)), .val (.long g), .second, .val (.int (Int32.ofNat (B + K))), .val (.int (0 : Int32)), .val (.int (0 : Int32))] [(.int (1 : Int32))]))
            exact goN X106 hx (t := .boolean) hret (by simp) hlk (hb hby at_260) hP (by decide) (by decide) ⟨rfl, N106⟩
          · refine Go.st (fun _ kt => XS.ifNo X106.here hx rfl (hb hby at_238) rfl ((if0 _ _).trans (feq ha112).1) kt) ?_
            show Go p e below P (T106.setTop (mkF m 241 #[.val (.int rc), .val (.int bb), .val (.int ii), .val (.long x0), .second, .val (.long x1), .second, .val (.long x2), .second, .val (.int (Int32.ofNat R)), .val (.int (3 : Int32)), .val (.ref b1), .val (.int (Int32.ofNat (R % 64))), .val (.long mk), .second, .val (.ref b81), .val (.int (Int32.ofNat B)), .val (.int (Int32.ofNat K)), .val (.long g), .second, .val (.int (Int32.ofNat (B + K))), .val (.int (0 : Int32)), .unset] []))
            refine Go.st (fun _ kt => XS.iconst X106.here hx rfl (hb hby at_241) (XS.goto X106.here hx rfl (pc0 := 242) (pc' := 246) rfl (hb hby at_242) (by decide) (by decide) (XS.istore X106.here hx rfl (hb hby at_246) rfl (l' := #[.val (.int rc), .val (.int bb), .val (.int ii), .val (.long x0), .second, .val (.long x1), .second, .val (.long x2), .second, .val (.int (Int32.ofNat R)), .val (.int (3 : Int32)), .val (.ref b1), .val (.int (Int32.ofNat (R % 64))), .val (.long mk), .second, .val (.ref b81), .val (.int (Int32.ofNat B)), .val (.int (Int32.ofNat K)), .val (.long g), .second, .val (.int (Int32.ofNat (B + K))), .val (.int (0 : Int32)), .val (.int (1 : Int32))]) rfl (XS.iload X106.here hx rfl (hb hby at_248) rfl (XS.iload X106.here hx rfl (hb hby at_250) rfl (XS.icmpYes X106.here hx rfl (pc0 := 252) (pc' := 259) rfl (hb hby at_252) rfl (feq (by decide : ¬ ((0 : Int32) = (1 : Int32)))).2 (by decide) (by decide) (XS.iconst X106.here hx rfl (hb hby at_259) kt))))))) ?_
            show Go p e below P (T106.setTop (mkF m 260 #[.val (.int rc), .val (.int bb), .val (.int ii), .val (.long x0), .second, .val (.long x1), .second, .val (.long x2), .second, .val (.int (Int32.ofNat R)), .val (.int (3 : Int32)), .val (.ref b1), .val (.int (Int32.ofNat (R % 64))), .val (.long mk), .second, .val (.ref b81), .val (.int (Int32.ofNat B)), .val (.int (Int32.ofNat K)), .val (.long g), .second, .val (.int (Int32.ofNat (B + K))), .val (.int (0 : Int32)), .val (.int (1 : Int32))] [(.int (0 : Int32))]))
            exfalso
            rw [own_ltN (by omega) (by omega)] at hp109
            rw [own_bit _ hK64, hkey] at ha112
            rw [own_bit _ (by omega)] at hx111
            simp [hp109] at ha112
            simp_all
        · refine Go.st (fun _ kt => XS.ifNo X106.here hx rfl (hb hby at_219) rfl ((if0 _ _).trans (feq hx111).1) kt) ?_
          show Go p e below P (T106.setTop (mkF m 222 #[.val (.int rc), .val (.int bb), .val (.int ii), .val (.long x0), .second, .val (.long x1), .second, .val (.long x2), .second, .val (.int (Int32.ofNat R)), .val (.int (3 : Int32)), .val (.ref b1), .val (.int (Int32.ofNat (R % 64))), .val (.long mk), .second, .val (.ref b81), .val (.int (Int32.ofNat B)), .val (.int (Int32.ofNat K)), .val (.long g), .second, .val (.int (Int32.ofNat (B + K))), .unset, .unset] []))
          refine Go.st (fun _ kt => XS.iconst X106.here hx rfl (hb hby at_222) (XS.goto X106.here hx rfl (pc0 := 223) (pc' := 227) rfl (hb hby at_223) (by decide) (by decide) (XS.istore X106.here hx rfl (hb hby at_227) rfl (l' := #[.val (.int rc), .val (.int bb), .val (.int ii), .val (.long x0), .second, .val (.long x1), .second, .val (.long x2), .second, .val (.int (Int32.ofNat R)), .val (.int (3 : Int32)), .val (.ref b1), .val (.int (Int32.ofNat (R % 64))), .val (.long mk), .second, .val (.ref b81), .val (.int (Int32.ofNat B)), .val (.int (Int32.ofNat K)), .val (.long g), .second, .val (.int (Int32.ofNat (B + K))), .val (.int (1 : Int32)), .unset]) rfl (XS.lload X106.here hx rfl (hb hby at_229) rfl (XS.iload X106.here hx rfl (hb hby at_231) rfl (XS.lushr X106.here hx rfl (hb hby at_233) rfl (XS.lconst X106.here hx rfl (hb hby at_234) (XS.land X106.here hx rfl (hb hby at_235) rfl kt)))))))) ?_
          show Go p e below P (T106.setTop (mkF m 236 #[.val (.int rc), .val (.int bb), .val (.int ii), .val (.long x0), .second, .val (.long x1), .second, .val (.long x2), .second, .val (.int (Int32.ofNat R)), .val (.int (3 : Int32)), .val (.ref b1), .val (.int (Int32.ofNat (R % 64))), .val (.long mk), .second, .val (.ref b81), .val (.int (Int32.ofNat B)), .val (.int (Int32.ofNat K)), .val (.long g), .second, .val (.int (Int32.ofNat (B + K))), .val (.int (1 : Int32)), .unset] [(.long (((g.toUInt64 >>> ((Int32.ofNat K) &&& 0x3f).toInt64.toUInt64).toInt64) &&& (1 : Int64)))]))
          refine Go.st (fun _ kt => XS.lconst X106.here hx rfl (hb hby at_236) (XS.lcmp X106.here hx rfl (hb hby at_237) rfl kt)) ?_
          show Go p e below P (T106.setTop (mkF m 238 #[.val (.int rc), .val (.int bb), .val (.int ii), .val (.long x0), .second, .val (.long x1), .second, .val (.long x2), .second, .val (.int (Int32.ofNat R)), .val (.int (3 : Int32)), .val (.ref b1), .val (.int (Int32.ofNat (R % 64))), .val (.long mk), .second, .val (.ref b81), .val (.int (Int32.ofNat B)), .val (.int (Int32.ofNat K)), .val (.long g), .second, .val (.int (Int32.ofNat (B + K))), .val (.int (1 : Int32)), .unset] [(.int (lcmpW (((g.toUInt64 >>> ((Int32.ofNat K) &&& 0x3f).toInt64.toUInt64).toInt64) &&& (1 : Int64)) (0 : Int64)))]))
          by_cases ha113 : (lcmpW (((g.toUInt64 >>> ((Int32.ofNat K) &&& 0x3f).toInt64.toUInt64).toInt64) &&& (1 : Int64)) (0 : Int64)) = (0 : Int32)
          · refine Go.st (fun _ kt => XS.ifYes X106.here hx rfl (pc0 := 238) (pc' := 245) rfl (hb hby at_238) rfl ((if0 _ _).trans (teq ha113).1) (by decide) (by decide) kt) ?_
            show Go p e below P (T106.setTop (mkF m 245 #[.val (.int rc), .val (.int bb), .val (.int ii), .val (.long x0), .second, .val (.long x1), .second, .val (.long x2), .second, .val (.int (Int32.ofNat R)), .val (.int (3 : Int32)), .val (.ref b1), .val (.int (Int32.ofNat (R % 64))), .val (.long mk), .second, .val (.ref b81), .val (.int (Int32.ofNat B)), .val (.int (Int32.ofNat K)), .val (.long g), .second, .val (.int (Int32.ofNat (B + K))), .val (.int (1 : Int32)), .unset] []))
            refine Go.st (fun _ kt => XS.iconst X106.here hx rfl (hb hby at_245) (XS.istore X106.here hx rfl (hb hby at_246) rfl (l' := #[.val (.int rc), .val (.int bb), .val (.int ii), .val (.long x0), .second, .val (.long x1), .second, .val (.long x2), .second, .val (.int (Int32.ofNat R)), .val (.int (3 : Int32)), .val (.ref b1), .val (.int (Int32.ofNat (R % 64))), .val (.long mk), .second, .val (.ref b81), .val (.int (Int32.ofNat B)), .val (.int (Int32.ofNat K)), .val (.long g), .second, .val (.int (Int32.ofNat (B + K))), .val (.int (1 : Int32)), .val (.int (0 : Int32))]) rfl (XS.iload X106.here hx rfl (hb hby at_248) rfl (XS.iload X106.here hx rfl (hb hby at_250) rfl (XS.icmpYes X106.here hx rfl (pc0 := 252) (pc' := 259) rfl (hb hby at_252) rfl (feq (by decide : ¬ ((1 : Int32) = (0 : Int32)))).2 (by decide) (by decide) (XS.iconst X106.here hx rfl (hb hby at_259) kt)))))) ?_
            show Go p e below P (T106.setTop (mkF m 260 #[.val (.int rc), .val (.int bb), .val (.int ii), .val (.long x0), .second, .val (.long x1), .second, .val (.long x2), .second, .val (.int (Int32.ofNat R)), .val (.int (3 : Int32)), .val (.ref b1), .val (.int (Int32.ofNat (R % 64))), .val (.long mk), .second, .val (.ref b81), .val (.int (Int32.ofNat B)), .val (.int (Int32.ofNat K)), .val (.long g), .second, .val (.int (Int32.ofNat (B + K))), .val (.int (1 : Int32)), .val (.int (0 : Int32))] [(.int (0 : Int32))]))
            exfalso
            rw [own_ltN (by omega) (by omega)] at hp109
            rw [own_bit _ hK64, hkey] at ha113
            rw [own_bit _ (by omega)] at hx111
            simp [hp109] at ha113
            simp_all
          · refine Go.st (fun _ kt => XS.ifNo X106.here hx rfl (hb hby at_238) rfl ((if0 _ _).trans (feq ha113).1) kt) ?_
            show Go p e below P (T106.setTop (mkF m 241 #[.val (.int rc), .val (.int bb), .val (.int ii), .val (.long x0), .second, .val (.long x1), .second, .val (.long x2), .second, .val (.int (Int32.ofNat R)), .val (.int (3 : Int32)), .val (.ref b1), .val (.int (Int32.ofNat (R % 64))), .val (.long mk), .second, .val (.ref b81), .val (.int (Int32.ofNat B)), .val (.int (Int32.ofNat K)), .val (.long g), .second, .val (.int (Int32.ofNat (B + K))), .val (.int (1 : Int32)), .unset] []))
            refine Go.st (fun _ kt => XS.iconst X106.here hx rfl (hb hby at_241) (XS.goto X106.here hx rfl (pc0 := 242) (pc' := 246) rfl (hb hby at_242) (by decide) (by decide) (XS.istore X106.here hx rfl (hb hby at_246) rfl (l' := #[.val (.int rc), .val (.int bb), .val (.int ii), .val (.long x0), .second, .val (.long x1), .second, .val (.long x2), .second, .val (.int (Int32.ofNat R)), .val (.int (3 : Int32)), .val (.ref b1), .val (.int (Int32.ofNat (R % 64))), .val (.long mk), .second, .val (.ref b81), .val (.int (Int32.ofNat B)), .val (.int (Int32.ofNat K)), .val (.long g), .second, .val (.int (Int32.ofNat (B + K))), .val (.int (1 : Int32)), .val (.int (1 : Int32))]) rfl (XS.iload X106.here hx rfl (hb hby at_248) rfl (XS.iload X106.here hx rfl (hb hby at_250) rfl (XS.icmpNo X106.here hx rfl (hb hby at_252) rfl (teq (by decide : (1 : Int32) = (1 : Int32))).2 (XS.iconst X106.here hx rfl (hb hby at_255) (XS.goto X106.here hx rfl (pc0 := 256) (pc' := 260) rfl (hb hby at_256) (by decide) (by decide) kt)))))))) ?_
            show Go p e below P (T106.setTop (mkF m 260 #[.val (.int rc), .val (.int bb), .val (.int ii), .val (.long x0), .second, .val (.long x1), .second, .val (.long x2), .second, .val (.int (Int32.ofNat R)), .val (.int (3 : Int32)), .val (.ref b1), .val (.int (Int32.ofNat (R % 64))), .val (.long mk), .second, .val (.ref b81), .val (.int (Int32.ofNat B)), .val (.int (Int32.ofNat K)), .val (.long g), .second, .val (.int (Int32.ofNat (B + K))), .val (.int (1 : Int32)), .val (.int (1 : Int32))] [(.int (1 : Int32))]))
            exact goN X106 hx (t := .boolean) hret (by simp) hlk (hb hby at_260) hP (by decide) (by decide) ⟨rfl, N106⟩
      · refine Go.st (fun _ kt => XS.icmpYes X106.here hx rfl (pc0 := 198) (pc' := 226) rfl (hb hby at_198) rfl (flt hp109).2.1 (by decide) (by decide) kt) ?_
        show Go p e below P (T106.setTop (mkF m 226 #[.val (.int rc), .val (.int bb), .val (.int ii), .val (.long x0), .second, .val (.long x1), .second, .val (.long x2), .second, .val (.int (Int32.ofNat R)), .val (.int (3 : Int32)), .val (.ref b1), .val (.int (Int32.ofNat (R % 64))), .val (.long mk), .second, .val (.ref b81), .val (.int (Int32.ofNat B)), .val (.int (Int32.ofNat K)), .val (.long g), .second, .val (.int (Int32.ofNat (B + K))), .unset, .unset] []))
        refine Go.st (fun _ kt => XS.iconst X106.here hx rfl (hb hby at_226) (XS.istore X106.here hx rfl (hb hby at_227) rfl (l' := #[.val (.int rc), .val (.int bb), .val (.int ii), .val (.long x0), .second, .val (.long x1), .second, .val (.long x2), .second, .val (.int (Int32.ofNat R)), .val (.int (3 : Int32)), .val (.ref b1), .val (.int (Int32.ofNat (R % 64))), .val (.long mk), .second, .val (.ref b81), .val (.int (Int32.ofNat B)), .val (.int (Int32.ofNat K)), .val (.long g), .second, .val (.int (Int32.ofNat (B + K))), .val (.int (0 : Int32)), .unset]) rfl (XS.lload X106.here hx rfl (hb hby at_229) rfl (XS.iload X106.here hx rfl (hb hby at_231) rfl (XS.lushr X106.here hx rfl (hb hby at_233) rfl (XS.lconst X106.here hx rfl (hb hby at_234) (XS.land X106.here hx rfl (hb hby at_235) rfl (XS.lconst X106.here hx rfl (hb hby at_236) kt)))))))) ?_
        show Go p e below P (T106.setTop (mkF m 237 #[.val (.int rc), .val (.int bb), .val (.int ii), .val (.long x0), .second, .val (.long x1), .second, .val (.long x2), .second, .val (.int (Int32.ofNat R)), .val (.int (3 : Int32)), .val (.ref b1), .val (.int (Int32.ofNat (R % 64))), .val (.long mk), .second, .val (.ref b81), .val (.int (Int32.ofNat B)), .val (.int (Int32.ofNat K)), .val (.long g), .second, .val (.int (Int32.ofNat (B + K))), .val (.int (0 : Int32)), .unset] [(.long (0 : Int64)), (.long (((g.toUInt64 >>> ((Int32.ofNat K) &&& 0x3f).toInt64.toUInt64).toInt64) &&& (1 : Int64)))]))
        refine Go.st (fun _ kt => XS.lcmp X106.here hx rfl (hb hby at_237) rfl kt) ?_
        show Go p e below P (T106.setTop (mkF m 238 #[.val (.int rc), .val (.int bb), .val (.int ii), .val (.long x0), .second, .val (.long x1), .second, .val (.long x2), .second, .val (.int (Int32.ofNat R)), .val (.int (3 : Int32)), .val (.ref b1), .val (.int (Int32.ofNat (R % 64))), .val (.long mk), .second, .val (.ref b81), .val (.int (Int32.ofNat B)), .val (.int (Int32.ofNat K)), .val (.long g), .second, .val (.int (Int32.ofNat (B + K))), .val (.int (0 : Int32)), .unset] [(.int (lcmpW (((g.toUInt64 >>> ((Int32.ofNat K) &&& 0x3f).toInt64.toUInt64).toInt64) &&& (1 : Int64)) (0 : Int64)))]))
        by_cases ha114 : (lcmpW (((g.toUInt64 >>> ((Int32.ofNat K) &&& 0x3f).toInt64.toUInt64).toInt64) &&& (1 : Int64)) (0 : Int64)) = (0 : Int32)
        · refine Go.st (fun _ kt => XS.ifYes X106.here hx rfl (pc0 := 238) (pc' := 245) rfl (hb hby at_238) rfl ((if0 _ _).trans (teq ha114).1) (by decide) (by decide) kt) ?_
          show Go p e below P (T106.setTop (mkF m 245 #[.val (.int rc), .val (.int bb), .val (.int ii), .val (.long x0), .second, .val (.long x1), .second, .val (.long x2), .second, .val (.int (Int32.ofNat R)), .val (.int (3 : Int32)), .val (.ref b1), .val (.int (Int32.ofNat (R % 64))), .val (.long mk), .second, .val (.ref b81), .val (.int (Int32.ofNat B)), .val (.int (Int32.ofNat K)), .val (.long g), .second, .val (.int (Int32.ofNat (B + K))), .val (.int (0 : Int32)), .unset] []))
          refine Go.st (fun _ kt => XS.iconst X106.here hx rfl (hb hby at_245) (XS.istore X106.here hx rfl (hb hby at_246) rfl (l' := #[.val (.int rc), .val (.int bb), .val (.int ii), .val (.long x0), .second, .val (.long x1), .second, .val (.long x2), .second, .val (.int (Int32.ofNat R)), .val (.int (3 : Int32)), .val (.ref b1), .val (.int (Int32.ofNat (R % 64))), .val (.long mk), .second, .val (.ref b81), .val (.int (Int32.ofNat B)), .val (.int (Int32.ofNat K)), .val (.long g), .second, .val (.int (Int32.ofNat (B + K))), .val (.int (0 : Int32)), .val (.int (0 : Int32))]) rfl (XS.iload X106.here hx rfl (hb hby at_248) rfl (XS.iload X106.here hx rfl (hb hby at_250) rfl (XS.icmpNo X106.here hx rfl (hb hby at_252) rfl (teq (by decide : (0 : Int32) = (0 : Int32))).2 (XS.iconst X106.here hx rfl (hb hby at_255) (XS.goto X106.here hx rfl (pc0 := 256) (pc' := 260) rfl (hb hby at_256) (by decide) (by decide) kt))))))) ?_
          show Go p e below P (T106.setTop (mkF m 260 #[.val (.int rc), .val (.int bb), .val (.int ii), .val (.long x0), .second, .val (.long x1), .second, .val (.long x2), .second, .val (.int (Int32.ofNat R)), .val (.int (3 : Int32)), .val (.ref b1), .val (.int (Int32.ofNat (R % 64))), .val (.long mk), .second, .val (.ref b81), .val (.int (Int32.ofNat B)), .val (.int (Int32.ofNat K)), .val (.long g), .second, .val (.int (Int32.ofNat (B + K))), .val (.int (0 : Int32)), .val (.int (0 : Int32))] [(.int (1 : Int32))]))
          exact goN X106 hx (t := .boolean) hret (by simp) hlk (hb hby at_260) hP (by decide) (by decide) ⟨rfl, N106⟩
        · refine Go.st (fun _ kt => XS.ifNo X106.here hx rfl (hb hby at_238) rfl ((if0 _ _).trans (feq ha114).1) kt) ?_
          show Go p e below P (T106.setTop (mkF m 241 #[.val (.int rc), .val (.int bb), .val (.int ii), .val (.long x0), .second, .val (.long x1), .second, .val (.long x2), .second, .val (.int (Int32.ofNat R)), .val (.int (3 : Int32)), .val (.ref b1), .val (.int (Int32.ofNat (R % 64))), .val (.long mk), .second, .val (.ref b81), .val (.int (Int32.ofNat B)), .val (.int (Int32.ofNat K)), .val (.long g), .second, .val (.int (Int32.ofNat (B + K))), .val (.int (0 : Int32)), .unset] []))
          refine Go.st (fun _ kt => XS.iconst X106.here hx rfl (hb hby at_241) (XS.goto X106.here hx rfl (pc0 := 242) (pc' := 246) rfl (hb hby at_242) (by decide) (by decide) (XS.istore X106.here hx rfl (hb hby at_246) rfl (l' := #[.val (.int rc), .val (.int bb), .val (.int ii), .val (.long x0), .second, .val (.long x1), .second, .val (.long x2), .second, .val (.int (Int32.ofNat R)), .val (.int (3 : Int32)), .val (.ref b1), .val (.int (Int32.ofNat (R % 64))), .val (.long mk), .second, .val (.ref b81), .val (.int (Int32.ofNat B)), .val (.int (Int32.ofNat K)), .val (.long g), .second, .val (.int (Int32.ofNat (B + K))), .val (.int (0 : Int32)), .val (.int (1 : Int32))]) rfl (XS.iload X106.here hx rfl (hb hby at_248) rfl (XS.iload X106.here hx rfl (hb hby at_250) rfl (XS.icmpYes X106.here hx rfl (pc0 := 252) (pc' := 259) rfl (hb hby at_252) rfl (feq (by decide : ¬ ((0 : Int32) = (1 : Int32)))).2 (by decide) (by decide) (XS.iconst X106.here hx rfl (hb hby at_259) kt))))))) ?_
          show Go p e below P (T106.setTop (mkF m 260 #[.val (.int rc), .val (.int bb), .val (.int ii), .val (.long x0), .second, .val (.long x1), .second, .val (.long x2), .second, .val (.int (Int32.ofNat R)), .val (.int (3 : Int32)), .val (.ref b1), .val (.int (Int32.ofNat (R % 64))), .val (.long mk), .second, .val (.ref b81), .val (.int (Int32.ofNat B)), .val (.int (Int32.ofNat K)), .val (.long g), .second, .val (.int (Int32.ofNat (B + K))), .val (.int (0 : Int32)), .val (.int (1 : Int32))] [(.int (0 : Int32))]))
          exfalso
          rw [own_ltN (by omega) (by omega)] at hp109
          rw [own_bit _ hK64, hkey] at ha114
          simp [hp109] at ha114
  by_cases br115 : (Int32.ofNat (R % 64)) = (0 : Int32)
  · refine Go.st (fun _ kt => XS.ifNo X9.here hx rfl (hb hby at_53) rfl ((if0 _ _).trans (teq br115).2) kt) ?_
    show Go p e below P (T9.setTop (mkF m 56 #[.val (.int rc), .val (.int bb), .val (.int ii), .val (.long x0), .second, .val (.long x1), .second, .val (.long x2), .second, .val (.int (Int32.ofNat R)), .val (.int (Int32.ofNat ((R + 63) / 64))), .val (.ref b1), .val (.int (Int32.ofNat (R % 64))), .unset, .unset, .unset, .unset, .unset, .unset, .unset, .unset, .unset, .unset] []))
    refine Go.st (fun _ kt => X9.ldc2Long hx hown (mvT hZ (hw _ (List.mem_of_getElem? (i := 2) rfl))) (g := (mkF m 56 #[.val (.int rc), .val (.int bb), .val (.int ii), .val (.long x0), .second, .val (.long x1), .second, .val (.long x2), .second, .val (.int (Int32.ofNat R)), .val (.int (Int32.ofNat ((R + 63) / 64))), .val (.ref b1), .val (.int (Int32.ofNat (R % 64))), .unset, .unset, .unset, .unset, .unset, .unset, .unset, .unset, .unset, .unset] [])) rfl (hb hby at_56) _ (XS.goto X9.here hx rfl (pc0 := 59) (pc' := 71) rfl (hb hby at_59) (by decide) (by decide) kt)) ?_
    show Go p e below P (T9.setTop (mkF m 71 #[.val (.int rc), .val (.int bb), .val (.int ii), .val (.long x0), .second, .val (.long x1), .second, .val (.long x2), .second, .val (.int (Int32.ofNat R)), .val (.int (Int32.ofNat ((R + 63) / 64))), .val (.ref b1), .val (.int (Int32.ofNat (R % 64))), .unset, .unset, .unset, .unset, .unset, .unset, .unset, .unset, .unset, .unset] [(.long (-1 : Int64))]))
    have br115_r :  R % 64 = 0 := own_ofn (by omega) (by decide) br115
    exact cut12 _ (fun t ht => by rw [own_ones ⟨t, ht⟩]; simp [br115_r])
  · refine Go.st (fun _ kt => XS.ifYes X9.here hx rfl (pc0 := 53) (pc' := 62) rfl (hb hby at_53) rfl ((if0 _ _).trans (feq br115).2) (by decide) (by decide) kt) ?_
    show Go p e below P (T9.setTop (mkF m 62 #[.val (.int rc), .val (.int bb), .val (.int ii), .val (.long x0), .second, .val (.long x1), .second, .val (.long x2), .second, .val (.int (Int32.ofNat R)), .val (.int (Int32.ofNat ((R + 63) / 64))), .val (.ref b1), .val (.int (Int32.ofNat (R % 64))), .unset, .unset, .unset, .unset, .unset, .unset, .unset, .unset, .unset, .unset] []))
    refine Go.st (fun _ kt => X9.ldc2Long hx hown (mvT hZ (hw _ (List.mem_of_getElem? (i := 2) rfl))) (g := (mkF m 62 #[.val (.int rc), .val (.int bb), .val (.int ii), .val (.long x0), .second, .val (.long x1), .second, .val (.long x2), .second, .val (.int (Int32.ofNat R)), .val (.int (Int32.ofNat ((R + 63) / 64))), .val (.ref b1), .val (.int (Int32.ofNat (R % 64))), .unset, .unset, .unset, .unset, .unset, .unset, .unset, .unset, .unset, .unset] [])) rfl (hb hby at_62) _ (XS.bipush X9.here hx rfl (hb hby at_65) (XS.iload X9.here hx rfl (hb hby at_67) rfl (XS.isub X9.here hx rfl (hb hby at_69) rfl (XS.lushr X9.here hx rfl (hb hby at_70) rfl kt))))) ?_
    show Go p e below P (T9.setTop (mkF m 71 #[.val (.int rc), .val (.int bb), .val (.int ii), .val (.long x0), .second, .val (.long x1), .second, .val (.long x2), .second, .val (.int (Int32.ofNat R)), .val (.int (Int32.ofNat ((R + 63) / 64))), .val (.ref b1), .val (.int (Int32.ofNat (R % 64))), .unset, .unset, .unset, .unset, .unset, .unset, .unset, .unset, .unset, .unset] [(.long (((-1 : Int64).toUInt64 >>> (((64 : Int32) - (Int32.ofNat (R % 64))) &&& 0x3f).toInt64.toUInt64).toInt64))]))
    have br115_r : ¬ R % 64 = 0 := fun q => br115 (by rw [q]; rfl)
    exact cut12 _ (fun t ht => by
      rw [show (64 : Int32) - Int32.ofNat (R % 64) = Int32.ofNat (64 - R % 64) from own_sb (a := 64) (by omega), own_tb_us _ (by omega)]
      by_cases q : t < R % 64
      · rw [own_ones ⟨64 - R % 64 + t, by omega⟩]; simp [q]
      · rw [own_tb_out _ (by omega)]; simp [q, br115_r])
set_option maxRecDepth 65536 in
set_option maxHeartbeats 40000000 in
theorem comes_1 {Post : Tables → Env → Array Value → State → Outcome → State → Prop} (hpost : ∀ tb e args s v u, (limb_1_1.after args s (.returned v) u = true ∧ limb_1_2.after args s (.returned v) u = true ∧ True) → FrameEnd s (.returned v) u (Jvm.fieldLocs frame_1_writes args s ++ Jvm.arrayLocs frame_1_arrays args s ++ Jvm.staticLocs frame_1_statics s) 16 128 → Post tb e args s (.returned v) u) :
    ArmFor flags0 classFile x code maxLocals ret World_1 tables_1 room_1 Calls_1 rest_1 Pre_1 Post := by
  intro l hfl _ _ p e ha hc hk s m args below hf hA hF happ hP
  obtain ⟨hcalls, hrest, hpre⟩ := hP
  obtain ⟨-, -, -, hnamed, -, -, -, hat⟩ := (Spec.applies_iff hf).mp happ
  obtain ⟨hg, hn⟩ := and_e (Cond.before_iff.mp (show (Jvm.Cond.and given_1 narrow_1).before args s = true from hpre))
  obtain ⟨g1, g2⟩ := and_e hg
  obtain ⟨g3, g4⟩ := and_e g2
  obtain ⟨g5, g6⟩ := and_e g4
  obtain ⟨g7, g8⟩ := and_e g6
  obtain ⟨g9, g10⟩ := and_e g8
  obtain ⟨g11, g12⟩ := and_e g10
  obtain ⟨w0, w1, w2, w3, w4, w5, rfl⟩ : ∃ w0 w1 w2 w3 w4 w5 : Value, args = #[w0, w1, w2, w3, w4, w5] := by
    have hs : args.size = 6 := by simpa [Cond.value, given_1] using g1
    obtain ⟨L⟩ := args
    match L, hs with
    | [w0, w1, w2, w3, w4, w5], _ => exact ⟨w0, w1, w2, w3, w4, w5, rfl⟩
  have hw := fun d (hd : d ∈ tables_1) => atoms_spec (ws := Jvm.Cond.code x code maxLocals ret :: tables_1) hat d (List.mem_cons_of_mem _ hd)
  obtain ⟨i0, ei0⟩ := is_v g3
  obtain rfl : w0 = (.int i0) := Option.some.inj ei0
  obtain ⟨i1, ei1⟩ := is_v g5
  obtain rfl : w1 = (.int i1) := Option.some.inj ei1
  obtain ⟨i2, ei2⟩ := is_v g7
  obtain rfl : w2 = (.int i2) := Option.some.inj ei2
  obtain ⟨i3, ei3⟩ := isL_v g9
  obtain rfl : w3 = (.long i3) := Option.some.inj ei3
  obtain ⟨i4, ei4⟩ := isL_v g11
  obtain rfl : w4 = (.long i4) := Option.some.inj ei4
  obtain ⟨i5, ei5⟩ := isL_v g12
  obtain rfl : w5 = (.long i5) := Option.some.inj ei5
  obtain ⟨n, o, h1, h2, h3, _, L, rfl, ⟨rfl, N⟩, hq⟩ := rm0 l s _ hw tables_1 i0 i1 i2 i3 i4 i5 s.heap s.heap.size (Nat.le_refl _) p e ha hc hk s m _ below hf ((Spec.applies_iff_loose hf).mp happ).1 ⟨rfl, State.Warmed39.refl s, rfl⟩ trivial
  refine ⟨n, _, h1, h2, h3, hpost _ _ _ _ _ _ ⟨Cond.after_iff.mpr rfl, Cond.after_iff.mpr (eq_i res_at (Term.int_eval (1)) rfl), trivial⟩ ⟨hq.1, hq.2.1, (hq.2.2.sift fun y hy => Or.inr (N y hy)).mono (by decide) (by decide)⟩⟩
theorem main_1_1 : Claimed_1_1 := comes_1 fun _ _ _ _ _ _ h hF => ⟨h.1, hF⟩
theorem main_1_2 : Claimed_1_2 := comes_1 fun _ _ _ _ _ _ h hF => ⟨h.2.1, hF⟩
end Jvm.Pilot.@@N@@
namespace Jvm.Pilot.@@N@@
open Jvm Jvm.ClassFile Sem Op Lib Jvm.Free Jvm.Stand Jvm.Pilot.@@N@@.Jvm.D
/-! MADE BY PROGRAM (witnessworld.py) out of the Statement's table words and the real class files: 11 classes; the members and pool entries that the words name. The judged class is class 1, her method 1. -/
namespace start1
open Jvm.ClassFile
def u (s : String) : CpInfo := .utf8 (stringToUtf16 s)
/-- a pool by its gaps: so many unusable entries, then the entry; so many at the end -/
def gap : Nat → List CpInfo → List CpInfo
  | 0, r => r
  | n + 1, r => .unusable :: gap n r
def poolList (es : List (Nat × CpInfo)) (last : Nat) : List CpInfo := es.foldr (fun e r => gap e.1 (e.2 :: r)) (gap last [])
def pool (es : List (Nat × CpInfo)) (last : Nat) : Array CpInfo := ⟨poolList es last⟩
def fileOf (pool : Array CpInfo) (this : Nat) (attrs : Array Attribute := #[]) (ms : Array MethodInfo := #[]) (fl : Nat := 33) (sup : Nat := 0) (ifs : Array Nat := #[]) (fds : Array FieldInfo := #[]) : ClassFile where
  minorVersion := 0
  majorVersion := 65
  constantPool := pool
  accessFlags := fl
  thisClass := this
  superClass := sup
  interfaces := ifs
  fields := fds
  methods := ms
  attributes := attrs
def plain (name : String) (sup : Option ClassId) : Class where
  name := name
  kind := .ordinary
  loader := none
  accessFlags := 33
  super := sup
  interfaces := #[]
  cf := none
  fields := #[]
  methods := #[]
  instanceTypes := #[]
  staticTypes := #[]
  resolved := #[]
  callSites := []
  init := .initialized
  statics := none
  mirror := none

def pool0 : Array CpInfo := pool [(5, u "<init>"), (0, u "()V"), (1, .class_ 10), (1, u "java/lang/Object")] 113

def k0c0 : Code := { maxStack := 0, maxLocals := 1, code := object_method_1_code, exceptionTable := #[], attributes := #[] }
def k0m0 : Method := { name := "<init>", desc := "()V", sig := { parameters := [], returnType := none }, accessFlags := 1, code := some k0c0 }
/-- java/lang/Object -/
def k0 : Class := { plain "java/lang/Object" none with
  accessFlags := 33
  interfaces := #[]
  cf := some (fileOf pool0 8 #[] #[{ accessFlags := 1, nameIndex := 5, descriptorIndex := 6, attributes := #[] }] 33 0 #[] #[])
  fields := #[]
  methods := #[k0m0]
  instanceTypes := #[]
  staticTypes := #[]
  resolved := Array.replicate 124 none
  statics := none }

def pool1 : Array CpInfo := pool [(2, .class_ 4), (1, u "java/lang/Object"), (0, u "<init>"), (0, u "()V"), (0, .integer 2147483647), (0, .long 18446744073709551615), (1, .class_ 11), (0, u "com/example/numtrie/numtrie/index/RecordSet"), (0, .methodref 10 13), (0, .nameAndType 5 14), (0, u "(I)V"), (0, .fieldref 10 16), (0, .nameAndType 17 18), (0, u "words"), (0, u "[J"), (0, .methodref 10 20), (0, .nameAndType 21 22), (0, u "wordFrom"), (0, u "(I)J"), (0, .class_ 24), (0, u "com/example/numtrie/numtrie/index/RecordSetWordFromPinLaw"), (2, u "law"), (0, u "(IIIJJJ)Z")] 4

def k1m0 : Method := { name := "<init>", desc := "()V", sig := { parameters := [], returnType := none }, accessFlags := 2, code := none }
def k1c1 : Code := { maxStack := 6, maxLocals := 23, code := code, exceptionTable := #[], attributes := #[] }
def k1m1 : Method := { name := "law", desc := "(IIIJJJ)Z", sig := { parameters := [.int, .int, .int, .long, .long, .long], returnType := some .boolean }, accessFlags := 9, code := some k1c1 }
/-- com/example/numtrie/numtrie/index/RecordSetWordFromPinLaw -/
def k1 : Class := { plain "com/example/numtrie/numtrie/index/RecordSetWordFromPinLaw" (some 0) with
  accessFlags := 49
  interfaces := #[]
  cf := some (fileOf pool1 23 #[] #[{ accessFlags := 2, nameIndex := 5, descriptorIndex := 6, attributes := #[] }, { accessFlags := 9, nameIndex := 27, descriptorIndex := 28, attributes := #[] }] 49 2 #[] #[])
  fields := #[]
  methods := #[k1m0, k1m1]
  instanceTypes := #[]
  staticTypes := #[]
  resolved := Array.replicate 33 none
  statics := none }

def pool2 : Array CpInfo := pool [(1, .methodref 2 3), (0, .class_ 4), (0, .nameAndType 5 6), (0, u "com/example/numtrie/numtrie/index/RecordSet"), (0, u "<init>"), (0, u "(ILcom/example/numtrie/numtrie/index/IndexReader;)V"), (4, u "records"), (1, .methodref 14 15), (0, .class_ 16), (0, .nameAndType 5 17), (0, u "java/lang/Object"), (0, u "()V"), (9, .fieldref 2 28), (0, .nameAndType 11 29), (0, u "I"), (0, .fieldref 2 31), (0, .nameAndType 32 33), (0, u "reader"), (0, u "Lcom/example/numtrie/numtrie/index/IndexReader;"), (2, .long 64), (1, .fieldref 2 39), (0, .nameAndType 40 41), (0, u "words"), (0, u "[J"), (15, u "(I)V"), (12, u "wordFrom"), (0, u "(I)J"), (28, .class_ 101), (0, u "com/example/numtrie/numtrie/index/RecordSet$Numbers")] 112

def k2c0 : Code := { maxStack := 3, maxLocals := 2, code := prog_164_method_1_code, exceptionTable := #[], attributes := #[] }
def k2m0 : Method := { name := "<init>", desc := "(I)V", sig := { parameters := [.int], returnType := none }, accessFlags := 0, code := some k2c0 }
def k2c1 : Code := { maxStack := 5, maxLocals := 3, code := prog_164_method_3_code, exceptionTable := #[], attributes := #[] }
def k2m1 : Method := { name := "<init>", desc := "(ILcom/example/numtrie/numtrie/index/IndexReader;)V", sig := { parameters := [.int, (.object "com/example/numtrie/numtrie/index/IndexReader")], returnType := none }, accessFlags := 2, code := some k2c1 }
def k2c2 : Code := { maxStack := 5, maxLocals := 6, code := prog_164_method_11_code, exceptionTable := #[], attributes := #[] }
def k2m2 : Method := { name := "wordFrom", desc := "(I)J", sig := { parameters := [.int], returnType := some .long }, accessFlags := 0, code := some k2c2 }
/-- com/example/numtrie/numtrie/index/RecordSet -/
def k2 : Class := { plain "com/example/numtrie/numtrie/index/RecordSet" (some 0) with
  accessFlags := 49
  interfaces := #[]
  cf := some (fileOf pool2 2 #[.nestMembers #[100]] #[{ accessFlags := 0, nameIndex := 5, descriptorIndex := 57, attributes := #[] }, { accessFlags := 2, nameIndex := 5, descriptorIndex := 6, attributes := #[] }, { accessFlags := 0, nameIndex := 70, descriptorIndex := 71, attributes := #[] }] 49 14 #[] #[{ accessFlags := 16, nameIndex := 40, descriptorIndex := 41, attributes := #[] }, { accessFlags := 18, nameIndex := 11, descriptorIndex := 29, attributes := #[] }, { accessFlags := 18, nameIndex := 32, descriptorIndex := 33, attributes := #[] }])
  fields := #[{ name := "words", type := (.array .long), accessFlags := 16, slot := 0, constantValue := 0 }, { name := "records", type := .int, accessFlags := 18, slot := 1, constantValue := 0 }, { name := "reader", type := (.object "com/example/numtrie/numtrie/index/IndexReader"), accessFlags := 18, slot := 2, constantValue := 0 }]
  methods := #[k2m0, k2m1, k2m2]
  instanceTypes := #[(.array .long), .int, (.object "com/example/numtrie/numtrie/index/IndexReader")]
  staticTypes := #[]
  resolved := Array.replicate 214 none
  statics := none }

def pool3 : Array CpInfo := pool [(1, u "java/lang/Cloneable"), (0, .class_ 1), (0, u "java/lang/Object"), (0, .class_ 3)] 3

/-- java/lang/Cloneable -/
def k3 : Class := { plain "java/lang/Cloneable" (some 0) with
  accessFlags := 1537
  interfaces := #[]
  cf := some (fileOf pool3 2 #[] #[] 1537 4 #[] #[])
  fields := #[]
  methods := #[]
  instanceTypes := #[]
  staticTypes := #[]
  resolved := Array.replicate 8 none
  statics := none }

def pool4 : Array CpInfo := pool [(1, u "java/io/Serializable"), (0, .class_ 1), (0, u "java/lang/Object"), (0, .class_ 3)] 3

/-- java/io/Serializable -/
def k4 : Class := { plain "java/io/Serializable" (some 0) with
  accessFlags := 1537
  interfaces := #[]
  cf := some (fileOf pool4 2 #[] #[] 1537 4 #[] #[])
  fields := #[]
  methods := #[]
  instanceTypes := #[]
  staticTypes := #[]
  resolved := Array.replicate 8 none
  statics := none }

/-- the primitive byte -/
def k5 : Class := { plain "byte" none with kind := .primitive 'B', accessFlags := 0x411 }
/-- [B -/
def k6 : Class := { plain "[B" (some 0) with kind := .array 5 .byte, interfaces := #[3, 4], accessFlags := 1041 }

/-- the primitive int -/
def k7 : Class := { plain "int" none with kind := .primitive 'I', accessFlags := 0x411 }
/-- [I -/
def k8 : Class := { plain "[I" (some 0) with kind := .array 7 .int, interfaces := #[3, 4], accessFlags := 1041 }

/-- the primitive long -/
def k9 : Class := { plain "long" none with kind := .primitive 'J', accessFlags := 0x411 }
/-- [J -/
def k10 : Class := { plain "[J" (some 0) with kind := .array 9 .long, interfaces := #[3, 4], accessFlags := 1041 }

def heap : Heap := #[]
def classes : Array Class := #[k0, k1, k2, k3, k4, k5, k6, k7, k8, k9, k10]
def interned : List (Array UInt16 × Addr) := []
def slotsUsed : Nat := 0
def theMethod : MethodId := ⟨1, 1⟩
def args0 : Array Value := #[.int 5, .int 7, .int 3, .long 7, .long 8, .long 9]
def aboutOver (below : List Frame) : State where
  vm := { classes := classes, interned := interned.toArray }
  heap := heap
  slotsUsed := slotsUsed
  threads := #[{ frames := .invoking theMethod args0 :: below }]
def below0 : List Frame := [.native { method := ⟨0, 0⟩, args := #[] }]
def about1 : State := aboutOver below0
def p0 : Program := .bare "" "" ""
def e0 : Env := launch0.env 0 0 0
theorem w_frames : about1.frames = Frame.invoking theMethod args0 :: below0 := rfl
set_option maxRecDepth 65536 in
theorem w_args : argsFit about1.vm theMethod args0 = true := by decide +kernel
set_option maxRecDepth 65536 in
theorem w_heap : heapFits about1 = true := by decide +kernel
set_option maxRecDepth 65536 in
theorem w_runnable : about1.curStatus? = some .runnable := by decide +kernel
set_option maxRecDepth 65536 in
theorem w_alone : about1.alone = true := by decide +kernel
set_option maxRecDepth 65536 in
theorem w_named : about1.methodNamed? x = some theMethod := by decide +kernel
set_option maxRecDepth 65536 in
theorem w_hears : about1.hears theMethod below0 = true := by decide +kernel
set_option maxRecDepth 65536 in
theorem w_ripe : about1.ripe theMethod args0 below0 = true := by decide +kernel
theorem w_running : about1.status = .running := rfl
set_option maxRecDepth 65536 in
theorem w_room : about1.hasRoom e0.platform room_1 = true :=
  launch0.hasRoom_least _ room_1 (by decide +kernel) (by decide +kernel) (by decide +kernel) (by decide +kernel) (by decide +kernel) (by decide +kernel)
theorem allAtoms_all (ts : List Jvm.Cond) (a : Array Jvm.Value) (st : Jvm.State) : (allAtoms ts).before a st = ts.all (fun c => c.before a st) := by
  induction ts with
  | nil => rfl
  | cons c t ih =>
    show (Jvm.Cond.and c (allAtoms t)).before a st = _
    rw [Jvm.Cond.before_and, ih, List.all_cons]
def words1 : List Jvm.Cond := Jvm.Cond.code x code maxLocals ret :: tables_1
/-- a 'code' word, met by the world's own term for the bytes: nothing is compared byte by byte -/
theorem code_word {y : MethodName} {bytes : ByteArray} {mx : Nat} {rt : Option FieldType} {a : Array Value} {s : State} {m : MethodId} {meth : Method} {c : Code} (h1 : s.methodNamed? y = some m) (h2 : s.vm.method? m = some meth) (h3 : meth.code = some c) (h4 : c.code = bytes)
    (h5 : (c.maxLocals == mx && c.exceptionTable.isEmpty && decide (c.maxStack ≤ mostOperands) && decide (meth.sig.returnType = rt) && !meth.locks && decide (parseMethodDescriptor y.desc = some meth.sig)) = true) : (Jvm.Cond.code y bytes mx rt).before a s = true := by
  simp only [Bool.and_eq_true, beq_iff_eq, Bool.not_eq_true', decide_eq_true_eq] at h5
  obtain ⟨⟨⟨⟨⟨g1, g2⟩, g3⟩, g4⟩, g5⟩, g6⟩ := h5
  simp [Cond.before, Cond.holds, Cond.value, h1, h2, h3, h4, g1, g2, g3, g4, g5, g6]
def isCode : Jvm.Cond → Bool
  | .code _ _ _ _ => true
  | _ => false
theorem all_split {L : List Jvm.Cond} {P : Jvm.Cond → Bool} (h1 : L.all (fun c => isCode c || P c) = true) (h2 : ∀ c ∈ L.filter isCode, P c = true) : L.all P = true := by
  refine List.all_eq_true.mpr fun c hc => ?_
  have h := List.all_eq_true.mp h1 c hc
  rcases Bool.eq_false_or_eq_true (isCode c) with hi | hi
  · exact h2 c (List.mem_filter.mpr ⟨hc, hi⟩)
  · simpa [hi] using h
set_option maxRecDepth 65536 in
theorem w_c0 : (Jvm.Cond.code x code maxLocals ret).before args0 about1 = true := code_word (m := ⟨1, 1⟩) (meth := k1m1) (c := k1c1) (by decide +kernel) rfl rfl rfl (by decide +kernel)
set_option maxRecDepth 65536 in
theorem w_c1 : (Jvm.Cond.code ({ cls := "com/example/numtrie/numtrie/index/RecordSet", name := "<init>", desc := "(I)V" } : Jvm.MethodName) prog_164_method_1_code (2 : Nat) (Option.none : Option Jvm.ClassFile.FieldType)).before args0 about1 = true := code_word (m := ⟨2, 0⟩) (meth := k2m0) (c := k2c0) (by decide +kernel) rfl rfl rfl (by decide +kernel)
set_option maxRecDepth 65536 in
theorem w_c2 : (Jvm.Cond.code ({ cls := "com/example/numtrie/numtrie/index/RecordSet", name := "<init>", desc := "(ILcom/example/numtrie/numtrie/index/IndexReader;)V" } : Jvm.MethodName) prog_164_method_3_code (3 : Nat) (Option.none : Option Jvm.ClassFile.FieldType)).before args0 about1 = true := code_word (m := ⟨2, 1⟩) (meth := k2m1) (c := k2c1) (by decide +kernel) rfl rfl rfl (by decide +kernel)
set_option maxRecDepth 65536 in
theorem w_c3 : (Jvm.Cond.code ({ cls := "java/lang/Object", name := "<init>", desc := "()V" } : Jvm.MethodName) object_method_1_code (1 : Nat) (Option.none : Option Jvm.ClassFile.FieldType)).before args0 about1 = true := code_word (m := ⟨0, 0⟩) (meth := k0m0) (c := k0c0) (by decide +kernel) rfl rfl rfl (by decide +kernel)
set_option maxRecDepth 65536 in
theorem w_c4 : (Jvm.Cond.code ({ cls := "com/example/numtrie/numtrie/index/RecordSet", name := "wordFrom", desc := "(I)J" } : Jvm.MethodName) prog_164_method_11_code (6 : Nat) (Option.some Jvm.ClassFile.FieldType.long)).before args0 about1 = true := code_word (m := ⟨2, 2⟩) (meth := k2m2) (c := k2c2) (by decide +kernel) rfl rfl rfl (by decide +kernel)
def codes1 : List Jvm.Cond := [Jvm.Cond.code x code maxLocals ret, Jvm.Cond.code ({ cls := "com/example/numtrie/numtrie/index/RecordSet", name := "<init>", desc := "(I)V" } : Jvm.MethodName) prog_164_method_1_code (2 : Nat) (Option.none : Option Jvm.ClassFile.FieldType), Jvm.Cond.code ({ cls := "com/example/numtrie/numtrie/index/RecordSet", name := "<init>", desc := "(ILcom/example/numtrie/numtrie/index/IndexReader;)V" } : Jvm.MethodName) prog_164_method_3_code (3 : Nat) (Option.none : Option Jvm.ClassFile.FieldType), Jvm.Cond.code ({ cls := "java/lang/Object", name := "<init>", desc := "()V" } : Jvm.MethodName) object_method_1_code (1 : Nat) (Option.none : Option Jvm.ClassFile.FieldType), Jvm.Cond.code ({ cls := "com/example/numtrie/numtrie/index/RecordSet", name := "wordFrom", desc := "(I)J" } : Jvm.MethodName) prog_164_method_11_code (6 : Nat) (Option.some Jvm.ClassFile.FieldType.long)]
set_option maxRecDepth 65536 in
theorem codes_eq : words1.filter isCode = codes1 := rfl
theorem w_codes : ∀ c ∈ words1.filter isCode, c.before args0 about1 = true := by
  rw [codes_eq]
  intro c hc
  simp only [codes1, List.mem_cons, List.not_mem_nil, or_false] at hc
  rcases hc with rfl | rfl | rfl | rfl | rfl
  · exact w_c0
  · exact w_c1
  · exact w_c2
  · exact w_c3
  · exact w_c4
set_option maxRecDepth 65536 in
theorem w_t1 : (words1.take 24).all (fun c => isCode c || c.before args0 about1) = true := by decide +kernel
set_option maxRecDepth 65536 in
theorem w_t2 : (words1.drop 24).all (fun c => isCode c || c.before args0 about1) = true := by decide +kernel
theorem w_tables : (allAtoms (Jvm.Cond.code x code maxLocals ret :: tables_1)).before args0 about1 = true := by
  rw [allAtoms_all]
  show words1.all (fun c => c.before args0 about1) = true
  refine all_split ?_ w_codes
  rw [← List.take_append_drop 24 words1, List.all_append, w_t1, w_t2]
  rfl
set_option maxRecDepth 65536 in
theorem w_case : (Jvm.Cond.and given_1 narrow_1).before args0 about1 = true := by decide +kernel
theorem w_applies : (headSpec (Jvm.Cond.code x code maxLocals ret :: tables_1) room_1).applies x e0.platform about1 = true :=
  (Spec.applies_iff w_frames).mpr ⟨w_running, w_runnable, w_alone, w_named, w_hears, w_ripe, w_room, w_tables⟩
theorem atStart : AtStart classFile x code maxLocals ret World_1 tables_1 room_1 Calls_1 rest_1 Pre_1 launch0 p0 e0 about1 theMethod args0 below0 :=
  ⟨lists_1, trivial, launch0.admits_env _ _ _, launch0.least_env, fairChoices_fair.cas, fairChoices_fair.clock, w_frames, w_args, w_heap, w_applies, trivial, trivial, w_case⟩
end start1
theorem witness_1 : WitnessClaimed_1 := ⟨start1.p0, start1.e0, start1.about1, start1.theMethod, start1.args0, start1.below0, start1.atStart⟩
end Jvm.Pilot.@@N@@
