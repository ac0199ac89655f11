import JvmDerived
import JvmDerived.Pilot.@@N@@Statement
import JvmDerived.Pilot.@@N@@Code
set_option linter.unusedVariables false
set_option linter.unusedSimpArgs false
@@BLOCK:NumsL.lean.txt@@
@@BLOCK:Masks.lean.txt@@
namespace Jvm.RoadKit
open Sem ClassFile Op Lib Jvm.Stand Jvm.Free Jvm.LawKit
section OwnGo
variable {p : Program} {l : Launch} {e : Env} {R : Room} {s : State} {m : MethodId} {args : Array Value} {below : List Frame} {meth : Method} {c : Code} {T : State} {locs : List Loc} {cells slots : Nat} {Z : State} {a0 : Array Value} {h : Heap}
/-- from A the run comes to an end of which P holds -/
def Go (p : Program) (e : Env) (below : List Frame) (P : State → Outcome → Prop) (A : State) : Prop := ∃ t o, Steps p.tables e below A t ∧ t.status = .running ∧ Ended t below o ∧ P t o
theorem Go.st {P : State → Outcome → Prop} {A B : State} (st : ∀ t, Steps p.tables e below A t → Steps p.tables e below B t) (k : Go p e below P A) : Go p e below P B := by
  obtain ⟨t, o, h1, h2⟩ := k
  exact ⟨t, o, st t h1, h2⟩
theorem Go.tr {P : State → Outcome → Prop} {A B : State} (st : Steps p.tables e below B A) (k : Go p e below P A) : Go p e below P B := Go.st (fun _ h => st.trans h) k
def Pst (s : State) (Q : Option Value → Heap → List Loc → Prop) (C S : Nat) : State → Outcome → Prop := fun t o => ∃ v L, o = .returned v ∧ Q v t.heap L ∧ FrameEnd s o t L C S
/-- a method's contract at the heap h0, for the arguments as -/
def Ct (l : Launch) (y : MethodName) (bytes : ByteArray) (maxL : Nat) (ret : Option FieldType) (ws : List Cond) (rm : Room) (Z : State) (as : Array Value) (h0 : Heap) (Q : Option Value → Heap → List Loc → Prop) : Prop :=
  MetFree l y (head1 (Cond.code y bytes maxL ret :: ws) rm) (fun a U => a = as ∧ Z.Warmed39 U.vm ∧ U.heap = h0) (fun _ _ _ _ _ => True) (fun _ U o U' => ∃ v L, o = .returned v ∧ Q v U'.heap L ∧ FrameEnd U o U' L rm.cells rm.slots)
theorem Ct.of {y : MethodName} {bytes : ByteArray} {maxL : Nat} {ret : Option FieldType} {ws : List Cond} {rm : Room} {as : Array Value} {h0 : Heap} {Q : Option Value → Heap → List Loc → Prop} {Ls : Array Slot}
    (hpl : plainFor y = true) (hef : ∀ m, entryFrame m as maxL = mkF m 0 Ls [])
    (body : ∀ (p : Program) (e : Env) (s : State) (m : MethodId) (below : List Frame) (meth : Method) (c : Code) (T : State), Stand p l e rm s m as below meth c T [] 0 0 → p.tables.exec = Jvm.exec → c.code = bytes → c.maxLocals = maxL → meth.sig.returnType = ret → meth.locks = false → s.vm.findClass y.cls = some m.cls → meth.name = y.name → Z.Warmed39 s.vm → T.heap = h0 →
      ∀ P : State → Outcome → Prop, P = Pst s Q rm.cells rm.slots → Go p e below P (T.setTop (mkF m 0 Ls []))) : Ct l y bytes maxL ret ws rm Z as h0 Q := by
  refine MetFree.of_bodySF hpl hisR ?_
  intro p e s m args below meth c s₁ Bd hml0 hP hK
  obtain ⟨rfl, hZ, hh⟩ := hP
  have X0 : Stand p l e rm s m args below meth c s₁ [] 0 0 := Stand.of_body Bd
  obtain ⟨t, o, h1, h2⟩ := body p e s m below meth c s₁ X0 Bd.exec Bd.bytes hml0 Bd.returns Bd.notSynchronized (findClass_of_methodNamed Bd.named) (name_of_methodNamed Bd.named Bd.method).1 hZ (by rw [← hh, Bd.state]; rfl) _ rfl
  exact ⟨t, o, castTop (hef m) h1, h2⟩
theorem goRet {t : FieldType} {i : Instr} {v w : Value} {pc : Nat} {Ls : Array Slot} {rest : List Value} {Q : Option Value → Heap → List Loc → Prop} {C S : Nat}
    (X : Stand p l e R s m args below meth c T locs cells slots) (hret : meth.sig.returnType = some t) (hlk : meth.locks = false)
    (st : ∀ {fs : List Frame}, (∀ (f : JFrame) (acts : List Action), f.method = m → f.locked = none → f.entered = [] → (doReturn e (T.setTop f) acts (some w)).1 = T.setFrames fs) → Steps p.tables e below (T.setTop (mkF m pc Ls (v :: rest))) (T.setFrames fs))
    (hc : cells ≤ C) (hs : slots ≤ S) (hQ : Q (some w) T.heap locs) : Go p e below (Pst s Q C S) (T.setTop (mkF m pc Ls (v :: rest))) := by
  obtain ⟨fs, hr, hrun, hended, hW, hsame⟩ := X.leave (v := some w) (fun h => by rw [hret] at h; cases h) hlk
  exact ⟨_, _, st hr, hrun, hended, _, _, rfl, hQ, ⟨_, rfl⟩, hW, hsame.mono hc hs⟩
theorem retI (X : Stand p l e R s m args below meth c T locs cells slots) (hx : p.tables.exec = Jvm.exec) {pc : Nat} {Ls : Array Slot} {z : Int32} {rest : List Value} (hret : meth.sig.returnType = some .int) (hd : decode c.code pc = .ok (.ireturn, 1)) {fs : List Frame}
    (hl : ∀ (f : JFrame) (acts : List Action), f.method = m → f.locked = none → f.entered = [] → (doReturn e (T.setTop f) acts (some (.int z))).1 = T.setFrames fs) : Steps p.tables e below (T.setTop (mkF m pc Ls (.int z :: rest))) (T.setFrames fs) :=
  retOut X hx hret rfl (Or.inl ⟨rfl, Or.inl rfl, z, rfl⟩) hd hl
theorem goI {pc : Nat} {Ls : Array Slot} {z : Int32} {rest : List Value} {Q : Option Value → Heap → List Loc → Prop} {C S : Nat} {P : State → Outcome → Prop}
    (X : Stand p l e R s m args below meth c T locs cells slots) (hx : p.tables.exec = Jvm.exec) (hret : meth.sig.returnType = some .int) (hlk : meth.locks = false) (hd : decode c.code pc = .ok (.ireturn, 1))
    (hP : P = Pst s Q C S) (hc : cells ≤ C) (hs : slots ≤ S) (hQ : Q (some (.int z)) T.heap locs) : Go p e below P (T.setTop (mkF m pc Ls (.int z :: rest))) := by
  subst hP
  exact goRet (i := .ireturn) X hret hlk (fun hr => retI X hx hret hd hr) hc hs hQ
theorem goN {pc : Nat} {Ls : Array Slot} {z : Int32} {t : FieldType} {rest : List Value} {Q : Option Value → Heap → List Loc → Prop} {C S : Nat} {P : State → Outcome → Prop}
    (X : Stand p l e R s m args below meth c T locs cells slots) (hx : p.tables.exec = Jvm.exec) (hret : meth.sig.returnType = some t) (ht : t = .boolean ∨ t = .byte ∨ t = .char ∨ t = .short) (hlk : meth.locks = false) (hd : decode c.code pc = .ok (.ireturn, 1))
    (hP : P = Pst s Q C S) (hc : cells ≤ C) (hs : slots ≤ S) (hQ : Q (some (.int (nar t z))) T.heap locs) : Go p e below P (T.setTop (mkF m pc Ls (.int z :: rest))) := by
  subst hP
  exact goRet (i := .ireturn) X hret hlk (fun hr => retN X hx hret ht hd hr) hc hs hQ
theorem goJ {pc : Nat} {Ls : Array Slot} {z : Int64} {rest : List Value} {Q : Option Value → Heap → List Loc → Prop} {C S : Nat} {P : State → Outcome → Prop}
    (X : Stand p l e R s m args below meth c T locs cells slots) (hx : p.tables.exec = Jvm.exec) (hret : meth.sig.returnType = some .long) (hlk : meth.locks = false) (hd : decode c.code pc = .ok (.lreturn, 1))
    (hP : P = Pst s Q C S) (hc : cells ≤ C) (hs : slots ≤ S) (hQ : Q (some (.long z)) T.heap locs) : Go p e below P (T.setTop (mkF m pc Ls (.long z :: rest))) := by
  subst hP
  exact goRet (i := .lreturn) X hret hlk (fun hr => retOut X hx hret rfl (Or.inr (Or.inl ⟨rfl, rfl, z, rfl⟩)) hd hr) hc hs hQ
theorem goA {pc : Nat} {Ls : Array Slot} {z : Addr} {t : FieldType} {rest : List Value} {Q : Option Value → Heap → List Loc → Prop} {C S : Nat} {P : State → Outcome → Prop}
    (X : Stand p l e R s m args below meth c T locs cells slots) (hx : p.tables.exec = Jvm.exec) (hret : meth.sig.returnType = some t) (ht : t.isReference = true) (hn : narrow t (.ref z) = .ref z) (hlk : meth.locks = false) (hd : decode c.code pc = .ok (.areturn, 1))
    (hP : P = Pst s Q C S) (hc : cells ≤ C) (hs : slots ≤ S) (hQ : Q (some (.ref z)) T.heap locs) : Go p e below P (T.setTop (mkF m pc Ls (.ref z :: rest))) := by
  subst hP
  exact goRet (i := .areturn) X hret hlk (fun hr => retOut X hx hret hn (Or.inr (Or.inr (Or.inr (Or.inr ⟨rfl, ht, rfl⟩)))) hd hr) hc hs hQ
theorem goV {pc : Nat} {Ls : Array Slot} {Q : Option Value → Heap → List Loc → Prop} {C S : Nat} {P : State → Outcome → Prop}
    (X : Stand p l e R s m args below meth c T locs cells slots) (hx : p.tables.exec = Jvm.exec) (hret : meth.sig.returnType = none) (hlk : meth.locks = false) (hd : decode c.code pc = .ok (.return_, 1))
    (hP : P = Pst s Q C S) (hc : cells ≤ C) (hs : slots ≤ S) (hQ : Q none T.heap locs) : Go p e below P (T.setTop (mkF m pc Ls [])) := by
  subst hP
  obtain ⟨fs, hr, hrun, hended, hW, hsame⟩ := X.leave (v := none) (fun _ => rfl) hlk
  exact ⟨_, _, X.returnOut hx hret hd hr, hrun, hended, _, _, rfl, hQ, ⟨_, rfl⟩, hW, hsame.mono hc hs⟩
/-- a static call by its contract -/
theorem callCt (X : Stand p l e R s m args below meth c T locs cells slots) (hx : p.tables.exec = Jvm.exec) (hZ : Z.Warmed39 s.vm) (eT : T.heap = h) {own : String} {index : Nat} {y : MethodName} {bytes : ByteArray} {maxL : Nat} {ret : Option FieldType} {rm : Room} {Q : Option Value → Heap → List Loc → Prop} {argsL rest : List Value}
    (hown : s.vm.findClass own = some m.cls) (w1 : (Cond.methodLink own index y).before a0 Z = true) (w2 : (Cond.static y).before a0 Z = true) (w3 : (Cond.initialized y.cls).before a0 Z = true) (w4 : (Cond.code y bytes maxL ret).before a0 Z = true)
    (hy : y.cls ≠ "java/lang/invoke/MethodHandle" ∧ y.cls ≠ "java/lang/invoke/VarHandle") (hM : Ct l y bytes maxL ret [] rm Z argsL.toArray h Q) {W : Nat} (hf : rm.frames + 1 ≤ R.frames) (hl : W + (maxL + 11) + rm.locals ≤ R.locals)
    {g : JFrame} (hg : g.method = m) (hsize : g.locals.size = c.maxLocals) (hlen : ∀ sig, parseMethodDescriptor y.desc = some sig → argsL.length = sig.parameters.length) (hstack : g.stack = argsL.reverse ++ rest) (hW : 2 * g.monitorRoom + (rest.map fun v => v.category).sum ≤ W)
    (hdg : decode c.code g.pc = .ok (.invokestatic index, 3)) (hc : cells + rm.cells ≤ R.cells) (hs : slots + rm.slots ≤ R.slots) :
    ∃ (v : Option Value) (T' : State) (L : List Loc), Stand p l e R s m args below meth c T' (locs ++ L) (cells + rm.cells) (slots + rm.slots) ∧ Q v T'.heap L ∧ ∀ target, Steps p.tables e below (T'.setTop { g with pc := g.pc + 3, stack := v.toList ++ rest }) target → Steps p.tables e below (T.setTop g) target := by
  subst eT
  obtain ⟨v, _, ⟨T', L', k', n'⟩, -, X', ⟨Lc, hQ, l18, y18, z18⟩, st⟩ := Jvm.LawKit.callS X hx (y := y) hown (mvT hZ w1) (mvT hZ w2) (mvT hZ w3) (mvT hZ w4) hy (backOf (W := W) hM hZ w4 w3 hf hl) hg hsize hlen hstack hW hdg (fun _ _ => ⟨rfl, rfl, hc, hs⟩)
  dsimp only [Pt.U, Pt.locs, Pt.cells, Pt.slots] at X' l18 y18 z18 st hQ
  subst l18 y18 z18
  exact ⟨v, T', Lc, X', hQ, st⟩
/-- a constructor by its contract -/
theorem callCtor (X : Stand p l e R s m args below meth c T locs cells slots) (hx : p.tables.exec = Jvm.exec) (hZ : Z.Warmed39 s.vm) (eT : T.heap = h) {own : String} {index : Nat} {y : MethodName} (hy1 : y.name = "<init>") {bytes : ByteArray} {maxL : Nat} {rm : Room} {Q : Option Value → Heap → List Loc → Prop} {a : Addr} {argsL rest : List Value}
    (hown : s.vm.findClass own = some m.cls) (w1 : (Cond.methodLink own index y).before a0 Z = true) (w2 : (Cond.instanceMethod y).before a0 Z = true) (w3 : (Cond.initialized y.cls).before a0 Z = true) (w4 : (Cond.code y bytes maxL none).before a0 Z = true)
    (hy : y.cls ≠ "java/lang/invoke/MethodHandle" ∧ y.cls ≠ "java/lang/invoke/VarHandle") (hM : Ct l y bytes maxL none [] rm Z (.ref a :: argsL).toArray h Q) {W : Nat} (hf : rm.frames + 1 ≤ R.frames) (hl : W + (maxL + 11) + rm.locals ≤ R.locals)
    {g : JFrame} (hg : g.method = m) (hsize : g.locals.size = c.maxLocals) (hlen : ∀ sig, parseMethodDescriptor y.desc = some sig → argsL.length = sig.parameters.length) (hstack : g.stack = argsL.reverse ++ .ref a :: rest) (hW : 2 * g.monitorRoom + (rest.map fun v => v.category).sum ≤ W)
    (hdg : decode c.code g.pc = .ok (.invokespecial index, 3)) (hc : cells + rm.cells ≤ R.cells) (hs : slots + rm.slots ≤ R.slots) :
    ∃ (v : Option Value) (T' : State) (L : List Loc), Stand p l e R s m args below meth c T' (locs ++ L) (cells + rm.cells) (slots + rm.slots) ∧ Q v T'.heap L ∧ ∀ target, Steps p.tables e below (T'.setTop { g with pc := g.pc + 3, stack := v.toList ++ rest }) target → Steps p.tables e below (T.setTop g) target := by
  subst eT
  obtain ⟨v, _, ⟨T', L', k', n'⟩, -, X', ⟨Lc, hQ, l18, y18, z18⟩, st⟩ := X.specialBack hx (y := y) hy1 hown (mvT hZ w1) (mvT hZ w2) (mvT hZ w4) hy (backOf (W := W) hM hZ w4 w3 hf hl) hg hsize (Steps.refl _) hlen hstack hW hdg (fun _ _ => ⟨rfl, rfl, hc, hs⟩)
  dsimp only [Pt.U, Pt.locs, Pt.cells, Pt.slots] at X' l18 y18 z18 st hQ
  subst l18 y18 z18
  exact ⟨v, T', Lc, X', hQ, fun _ k => st.trans k⟩
/-- an instance method that its own class selects, by its contract -/
theorem callCv (X : Stand p l e R s m args below meth c T locs cells slots) (hx : p.tables.exec = Jvm.exec) (hZ : Z.Warmed39 s.vm) (eT : T.heap = h) {own : String} {index : Nat} {y : MethodName} {bytes : ByteArray} {maxL : Nat} {ret : Option FieldType} {rm : Room} {Q : Option Value → Heap → List Loc → Prop} {a : Addr} {argsL rest : List Value}
    (hown : s.vm.findClass own = some m.cls) (w1 : (Cond.methodLink own index y).before a0 Z = true) (w5 : (Cond.declares y).before a0 Z = true) (w6 : (Cond.selects y.cls y y).before a0 Z = true) (w2 : (Cond.instanceMethod y).before a0 Z = true) (w3 : (Cond.initialized y.cls).before a0 Z = true) (w4 : (Cond.code y bytes maxL ret).before a0 Z = true)
    (hy : y.cls ≠ "java/lang/invoke/MethodHandle" ∧ y.cls ≠ "java/lang/invoke/VarHandle") (E : Exa Z h a y.cls) (hM : Ct l y bytes maxL ret [] rm Z (.ref a :: argsL).toArray h Q) {W : Nat} (hf : rm.frames + 1 ≤ R.frames) (hl : W + (maxL + 11) + rm.locals ≤ R.locals)
    {g : JFrame} (hg : g.method = m) (hsize : g.locals.size = c.maxLocals) (hlen : ∀ sig, parseMethodDescriptor y.desc = some sig → argsL.length = sig.parameters.length) (hstack : g.stack = argsL.reverse ++ .ref a :: rest) (hW : 2 * g.monitorRoom + (rest.map fun v => v.category).sum ≤ W)
    (hdg : decode c.code g.pc = .ok (.invokevirtual index, 3)) (hc : cells + rm.cells ≤ R.cells) (hs : slots + rm.slots ≤ R.slots) :
    ∃ (v : Option Value) (T' : State) (L : List Loc), Stand p l e R s m args below meth c T' (locs ++ L) (cells + rm.cells) (slots + rm.slots) ∧ Q v T'.heap L ∧ ∀ target, Steps p.tables e below (T'.setTop { g with pc := g.pc + 3, stack := v.toList ++ rest }) target → Steps p.tables e below (T.setTop g) target := by
  subst eT
  obtain ⟨cq, kq, qa, qb, qc⟩ := isOf hZ rfl E
  obtain ⟨v, _, ⟨T', L', k', n'⟩, -, X', ⟨Lc, hQ, l18, y18, z18⟩, st⟩ := X.virtualBack hx (y := y) (z := y) hown (mvT hZ w1) (mvT hZ w5) (notFace_of_selects (args := #[]) (mvT hZ w6)) (mvT hZ w6) (mvT hZ w2) hy (backOf (W := W) hM hZ w4 w3 hf hl) qa qc hg hsize (Steps.refl _) hlen hstack hW hdg (fun _ _ => ⟨rfl, rfl, hc, hs⟩)
  dsimp only [Pt.U, Pt.locs, Pt.cells, Pt.slots] at X' l18 y18 z18 st hQ
  subst l18 y18 z18
  exact ⟨v, T', Lc, X', hQ, fun _ k => st.trans k⟩
/-- a private instance method by its contract -/
theorem callCp (X : Stand p l e R s m args below meth c T locs cells slots) (hx : p.tables.exec = Jvm.exec) (hZ : Z.Warmed39 s.vm) (eT : T.heap = h) {own : String} {index : Nat} {y : MethodName} {bytes : ByteArray} {maxL k : Nat} {ret : Option FieldType} {rm : Room} {Q : Option Value → Heap → List Loc → Prop} {a : Addr} {argsL rest : List Value}
    (hown : s.vm.findClass own = some m.cls) (w1 : (Cond.methodLink own index y).before a0 Z = true) (w2 : (Cond.instanceMethod y).before a0 Z = true) (w7 : (Cond.privateMethod y).before a0 Z = true) (wi : (Cond.instantiable y.cls k).before a0 Z = true) (w3 : (Cond.initialized y.cls).before a0 Z = true) (w4 : (Cond.code y bytes maxL ret).before a0 Z = true)
    (hy : y.cls ≠ "java/lang/invoke/MethodHandle" ∧ y.cls ≠ "java/lang/invoke/VarHandle") (E : Exa Z h a y.cls) (hM : Ct l y bytes maxL ret [] rm Z (.ref a :: argsL).toArray h Q) {W : Nat} (hf : rm.frames + 1 ≤ R.frames) (hl : W + (maxL + 11) + rm.locals ≤ R.locals)
    {g : JFrame} (hg : g.method = m) (hsize : g.locals.size = c.maxLocals) (hlen : ∀ sig, parseMethodDescriptor y.desc = some sig → argsL.length = sig.parameters.length) (hstack : g.stack = argsL.reverse ++ .ref a :: rest) (hW : 2 * g.monitorRoom + (rest.map fun v => v.category).sum ≤ W)
    (hdg : decode c.code g.pc = .ok (.invokevirtual index, 3)) (hc : cells + rm.cells ≤ R.cells) (hs : slots + rm.slots ≤ R.slots) :
    ∃ (v : Option Value) (T' : State) (L : List Loc), Stand p l e R s m args below meth c T' (locs ++ L) (cells + rm.cells) (slots + rm.slots) ∧ Q v T'.heap L ∧ ∀ target, Steps p.tables e below (T'.setTop { g with pc := g.pc + 3, stack := v.toList ++ rest }) target → Steps p.tables e below (T.setTop g) target := by
  subst eT
  obtain ⟨cq, q1, q2⟩ := E.cell
  have hpriv : s.PrivateAt y := Cond.privateMethod_at (mvP hZ w7 (args := #[]))
  obtain ⟨cc, kk, i1, i2, -, i4, -⟩ := Cond.instantiable_spec (mvT (args := args) hZ wi)
  have hni : kk.isInterface = false := by simp only [Bool.or_eq_false_iff] at i4; exact i4.1
  have hsel := selects_self_of_private (args := args) i1 i2 hni hpriv (mvT hZ w2) hy
  obtain ⟨v, _, ⟨T', L', k', n'⟩, -, X', ⟨Lc, hQ, l18, y18, z18⟩, st⟩ := X.privateBack hx (y := y) hown (mvT hZ w1) (mvT hZ w2) hsel hpriv (mvT hZ w4) hy (backOf (W := W) hM hZ w4 w3 hf hl) hg hsize (Steps.refl _) q1 q2 hlen hstack hW hdg (fun _ _ => ⟨rfl, rfl, hc, hs⟩)
  dsimp only [Pt.U, Pt.locs, Pt.cells, Pt.slots] at X' l18 y18 z18 st hQ
  subst l18 y18 z18
  exact ⟨v, T', Lc, X', hQ, fun _ k => st.trans k⟩
end OwnGo
end Jvm.RoadKit
namespace Jvm.Pilot.@@N@@
open Jvm Jvm.ClassFile Sem Op Lib Jvm.Free Jvm.Stand Jvm.LawKit Jvm.RoadKit Bundle Jvm.Pilot.@@N@@.Jvm.D
open Jvm.Kit
def own_ow (g G n : Int32) : Int32 := ((g.toInt64 * n.toInt64 + n.toInt64 - (1 : Int64)) / G.toInt64).toInt32
theorem own_max : (2147483647 : Int32).toInt = 2147483647 := by decide
theorem own_one : (1 : Int32).toInt = 1 := by decide
theorem own_one64 : (1 : Int64).toInt = 1 := by decide
theorem own_m (a : Int32) : 0 ≤ (a &&& (2147483647 : Int32)).toInt := by
  have h := Kit.i32_and_bounds a (m := 2147483647) (by decide)
  rw [Kit.i32_nonneg] at h; exact h.1
theorem own_rem {a b : Int32} (ha : 0 ≤ a.toInt) (hb : 0 < b.toInt) : 0 ≤ (a % b).toInt ∧ (a % b).toInt < b.toInt := by
  rw [Kit.i32_rem_nonneg ha]; exact ⟨Int.emod_nonneg _ (by omega), Int.emod_lt_of_pos _ hb⟩
theorem own_up {r G : Int32} (h0 : 0 ≤ r.toInt) (h1 : r.toInt < G.toInt) : ((1 : Int32) + r).toInt = 1 + r.toInt := by
  have := G.toInt_lt
  rw [Kit.i32_add (by rw [own_one]; omega) (by rw [own_one]; omega), own_one]
theorem own_nz {a : Int32} (h : 0 < a.toInt) : a ≠ 0 := fun q => by rw [q] at h; exact absurd h (by decide)
theorem own_nz64 {a : Int32} (h : 0 < a.toInt) : a.toInt64 ≠ 0 := fun q => by
  have : a.toInt64.toInt = 0 := by rw [q]; decide
  rw [Kit.i64_of_i32] at this; omega
theorem own_le_mul {a b c d : Int} (h0 : 0 ≤ a) (h1 : a ≤ b) (h2 : 0 ≤ c) (h3 : c ≤ d) : 0 ≤ a * c ∧ a * c ≤ b * d :=
  ⟨Int.mul_nonneg h0 h2, Int.mul_le_mul h1 h3 h2 (by omega)⟩
theorem own_mul64 {x y : Int64} (h0 : 0 ≤ x.toInt) (h1 : x.toInt ≤ 2147483648) (h2 : 0 ≤ y.toInt) (h3 : y.toInt ≤ 2147483647) : (x * y).toInt = x.toInt * y.toInt ∧ 0 ≤ x.toInt * y.toInt ∧ x.toInt * y.toInt ≤ 2147483648 * 2147483647 := by
  have q := own_le_mul h0 h1 h2 h3
  exact ⟨Kit.i64_mul (by omega) (by omega), q⟩
theorem own_ow_eq {g G n : Int32} (hg : 0 ≤ g.toInt) (hgG : g.toInt < G.toInt) (hn : 0 < n.toInt) (hnG : n.toInt ≤ G.toInt) : (own_ow g G n).toInt = (g.toInt * n.toInt + n.toInt - 1) / G.toInt ∧ 0 ≤ (own_ow g G n).toInt ∧ (own_ow g G n).toInt < n.toInt := by
  have bG := G.toInt_lt
  have bn := n.toInt_lt
  have q := own_mul64 (x := g.toInt64) (y := n.toInt64) (by rw [Kit.i64_of_i32]; omega) (by rw [Kit.i64_of_i32]; omega) (by rw [Kit.i64_of_i32]; omega) (by rw [Kit.i64_of_i32]; omega)
  rw [Kit.i64_of_i32, Kit.i64_of_i32] at q
  obtain ⟨q1, q2, q3⟩ := q
  have e1 : (g.toInt64 * n.toInt64 + n.toInt64).toInt = g.toInt * n.toInt + n.toInt := by
    rw [Kit.i64_add (by rw [q1, Kit.i64_of_i32]; omega) (by rw [q1, Kit.i64_of_i32]; omega), q1, Kit.i64_of_i32]
  have e2 : (g.toInt64 * n.toInt64 + n.toInt64 - (1 : Int64)).toInt = g.toInt * n.toInt + n.toInt - 1 := by
    rw [Kit.i64_sub (by rw [e1, own_one64]; omega) (by rw [e1, own_one64]; omega), e1, own_one64]
  have e3 : ((g.toInt64 * n.toInt64 + n.toInt64 - (1 : Int64)) / G.toInt64).toInt = (g.toInt * n.toInt + n.toInt - 1) / G.toInt := by
    rw [Kit.i64_div (by rw [Kit.i64_of_i32]; omega), e2, Kit.i64_of_i32, Int.tdiv_eq_ediv_of_nonneg (by omega)]
  have e4 : 0 ≤ (g.toInt * n.toInt + n.toInt - 1) / G.toInt := Int.ediv_nonneg (by omega) (by omega)
  have e5 : (g.toInt * n.toInt + n.toInt - 1) / G.toInt < n.toInt := by
    refine Int.ediv_lt_of_lt_mul (by omega) ?_
    have k : (g.toInt + 1) * n.toInt ≤ G.toInt * n.toInt := Int.mul_le_mul_of_nonneg_right (by omega) (by omega)
    rw [Int.add_mul, Int.one_mul] at k
    rw [Int.mul_comm n.toInt G.toInt]; omega
  have e6 : (own_ow g G n).toInt = (g.toInt * n.toInt + n.toInt - 1) / G.toInt := by
    unfold own_ow
    rw [Kit.i32_of_i64 (by rw [e3]; omega) (by rw [e3]; omega), e3]
  exact ⟨e6, by rw [e6]; exact e4, by rw [e6]; exact e5⟩
theorem own_gt (x y : Int64) : (0 : Int32) < lcmpW x y ↔ y.toInt < x.toInt := by
  rw [← Int64.lt_iff_toInt_lt]; unfold lcmpW
  by_cases h : y < x
  · simp [h]
  · by_cases h2 : x = y
    · subst h2; simp
    · simp [h, h2]
theorem own_st {r : Int64} {G n : Int32} (h0 : 0 ≤ r.toInt) (h1 : r.toInt ≤ 2147483648) (hG : 0 ≤ G.toInt) (hn : 0 < n.toInt) : ((r * G.toInt64) / n.toInt64).toInt = (r.toInt * G.toInt) / n.toInt := by
  have bG := G.toInt_lt
  have q := own_mul64 (x := r) (y := G.toInt64) h0 h1 (by rw [Kit.i64_of_i32]; omega) (by rw [Kit.i64_of_i32]; omega)
  rw [Kit.i64_of_i32] at q
  obtain ⟨q1, q2, q3⟩ := q
  rw [Kit.i64_div (by rw [Kit.i64_of_i32]; omega), q1, Kit.i64_of_i32, Int.tdiv_eq_ediv_of_nonneg q2]
theorem own_le {g G n r : Int} (hG : 0 < G) (hn : 0 < n) (hr : r = (g * n + n - 1) / G) : (r * G) / n ≤ g := by
  have k : r * G ≤ g * n + n - 1 := by rw [hr]; exact Int.ediv_mul_le _ (by omega)
  have : r * G < (g + 1) * n := by rw [Int.add_mul, Int.one_mul]; omega
  have := Int.ediv_lt_of_lt_mul hn this
  omega
theorem own_ge {g G n r : Int} (hG : 0 < G) (hn : 0 < n) (hr : r = (g * n + n - 1) / G) : g < ((r + 1) * G) / n := by
  have k : g * n + n - 1 < (r + 1) * G := by rw [hr]; exact Int.lt_ediv_add_one_mul_self _ hG
  have k2 : (g + 1) * n ≤ (r + 1) * G := by rw [Int.add_mul g, Int.one_mul]; omega
  have := Int.le_ediv_of_mul_le hn k2
  omega
theorem own_r1 {r : Int32} (h0 : 0 ≤ r.toInt) : (r.toInt64 + (1 : Int64)).toInt = r.toInt + 1 := by
  have := r.toInt_lt
  rw [Kit.i64_add (by rw [Kit.i64_of_i32, own_one64]; omega) (by rw [Kit.i64_of_i32, own_one64]; omega), Kit.i64_of_i32, own_one64]
theorem d_prog_71_method_5_0 : decode prog_71_method_5_code 0 = .ok (.iload_n 0, 1) := by decide +kernel
theorem d_prog_71_method_5_1 : decode prog_71_method_5_code 1 = .ok (.i2l, 1) := by decide +kernel
theorem d_prog_71_method_5_2 : decode prog_71_method_5_code 2 = .ok (.iload_n 2, 1) := by decide +kernel
theorem d_prog_71_method_5_3 : decode prog_71_method_5_code 3 = .ok (.i2l, 1) := by decide +kernel
theorem d_prog_71_method_5_4 : decode prog_71_method_5_code 4 = .ok (.lmul, 1) := by decide +kernel
theorem d_prog_71_method_5_5 : decode prog_71_method_5_code 5 = .ok (.iload_n 2, 1) := by decide +kernel
theorem d_prog_71_method_5_6 : decode prog_71_method_5_code 6 = .ok (.i2l, 1) := by decide +kernel
theorem d_prog_71_method_5_7 : decode prog_71_method_5_code 7 = .ok (.ladd, 1) := by decide +kernel
theorem d_prog_71_method_5_8 : decode prog_71_method_5_code 8 = .ok (.lconst 1, 1) := by decide +kernel
theorem d_prog_71_method_5_9 : decode prog_71_method_5_code 9 = .ok (.lsub, 1) := by decide +kernel
theorem d_prog_71_method_5_10 : decode prog_71_method_5_code 10 = .ok (.iload_n 1, 1) := by decide +kernel
theorem d_prog_71_method_5_11 : decode prog_71_method_5_code 11 = .ok (.i2l, 1) := by decide +kernel
theorem d_prog_71_method_5_12 : decode prog_71_method_5_code 12 = .ok (.ldiv, 1) := by decide +kernel
theorem d_prog_71_method_5_13 : decode prog_71_method_5_code 13 = .ok (.l2i, 1) := by decide +kernel
theorem d_prog_71_method_5_14 : decode prog_71_method_5_code 14 = .ok (.ireturn, 1) := by decide +kernel
theorem pn_0 : plainName "io/sluicegate/runtime/KeyGroups" = true := by first | (simp [plainName, overriddenIn]; done) | decide +kernel
theorem ef_rmO (m : MethodId) (g : Int32) (G : Int32) (n : Int32) : entryFrame m #[(.int g), (.int G), (.int n)] 3 = mkF m 0 #[.val (.int g), .val (.int G), .val (.int n)] [] := by first | (simp [entryFrame, mkF, argsToLocals, Value.category]; done) | rfl
set_option maxRecDepth 65536 in
set_option maxHeartbeats 40000000 in
theorem rmO (l : Launch) (Z : State) (a0 : Array Value) (hw : ∀ d ∈ tables_1, d.before a0 Z = true) (g : Int32) (G : Int32) (n : Int32)  (h0 : Heap) (n0 : Nat) (Z0 : n0 ≤ h0.size) (hG : G.toInt64 ≠ 0) :
    Ct l (⟨"io/sluicegate/runtime/KeyGroups", "owner", "(III)I"⟩ : MethodName) prog_71_method_5_code 3 (some .int) [] ({ frames := 0, cells := 0, slots := 0, locals := 0 } : Room) Z #[(.int g), (.int G), (.int n)] h0 (fun v h L => v = some (.int (own_ow g G n)) ∧ Fr n0 L ∧ h = h0) := by
  refine Ct.of (plainFor_of_name pn_0) (fun m => ef_rmO m g G n) ?_
  intro p e s m below meth c T0 X0 hx hby hml hret hlk hown hnm hZ e0 P hP
  refine Go.st (fun _ kt => XS.iloadN X0.here hx rfl (hb hby d_prog_71_method_5_0) rfl (XS.i2l X0.here hx rfl (hb hby d_prog_71_method_5_1) rfl (XS.iloadN X0.here hx rfl (hb hby d_prog_71_method_5_2) rfl (XS.i2l X0.here hx rfl (hb hby d_prog_71_method_5_3) rfl (XS.lmul X0.here hx rfl (hb hby d_prog_71_method_5_4) rfl (XS.iloadN X0.here hx rfl (hb hby d_prog_71_method_5_5) rfl (XS.i2l X0.here hx rfl (hb hby d_prog_71_method_5_6) rfl (XS.ladd X0.here hx rfl (hb hby d_prog_71_method_5_7) rfl kt)))))))) ?_
  show Go p e below P (T0.setTop (mkF m 8 #[.val (.int g), .val (.int G), .val (.int n)] [(.long (((g.toInt64) * (n.toInt64)) + (n.toInt64)))]))
  refine Go.st (fun _ kt => XS.lconst X0.here hx rfl (hb hby d_prog_71_method_5_8) (XS.lsub X0.here hx rfl (hb hby d_prog_71_method_5_9) rfl (XS.iloadN X0.here hx rfl (hb hby d_prog_71_method_5_10) rfl (XS.i2l X0.here hx rfl (hb hby d_prog_71_method_5_11) rfl (XS.ldiv X0.here hx rfl (hb hby d_prog_71_method_5_12) rfl hG (XS.l2i X0.here hx rfl (hb hby d_prog_71_method_5_13) rfl kt)))))) ?_
  show Go p e below P (T0.setTop (mkF m 14 #[.val (.int g), .val (.int G), .val (.int n)] [(.int ((((((g.toInt64) * (n.toInt64)) + (n.toInt64)) - (1 : Int64)) / (G.toInt64)).toInt32))]))
  exact goI X0 hx hret hlk (hb hby d_prog_71_method_5_14) hP (by decide) (by decide) ⟨rfl, (Fr.nil n0), e0⟩
theorem d_method_2_0 : decode method_2_code 0 = .ok (.lload_n 0, 1) := by decide +kernel
theorem d_method_2_1 : decode method_2_code 1 = .ok (.lload_n 2, 1) := by decide +kernel
theorem d_method_2_2 : decode method_2_code 2 = .ok (.lmul, 1) := by decide +kernel
theorem d_method_2_3 : decode method_2_code 3 = .ok (.lload 4, 2) := by decide +kernel
theorem d_method_2_5 : decode method_2_code 5 = .ok (.ldiv, 1) := by decide +kernel
theorem d_method_2_6 : decode method_2_code 6 = .ok (.lreturn, 1) := by decide +kernel
theorem pn_1 : plainName "io/sluicegate/runtime/KeyGroupsOwnerPinLaw" = true := by first | (simp [plainName, overriddenIn]; done) | decide +kernel
theorem ef_rmS (m : MethodId) (r : Int64) (G : Int64) (n : Int64) : entryFrame m #[(.long r), (.long G), (.long n)] 6 = mkF m 0 #[.val (.long r), .second, .val (.long G), .second, .val (.long n), .second] [] := by first | (simp [entryFrame, mkF, argsToLocals, Value.category]; done) | rfl
set_option maxRecDepth 65536 in
set_option maxHeartbeats 40000000 in
theorem rmS (l : Launch) (Z : State) (a0 : Array Value) (hw : ∀ d ∈ tables_1, d.before a0 Z = true) (r : Int64) (G : Int64) (n : Int64)  (h0 : Heap) (n0 : Nat) (Z0 : n0 ≤ h0.size) (hn : n ≠ 0) :
    Ct l (⟨"io/sluicegate/runtime/KeyGroupsOwnerPinLaw", "start", "(JJJ)J"⟩ : MethodName) method_2_code 6 (some .long) [] ({ frames := 0, cells := 0, slots := 0, locals := 0 } : Room) Z #[(.long r), (.long G), (.long n)] h0 (fun v h L => v = some (.long ((r * G) / n)) ∧ Fr n0 L ∧ h = h0) := by
  refine Ct.of (plainFor_of_name pn_1) (fun m => ef_rmS m r G n) ?_
  intro p e s m below meth c T0 X0 hx hby hml hret hlk hown hnm hZ e0 P hP
  refine Go.st (fun _ kt => XS.lloadN X0.here hx rfl (hb hby d_method_2_0) rfl (XS.lloadN X0.here hx rfl (hb hby d_method_2_1) rfl (XS.lmul X0.here hx rfl (hb hby d_method_2_2) rfl (XS.lload X0.here hx rfl (hb hby d_method_2_3) rfl (XS.ldiv X0.here hx rfl (hb hby d_method_2_5) rfl hn kt))))) ?_
  show Go p e below P (T0.setTop (mkF m 6 #[.val (.long r), .second, .val (.long G), .second, .val (.long n), .second] [(.long ((r * G) / n))]))
  exact goJ X0 hx hret hlk (hb hby d_method_2_6) hP (by decide) (by decide) ⟨rfl, (Fr.nil n0), e0⟩
theorem pd_2 : parseMethodDescriptor "(III)I" = some ⟨[.int, .int, .int], some .int⟩ := by decide +kernel
theorem pd_3 : parseMethodDescriptor "(JJJ)J" = some ⟨[.long, .long, .long], some .long⟩ := by decide +kernel
theorem ef_rm0 (m : MethodId) (u : Int32) (y : Int32) (z : Int32) : entryFrame m #[(.int u), (.int y), (.int z)] maxLocals = mkF m 0 #[.val (.int u), .val (.int y), .val (.int z), .unset, .unset, .unset, .unset, .unset, .unset, .unset, .unset, .unset, .unset] [] := by first | (simp [entryFrame, mkF, argsToLocals, Value.category, maxLocals]; done) | rfl
set_option maxRecDepth 65536 in
set_option maxHeartbeats 40000000 in
theorem rm0 (l : Launch) (Z : State) (a0 : Array Value) (hw : ∀ d ∈ tables_1, d.before a0 Z = true) (ws : List Jvm.Cond) (u : Int32) (y : Int32) (z : Int32)  (h0 : Heap) (n0 : Nat) (Z0 : n0 ≤ h0.size)  :
    Ct l x code maxLocals ret ws room_1 Z #[(.int u), (.int y), (.int z)] h0 (fun v h L => v = some (.int 1) ∧ Fr n0 L) := by
  refine Ct.of (plainFor_of_name pn_1) (fun m => ef_rm0 m u y z) ?_
  intro p e s m below meth c T0 X0 hx hby hml hret hlk hown hnm hZ e0 P hP
  refine Go.st (fun _ kt => XS.iconst X0.here hx rfl (hb hby at_0) (XS.iloadN X0.here hx rfl (hb hby at_1) rfl (X0.ldcInt hx hown (mvT hZ (hw _ (List.mem_of_getElem? (i := 0) rfl))) (g := (mkF m 2 #[.val (.int u), .val (.int y), .val (.int z), .unset, .unset, .unset, .unset, .unset, .unset, .unset, .unset, .unset, .unset] [(.int u), (.int (1 : Int32))])) rfl (hb hby at_2) _ (XS.iand X0.here hx rfl (hb hby at_4) rfl (X0.ldcInt hx hown (mvT hZ (hw _ (List.mem_of_getElem? (i := 0) rfl))) (g := (mkF m 5 #[.val (.int u), .val (.int y), .val (.int z), .unset, .unset, .unset, .unset, .unset, .unset, .unset, .unset, .unset, .unset] [(.int (u &&& (2147483647 : Int32))), (.int (1 : Int32))])) rfl (hb hby at_5) _ (iremM X0 hx rfl (hb hby at_7) rfl (by decide) (XS.iadd X0.here hx rfl (hb hby at_8) rfl kt))))))) ?_
  show Go p e below P (T0.setTop (mkF m 9 #[.val (.int u), .val (.int y), .val (.int z), .unset, .unset, .unset, .unset, .unset, .unset, .unset, .unset, .unset, .unset] [(.int ((1 : Int32) + ((u &&& (2147483647 : Int32)) % (2147483647 : Int32))))]))
  have hG : 1 ≤ (((1 : Int32) + ((u &&& (2147483647 : Int32)) % (2147483647 : Int32)))).toInt ∧ (((1 : Int32) + ((u &&& (2147483647 : Int32)) % (2147483647 : Int32)))).toInt ≤ 2147483647 := by
      have q := own_rem (own_m u) (b := 2147483647) (by decide)
      rw [own_up q.1 q.2]; rw [own_max] at q; omega
  generalize ((1 : Int32) + ((u &&& (2147483647 : Int32)) % (2147483647 : Int32))) = G at hG ⊢
  obtain ⟨hG1, hG2⟩ := hG
  have hG : 0 < G.toInt := by omega
  show Go p e below P (T0.setTop (mkF m 9 #[.val (.int u), .val (.int y), .val (.int z), .unset, .unset, .unset, .unset, .unset, .unset, .unset, .unset, .unset, .unset] [(.int G)]))
  refine Go.st (fun _ kt => XS.istoreN X0.here hx rfl (hb hby at_9) rfl (l' := #[.val (.int u), .val (.int y), .val (.int z), .val (.int G), .unset, .unset, .unset, .unset, .unset, .unset, .unset, .unset, .unset]) rfl (XS.iconst X0.here hx rfl (hb hby at_10) (XS.iloadN X0.here hx rfl (hb hby at_11) rfl (X0.ldcInt hx hown (mvT hZ (hw _ (List.mem_of_getElem? (i := 0) rfl))) (g := (mkF m 12 #[.val (.int u), .val (.int y), .val (.int z), .val (.int G), .unset, .unset, .unset, .unset, .unset, .unset, .unset, .unset, .unset] [(.int y), (.int (1 : Int32))])) rfl (hb hby at_12) _ (XS.iand X0.here hx rfl (hb hby at_14) rfl (XS.iloadN X0.here hx rfl (hb hby at_15) rfl (iremM X0 hx rfl (hb hby at_16) rfl (own_nz hG) (XS.iadd X0.here hx rfl (hb hby at_17) rfl kt)))))))) ?_
  show Go p e below P (T0.setTop (mkF m 18 #[.val (.int u), .val (.int y), .val (.int z), .val (.int G), .unset, .unset, .unset, .unset, .unset, .unset, .unset, .unset, .unset] [(.int ((1 : Int32) + ((y &&& (2147483647 : Int32)) % G)))]))
  have hn : 1 ≤ (((1 : Int32) + ((y &&& (2147483647 : Int32)) % G))).toInt ∧ (((1 : Int32) + ((y &&& (2147483647 : Int32)) % G))).toInt ≤ G.toInt := by
      have q := own_rem (own_m y) hG
      rw [own_up q.1 q.2]; omega
  generalize ((1 : Int32) + ((y &&& (2147483647 : Int32)) % G)) = n at hn ⊢
  obtain ⟨hn1, hn2⟩ := hn
  have hn : 0 < n.toInt := by omega
  show Go p e below P (T0.setTop (mkF m 18 #[.val (.int u), .val (.int y), .val (.int z), .val (.int G), .unset, .unset, .unset, .unset, .unset, .unset, .unset, .unset, .unset] [(.int n)]))
  refine Go.st (fun _ kt => XS.istore X0.here hx rfl (hb hby at_18) rfl (l' := #[.val (.int u), .val (.int y), .val (.int z), .val (.int G), .val (.int n), .unset, .unset, .unset, .unset, .unset, .unset, .unset, .unset]) rfl (XS.iloadN X0.here hx rfl (hb hby at_20) rfl (X0.ldcInt hx hown (mvT hZ (hw _ (List.mem_of_getElem? (i := 0) rfl))) (g := (mkF m 21 #[.val (.int u), .val (.int y), .val (.int z), .val (.int G), .val (.int n), .unset, .unset, .unset, .unset, .unset, .unset, .unset, .unset] [(.int z)])) rfl (hb hby at_21) _ (XS.iand X0.here hx rfl (hb hby at_23) rfl (XS.iloadN X0.here hx rfl (hb hby at_24) rfl (iremM X0 hx rfl (hb hby at_25) rfl (own_nz hG) kt)))))) ?_
  show Go p e below P (T0.setTop (mkF m 26 #[.val (.int u), .val (.int y), .val (.int z), .val (.int G), .val (.int n), .unset, .unset, .unset, .unset, .unset, .unset, .unset, .unset] [(.int ((z &&& (2147483647 : Int32)) % G))]))
  have hg : 0 ≤ (((z &&& (2147483647 : Int32)) % G)).toInt ∧ (((z &&& (2147483647 : Int32)) % G)).toInt < G.toInt := own_rem (own_m z) hG
  generalize ((z &&& (2147483647 : Int32)) % G) = g at hg ⊢
  obtain ⟨hg1, hg2⟩ := hg
  show Go p e below P (T0.setTop (mkF m 26 #[.val (.int u), .val (.int y), .val (.int z), .val (.int G), .val (.int n), .unset, .unset, .unset, .unset, .unset, .unset, .unset, .unset] [(.int g)]))
  refine Go.st (fun _ kt => XS.istore X0.here hx rfl (hb hby at_26) rfl (l' := #[.val (.int u), .val (.int y), .val (.int z), .val (.int G), .val (.int n), .val (.int g), .unset, .unset, .unset, .unset, .unset, .unset, .unset]) rfl (XS.iload X0.here hx rfl (hb hby at_28) rfl (XS.iloadN X0.here hx rfl (hb hby at_30) rfl (XS.iload X0.here hx rfl (hb hby at_31) rfl kt)))) ?_
  show Go p e below P (T0.setTop (mkF m 33 #[.val (.int u), .val (.int y), .val (.int z), .val (.int G), .val (.int n), .val (.int g), .unset, .unset, .unset, .unset, .unset, .unset, .unset] [(.int n), (.int G), (.int g)]))
  obtain ⟨_, T1, Lc1, X1, ⟨rfl, Nq1, eq1⟩, st1⟩ := callCt X0 hx hZ e0 (y := (⟨"io/sluicegate/runtime/KeyGroups", "owner", "(III)I"⟩ : MethodName)) (argsL := [(.int g), (.int G), (.int n)]) (rest := []) hown (hw _ (List.mem_of_getElem? (i := 1) rfl)) (hw _ (List.mem_of_getElem? (i := 2) rfl)) (hw _ (List.mem_of_getElem? (i := 3) rfl)) (hw _ (List.mem_of_getElem? (i := 4) rfl)) (by decide) (rmO l Z a0 hw g G n _ n0 Z0 (own_nz64 hG)) (W := 0) (by decide) (by decide) (g := (mkF m 33 #[.val (.int u), .val (.int y), .val (.int z), .val (.int G), .val (.int n), .val (.int g), .unset, .unset, .unset, .unset, .unset, .unset, .unset] [(.int n), (.int G), (.int g)])) rfl (by rw [hml]; rfl) (lenOf pd_2 rfl) rfl (by show 2 * 0 + _ ≤ _; exact Nat.le_of_eq rfl) (hb hby at_33) (by decide) (by decide)
  have N1 := Fr.app (Fr.nil n0) Nq1
  have e1 : T1.heap = h0 := eq1
  refine Go.st st1 ?_
  show Go p e below P (T1.setTop (mkF m 36 #[.val (.int u), .val (.int y), .val (.int z), .val (.int G), .val (.int n), .val (.int g), .unset, .unset, .unset, .unset, .unset, .unset, .unset] [(.int (own_ow g G n))]))
  have hr := own_ow_eq hg1 hg2 hn hn2
  generalize (own_ow g G n) = r at hr ⊢
  obtain ⟨hr, hr0, hr1⟩ := hr
  show Go p e below P (T1.setTop (mkF m 36 #[.val (.int u), .val (.int y), .val (.int z), .val (.int G), .val (.int n), .val (.int g), .unset, .unset, .unset, .unset, .unset, .unset, .unset] [(.int r)]))
  refine Go.st (fun _ kt => XS.istore X1.here hx rfl (hb hby at_36) rfl (l' := #[.val (.int u), .val (.int y), .val (.int z), .val (.int G), .val (.int n), .val (.int g), .val (.int r), .unset, .unset, .unset, .unset, .unset, .unset]) rfl (XS.iload X1.here hx rfl (hb hby at_38) rfl (XS.ifNo X1.here hx rfl (hb hby at_40) rfl ((if0 _ _).trans (flt (fun q => by rw [Int32.lt_iff_toInt_lt, Int32.toInt_zero] at q; omega)).1) (XS.iload X1.here hx rfl (hb hby at_43) rfl (XS.iload X1.here hx rfl (hb hby at_45) rfl (XS.icmpYes X1.here hx rfl (pc0 := 47) (pc' := 52) rfl (hb hby at_47) rfl (tlt (Int32.lt_iff_toInt_lt.mpr hr1)).1 (by decide) (by decide) (XS.iload X1.here hx rfl (hb hby at_52) rfl (XS.i2l X1.here hx rfl (hb hby at_54) rfl kt)))))))) ?_
  show Go p e below P (T1.setTop (mkF m 55 #[.val (.int u), .val (.int y), .val (.int z), .val (.int G), .val (.int n), .val (.int g), .val (.int r), .unset, .unset, .unset, .unset, .unset, .unset] [(.long (g.toInt64))]))
  refine Go.st (fun _ kt => XS.lstore X1.here hx rfl (hb hby at_55) rfl (l' := #[.val (.int u), .val (.int y), .val (.int z), .val (.int G), .val (.int n), .val (.int g), .val (.int r), .val (.long (g.toInt64)), .second, .unset, .unset, .unset, .unset]) rfl (XS.iloadN X1.here hx rfl (hb hby at_57) rfl (XS.i2l X1.here hx rfl (hb hby at_58) rfl (XS.lstore X1.here hx rfl (hb hby at_59) rfl (l' := #[.val (.int u), .val (.int y), .val (.int z), .val (.int G), .val (.int n), .val (.int g), .val (.int r), .val (.long (g.toInt64)), .second, .val (.long (G.toInt64)), .second, .unset, .unset]) rfl (XS.iload X1.here hx rfl (hb hby at_61) rfl (XS.i2l X1.here hx rfl (hb hby at_63) rfl (XS.lstore X1.here hx rfl (hb hby at_64) rfl (l' := #[.val (.int u), .val (.int y), .val (.int z), .val (.int G), .val (.int n), .val (.int g), .val (.int r), .val (.long (g.toInt64)), .second, .val (.long (G.toInt64)), .second, .val (.long (n.toInt64)), .second]) rfl (XS.iload X1.here hx rfl (hb hby at_66) rfl kt)))))))) ?_
  show Go p e below P (T1.setTop (mkF m 68 #[.val (.int u), .val (.int y), .val (.int z), .val (.int G), .val (.int n), .val (.int g), .val (.int r), .val (.long (g.toInt64)), .second, .val (.long (G.toInt64)), .second, .val (.long (n.toInt64)), .second] [(.int r)]))
  refine Go.st (fun _ kt => XS.i2l X1.here hx rfl (hb hby at_68) rfl (XS.lload X1.here hx rfl (hb hby at_69) rfl (XS.lload X1.here hx rfl (hb hby at_71) rfl kt))) ?_
  show Go p e below P (T1.setTop (mkF m 73 #[.val (.int u), .val (.int y), .val (.int z), .val (.int G), .val (.int n), .val (.int g), .val (.int r), .val (.long (g.toInt64)), .second, .val (.long (G.toInt64)), .second, .val (.long (n.toInt64)), .second] [(.long (n.toInt64)), (.long (G.toInt64)), (.long (r.toInt64))]))
  obtain ⟨_, T2, Lc2, X2, ⟨rfl, Nq2, eq2⟩, st2⟩ := callCt X1 hx hZ e1 (y := (⟨"io/sluicegate/runtime/KeyGroupsOwnerPinLaw", "start", "(JJJ)J"⟩ : MethodName)) (argsL := [(.long (r.toInt64)), (.long (G.toInt64)), (.long (n.toInt64))]) (rest := []) hown (hw _ (List.mem_of_getElem? (i := 5) rfl)) (hw _ (List.mem_of_getElem? (i := 6) rfl)) (hw _ (List.mem_of_getElem? (i := 7) rfl)) (hw _ (List.mem_of_getElem? (i := 8) rfl)) (by decide) (rmS l Z a0 hw (r.toInt64) (G.toInt64) (n.toInt64) _ n0 Z0 (own_nz64 hn)) (W := 0) (by decide) (by decide) (g := (mkF m 73 #[.val (.int u), .val (.int y), .val (.int z), .val (.int G), .val (.int n), .val (.int g), .val (.int r), .val (.long (g.toInt64)), .second, .val (.long (G.toInt64)), .second, .val (.long (n.toInt64)), .second] [(.long (n.toInt64)), (.long (G.toInt64)), (.long (r.toInt64))])) rfl (by rw [hml]; rfl) (lenOf pd_3 rfl) rfl (by show 2 * 0 + _ ≤ _; exact Nat.le_of_eq rfl) (hb hby at_73) (by decide) (by decide)
  have N2 := Fr.app N1 Nq2
  have e2 : T2.heap = h0 := eq2
  refine Go.st st2 ?_
  show Go p e below P (T2.setTop (mkF m 76 #[.val (.int u), .val (.int y), .val (.int z), .val (.int G), .val (.int n), .val (.int g), .val (.int r), .val (.long (g.toInt64)), .second, .val (.long (G.toInt64)), .second, .val (.long (n.toInt64)), .second] [(.long (((r.toInt64) * (G.toInt64)) / (n.toInt64)))]))
  refine Go.st (fun _ kt => XS.lload X2.here hx rfl (hb hby at_76) rfl (XS.lcmp X2.here hx rfl (hb hby at_78) rfl (XS.ifYes X2.here hx rfl (pc0 := 79) (pc' := 84) rfl (hb hby at_79) rfl ((if0 _ _).trans (flt (fun q => by rw [own_gt, Kit.i64_of_i32, own_st (by rw [Kit.i64_of_i32]; exact hr0) (by rw [Kit.i64_of_i32]; have := r.toInt_lt; omega) (by omega) hn, Kit.i64_of_i32] at q; have := own_le hG hn hr; omega)).2.2.2) (by decide) (by decide) (XS.iload X2.here hx rfl (hb hby at_84) rfl (XS.iconst X2.here hx rfl (hb hby at_86) (XS.iadd X2.here hx rfl (hb hby at_87) rfl (XS.iload X2.here hx rfl (hb hby at_88) rfl kt))))))) ?_
  show Go p e below P (T2.setTop (mkF m 90 #[.val (.int u), .val (.int y), .val (.int z), .val (.int G), .val (.int n), .val (.int g), .val (.int r), .val (.long (g.toInt64)), .second, .val (.long (G.toInt64)), .second, .val (.long (n.toInt64)), .second] [(.int n), (.int (r + (1 : Int32)))]))
  by_cases br3 : (r + (1 : Int32)) < n
  · refine Go.st (fun _ kt => XS.icmpNo X2.here hx rfl (hb hby at_90) rfl (tlt br3).2.1 kt) ?_
    show Go p e below P (T2.setTop (mkF m 93 #[.val (.int u), .val (.int y), .val (.int z), .val (.int G), .val (.int n), .val (.int g), .val (.int r), .val (.long (g.toInt64)), .second, .val (.long (G.toInt64)), .second, .val (.long (n.toInt64)), .second] []))
    refine Go.st (fun _ kt => XS.iload X2.here hx rfl (hb hby at_93) rfl (XS.i2l X2.here hx rfl (hb hby at_95) rfl (XS.lconst X2.here hx rfl (hb hby at_96) (XS.ladd X2.here hx rfl (hb hby at_97) rfl (XS.lload X2.here hx rfl (hb hby at_98) rfl (XS.lload X2.here hx rfl (hb hby at_100) rfl kt)))))) ?_
    show Go p e below P (T2.setTop (mkF m 102 #[.val (.int u), .val (.int y), .val (.int z), .val (.int G), .val (.int n), .val (.int g), .val (.int r), .val (.long (g.toInt64)), .second, .val (.long (G.toInt64)), .second, .val (.long (n.toInt64)), .second] [(.long (n.toInt64)), (.long (G.toInt64)), (.long ((r.toInt64) + (1 : Int64)))]))
    obtain ⟨_, T4, Lc4, X4, ⟨rfl, Nq4, eq4⟩, st4⟩ := callCt X2 hx hZ e2 (y := (⟨"io/sluicegate/runtime/KeyGroupsOwnerPinLaw", "start", "(JJJ)J"⟩ : MethodName)) (argsL := [(.long ((r.toInt64) + (1 : Int64))), (.long (G.toInt64)), (.long (n.toInt64))]) (rest := []) hown (hw _ (List.mem_of_getElem? (i := 5) rfl)) (hw _ (List.mem_of_getElem? (i := 6) rfl)) (hw _ (List.mem_of_getElem? (i := 7) rfl)) (hw _ (List.mem_of_getElem? (i := 8) rfl)) (by decide) (rmS l Z a0 hw ((r.toInt64) + (1 : Int64)) (G.toInt64) (n.toInt64) _ n0 Z0 (own_nz64 hn)) (W := 0) (by decide) (by decide) (g := (mkF m 102 #[.val (.int u), .val (.int y), .val (.int z), .val (.int G), .val (.int n), .val (.int g), .val (.int r), .val (.long (g.toInt64)), .second, .val (.long (G.toInt64)), .second, .val (.long (n.toInt64)), .second] [(.long (n.toInt64)), (.long (G.toInt64)), (.long ((r.toInt64) + (1 : Int64)))])) rfl (by rw [hml]; rfl) (lenOf pd_3 rfl) rfl (by show 2 * 0 + _ ≤ _; exact Nat.le_of_eq rfl) (hb hby at_102) (by decide) (by decide)
    have N4 := Fr.app N2 Nq4
    have e4 : T4.heap = h0 := eq4
    refine Go.st st4 ?_
    show Go p e below P (T4.setTop (mkF m 105 #[.val (.int u), .val (.int y), .val (.int z), .val (.int G), .val (.int n), .val (.int g), .val (.int r), .val (.long (g.toInt64)), .second, .val (.long (G.toInt64)), .second, .val (.long (n.toInt64)), .second] [(.long ((((r.toInt64) + (1 : Int64)) * (G.toInt64)) / (n.toInt64)))]))
    refine Go.st (fun _ kt => XS.lload X4.here hx rfl (hb hby at_105) rfl (XS.lcmp X4.here hx rfl (hb hby at_107) rfl (XS.ifYes X4.here hx rfl (pc0 := 108) (pc' := 113) rfl (hb hby at_108) rfl ((if0 _ _).trans (tlt ((own_gt _ _).mpr (by rw [Kit.i64_of_i32, own_st (by rw [own_r1 hr0]; omega) (by rw [own_r1 hr0]; have := r.toInt_lt; omega) (by omega) hn, own_r1 hr0]; exact own_ge hG hn hr))).2.2.1) (by decide) (by decide) (XS.iconst X4.here hx rfl (hb hby at_113) kt)))) ?_
    show Go p e below P (T4.setTop (mkF m 114 #[.val (.int u), .val (.int y), .val (.int z), .val (.int G), .val (.int n), .val (.int g), .val (.int r), .val (.long (g.toInt64)), .second, .val (.long (G.toInt64)), .second, .val (.long (n.toInt64)), .second] [(.int (1 : Int32))]))
    exact goN X4 hx (t := .boolean) hret (by simp) hlk (hb hby at_114) hP (by decide) (by decide) ⟨rfl, N4⟩
  · refine Go.st (fun _ kt => XS.icmpYes X2.here hx rfl (pc0 := 90) (pc' := 113) rfl (hb hby at_90) rfl (flt br3).2.1 (by decide) (by decide) kt) ?_
    show Go p e below P (T2.setTop (mkF m 113 #[.val (.int u), .val (.int y), .val (.int z), .val (.int G), .val (.int n), .val (.int g), .val (.int r), .val (.long (g.toInt64)), .second, .val (.long (G.toInt64)), .second, .val (.long (n.toInt64)), .second] []))
    refine Go.st (fun _ kt => XS.iconst X2.here hx rfl (hb hby at_113) kt) ?_
    show Go p e below P (T2.setTop (mkF m 114 #[.val (.int u), .val (.int y), .val (.int z), .val (.int G), .val (.int n), .val (.int g), .val (.int r), .val (.long (g.toInt64)), .second, .val (.long (G.toInt64)), .second, .val (.long (n.toInt64)), .second] [(.int (1 : Int32))]))
    exact goN X2 hx (t := .boolean) hret (by simp) hlk (hb hby at_114) hP (by decide) (by decide) ⟨rfl, N2⟩
set_option maxRecDepth 65536 in
set_option maxHeartbeats 40000000 in
theorem comes_1 {Post : Tables → Env → Array Value → State → Outcome → State → Prop} (hpost : ∀ tb e args s v u, (limb_1_1.after args s (.returned v) u = true ∧ limb_1_2.after args s (.returned v) u = true ∧ True) → FrameEnd s (.returned v) u (Jvm.fieldLocs frame_1_writes args s ++ Jvm.arrayLocs frame_1_arrays args s ++ Jvm.staticLocs frame_1_statics s) 0 0 → Post tb e args s (.returned v) u) :
    ArmFor flags0 classFile x code maxLocals ret World_1 tables_1 room_1 Calls_1 rest_1 Pre_1 Post := by
  intro l hfl _ _ p e ha hc hk s m args below hf hA hF happ hP
  obtain ⟨hcalls, hrest, hpre⟩ := hP
  obtain ⟨-, -, -, hnamed, -, -, -, hat⟩ := (Spec.applies_iff hf).mp happ
  obtain ⟨hg, hn⟩ := and_e (Cond.before_iff.mp (show (Jvm.Cond.and given_1 narrow_1).before args s = true from hpre))
  obtain ⟨g1, g2⟩ := and_e hg
  obtain ⟨g3, g4⟩ := and_e g2
  obtain ⟨g5, g6⟩ := and_e g4
  obtain ⟨w0, w1, w2, rfl⟩ : ∃ w0 w1 w2 : Value, args = #[w0, w1, w2] := by
    have hs : args.size = 3 := by simpa [Cond.value, given_1] using g1
    obtain ⟨L⟩ := args
    match L, hs with
    | [w0, w1, w2], _ => exact ⟨w0, w1, w2, rfl⟩
  have hw := fun d (hd : d ∈ tables_1) => atoms_spec (ws := Jvm.Cond.code x code maxLocals ret :: tables_1) hat d (List.mem_cons_of_mem _ hd)
  obtain ⟨i0, ei0⟩ := is_v g3
  obtain rfl : w0 = (.int i0) := Option.some.inj ei0
  obtain ⟨i1, ei1⟩ := is_v g5
  obtain rfl : w1 = (.int i1) := Option.some.inj ei1
  obtain ⟨i2, ei2⟩ := is_v g6
  obtain rfl : w2 = (.int i2) := Option.some.inj ei2
  obtain ⟨n, o, h1, h2, h3, _, L, rfl, ⟨rfl, N⟩, hq⟩ := rm0 l s _ hw tables_1 i0 i1 i2 s.heap s.heap.size (Nat.le_refl _) p e ha hc hk s m _ below hf ((Spec.applies_iff_loose hf).mp happ).1 ⟨rfl, State.Warmed39.refl s, rfl⟩ trivial
  refine ⟨n, _, h1, h2, h3, hpost _ _ _ _ _ _ ⟨Cond.after_iff.mpr rfl, Cond.after_iff.mpr (eq_i res_at (Term.int_eval (1)) rfl), trivial⟩ ⟨hq.1, hq.2.1, (hq.2.2.sift fun y hy => Or.inr (N y hy)).mono (by decide) (by decide)⟩⟩
theorem main_1_1 : Claimed_1_1 := comes_1 fun _ _ _ _ _ _ h hF => ⟨h.1, hF⟩
theorem main_1_2 : Claimed_1_2 := comes_1 fun _ _ _ _ _ _ h hF => ⟨h.2.1, hF⟩
end Jvm.Pilot.@@N@@
namespace Jvm.Pilot.@@N@@
open Jvm Jvm.ClassFile Sem Op Lib Jvm.Free Jvm.Stand Jvm.Pilot.@@N@@.Jvm.D
/-! MADE BY PROGRAM (witnessworld.py) out of the Statement's table words and the real class files: 9 classes; the members and pool entries that the words name. The judged class is class 1, her method 2. -/
namespace start1
open Jvm.ClassFile
def u (s : String) : CpInfo := .utf8 (stringToUtf16 s)
/-- a pool by its gaps: so many unusable entries, then the entry; so many at the end -/
def gap : Nat → List CpInfo → List CpInfo
  | 0, r => r
  | n + 1, r => .unusable :: gap n r
def poolList (es : List (Nat × CpInfo)) (last : Nat) : List CpInfo := es.foldr (fun e r => gap e.1 (e.2 :: r)) (gap last [])
def pool (es : List (Nat × CpInfo)) (last : Nat) : Array CpInfo := ⟨poolList es last⟩
def fileOf (pool : Array CpInfo) (this : Nat) (attrs : Array Attribute := #[]) (ms : Array MethodInfo := #[]) (fl : Nat := 33) (sup : Nat := 0) (ifs : Array Nat := #[]) (fds : Array FieldInfo := #[]) : ClassFile where
  minorVersion := 0
  majorVersion := 65
  constantPool := pool
  accessFlags := fl
  thisClass := this
  superClass := sup
  interfaces := ifs
  fields := fds
  methods := ms
  attributes := attrs
def plain (name : String) (sup : Option ClassId) : Class where
  name := name
  kind := .ordinary
  loader := none
  accessFlags := 33
  super := sup
  interfaces := #[]
  cf := none
  fields := #[]
  methods := #[]
  instanceTypes := #[]
  staticTypes := #[]
  resolved := #[]
  callSites := []
  init := .initialized
  statics := none
  mirror := none

def pool0 : Array CpInfo := pool [(5, u "<init>"), (0, u "()V"), (1, .class_ 10), (1, u "java/lang/Object")] 113

def k0m0 : Method := { name := "<init>", desc := "()V", sig := { parameters := [], returnType := none }, accessFlags := 1, code := none }
/-- java/lang/Object -/
def k0 : Class := { plain "java/lang/Object" none with
  accessFlags := 33
  interfaces := #[]
  cf := some (fileOf pool0 8 #[] #[{ accessFlags := 1, nameIndex := 5, descriptorIndex := 6, attributes := #[] }] 33 0 #[] #[])
  fields := #[]
  methods := #[k0m0]
  instanceTypes := #[]
  staticTypes := #[]
  resolved := Array.replicate 124 none
  statics := none }

def pool1 : Array CpInfo := pool [(2, .class_ 4), (1, u "java/lang/Object"), (0, u "<init>"), (0, u "()V"), (0, .integer 2147483647), (0, .methodref 9 10), (0, .class_ 11), (0, .nameAndType 12 13), (0, u "io/sluicegate/runtime/KeyGroups"), (0, u "owner"), (0, u "(III)I"), (0, .methodref 15 16), (0, .class_ 17), (0, .nameAndType 18 19), (0, u "io/sluicegate/runtime/KeyGroupsOwnerPinLaw"), (0, u "start"), (0, u "(JJJ)J"), (2, u "law"), (0, u "(III)Z")] 3

def k1m0 : Method := { name := "<init>", desc := "()V", sig := { parameters := [], returnType := none }, accessFlags := 2, code := none }
def k1c1 : Code := { maxStack := 4, maxLocals := 6, code := method_2_code, exceptionTable := #[], attributes := #[] }
def k1m1 : Method := { name := "start", desc := "(JJJ)J", sig := { parameters := [.long, .long, .long], returnType := some .long }, accessFlags := 10, code := some k1c1 }
def k1c2 : Code := { maxStack := 6, maxLocals := 13, code := code, exceptionTable := #[], attributes := #[] }
def k1m2 : Method := { name := "law", desc := "(III)Z", sig := { parameters := [.int, .int, .int], returnType := some .boolean }, accessFlags := 9, code := some k1c2 }
/-- io/sluicegate/runtime/KeyGroupsOwnerPinLaw -/
def k1 : Class := { plain "io/sluicegate/runtime/KeyGroupsOwnerPinLaw" (some 0) with
  accessFlags := 49
  interfaces := #[]
  cf := some (fileOf pool1 15 #[] #[{ accessFlags := 2, nameIndex := 5, descriptorIndex := 6, attributes := #[] }, { accessFlags := 10, nameIndex := 18, descriptorIndex := 19, attributes := #[] }, { accessFlags := 9, nameIndex := 22, descriptorIndex := 23, attributes := #[] }] 49 2 #[] #[])
  fields := #[]
  methods := #[k1m0, k1m1, k1m2]
  instanceTypes := #[]
  staticTypes := #[]
  resolved := Array.replicate 27 none
  statics := none }

def pool2 : Array CpInfo := pool [(2, .class_ 4), (1, u "java/lang/Object"), (12, .class_ 19), (1, u "io/sluicegate/runtime/KeyGroups"), (0, u "count"), (0, u "I"), (20, u "owner"), (0, u "(III)I")] 22

def k2c0 : Code := { maxStack := 4, maxLocals := 3, code := prog_71_method_5_code, exceptionTable := #[], attributes := #[] }
def k2m0 : Method := { name := "owner", desc := "(III)I", sig := { parameters := [.int, .int, .int], returnType := some .int }, accessFlags := 8, code := some k2c0 }
/-- io/sluicegate/runtime/KeyGroups -/
def k2 : Class := { plain "io/sluicegate/runtime/KeyGroups" (some 0) with
  accessFlags := 48
  interfaces := #[]
  cf := some (fileOf pool2 17 #[] #[{ accessFlags := 8, nameIndex := 42, descriptorIndex := 43, attributes := #[] }] 48 2 #[] #[{ accessFlags := 18, nameIndex := 20, descriptorIndex := 21, attributes := #[] }])
  fields := #[{ name := "count", type := .int, accessFlags := 18, slot := 0, constantValue := 0 }]
  methods := #[k2m0]
  instanceTypes := #[.int]
  staticTypes := #[]
  resolved := Array.replicate 66 none
  statics := none }

def pool3 : Array CpInfo := pool [(1, u "java/lang/Cloneable"), (0, .class_ 1), (0, u "java/lang/Object"), (0, .class_ 3)] 3

/-- java/lang/Cloneable -/
def k3 : Class := { plain "java/lang/Cloneable" (some 0) with
  accessFlags := 1537
  interfaces := #[]
  cf := some (fileOf pool3 2 #[] #[] 1537 4 #[] #[])
  fields := #[]
  methods := #[]
  instanceTypes := #[]
  staticTypes := #[]
  resolved := Array.replicate 8 none
  statics := none }

def pool4 : Array CpInfo := pool [(1, u "java/io/Serializable"), (0, .class_ 1), (0, u "java/lang/Object"), (0, .class_ 3)] 3

/-- java/io/Serializable -/
def k4 : Class := { plain "java/io/Serializable" (some 0) with
  accessFlags := 1537
  interfaces := #[]
  cf := some (fileOf pool4 2 #[] #[] 1537 4 #[] #[])
  fields := #[]
  methods := #[]
  instanceTypes := #[]
  staticTypes := #[]
  resolved := Array.replicate 8 none
  statics := none }

/-- the primitive byte -/
def k5 : Class := { plain "byte" none with kind := .primitive 'B', accessFlags := 0x411 }
/-- [B -/
def k6 : Class := { plain "[B" (some 0) with kind := .array 5 .byte, interfaces := #[3, 4], accessFlags := 1041 }

/-- the primitive int -/
def k7 : Class := { plain "int" none with kind := .primitive 'I', accessFlags := 0x411 }
/-- [I -/
def k8 : Class := { plain "[I" (some 0) with kind := .array 7 .int, interfaces := #[3, 4], accessFlags := 1041 }

def heap : Heap := #[]
def classes : Array Class := #[k0, k1, k2, k3, k4, k5, k6, k7, k8]
def interned : List (Array UInt16 × Addr) := []
def slotsUsed : Nat := 0
def theMethod : MethodId := ⟨1, 2⟩
def args0 : Array Value := #[.int 5, .int 7, .int 9]
def aboutOver (below : List Frame) : State where
  vm := { classes := classes, interned := interned.toArray }
  heap := heap
  slotsUsed := slotsUsed
  threads := #[{ frames := .invoking theMethod args0 :: below }]
def below0 : List Frame := [.native { method := ⟨0, 0⟩, args := #[] }]
def about1 : State := aboutOver below0
def p0 : Program := .bare "" "" ""
def e0 : Env := launch0.env 0 0 0
theorem w_frames : about1.frames = Frame.invoking theMethod args0 :: below0 := rfl
set_option maxRecDepth 65536 in
theorem w_args : argsFit about1.vm theMethod args0 = true := by decide +kernel
set_option maxRecDepth 65536 in
theorem w_heap : heapFits about1 = true := by decide +kernel
set_option maxRecDepth 65536 in
theorem w_runnable : about1.curStatus? = some .runnable := by decide +kernel
set_option maxRecDepth 65536 in
theorem w_alone : about1.alone = true := by decide +kernel
set_option maxRecDepth 65536 in
theorem w_named : about1.methodNamed? x = some theMethod := by decide +kernel
set_option maxRecDepth 65536 in
theorem w_hears : about1.hears theMethod below0 = true := by decide +kernel
set_option maxRecDepth 65536 in
theorem w_ripe : about1.ripe theMethod args0 below0 = true := by decide +kernel
theorem w_running : about1.status = .running := rfl
set_option maxRecDepth 65536 in
theorem w_room : about1.hasRoom e0.platform room_1 = true :=
  launch0.hasRoom_least _ room_1 (by decide +kernel) (by decide +kernel) (by decide +kernel) (by decide +kernel) (by decide +kernel) (by decide +kernel)
theorem allAtoms_all (ts : List Jvm.Cond) (a : Array Jvm.Value) (st : Jvm.State) : (allAtoms ts).before a st = ts.all (fun c => c.before a st) := by
  induction ts with
  | nil => rfl
  | cons c t ih =>
    show (Jvm.Cond.and c (allAtoms t)).before a st = _
    rw [Jvm.Cond.before_and, ih, List.all_cons]
def words1 : List Jvm.Cond := Jvm.Cond.code x code maxLocals ret :: tables_1
/-- a 'code' word, met by the world's own term for the bytes: nothing is compared byte by byte -/
theorem code_word {y : MethodName} {bytes : ByteArray} {mx : Nat} {rt : Option FieldType} {a : Array Value} {s : State} {m : MethodId} {meth : Method} {c : Code} (h1 : s.methodNamed? y = some m) (h2 : s.vm.method? m = some meth) (h3 : meth.code = some c) (h4 : c.code = bytes)
    (h5 : (c.maxLocals == mx && c.exceptionTable.isEmpty && decide (c.maxStack ≤ mostOperands) && decide (meth.sig.returnType = rt) && !meth.locks && decide (parseMethodDescriptor y.desc = some meth.sig)) = true) : (Jvm.Cond.code y bytes mx rt).before a s = true := by
  simp only [Bool.and_eq_true, beq_iff_eq, Bool.not_eq_true', decide_eq_true_eq] at h5
  obtain ⟨⟨⟨⟨⟨g1, g2⟩, g3⟩, g4⟩, g5⟩, g6⟩ := h5
  simp [Cond.before, Cond.holds, Cond.value, h1, h2, h3, h4, g1, g2, g3, g4, g5, g6]
def isCode : Jvm.Cond → Bool
  | .code _ _ _ _ => true
  | _ => false
theorem all_split {L : List Jvm.Cond} {P : Jvm.Cond → Bool} (h1 : L.all (fun c => isCode c || P c) = true) (h2 : ∀ c ∈ L.filter isCode, P c = true) : L.all P = true := by
  refine List.all_eq_true.mpr fun c hc => ?_
  have h := List.all_eq_true.mp h1 c hc
  rcases Bool.eq_false_or_eq_true (isCode c) with hi | hi
  · exact h2 c (List.mem_filter.mpr ⟨hc, hi⟩)
  · simpa [hi] using h
set_option maxRecDepth 65536 in
theorem w_c0 : (Jvm.Cond.code x code maxLocals ret).before args0 about1 = true := code_word (m := ⟨1, 2⟩) (meth := k1m2) (c := k1c2) (by decide +kernel) rfl rfl rfl (by decide +kernel)
set_option maxRecDepth 65536 in
theorem w_c1 : (Jvm.Cond.code ({ cls := "io/sluicegate/runtime/KeyGroups", name := "owner", desc := "(III)I" } : Jvm.MethodName) prog_71_method_5_code (3 : Nat) (Option.some Jvm.ClassFile.FieldType.int)).before args0 about1 = true := code_word (m := ⟨2, 0⟩) (meth := k2m0) (c := k2c0) (by decide +kernel) rfl rfl rfl (by decide +kernel)
set_option maxRecDepth 65536 in
theorem w_c2 : (Jvm.Cond.code ({ cls := "io/sluicegate/runtime/KeyGroupsOwnerPinLaw", name := "start", desc := "(JJJ)J" } : Jvm.MethodName) method_2_code (6 : Nat) (Option.some Jvm.ClassFile.FieldType.long)).before args0 about1 = true := code_word (m := ⟨1, 1⟩) (meth := k1m1) (c := k1c1) (by decide +kernel) rfl rfl rfl (by decide +kernel)
def codes1 : List Jvm.Cond := [Jvm.Cond.code x code maxLocals ret, Jvm.Cond.code ({ cls := "io/sluicegate/runtime/KeyGroups", name := "owner", desc := "(III)I" } : Jvm.MethodName) prog_71_method_5_code (3 : Nat) (Option.some Jvm.ClassFile.FieldType.int), Jvm.Cond.code ({ cls := "io/sluicegate/runtime/KeyGroupsOwnerPinLaw", name := "start", desc := "(JJJ)J" } : Jvm.MethodName) method_2_code (6 : Nat) (Option.some Jvm.ClassFile.FieldType.long)]
set_option maxRecDepth 65536 in
theorem codes_eq : words1.filter isCode = codes1 := rfl
theorem w_codes : ∀ c ∈ words1.filter isCode, c.before args0 about1 = true := by
  rw [codes_eq]
  intro c hc
  simp only [codes1, List.mem_cons, List.not_mem_nil, or_false] at hc
  rcases hc with rfl | rfl | rfl
  · exact w_c0
  · exact w_c1
  · exact w_c2
set_option maxRecDepth 65536 in
theorem w_t1 : words1.all (fun c => isCode c || c.before args0 about1) = true := by decide +kernel
theorem w_tables : (allAtoms (Jvm.Cond.code x code maxLocals ret :: tables_1)).before args0 about1 = true := by
  rw [allAtoms_all]
  show words1.all (fun c => c.before args0 about1) = true
  refine all_split ?_ w_codes
  rw [w_t1]
set_option maxRecDepth 65536 in
theorem w_case : (Jvm.Cond.and given_1 narrow_1).before args0 about1 = true := by decide +kernel
theorem w_applies : (headSpec (Jvm.Cond.code x code maxLocals ret :: tables_1) room_1).applies x e0.platform about1 = true :=
  (Spec.applies_iff w_frames).mpr ⟨w_running, w_runnable, w_alone, w_named, w_hears, w_ripe, w_room, w_tables⟩
theorem atStart : AtStart classFile x code maxLocals ret World_1 tables_1 room_1 Calls_1 rest_1 Pre_1 launch0 p0 e0 about1 theMethod args0 below0 :=
  ⟨lists_1, trivial, launch0.admits_env _ _ _, launch0.least_env, fairChoices_fair.cas, fairChoices_fair.clock, w_frames, w_args, w_heap, w_applies, trivial, trivial, w_case⟩
end start1
theorem witness_1 : WitnessClaimed_1 := ⟨start1.p0, start1.e0, start1.about1, start1.theMethod, start1.args0, start1.below0, start1.atStart⟩
end Jvm.Pilot.@@N@@
