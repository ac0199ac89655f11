import JvmDerived
import JvmDerived.Pilot.@@N@@Statement
import JvmDerived.Pilot.@@N@@Code
set_option linter.unusedVariables false
set_option linter.unusedSimpArgs false
@@BLOCK:NumsL.lean.txt@@
@@BLOCK:Masks.lean.txt@@
namespace Jvm.RoadKit
open Sem ClassFile Op Lib Jvm.Stand Jvm.Free Jvm.LawKit
section OwnGo
variable {p : Program} {l : Launch} {e : Env} {R : Room} {s : State} {m : MethodId} {args : Array Value} {below : List Frame} {meth : Method} {c : Code} {T : State} {locs : List Loc} {cells slots : Nat} {Z : State} {a0 : Array Value} {h : Heap}
/-- from A the run comes to an end of which P holds -/
def Go (p : Program) (e : Env) (below : List Frame) (P : State → Outcome → Prop) (A : State) : Prop := ∃ t o, Steps p.tables e below A t ∧ t.status = .running ∧ Ended t below o ∧ P t o
theorem Go.st {P : State → Outcome → Prop} {A B : State} (st : ∀ t, Steps p.tables e below A t → Steps p.tables e below B t) (k : Go p e below P A) : Go p e below P B := by
  obtain ⟨t, o, h1, h2⟩ := k
  exact ⟨t, o, st t h1, h2⟩
theorem Go.tr {P : State → Outcome → Prop} {A B : State} (st : Steps p.tables e below B A) (k : Go p e below P A) : Go p e below P B := Go.st (fun _ h => st.trans h) k
def Pst (s : State) (Q : Option Value → Heap → List Loc → Prop) (C S : Nat) : State → Outcome → Prop := fun t o => ∃ v L, o = .returned v ∧ Q v t.heap L ∧ FrameEnd s o t L C S
/-- a method's contract at the heap h0, for the arguments as -/
def Ct (l : Launch) (y : MethodName) (bytes : ByteArray) (maxL : Nat) (ret : Option FieldType) (ws : List Cond) (rm : Room) (Z : State) (as : Array Value) (h0 : Heap) (Q : Option Value → Heap → List Loc → Prop) : Prop :=
  MetFree l y (head1 (Cond.code y bytes maxL ret :: ws) rm) (fun a U => a = as ∧ Z.Warmed39 U.vm ∧ U.heap = h0) (fun _ _ _ _ _ => True) (fun _ U o U' => ∃ v L, o = .returned v ∧ Q v U'.heap L ∧ FrameEnd U o U' L rm.cells rm.slots)
theorem Ct.of {y : MethodName} {bytes : ByteArray} {maxL : Nat} {ret : Option FieldType} {ws : List Cond} {rm : Room} {as : Array Value} {h0 : Heap} {Q : Option Value → Heap → List Loc → Prop} {Ls : Array Slot}
    (hpl : plainFor y = true) (hef : ∀ m, entryFrame m as maxL = mkF m 0 Ls [])
    (body : ∀ (p : Program) (e : Env) (s : State) (m : MethodId) (below : List Frame) (meth : Method) (c : Code) (T : State), Stand p l e rm s m as below meth c T [] 0 0 → p.tables.exec = Jvm.exec → c.code = bytes → c.maxLocals = maxL → meth.sig.returnType = ret → meth.locks = false → s.vm.findClass y.cls = some m.cls → meth.name = y.name → Z.Warmed39 s.vm → T.heap = h0 →
      ∀ P : State → Outcome → Prop, P = Pst s Q rm.cells rm.slots → Go p e below P (T.setTop (mkF m 0 Ls []))) : Ct l y bytes maxL ret ws rm Z as h0 Q := by
  refine MetFree.of_bodySF hpl hisR ?_
  intro p e s m args below meth c s₁ Bd hml0 hP hK
  obtain ⟨rfl, hZ, hh⟩ := hP
  have X0 : Stand p l e rm s m args below meth c s₁ [] 0 0 := Stand.of_body Bd
  obtain ⟨t, o, h1, h2⟩ := body p e s m below meth c s₁ X0 Bd.exec Bd.bytes hml0 Bd.returns Bd.notSynchronized (findClass_of_methodNamed Bd.named) (name_of_methodNamed Bd.named Bd.method).1 hZ (by rw [← hh, Bd.state]; rfl) _ rfl
  exact ⟨t, o, castTop (hef m) h1, h2⟩
theorem goRet {t : FieldType} {i : Instr} {v w : Value} {pc : Nat} {Ls : Array Slot} {rest : List Value} {Q : Option Value → Heap → List Loc → Prop} {C S : Nat}
    (X : Stand p l e R s m args below meth c T locs cells slots) (hret : meth.sig.returnType = some t) (hlk : meth.locks = false)
    (st : ∀ {fs : List Frame}, (∀ (f : JFrame) (acts : List Action), f.method = m → f.locked = none → f.entered = [] → (doReturn e (T.setTop f) acts (some w)).1 = T.setFrames fs) → Steps p.tables e below (T.setTop (mkF m pc Ls (v :: rest))) (T.setFrames fs))
    (hc : cells ≤ C) (hs : slots ≤ S) (hQ : Q (some w) T.heap locs) : Go p e below (Pst s Q C S) (T.setTop (mkF m pc Ls (v :: rest))) := by
  obtain ⟨fs, hr, hrun, hended, hW, hsame⟩ := X.leave (v := some w) (fun h => by rw [hret] at h; cases h) hlk
  exact ⟨_, _, st hr, hrun, hended, _, _, rfl, hQ, ⟨_, rfl⟩, hW, hsame.mono hc hs⟩
theorem retI (X : Stand p l e R s m args below meth c T locs cells slots) (hx : p.tables.exec = Jvm.exec) {pc : Nat} {Ls : Array Slot} {z : Int32} {rest : List Value} (hret : meth.sig.returnType = some .int) (hd : decode c.code pc = .ok (.ireturn, 1)) {fs : List Frame}
    (hl : ∀ (f : JFrame) (acts : List Action), f.method = m → f.locked = none → f.entered = [] → (doReturn e (T.setTop f) acts (some (.int z))).1 = T.setFrames fs) : Steps p.tables e below (T.setTop (mkF m pc Ls (.int z :: rest))) (T.setFrames fs) :=
  retOut X hx hret rfl (Or.inl ⟨rfl, Or.inl rfl, z, rfl⟩) hd hl
theorem goI {pc : Nat} {Ls : Array Slot} {z : Int32} {rest : List Value} {Q : Option Value → Heap → List Loc → Prop} {C S : Nat} {P : State → Outcome → Prop}
    (X : Stand p l e R s m args below meth c T locs cells slots) (hx : p.tables.exec = Jvm.exec) (hret : meth.sig.returnType = some .int) (hlk : meth.locks = false) (hd : decode c.code pc = .ok (.ireturn, 1))
    (hP : P = Pst s Q C S) (hc : cells ≤ C) (hs : slots ≤ S) (hQ : Q (some (.int z)) T.heap locs) : Go p e below P (T.setTop (mkF m pc Ls (.int z :: rest))) := by
  subst hP
  exact goRet (i := .ireturn) X hret hlk (fun hr => retI X hx hret hd hr) hc hs hQ
theorem goN {pc : Nat} {Ls : Array Slot} {z : Int32} {t : FieldType} {rest : List Value} {Q : Option Value → Heap → List Loc → Prop} {C S : Nat} {P : State → Outcome → Prop}
    (X : Stand p l e R s m args below meth c T locs cells slots) (hx : p.tables.exec = Jvm.exec) (hret : meth.sig.returnType = some t) (ht : t = .boolean ∨ t = .byte ∨ t = .char ∨ t = .short) (hlk : meth.locks = false) (hd : decode c.code pc = .ok (.ireturn, 1))
    (hP : P = Pst s Q C S) (hc : cells ≤ C) (hs : slots ≤ S) (hQ : Q (some (.int (nar t z))) T.heap locs) : Go p e below P (T.setTop (mkF m pc Ls (.int z :: rest))) := by
  subst hP
  exact goRet (i := .ireturn) X hret hlk (fun hr => retN X hx hret ht hd hr) hc hs hQ
theorem goJ {pc : Nat} {Ls : Array Slot} {z : Int64} {rest : List Value} {Q : Option Value → Heap → List Loc → Prop} {C S : Nat} {P : State → Outcome → Prop}
    (X : Stand p l e R s m args below meth c T locs cells slots) (hx : p.tables.exec = Jvm.exec) (hret : meth.sig.returnType = some .long) (hlk : meth.locks = false) (hd : decode c.code pc = .ok (.lreturn, 1))
    (hP : P = Pst s Q C S) (hc : cells ≤ C) (hs : slots ≤ S) (hQ : Q (some (.long z)) T.heap locs) : Go p e below P (T.setTop (mkF m pc Ls (.long z :: rest))) := by
  subst hP
  exact goRet (i := .lreturn) X hret hlk (fun hr => retOut X hx hret rfl (Or.inr (Or.inl ⟨rfl, rfl, z, rfl⟩)) hd hr) hc hs hQ
theorem goA {pc : Nat} {Ls : Array Slot} {z : Addr} {t : FieldType} {rest : List Value} {Q : Option Value → Heap → List Loc → Prop} {C S : Nat} {P : State → Outcome → Prop}
    (X : Stand p l e R s m args below meth c T locs cells slots) (hx : p.tables.exec = Jvm.exec) (hret : meth.sig.returnType = some t) (ht : t.isReference = true) (hn : narrow t (.ref z) = .ref z) (hlk : meth.locks = false) (hd : decode c.code pc = .ok (.areturn, 1))
    (hP : P = Pst s Q C S) (hc : cells ≤ C) (hs : slots ≤ S) (hQ : Q (some (.ref z)) T.heap locs) : Go p e below P (T.setTop (mkF m pc Ls (.ref z :: rest))) := by
  subst hP
  exact goRet (i := .areturn) X hret hlk (fun hr => retOut X hx hret hn (Or.inr (Or.inr (Or.inr (Or.inr ⟨rfl, ht, rfl⟩)))) hd hr) hc hs hQ
theorem goV {pc : Nat} {Ls : Array Slot} {Q : Option Value → Heap → List Loc → Prop} {C S : Nat} {P : State → Outcome → Prop}
    (X : Stand p l e R s m args below meth c T locs cells slots) (hx : p.tables.exec = Jvm.exec) (hret : meth.sig.returnType = none) (hlk : meth.locks = false) (hd : decode c.code pc = .ok (.return_, 1))
    (hP : P = Pst s Q C S) (hc : cells ≤ C) (hs : slots ≤ S) (hQ : Q none T.heap locs) : Go p e below P (T.setTop (mkF m pc Ls [])) := by
  subst hP
  obtain ⟨fs, hr, hrun, hended, hW, hsame⟩ := X.leave (v := none) (fun _ => rfl) hlk
  exact ⟨_, _, X.returnOut hx hret hd hr, hrun, hended, _, _, rfl, hQ, ⟨_, rfl⟩, hW, hsame.mono hc hs⟩
/-- a static call by its contract -/
theorem callCt (X : Stand p l e R s m args below meth c T locs cells slots) (hx : p.tables.exec = Jvm.exec) (hZ : Z.Warmed39 s.vm) (eT : T.heap = h) {own : String} {index : Nat} {y : MethodName} {bytes : ByteArray} {maxL : Nat} {ret : Option FieldType} {rm : Room} {Q : Option Value → Heap → List Loc → Prop} {argsL rest : List Value}
    (hown : s.vm.findClass own = some m.cls) (w1 : (Cond.methodLink own index y).before a0 Z = true) (w2 : (Cond.static y).before a0 Z = true) (w3 : (Cond.initialized y.cls).before a0 Z = true) (w4 : (Cond.code y bytes maxL ret).before a0 Z = true)
    (hy : y.cls ≠ "java/lang/invoke/MethodHandle" ∧ y.cls ≠ "java/lang/invoke/VarHandle") (hM : Ct l y bytes maxL ret [] rm Z argsL.toArray h Q) {W : Nat} (hf : rm.frames + 1 ≤ R.frames) (hl : W + (maxL + 11) + rm.locals ≤ R.locals)
    {g : JFrame} (hg : g.method = m) (hsize : g.locals.size = c.maxLocals) (hlen : ∀ sig, parseMethodDescriptor y.desc = some sig → argsL.length = sig.parameters.length) (hstack : g.stack = argsL.reverse ++ rest) (hW : 2 * g.monitorRoom + (rest.map fun v => v.category).sum ≤ W)
    (hdg : decode c.code g.pc = .ok (.invokestatic index, 3)) (hc : cells + rm.cells ≤ R.cells) (hs : slots + rm.slots ≤ R.slots) :
    ∃ (v : Option Value) (T' : State) (L : List Loc), Stand p l e R s m args below meth c T' (locs ++ L) (cells + rm.cells) (slots + rm.slots) ∧ Q v T'.heap L ∧ ∀ target, Steps p.tables e below (T'.setTop { g with pc := g.pc + 3, stack := v.toList ++ rest }) target → Steps p.tables e below (T.setTop g) target := by
  subst eT
  obtain ⟨v, _, ⟨T', L', k', n'⟩, -, X', ⟨Lc, hQ, l18, y18, z18⟩, st⟩ := Jvm.LawKit.callS X hx (y := y) hown (mvT hZ w1) (mvT hZ w2) (mvT hZ w3) (mvT hZ w4) hy (backOf (W := W) hM hZ w4 w3 hf hl) hg hsize hlen hstack hW hdg (fun _ _ => ⟨rfl, rfl, hc, hs⟩)
  dsimp only [Pt.U, Pt.locs, Pt.cells, Pt.slots] at X' l18 y18 z18 st hQ
  subst l18 y18 z18
  exact ⟨v, T', Lc, X', hQ, st⟩
/-- a constructor by its contract -/
theorem callCtor (X : Stand p l e R s m args below meth c T locs cells slots) (hx : p.tables.exec = Jvm.exec) (hZ : Z.Warmed39 s.vm) (eT : T.heap = h) {own : String} {index : Nat} {y : MethodName} (hy1 : y.name = "<init>") {bytes : ByteArray} {maxL : Nat} {rm : Room} {Q : Option Value → Heap → List Loc → Prop} {a : Addr} {argsL rest : List Value}
    (hown : s.vm.findClass own = some m.cls) (w1 : (Cond.methodLink own index y).before a0 Z = true) (w2 : (Cond.instanceMethod y).before a0 Z = true) (w3 : (Cond.initialized y.cls).before a0 Z = true) (w4 : (Cond.code y bytes maxL none).before a0 Z = true)
    (hy : y.cls ≠ "java/lang/invoke/MethodHandle" ∧ y.cls ≠ "java/lang/invoke/VarHandle") (hM : Ct l y bytes maxL none [] rm Z (.ref a :: argsL).toArray h Q) {W : Nat} (hf : rm.frames + 1 ≤ R.frames) (hl : W + (maxL + 11) + rm.locals ≤ R.locals)
    {g : JFrame} (hg : g.method = m) (hsize : g.locals.size = c.maxLocals) (hlen : ∀ sig, parseMethodDescriptor y.desc = some sig → argsL.length = sig.parameters.length) (hstack : g.stack = argsL.reverse ++ .ref a :: rest) (hW : 2 * g.monitorRoom + (rest.map fun v => v.category).sum ≤ W)
    (hdg : decode c.code g.pc = .ok (.invokespecial index, 3)) (hc : cells + rm.cells ≤ R.cells) (hs : slots + rm.slots ≤ R.slots) :
    ∃ (v : Option Value) (T' : State) (L : List Loc), Stand p l e R s m args below meth c T' (locs ++ L) (cells + rm.cells) (slots + rm.slots) ∧ Q v T'.heap L ∧ ∀ target, Steps p.tables e below (T'.setTop { g with pc := g.pc + 3, stack := v.toList ++ rest }) target → Steps p.tables e below (T.setTop g) target := by
  subst eT
  obtain ⟨v, _, ⟨T', L', k', n'⟩, -, X', ⟨Lc, hQ, l18, y18, z18⟩, st⟩ := X.specialBack hx (y := y) hy1 hown (mvT hZ w1) (mvT hZ w2) (mvT hZ w4) hy (backOf (W := W) hM hZ w4 w3 hf hl) hg hsize (Steps.refl _) hlen hstack hW hdg (fun _ _ => ⟨rfl, rfl, hc, hs⟩)
  dsimp only [Pt.U, Pt.locs, Pt.cells, Pt.slots] at X' l18 y18 z18 st hQ
  subst l18 y18 z18
  exact ⟨v, T', Lc, X', hQ, fun _ k => st.trans k⟩
/-- an instance method that its own class selects, by its contract -/
theorem callCv (X : Stand p l e R s m args below meth c T locs cells slots) (hx : p.tables.exec = Jvm.exec) (hZ : Z.Warmed39 s.vm) (eT : T.heap = h) {own : String} {index : Nat} {y : MethodName} {bytes : ByteArray} {maxL : Nat} {ret : Option FieldType} {rm : Room} {Q : Option Value → Heap → List Loc → Prop} {a : Addr} {argsL rest : List Value}
    (hown : s.vm.findClass own = some m.cls) (w1 : (Cond.methodLink own index y).before a0 Z = true) (w5 : (Cond.declares y).before a0 Z = true) (w6 : (Cond.selects y.cls y y).before a0 Z = true) (w2 : (Cond.instanceMethod y).before a0 Z = true) (w3 : (Cond.initialized y.cls).before a0 Z = true) (w4 : (Cond.code y bytes maxL ret).before a0 Z = true)
    (hy : y.cls ≠ "java/lang/invoke/MethodHandle" ∧ y.cls ≠ "java/lang/invoke/VarHandle") (E : Exa Z h a y.cls) (hM : Ct l y bytes maxL ret [] rm Z (.ref a :: argsL).toArray h Q) {W : Nat} (hf : rm.frames + 1 ≤ R.frames) (hl : W + (maxL + 11) + rm.locals ≤ R.locals)
    {g : JFrame} (hg : g.method = m) (hsize : g.locals.size = c.maxLocals) (hlen : ∀ sig, parseMethodDescriptor y.desc = some sig → argsL.length = sig.parameters.length) (hstack : g.stack = argsL.reverse ++ .ref a :: rest) (hW : 2 * g.monitorRoom + (rest.map fun v => v.category).sum ≤ W)
    (hdg : decode c.code g.pc = .ok (.invokevirtual index, 3)) (hc : cells + rm.cells ≤ R.cells) (hs : slots + rm.slots ≤ R.slots) :
    ∃ (v : Option Value) (T' : State) (L : List Loc), Stand p l e R s m args below meth c T' (locs ++ L) (cells + rm.cells) (slots + rm.slots) ∧ Q v T'.heap L ∧ ∀ target, Steps p.tables e below (T'.setTop { g with pc := g.pc + 3, stack := v.toList ++ rest }) target → Steps p.tables e below (T.setTop g) target := by
  subst eT
  obtain ⟨cq, kq, qa, qb, qc⟩ := isOf hZ rfl E
  obtain ⟨v, _, ⟨T', L', k', n'⟩, -, X', ⟨Lc, hQ, l18, y18, z18⟩, st⟩ := X.virtualBack hx (y := y) (z := y) hown (mvT hZ w1) (mvT hZ w5) (notFace_of_selects (args := #[]) (mvT hZ w6)) (mvT hZ w6) (mvT hZ w2) hy (backOf (W := W) hM hZ w4 w3 hf hl) qa qc hg hsize (Steps.refl _) hlen hstack hW hdg (fun _ _ => ⟨rfl, rfl, hc, hs⟩)
  dsimp only [Pt.U, Pt.locs, Pt.cells, Pt.slots] at X' l18 y18 z18 st hQ
  subst l18 y18 z18
  exact ⟨v, T', Lc, X', hQ, fun _ k => st.trans k⟩
/-- a private instance method by its contract -/
theorem callCp (X : Stand p l e R s m args below meth c T locs cells slots) (hx : p.tables.exec = Jvm.exec) (hZ : Z.Warmed39 s.vm) (eT : T.heap = h) {own : String} {index : Nat} {y : MethodName} {bytes : ByteArray} {maxL k : Nat} {ret : Option FieldType} {rm : Room} {Q : Option Value → Heap → List Loc → Prop} {a : Addr} {argsL rest : List Value}
    (hown : s.vm.findClass own = some m.cls) (w1 : (Cond.methodLink own index y).before a0 Z = true) (w2 : (Cond.instanceMethod y).before a0 Z = true) (w7 : (Cond.privateMethod y).before a0 Z = true) (wi : (Cond.instantiable y.cls k).before a0 Z = true) (w3 : (Cond.initialized y.cls).before a0 Z = true) (w4 : (Cond.code y bytes maxL ret).before a0 Z = true)
    (hy : y.cls ≠ "java/lang/invoke/MethodHandle" ∧ y.cls ≠ "java/lang/invoke/VarHandle") (E : Exa Z h a y.cls) (hM : Ct l y bytes maxL ret [] rm Z (.ref a :: argsL).toArray h Q) {W : Nat} (hf : rm.frames + 1 ≤ R.frames) (hl : W + (maxL + 11) + rm.locals ≤ R.locals)
    {g : JFrame} (hg : g.method = m) (hsize : g.locals.size = c.maxLocals) (hlen : ∀ sig, parseMethodDescriptor y.desc = some sig → argsL.length = sig.parameters.length) (hstack : g.stack = argsL.reverse ++ .ref a :: rest) (hW : 2 * g.monitorRoom + (rest.map fun v => v.category).sum ≤ W)
    (hdg : decode c.code g.pc = .ok (.invokevirtual index, 3)) (hc : cells + rm.cells ≤ R.cells) (hs : slots + rm.slots ≤ R.slots) :
    ∃ (v : Option Value) (T' : State) (L : List Loc), Stand p l e R s m args below meth c T' (locs ++ L) (cells + rm.cells) (slots + rm.slots) ∧ Q v T'.heap L ∧ ∀ target, Steps p.tables e below (T'.setTop { g with pc := g.pc + 3, stack := v.toList ++ rest }) target → Steps p.tables e below (T.setTop g) target := by
  subst eT
  obtain ⟨cq, q1, q2⟩ := E.cell
  have hpriv : s.PrivateAt y := Cond.privateMethod_at (mvP hZ w7 (args := #[]))
  obtain ⟨cc, kk, i1, i2, -, i4, -⟩ := Cond.instantiable_spec (mvT (args := args) hZ wi)
  have hni : kk.isInterface = false := by simp only [Bool.or_eq_false_iff] at i4; exact i4.1
  have hsel := selects_self_of_private (args := args) i1 i2 hni hpriv (mvT hZ w2) hy
  obtain ⟨v, _, ⟨T', L', k', n'⟩, -, X', ⟨Lc, hQ, l18, y18, z18⟩, st⟩ := X.privateBack hx (y := y) hown (mvT hZ w1) (mvT hZ w2) hsel hpriv (mvT hZ w4) hy (backOf (W := W) hM hZ w4 w3 hf hl) hg hsize (Steps.refl _) q1 q2 hlen hstack hW hdg (fun _ _ => ⟨rfl, rfl, hc, hs⟩)
  dsimp only [Pt.U, Pt.locs, Pt.cells, Pt.slots] at X' l18 y18 z18 st hQ
  subst l18 y18 z18
  exact ⟨v, T', Lc, X', hQ, fun _ k => st.trans k⟩
end OwnGo
end Jvm.RoadKit
namespace Jvm.Pilot.@@N@@
open Jvm Jvm.ClassFile Sem Op Lib Jvm.Free Jvm.Stand Jvm.LawKit Jvm.RoadKit Bundle Jvm.Pilot.@@N@@.Jvm.D
open Jvm.Kit
def own_ctm (c z : Int64) : Int32 := if c * 1032 < z then 1 else 0
theorem own_c (a : Int32) : 0 ≤ (a &&& (2147483647 : Int32)).toInt64.toInt ∧ (a &&& (2147483647 : Int32)).toInt64.toInt < 2147483648 := by
  rw [i64_of_i32]
  have h := i32_and_bounds a (m := 2147483647) (by decide)
  rw [Kit.i32_nonneg, Int32.le_iff_toInt_le] at h
  have e : (2147483647 : Int32).toInt = 2147483647 := by decide
  omega
theorem own_mul {c : Int64} (h1 : 0 ≤ c.toInt) (h2 : c.toInt < 2147483648) : (c * 1032).toInt = c.toInt * 1032 ∧ ((1032 : Int64) * c).toInt = 1032 * c.toInt := by
  have e : (1032 : Int64).toInt = 1032 := by decide
  exact ⟨by rw [i64_mul (by rw [e]; omega) (by rw [e]; omega), e], by rw [i64_mul (by rw [e]; omega) (by rw [e]; omega), e]⟩
theorem own_ctm1 {c z : Int64} (h1 : 0 ≤ c.toInt) (h2 : c.toInt < 2147483648) (h : c.toInt * 1032 < z.toInt) : own_ctm c z = 1 := by
  unfold own_ctm
  rw [if_pos (Int64.lt_iff_toInt_lt.mpr (by rw [(own_mul h1 h2).1]; exact h))]
theorem own_ctm0 {c z : Int64} (h1 : 0 ≤ c.toInt) (h2 : c.toInt < 2147483648) (h : z.toInt ≤ c.toInt * 1032) : own_ctm c z = 0 := by
  unfold own_ctm
  rw [if_neg (fun q => by rw [Int64.lt_iff_toInt_lt, (own_mul h1 h2).1] at q; omega)]
theorem own_gt (x y : Int64) : (0 : Int32) < lcmpW x y ↔ y.toInt < x.toInt := by
  rw [← Int64.lt_iff_toInt_lt]; unfold lcmpW
  by_cases h : y < x
  · simp [h]
  · by_cases h2 : x = y
    · subst h2; simp
    · simp [h, h2]
theorem own_lt (x y : Int64) : lcmpW x y < (0 : Int32) ↔ x.toInt < y.toInt := by
  have e : x.toInt < y.toInt ↔ ¬ y < x ∧ x ≠ y := by
    rw [Int64.lt_iff_toInt_lt, ne_eq, ← Int64.toInt_inj]; omega
  rw [e]; unfold lcmpW
  by_cases h : y < x
  · simp [h]
  · by_cases h2 : x = y
    · subst h2; simp
    · simp [h, h2]
theorem own_z {z : Int64} (h : 0 < z.toInt) : ((z - (1 : Int64)) / (1032 : Int64)).toInt = (z.toInt - 1) / 1032 := by
  have e : (1032 : Int64).toInt = 1032 := by decide
  have e1 : (1 : Int64).toInt = 1 := by decide
  have hb := z.toInt_lt
  have s : (z - (1 : Int64)).toInt = z.toInt - 1 := by rw [i64_sub (by rw [e1]; omega) (by rw [e1]; omega), e1]
  rw [i64_div (by rw [e]; omega), s, e, Int.tdiv_eq_ediv_of_nonneg (by omega)]
theorem own_e1 {c : Int64} (h1 : 0 ≤ c.toInt) (h2 : c.toInt < 2147483648) : ((1032 : Int64) * c + (1 : Int64)).toInt = 1032 * c.toInt + 1 := by
  have e1 : (1 : Int64).toInt = 1 := by decide
  have q := (own_mul h1 h2).2
  rw [i64_add (by rw [q, e1]; omega) (by rw [q, e1]; omega), q, e1]
theorem own_zero : (0 : Int64).toInt = 0 := by decide
theorem d_prog_27_method_4_0 : decode prog_27_method_4_code 0 = .ok (.lload_n 2, 1) := by decide +kernel
theorem d_prog_27_method_4_1 : decode prog_27_method_4_code 1 = .ok (.lload_n 0, 1) := by decide +kernel
theorem d_prog_27_method_4_2 : decode prog_27_method_4_code 2 = .ok (.ldc2_w 99, 3) := by decide +kernel
theorem d_prog_27_method_4_5 : decode prog_27_method_4_code 5 = .ok (.lmul, 1) := by decide +kernel
theorem d_prog_27_method_4_6 : decode prog_27_method_4_code 6 = .ok (.lcmp, 1) := by decide +kernel
theorem d_prog_27_method_4_7 : decode prog_27_method_4_code 7 = .ok (.ifCond .le 7, 3) := by decide +kernel
theorem d_prog_27_method_4_10 : decode prog_27_method_4_code 10 = .ok (.iconst 1, 1) := by decide +kernel
theorem d_prog_27_method_4_11 : decode prog_27_method_4_code 11 = .ok (.goto 4, 3) := by decide +kernel
theorem d_prog_27_method_4_15 : decode prog_27_method_4_code 15 = .ok (.ireturn, 1) := by decide +kernel
theorem d_prog_27_method_4_14 : decode prog_27_method_4_code 14 = .ok (.iconst 0, 1) := by decide +kernel
theorem pn_0 : plainName "com/example/walled_symbols/walledsymbols/apk/EntryInflater" = true := by first | (simp [plainName, overriddenIn]; done) | decide +kernel
theorem ef_rmC (m : MethodId) (c0 : Int64) (z : Int64) : entryFrame m #[(.long c0), (.long z)] 4 = mkF m 0 #[.val (.long c0), .second, .val (.long z), .second] [] := by first | (simp [entryFrame, mkF, argsToLocals, Value.category]; done) | rfl
set_option maxRecDepth 65536 in
set_option maxHeartbeats 40000000 in
theorem rmC (l : Launch) (Z : State) (a0 : Array Value) (hw : ∀ d ∈ tables_1, d.before a0 Z = true) (c0 : Int64) (z : Int64)  (h0 : Heap) (n0 : Nat) (Z0 : n0 ≤ h0.size)  :
    Ct l (⟨"com/example/walled_symbols/walledsymbols/apk/EntryInflater", "claimsTooMuch", "(JJ)Z"⟩ : MethodName) prog_27_method_4_code 4 (some .boolean) [] ({ frames := 0, cells := 0, slots := 0, locals := 0 } : Room) Z #[(.long c0), (.long z)] h0 (fun v h L => v = some (.int (own_ctm c0 z)) ∧ Fr n0 L ∧ h = h0) := by
  refine Ct.of (plainFor_of_name pn_0) (fun m => ef_rmC m c0 z) ?_
  intro p e s m below meth c T0 X0 hx hby hml hret hlk hown hnm hZ e0 P hP
  refine Go.st (fun _ kt => XS.lloadN X0.here hx rfl (hb hby d_prog_27_method_4_0) rfl (XS.lloadN X0.here hx rfl (hb hby d_prog_27_method_4_1) rfl (X0.ldc2Long hx hown (mvT hZ (hw _ (List.mem_of_getElem? (i := 6) rfl))) (g := (mkF m 2 #[.val (.long c0), .second, .val (.long z), .second] [(.long c0), (.long z)])) rfl (hb hby d_prog_27_method_4_2) _ (XS.lmul X0.here hx rfl (hb hby d_prog_27_method_4_5) rfl (XS.lcmp X0.here hx rfl (hb hby d_prog_27_method_4_6) rfl kt))))) ?_
  show Go p e below P (T0.setTop (mkF m 7 #[.val (.long c0), .second, .val (.long z), .second] [(.int (lcmpW z (c0 * (1032 : Int64))))]))
  by_cases br1 : (0 : Int32) < (lcmpW z (c0 * (1032 : Int64)))
  · refine Go.st (fun _ kt => XS.ifNo X0.here hx rfl (hb hby d_prog_27_method_4_7) rfl ((if0 _ _).trans (tlt br1).2.2.2) kt) ?_
    show Go p e below P (T0.setTop (mkF m 10 #[.val (.long c0), .second, .val (.long z), .second] []))
    refine Go.st (fun _ kt => XS.iconst X0.here hx rfl (hb hby d_prog_27_method_4_10) (XS.goto X0.here hx rfl (pc0 := 11) (pc' := 15) rfl (hb hby d_prog_27_method_4_11) (by decide) (by decide) kt)) ?_
    show Go p e below P (T0.setTop (mkF m 15 #[.val (.long c0), .second, .val (.long z), .second] [(.int (1 : Int32))]))
    exact goN X0 hx (t := .boolean) hret (by simp) hlk (hb hby d_prog_27_method_4_15) hP (by decide) (by decide) ⟨by rw [own_gt, ← Int64.lt_iff_toInt_lt] at br1; unfold own_ctm; rw [if_pos br1]; rfl, (Fr.nil n0), e0⟩
  · refine Go.st (fun _ kt => XS.ifYes X0.here hx rfl (pc0 := 7) (pc' := 14) rfl (hb hby d_prog_27_method_4_7) rfl ((if0 _ _).trans (flt br1).2.2.2) (by decide) (by decide) kt) ?_
    show Go p e below P (T0.setTop (mkF m 14 #[.val (.long c0), .second, .val (.long z), .second] []))
    refine Go.st (fun _ kt => XS.iconst X0.here hx rfl (hb hby d_prog_27_method_4_14) kt) ?_
    show Go p e below P (T0.setTop (mkF m 15 #[.val (.long c0), .second, .val (.long z), .second] [(.int (0 : Int32))]))
    exact goN X0 hx (t := .boolean) hret (by simp) hlk (hb hby d_prog_27_method_4_15) hP (by decide) (by decide) ⟨by rw [own_gt, ← Int64.lt_iff_toInt_lt] at br1; unfold own_ctm; rw [if_neg br1]; rfl, (Fr.nil n0), e0⟩
theorem pd_1 : parseMethodDescriptor "(JJ)Z" = some ⟨[.long, .long], some .boolean⟩ := by decide +kernel
theorem pn_2 : plainName "com/example/walled_symbols/walledsymbols/apk/EntryInflaterClaimsTooMuchPinLaw" = true := by first | (simp [plainName, overriddenIn]; done) | decide +kernel
theorem ef_rm0 (m : MethodId) (a : Int32) (z : Int64) : entryFrame m #[(.int a), (.long z)] maxLocals = mkF m 0 #[.val (.int a), .val (.long z), .second, .unset, .unset, .unset, .unset, .unset] [] := by first | (simp [entryFrame, mkF, argsToLocals, Value.category, maxLocals]; done) | rfl
set_option maxRecDepth 65536 in
set_option maxHeartbeats 40000000 in
theorem rm0 (l : Launch) (Z : State) (a0 : Array Value) (hw : ∀ d ∈ tables_1, d.before a0 Z = true) (ws : List Jvm.Cond) (a : Int32) (z : Int64)  (h0 : Heap) (n0 : Nat) (Z0 : n0 ≤ h0.size)  :
    Ct l x code maxLocals ret ws room_1 Z #[(.int a), (.long z)] h0 (fun v h L => v = some (.int 1) ∧ Fr n0 L) := by
  refine Ct.of (plainFor_of_name pn_2) (fun m => ef_rm0 m a z) ?_
  intro p e s m below meth c T0 X0 hx hby hml hret hlk hown hnm hZ e0 P hP
  refine Go.st (fun _ kt => XS.iloadN X0.here hx rfl (hb hby at_0) rfl (X0.ldcInt hx hown (mvT hZ (hw _ (List.mem_of_getElem? (i := 0) rfl))) (g := (mkF m 1 #[.val (.int a), .val (.long z), .second, .unset, .unset, .unset, .unset, .unset] [(.int a)])) rfl (hb hby at_1) _ (XS.iand X0.here hx rfl (hb hby at_3) rfl (XS.i2l X0.here hx rfl (hb hby at_4) rfl kt)))) ?_
  show Go p e below P (T0.setTop (mkF m 5 #[.val (.int a), .val (.long z), .second, .unset, .unset, .unset, .unset, .unset] [(.long ((a &&& (2147483647 : Int32)).toInt64))]))
  obtain ⟨hc1, hc2⟩ := own_c a
  generalize ((a &&& (2147483647 : Int32)).toInt64) = cc at hc1 hc2 ⊢
  show Go p e below P (T0.setTop (mkF m 5 #[.val (.int a), .val (.long z), .second, .unset, .unset, .unset, .unset, .unset] [(.long cc)]))
  refine Go.st (fun _ kt => XS.lstoreN X0.here hx rfl (hb hby at_5) rfl (l' := #[.val (.int a), .val (.long z), .second, .val (.long cc), .second, .unset, .unset, .unset]) rfl (XS.lloadN X0.here hx rfl (hb hby at_6) rfl (XS.lconst X0.here hx rfl (hb hby at_7) (XS.lcmp X0.here hx rfl (hb hby at_8) rfl kt)))) ?_
  show Go p e below P (T0.setTop (mkF m 9 #[.val (.int a), .val (.long z), .second, .val (.long cc), .second, .unset, .unset, .unset] [(.int (lcmpW z (0 : Int64)))]))
  by_cases br1 : (0 : Int32) < (lcmpW z (0 : Int64))
  · refine Go.st (fun _ kt => XS.ifNo X0.here hx rfl (hb hby at_9) rfl ((if0 _ _).trans (tlt br1).2.2.2) kt) ?_
    show Go p e below P (T0.setTop (mkF m 12 #[.val (.int a), .val (.long z), .second, .val (.long cc), .second, .unset, .unset, .unset] []))
    refine Go.st (fun _ kt => XS.lloadN X0.here hx rfl (hb hby at_12) rfl (XS.lconst X0.here hx rfl (hb hby at_13) (XS.lsub X0.here hx rfl (hb hby at_14) rfl (X0.ldc2Long hx hown (mvT hZ (hw _ (List.mem_of_getElem? (i := 1) rfl))) (g := (mkF m 15 #[.val (.int a), .val (.long z), .second, .val (.long cc), .second, .unset, .unset, .unset] [(.long (z - (1 : Int64)))])) rfl (hb hby at_15) _ (XS.ldiv X0.here hx rfl (hb hby at_18) rfl (by decide) (XS.lloadN X0.here hx rfl (hb hby at_19) rfl (XS.lcmp X0.here hx rfl (hb hby at_20) rfl kt))))))) ?_
    show Go p e below P (T0.setTop (mkF m 21 #[.val (.int a), .val (.long z), .second, .val (.long cc), .second, .unset, .unset, .unset] [(.int (lcmpW ((z - (1 : Int64)) / (1032 : Int64)) cc))]))
    by_cases br2 : (lcmpW ((z - (1 : Int64)) / (1032 : Int64)) cc) < (0 : Int32)
    · refine Go.st (fun _ kt => XS.ifYes X0.here hx rfl (pc0 := 21) (pc' := 28) rfl (hb hby at_21) rfl ((if0 _ _).trans (tlt br2).1) (by decide) (by decide) kt) ?_
      show Go p e below P (T0.setTop (mkF m 28 #[.val (.int a), .val (.long z), .second, .val (.long cc), .second, .unset, .unset, .unset] []))
      refine Go.st (fun _ kt => XS.iconst X0.here hx rfl (hb hby at_28) (XS.istore X0.here hx rfl (hb hby at_29) rfl (l' := #[.val (.int a), .val (.long z), .second, .val (.long cc), .second, .val (.int (0 : Int32)), .unset, .unset]) rfl (X0.ldc2Long hx hown (mvT hZ (hw _ (List.mem_of_getElem? (i := 1) rfl))) (g := (mkF m 31 #[.val (.int a), .val (.long z), .second, .val (.long cc), .second, .val (.int (0 : Int32)), .unset, .unset] [])) rfl (hb hby at_31) _ (XS.lloadN X0.here hx rfl (hb hby at_34) rfl (XS.lmul X0.here hx rfl (hb hby at_35) rfl (XS.lstore X0.here hx rfl (hb hby at_36) rfl (l' := #[.val (.int a), .val (.long z), .second, .val (.long cc), .second, .val (.int (0 : Int32)), .val (.long ((1032 : Int64) * cc)), .second]) rfl (XS.lloadN X0.here hx rfl (hb hby at_38) rfl (XS.lloadN X0.here hx rfl (hb hby at_39) rfl kt)))))))) ?_
      show Go p e below P (T0.setTop (mkF m 40 #[.val (.int a), .val (.long z), .second, .val (.long cc), .second, .val (.int (0 : Int32)), .val (.long ((1032 : Int64) * cc)), .second] [(.long z), (.long cc)]))
      obtain ⟨_, T3, Lc3, X3, ⟨rfl, Nq3, eq3⟩, st3⟩ := callCt X0 hx hZ e0 (y := (⟨"com/example/walled_symbols/walledsymbols/apk/EntryInflater", "claimsTooMuch", "(JJ)Z"⟩ : MethodName)) (argsL := [(.long cc), (.long z)]) (rest := []) hown (hw _ (List.mem_of_getElem? (i := 2) rfl)) (hw _ (List.mem_of_getElem? (i := 3) rfl)) (hw _ (List.mem_of_getElem? (i := 4) rfl)) (hw _ (List.mem_of_getElem? (i := 5) rfl)) (by decide) (rmC l Z a0 hw cc z _ n0 Z0) (W := 0) (by decide) (by decide) (g := (mkF m 40 #[.val (.int a), .val (.long z), .second, .val (.long cc), .second, .val (.int (0 : Int32)), .val (.long ((1032 : Int64) * cc)), .second] [(.long z), (.long cc)])) rfl (by rw [hml]; rfl) (lenOf pd_1 rfl) rfl (by show 2 * 0 + _ ≤ _; exact Nat.le_of_eq rfl) (hb hby at_40) (by decide) (by decide)
      have N3 := Fr.app (Fr.nil n0) Nq3
      have e3 : T3.heap = h0 := eq3
      refine Go.st st3 ?_
      show Go p e below P (T3.setTop (mkF m 43 #[.val (.int a), .val (.long z), .second, .val (.long cc), .second, .val (.int (0 : Int32)), .val (.long ((1032 : Int64) * cc)), .second] [(.int (own_ctm cc z))]))
      refine Go.st (fun _ kt => XS.iload X3.here hx rfl (hb hby at_43) rfl (XS.icmpNo X3.here hx rfl (hb hby at_45) rfl (teq (by rw [own_gt, own_zero] at br1; rw [own_lt, own_z br1] at br2; exact own_ctm0 hc1 hc2 (by omega))).2 (XS.lloadN X3.here hx rfl (hb hby at_48) rfl (XS.lload X3.here hx rfl (hb hby at_49) rfl kt)))) ?_
      show Go p e below P (T3.setTop (mkF m 51 #[.val (.int a), .val (.long z), .second, .val (.long cc), .second, .val (.int (0 : Int32)), .val (.long ((1032 : Int64) * cc)), .second] [(.long ((1032 : Int64) * cc)), (.long cc)]))
      obtain ⟨_, T4, Lc4, X4, ⟨rfl, Nq4, eq4⟩, st4⟩ := callCt X3 hx hZ e3 (y := (⟨"com/example/walled_symbols/walledsymbols/apk/EntryInflater", "claimsTooMuch", "(JJ)Z"⟩ : MethodName)) (argsL := [(.long cc), (.long ((1032 : Int64) * cc))]) (rest := []) hown (hw _ (List.mem_of_getElem? (i := 2) rfl)) (hw _ (List.mem_of_getElem? (i := 3) rfl)) (hw _ (List.mem_of_getElem? (i := 4) rfl)) (hw _ (List.mem_of_getElem? (i := 5) rfl)) (by decide) (rmC l Z a0 hw cc ((1032 : Int64) * cc) _ n0 Z0) (W := 0) (by decide) (by decide) (g := (mkF m 51 #[.val (.int a), .val (.long z), .second, .val (.long cc), .second, .val (.int (0 : Int32)), .val (.long ((1032 : Int64) * cc)), .second] [(.long ((1032 : Int64) * cc)), (.long cc)])) rfl (by rw [hml]; rfl) (lenOf pd_1 rfl) rfl (by show 2 * 0 + _ ≤ _; exact Nat.le_of_eq rfl) (hb hby at_51) (by decide) (by decide)
      have N4 := Fr.app N3 Nq4
      have e4 : T4.heap = h0 := eq4
      refine Go.st st4 ?_
      show Go p e below P (T4.setTop (mkF m 54 #[.val (.int a), .val (.long z), .second, .val (.long cc), .second, .val (.int (0 : Int32)), .val (.long ((1032 : Int64) * cc)), .second] [(.int (own_ctm cc ((1032 : Int64) * cc)))]))
      refine Go.st (fun _ kt => XS.ifNo X4.here hx rfl (hb hby at_54) rfl ((if0 _ _).trans (teq (own_ctm0 hc1 hc2 (by rw [(own_mul hc1 hc2).2]; omega))).2) (XS.lloadN X4.here hx rfl (hb hby at_57) rfl (XS.lload X4.here hx rfl (hb hby at_58) rfl (XS.lconst X4.here hx rfl (hb hby at_60) (XS.ladd X4.here hx rfl (hb hby at_61) rfl kt))))) ?_
      show Go p e below P (T4.setTop (mkF m 62 #[.val (.int a), .val (.long z), .second, .val (.long cc), .second, .val (.int (0 : Int32)), .val (.long ((1032 : Int64) * cc)), .second] [(.long (((1032 : Int64) * cc) + (1 : Int64))), (.long cc)]))
      obtain ⟨_, T5, Lc5, X5, ⟨rfl, Nq5, eq5⟩, st5⟩ := callCt X4 hx hZ e4 (y := (⟨"com/example/walled_symbols/walledsymbols/apk/EntryInflater", "claimsTooMuch", "(JJ)Z"⟩ : MethodName)) (argsL := [(.long cc), (.long (((1032 : Int64) * cc) + (1 : Int64)))]) (rest := []) hown (hw _ (List.mem_of_getElem? (i := 2) rfl)) (hw _ (List.mem_of_getElem? (i := 3) rfl)) (hw _ (List.mem_of_getElem? (i := 4) rfl)) (hw _ (List.mem_of_getElem? (i := 5) rfl)) (by decide) (rmC l Z a0 hw cc (((1032 : Int64) * cc) + (1 : Int64)) _ n0 Z0) (W := 0) (by decide) (by decide) (g := (mkF m 62 #[.val (.int a), .val (.long z), .second, .val (.long cc), .second, .val (.int (0 : Int32)), .val (.long ((1032 : Int64) * cc)), .second] [(.long (((1032 : Int64) * cc) + (1 : Int64))), (.long cc)])) rfl (by rw [hml]; rfl) (lenOf pd_1 rfl) rfl (by show 2 * 0 + _ ≤ _; exact Nat.le_of_eq rfl) (hb hby at_62) (by decide) (by decide)
      have N5 := Fr.app N4 Nq5
      have e5 : T5.heap = h0 := eq5
      refine Go.st st5 ?_
      show Go p e below P (T5.setTop (mkF m 65 #[.val (.int a), .val (.long z), .second, .val (.long cc), .second, .val (.int (0 : Int32)), .val (.long ((1032 : Int64) * cc)), .second] [(.int (own_ctm cc (((1032 : Int64) * cc) + (1 : Int64))))]))
      refine Go.st (fun _ kt => XS.ifNo X5.here hx rfl (hb hby at_65) rfl ((if0 _ _).trans (feq (by rw [own_ctm1 hc1 hc2 (by rw [own_e1 hc1 hc2]; omega)]; decide)).1) (XS.iconst X5.here hx rfl (hb hby at_68) (XS.goto X5.here hx rfl (pc0 := 69) (pc' := 73) rfl (hb hby at_69) (by decide) (by decide) kt))) ?_
      show Go p e below P (T5.setTop (mkF m 73 #[.val (.int a), .val (.long z), .second, .val (.long cc), .second, .val (.int (0 : Int32)), .val (.long ((1032 : Int64) * cc)), .second] [(.int (1 : Int32))]))
      exact goN X5 hx (t := .boolean) hret (by simp) hlk (hb hby at_73) hP (by decide) (by decide) ⟨rfl, N5⟩
    · refine Go.st (fun _ kt => XS.ifNo X0.here hx rfl (hb hby at_21) rfl ((if0 _ _).trans (flt br2).1) kt) ?_
      show Go p e below P (T0.setTop (mkF m 24 #[.val (.int a), .val (.long z), .second, .val (.long cc), .second, .unset, .unset, .unset] []))
      refine Go.st (fun _ kt => XS.iconst X0.here hx rfl (hb hby at_24) (XS.goto X0.here hx rfl (pc0 := 25) (pc' := 29) rfl (hb hby at_25) (by decide) (by decide) (XS.istore X0.here hx rfl (hb hby at_29) rfl (l' := #[.val (.int a), .val (.long z), .second, .val (.long cc), .second, .val (.int (1 : Int32)), .unset, .unset]) rfl (X0.ldc2Long hx hown (mvT hZ (hw _ (List.mem_of_getElem? (i := 1) rfl))) (g := (mkF m 31 #[.val (.int a), .val (.long z), .second, .val (.long cc), .second, .val (.int (1 : Int32)), .unset, .unset] [])) rfl (hb hby at_31) _ (XS.lloadN X0.here hx rfl (hb hby at_34) rfl (XS.lmul X0.here hx rfl (hb hby at_35) rfl (XS.lstore X0.here hx rfl (hb hby at_36) rfl (l' := #[.val (.int a), .val (.long z), .second, .val (.long cc), .second, .val (.int (1 : Int32)), .val (.long ((1032 : Int64) * cc)), .second]) rfl (XS.lloadN X0.here hx rfl (hb hby at_38) rfl kt)))))))) ?_
      show Go p e below P (T0.setTop (mkF m 39 #[.val (.int a), .val (.long z), .second, .val (.long cc), .second, .val (.int (1 : Int32)), .val (.long ((1032 : Int64) * cc)), .second] [(.long cc)]))
      refine Go.st (fun _ kt => XS.lloadN X0.here hx rfl (hb hby at_39) rfl kt) ?_
      show Go p e below P (T0.setTop (mkF m 40 #[.val (.int a), .val (.long z), .second, .val (.long cc), .second, .val (.int (1 : Int32)), .val (.long ((1032 : Int64) * cc)), .second] [(.long z), (.long cc)]))
      obtain ⟨_, T6, Lc6, X6, ⟨rfl, Nq6, eq6⟩, st6⟩ := callCt X0 hx hZ e0 (y := (⟨"com/example/walled_symbols/walledsymbols/apk/EntryInflater", "claimsTooMuch", "(JJ)Z"⟩ : MethodName)) (argsL := [(.long cc), (.long z)]) (rest := []) hown (hw _ (List.mem_of_getElem? (i := 2) rfl)) (hw _ (List.mem_of_getElem? (i := 3) rfl)) (hw _ (List.mem_of_getElem? (i := 4) rfl)) (hw _ (List.mem_of_getElem? (i := 5) rfl)) (by decide) (rmC l Z a0 hw cc z _ n0 Z0) (W := 0) (by decide) (by decide) (g := (mkF m 40 #[.val (.int a), .val (.long z), .second, .val (.long cc), .second, .val (.int (1 : Int32)), .val (.long ((1032 : Int64) * cc)), .second] [(.long z), (.long cc)])) rfl (by rw [hml]; rfl) (lenOf pd_1 rfl) rfl (by show 2 * 0 + _ ≤ _; exact Nat.le_of_eq rfl) (hb hby at_40) (by decide) (by decide)
      have N6 := Fr.app (Fr.nil n0) Nq6
      have e6 : T6.heap = h0 := eq6
      refine Go.st st6 ?_
      show Go p e below P (T6.setTop (mkF m 43 #[.val (.int a), .val (.long z), .second, .val (.long cc), .second, .val (.int (1 : Int32)), .val (.long ((1032 : Int64) * cc)), .second] [(.int (own_ctm cc z))]))
      refine Go.st (fun _ kt => XS.iload X6.here hx rfl (hb hby at_43) rfl (XS.icmpNo X6.here hx rfl (hb hby at_45) rfl (teq (by rw [own_gt, own_zero] at br1; rw [own_lt, own_z br1] at br2; exact own_ctm1 hc1 hc2 (by omega))).2 (XS.lloadN X6.here hx rfl (hb hby at_48) rfl (XS.lload X6.here hx rfl (hb hby at_49) rfl kt)))) ?_
      show Go p e below P (T6.setTop (mkF m 51 #[.val (.int a), .val (.long z), .second, .val (.long cc), .second, .val (.int (1 : Int32)), .val (.long ((1032 : Int64) * cc)), .second] [(.long ((1032 : Int64) * cc)), (.long cc)]))
      obtain ⟨_, T7, Lc7, X7, ⟨rfl, Nq7, eq7⟩, st7⟩ := callCt X6 hx hZ e6 (y := (⟨"com/example/walled_symbols/walledsymbols/apk/EntryInflater", "claimsTooMuch", "(JJ)Z"⟩ : MethodName)) (argsL := [(.long cc), (.long ((1032 : Int64) * cc))]) (rest := []) hown (hw _ (List.mem_of_getElem? (i := 2) rfl)) (hw _ (List.mem_of_getElem? (i := 3) rfl)) (hw _ (List.mem_of_getElem? (i := 4) rfl)) (hw _ (List.mem_of_getElem? (i := 5) rfl)) (by decide) (rmC l Z a0 hw cc ((1032 : Int64) * cc) _ n0 Z0) (W := 0) (by decide) (by decide) (g := (mkF m 51 #[.val (.int a), .val (.long z), .second, .val (.long cc), .second, .val (.int (1 : Int32)), .val (.long ((1032 : Int64) * cc)), .second] [(.long ((1032 : Int64) * cc)), (.long cc)])) rfl (by rw [hml]; rfl) (lenOf pd_1 rfl) rfl (by show 2 * 0 + _ ≤ _; exact Nat.le_of_eq rfl) (hb hby at_51) (by decide) (by decide)
      have N7 := Fr.app N6 Nq7
      have e7 : T7.heap = h0 := eq7
      refine Go.st st7 ?_
      show Go p e below P (T7.setTop (mkF m 54 #[.val (.int a), .val (.long z), .second, .val (.long cc), .second, .val (.int (1 : Int32)), .val (.long ((1032 : Int64) * cc)), .second] [(.int (own_ctm cc ((1032 : Int64) * cc)))]))
      refine Go.st (fun _ kt => XS.ifNo X7.here hx rfl (hb hby at_54) rfl ((if0 _ _).trans (teq (own_ctm0 hc1 hc2 (by rw [(own_mul hc1 hc2).2]; omega))).2) (XS.lloadN X7.here hx rfl (hb hby at_57) rfl (XS.lload X7.here hx rfl (hb hby at_58) rfl (XS.lconst X7.here hx rfl (hb hby at_60) (XS.ladd X7.here hx rfl (hb hby at_61) rfl kt))))) ?_
      show Go p e below P (T7.setTop (mkF m 62 #[.val (.int a), .val (.long z), .second, .val (.long cc), .second, .val (.int (1 : Int32)), .val (.long ((1032 : Int64) * cc)), .second] [(.long (((1032 : Int64) * cc) + (1 : Int64))), (.long cc)]))
      obtain ⟨_, T8, Lc8, X8, ⟨rfl, Nq8, eq8⟩, st8⟩ := callCt X7 hx hZ e7 (y := (⟨"com/example/walled_symbols/walledsymbols/apk/EntryInflater", "claimsTooMuch", "(JJ)Z"⟩ : MethodName)) (argsL := [(.long cc), (.long (((1032 : Int64) * cc) + (1 : Int64)))]) (rest := []) hown (hw _ (List.mem_of_getElem? (i := 2) rfl)) (hw _ (List.mem_of_getElem? (i := 3) rfl)) (hw _ (List.mem_of_getElem? (i := 4) rfl)) (hw _ (List.mem_of_getElem? (i := 5) rfl)) (by decide) (rmC l Z a0 hw cc (((1032 : Int64) * cc) + (1 : Int64)) _ n0 Z0) (W := 0) (by decide) (by decide) (g := (mkF m 62 #[.val (.int a), .val (.long z), .second, .val (.long cc), .second, .val (.int (1 : Int32)), .val (.long ((1032 : Int64) * cc)), .second] [(.long (((1032 : Int64) * cc) + (1 : Int64))), (.long cc)])) rfl (by rw [hml]; rfl) (lenOf pd_1 rfl) rfl (by show 2 * 0 + _ ≤ _; exact Nat.le_of_eq rfl) (hb hby at_62) (by decide) (by decide)
      have N8 := Fr.app N7 Nq8
      have e8 : T8.heap = h0 := eq8
      refine Go.st st8 ?_
      show Go p e below P (T8.setTop (mkF m 65 #[.val (.int a), .val (.long z), .second, .val (.long cc), .second, .val (.int (1 : Int32)), .val (.long ((1032 : Int64) * cc)), .second] [(.int (own_ctm cc (((1032 : Int64) * cc) + (1 : Int64))))]))
      refine Go.st (fun _ kt => XS.ifNo X8.here hx rfl (hb hby at_65) rfl ((if0 _ _).trans (feq (by rw [own_ctm1 hc1 hc2 (by rw [own_e1 hc1 hc2]; omega)]; decide)).1) (XS.iconst X8.here hx rfl (hb hby at_68) (XS.goto X8.here hx rfl (pc0 := 69) (pc' := 73) rfl (hb hby at_69) (by decide) (by decide) kt))) ?_
      show Go p e below P (T8.setTop (mkF m 73 #[.val (.int a), .val (.long z), .second, .val (.long cc), .second, .val (.int (1 : Int32)), .val (.long ((1032 : Int64) * cc)), .second] [(.int (1 : Int32))]))
      exact goN X8 hx (t := .boolean) hret (by simp) hlk (hb hby at_73) hP (by decide) (by decide) ⟨rfl, N8⟩
  · refine Go.st (fun _ kt => XS.ifYes X0.here hx rfl (pc0 := 9) (pc' := 28) rfl (hb hby at_9) rfl ((if0 _ _).trans (flt br1).2.2.2) (by decide) (by decide) kt) ?_
    show Go p e below P (T0.setTop (mkF m 28 #[.val (.int a), .val (.long z), .second, .val (.long cc), .second, .unset, .unset, .unset] []))
    refine Go.st (fun _ kt => XS.iconst X0.here hx rfl (hb hby at_28) (XS.istore X0.here hx rfl (hb hby at_29) rfl (l' := #[.val (.int a), .val (.long z), .second, .val (.long cc), .second, .val (.int (0 : Int32)), .unset, .unset]) rfl (X0.ldc2Long hx hown (mvT hZ (hw _ (List.mem_of_getElem? (i := 1) rfl))) (g := (mkF m 31 #[.val (.int a), .val (.long z), .second, .val (.long cc), .second, .val (.int (0 : Int32)), .unset, .unset] [])) rfl (hb hby at_31) _ (XS.lloadN X0.here hx rfl (hb hby at_34) rfl (XS.lmul X0.here hx rfl (hb hby at_35) rfl (XS.lstore X0.here hx rfl (hb hby at_36) rfl (l' := #[.val (.int a), .val (.long z), .second, .val (.long cc), .second, .val (.int (0 : Int32)), .val (.long ((1032 : Int64) * cc)), .second]) rfl (XS.lloadN X0.here hx rfl (hb hby at_38) rfl (XS.lloadN X0.here hx rfl (hb hby at_39) rfl kt)))))))) ?_
    show Go p e below P (T0.setTop (mkF m 40 #[.val (.int a), .val (.long z), .second, .val (.long cc), .second, .val (.int (0 : Int32)), .val (.long ((1032 : Int64) * cc)), .second] [(.long z), (.long cc)]))
    obtain ⟨_, T9, Lc9, X9, ⟨rfl, Nq9, eq9⟩, st9⟩ := callCt X0 hx hZ e0 (y := (⟨"com/example/walled_symbols/walledsymbols/apk/EntryInflater", "claimsTooMuch", "(JJ)Z"⟩ : MethodName)) (argsL := [(.long cc), (.long z)]) (rest := []) hown (hw _ (List.mem_of_getElem? (i := 2) rfl)) (hw _ (List.mem_of_getElem? (i := 3) rfl)) (hw _ (List.mem_of_getElem? (i := 4) rfl)) (hw _ (List.mem_of_getElem? (i := 5) rfl)) (by decide) (rmC l Z a0 hw cc z _ n0 Z0) (W := 0) (by decide) (by decide) (g := (mkF m 40 #[.val (.int a), .val (.long z), .second, .val (.long cc), .second, .val (.int (0 : Int32)), .val (.long ((1032 : Int64) * cc)), .second] [(.long z), (.long cc)])) rfl (by rw [hml]; rfl) (lenOf pd_1 rfl) rfl (by show 2 * 0 + _ ≤ _; exact Nat.le_of_eq rfl) (hb hby at_40) (by decide) (by decide)
    have N9 := Fr.app (Fr.nil n0) Nq9
    have e9 : T9.heap = h0 := eq9
    refine Go.st st9 ?_
    show Go p e below P (T9.setTop (mkF m 43 #[.val (.int a), .val (.long z), .second, .val (.long cc), .second, .val (.int (0 : Int32)), .val (.long ((1032 : Int64) * cc)), .second] [(.int (own_ctm cc z))]))
    refine Go.st (fun _ kt => XS.iload X9.here hx rfl (hb hby at_43) rfl (XS.icmpNo X9.here hx rfl (hb hby at_45) rfl (teq (by rw [own_gt, own_zero] at br1; exact own_ctm0 hc1 hc2 (by omega))).2 (XS.lloadN X9.here hx rfl (hb hby at_48) rfl (XS.lload X9.here hx rfl (hb hby at_49) rfl kt)))) ?_
    show Go p e below P (T9.setTop (mkF m 51 #[.val (.int a), .val (.long z), .second, .val (.long cc), .second, .val (.int (0 : Int32)), .val (.long ((1032 : Int64) * cc)), .second] [(.long ((1032 : Int64) * cc)), (.long cc)]))
    obtain ⟨_, T10, Lc10, X10, ⟨rfl, Nq10, eq10⟩, st10⟩ := callCt X9 hx hZ e9 (y := (⟨"com/example/walled_symbols/walledsymbols/apk/EntryInflater", "claimsTooMuch", "(JJ)Z"⟩ : MethodName)) (argsL := [(.long cc), (.long ((1032 : Int64) * cc))]) (rest := []) hown (hw _ (List.mem_of_getElem? (i := 2) rfl)) (hw _ (List.mem_of_getElem? (i := 3) rfl)) (hw _ (List.mem_of_getElem? (i := 4) rfl)) (hw _ (List.mem_of_getElem? (i := 5) rfl)) (by decide) (rmC l Z a0 hw cc ((1032 : Int64) * cc) _ n0 Z0) (W := 0) (by decide) (by decide) (g := (mkF m 51 #[.val (.int a), .val (.long z), .second, .val (.long cc), .second, .val (.int (0 : Int32)), .val (.long ((1032 : Int64) * cc)), .second] [(.long ((1032 : Int64) * cc)), (.long cc)])) rfl (by rw [hml]; rfl) (lenOf pd_1 rfl) rfl (by show 2 * 0 + _ ≤ _; exact Nat.le_of_eq rfl) (hb hby at_51) (by decide) (by decide)
    have N10 := Fr.app N9 Nq10
    have e10 : T10.heap = h0 := eq10
    refine Go.st st10 ?_
    show Go p e below P (T10.setTop (mkF m 54 #[.val (.int a), .val (.long z), .second, .val (.long cc), .second, .val (.int (0 : Int32)), .val (.long ((1032 : Int64) * cc)), .second] [(.int (own_ctm cc ((1032 : Int64) * cc)))]))
    refine Go.st (fun _ kt => XS.ifNo X10.here hx rfl (hb hby at_54) rfl ((if0 _ _).trans (teq (own_ctm0 hc1 hc2 (by rw [(own_mul hc1 hc2).2]; omega))).2) (XS.lloadN X10.here hx rfl (hb hby at_57) rfl (XS.lload X10.here hx rfl (hb hby at_58) rfl (XS.lconst X10.here hx rfl (hb hby at_60) (XS.ladd X10.here hx rfl (hb hby at_61) rfl kt))))) ?_
    show Go p e below P (T10.setTop (mkF m 62 #[.val (.int a), .val (.long z), .second, .val (.long cc), .second, .val (.int (0 : Int32)), .val (.long ((1032 : Int64) * cc)), .second] [(.long (((1032 : Int64) * cc) + (1 : Int64))), (.long cc)]))
    obtain ⟨_, T11, Lc11, X11, ⟨rfl, Nq11, eq11⟩, st11⟩ := callCt X10 hx hZ e10 (y := (⟨"com/example/walled_symbols/walledsymbols/apk/EntryInflater", "claimsTooMuch", "(JJ)Z"⟩ : MethodName)) (argsL := [(.long cc), (.long (((1032 : Int64) * cc) + (1 : Int64)))]) (rest := []) hown (hw _ (List.mem_of_getElem? (i := 2) rfl)) (hw _ (List.mem_of_getElem? (i := 3) rfl)) (hw _ (List.mem_of_getElem? (i := 4) rfl)) (hw _ (List.mem_of_getElem? (i := 5) rfl)) (by decide) (rmC l Z a0 hw cc (((1032 : Int64) * cc) + (1 : Int64)) _ n0 Z0) (W := 0) (by decide) (by decide) (g := (mkF m 62 #[.val (.int a), .val (.long z), .second, .val (.long cc), .second, .val (.int (0 : Int32)), .val (.long ((1032 : Int64) * cc)), .second] [(.long (((1032 : Int64) * cc) + (1 : Int64))), (.long cc)])) rfl (by rw [hml]; rfl) (lenOf pd_1 rfl) rfl (by show 2 * 0 + _ ≤ _; exact Nat.le_of_eq rfl) (hb hby at_62) (by decide) (by decide)
    have N11 := Fr.app N10 Nq11
    have e11 : T11.heap = h0 := eq11
    refine Go.st st11 ?_
    show Go p e below P (T11.setTop (mkF m 65 #[.val (.int a), .val (.long z), .second, .val (.long cc), .second, .val (.int (0 : Int32)), .val (.long ((1032 : Int64) * cc)), .second] [(.int (own_ctm cc (((1032 : Int64) * cc) + (1 : Int64))))]))
    refine Go.st (fun _ kt => XS.ifNo X11.here hx rfl (hb hby at_65) rfl ((if0 _ _).trans (feq (by rw [own_ctm1 hc1 hc2 (by rw [own_e1 hc1 hc2]; omega)]; decide)).1) (XS.iconst X11.here hx rfl (hb hby at_68) (XS.goto X11.here hx rfl (pc0 := 69) (pc' := 73) rfl (hb hby at_69) (by decide) (by decide) kt))) ?_
    show Go p e below P (T11.setTop (mkF m 73 #[.val (.int a), .val (.long z), .second, .val (.long cc), .second, .val (.int (0 : Int32)), .val (.long ((1032 : Int64) * cc)), .second] [(.int (1 : Int32))]))
    exact goN X11 hx (t := .boolean) hret (by simp) hlk (hb hby at_73) hP (by decide) (by decide) ⟨rfl, N11⟩
set_option maxRecDepth 65536 in
set_option maxHeartbeats 40000000 in
theorem comes_1 {Post : Tables → Env → Array Value → State → Outcome → State → Prop} (hpost : ∀ tb e args s v u, (limb_1_1.after args s (.returned v) u = true ∧ limb_1_2.after args s (.returned v) u = true ∧ True) → FrameEnd s (.returned v) u (Jvm.fieldLocs frame_1_writes args s ++ Jvm.arrayLocs frame_1_arrays args s ++ Jvm.staticLocs frame_1_statics s) 0 0 → Post tb e args s (.returned v) u) :
    ArmFor flags0 classFile x code maxLocals ret World_1 tables_1 room_1 Calls_1 rest_1 Pre_1 Post := by
  intro l hfl _ _ p e ha hc hk s m args below hf hA hF happ hP
  obtain ⟨hcalls, hrest, hpre⟩ := hP
  obtain ⟨-, -, -, hnamed, -, -, -, hat⟩ := (Spec.applies_iff hf).mp happ
  obtain ⟨hg, hn⟩ := and_e (Cond.before_iff.mp (show (Jvm.Cond.and given_1 narrow_1).before args s = true from hpre))
  obtain ⟨g1, g2⟩ := and_e hg
  obtain ⟨g3, g4⟩ := and_e g2
  obtain ⟨w0, w1, rfl⟩ : ∃ w0 w1 : Value, args = #[w0, w1] := by
    have hs : args.size = 2 := by simpa [Cond.value, given_1] using g1
    obtain ⟨L⟩ := args
    match L, hs with
    | [w0, w1], _ => exact ⟨w0, w1, rfl⟩
  have hw := fun d (hd : d ∈ tables_1) => atoms_spec (ws := Jvm.Cond.code x code maxLocals ret :: tables_1) hat d (List.mem_cons_of_mem _ hd)
  obtain ⟨i0, ei0⟩ := is_v g3
  obtain rfl : w0 = (.int i0) := Option.some.inj ei0
  obtain ⟨i1, ei1⟩ := isL_v g4
  obtain rfl : w1 = (.long i1) := Option.some.inj ei1
  obtain ⟨n, o, h1, h2, h3, _, L, rfl, ⟨rfl, N⟩, hq⟩ := rm0 l s _ hw tables_1 i0 i1 s.heap s.heap.size (Nat.le_refl _) p e ha hc hk s m _ below hf ((Spec.applies_iff_loose hf).mp happ).1 ⟨rfl, State.Warmed39.refl s, rfl⟩ trivial
  refine ⟨n, _, h1, h2, h3, hpost _ _ _ _ _ _ ⟨Cond.after_iff.mpr rfl, Cond.after_iff.mpr (eq_i res_at (Term.int_eval (1)) rfl), trivial⟩ ⟨hq.1, hq.2.1, (hq.2.2.sift fun y hy => Or.inr (N y hy)).mono (by decide) (by decide)⟩⟩
theorem main_1_1 : Claimed_1_1 := comes_1 fun _ _ _ _ _ _ h hF => ⟨h.1, hF⟩
theorem main_1_2 : Claimed_1_2 := comes_1 fun _ _ _ _ _ _ h hF => ⟨h.2.1, hF⟩
end Jvm.Pilot.@@N@@
namespace Jvm.Pilot.@@N@@
open Jvm Jvm.ClassFile Sem Op Lib Jvm.Free Jvm.Stand Jvm.Pilot.@@N@@.Jvm.D
/-! MADE BY PROGRAM (witnessworld.py) out of the Statement's table words and the real class files: 10 classes; the members and pool entries that the words name. The judged class is class 1, her method 1. -/
namespace start1
open Jvm.ClassFile
def u (s : String) : CpInfo := .utf8 (stringToUtf16 s)
/-- a pool by its gaps: so many unusable entries, then the entry; so many at the end -/
def gap : Nat → List CpInfo → List CpInfo
  | 0, r => r
  | n + 1, r => .unusable :: gap n r
def poolList (es : List (Nat × CpInfo)) (last : Nat) : List CpInfo := es.foldr (fun e r => gap e.1 (e.2 :: r)) (gap last [])
def pool (es : List (Nat × CpInfo)) (last : Nat) : Array CpInfo := ⟨poolList es last⟩
def fileOf (pool : Array CpInfo) (this : Nat) (attrs : Array Attribute := #[]) (ms : Array MethodInfo := #[]) (fl : Nat := 33) (sup : Nat := 0) (ifs : Array Nat := #[]) (fds : Array FieldInfo := #[]) : ClassFile where
  minorVersion := 0
  majorVersion := 65
  constantPool := pool
  accessFlags := fl
  thisClass := this
  superClass := sup
  interfaces := ifs
  fields := fds
  methods := ms
  attributes := attrs
def plain (name : String) (sup : Option ClassId) : Class where
  name := name
  kind := .ordinary
  loader := none
  accessFlags := 33
  super := sup
  interfaces := #[]
  cf := none
  fields := #[]
  methods := #[]
  instanceTypes := #[]
  staticTypes := #[]
  resolved := #[]
  callSites := []
  init := .initialized
  statics := none
  mirror := none

def pool0 : Array CpInfo := pool [(5, u "<init>"), (0, u "()V"), (1, .class_ 10), (1, u "java/lang/Object")] 113

def k0m0 : Method := { name := "<init>", desc := "()V", sig := { parameters := [], returnType := none }, accessFlags := 1, code := none }
/-- java/lang/Object -/
def k0 : Class := { plain "java/lang/Object" none with
  accessFlags := 33
  interfaces := #[]
  cf := some (fileOf pool0 8 #[] #[{ accessFlags := 1, nameIndex := 5, descriptorIndex := 6, attributes := #[] }] 33 0 #[] #[])
  fields := #[]
  methods := #[k0m0]
  instanceTypes := #[]
  staticTypes := #[]
  resolved := Array.replicate 124 none
  statics := none }

def pool1 : Array CpInfo := pool [(2, .class_ 4), (1, u "java/lang/Object"), (0, u "<init>"), (0, u "()V"), (0, .integer 2147483647), (0, .long 1032), (1, .methodref 11 12), (0, .class_ 13), (0, .nameAndType 14 15), (0, u "com/example/walled_symbols/walledsymbols/apk/EntryInflater"), (0, u "claimsTooMuch"), (0, u "(JJ)Z"), (0, .class_ 17), (0, u "com/example/walled_symbols/walledsymbols/apk/EntryInflaterClaimsTooMuchPinLaw"), (2, u "law"), (0, u "(IJ)Z")] 3

def k1m0 : Method := { name := "<init>", desc := "()V", sig := { parameters := [], returnType := none }, accessFlags := 2, code := none }
def k1c1 : Code := { maxStack := 6, maxLocals := 8, code := code, exceptionTable := #[], attributes := #[] }
def k1m1 : Method := { name := "law", desc := "(IJ)Z", sig := { parameters := [.int, .long], returnType := some .boolean }, accessFlags := 9, code := some k1c1 }
/-- com/example/walled_symbols/walledsymbols/apk/EntryInflaterClaimsTooMuchPinLaw -/
def k1 : Class := { plain "com/example/walled_symbols/walledsymbols/apk/EntryInflaterClaimsTooMuchPinLaw" (some 0) with
  accessFlags := 49
  interfaces := #[]
  cf := some (fileOf pool1 16 #[] #[{ accessFlags := 2, nameIndex := 5, descriptorIndex := 6, attributes := #[] }, { accessFlags := 9, nameIndex := 20, descriptorIndex := 21, attributes := #[] }] 49 2 #[] #[])
  fields := #[]
  methods := #[k1m0, k1m1]
  instanceTypes := #[]
  staticTypes := #[]
  resolved := Array.replicate 25 none
  statics := none }

def pool2 : Array CpInfo := pool [(1, .class_ 2), (0, u "java/lang/AutoCloseable"), (0, .class_ 4), (0, u "java/lang/Object")] 7

/-- java/lang/AutoCloseable -/
def k2 : Class := { plain "java/lang/AutoCloseable" (some 0) with
  accessFlags := 1537
  interfaces := #[]
  cf := some (fileOf pool2 1 #[] #[] 1537 3 #[] #[])
  fields := #[]
  methods := #[]
  instanceTypes := #[]
  staticTypes := #[]
  resolved := Array.replicate 12 none
  statics := none }

def pool3 : Array CpInfo := pool [(8, .class_ 10), (1, u "com/example/walled_symbols/walledsymbols/apk/EntryInflater"), (3, .class_ 16), (1, u "java/lang/Object"), (6, u "crc"), (0, u "Ljava/util/zip/CRC32;"), (8, u "size"), (21, u "J"), (4, u "statedCrc"), (2, u "budget"), (0, u "Lcom/example/walled_symbols/walledsymbols/apk/InflationBudget;"), (8, u "decoded"), (0, u "Ljava/nio/ByteBuffer;"), (13, u "stream"), (0, u "Lcom/example/walled_symbols/walledsymbols/apk/StreamInflater;"), (2, u "claimsTooMuch"), (0, u "(JJ)Z"), (5, .long 1032), (44, u "inflated"), (35, .class_ 181), (0, u "java/lang/AutoCloseable"), (0, u "MAX_DEFLATE_RATIO"), (0, u "I")] 33

def k3c0 : Code := { maxStack := 6, maxLocals := 4, code := prog_27_method_4_code, exceptionTable := #[], attributes := #[] }
def k3m0 : Method := { name := "claimsTooMuch", desc := "(JJ)Z", sig := { parameters := [.long, .long], returnType := some .boolean }, accessFlags := 8, code := some k3c0 }
/-- com/example/walled_symbols/walledsymbols/apk/EntryInflater -/
def k3 : Class := { plain "com/example/walled_symbols/walledsymbols/apk/EntryInflater" (some 0) with
  accessFlags := 48
  interfaces := #[2]
  cf := some (fileOf pool3 8 #[] #[{ accessFlags := 8, nameIndex := 92, descriptorIndex := 93, attributes := #[] }] 48 14 #[180] #[{ accessFlags := 26, nameIndex := 182, descriptorIndex := 183, attributes := #[] }, { accessFlags := 18, nameIndex := 88, descriptorIndex := 89, attributes := #[] }, { accessFlags := 18, nameIndex := 33, descriptorIndex := 55, attributes := #[] }, { accessFlags := 18, nameIndex := 60, descriptorIndex := 55, attributes := #[] }, { accessFlags := 18, nameIndex := 63, descriptorIndex := 64, attributes := #[] }, { accessFlags := 18, nameIndex := 73, descriptorIndex := 74, attributes := #[] }, { accessFlags := 2, nameIndex := 144, descriptorIndex := 55, attributes := #[] }, { accessFlags := 18, nameIndex := 23, descriptorIndex := 24, attributes := #[] }])
  fields := #[{ name := "MAX_DEFLATE_RATIO", type := .int, accessFlags := 26, slot := 0, constantValue := 0 }, { name := "stream", type := (.object "com/example/walled_symbols/walledsymbols/apk/StreamInflater"), accessFlags := 18, slot := 0, constantValue := 0 }, { name := "size", type := .long, accessFlags := 18, slot := 1, constantValue := 0 }, { name := "statedCrc", type := .long, accessFlags := 18, slot := 2, constantValue := 0 }, { name := "budget", type := (.object "com/example/walled_symbols/walledsymbols/apk/InflationBudget"), accessFlags := 18, slot := 3, constantValue := 0 }, { name := "decoded", type := (.object "java/nio/ByteBuffer"), accessFlags := 18, slot := 4, constantValue := 0 }, { name := "inflated", type := .long, accessFlags := 2, slot := 5, constantValue := 0 }, { name := "crc", type := (.object "java/util/zip/CRC32"), accessFlags := 18, slot := 6, constantValue := 0 }]
  methods := #[k3m0]
  instanceTypes := #[(.object "com/example/walled_symbols/walledsymbols/apk/StreamInflater"), .long, .long, (.object "com/example/walled_symbols/walledsymbols/apk/InflationBudget"), (.object "java/nio/ByteBuffer"), .long, (.object "java/util/zip/CRC32")]
  staticTypes := #[.int]
  resolved := Array.replicate 217 none
  statics := none }

def pool4 : Array CpInfo := pool [(1, u "java/lang/Cloneable"), (0, .class_ 1), (0, u "java/lang/Object"), (0, .class_ 3)] 3

/-- java/lang/Cloneable -/
def k4 : Class := { plain "java/lang/Cloneable" (some 0) with
  accessFlags := 1537
  interfaces := #[]
  cf := some (fileOf pool4 2 #[] #[] 1537 4 #[] #[])
  fields := #[]
  methods := #[]
  instanceTypes := #[]
  staticTypes := #[]
  resolved := Array.replicate 8 none
  statics := none }

def pool5 : Array CpInfo := pool [(1, u "java/io/Serializable"), (0, .class_ 1), (0, u "java/lang/Object"), (0, .class_ 3)] 3

/-- java/io/Serializable -/
def k5 : Class := { plain "java/io/Serializable" (some 0) with
  accessFlags := 1537
  interfaces := #[]
  cf := some (fileOf pool5 2 #[] #[] 1537 4 #[] #[])
  fields := #[]
  methods := #[]
  instanceTypes := #[]
  staticTypes := #[]
  resolved := Array.replicate 8 none
  statics := none }

/-- the primitive byte -/
def k6 : Class := { plain "byte" none with kind := .primitive 'B', accessFlags := 0x411 }
/-- [B -/
def k7 : Class := { plain "[B" (some 0) with kind := .array 6 .byte, interfaces := #[4, 5], accessFlags := 1041 }

/-- the primitive int -/
def k8 : Class := { plain "int" none with kind := .primitive 'I', accessFlags := 0x411 }
/-- [I -/
def k9 : Class := { plain "[I" (some 0) with kind := .array 8 .int, interfaces := #[4, 5], accessFlags := 1041 }

def heap : Heap := #[]
def classes : Array Class := #[k0, k1, k2, k3, k4, k5, k6, k7, k8, k9]
def interned : List (Array UInt16 × Addr) := []
def slotsUsed : Nat := 0
def theMethod : MethodId := ⟨1, 1⟩
def args0 : Array Value := #[.int 5, .long 7]
def aboutOver (below : List Frame) : State where
  vm := { classes := classes, interned := interned.toArray }
  heap := heap
  slotsUsed := slotsUsed
  threads := #[{ frames := .invoking theMethod args0 :: below }]
def below0 : List Frame := [.native { method := ⟨0, 0⟩, args := #[] }]
def about1 : State := aboutOver below0
def p0 : Program := .bare "" "" ""
def e0 : Env := launch0.env 0 0 0
theorem w_frames : about1.frames = Frame.invoking theMethod args0 :: below0 := rfl
set_option maxRecDepth 65536 in
theorem w_args : argsFit about1.vm theMethod args0 = true := by decide +kernel
set_option maxRecDepth 65536 in
theorem w_heap : heapFits about1 = true := by decide +kernel
set_option maxRecDepth 65536 in
theorem w_runnable : about1.curStatus? = some .runnable := by decide +kernel
set_option maxRecDepth 65536 in
theorem w_alone : about1.alone = true := by decide +kernel
set_option maxRecDepth 65536 in
theorem w_named : about1.methodNamed? x = some theMethod := by decide +kernel
set_option maxRecDepth 65536 in
theorem w_hears : about1.hears theMethod below0 = true := by decide +kernel
set_option maxRecDepth 65536 in
theorem w_ripe : about1.ripe theMethod args0 below0 = true := by decide +kernel
theorem w_running : about1.status = .running := rfl
set_option maxRecDepth 65536 in
theorem w_room : about1.hasRoom e0.platform room_1 = true :=
  launch0.hasRoom_least _ room_1 (by decide +kernel) (by decide +kernel) (by decide +kernel) (by decide +kernel) (by decide +kernel) (by decide +kernel)
theorem allAtoms_all (ts : List Jvm.Cond) (a : Array Jvm.Value) (st : Jvm.State) : (allAtoms ts).before a st = ts.all (fun c => c.before a st) := by
  induction ts with
  | nil => rfl
  | cons c t ih =>
    show (Jvm.Cond.and c (allAtoms t)).before a st = _
    rw [Jvm.Cond.before_and, ih, List.all_cons]
def words1 : List Jvm.Cond := Jvm.Cond.code x code maxLocals ret :: tables_1
/-- a 'code' word, met by the world's own term for the bytes: nothing is compared byte by byte -/
theorem code_word {y : MethodName} {bytes : ByteArray} {mx : Nat} {rt : Option FieldType} {a : Array Value} {s : State} {m : MethodId} {meth : Method} {c : Code} (h1 : s.methodNamed? y = some m) (h2 : s.vm.method? m = some meth) (h3 : meth.code = some c) (h4 : c.code = bytes)
    (h5 : (c.maxLocals == mx && c.exceptionTable.isEmpty && decide (c.maxStack ≤ mostOperands) && decide (meth.sig.returnType = rt) && !meth.locks && decide (parseMethodDescriptor y.desc = some meth.sig)) = true) : (Jvm.Cond.code y bytes mx rt).before a s = true := by
  simp only [Bool.and_eq_true, beq_iff_eq, Bool.not_eq_true', decide_eq_true_eq] at h5
  obtain ⟨⟨⟨⟨⟨g1, g2⟩, g3⟩, g4⟩, g5⟩, g6⟩ := h5
  simp [Cond.before, Cond.holds, Cond.value, h1, h2, h3, h4, g1, g2, g3, g4, g5, g6]
def isCode : Jvm.Cond → Bool
  | .code _ _ _ _ => true
  | _ => false
theorem all_split {L : List Jvm.Cond} {P : Jvm.Cond → Bool} (h1 : L.all (fun c => isCode c || P c) = true) (h2 : ∀ c ∈ L.filter isCode, P c = true) : L.all P = true := by
  refine List.all_eq_true.mpr fun c hc => ?_
  have h := List.all_eq_true.mp h1 c hc
  rcases Bool.eq_false_or_eq_true (isCode c) with hi | hi
  · exact h2 c (List.mem_filter.mpr ⟨hc, hi⟩)
  · simpa [hi] using h
set_option maxRecDepth 65536 in
theorem w_c0 : (Jvm.Cond.code x code maxLocals ret).before args0 about1 = true := code_word (m := ⟨1, 1⟩) (meth := k1m1) (c := k1c1) (by decide +kernel) rfl rfl rfl (by decide +kernel)
set_option maxRecDepth 65536 in
theorem w_c1 : (Jvm.Cond.code ({ cls := "com/example/walled_symbols/walledsymbols/apk/EntryInflater", name := "claimsTooMuch", desc := "(JJ)Z" } : Jvm.MethodName) prog_27_method_4_code (4 : Nat) (Option.some Jvm.ClassFile.FieldType.boolean)).before args0 about1 = true := code_word (m := ⟨3, 0⟩) (meth := k3m0) (c := k3c0) (by decide +kernel) rfl rfl rfl (by decide +kernel)
def codes1 : List Jvm.Cond := [Jvm.Cond.code x code maxLocals ret, Jvm.Cond.code ({ cls := "com/example/walled_symbols/walledsymbols/apk/EntryInflater", name := "claimsTooMuch", desc := "(JJ)Z" } : Jvm.MethodName) prog_27_method_4_code (4 : Nat) (Option.some Jvm.ClassFile.FieldType.boolean)]
set_option maxRecDepth 65536 in
theorem codes_eq : words1.filter isCode = codes1 := rfl
theorem w_codes : ∀ c ∈ words1.filter isCode, c.before args0 about1 = true := by
  rw [codes_eq]
  intro c hc
  simp only [codes1, List.mem_cons, List.not_mem_nil, or_false] at hc
  rcases hc with rfl | rfl
  · exact w_c0
  · exact w_c1
set_option maxRecDepth 65536 in
theorem w_t1 : words1.all (fun c => isCode c || c.before args0 about1) = true := by decide +kernel
theorem w_tables : (allAtoms (Jvm.Cond.code x code maxLocals ret :: tables_1)).before args0 about1 = true := by
  rw [allAtoms_all]
  show words1.all (fun c => c.before args0 about1) = true
  refine all_split ?_ w_codes
  rw [w_t1]
set_option maxRecDepth 65536 in
theorem w_case : (Jvm.Cond.and given_1 narrow_1).before args0 about1 = true := by decide +kernel
theorem w_applies : (headSpec (Jvm.Cond.code x code maxLocals ret :: tables_1) room_1).applies x e0.platform about1 = true :=
  (Spec.applies_iff w_frames).mpr ⟨w_running, w_runnable, w_alone, w_named, w_hears, w_ripe, w_room, w_tables⟩
theorem atStart : AtStart classFile x code maxLocals ret World_1 tables_1 room_1 Calls_1 rest_1 Pre_1 launch0 p0 e0 about1 theMethod args0 below0 :=
  ⟨lists_1, trivial, launch0.admits_env _ _ _, launch0.least_env, fairChoices_fair.cas, fairChoices_fair.clock, w_frames, w_args, w_heap, w_applies, trivial, trivial, w_case⟩
end start1
theorem witness_1 : WitnessClaimed_1 := ⟨start1.p0, start1.e0, start1.about1, start1.theMethod, start1.args0, start1.below0, start1.atStart⟩
end Jvm.Pilot.@@N@@
