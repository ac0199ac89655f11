import JvmDerived
import JvmDerived.Pilot.@@N@@Statement
import JvmDerived.Pilot.@@N@@Code
set_option linter.unusedVariables false
set_option linter.unusedSimpArgs false
@@BLOCK:NumsL.lean.txt@@
@@BLOCK:Masks.lean.txt@@
namespace Jvm.RoadKit
open Sem ClassFile Op Lib Jvm.Stand Jvm.Free Jvm.LawKit
section OwnGo
variable {p : Program} {l : Launch} {e : Env} {R : Room} {s : State} {m : MethodId} {args : Array Value} {below : List Frame} {meth : Method} {c : Code} {T : State} {locs : List Loc} {cells slots : Nat} {Z : State} {a0 : Array Value} {h : Heap}
/-- from A the run comes to an end of which P holds -/
def Go (p : Program) (e : Env) (below : List Frame) (P : State → Outcome → Prop) (A : State) : Prop := ∃ t o, Steps p.tables e below A t ∧ t.status = .running ∧ Ended t below o ∧ P t o
theorem Go.st {P : State → Outcome → Prop} {A B : State} (st : ∀ t, Steps p.tables e below A t → Steps p.tables e below B t) (k : Go p e below P A) : Go p e below P B := by
  obtain ⟨t, o, h1, h2⟩ := k
  exact ⟨t, o, st t h1, h2⟩
theorem Go.tr {P : State → Outcome → Prop} {A B : State} (st : Steps p.tables e below B A) (k : Go p e below P A) : Go p e below P B := Go.st (fun _ h => st.trans h) k
def Pst (s : State) (Q : Option Value → Heap → List Loc → Prop) (C S : Nat) : State → Outcome → Prop := fun t o => ∃ v L, o = .returned v ∧ Q v t.heap L ∧ FrameEnd s o t L C S
/-- a method's contract at the heap h0, for the arguments as -/
def Ct (l : Launch) (y : MethodName) (bytes : ByteArray) (maxL : Nat) (ret : Option FieldType) (ws : List Cond) (rm : Room) (Z : State) (as : Array Value) (h0 : Heap) (Q : Option Value → Heap → List Loc → Prop) : Prop :=
  MetFree l y (head1 (Cond.code y bytes maxL ret :: ws) rm) (fun a U => a = as ∧ Z.Warmed39 U.vm ∧ U.heap = h0) (fun _ _ _ _ _ => True) (fun _ U o U' => ∃ v L, o = .returned v ∧ Q v U'.heap L ∧ FrameEnd U o U' L rm.cells rm.slots)
theorem Ct.of {y : MethodName} {bytes : ByteArray} {maxL : Nat} {ret : Option FieldType} {ws : List Cond} {rm : Room} {as : Array Value} {h0 : Heap} {Q : Option Value → Heap → List Loc → Prop} {Ls : Array Slot}
    (hpl : plainFor y = true) (hef : ∀ m, entryFrame m as maxL = mkF m 0 Ls [])
    (body : ∀ (p : Program) (e : Env) (s : State) (m : MethodId) (below : List Frame) (meth : Method) (c : Code) (T : State), Stand p l e rm s m as below meth c T [] 0 0 → p.tables.exec = Jvm.exec → c.code = bytes → c.maxLocals = maxL → meth.sig.returnType = ret → meth.locks = false → s.vm.findClass y.cls = some m.cls → meth.name = y.name → Z.Warmed39 s.vm → T.heap = h0 →
      ∀ P : State → Outcome → Prop, P = Pst s Q rm.cells rm.slots → Go p e below P (T.setTop (mkF m 0 Ls []))) : Ct l y bytes maxL ret ws rm Z as h0 Q := by
  refine MetFree.of_bodySF hpl hisR ?_
  intro p e s m args below meth c s₁ Bd hml0 hP hK
  obtain ⟨rfl, hZ, hh⟩ := hP
  have X0 : Stand p l e rm s m args below meth c s₁ [] 0 0 := Stand.of_body Bd
  obtain ⟨t, o, h1, h2⟩ := body p e s m below meth c s₁ X0 Bd.exec Bd.bytes hml0 Bd.returns Bd.notSynchronized (findClass_of_methodNamed Bd.named) (name_of_methodNamed Bd.named Bd.method).1 hZ (by rw [← hh, Bd.state]; rfl) _ rfl
  exact ⟨t, o, castTop (hef m) h1, h2⟩
theorem goRet {t : FieldType} {i : Instr} {v w : Value} {pc : Nat} {Ls : Array Slot} {rest : List Value} {Q : Option Value → Heap → List Loc → Prop} {C S : Nat}
    (X : Stand p l e R s m args below meth c T locs cells slots) (hret : meth.sig.returnType = some t) (hlk : meth.locks = false)
    (st : ∀ {fs : List Frame}, (∀ (f : JFrame) (acts : List Action), f.method = m → f.locked = none → f.entered = [] → (doReturn e (T.setTop f) acts (some w)).1 = T.setFrames fs) → Steps p.tables e below (T.setTop (mkF m pc Ls (v :: rest))) (T.setFrames fs))
    (hc : cells ≤ C) (hs : slots ≤ S) (hQ : Q (some w) T.heap locs) : Go p e below (Pst s Q C S) (T.setTop (mkF m pc Ls (v :: rest))) := by
  obtain ⟨fs, hr, hrun, hended, hW, hsame⟩ := X.leave (v := some w) (fun h => by rw [hret] at h; cases h) hlk
  exact ⟨_, _, st hr, hrun, hended, _, _, rfl, hQ, ⟨_, rfl⟩, hW, hsame.mono hc hs⟩
theorem retI (X : Stand p l e R s m args below meth c T locs cells slots) (hx : p.tables.exec = Jvm.exec) {pc : Nat} {Ls : Array Slot} {z : Int32} {rest : List Value} (hret : meth.sig.returnType = some .int) (hd : decode c.code pc = .ok (.ireturn, 1)) {fs : List Frame}
    (hl : ∀ (f : JFrame) (acts : List Action), f.method = m → f.locked = none → f.entered = [] → (doReturn e (T.setTop f) acts (some (.int z))).1 = T.setFrames fs) : Steps p.tables e below (T.setTop (mkF m pc Ls (.int z :: rest))) (T.setFrames fs) :=
  retOut X hx hret rfl (Or.inl ⟨rfl, Or.inl rfl, z, rfl⟩) hd hl
theorem goI {pc : Nat} {Ls : Array Slot} {z : Int32} {rest : List Value} {Q : Option Value → Heap → List Loc → Prop} {C S : Nat} {P : State → Outcome → Prop}
    (X : Stand p l e R s m args below meth c T locs cells slots) (hx : p.tables.exec = Jvm.exec) (hret : meth.sig.returnType = some .int) (hlk : meth.locks = false) (hd : decode c.code pc = .ok (.ireturn, 1))
    (hP : P = Pst s Q C S) (hc : cells ≤ C) (hs : slots ≤ S) (hQ : Q (some (.int z)) T.heap locs) : Go p e below P (T.setTop (mkF m pc Ls (.int z :: rest))) := by
  subst hP
  exact goRet (i := .ireturn) X hret hlk (fun hr => retI X hx hret hd hr) hc hs hQ
theorem goN {pc : Nat} {Ls : Array Slot} {z : Int32} {t : FieldType} {rest : List Value} {Q : Option Value → Heap → List Loc → Prop} {C S : Nat} {P : State → Outcome → Prop}
    (X : Stand p l e R s m args below meth c T locs cells slots) (hx : p.tables.exec = Jvm.exec) (hret : meth.sig.returnType = some t) (ht : t = .boolean ∨ t = .byte ∨ t = .char ∨ t = .short) (hlk : meth.locks = false) (hd : decode c.code pc = .ok (.ireturn, 1))
    (hP : P = Pst s Q C S) (hc : cells ≤ C) (hs : slots ≤ S) (hQ : Q (some (.int (nar t z))) T.heap locs) : Go p e below P (T.setTop (mkF m pc Ls (.int z :: rest))) := by
  subst hP
  exact goRet (i := .ireturn) X hret hlk (fun hr => retN X hx hret ht hd hr) hc hs hQ
theorem goJ {pc : Nat} {Ls : Array Slot} {z : Int64} {rest : List Value} {Q : Option Value → Heap → List Loc → Prop} {C S : Nat} {P : State → Outcome → Prop}
    (X : Stand p l e R s m args below meth c T locs cells slots) (hx : p.tables.exec = Jvm.exec) (hret : meth.sig.returnType = some .long) (hlk : meth.locks = false) (hd : decode c.code pc = .ok (.lreturn, 1))
    (hP : P = Pst s Q C S) (hc : cells ≤ C) (hs : slots ≤ S) (hQ : Q (some (.long z)) T.heap locs) : Go p e below P (T.setTop (mkF m pc Ls (.long z :: rest))) := by
  subst hP
  exact goRet (i := .lreturn) X hret hlk (fun hr => retOut X hx hret rfl (Or.inr (Or.inl ⟨rfl, rfl, z, rfl⟩)) hd hr) hc hs hQ
theorem goA {pc : Nat} {Ls : Array Slot} {z : Addr} {t : FieldType} {rest : List Value} {Q : Option Value → Heap → List Loc → Prop} {C S : Nat} {P : State → Outcome → Prop}
    (X : Stand p l e R s m args below meth c T locs cells slots) (hx : p.tables.exec = Jvm.exec) (hret : meth.sig.returnType = some t) (ht : t.isReference = true) (hn : narrow t (.ref z) = .ref z) (hlk : meth.locks = false) (hd : decode c.code pc = .ok (.areturn, 1))
    (hP : P = Pst s Q C S) (hc : cells ≤ C) (hs : slots ≤ S) (hQ : Q (some (.ref z)) T.heap locs) : Go p e below P (T.setTop (mkF m pc Ls (.ref z :: rest))) := by
  subst hP
  exact goRet (i := .areturn) X hret hlk (fun hr => retOut X hx hret hn (Or.inr (Or.inr (Or.inr (Or.inr ⟨rfl, ht, rfl⟩)))) hd hr) hc hs hQ
theorem goV {pc : Nat} {Ls : Array Slot} {Q : Option Value → Heap → List Loc → Prop} {C S : Nat} {P : State → Outcome → Prop}
    (X : Stand p l e R s m args below meth c T locs cells slots) (hx : p.tables.exec = Jvm.exec) (hret : meth.sig.returnType = none) (hlk : meth.locks = false) (hd : decode c.code pc = .ok (.return_, 1))
    (hP : P = Pst s Q C S) (hc : cells ≤ C) (hs : slots ≤ S) (hQ : Q none T.heap locs) : Go p e below P (T.setTop (mkF m pc Ls [])) := by
  subst hP
  obtain ⟨fs, hr, hrun, hended, hW, hsame⟩ := X.leave (v := none) (fun _ => rfl) hlk
  exact ⟨_, _, X.returnOut hx hret hd hr, hrun, hended, _, _, rfl, hQ, ⟨_, rfl⟩, hW, hsame.mono hc hs⟩
/-- a static call by its contract -/
theorem callCt (X : Stand p l e R s m args below meth c T locs cells slots) (hx : p.tables.exec = Jvm.exec) (hZ : Z.Warmed39 s.vm) (eT : T.heap = h) {own : String} {index : Nat} {y : MethodName} {bytes : ByteArray} {maxL : Nat} {ret : Option FieldType} {rm : Room} {Q : Option Value → Heap → List Loc → Prop} {argsL rest : List Value}
    (hown : s.vm.findClass own = some m.cls) (w1 : (Cond.methodLink own index y).before a0 Z = true) (w2 : (Cond.static y).before a0 Z = true) (w3 : (Cond.initialized y.cls).before a0 Z = true) (w4 : (Cond.code y bytes maxL ret).before a0 Z = true)
    (hy : y.cls ≠ "java/lang/invoke/MethodHandle" ∧ y.cls ≠ "java/lang/invoke/VarHandle") (hM : Ct l y bytes maxL ret [] rm Z argsL.toArray h Q) {W : Nat} (hf : rm.frames + 1 ≤ R.frames) (hl : W + (maxL + 11) + rm.locals ≤ R.locals)
    {g : JFrame} (hg : g.method = m) (hsize : g.locals.size = c.maxLocals) (hlen : ∀ sig, parseMethodDescriptor y.desc = some sig → argsL.length = sig.parameters.length) (hstack : g.stack = argsL.reverse ++ rest) (hW : 2 * g.monitorRoom + (rest.map fun v => v.category).sum ≤ W)
    (hdg : decode c.code g.pc = .ok (.invokestatic index, 3)) (hc : cells + rm.cells ≤ R.cells) (hs : slots + rm.slots ≤ R.slots) :
    ∃ (v : Option Value) (T' : State) (L : List Loc), Stand p l e R s m args below meth c T' (locs ++ L) (cells + rm.cells) (slots + rm.slots) ∧ Q v T'.heap L ∧ ∀ target, Steps p.tables e below (T'.setTop { g with pc := g.pc + 3, stack := v.toList ++ rest }) target → Steps p.tables e below (T.setTop g) target := by
  subst eT
  obtain ⟨v, _, ⟨T', L', k', n'⟩, -, X', ⟨Lc, hQ, l18, y18, z18⟩, st⟩ := Jvm.LawKit.callS X hx (y := y) hown (mvT hZ w1) (mvT hZ w2) (mvT hZ w3) (mvT hZ w4) hy (backOf (W := W) hM hZ w4 w3 hf hl) hg hsize hlen hstack hW hdg (fun _ _ => ⟨rfl, rfl, hc, hs⟩)
  dsimp only [Pt.U, Pt.locs, Pt.cells, Pt.slots] at X' l18 y18 z18 st hQ
  subst l18 y18 z18
  exact ⟨v, T', Lc, X', hQ, st⟩
/-- a constructor by its contract -/
theorem callCtor (X : Stand p l e R s m args below meth c T locs cells slots) (hx : p.tables.exec = Jvm.exec) (hZ : Z.Warmed39 s.vm) (eT : T.heap = h) {own : String} {index : Nat} {y : MethodName} (hy1 : y.name = "<init>") {bytes : ByteArray} {maxL : Nat} {rm : Room} {Q : Option Value → Heap → List Loc → Prop} {a : Addr} {argsL rest : List Value}
    (hown : s.vm.findClass own = some m.cls) (w1 : (Cond.methodLink own index y).before a0 Z = true) (w2 : (Cond.instanceMethod y).before a0 Z = true) (w3 : (Cond.initialized y.cls).before a0 Z = true) (w4 : (Cond.code y bytes maxL none).before a0 Z = true)
    (hy : y.cls ≠ "java/lang/invoke/MethodHandle" ∧ y.cls ≠ "java/lang/invoke/VarHandle") (hM : Ct l y bytes maxL none [] rm Z (.ref a :: argsL).toArray h Q) {W : Nat} (hf : rm.frames + 1 ≤ R.frames) (hl : W + (maxL + 11) + rm.locals ≤ R.locals)
    {g : JFrame} (hg : g.method = m) (hsize : g.locals.size = c.maxLocals) (hlen : ∀ sig, parseMethodDescriptor y.desc = some sig → argsL.length = sig.parameters.length) (hstack : g.stack = argsL.reverse ++ .ref a :: rest) (hW : 2 * g.monitorRoom + (rest.map fun v => v.category).sum ≤ W)
    (hdg : decode c.code g.pc = .ok (.invokespecial index, 3)) (hc : cells + rm.cells ≤ R.cells) (hs : slots + rm.slots ≤ R.slots) :
    ∃ (v : Option Value) (T' : State) (L : List Loc), Stand p l e R s m args below meth c T' (locs ++ L) (cells + rm.cells) (slots + rm.slots) ∧ Q v T'.heap L ∧ ∀ target, Steps p.tables e below (T'.setTop { g with pc := g.pc + 3, stack := v.toList ++ rest }) target → Steps p.tables e below (T.setTop g) target := by
  subst eT
  obtain ⟨v, _, ⟨T', L', k', n'⟩, -, X', ⟨Lc, hQ, l18, y18, z18⟩, st⟩ := X.specialBack hx (y := y) hy1 hown (mvT hZ w1) (mvT hZ w2) (mvT hZ w4) hy (backOf (W := W) hM hZ w4 w3 hf hl) hg hsize (Steps.refl _) hlen hstack hW hdg (fun _ _ => ⟨rfl, rfl, hc, hs⟩)
  dsimp only [Pt.U, Pt.locs, Pt.cells, Pt.slots] at X' l18 y18 z18 st hQ
  subst l18 y18 z18
  exact ⟨v, T', Lc, X', hQ, fun _ k => st.trans k⟩
/-- an instance method that its own class selects, by its contract -/
theorem callCv (X : Stand p l e R s m args below meth c T locs cells slots) (hx : p.tables.exec = Jvm.exec) (hZ : Z.Warmed39 s.vm) (eT : T.heap = h) {own : String} {index : Nat} {y : MethodName} {bytes : ByteArray} {maxL : Nat} {ret : Option FieldType} {rm : Room} {Q : Option Value → Heap → List Loc → Prop} {a : Addr} {argsL rest : List Value}
    (hown : s.vm.findClass own = some m.cls) (w1 : (Cond.methodLink own index y).before a0 Z = true) (w5 : (Cond.declares y).before a0 Z = true) (w6 : (Cond.selects y.cls y y).before a0 Z = true) (w2 : (Cond.instanceMethod y).before a0 Z = true) (w3 : (Cond.initialized y.cls).before a0 Z = true) (w4 : (Cond.code y bytes maxL ret).before a0 Z = true)
    (hy : y.cls ≠ "java/lang/invoke/MethodHandle" ∧ y.cls ≠ "java/lang/invoke/VarHandle") (E : Exa Z h a y.cls) (hM : Ct l y bytes maxL ret [] rm Z (.ref a :: argsL).toArray h Q) {W : Nat} (hf : rm.frames + 1 ≤ R.frames) (hl : W + (maxL + 11) + rm.locals ≤ R.locals)
    {g : JFrame} (hg : g.method = m) (hsize : g.locals.size = c.maxLocals) (hlen : ∀ sig, parseMethodDescriptor y.desc = some sig → argsL.length = sig.parameters.length) (hstack : g.stack = argsL.reverse ++ .ref a :: rest) (hW : 2 * g.monitorRoom + (rest.map fun v => v.category).sum ≤ W)
    (hdg : decode c.code g.pc = .ok (.invokevirtual index, 3)) (hc : cells + rm.cells ≤ R.cells) (hs : slots + rm.slots ≤ R.slots) :
    ∃ (v : Option Value) (T' : State) (L : List Loc), Stand p l e R s m args below meth c T' (locs ++ L) (cells + rm.cells) (slots + rm.slots) ∧ Q v T'.heap L ∧ ∀ target, Steps p.tables e below (T'.setTop { g with pc := g.pc + 3, stack := v.toList ++ rest }) target → Steps p.tables e below (T.setTop g) target := by
  subst eT
  obtain ⟨cq, kq, qa, qb, qc⟩ := isOf hZ rfl E
  obtain ⟨v, _, ⟨T', L', k', n'⟩, -, X', ⟨Lc, hQ, l18, y18, z18⟩, st⟩ := X.virtualBack hx (y := y) (z := y) hown (mvT hZ w1) (mvT hZ w5) (notFace_of_selects (args := #[]) (mvT hZ w6)) (mvT hZ w6) (mvT hZ w2) hy (backOf (W := W) hM hZ w4 w3 hf hl) qa qc hg hsize (Steps.refl _) hlen hstack hW hdg (fun _ _ => ⟨rfl, rfl, hc, hs⟩)
  dsimp only [Pt.U, Pt.locs, Pt.cells, Pt.slots] at X' l18 y18 z18 st hQ
  subst l18 y18 z18
  exact ⟨v, T', Lc, X', hQ, fun _ k => st.trans k⟩
/-- a private instance method by its contract -/
theorem callCp (X : Stand p l e R s m args below meth c T locs cells slots) (hx : p.tables.exec = Jvm.exec) (hZ : Z.Warmed39 s.vm) (eT : T.heap = h) {own : String} {index : Nat} {y : MethodName} {bytes : ByteArray} {maxL k : Nat} {ret : Option FieldType} {rm : Room} {Q : Option Value → Heap → List Loc → Prop} {a : Addr} {argsL rest : List Value}
    (hown : s.vm.findClass own = some m.cls) (w1 : (Cond.methodLink own index y).before a0 Z = true) (w2 : (Cond.instanceMethod y).before a0 Z = true) (w7 : (Cond.privateMethod y).before a0 Z = true) (wi : (Cond.instantiable y.cls k).before a0 Z = true) (w3 : (Cond.initialized y.cls).before a0 Z = true) (w4 : (Cond.code y bytes maxL ret).before a0 Z = true)
    (hy : y.cls ≠ "java/lang/invoke/MethodHandle" ∧ y.cls ≠ "java/lang/invoke/VarHandle") (E : Exa Z h a y.cls) (hM : Ct l y bytes maxL ret [] rm Z (.ref a :: argsL).toArray h Q) {W : Nat} (hf : rm.frames + 1 ≤ R.frames) (hl : W + (maxL + 11) + rm.locals ≤ R.locals)
    {g : JFrame} (hg : g.method = m) (hsize : g.locals.size = c.maxLocals) (hlen : ∀ sig, parseMethodDescriptor y.desc = some sig → argsL.length = sig.parameters.length) (hstack : g.stack = argsL.reverse ++ .ref a :: rest) (hW : 2 * g.monitorRoom + (rest.map fun v => v.category).sum ≤ W)
    (hdg : decode c.code g.pc = .ok (.invokevirtual index, 3)) (hc : cells + rm.cells ≤ R.cells) (hs : slots + rm.slots ≤ R.slots) :
    ∃ (v : Option Value) (T' : State) (L : List Loc), Stand p l e R s m args below meth c T' (locs ++ L) (cells + rm.cells) (slots + rm.slots) ∧ Q v T'.heap L ∧ ∀ target, Steps p.tables e below (T'.setTop { g with pc := g.pc + 3, stack := v.toList ++ rest }) target → Steps p.tables e below (T.setTop g) target := by
  subst eT
  obtain ⟨cq, q1, q2⟩ := E.cell
  have hpriv : s.PrivateAt y := Cond.privateMethod_at (mvP hZ w7 (args := #[]))
  obtain ⟨cc, kk, i1, i2, -, i4, -⟩ := Cond.instantiable_spec (mvT (args := args) hZ wi)
  have hni : kk.isInterface = false := by simp only [Bool.or_eq_false_iff] at i4; exact i4.1
  have hsel := selects_self_of_private (args := args) i1 i2 hni hpriv (mvT hZ w2) hy
  obtain ⟨v, _, ⟨T', L', k', n'⟩, -, X', ⟨Lc, hQ, l18, y18, z18⟩, st⟩ := X.privateBack hx (y := y) hown (mvT hZ w1) (mvT hZ w2) hsel hpriv (mvT hZ w4) hy (backOf (W := W) hM hZ w4 w3 hf hl) hg hsize (Steps.refl _) q1 q2 hlen hstack hW hdg (fun _ _ => ⟨rfl, rfl, hc, hs⟩)
  dsimp only [Pt.U, Pt.locs, Pt.cells, Pt.slots] at X' l18 y18 z18 st hQ
  subst l18 y18 z18
  exact ⟨v, T', Lc, X', hQ, fun _ k => st.trans k⟩
end OwnGo
end Jvm.RoadKit
namespace Jvm.Pilot.@@N@@
open Jvm Jvm.ClassFile Sem Op Lib Jvm.Free Jvm.Stand Jvm.LawKit Jvm.RoadKit Bundle Jvm.Pilot.@@N@@.Jvm.D
open Jvm.Kit
def own_bo (x : Int32) : Int32 := if x < 56448 then -1 else if 56575 < x then -1 else x - 56320
def own_sb (x : Int32) : Int32 := if x < 56448 then 0 else if 56575 < x then 0 else 1
theorem own_lti {x : Int32} {r : Int32} {k : Int} (e : r.toInt = k) : x < r ↔ x.toInt < k := by rw [Int32.lt_iff_toInt_lt, e]
theorem own_gti {x : Int32} {r : Int32} {k : Int} (e : r.toInt = k) : r < x ↔ k < x.toInt := by rw [Int32.lt_iff_toInt_lt, e]
theorem own_bo_cases (x : Int32) : ((x.toInt < 56448 ∨ 56575 < x.toInt) ∧ own_bo x = -1 ∧ own_sb x = 0) ∨ (56448 ≤ x.toInt ∧ x.toInt ≤ 56575 ∧ own_bo x = x - 56320 ∧ (x - 56320).toInt = x.toInt - 56320) := by
  have e1 : (56448 : Int32).toInt = 56448 := by decide
  have e2 : (56575 : Int32).toInt = 56575 := by decide
  have e3 : (56320 : Int32).toInt = 56320 := by decide
  unfold own_bo own_sb
  by_cases h1 : x < 56448
  · exact Or.inl ⟨Or.inl ((own_lti e1).mp h1), by rw [if_pos h1], by rw [if_pos h1]⟩
  · by_cases h2 : 56575 < x
    · exact Or.inl ⟨Or.inr ((own_gti e2).mp h2), by rw [if_neg h1, if_pos h2], by rw [if_neg h1, if_pos h2]⟩
    · rw [own_lti e1] at h1; rw [own_gti e2] at h2
      refine Or.inr ⟨by omega, by omega, ?_, ?_⟩
      · rw [if_neg (by rw [own_lti e1]; exact h1), if_neg (by rw [own_gti e2]; exact h2)]
      · rw [Kit.i32_sub (by rw [e3]; omega) (by rw [e3]; omega), e3]
theorem own_m1 {x : Int32} (h : own_bo x = -1) : own_sb x = 0 := by
  rcases own_bo_cases x with ⟨_, _, q⟩ | ⟨h1, h2, h3, h4⟩
  · exact q
  · have e : (-1 : Int32).toInt = -1 := by decide
    have : (own_bo x).toInt = -1 := by rw [h]; exact e
    rw [h3, h4] at this; omega
theorem own_n1 {x : Int32} (h : ¬ own_bo x = -1) : 128 ≤ (own_bo x).toInt ∧ (own_bo x).toInt ≤ 255 ∧ x = 56320 + own_bo x := by
  rcases own_bo_cases x with ⟨_, q, _⟩ | ⟨h1, h2, h3, h4⟩
  · exact absurd q h
  · refine ⟨by rw [h3, h4]; omega, by rw [h3, h4]; omega, ?_⟩
    rw [h3]
    have e3 : (56320 : Int32).toInt = 56320 := by decide
    exact Int32.toInt_inj.mp (by rw [Kit.i32_add (by rw [h4, e3]; omega) (by rw [h4, e3]; omega), h4, e3]; omega)
theorem own_b (y : Int32) : 128 ≤ ((128 : Int32) ||| (y &&& (127 : Int32))).toInt ∧ ((128 : Int32) ||| (y &&& (127 : Int32))).toInt ≤ 255 := by
  have h := Kit.i32_and_bounds y (m := 127) (by decide)
  rw [Kit.i32_nonneg, Int32.le_iff_toInt_le] at h
  have e : (127 : Int32).toInt = 127 := by decide
  generalize y &&& (127 : Int32) = z at h ⊢
  have hs := Kit.i32_small_of_nonneg (m := z) (Kit.i32_nonneg.mpr h.1)
  have e1 := Kit.i32_toInt_of_small hs
  have hz : z.toBitVec.toNat < 2 ^ 7 := by omega
  have e2 : ((128 : Int32) ||| z).toBitVec.toNat = 2 ^ 7 + z.toBitVec.toNat := by
    rw [Int32.toBitVec_or, BitVec.toNat_or]
    have q := Nat.two_pow_add_eq_or_of_lt hz 1
    rw [Nat.mul_one] at q; exact q.symm
  have e3 := Kit.i32_toInt_of_small (y := (128 : Int32) ||| z) (by rw [e2]; omega)
  rw [e3, e2]; omega
theorem own_rb {b : Int32} (h : 128 ≤ b.toInt ∧ b.toInt ≤ 255) : own_bo ((56320 : Int32) + b) = b := by
  have e3 : (56320 : Int32).toInt = 56320 := by decide
  have q : ((56320 : Int32) + b).toInt = 56320 + b.toInt := by rw [Kit.i32_add (by rw [e3]; omega) (by rw [e3]; omega), e3]
  rcases own_bo_cases ((56320 : Int32) + b) with ⟨h1, _, _⟩ | ⟨h1, h2, h3, h4⟩
  · omega
  · exact Int32.toInt_inj.mp (by rw [h3, h4, q]; omega)
theorem d_prog_95_method_4_0 : decode prog_95_method_4_code 0 = .ok (.iload_n 0, 1) := by decide +kernel
theorem d_prog_95_method_4_1 : decode prog_95_method_4_code 1 = .ok (.ldc 116, 2) := by decide +kernel
theorem d_prog_95_method_4_3 : decode prog_95_method_4_code 3 = .ok (.if_icmp .lt 16, 3) := by decide +kernel
theorem d_prog_95_method_4_19 : decode prog_95_method_4_code 19 = .ok (.iconst (-1), 1) := by decide +kernel
theorem d_prog_95_method_4_20 : decode prog_95_method_4_code 20 = .ok (.ireturn, 1) := by decide +kernel
theorem d_prog_95_method_4_6 : decode prog_95_method_4_code 6 = .ok (.iload_n 0, 1) := by decide +kernel
theorem d_prog_95_method_4_7 : decode prog_95_method_4_code 7 = .ok (.ldc 117, 2) := by decide +kernel
theorem d_prog_95_method_4_9 : decode prog_95_method_4_code 9 = .ok (.if_icmp .gt 10, 3) := by decide +kernel
theorem d_prog_95_method_4_12 : decode prog_95_method_4_code 12 = .ok (.iload_n 0, 1) := by decide +kernel
theorem d_prog_95_method_4_13 : decode prog_95_method_4_code 13 = .ok (.ldc 59, 2) := by decide +kernel
theorem d_prog_95_method_4_15 : decode prog_95_method_4_code 15 = .ok (.isub, 1) := by decide +kernel
theorem d_prog_95_method_4_16 : decode prog_95_method_4_code 16 = .ok (.goto 4, 3) := by decide +kernel
theorem pn_0 : plainName "com/example/walled_symbols/walledsymbols/report/Names" = true := by first | (simp [plainName, overriddenIn]; done) | decide +kernel
theorem ef_rmB (m : MethodId) (z : Int32) : entryFrame m #[(.int z)] 1 = mkF m 0 #[.val (.int z)] [] := by first | (simp [entryFrame, mkF, argsToLocals, Value.category]; done) | rfl
set_option maxRecDepth 65536 in
set_option maxHeartbeats 40000000 in
theorem rmB (l : Launch) (Z : State) (a0 : Array Value) (hw : ∀ d ∈ tables_1, d.before a0 Z = true) (z : Int32)  (h0 : Heap) (n0 : Nat) (Z0 : n0 ≤ h0.size)  :
    Ct l (⟨"com/example/walled_symbols/walledsymbols/report/Names", "byteOf", "(I)I"⟩ : MethodName) prog_95_method_4_code 1 (some .int) [] ({ frames := 0, cells := 0, slots := 0, locals := 0 } : Room) Z #[(.int z)] h0 (fun v h L => v = some (.int (own_bo z)) ∧ Fr n0 L ∧ h = h0) := by
  refine Ct.of (plainFor_of_name pn_0) (fun m => ef_rmB m z) ?_
  intro p e s m below meth c T0 X0 hx hby hml hret hlk hown hnm hZ e0 P hP
  refine Go.st (fun _ kt => XS.iloadN X0.here hx rfl (hb hby d_prog_95_method_4_0) rfl (X0.ldcInt hx hown (mvT hZ (hw _ (List.mem_of_getElem? (i := 5) rfl))) (g := (mkF m 1 #[.val (.int z)] [(.int z)])) rfl (hb hby d_prog_95_method_4_1) _ kt)) ?_
  show Go p e below P (T0.setTop (mkF m 3 #[.val (.int z)] [(.int (56448 : Int32)), (.int z)]))
  by_cases br1 : z < (56448 : Int32)
  · refine Go.st (fun _ kt => XS.icmpYes X0.here hx rfl (pc0 := 3) (pc' := 19) rfl (hb hby d_prog_95_method_4_3) rfl (tlt br1).1 (by decide) (by decide) kt) ?_
    show Go p e below P (T0.setTop (mkF m 19 #[.val (.int z)] []))
    refine Go.st (fun _ kt => XS.iconst X0.here hx rfl (hb hby d_prog_95_method_4_19) kt) ?_
    show Go p e below P (T0.setTop (mkF m 20 #[.val (.int z)] [(.int (-1 : Int32))]))
    exact goI X0 hx hret hlk (hb hby d_prog_95_method_4_20) hP (by decide) (by decide) ⟨by simp [own_bo, br1], (Fr.nil n0), e0⟩
  · refine Go.st (fun _ kt => XS.icmpNo X0.here hx rfl (hb hby d_prog_95_method_4_3) rfl (flt br1).1 kt) ?_
    show Go p e below P (T0.setTop (mkF m 6 #[.val (.int z)] []))
    refine Go.st (fun _ kt => XS.iloadN X0.here hx rfl (hb hby d_prog_95_method_4_6) rfl (X0.ldcInt hx hown (mvT hZ (hw _ (List.mem_of_getElem? (i := 7) rfl))) (g := (mkF m 7 #[.val (.int z)] [(.int z)])) rfl (hb hby d_prog_95_method_4_7) _ kt)) ?_
    show Go p e below P (T0.setTop (mkF m 9 #[.val (.int z)] [(.int (56575 : Int32)), (.int z)]))
    by_cases br2 : (56575 : Int32) < z
    · refine Go.st (fun _ kt => XS.icmpYes X0.here hx rfl (pc0 := 9) (pc' := 19) rfl (hb hby d_prog_95_method_4_9) rfl (tlt br2).2.2.1 (by decide) (by decide) kt) ?_
      show Go p e below P (T0.setTop (mkF m 19 #[.val (.int z)] []))
      refine Go.st (fun _ kt => XS.iconst X0.here hx rfl (hb hby d_prog_95_method_4_19) kt) ?_
      show Go p e below P (T0.setTop (mkF m 20 #[.val (.int z)] [(.int (-1 : Int32))]))
      exact goI X0 hx hret hlk (hb hby d_prog_95_method_4_20) hP (by decide) (by decide) ⟨by simp [own_bo, br1, br2], (Fr.nil n0), e0⟩
    · refine Go.st (fun _ kt => XS.icmpNo X0.here hx rfl (hb hby d_prog_95_method_4_9) rfl (flt br2).2.2.1 kt) ?_
      show Go p e below P (T0.setTop (mkF m 12 #[.val (.int z)] []))
      refine Go.st (fun _ kt => XS.iloadN X0.here hx rfl (hb hby d_prog_95_method_4_12) rfl (X0.ldcInt hx hown (mvT hZ (hw _ (List.mem_of_getElem? (i := 8) rfl))) (g := (mkF m 13 #[.val (.int z)] [(.int z)])) rfl (hb hby d_prog_95_method_4_13) _ (XS.isub X0.here hx rfl (hb hby d_prog_95_method_4_15) rfl (XS.goto X0.here hx rfl (pc0 := 16) (pc' := 20) rfl (hb hby d_prog_95_method_4_16) (by decide) (by decide) kt)))) ?_
      show Go p e below P (T0.setTop (mkF m 20 #[.val (.int z)] [(.int (z - (56320 : Int32)))]))
      exact goI X0 hx hret hlk (hb hby d_prog_95_method_4_20) hP (by decide) (by decide) ⟨by simp [own_bo, br1, br2], (Fr.nil n0), e0⟩
theorem d_method_2_0 : decode method_2_code 0 = .ok (.iload_n 0, 1) := by decide +kernel
theorem d_method_2_1 : decode method_2_code 1 = .ok (.ldc 7, 2) := by decide +kernel
theorem d_method_2_3 : decode method_2_code 3 = .ok (.if_icmp .lt 13, 3) := by decide +kernel
theorem d_method_2_16 : decode method_2_code 16 = .ok (.iconst 0, 1) := by decide +kernel
theorem d_method_2_17 : decode method_2_code 17 = .ok (.ireturn, 1) := by decide +kernel
theorem d_method_2_6 : decode method_2_code 6 = .ok (.iload_n 0, 1) := by decide +kernel
theorem d_method_2_7 : decode method_2_code 7 = .ok (.ldc 8, 2) := by decide +kernel
theorem d_method_2_9 : decode method_2_code 9 = .ok (.if_icmp .gt 7, 3) := by decide +kernel
theorem d_method_2_12 : decode method_2_code 12 = .ok (.iconst 1, 1) := by decide +kernel
theorem d_method_2_13 : decode method_2_code 13 = .ok (.goto 4, 3) := by decide +kernel
theorem pn_1 : plainName "com/example/walled_symbols/walledsymbols/report/NamesByteOfPinLaw" = true := by first | (simp [plainName, overriddenIn]; done) | decide +kernel
theorem ef_rmS (m : MethodId) (z : Int32) : entryFrame m #[(.int z)] 1 = mkF m 0 #[.val (.int z)] [] := by first | (simp [entryFrame, mkF, argsToLocals, Value.category]; done) | rfl
set_option maxRecDepth 65536 in
set_option maxHeartbeats 40000000 in
theorem rmS (l : Launch) (Z : State) (a0 : Array Value) (hw : ∀ d ∈ tables_1, d.before a0 Z = true) (z : Int32)  (h0 : Heap) (n0 : Nat) (Z0 : n0 ≤ h0.size)  :
    Ct l (⟨"com/example/walled_symbols/walledsymbols/report/NamesByteOfPinLaw", "standsForByte", "(I)Z"⟩ : MethodName) method_2_code 1 (some .boolean) [] ({ frames := 0, cells := 0, slots := 0, locals := 0 } : Room) Z #[(.int z)] h0 (fun v h L => v = some (.int (own_sb z)) ∧ Fr n0 L ∧ h = h0) := by
  refine Ct.of (plainFor_of_name pn_1) (fun m => ef_rmS m z) ?_
  intro p e s m below meth c T0 X0 hx hby hml hret hlk hown hnm hZ e0 P hP
  refine Go.st (fun _ kt => XS.iloadN X0.here hx rfl (hb hby d_method_2_0) rfl (X0.ldcInt hx hown (mvT hZ (hw _ (List.mem_of_getElem? (i := 16) rfl))) (g := (mkF m 1 #[.val (.int z)] [(.int z)])) rfl (hb hby d_method_2_1) _ kt)) ?_
  show Go p e below P (T0.setTop (mkF m 3 #[.val (.int z)] [(.int (56448 : Int32)), (.int z)]))
  by_cases br1 : z < (56448 : Int32)
  · refine Go.st (fun _ kt => XS.icmpYes X0.here hx rfl (pc0 := 3) (pc' := 16) rfl (hb hby d_method_2_3) rfl (tlt br1).1 (by decide) (by decide) kt) ?_
    show Go p e below P (T0.setTop (mkF m 16 #[.val (.int z)] []))
    refine Go.st (fun _ kt => XS.iconst X0.here hx rfl (hb hby d_method_2_16) kt) ?_
    show Go p e below P (T0.setTop (mkF m 17 #[.val (.int z)] [(.int (0 : Int32))]))
    exact goN X0 hx (t := .boolean) hret (by simp) hlk (hb hby d_method_2_17) hP (by decide) (by decide) ⟨by simp [own_sb, br1]; rfl, (Fr.nil n0), e0⟩
  · refine Go.st (fun _ kt => XS.icmpNo X0.here hx rfl (hb hby d_method_2_3) rfl (flt br1).1 kt) ?_
    show Go p e below P (T0.setTop (mkF m 6 #[.val (.int z)] []))
    refine Go.st (fun _ kt => XS.iloadN X0.here hx rfl (hb hby d_method_2_6) rfl (X0.ldcInt hx hown (mvT hZ (hw _ (List.mem_of_getElem? (i := 17) rfl))) (g := (mkF m 7 #[.val (.int z)] [(.int z)])) rfl (hb hby d_method_2_7) _ kt)) ?_
    show Go p e below P (T0.setTop (mkF m 9 #[.val (.int z)] [(.int (56575 : Int32)), (.int z)]))
    by_cases br2 : (56575 : Int32) < z
    · refine Go.st (fun _ kt => XS.icmpYes X0.here hx rfl (pc0 := 9) (pc' := 16) rfl (hb hby d_method_2_9) rfl (tlt br2).2.2.1 (by decide) (by decide) kt) ?_
      show Go p e below P (T0.setTop (mkF m 16 #[.val (.int z)] []))
      refine Go.st (fun _ kt => XS.iconst X0.here hx rfl (hb hby d_method_2_16) kt) ?_
      show Go p e below P (T0.setTop (mkF m 17 #[.val (.int z)] [(.int (0 : Int32))]))
      exact goN X0 hx (t := .boolean) hret (by simp) hlk (hb hby d_method_2_17) hP (by decide) (by decide) ⟨by simp [own_sb, br1, br2]; rfl, (Fr.nil n0), e0⟩
    · refine Go.st (fun _ kt => XS.icmpNo X0.here hx rfl (hb hby d_method_2_9) rfl (flt br2).2.2.1 kt) ?_
      show Go p e below P (T0.setTop (mkF m 12 #[.val (.int z)] []))
      refine Go.st (fun _ kt => XS.iconst X0.here hx rfl (hb hby d_method_2_12) (XS.goto X0.here hx rfl (pc0 := 13) (pc' := 17) rfl (hb hby d_method_2_13) (by decide) (by decide) kt)) ?_
      show Go p e below P (T0.setTop (mkF m 17 #[.val (.int z)] [(.int (1 : Int32))]))
      exact goN X0 hx (t := .boolean) hret (by simp) hlk (hb hby d_method_2_17) hP (by decide) (by decide) ⟨by simp [own_sb, br1, br2]; rfl, (Fr.nil n0), e0⟩
theorem d_method_3_0 : decode method_3_code 0 = .ok (.iload_n 1, 1) := by decide +kernel
theorem d_method_3_1 : decode method_3_code 1 = .ok (.iconst (-1), 1) := by decide +kernel
theorem d_method_3_2 : decode method_3_code 2 = .ok (.if_icmp .ne 16, 3) := by decide +kernel
theorem d_method_3_5 : decode method_3_code 5 = .ok (.iload_n 0, 1) := by decide +kernel
theorem pd_2 : parseMethodDescriptor "(I)Z" = some ⟨[.int], some .boolean⟩ := by decide +kernel
theorem d_method_3_6 : decode method_3_code 6 = .ok (.invokestatic 9, 3) := by decide +kernel
theorem d_method_3_9 : decode method_3_code 9 = .ok (.ifCond .ne 7, 3) := by decide +kernel
theorem d_method_3_12 : decode method_3_code 12 = .ok (.iconst 1, 1) := by decide +kernel
theorem d_method_3_13 : decode method_3_code 13 = .ok (.goto 4, 3) := by decide +kernel
theorem d_method_3_17 : decode method_3_code 17 = .ok (.ireturn, 1) := by decide +kernel
theorem d_method_3_18 : decode method_3_code 18 = .ok (.iload_n 1, 1) := by decide +kernel
theorem d_method_3_19 : decode method_3_code 19 = .ok (.sipush 128, 3) := by decide +kernel
theorem d_method_3_22 : decode method_3_code 22 = .ok (.if_icmp .lt 22, 3) := by decide +kernel
theorem d_method_3_25 : decode method_3_code 25 = .ok (.iload_n 1, 1) := by decide +kernel
theorem d_method_3_26 : decode method_3_code 26 = .ok (.sipush 255, 3) := by decide +kernel
theorem d_method_3_29 : decode method_3_code 29 = .ok (.if_icmp .gt 15, 3) := by decide +kernel
theorem d_method_3_32 : decode method_3_code 32 = .ok (.iload_n 0, 1) := by decide +kernel
theorem d_method_3_33 : decode method_3_code 33 = .ok (.ldc 15, 2) := by decide +kernel
theorem d_method_3_35 : decode method_3_code 35 = .ok (.iload_n 1, 1) := by decide +kernel
theorem d_method_3_36 : decode method_3_code 36 = .ok (.iadd, 1) := by decide +kernel
theorem d_method_3_37 : decode method_3_code 37 = .ok (.if_icmp .ne 7, 3) := by decide +kernel
theorem d_method_3_40 : decode method_3_code 40 = .ok (.iconst 1, 1) := by decide +kernel
theorem d_method_3_41 : decode method_3_code 41 = .ok (.goto 4, 3) := by decide +kernel
theorem d_method_3_45 : decode method_3_code 45 = .ok (.ireturn, 1) := by decide +kernel
theorem ef_rmC (m : MethodId) (z : Int32) (r : Int32) : entryFrame m #[(.int z), (.int r)] 2 = mkF m 0 #[.val (.int z), .val (.int r)] [] := by first | (simp [entryFrame, mkF, argsToLocals, Value.category]; done) | rfl
set_option maxRecDepth 65536 in
set_option maxHeartbeats 40000000 in
theorem rmC (l : Launch) (Z : State) (a0 : Array Value) (hw : ∀ d ∈ tables_1, d.before a0 Z = true) (z : Int32) (r : Int32)  (h0 : Heap) (n0 : Nat) (Z0 : n0 ≤ h0.size) (hr : r = own_bo z) :
    Ct l (⟨"com/example/walled_symbols/walledsymbols/report/NamesByteOfPinLaw", "characterized", "(II)Z"⟩ : MethodName) method_3_code 2 (some .boolean) [] ({ frames := 1, cells := 0, slots := 0, locals := 12 } : Room) Z #[(.int z), (.int r)] h0 (fun v h L => v = some (.int 1) ∧ Fr n0 L ∧ h = h0) := by
  refine Ct.of (plainFor_of_name pn_1) (fun m => ef_rmC m z r) ?_
  intro p e s m below meth c T0 X0 hx hby hml hret hlk hown hnm hZ e0 P hP
  refine Go.st (fun _ kt => XS.iloadN X0.here hx rfl (hb hby d_method_3_0) rfl (XS.iconst X0.here hx rfl (hb hby d_method_3_1) kt)) ?_
  show Go p e below P (T0.setTop (mkF m 2 #[.val (.int z), .val (.int r)] [(.int (-1 : Int32)), (.int r)]))
  by_cases br1 : r = (-1 : Int32)
  · refine Go.st (fun _ kt => XS.icmpNo X0.here hx rfl (hb hby d_method_3_2) rfl (teq br1).2 kt) ?_
    show Go p e below P (T0.setTop (mkF m 5 #[.val (.int z), .val (.int r)] []))
    refine Go.st (fun _ kt => XS.iloadN X0.here hx rfl (hb hby d_method_3_5) rfl kt) ?_
    show Go p e below P (T0.setTop (mkF m 6 #[.val (.int z), .val (.int r)] [(.int z)]))
    obtain ⟨_, T2, Lc2, X2, ⟨rfl, Nq2, eq2⟩, st2⟩ := callCt X0 hx hZ e0 (y := (⟨"com/example/walled_symbols/walledsymbols/report/NamesByteOfPinLaw", "standsForByte", "(I)Z"⟩ : MethodName)) (argsL := [(.int z)]) (rest := []) hown (hw _ (List.mem_of_getElem? (i := 13) rfl)) (hw _ (List.mem_of_getElem? (i := 14) rfl)) (hw _ (List.mem_of_getElem? (i := 11) rfl)) (hw _ (List.mem_of_getElem? (i := 15) rfl)) (by decide) (rmS l Z a0 hw z _ n0 Z0) (W := 0) (by decide) (by decide) (g := (mkF m 6 #[.val (.int z), .val (.int r)] [(.int z)])) rfl (by rw [hml]; rfl) (lenOf pd_2 rfl) rfl (by show 2 * 0 + _ ≤ _; exact Nat.le_of_eq rfl) (hb hby d_method_3_6) (by decide) (by decide)
    have N2 := Fr.app (Fr.nil n0) Nq2
    have e2 : T2.heap = h0 := eq2
    refine Go.st st2 ?_
    show Go p e below P (T2.setTop (mkF m 9 #[.val (.int z), .val (.int r)] [(.int (own_sb z))]))
    refine Go.st (fun _ kt => XS.ifNo X2.here hx rfl (hb hby d_method_3_9) rfl ((if0 _ _).trans (teq (own_m1 (hr ▸ br1))).2) (XS.iconst X2.here hx rfl (hb hby d_method_3_12) (XS.goto X2.here hx rfl (pc0 := 13) (pc' := 17) rfl (hb hby d_method_3_13) (by decide) (by decide) kt))) ?_
    show Go p e below P (T2.setTop (mkF m 17 #[.val (.int z), .val (.int r)] [(.int (1 : Int32))]))
    exact goN X2 hx (t := .boolean) hret (by simp) hlk (hb hby d_method_3_17) hP (by decide) (by decide) ⟨rfl, N2, e2⟩
  · refine Go.st (fun _ kt => XS.icmpYes X0.here hx rfl (pc0 := 2) (pc' := 18) rfl (hb hby d_method_3_2) rfl (feq br1).2 (by decide) (by decide) kt) ?_
    show Go p e below P (T0.setTop (mkF m 18 #[.val (.int z), .val (.int r)] []))
    refine Go.st (fun _ kt => XS.iloadN X0.here hx rfl (hb hby d_method_3_18) rfl (XS.sipush X0.here hx rfl (hb hby d_method_3_19) (XS.icmpNo X0.here hx rfl (hb hby d_method_3_22) rfl (flt (fun q => by rw [own_lti (k := 128) (by decide)] at q; have := own_n1 (hr ▸ br1); rw [hr] at q; omega)).1 (XS.iloadN X0.here hx rfl (hb hby d_method_3_25) rfl (XS.sipush X0.here hx rfl (hb hby d_method_3_26) (XS.icmpNo X0.here hx rfl (hb hby d_method_3_29) rfl (flt (fun q => by rw [own_gti (k := 255) (by decide)] at q; have := own_n1 (hr ▸ br1); rw [hr] at q; omega)).2.2.1 (XS.iloadN X0.here hx rfl (hb hby d_method_3_32) rfl (X0.ldcInt hx hown (mvT hZ (hw _ (List.mem_of_getElem? (i := 6) rfl))) (g := (mkF m 33 #[.val (.int z), .val (.int r)] [(.int z)])) rfl (hb hby d_method_3_33) _ kt)))))))) ?_
    show Go p e below P (T0.setTop (mkF m 35 #[.val (.int z), .val (.int r)] [(.int (56320 : Int32)), (.int z)]))
    refine Go.st (fun _ kt => XS.iloadN X0.here hx rfl (hb hby d_method_3_35) rfl (XS.iadd X0.here hx rfl (hb hby d_method_3_36) rfl (XS.icmpNo X0.here hx rfl (hb hby d_method_3_37) rfl (teq (by have := (own_n1 (hr ▸ br1)).2.2; rw [← hr] at this; exact this)).2 (XS.iconst X0.here hx rfl (hb hby d_method_3_40) (XS.goto X0.here hx rfl (pc0 := 41) (pc' := 45) rfl (hb hby d_method_3_41) (by decide) (by decide) kt))))) ?_
    show Go p e below P (T0.setTop (mkF m 45 #[.val (.int z), .val (.int r)] [(.int (1 : Int32))]))
    exact goN X0 hx (t := .boolean) hret (by simp) hlk (hb hby d_method_3_45) hP (by decide) (by decide) ⟨rfl, (Fr.nil n0), e0⟩
theorem pd_3 : parseMethodDescriptor "(I)I" = some ⟨[.int], some .int⟩ := by decide +kernel
theorem pd_4 : parseMethodDescriptor "(II)Z" = some ⟨[.int, .int], some .boolean⟩ := by decide +kernel
theorem ef_rm0 (m : MethodId) (u : Int32) (y : Int32) : entryFrame m #[(.int u), (.int y)] maxLocals = mkF m 0 #[.val (.int u), .val (.int y), .unset, .unset, .unset, .unset, .unset] [] := by first | (simp [entryFrame, mkF, argsToLocals, Value.category, maxLocals]; done) | rfl
set_option maxRecDepth 65536 in
set_option maxHeartbeats 40000000 in
theorem rm0 (l : Launch) (Z : State) (a0 : Array Value) (hw : ∀ d ∈ tables_1, d.before a0 Z = true) (ws : List Jvm.Cond) (u : Int32) (y : Int32)  (h0 : Heap) (n0 : Nat) (Z0 : n0 ≤ h0.size)  :
    Ct l x code maxLocals ret ws room_1 Z #[(.int u), (.int y)] h0 (fun v h L => v = some (.int 1) ∧ Fr n0 L) := by
  refine Ct.of (plainFor_of_name pn_1) (fun m => ef_rm0 m u y) ?_
  intro p e s m below meth c T0 X0 hx hby hml hret hlk hown hnm hZ e0 P hP
  refine Go.st (fun _ kt => X0.ldcInt hx hown (mvT hZ (hw _ (List.mem_of_getElem? (i := 0) rfl))) (g := (mkF m 0 #[.val (.int u), .val (.int y), .unset, .unset, .unset, .unset, .unset] [])) rfl (hb hby at_0) _ (XS.iloadN X0.here hx rfl (hb hby at_2) rfl (XS.sipush X0.here hx rfl (hb hby at_3) (XS.iand X0.here hx rfl (hb hby at_6) rfl (XS.iadd X0.here hx rfl (hb hby at_7) rfl (XS.istoreN X0.here hx rfl (hb hby at_8) rfl (l' := #[.val (.int u), .val (.int y), .val (.int ((56384 : Int32) + (y &&& (255 : Int32)))), .unset, .unset, .unset, .unset]) rfl (XS.sipush X0.here hx rfl (hb hby at_9) (XS.iloadN X0.here hx rfl (hb hby at_12) rfl kt)))))))) ?_
  show Go p e below P (T0.setTop (mkF m 13 #[.val (.int u), .val (.int y), .val (.int ((56384 : Int32) + (y &&& (255 : Int32)))), .unset, .unset, .unset, .unset] [(.int y), (.int (128 : Int32))]))
  refine Go.st (fun _ kt => XS.bipush X0.here hx rfl (hb hby at_13) (XS.iand X0.here hx rfl (hb hby at_15) rfl (XS.ior X0.here hx rfl (hb hby at_16) rfl (XS.istoreN X0.here hx rfl (hb hby at_17) rfl (l' := #[.val (.int u), .val (.int y), .val (.int ((56384 : Int32) + (y &&& (255 : Int32)))), .val (.int ((128 : Int32) ||| (y &&& (127 : Int32)))), .unset, .unset, .unset]) rfl (XS.iloadN X0.here hx rfl (hb hby at_18) rfl kt))))) ?_
  show Go p e below P (T0.setTop (mkF m 19 #[.val (.int u), .val (.int y), .val (.int ((56384 : Int32) + (y &&& (255 : Int32)))), .val (.int ((128 : Int32) ||| (y &&& (127 : Int32)))), .unset, .unset, .unset] [(.int u)]))
  obtain ⟨_, T1, Lc1, X1, ⟨rfl, Nq1, eq1⟩, st1⟩ := callCt X0 hx hZ e0 (y := (⟨"com/example/walled_symbols/walledsymbols/report/Names", "byteOf", "(I)I"⟩ : MethodName)) (argsL := [(.int u)]) (rest := []) hown (hw _ (List.mem_of_getElem? (i := 1) rfl)) (hw _ (List.mem_of_getElem? (i := 2) rfl)) (hw _ (List.mem_of_getElem? (i := 3) rfl)) (hw _ (List.mem_of_getElem? (i := 4) rfl)) (by decide) (rmB l Z a0 hw u _ n0 Z0) (W := 0) (by decide) (by decide) (g := (mkF m 19 #[.val (.int u), .val (.int y), .val (.int ((56384 : Int32) + (y &&& (255 : Int32)))), .val (.int ((128 : Int32) ||| (y &&& (127 : Int32)))), .unset, .unset, .unset] [(.int u)])) rfl (by rw [hml]; rfl) (lenOf pd_3 rfl) rfl (by show 2 * 0 + _ ≤ _; exact Nat.le_of_eq rfl) (hb hby at_19) (by decide) (by decide)
  have N1 := Fr.app (Fr.nil n0) Nq1
  have e1 : T1.heap = h0 := eq1
  refine Go.st st1 ?_
  show Go p e below P (T1.setTop (mkF m 22 #[.val (.int u), .val (.int y), .val (.int ((56384 : Int32) + (y &&& (255 : Int32)))), .val (.int ((128 : Int32) ||| (y &&& (127 : Int32)))), .unset, .unset, .unset] [(.int (own_bo u))]))
  refine Go.st (fun _ kt => XS.istore X1.here hx rfl (hb hby at_22) rfl (l' := #[.val (.int u), .val (.int y), .val (.int ((56384 : Int32) + (y &&& (255 : Int32)))), .val (.int ((128 : Int32) ||| (y &&& (127 : Int32)))), .val (.int (own_bo u)), .unset, .unset]) rfl (XS.iloadN X1.here hx rfl (hb hby at_24) rfl kt)) ?_
  show Go p e below P (T1.setTop (mkF m 25 #[.val (.int u), .val (.int y), .val (.int ((56384 : Int32) + (y &&& (255 : Int32)))), .val (.int ((128 : Int32) ||| (y &&& (127 : Int32)))), .val (.int (own_bo u)), .unset, .unset] [(.int ((56384 : Int32) + (y &&& (255 : Int32))))]))
  obtain ⟨_, T2, Lc2, X2, ⟨rfl, Nq2, eq2⟩, st2⟩ := callCt X1 hx hZ e1 (y := (⟨"com/example/walled_symbols/walledsymbols/report/Names", "byteOf", "(I)I"⟩ : MethodName)) (argsL := [(.int ((56384 : Int32) + (y &&& (255 : Int32))))]) (rest := []) hown (hw _ (List.mem_of_getElem? (i := 1) rfl)) (hw _ (List.mem_of_getElem? (i := 2) rfl)) (hw _ (List.mem_of_getElem? (i := 3) rfl)) (hw _ (List.mem_of_getElem? (i := 4) rfl)) (by decide) (rmB l Z a0 hw ((56384 : Int32) + (y &&& (255 : Int32))) _ n0 Z0) (W := 0) (by decide) (by decide) (g := (mkF m 25 #[.val (.int u), .val (.int y), .val (.int ((56384 : Int32) + (y &&& (255 : Int32)))), .val (.int ((128 : Int32) ||| (y &&& (127 : Int32)))), .val (.int (own_bo u)), .unset, .unset] [(.int ((56384 : Int32) + (y &&& (255 : Int32))))])) rfl (by rw [hml]; rfl) (lenOf pd_3 rfl) rfl (by show 2 * 0 + _ ≤ _; exact Nat.le_of_eq rfl) (hb hby at_25) (by decide) (by decide)
  have N2 := Fr.app N1 Nq2
  have e2 : T2.heap = h0 := eq2
  refine Go.st st2 ?_
  show Go p e below P (T2.setTop (mkF m 28 #[.val (.int u), .val (.int y), .val (.int ((56384 : Int32) + (y &&& (255 : Int32)))), .val (.int ((128 : Int32) ||| (y &&& (127 : Int32)))), .val (.int (own_bo u)), .unset, .unset] [(.int (own_bo ((56384 : Int32) + (y &&& (255 : Int32)))))]))
  refine Go.st (fun _ kt => XS.istore X2.here hx rfl (hb hby at_28) rfl (l' := #[.val (.int u), .val (.int y), .val (.int ((56384 : Int32) + (y &&& (255 : Int32)))), .val (.int ((128 : Int32) ||| (y &&& (127 : Int32)))), .val (.int (own_bo u)), .val (.int (own_bo ((56384 : Int32) + (y &&& (255 : Int32))))), .unset]) rfl (X2.ldcInt hx hown (mvT hZ (hw _ (List.mem_of_getElem? (i := 6) rfl))) (g := (mkF m 30 #[.val (.int u), .val (.int y), .val (.int ((56384 : Int32) + (y &&& (255 : Int32)))), .val (.int ((128 : Int32) ||| (y &&& (127 : Int32)))), .val (.int (own_bo u)), .val (.int (own_bo ((56384 : Int32) + (y &&& (255 : Int32))))), .unset] [])) rfl (hb hby at_30) _ (XS.iloadN X2.here hx rfl (hb hby at_32) rfl (XS.iadd X2.here hx rfl (hb hby at_33) rfl kt)))) ?_
  show Go p e below P (T2.setTop (mkF m 34 #[.val (.int u), .val (.int y), .val (.int ((56384 : Int32) + (y &&& (255 : Int32)))), .val (.int ((128 : Int32) ||| (y &&& (127 : Int32)))), .val (.int (own_bo u)), .val (.int (own_bo ((56384 : Int32) + (y &&& (255 : Int32))))), .unset] [(.int ((56320 : Int32) + ((128 : Int32) ||| (y &&& (127 : Int32)))))]))
  obtain ⟨_, T3, Lc3, X3, ⟨rfl, Nq3, eq3⟩, st3⟩ := callCt X2 hx hZ e2 (y := (⟨"com/example/walled_symbols/walledsymbols/report/Names", "byteOf", "(I)I"⟩ : MethodName)) (argsL := [(.int ((56320 : Int32) + ((128 : Int32) ||| (y &&& (127 : Int32)))))]) (rest := []) hown (hw _ (List.mem_of_getElem? (i := 1) rfl)) (hw _ (List.mem_of_getElem? (i := 2) rfl)) (hw _ (List.mem_of_getElem? (i := 3) rfl)) (hw _ (List.mem_of_getElem? (i := 4) rfl)) (by decide) (rmB l Z a0 hw ((56320 : Int32) + ((128 : Int32) ||| (y &&& (127 : Int32)))) _ n0 Z0) (W := 0) (by decide) (by decide) (g := (mkF m 34 #[.val (.int u), .val (.int y), .val (.int ((56384 : Int32) + (y &&& (255 : Int32)))), .val (.int ((128 : Int32) ||| (y &&& (127 : Int32)))), .val (.int (own_bo u)), .val (.int (own_bo ((56384 : Int32) + (y &&& (255 : Int32))))), .unset] [(.int ((56320 : Int32) + ((128 : Int32) ||| (y &&& (127 : Int32)))))])) rfl (by rw [hml]; rfl) (lenOf pd_3 rfl) rfl (by show 2 * 0 + _ ≤ _; exact Nat.le_of_eq rfl) (hb hby at_34) (by decide) (by decide)
  have N3 := Fr.app N2 Nq3
  have e3 : T3.heap = h0 := eq3
  refine Go.st st3 ?_
  show Go p e below P (T3.setTop (mkF m 37 #[.val (.int u), .val (.int y), .val (.int ((56384 : Int32) + (y &&& (255 : Int32)))), .val (.int ((128 : Int32) ||| (y &&& (127 : Int32)))), .val (.int (own_bo u)), .val (.int (own_bo ((56384 : Int32) + (y &&& (255 : Int32))))), .unset] [(.int (own_bo ((56320 : Int32) + ((128 : Int32) ||| (y &&& (127 : Int32))))))]))
  refine Go.st (fun _ kt => XS.istore X3.here hx rfl (hb hby at_37) rfl (l' := #[.val (.int u), .val (.int y), .val (.int ((56384 : Int32) + (y &&& (255 : Int32)))), .val (.int ((128 : Int32) ||| (y &&& (127 : Int32)))), .val (.int (own_bo u)), .val (.int (own_bo ((56384 : Int32) + (y &&& (255 : Int32))))), .val (.int (own_bo ((56320 : Int32) + ((128 : Int32) ||| (y &&& (127 : Int32))))))]) rfl (XS.iloadN X3.here hx rfl (hb hby at_39) rfl (XS.iload X3.here hx rfl (hb hby at_40) rfl kt))) ?_
  show Go p e below P (T3.setTop (mkF m 42 #[.val (.int u), .val (.int y), .val (.int ((56384 : Int32) + (y &&& (255 : Int32)))), .val (.int ((128 : Int32) ||| (y &&& (127 : Int32)))), .val (.int (own_bo u)), .val (.int (own_bo ((56384 : Int32) + (y &&& (255 : Int32))))), .val (.int (own_bo ((56320 : Int32) + ((128 : Int32) ||| (y &&& (127 : Int32))))))] [(.int (own_bo u)), (.int u)]))
  obtain ⟨_, T4, Lc4, X4, ⟨rfl, Nq4, eq4⟩, st4⟩ := callCt X3 hx hZ e3 (y := (⟨"com/example/walled_symbols/walledsymbols/report/NamesByteOfPinLaw", "characterized", "(II)Z"⟩ : MethodName)) (argsL := [(.int u), (.int (own_bo u))]) (rest := []) hown (hw _ (List.mem_of_getElem? (i := 9) rfl)) (hw _ (List.mem_of_getElem? (i := 10) rfl)) (hw _ (List.mem_of_getElem? (i := 11) rfl)) (hw _ (List.mem_of_getElem? (i := 12) rfl)) (by decide) (rmC l Z a0 hw u (own_bo u) _ n0 Z0 rfl) (W := 0) (by decide) (by decide) (g := (mkF m 42 #[.val (.int u), .val (.int y), .val (.int ((56384 : Int32) + (y &&& (255 : Int32)))), .val (.int ((128 : Int32) ||| (y &&& (127 : Int32)))), .val (.int (own_bo u)), .val (.int (own_bo ((56384 : Int32) + (y &&& (255 : Int32))))), .val (.int (own_bo ((56320 : Int32) + ((128 : Int32) ||| (y &&& (127 : Int32))))))] [(.int (own_bo u)), (.int u)])) rfl (by rw [hml]; rfl) (lenOf pd_4 rfl) rfl (by show 2 * 0 + _ ≤ _; exact Nat.le_of_eq rfl) (hb hby at_42) (by decide) (by decide)
  have N4 := Fr.app N3 Nq4
  have e4 : T4.heap = h0 := eq4
  refine Go.st st4 ?_
  show Go p e below P (T4.setTop (mkF m 45 #[.val (.int u), .val (.int y), .val (.int ((56384 : Int32) + (y &&& (255 : Int32)))), .val (.int ((128 : Int32) ||| (y &&& (127 : Int32)))), .val (.int (own_bo u)), .val (.int (own_bo ((56384 : Int32) + (y &&& (255 : Int32))))), .val (.int (own_bo ((56320 : Int32) + ((128 : Int32) ||| (y &&& (127 : Int32))))))] [(.int (1 : Int32))]))
  refine Go.st (fun _ kt => XS.ifNo X4.here hx rfl (hb hby at_45) rfl ((if0 _ _).trans (feq (by decide : ¬ ((1 : Int32) = (0 : Int32)))).1) (XS.iloadN X4.here hx rfl (hb hby at_48) rfl (XS.iload X4.here hx rfl (hb hby at_49) rfl kt))) ?_
  show Go p e below P (T4.setTop (mkF m 51 #[.val (.int u), .val (.int y), .val (.int ((56384 : Int32) + (y &&& (255 : Int32)))), .val (.int ((128 : Int32) ||| (y &&& (127 : Int32)))), .val (.int (own_bo u)), .val (.int (own_bo ((56384 : Int32) + (y &&& (255 : Int32))))), .val (.int (own_bo ((56320 : Int32) + ((128 : Int32) ||| (y &&& (127 : Int32))))))] [(.int (own_bo ((56384 : Int32) + (y &&& (255 : Int32))))), (.int ((56384 : Int32) + (y &&& (255 : Int32))))]))
  obtain ⟨_, T5, Lc5, X5, ⟨rfl, Nq5, eq5⟩, st5⟩ := callCt X4 hx hZ e4 (y := (⟨"com/example/walled_symbols/walledsymbols/report/NamesByteOfPinLaw", "characterized", "(II)Z"⟩ : MethodName)) (argsL := [(.int ((56384 : Int32) + (y &&& (255 : Int32)))), (.int (own_bo ((56384 : Int32) + (y &&& (255 : Int32)))))]) (rest := []) hown (hw _ (List.mem_of_getElem? (i := 9) rfl)) (hw _ (List.mem_of_getElem? (i := 10) rfl)) (hw _ (List.mem_of_getElem? (i := 11) rfl)) (hw _ (List.mem_of_getElem? (i := 12) rfl)) (by decide) (rmC l Z a0 hw ((56384 : Int32) + (y &&& (255 : Int32))) (own_bo ((56384 : Int32) + (y &&& (255 : Int32)))) _ n0 Z0 rfl) (W := 0) (by decide) (by decide) (g := (mkF m 51 #[.val (.int u), .val (.int y), .val (.int ((56384 : Int32) + (y &&& (255 : Int32)))), .val (.int ((128 : Int32) ||| (y &&& (127 : Int32)))), .val (.int (own_bo u)), .val (.int (own_bo ((56384 : Int32) + (y &&& (255 : Int32))))), .val (.int (own_bo ((56320 : Int32) + ((128 : Int32) ||| (y &&& (127 : Int32))))))] [(.int (own_bo ((56384 : Int32) + (y &&& (255 : Int32))))), (.int ((56384 : Int32) + (y &&& (255 : Int32))))])) rfl (by rw [hml]; rfl) (lenOf pd_4 rfl) rfl (by show 2 * 0 + _ ≤ _; exact Nat.le_of_eq rfl) (hb hby at_51) (by decide) (by decide)
  have N5 := Fr.app N4 Nq5
  have e5 : T5.heap = h0 := eq5
  refine Go.st st5 ?_
  show Go p e below P (T5.setTop (mkF m 54 #[.val (.int u), .val (.int y), .val (.int ((56384 : Int32) + (y &&& (255 : Int32)))), .val (.int ((128 : Int32) ||| (y &&& (127 : Int32)))), .val (.int (own_bo u)), .val (.int (own_bo ((56384 : Int32) + (y &&& (255 : Int32))))), .val (.int (own_bo ((56320 : Int32) + ((128 : Int32) ||| (y &&& (127 : Int32))))))] [(.int (1 : Int32))]))
  refine Go.st (fun _ kt => XS.ifNo X5.here hx rfl (hb hby at_54) rfl ((if0 _ _).trans (feq (by decide : ¬ ((1 : Int32) = (0 : Int32)))).1) (XS.iload X5.here hx rfl (hb hby at_57) rfl (XS.iloadN X5.here hx rfl (hb hby at_59) rfl (XS.icmpNo X5.here hx rfl (hb hby at_60) rfl (teq (own_rb (own_b y))).2 (XS.iconst X5.here hx rfl (hb hby at_63) (XS.goto X5.here hx rfl (pc0 := 64) (pc' := 68) rfl (hb hby at_64) (by decide) (by decide) kt)))))) ?_
  show Go p e below P (T5.setTop (mkF m 68 #[.val (.int u), .val (.int y), .val (.int ((56384 : Int32) + (y &&& (255 : Int32)))), .val (.int ((128 : Int32) ||| (y &&& (127 : Int32)))), .val (.int (own_bo u)), .val (.int (own_bo ((56384 : Int32) + (y &&& (255 : Int32))))), .val (.int (own_bo ((56320 : Int32) + ((128 : Int32) ||| (y &&& (127 : Int32))))))] [(.int (1 : Int32))]))
  exact goN X5 hx (t := .boolean) hret (by simp) hlk (hb hby at_68) hP (by decide) (by decide) ⟨rfl, N5⟩
set_option maxRecDepth 65536 in
set_option maxHeartbeats 40000000 in
theorem comes_1 {Post : Tables → Env → Array Value → State → Outcome → State → Prop} (hpost : ∀ tb e args s v u, (limb_1_1.after args s (.returned v) u = true ∧ limb_1_2.after args s (.returned v) u = true ∧ True) → FrameEnd s (.returned v) u (Jvm.fieldLocs frame_1_writes args s ++ Jvm.arrayLocs frame_1_arrays args s ++ Jvm.staticLocs frame_1_statics s) 0 0 → Post tb e args s (.returned v) u) :
    ArmFor flags0 classFile x code maxLocals ret World_1 tables_1 room_1 Calls_1 rest_1 Pre_1 Post := by
  intro l hfl _ _ p e ha hc hk s m args below hf hA hF happ hP
  obtain ⟨hcalls, hrest, hpre⟩ := hP
  obtain ⟨-, -, -, hnamed, -, -, -, hat⟩ := (Spec.applies_iff hf).mp happ
  obtain ⟨hg, hn⟩ := and_e (Cond.before_iff.mp (show (Jvm.Cond.and given_1 narrow_1).before args s = true from hpre))
  obtain ⟨g1, g2⟩ := and_e hg
  obtain ⟨g3, g4⟩ := and_e g2
  obtain ⟨w0, w1, rfl⟩ : ∃ w0 w1 : Value, args = #[w0, w1] := by
    have hs : args.size = 2 := by simpa [Cond.value, given_1] using g1
    obtain ⟨L⟩ := args
    match L, hs with
    | [w0, w1], _ => exact ⟨w0, w1, rfl⟩
  have hw := fun d (hd : d ∈ tables_1) => atoms_spec (ws := Jvm.Cond.code x code maxLocals ret :: tables_1) hat d (List.mem_cons_of_mem _ hd)
  obtain ⟨i0, ei0⟩ := is_v g3
  obtain rfl : w0 = (.int i0) := Option.some.inj ei0
  obtain ⟨i1, ei1⟩ := is_v g4
  obtain rfl : w1 = (.int i1) := Option.some.inj ei1
  obtain ⟨n, o, h1, h2, h3, _, L, rfl, ⟨rfl, N⟩, hq⟩ := rm0 l s _ hw tables_1 i0 i1 s.heap s.heap.size (Nat.le_refl _) p e ha hc hk s m _ below hf ((Spec.applies_iff_loose hf).mp happ).1 ⟨rfl, State.Warmed39.refl s, rfl⟩ trivial
  refine ⟨n, _, h1, h2, h3, hpost _ _ _ _ _ _ ⟨Cond.after_iff.mpr rfl, Cond.after_iff.mpr (eq_i res_at (Term.int_eval (1)) rfl), trivial⟩ ⟨hq.1, hq.2.1, (hq.2.2.sift fun y hy => Or.inr (N y hy)).mono (by decide) (by decide)⟩⟩
theorem main_1_1 : Claimed_1_1 := comes_1 fun _ _ _ _ _ _ h hF => ⟨h.1, hF⟩
theorem main_1_2 : Claimed_1_2 := comes_1 fun _ _ _ _ _ _ h hF => ⟨h.2.1, hF⟩
end Jvm.Pilot.@@N@@
namespace Jvm.Pilot.@@N@@
open Jvm Jvm.ClassFile Sem Op Lib Jvm.Free Jvm.Stand Jvm.Pilot.@@N@@.Jvm.D
/-! MADE BY PROGRAM (witnessworld.py) out of the Statement's table words and the real class files: 9 classes; the members and pool entries that the words name. The judged class is class 1, her method 3. -/
namespace start1
open Jvm.ClassFile
def u (s : String) : CpInfo := .utf8 (stringToUtf16 s)
/-- a pool by its gaps: so many unusable entries, then the entry; so many at the end -/
def gap : Nat → List CpInfo → List CpInfo
  | 0, r => r
  | n + 1, r => .unusable :: gap n r
def poolList (es : List (Nat × CpInfo)) (last : Nat) : List CpInfo := es.foldr (fun e r => gap e.1 (e.2 :: r)) (gap last [])
def pool (es : List (Nat × CpInfo)) (last : Nat) : Array CpInfo := ⟨poolList es last⟩
def fileOf (pool : Array CpInfo) (this : Nat) (attrs : Array Attribute := #[]) (ms : Array MethodInfo := #[]) (fl : Nat := 33) (sup : Nat := 0) (ifs : Array Nat := #[]) (fds : Array FieldInfo := #[]) : ClassFile where
  minorVersion := 0
  majorVersion := 65
  constantPool := pool
  accessFlags := fl
  thisClass := this
  superClass := sup
  interfaces := ifs
  fields := fds
  methods := ms
  attributes := attrs
def plain (name : String) (sup : Option ClassId) : Class where
  name := name
  kind := .ordinary
  loader := none
  accessFlags := 33
  super := sup
  interfaces := #[]
  cf := none
  fields := #[]
  methods := #[]
  instanceTypes := #[]
  staticTypes := #[]
  resolved := #[]
  callSites := []
  init := .initialized
  statics := none
  mirror := none

def pool0 : Array CpInfo := pool [(5, u "<init>"), (0, u "()V"), (1, .class_ 10), (1, u "java/lang/Object")] 113

def k0m0 : Method := { name := "<init>", desc := "()V", sig := { parameters := [], returnType := none }, accessFlags := 1, code := none }
/-- java/lang/Object -/
def k0 : Class := { plain "java/lang/Object" none with
  accessFlags := 33
  interfaces := #[]
  cf := some (fileOf pool0 8 #[] #[{ accessFlags := 1, nameIndex := 5, descriptorIndex := 6, attributes := #[] }] 33 0 #[] #[])
  fields := #[]
  methods := #[k0m0]
  instanceTypes := #[]
  staticTypes := #[]
  resolved := Array.replicate 124 none
  statics := none }

def pool1 : Array CpInfo := pool [(2, .class_ 4), (1, u "java/lang/Object"), (0, u "<init>"), (0, u "()V"), (0, .integer 56448), (0, .integer 56575), (0, .methodref 10 11), (0, .class_ 12), (0, .nameAndType 13 14), (0, u "com/example/walled_symbols/walledsymbols/report/NamesByteOfPinLaw"), (0, u "standsForByte"), (0, u "(I)Z"), (0, .integer 56320), (0, .integer 56384), (0, .methodref 18 19), (0, .class_ 20), (0, .nameAndType 21 22), (0, u "com/example/walled_symbols/walledsymbols/report/Names"), (0, u "byteOf"), (0, u "(I)I"), (0, .methodref 10 24), (0, .nameAndType 25 26), (0, u "characterized"), (0, u "(II)Z"), (3, u "law")] 2

def k1m0 : Method := { name := "<init>", desc := "()V", sig := { parameters := [], returnType := none }, accessFlags := 2, code := none }
def k1c1 : Code := { maxStack := 2, maxLocals := 1, code := method_2_code, exceptionTable := #[], attributes := #[] }
def k1m1 : Method := { name := "standsForByte", desc := "(I)Z", sig := { parameters := [.int], returnType := some .boolean }, accessFlags := 10, code := some k1c1 }
def k1c2 : Code := { maxStack := 3, maxLocals := 2, code := method_3_code, exceptionTable := #[], attributes := #[] }
def k1m2 : Method := { name := "characterized", desc := "(II)Z", sig := { parameters := [.int, .int], returnType := some .boolean }, accessFlags := 10, code := some k1c2 }
def k1c3 : Code := { maxStack := 3, maxLocals := 7, code := code, exceptionTable := #[], attributes := #[] }
def k1m3 : Method := { name := "law", desc := "(II)Z", sig := { parameters := [.int, .int], returnType := some .boolean }, accessFlags := 9, code := some k1c3 }
/-- com/example/walled_symbols/walledsymbols/report/NamesByteOfPinLaw -/
def k1 : Class := { plain "com/example/walled_symbols/walledsymbols/report/NamesByteOfPinLaw" (some 0) with
  accessFlags := 49
  interfaces := #[]
  cf := some (fileOf pool1 10 #[] #[{ accessFlags := 2, nameIndex := 5, descriptorIndex := 6, attributes := #[] }, { accessFlags := 10, nameIndex := 13, descriptorIndex := 14, attributes := #[] }, { accessFlags := 10, nameIndex := 25, descriptorIndex := 26, attributes := #[] }, { accessFlags := 9, nameIndex := 30, descriptorIndex := 26, attributes := #[] }] 49 2 #[] #[])
  fields := #[]
  methods := #[k1m0, k1m1, k1m2, k1m3]
  instanceTypes := #[]
  staticTypes := #[]
  resolved := Array.replicate 33 none
  statics := none }

def pool2 : Array CpInfo := pool [(2, .class_ 4), (1, u "java/lang/Object"), (0, u "<init>"), (0, u "()V"), (15, u "(I)I"), (34, .class_ 58), (0, u "com/example/walled_symbols/walledsymbols/report/Names"), (0, .integer 56320), (56, .integer 56448), (0, .integer 56575), (91, u "HEX"), (0, u "[C"), (39, u "byteOf"), (32, .class_ 284), (0, u "com/example/walled_symbols/walledsymbols/report/Names$ByteOrder"), (3, u "ORDER"), (0, u "Ljava/util/Comparator;"), (8, u "BYTE_BASE"), (0, u "I")] 34

def k2m0 : Method := { name := "<init>", desc := "()V", sig := { parameters := [], returnType := none }, accessFlags := 2, code := none }
def k2c1 : Code := { maxStack := 2, maxLocals := 1, code := prog_95_method_4_code, exceptionTable := #[], attributes := #[] }
def k2m1 : Method := { name := "byteOf", desc := "(I)I", sig := { parameters := [.int], returnType := some .int }, accessFlags := 9, code := some k2c1 }
/-- com/example/walled_symbols/walledsymbols/report/Names -/
def k2 : Class := { plain "com/example/walled_symbols/walledsymbols/report/Names" (some 0) with
  accessFlags := 49
  interfaces := #[]
  cf := some (fileOf pool2 57 #[.nestMembers #[283]] #[{ accessFlags := 2, nameIndex := 5, descriptorIndex := 6, attributes := #[] }, { accessFlags := 9, nameIndex := 250, descriptorIndex := 22, attributes := #[] }] 49 2 #[] #[{ accessFlags := 25, nameIndex := 288, descriptorIndex := 289, attributes := #[] }, { accessFlags := 26, nameIndex := 298, descriptorIndex := 299, attributes := #[] }, { accessFlags := 26, nameIndex := 209, descriptorIndex := 210, attributes := #[] }])
  fields := #[{ name := "ORDER", type := (.object "java/util/Comparator"), accessFlags := 25, slot := 0, constantValue := 0 }, { name := "BYTE_BASE", type := .int, accessFlags := 26, slot := 1, constantValue := 0 }, { name := "HEX", type := (.array .char), accessFlags := 26, slot := 2, constantValue := 0 }]
  methods := #[k2m0, k2m1]
  instanceTypes := #[]
  staticTypes := #[(.object "java/util/Comparator"), .int, (.array .char)]
  resolved := Array.replicate 334 none
  statics := none }

def pool3 : Array CpInfo := pool [(1, u "java/lang/Cloneable"), (0, .class_ 1), (0, u "java/lang/Object"), (0, .class_ 3)] 3

/-- java/lang/Cloneable -/
def k3 : Class := { plain "java/lang/Cloneable" (some 0) with
  accessFlags := 1537
  interfaces := #[]
  cf := some (fileOf pool3 2 #[] #[] 1537 4 #[] #[])
  fields := #[]
  methods := #[]
  instanceTypes := #[]
  staticTypes := #[]
  resolved := Array.replicate 8 none
  statics := none }

def pool4 : Array CpInfo := pool [(1, u "java/io/Serializable"), (0, .class_ 1), (0, u "java/lang/Object"), (0, .class_ 3)] 3

/-- java/io/Serializable -/
def k4 : Class := { plain "java/io/Serializable" (some 0) with
  accessFlags := 1537
  interfaces := #[]
  cf := some (fileOf pool4 2 #[] #[] 1537 4 #[] #[])
  fields := #[]
  methods := #[]
  instanceTypes := #[]
  staticTypes := #[]
  resolved := Array.replicate 8 none
  statics := none }

/-- the primitive byte -/
def k5 : Class := { plain "byte" none with kind := .primitive 'B', accessFlags := 0x411 }
/-- [B -/
def k6 : Class := { plain "[B" (some 0) with kind := .array 5 .byte, interfaces := #[3, 4], accessFlags := 1041 }

/-- the primitive int -/
def k7 : Class := { plain "int" none with kind := .primitive 'I', accessFlags := 0x411 }
/-- [I -/
def k8 : Class := { plain "[I" (some 0) with kind := .array 7 .int, interfaces := #[3, 4], accessFlags := 1041 }

def heap : Heap := #[]
def classes : Array Class := #[k0, k1, k2, k3, k4, k5, k6, k7, k8]
def interned : List (Array UInt16 × Addr) := []
def slotsUsed : Nat := 0
def theMethod : MethodId := ⟨1, 3⟩
def args0 : Array Value := #[.int 5, .int 7]
def aboutOver (below : List Frame) : State where
  vm := { classes := classes, interned := interned.toArray }
  heap := heap
  slotsUsed := slotsUsed
  threads := #[{ frames := .invoking theMethod args0 :: below }]
def below0 : List Frame := [.native { method := ⟨0, 0⟩, args := #[] }]
def about1 : State := aboutOver below0
def p0 : Program := .bare "" "" ""
def e0 : Env := launch0.env 0 0 0
theorem w_frames : about1.frames = Frame.invoking theMethod args0 :: below0 := rfl
set_option maxRecDepth 65536 in
theorem w_args : argsFit about1.vm theMethod args0 = true := by decide +kernel
set_option maxRecDepth 65536 in
theorem w_heap : heapFits about1 = true := by decide +kernel
set_option maxRecDepth 65536 in
theorem w_runnable : about1.curStatus? = some .runnable := by decide +kernel
set_option maxRecDepth 65536 in
theorem w_alone : about1.alone = true := by decide +kernel
set_option maxRecDepth 65536 in
theorem w_named : about1.methodNamed? x = some theMethod := by decide +kernel
set_option maxRecDepth 65536 in
theorem w_hears : about1.hears theMethod below0 = true := by decide +kernel
set_option maxRecDepth 65536 in
theorem w_ripe : about1.ripe theMethod args0 below0 = true := by decide +kernel
theorem w_running : about1.status = .running := rfl
set_option maxRecDepth 65536 in
theorem w_room : about1.hasRoom e0.platform room_1 = true :=
  launch0.hasRoom_least _ room_1 (by decide +kernel) (by decide +kernel) (by decide +kernel) (by decide +kernel) (by decide +kernel) (by decide +kernel)
theorem allAtoms_all (ts : List Jvm.Cond) (a : Array Jvm.Value) (st : Jvm.State) : (allAtoms ts).before a st = ts.all (fun c => c.before a st) := by
  induction ts with
  | nil => rfl
  | cons c t ih =>
    show (Jvm.Cond.and c (allAtoms t)).before a st = _
    rw [Jvm.Cond.before_and, ih, List.all_cons]
def words1 : List Jvm.Cond := Jvm.Cond.code x code maxLocals ret :: tables_1
/-- a 'code' word, met by the world's own term for the bytes: nothing is compared byte by byte -/
theorem code_word {y : MethodName} {bytes : ByteArray} {mx : Nat} {rt : Option FieldType} {a : Array Value} {s : State} {m : MethodId} {meth : Method} {c : Code} (h1 : s.methodNamed? y = some m) (h2 : s.vm.method? m = some meth) (h3 : meth.code = some c) (h4 : c.code = bytes)
    (h5 : (c.maxLocals == mx && c.exceptionTable.isEmpty && decide (c.maxStack ≤ mostOperands) && decide (meth.sig.returnType = rt) && !meth.locks && decide (parseMethodDescriptor y.desc = some meth.sig)) = true) : (Jvm.Cond.code y bytes mx rt).before a s = true := by
  simp only [Bool.and_eq_true, beq_iff_eq, Bool.not_eq_true', decide_eq_true_eq] at h5
  obtain ⟨⟨⟨⟨⟨g1, g2⟩, g3⟩, g4⟩, g5⟩, g6⟩ := h5
  simp [Cond.before, Cond.holds, Cond.value, h1, h2, h3, h4, g1, g2, g3, g4, g5, g6]
def isCode : Jvm.Cond → Bool
  | .code _ _ _ _ => true
  | _ => false
theorem all_split {L : List Jvm.Cond} {P : Jvm.Cond → Bool} (h1 : L.all (fun c => isCode c || P c) = true) (h2 : ∀ c ∈ L.filter isCode, P c = true) : L.all P = true := by
  refine List.all_eq_true.mpr fun c hc => ?_
  have h := List.all_eq_true.mp h1 c hc
  rcases Bool.eq_false_or_eq_true (isCode c) with hi | hi
  · exact h2 c (List.mem_filter.mpr ⟨hc, hi⟩)
  · simpa [hi] using h
set_option maxRecDepth 65536 in
theorem w_c0 : (Jvm.Cond.code x code maxLocals ret).before args0 about1 = true := code_word (m := ⟨1, 3⟩) (meth := k1m3) (c := k1c3) (by decide +kernel) rfl rfl rfl (by decide +kernel)
set_option maxRecDepth 65536 in
theorem w_c1 : (Jvm.Cond.code ({ cls := "com/example/walled_symbols/walledsymbols/report/Names", name := "byteOf", desc := "(I)I" } : Jvm.MethodName) prog_95_method_4_code (1 : Nat) (Option.some Jvm.ClassFile.FieldType.int)).before args0 about1 = true := code_word (m := ⟨2, 1⟩) (meth := k2m1) (c := k2c1) (by decide +kernel) rfl rfl rfl (by decide +kernel)
set_option maxRecDepth 65536 in
theorem w_c2 : (Jvm.Cond.code ({ cls := "com/example/walled_symbols/walledsymbols/report/NamesByteOfPinLaw", name := "characterized", desc := "(II)Z" } : Jvm.MethodName) method_3_code (2 : Nat) (Option.some Jvm.ClassFile.FieldType.boolean)).before args0 about1 = true := code_word (m := ⟨1, 2⟩) (meth := k1m2) (c := k1c2) (by decide +kernel) rfl rfl rfl (by decide +kernel)
set_option maxRecDepth 65536 in
theorem w_c3 : (Jvm.Cond.code ({ cls := "com/example/walled_symbols/walledsymbols/report/NamesByteOfPinLaw", name := "standsForByte", desc := "(I)Z" } : Jvm.MethodName) method_2_code (1 : Nat) (Option.some Jvm.ClassFile.FieldType.boolean)).before args0 about1 = true := code_word (m := ⟨1, 1⟩) (meth := k1m1) (c := k1c1) (by decide +kernel) rfl rfl rfl (by decide +kernel)
def codes1 : List Jvm.Cond := [Jvm.Cond.code x code maxLocals ret, Jvm.Cond.code ({ cls := "com/example/walled_symbols/walledsymbols/report/Names", name := "byteOf", desc := "(I)I" } : Jvm.MethodName) prog_95_method_4_code (1 : Nat) (Option.some Jvm.ClassFile.FieldType.int), Jvm.Cond.code ({ cls := "com/example/walled_symbols/walledsymbols/report/NamesByteOfPinLaw", name := "characterized", desc := "(II)Z" } : Jvm.MethodName) method_3_code (2 : Nat) (Option.some Jvm.ClassFile.FieldType.boolean), Jvm.Cond.code ({ cls := "com/example/walled_symbols/walledsymbols/report/NamesByteOfPinLaw", name := "standsForByte", desc := "(I)Z" } : Jvm.MethodName) method_2_code (1 : Nat) (Option.some Jvm.ClassFile.FieldType.boolean)]
set_option maxRecDepth 65536 in
theorem codes_eq : words1.filter isCode = codes1 := rfl
theorem w_codes : ∀ c ∈ words1.filter isCode, c.before args0 about1 = true := by
  rw [codes_eq]
  intro c hc
  simp only [codes1, List.mem_cons, List.not_mem_nil, or_false] at hc
  rcases hc with rfl | rfl | rfl | rfl
  · exact w_c0
  · exact w_c1
  · exact w_c2
  · exact w_c3
set_option maxRecDepth 65536 in
theorem w_t1 : words1.all (fun c => isCode c || c.before args0 about1) = true := by decide +kernel
theorem w_tables : (allAtoms (Jvm.Cond.code x code maxLocals ret :: tables_1)).before args0 about1 = true := by
  rw [allAtoms_all]
  show words1.all (fun c => c.before args0 about1) = true
  refine all_split ?_ w_codes
  rw [w_t1]
set_option maxRecDepth 65536 in
theorem w_case : (Jvm.Cond.and given_1 narrow_1).before args0 about1 = true := by decide +kernel
theorem w_applies : (headSpec (Jvm.Cond.code x code maxLocals ret :: tables_1) room_1).applies x e0.platform about1 = true :=
  (Spec.applies_iff w_frames).mpr ⟨w_running, w_runnable, w_alone, w_named, w_hears, w_ripe, w_room, w_tables⟩
theorem atStart : AtStart classFile x code maxLocals ret World_1 tables_1 room_1 Calls_1 rest_1 Pre_1 launch0 p0 e0 about1 theMethod args0 below0 :=
  ⟨lists_1, trivial, launch0.admits_env _ _ _, launch0.least_env, fairChoices_fair.cas, fairChoices_fair.clock, w_frames, w_args, w_heap, w_applies, trivial, trivial, w_case⟩
end start1
theorem witness_1 : WitnessClaimed_1 := ⟨start1.p0, start1.e0, start1.about1, start1.theMethod, start1.args0, start1.below0, start1.atStart⟩
end Jvm.Pilot.@@N@@
