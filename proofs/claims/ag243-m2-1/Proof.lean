import JvmDerived
import JvmDerived.Pilot.@@N@@Statement
import JvmDerived.Pilot.@@N@@Code
set_option linter.unusedVariables false
set_option linter.unusedSimpArgs false
namespace Jvm.RoadKit
open Sem ClassFile Op Lib Jvm.Stand Jvm.Free Jvm.LawKit
section OwnGo
variable {p : Program} {l : Launch} {e : Env} {R : Room} {s : State} {m : MethodId} {args : Array Value} {below : List Frame} {meth : Method} {c : Code} {T : State} {locs : List Loc} {cells slots : Nat} {Z : State} {a0 : Array Value} {h : Heap}
/-- from A the run comes to an end of which P holds -/
def Go (p : Program) (e : Env) (below : List Frame) (P : State → Outcome → Prop) (A : State) : Prop := ∃ t o, Steps p.tables e below A t ∧ t.status = .running ∧ Ended t below o ∧ P t o
theorem Go.st {P : State → Outcome → Prop} {A B : State} (st : ∀ t, Steps p.tables e below A t → Steps p.tables e below B t) (k : Go p e below P A) : Go p e below P B := by
  obtain ⟨t, o, h1, h2⟩ := k
  exact ⟨t, o, st t h1, h2⟩
theorem Go.tr {P : State → Outcome → Prop} {A B : State} (st : Steps p.tables e below B A) (k : Go p e below P A) : Go p e below P B := Go.st (fun _ h => st.trans h) k
def Pst (s : State) (Q : Option Value → Heap → List Loc → Prop) (C S : Nat) : State → Outcome → Prop := fun t o => ∃ v L, o = .returned v ∧ Q v t.heap L ∧ FrameEnd s o t L C S
/-- a method's contract at the heap h0, for the arguments as -/
def Ct (l : Launch) (y : MethodName) (bytes : ByteArray) (maxL : Nat) (ret : Option FieldType) (ws : List Cond) (rm : Room) (Z : State) (as : Array Value) (h0 : Heap) (Q : Option Value → Heap → List Loc → Prop) : Prop :=
  MetFree l y (head1 (Cond.code y bytes maxL ret :: ws) rm) (fun a U => a = as ∧ Z.Warmed39 U.vm ∧ U.heap = h0) (fun _ _ _ _ _ => True) (fun _ U o U' => ∃ v L, o = .returned v ∧ Q v U'.heap L ∧ FrameEnd U o U' L rm.cells rm.slots)
theorem Ct.of {y : MethodName} {bytes : ByteArray} {maxL : Nat} {ret : Option FieldType} {ws : List Cond} {rm : Room} {as : Array Value} {h0 : Heap} {Q : Option Value → Heap → List Loc → Prop} {Ls : Array Slot}
    (hpl : plainFor y = true) (hef : ∀ m, entryFrame m as maxL = mkF m 0 Ls [])
    (body : ∀ (p : Program) (e : Env) (s : State) (m : MethodId) (below : List Frame) (meth : Method) (c : Code) (T : State), Stand p l e rm s m as below meth c T [] 0 0 → p.tables.exec = Jvm.exec → c.code = bytes → c.maxLocals = maxL → meth.sig.returnType = ret → meth.locks = false → s.vm.findClass y.cls = some m.cls → meth.name = y.name → Z.Warmed39 s.vm → T.heap = h0 →
      ∀ P : State → Outcome → Prop, P = Pst s Q rm.cells rm.slots → Go p e below P (T.setTop (mkF m 0 Ls []))) : Ct l y bytes maxL ret ws rm Z as h0 Q := by
  refine MetFree.of_bodySF hpl hisR ?_
  intro p e s m args below meth c s₁ Bd hml0 hP hK
  obtain ⟨rfl, hZ, hh⟩ := hP
  have X0 : Stand p l e rm s m args below meth c s₁ [] 0 0 := Stand.of_body Bd
  obtain ⟨t, o, h1, h2⟩ := body p e s m below meth c s₁ X0 Bd.exec Bd.bytes hml0 Bd.returns Bd.notSynchronized (findClass_of_methodNamed Bd.named) (name_of_methodNamed Bd.named Bd.method).1 hZ (by rw [← hh, Bd.state]; rfl) _ rfl
  exact ⟨t, o, castTop (hef m) h1, h2⟩
theorem goRet {t : FieldType} {i : Instr} {v w : Value} {pc : Nat} {Ls : Array Slot} {rest : List Value} {Q : Option Value → Heap → List Loc → Prop} {C S : Nat}
    (X : Stand p l e R s m args below meth c T locs cells slots) (hret : meth.sig.returnType = some t) (hlk : meth.locks = false)
    (st : ∀ {fs : List Frame}, (∀ (f : JFrame) (acts : List Action), f.method = m → f.locked = none → f.entered = [] → (doReturn e (T.setTop f) acts (some w)).1 = T.setFrames fs) → Steps p.tables e below (T.setTop (mkF m pc Ls (v :: rest))) (T.setFrames fs))
    (hc : cells ≤ C) (hs : slots ≤ S) (hQ : Q (some w) T.heap locs) : Go p e below (Pst s Q C S) (T.setTop (mkF m pc Ls (v :: rest))) := by
  obtain ⟨fs, hr, hrun, hended, hW, hsame⟩ := X.leave (v := some w) (fun h => by rw [hret] at h; cases h) hlk
  exact ⟨_, _, st hr, hrun, hended, _, _, rfl, hQ, ⟨_, rfl⟩, hW, hsame.mono hc hs⟩
theorem retI (X : Stand p l e R s m args below meth c T locs cells slots) (hx : p.tables.exec = Jvm.exec) {pc : Nat} {Ls : Array Slot} {z : Int32} {rest : List Value} (hret : meth.sig.returnType = some .int) (hd : decode c.code pc = .ok (.ireturn, 1)) {fs : List Frame}
    (hl : ∀ (f : JFrame) (acts : List Action), f.method = m → f.locked = none → f.entered = [] → (doReturn e (T.setTop f) acts (some (.int z))).1 = T.setFrames fs) : Steps p.tables e below (T.setTop (mkF m pc Ls (.int z :: rest))) (T.setFrames fs) :=
  retOut X hx hret rfl (Or.inl ⟨rfl, Or.inl rfl, z, rfl⟩) hd hl
theorem goI {pc : Nat} {Ls : Array Slot} {z : Int32} {rest : List Value} {Q : Option Value → Heap → List Loc → Prop} {C S : Nat} {P : State → Outcome → Prop}
    (X : Stand p l e R s m args below meth c T locs cells slots) (hx : p.tables.exec = Jvm.exec) (hret : meth.sig.returnType = some .int) (hlk : meth.locks = false) (hd : decode c.code pc = .ok (.ireturn, 1))
    (hP : P = Pst s Q C S) (hc : cells ≤ C) (hs : slots ≤ S) (hQ : Q (some (.int z)) T.heap locs) : Go p e below P (T.setTop (mkF m pc Ls (.int z :: rest))) := by
  subst hP
  exact goRet (i := .ireturn) X hret hlk (fun hr => retI X hx hret hd hr) hc hs hQ
theorem goN {pc : Nat} {Ls : Array Slot} {z : Int32} {t : FieldType} {rest : List Value} {Q : Option Value → Heap → List Loc → Prop} {C S : Nat} {P : State → Outcome → Prop}
    (X : Stand p l e R s m args below meth c T locs cells slots) (hx : p.tables.exec = Jvm.exec) (hret : meth.sig.returnType = some t) (ht : t = .boolean ∨ t = .byte ∨ t = .char ∨ t = .short) (hlk : meth.locks = false) (hd : decode c.code pc = .ok (.ireturn, 1))
    (hP : P = Pst s Q C S) (hc : cells ≤ C) (hs : slots ≤ S) (hQ : Q (some (.int (nar t z))) T.heap locs) : Go p e below P (T.setTop (mkF m pc Ls (.int z :: rest))) := by
  subst hP
  exact goRet (i := .ireturn) X hret hlk (fun hr => retN X hx hret ht hd hr) hc hs hQ
theorem goJ {pc : Nat} {Ls : Array Slot} {z : Int64} {rest : List Value} {Q : Option Value → Heap → List Loc → Prop} {C S : Nat} {P : State → Outcome → Prop}
    (X : Stand p l e R s m args below meth c T locs cells slots) (hx : p.tables.exec = Jvm.exec) (hret : meth.sig.returnType = some .long) (hlk : meth.locks = false) (hd : decode c.code pc = .ok (.lreturn, 1))
    (hP : P = Pst s Q C S) (hc : cells ≤ C) (hs : slots ≤ S) (hQ : Q (some (.long z)) T.heap locs) : Go p e below P (T.setTop (mkF m pc Ls (.long z :: rest))) := by
  subst hP
  exact goRet (i := .lreturn) X hret hlk (fun hr => retOut X hx hret rfl (Or.inr (Or.inl ⟨rfl, rfl, z, rfl⟩)) hd hr) hc hs hQ
theorem goA {pc : Nat} {Ls : Array Slot} {z : Addr} {t : FieldType} {rest : List Value} {Q : Option Value → Heap → List Loc → Prop} {C S : Nat} {P : State → Outcome → Prop}
    (X : Stand p l e R s m args below meth c T locs cells slots) (hx : p.tables.exec = Jvm.exec) (hret : meth.sig.returnType = some t) (ht : t.isReference = true) (hn : narrow t (.ref z) = .ref z) (hlk : meth.locks = false) (hd : decode c.code pc = .ok (.areturn, 1))
    (hP : P = Pst s Q C S) (hc : cells ≤ C) (hs : slots ≤ S) (hQ : Q (some (.ref z)) T.heap locs) : Go p e below P (T.setTop (mkF m pc Ls (.ref z :: rest))) := by
  subst hP
  exact goRet (i := .areturn) X hret hlk (fun hr => retOut X hx hret hn (Or.inr (Or.inr (Or.inr (Or.inr ⟨rfl, ht, rfl⟩)))) hd hr) hc hs hQ
theorem goV {pc : Nat} {Ls : Array Slot} {Q : Option Value → Heap → List Loc → Prop} {C S : Nat} {P : State → Outcome → Prop}
    (X : Stand p l e R s m args below meth c T locs cells slots) (hx : p.tables.exec = Jvm.exec) (hret : meth.sig.returnType = none) (hlk : meth.locks = false) (hd : decode c.code pc = .ok (.return_, 1))
    (hP : P = Pst s Q C S) (hc : cells ≤ C) (hs : slots ≤ S) (hQ : Q none T.heap locs) : Go p e below P (T.setTop (mkF m pc Ls [])) := by
  subst hP
  obtain ⟨fs, hr, hrun, hended, hW, hsame⟩ := X.leave (v := none) (fun _ => rfl) hlk
  exact ⟨_, _, X.returnOut hx hret hd hr, hrun, hended, _, _, rfl, hQ, ⟨_, rfl⟩, hW, hsame.mono hc hs⟩
/-- a static call by its contract -/
theorem callCt (X : Stand p l e R s m args below meth c T locs cells slots) (hx : p.tables.exec = Jvm.exec) (hZ : Z.Warmed39 s.vm) (eT : T.heap = h) {own : String} {index : Nat} {y : MethodName} {bytes : ByteArray} {maxL : Nat} {ret : Option FieldType} {rm : Room} {Q : Option Value → Heap → List Loc → Prop} {argsL rest : List Value}
    (hown : s.vm.findClass own = some m.cls) (w1 : (Cond.methodLink own index y).before a0 Z = true) (w2 : (Cond.static y).before a0 Z = true) (w3 : (Cond.initialized y.cls).before a0 Z = true) (w4 : (Cond.code y bytes maxL ret).before a0 Z = true)
    (hy : y.cls ≠ "java/lang/invoke/MethodHandle" ∧ y.cls ≠ "java/lang/invoke/VarHandle") (hM : Ct l y bytes maxL ret [] rm Z argsL.toArray h Q) {W : Nat} (hf : rm.frames + 1 ≤ R.frames) (hl : W + (maxL + 11) + rm.locals ≤ R.locals)
    {g : JFrame} (hg : g.method = m) (hsize : g.locals.size = c.maxLocals) (hlen : ∀ sig, parseMethodDescriptor y.desc = some sig → argsL.length = sig.parameters.length) (hstack : g.stack = argsL.reverse ++ rest) (hW : 2 * g.monitorRoom + (rest.map fun v => v.category).sum ≤ W)
    (hdg : decode c.code g.pc = .ok (.invokestatic index, 3)) (hc : cells + rm.cells ≤ R.cells) (hs : slots + rm.slots ≤ R.slots) :
    ∃ (v : Option Value) (T' : State) (L : List Loc), Stand p l e R s m args below meth c T' (locs ++ L) (cells + rm.cells) (slots + rm.slots) ∧ Q v T'.heap L ∧ ∀ target, Steps p.tables e below (T'.setTop { g with pc := g.pc + 3, stack := v.toList ++ rest }) target → Steps p.tables e below (T.setTop g) target := by
  subst eT
  obtain ⟨v, _, ⟨T', L', k', n'⟩, -, X', ⟨Lc, hQ, l18, y18, z18⟩, st⟩ := Jvm.LawKit.callS X hx (y := y) hown (mvT hZ w1) (mvT hZ w2) (mvT hZ w3) (mvT hZ w4) hy (backOf (W := W) hM hZ w4 w3 hf hl) hg hsize hlen hstack hW hdg (fun _ _ => ⟨rfl, rfl, hc, hs⟩)
  dsimp only [Pt.U, Pt.locs, Pt.cells, Pt.slots] at X' l18 y18 z18 st hQ
  subst l18 y18 z18
  exact ⟨v, T', Lc, X', hQ, st⟩
/-- a constructor by its contract -/
theorem callCtor (X : Stand p l e R s m args below meth c T locs cells slots) (hx : p.tables.exec = Jvm.exec) (hZ : Z.Warmed39 s.vm) (eT : T.heap = h) {own : String} {index : Nat} {y : MethodName} (hy1 : y.name = "<init>") {bytes : ByteArray} {maxL : Nat} {rm : Room} {Q : Option Value → Heap → List Loc → Prop} {a : Addr} {argsL rest : List Value}
    (hown : s.vm.findClass own = some m.cls) (w1 : (Cond.methodLink own index y).before a0 Z = true) (w2 : (Cond.instanceMethod y).before a0 Z = true) (w3 : (Cond.initialized y.cls).before a0 Z = true) (w4 : (Cond.code y bytes maxL none).before a0 Z = true)
    (hy : y.cls ≠ "java/lang/invoke/MethodHandle" ∧ y.cls ≠ "java/lang/invoke/VarHandle") (hM : Ct l y bytes maxL none [] rm Z (.ref a :: argsL).toArray h Q) {W : Nat} (hf : rm.frames + 1 ≤ R.frames) (hl : W + (maxL + 11) + rm.locals ≤ R.locals)
    {g : JFrame} (hg : g.method = m) (hsize : g.locals.size = c.maxLocals) (hlen : ∀ sig, parseMethodDescriptor y.desc = some sig → argsL.length = sig.parameters.length) (hstack : g.stack = argsL.reverse ++ .ref a :: rest) (hW : 2 * g.monitorRoom + (rest.map fun v => v.category).sum ≤ W)
    (hdg : decode c.code g.pc = .ok (.invokespecial index, 3)) (hc : cells + rm.cells ≤ R.cells) (hs : slots + rm.slots ≤ R.slots) :
    ∃ (v : Option Value) (T' : State) (L : List Loc), Stand p l e R s m args below meth c T' (locs ++ L) (cells + rm.cells) (slots + rm.slots) ∧ Q v T'.heap L ∧ ∀ target, Steps p.tables e below (T'.setTop { g with pc := g.pc + 3, stack := v.toList ++ rest }) target → Steps p.tables e below (T.setTop g) target := by
  subst eT
  obtain ⟨v, _, ⟨T', L', k', n'⟩, -, X', ⟨Lc, hQ, l18, y18, z18⟩, st⟩ := X.specialBack hx (y := y) hy1 hown (mvT hZ w1) (mvT hZ w2) (mvT hZ w4) hy (backOf (W := W) hM hZ w4 w3 hf hl) hg hsize (Steps.refl _) hlen hstack hW hdg (fun _ _ => ⟨rfl, rfl, hc, hs⟩)
  dsimp only [Pt.U, Pt.locs, Pt.cells, Pt.slots] at X' l18 y18 z18 st hQ
  subst l18 y18 z18
  exact ⟨v, T', Lc, X', hQ, fun _ k => st.trans k⟩
/-- an instance method that its own class selects, by its contract -/
theorem callCv (X : Stand p l e R s m args below meth c T locs cells slots) (hx : p.tables.exec = Jvm.exec) (hZ : Z.Warmed39 s.vm) (eT : T.heap = h) {own : String} {index : Nat} {y : MethodName} {bytes : ByteArray} {maxL : Nat} {ret : Option FieldType} {rm : Room} {Q : Option Value → Heap → List Loc → Prop} {a : Addr} {argsL rest : List Value}
    (hown : s.vm.findClass own = some m.cls) (w1 : (Cond.methodLink own index y).before a0 Z = true) (w5 : (Cond.declares y).before a0 Z = true) (w6 : (Cond.selects y.cls y y).before a0 Z = true) (w2 : (Cond.instanceMethod y).before a0 Z = true) (w3 : (Cond.initialized y.cls).before a0 Z = true) (w4 : (Cond.code y bytes maxL ret).before a0 Z = true)
    (hy : y.cls ≠ "java/lang/invoke/MethodHandle" ∧ y.cls ≠ "java/lang/invoke/VarHandle") (E : Exa Z h a y.cls) (hM : Ct l y bytes maxL ret [] rm Z (.ref a :: argsL).toArray h Q) {W : Nat} (hf : rm.frames + 1 ≤ R.frames) (hl : W + (maxL + 11) + rm.locals ≤ R.locals)
    {g : JFrame} (hg : g.method = m) (hsize : g.locals.size = c.maxLocals) (hlen : ∀ sig, parseMethodDescriptor y.desc = some sig → argsL.length = sig.parameters.length) (hstack : g.stack = argsL.reverse ++ .ref a :: rest) (hW : 2 * g.monitorRoom + (rest.map fun v => v.category).sum ≤ W)
    (hdg : decode c.code g.pc = .ok (.invokevirtual index, 3)) (hc : cells + rm.cells ≤ R.cells) (hs : slots + rm.slots ≤ R.slots) :
    ∃ (v : Option Value) (T' : State) (L : List Loc), Stand p l e R s m args below meth c T' (locs ++ L) (cells + rm.cells) (slots + rm.slots) ∧ Q v T'.heap L ∧ ∀ target, Steps p.tables e below (T'.setTop { g with pc := g.pc + 3, stack := v.toList ++ rest }) target → Steps p.tables e below (T.setTop g) target := by
  subst eT
  obtain ⟨cq, kq, qa, qb, qc⟩ := isOf hZ rfl E
  obtain ⟨v, _, ⟨T', L', k', n'⟩, -, X', ⟨Lc, hQ, l18, y18, z18⟩, st⟩ := X.virtualBack hx (y := y) (z := y) hown (mvT hZ w1) (mvT hZ w5) (notFace_of_selects (args := #[]) (mvT hZ w6)) (mvT hZ w6) (mvT hZ w2) hy (backOf (W := W) hM hZ w4 w3 hf hl) qa qc hg hsize (Steps.refl _) hlen hstack hW hdg (fun _ _ => ⟨rfl, rfl, hc, hs⟩)
  dsimp only [Pt.U, Pt.locs, Pt.cells, Pt.slots] at X' l18 y18 z18 st hQ
  subst l18 y18 z18
  exact ⟨v, T', Lc, X', hQ, fun _ k => st.trans k⟩
/-- a private instance method by its contract -/
theorem callCp (X : Stand p l e R s m args below meth c T locs cells slots) (hx : p.tables.exec = Jvm.exec) (hZ : Z.Warmed39 s.vm) (eT : T.heap = h) {own : String} {index : Nat} {y : MethodName} {bytes : ByteArray} {maxL k : Nat} {ret : Option FieldType} {rm : Room} {Q : Option Value → Heap → List Loc → Prop} {a : Addr} {argsL rest : List Value}
    (hown : s.vm.findClass own = some m.cls) (w1 : (Cond.methodLink own index y).before a0 Z = true) (w2 : (Cond.instanceMethod y).before a0 Z = true) (w7 : (Cond.privateMethod y).before a0 Z = true) (wi : (Cond.instantiable y.cls k).before a0 Z = true) (w3 : (Cond.initialized y.cls).before a0 Z = true) (w4 : (Cond.code y bytes maxL ret).before a0 Z = true)
    (hy : y.cls ≠ "java/lang/invoke/MethodHandle" ∧ y.cls ≠ "java/lang/invoke/VarHandle") (E : Exa Z h a y.cls) (hM : Ct l y bytes maxL ret [] rm Z (.ref a :: argsL).toArray h Q) {W : Nat} (hf : rm.frames + 1 ≤ R.frames) (hl : W + (maxL + 11) + rm.locals ≤ R.locals)
    {g : JFrame} (hg : g.method = m) (hsize : g.locals.size = c.maxLocals) (hlen : ∀ sig, parseMethodDescriptor y.desc = some sig → argsL.length = sig.parameters.length) (hstack : g.stack = argsL.reverse ++ .ref a :: rest) (hW : 2 * g.monitorRoom + (rest.map fun v => v.category).sum ≤ W)
    (hdg : decode c.code g.pc = .ok (.invokevirtual index, 3)) (hc : cells + rm.cells ≤ R.cells) (hs : slots + rm.slots ≤ R.slots) :
    ∃ (v : Option Value) (T' : State) (L : List Loc), Stand p l e R s m args below meth c T' (locs ++ L) (cells + rm.cells) (slots + rm.slots) ∧ Q v T'.heap L ∧ ∀ target, Steps p.tables e below (T'.setTop { g with pc := g.pc + 3, stack := v.toList ++ rest }) target → Steps p.tables e below (T.setTop g) target := by
  subst eT
  obtain ⟨cq, q1, q2⟩ := E.cell
  have hpriv : s.PrivateAt y := Cond.privateMethod_at (mvP hZ w7 (args := #[]))
  obtain ⟨cc, kk, i1, i2, -, i4, -⟩ := Cond.instantiable_spec (mvT (args := args) hZ wi)
  have hni : kk.isInterface = false := by simp only [Bool.or_eq_false_iff] at i4; exact i4.1
  have hsel := selects_self_of_private (args := args) i1 i2 hni hpriv (mvT hZ w2) hy
  obtain ⟨v, _, ⟨T', L', k', n'⟩, -, X', ⟨Lc, hQ, l18, y18, z18⟩, st⟩ := X.privateBack hx (y := y) hown (mvT hZ w1) (mvT hZ w2) hsel hpriv (mvT hZ w4) hy (backOf (W := W) hM hZ w4 w3 hf hl) hg hsize (Steps.refl _) q1 q2 hlen hstack hW hdg (fun _ _ => ⟨rfl, rfl, hc, hs⟩)
  dsimp only [Pt.U, Pt.locs, Pt.cells, Pt.slots] at X' l18 y18 z18 st hQ
  subst l18 y18 z18
  exact ⟨v, T', Lc, X', hQ, fun _ k => st.trans k⟩
end OwnGo
end Jvm.RoadKit
namespace Jvm.Pilot.@@N@@
open Jvm Jvm.ClassFile Sem Op Lib Jvm.Free Jvm.Stand Jvm.LawKit Jvm.RoadKit Bundle Jvm.Pilot.@@N@@.Jvm.D
def own_len (x : Int32) : Int32 := if x < 128 then 1 else if x < 2048 then 2 else if x < 65536 then 3 else 4
def own_bits (x : Int32) : Int32 := if x = 1 then 7 else if x = 2 then 11 else if x = 3 then 16 else 21
theorem own_lti {x : Int32} {r : Int32} {k : Int} (e : r.toInt = k) : x < r ↔ x.toInt < k := by rw [Int32.lt_iff_toInt_lt, e]
theorem own_len_cases (x : Int32) : (own_len x = 1 ∧ x.toInt < 128) ∨ (own_len x = 2 ∧ 128 ≤ x.toInt ∧ x.toInt < 2048) ∨ (own_len x = 3 ∧ 2048 ≤ x.toInt ∧ x.toInt < 65536) ∨ (own_len x = 4 ∧ 65536 ≤ x.toInt) := by
  unfold own_len
  by_cases h1 : x < 128
  · have := (own_lti (by decide : (128 : Int32).toInt = 128)).mp h1
    exact Or.inl ⟨if_pos h1, this⟩
  · have g1 : ¬ x.toInt < 128 := fun q => h1 ((own_lti (by decide : (128 : Int32).toInt = 128)).mpr q)
    by_cases h2 : x < 2048
    · have := (own_lti (by decide : (2048 : Int32).toInt = 2048)).mp h2
      exact Or.inr (Or.inl ⟨by rw [if_neg h1, if_pos h2], by omega, this⟩)
    · have g2 : ¬ x.toInt < 2048 := fun q => h2 ((own_lti (by decide : (2048 : Int32).toInt = 2048)).mpr q)
      by_cases h3 : x < 65536
      · have := (own_lti (by decide : (65536 : Int32).toInt = 65536)).mp h3
        exact Or.inr (Or.inr (Or.inl ⟨by rw [if_neg h1, if_neg h2, if_pos h3], by omega, this⟩))
      · have g3 : ¬ x.toInt < 65536 := fun q => h3 ((own_lti (by decide : (65536 : Int32).toInt = 65536)).mpr q)
        exact Or.inr (Or.inr (Or.inr ⟨by rw [if_neg h1, if_neg h2, if_neg h3], by omega⟩))
theorem own_cp (a : Int32) : ((a &&& (2147483647 : Int32)) % (1114112 : Int32)).toInt < 1114112 := by
  rw [Int32.toInt_mod]
  exact Int.tmod_lt_of_pos _ (by decide)
theorem d_prog_11_method_2_0 : decode prog_11_method_2_code 0 = .ok (.iload_n 0, 1) := by decide +kernel
theorem d_prog_11_method_2_1 : decode prog_11_method_2_code 1 = .ok (.sipush 128, 3) := by decide +kernel
theorem d_prog_11_method_2_4 : decode prog_11_method_2_code 4 = .ok (.if_icmp .ge 8, 3) := by decide +kernel
theorem d_prog_11_method_2_7 : decode prog_11_method_2_code 7 = .ok (.iconst 1, 1) := by decide +kernel
theorem d_prog_11_method_2_8 : decode prog_11_method_2_code 8 = .ok (.istore_n 1, 1) := by decide +kernel
theorem d_prog_11_method_2_9 : decode prog_11_method_2_code 9 = .ok (.goto 28, 3) := by decide +kernel
theorem d_prog_11_method_2_37 : decode prog_11_method_2_code 37 = .ok (.iload_n 1, 1) := by decide +kernel
theorem d_prog_11_method_2_38 : decode prog_11_method_2_code 38 = .ok (.ireturn, 1) := by decide +kernel
theorem d_prog_11_method_2_12 : decode prog_11_method_2_code 12 = .ok (.iload_n 0, 1) := by decide +kernel
theorem d_prog_11_method_2_13 : decode prog_11_method_2_code 13 = .ok (.sipush 2048, 3) := by decide +kernel
theorem d_prog_11_method_2_16 : decode prog_11_method_2_code 16 = .ok (.if_icmp .ge 8, 3) := by decide +kernel
theorem d_prog_11_method_2_19 : decode prog_11_method_2_code 19 = .ok (.iconst 2, 1) := by decide +kernel
theorem d_prog_11_method_2_20 : decode prog_11_method_2_code 20 = .ok (.istore_n 1, 1) := by decide +kernel
theorem d_prog_11_method_2_21 : decode prog_11_method_2_code 21 = .ok (.goto 16, 3) := by decide +kernel
theorem d_prog_11_method_2_24 : decode prog_11_method_2_code 24 = .ok (.iload_n 0, 1) := by decide +kernel
theorem d_prog_11_method_2_25 : decode prog_11_method_2_code 25 = .ok (.ldc 7, 2) := by decide +kernel
theorem d_prog_11_method_2_27 : decode prog_11_method_2_code 27 = .ok (.if_icmp .ge 8, 3) := by decide +kernel
theorem d_prog_11_method_2_30 : decode prog_11_method_2_code 30 = .ok (.iconst 3, 1) := by decide +kernel
theorem d_prog_11_method_2_31 : decode prog_11_method_2_code 31 = .ok (.istore_n 1, 1) := by decide +kernel
theorem d_prog_11_method_2_32 : decode prog_11_method_2_code 32 = .ok (.goto 5, 3) := by decide +kernel
theorem d_prog_11_method_2_35 : decode prog_11_method_2_code 35 = .ok (.iconst 4, 1) := by decide +kernel
theorem d_prog_11_method_2_36 : decode prog_11_method_2_code 36 = .ok (.istore_n 1, 1) := by decide +kernel
theorem pn_0 : plainName "com/example/doc_delta/docdelta/core/Utf8" = true := by first | (simp [plainName, overriddenIn]; done) | decide +kernel
theorem ef_rmL (m : MethodId) (z : Int32) : entryFrame m #[(.int z)] 2 = mkF m 0 #[.val (.int z), .unset] [] := by first | (simp [entryFrame, mkF, argsToLocals, Value.category]; done) | rfl
set_option maxRecDepth 65536 in
set_option maxHeartbeats 40000000 in
theorem rmL (l : Launch) (Z : State) (a0 : Array Value) (hw : ∀ d ∈ tables_1, d.before a0 Z = true) (z : Int32)  (h0 : Heap) (n0 : Nat) (Z0 : n0 ≤ h0.size)  :
    Ct l (⟨"com/example/doc_delta/docdelta/core/Utf8", "length", "(I)I"⟩ : MethodName) prog_11_method_2_code 2 (some .int) [] ({ frames := 0, cells := 0, slots := 0, locals := 0 } : Room) Z #[(.int z)] h0 (fun v h L => v = some (.int (own_len z)) ∧ Fr n0 L ∧ h = h0) := by
  refine Ct.of (plainFor_of_name pn_0) (fun m => ef_rmL m z) ?_
  intro p e s m below meth c T0 X0 hx hby hml hret hlk hown hnm hZ e0 P hP
  refine Go.st (fun _ kt => XS.iloadN X0.here hx rfl (hb hby d_prog_11_method_2_0) rfl (XS.sipush X0.here hx rfl (hb hby d_prog_11_method_2_1) kt)) ?_
  show Go p e below P (T0.setTop (mkF m 4 #[.val (.int z), .unset] [(.int (128 : Int32)), (.int z)]))
  by_cases br1 : z < (128 : Int32)
  · refine Go.st (fun _ kt => XS.icmpNo X0.here hx rfl (hb hby d_prog_11_method_2_4) rfl (tlt br1).2.1 kt) ?_
    show Go p e below P (T0.setTop (mkF m 7 #[.val (.int z), .unset] []))
    refine Go.st (fun _ kt => XS.iconst X0.here hx rfl (hb hby d_prog_11_method_2_7) (XS.istoreN X0.here hx rfl (hb hby d_prog_11_method_2_8) rfl (l' := #[.val (.int z), .val (.int (1 : Int32))]) rfl (XS.goto X0.here hx rfl (pc0 := 9) (pc' := 37) rfl (hb hby d_prog_11_method_2_9) (by decide) (by decide) (XS.iloadN X0.here hx rfl (hb hby d_prog_11_method_2_37) rfl kt)))) ?_
    show Go p e below P (T0.setTop (mkF m 38 #[.val (.int z), .val (.int (1 : Int32))] [(.int (1 : Int32))]))
    exact goI X0 hx hret hlk (hb hby d_prog_11_method_2_38) hP (by decide) (by decide) ⟨by simp [own_len, br1], (Fr.nil n0), e0⟩
  · refine Go.st (fun _ kt => XS.icmpYes X0.here hx rfl (pc0 := 4) (pc' := 12) rfl (hb hby d_prog_11_method_2_4) rfl (flt br1).2.1 (by decide) (by decide) kt) ?_
    show Go p e below P (T0.setTop (mkF m 12 #[.val (.int z), .unset] []))
    refine Go.st (fun _ kt => XS.iloadN X0.here hx rfl (hb hby d_prog_11_method_2_12) rfl (XS.sipush X0.here hx rfl (hb hby d_prog_11_method_2_13) kt)) ?_
    show Go p e below P (T0.setTop (mkF m 16 #[.val (.int z), .unset] [(.int (2048 : Int32)), (.int z)]))
    by_cases br2 : z < (2048 : Int32)
    · refine Go.st (fun _ kt => XS.icmpNo X0.here hx rfl (hb hby d_prog_11_method_2_16) rfl (tlt br2).2.1 kt) ?_
      show Go p e below P (T0.setTop (mkF m 19 #[.val (.int z), .unset] []))
      refine Go.st (fun _ kt => XS.iconst X0.here hx rfl (hb hby d_prog_11_method_2_19) (XS.istoreN X0.here hx rfl (hb hby d_prog_11_method_2_20) rfl (l' := #[.val (.int z), .val (.int (2 : Int32))]) rfl (XS.goto X0.here hx rfl (pc0 := 21) (pc' := 37) rfl (hb hby d_prog_11_method_2_21) (by decide) (by decide) (XS.iloadN X0.here hx rfl (hb hby d_prog_11_method_2_37) rfl kt)))) ?_
      show Go p e below P (T0.setTop (mkF m 38 #[.val (.int z), .val (.int (2 : Int32))] [(.int (2 : Int32))]))
      exact goI X0 hx hret hlk (hb hby d_prog_11_method_2_38) hP (by decide) (by decide) ⟨by simp [own_len, br1, br2], (Fr.nil n0), e0⟩
    · refine Go.st (fun _ kt => XS.icmpYes X0.here hx rfl (pc0 := 16) (pc' := 24) rfl (hb hby d_prog_11_method_2_16) rfl (flt br2).2.1 (by decide) (by decide) kt) ?_
      show Go p e below P (T0.setTop (mkF m 24 #[.val (.int z), .unset] []))
      refine Go.st (fun _ kt => XS.iloadN X0.here hx rfl (hb hby d_prog_11_method_2_24) rfl (X0.ldcInt hx hown (mvT hZ (hw _ (List.mem_of_getElem? (i := 10) rfl))) (g := (mkF m 25 #[.val (.int z), .unset] [(.int z)])) rfl (hb hby d_prog_11_method_2_25) _ kt)) ?_
      show Go p e below P (T0.setTop (mkF m 27 #[.val (.int z), .unset] [(.int (65536 : Int32)), (.int z)]))
      by_cases br3 : z < (65536 : Int32)
      · refine Go.st (fun _ kt => XS.icmpNo X0.here hx rfl (hb hby d_prog_11_method_2_27) rfl (tlt br3).2.1 kt) ?_
        show Go p e below P (T0.setTop (mkF m 30 #[.val (.int z), .unset] []))
        refine Go.st (fun _ kt => XS.iconst X0.here hx rfl (hb hby d_prog_11_method_2_30) (XS.istoreN X0.here hx rfl (hb hby d_prog_11_method_2_31) rfl (l' := #[.val (.int z), .val (.int (3 : Int32))]) rfl (XS.goto X0.here hx rfl (pc0 := 32) (pc' := 37) rfl (hb hby d_prog_11_method_2_32) (by decide) (by decide) (XS.iloadN X0.here hx rfl (hb hby d_prog_11_method_2_37) rfl kt)))) ?_
        show Go p e below P (T0.setTop (mkF m 38 #[.val (.int z), .val (.int (3 : Int32))] [(.int (3 : Int32))]))
        exact goI X0 hx hret hlk (hb hby d_prog_11_method_2_38) hP (by decide) (by decide) ⟨by simp [own_len, br1, br2, br3], (Fr.nil n0), e0⟩
      · refine Go.st (fun _ kt => XS.icmpYes X0.here hx rfl (pc0 := 27) (pc' := 35) rfl (hb hby d_prog_11_method_2_27) rfl (flt br3).2.1 (by decide) (by decide) kt) ?_
        show Go p e below P (T0.setTop (mkF m 35 #[.val (.int z), .unset] []))
        refine Go.st (fun _ kt => XS.iconst X0.here hx rfl (hb hby d_prog_11_method_2_35) (XS.istoreN X0.here hx rfl (hb hby d_prog_11_method_2_36) rfl (l' := #[.val (.int z), .val (.int (4 : Int32))]) rfl (XS.iloadN X0.here hx rfl (hb hby d_prog_11_method_2_37) rfl kt))) ?_
        show Go p e below P (T0.setTop (mkF m 38 #[.val (.int z), .val (.int (4 : Int32))] [(.int (4 : Int32))]))
        exact goI X0 hx hret hlk (hb hby d_prog_11_method_2_38) hP (by decide) (by decide) ⟨by simp [own_len, br1, br2, br3], (Fr.nil n0), e0⟩
theorem d_method_2_0 : decode method_2_code 0 = .ok (.iload_n 0, 1) := by decide +kernel
theorem d_method_2_1 : decode method_2_code 1 = .ok (.iconst 1, 1) := by decide +kernel
theorem d_method_2_2 : decode method_2_code 2 = .ok (.if_icmp .ne 6, 3) := by decide +kernel
theorem d_method_2_5 : decode method_2_code 5 = .ok (.bipush 7, 2) := by decide +kernel
theorem d_method_2_7 : decode method_2_code 7 = .ok (.ireturn, 1) := by decide +kernel
theorem d_method_2_8 : decode method_2_code 8 = .ok (.iload_n 0, 1) := by decide +kernel
theorem d_method_2_9 : decode method_2_code 9 = .ok (.iconst 2, 1) := by decide +kernel
theorem d_method_2_10 : decode method_2_code 10 = .ok (.if_icmp .ne 6, 3) := by decide +kernel
theorem d_method_2_13 : decode method_2_code 13 = .ok (.bipush 11, 2) := by decide +kernel
theorem d_method_2_15 : decode method_2_code 15 = .ok (.ireturn, 1) := by decide +kernel
theorem d_method_2_16 : decode method_2_code 16 = .ok (.iload_n 0, 1) := by decide +kernel
theorem d_method_2_17 : decode method_2_code 17 = .ok (.iconst 3, 1) := by decide +kernel
theorem d_method_2_18 : decode method_2_code 18 = .ok (.if_icmp .ne 6, 3) := by decide +kernel
theorem d_method_2_21 : decode method_2_code 21 = .ok (.bipush 16, 2) := by decide +kernel
theorem d_method_2_23 : decode method_2_code 23 = .ok (.ireturn, 1) := by decide +kernel
theorem d_method_2_24 : decode method_2_code 24 = .ok (.bipush 21, 2) := by decide +kernel
theorem d_method_2_26 : decode method_2_code 26 = .ok (.ireturn, 1) := by decide +kernel
theorem pn_1 : plainName "com/example/doc_delta/docdelta/core/Utf8LengthPinLaw" = true := by first | (simp [plainName, overriddenIn]; done) | decide +kernel
theorem ef_rmP (m : MethodId) (z : Int32) : entryFrame m #[(.int z)] 1 = mkF m 0 #[.val (.int z)] [] := by first | (simp [entryFrame, mkF, argsToLocals, Value.category]; done) | rfl
set_option maxRecDepth 65536 in
set_option maxHeartbeats 40000000 in
theorem rmP (l : Launch) (Z : State) (a0 : Array Value) (hw : ∀ d ∈ tables_1, d.before a0 Z = true) (z : Int32)  (h0 : Heap) (n0 : Nat) (Z0 : n0 ≤ h0.size)  :
    Ct l (⟨"com/example/doc_delta/docdelta/core/Utf8LengthPinLaw", "payloadBits", "(I)I"⟩ : MethodName) method_2_code 1 (some .int) [] ({ frames := 0, cells := 0, slots := 0, locals := 0 } : Room) Z #[(.int z)] h0 (fun v h L => v = some (.int (own_bits z)) ∧ Fr n0 L ∧ h = h0) := by
  refine Ct.of (plainFor_of_name pn_1) (fun m => ef_rmP m z) ?_
  intro p e s m below meth c T0 X0 hx hby hml hret hlk hown hnm hZ e0 P hP
  refine Go.st (fun _ kt => XS.iloadN X0.here hx rfl (hb hby d_method_2_0) rfl (XS.iconst X0.here hx rfl (hb hby d_method_2_1) kt)) ?_
  show Go p e below P (T0.setTop (mkF m 2 #[.val (.int z)] [(.int (1 : Int32)), (.int z)]))
  by_cases br1 : z = (1 : Int32)
  · refine Go.st (fun _ kt => XS.icmpNo X0.here hx rfl (hb hby d_method_2_2) rfl (teq br1).2 kt) ?_
    show Go p e below P (T0.setTop (mkF m 5 #[.val (.int z)] []))
    refine Go.st (fun _ kt => XS.bipush X0.here hx rfl (hb hby d_method_2_5) kt) ?_
    show Go p e below P (T0.setTop (mkF m 7 #[.val (.int z)] [(.int (7 : Int32))]))
    exact goI X0 hx hret hlk (hb hby d_method_2_7) hP (by decide) (by decide) ⟨by simp [own_bits, br1], (Fr.nil n0), e0⟩
  · refine Go.st (fun _ kt => XS.icmpYes X0.here hx rfl (pc0 := 2) (pc' := 8) rfl (hb hby d_method_2_2) rfl (feq br1).2 (by decide) (by decide) kt) ?_
    show Go p e below P (T0.setTop (mkF m 8 #[.val (.int z)] []))
    refine Go.st (fun _ kt => XS.iloadN X0.here hx rfl (hb hby d_method_2_8) rfl (XS.iconst X0.here hx rfl (hb hby d_method_2_9) kt)) ?_
    show Go p e below P (T0.setTop (mkF m 10 #[.val (.int z)] [(.int (2 : Int32)), (.int z)]))
    by_cases br2 : z = (2 : Int32)
    · refine Go.st (fun _ kt => XS.icmpNo X0.here hx rfl (hb hby d_method_2_10) rfl (teq br2).2 kt) ?_
      show Go p e below P (T0.setTop (mkF m 13 #[.val (.int z)] []))
      refine Go.st (fun _ kt => XS.bipush X0.here hx rfl (hb hby d_method_2_13) kt) ?_
      show Go p e below P (T0.setTop (mkF m 15 #[.val (.int z)] [(.int (11 : Int32))]))
      exact goI X0 hx hret hlk (hb hby d_method_2_15) hP (by decide) (by decide) ⟨by simp [own_bits, br1, br2], (Fr.nil n0), e0⟩
    · refine Go.st (fun _ kt => XS.icmpYes X0.here hx rfl (pc0 := 10) (pc' := 16) rfl (hb hby d_method_2_10) rfl (feq br2).2 (by decide) (by decide) kt) ?_
      show Go p e below P (T0.setTop (mkF m 16 #[.val (.int z)] []))
      refine Go.st (fun _ kt => XS.iloadN X0.here hx rfl (hb hby d_method_2_16) rfl (XS.iconst X0.here hx rfl (hb hby d_method_2_17) kt)) ?_
      show Go p e below P (T0.setTop (mkF m 18 #[.val (.int z)] [(.int (3 : Int32)), (.int z)]))
      by_cases br3 : z = (3 : Int32)
      · refine Go.st (fun _ kt => XS.icmpNo X0.here hx rfl (hb hby d_method_2_18) rfl (teq br3).2 kt) ?_
        show Go p e below P (T0.setTop (mkF m 21 #[.val (.int z)] []))
        refine Go.st (fun _ kt => XS.bipush X0.here hx rfl (hb hby d_method_2_21) kt) ?_
        show Go p e below P (T0.setTop (mkF m 23 #[.val (.int z)] [(.int (16 : Int32))]))
        exact goI X0 hx hret hlk (hb hby d_method_2_23) hP (by decide) (by decide) ⟨by simp [own_bits, br1, br2, br3], (Fr.nil n0), e0⟩
      · refine Go.st (fun _ kt => XS.icmpYes X0.here hx rfl (pc0 := 18) (pc' := 24) rfl (hb hby d_method_2_18) rfl (feq br3).2 (by decide) (by decide) kt) ?_
        show Go p e below P (T0.setTop (mkF m 24 #[.val (.int z)] []))
        refine Go.st (fun _ kt => XS.bipush X0.here hx rfl (hb hby d_method_2_24) kt) ?_
        show Go p e below P (T0.setTop (mkF m 26 #[.val (.int z)] [(.int (21 : Int32))]))
        exact goI X0 hx hret hlk (hb hby d_method_2_26) hP (by decide) (by decide) ⟨by simp [own_bits, br1, br2, br3], (Fr.nil n0), e0⟩
theorem pd_2 : parseMethodDescriptor "(I)I" = some ⟨[.int], some .int⟩ := by decide +kernel
theorem ef_rm0 (m : MethodId) (a : Int32) : entryFrame m #[(.int a)] maxLocals = mkF m 0 #[.val (.int a), .unset, .unset, .unset, .unset] [] := by first | (simp [entryFrame, mkF, argsToLocals, Value.category, maxLocals]; done) | rfl
set_option maxRecDepth 65536 in
set_option maxHeartbeats 40000000 in
theorem rm0 (l : Launch) (Z : State) (a0 : Array Value) (hw : ∀ d ∈ tables_1, d.before a0 Z = true) (ws : List Jvm.Cond) (a : Int32)  (h0 : Heap) (n0 : Nat) (Z0 : n0 ≤ h0.size)  :
    Ct l x code maxLocals ret ws room_1 Z #[(.int a)] h0 (fun v h L => v = some (.int 1) ∧ Fr n0 L) := by
  refine Ct.of (plainFor_of_name pn_1) (fun m => ef_rm0 m a) ?_
  intro p e s m below meth c T0 X0 hx hby hml hret hlk hown hnm hZ e0 P hP
  refine Go.st (fun _ kt => XS.iloadN X0.here hx rfl (hb hby at_0) rfl (X0.ldcInt hx hown (mvT hZ (hw _ (List.mem_of_getElem? (i := 0) rfl))) (g := (mkF m 1 #[.val (.int a), .unset, .unset, .unset, .unset] [(.int a)])) rfl (hb hby at_1) _ (XS.iand X0.here hx rfl (hb hby at_3) rfl (X0.ldcInt hx hown (mvT hZ (hw _ (List.mem_of_getElem? (i := 1) rfl))) (g := (mkF m 4 #[.val (.int a), .unset, .unset, .unset, .unset] [(.int (a &&& (2147483647 : Int32)))])) rfl (hb hby at_4) _ (iremM X0 hx rfl (hb hby at_6) rfl (by decide) (XS.istoreN X0.here hx rfl (hb hby at_7) rfl (l' := #[.val (.int a), .val (.int ((a &&& (2147483647 : Int32)) % (1114112 : Int32))), .unset, .unset, .unset]) rfl kt)))))) ?_
  show Go p e below P (T0.setTop (mkF m 8 #[.val (.int a), .val (.int ((a &&& (2147483647 : Int32)) % (1114112 : Int32))), .unset, .unset, .unset] []))
  have hcp := own_cp a
  generalize ((a &&& (2147483647 : Int32)) % (1114112 : Int32)) = cp at hcp ⊢
  show Go p e below P (T0.setTop (mkF m 8 #[.val (.int a), .val (.int cp), .unset, .unset, .unset] []))
  refine Go.st (fun _ kt => XS.iloadN X0.here hx rfl (hb hby at_8) rfl kt) ?_
  show Go p e below P (T0.setTop (mkF m 9 #[.val (.int a), .val (.int cp), .unset, .unset, .unset] [(.int cp)]))
  obtain ⟨_, T1, Lc1, X1, ⟨rfl, Nq1, eq1⟩, st1⟩ := callCt X0 hx hZ e0 (y := (⟨"com/example/doc_delta/docdelta/core/Utf8", "length", "(I)I"⟩ : MethodName)) (argsL := [(.int cp)]) (rest := []) hown (hw _ (List.mem_of_getElem? (i := 2) rfl)) (hw _ (List.mem_of_getElem? (i := 3) rfl)) (hw _ (List.mem_of_getElem? (i := 4) rfl)) (hw _ (List.mem_of_getElem? (i := 5) rfl)) (by decide) (rmL l Z a0 hw cp _ n0 Z0) (W := 0) (by decide) (by decide) (g := (mkF m 9 #[.val (.int a), .val (.int cp), .unset, .unset, .unset] [(.int cp)])) rfl (by rw [hml]; rfl) (lenOf pd_2 rfl) rfl (by show 2 * 0 + _ ≤ _; exact Nat.le_of_eq rfl) (hb hby at_9) (by decide) (by decide)
  have N1 := Fr.app (Fr.nil n0) Nq1
  have e1 : T1.heap = h0 := eq1
  refine Go.st st1 ?_
  show Go p e below P (T1.setTop (mkF m 12 #[.val (.int a), .val (.int cp), .unset, .unset, .unset] [(.int (own_len cp))]))
  rcases own_len_cases cp with ⟨hl, hhi⟩ | ⟨hl, hlo, hhi⟩ | ⟨hl, hlo, hhi⟩ | ⟨hl, hlo⟩
  · rw [hl]
    show Go p e below P (T1.setTop (mkF m 12 #[.val (.int a), .val (.int cp), .unset, .unset, .unset] [(.int (1 : Int32))]))
    refine Go.st (fun _ kt => XS.istoreN X1.here hx rfl (hb hby at_12) rfl (l' := #[.val (.int a), .val (.int cp), .val (.int (1 : Int32)), .unset, .unset]) rfl (XS.iloadN X1.here hx rfl (hb hby at_13) rfl (XS.iconst X1.here hx rfl (hb hby at_14) (XS.icmpNo X1.here hx rfl (hb hby at_15) rfl (flt (by decide : ¬ ((1 : Int32) < (1 : Int32)))).1 (XS.iloadN X1.here hx rfl (hb hby at_18) rfl (XS.iconst X1.here hx rfl (hb hby at_19) (XS.icmpYes X1.here hx rfl (pc0 := 20) (pc' := 25) rfl (hb hby at_20) rfl (flt (by decide : ¬ ((4 : Int32) < (1 : Int32)))).2.2.2 (by decide) (by decide) (XS.iloadN X1.here hx rfl (hb hby at_25) rfl kt)))))))) ?_
    show Go p e below P (T1.setTop (mkF m 26 #[.val (.int a), .val (.int cp), .val (.int (1 : Int32)), .unset, .unset] [(.int cp)]))
    refine Go.st (fun _ kt => XS.iconst X1.here hx rfl (hb hby at_26) (XS.iloadN X1.here hx rfl (hb hby at_27) rfl kt)) ?_
    show Go p e below P (T1.setTop (mkF m 28 #[.val (.int a), .val (.int cp), .val (.int (1 : Int32)), .unset, .unset] [(.int (1 : Int32)), (.int (1 : Int32)), (.int cp)]))
    obtain ⟨_, T2, Lc2, X2, ⟨rfl, Nq2, eq2⟩, st2⟩ := callCt X1 hx hZ e1 (y := (⟨"com/example/doc_delta/docdelta/core/Utf8LengthPinLaw", "payloadBits", "(I)I"⟩ : MethodName)) (argsL := [(.int (1 : Int32))]) (rest := [(.int (1 : Int32)), (.int cp)]) hown (hw _ (List.mem_of_getElem? (i := 6) rfl)) (hw _ (List.mem_of_getElem? (i := 7) rfl)) (hw _ (List.mem_of_getElem? (i := 8) rfl)) (hw _ (List.mem_of_getElem? (i := 9) rfl)) (by decide) (rmP l Z a0 hw (1 : Int32) _ n0 Z0) (W := 2) (by decide) (by decide) (g := (mkF m 28 #[.val (.int a), .val (.int cp), .val (.int (1 : Int32)), .unset, .unset] [(.int (1 : Int32)), (.int (1 : Int32)), (.int cp)])) rfl (by rw [hml]; rfl) (lenOf pd_2 rfl) rfl (by show 2 * 0 + _ ≤ _; exact Nat.le_of_eq rfl) (hb hby at_28) (by decide) (by decide)
    have N2 := Fr.app N1 Nq2
    have e2 : T2.heap = h0 := eq2
    refine Go.st st2 ?_
    show Go p e below P (T2.setTop (mkF m 31 #[.val (.int a), .val (.int cp), .val (.int (1 : Int32)), .unset, .unset] [(.int (7 : Int32)), (.int (1 : Int32)), (.int cp)]))
    refine Go.st (fun _ kt => XS.ishl X2.here hx rfl (hb hby at_31) rfl (XS.icmpNo X2.here hx rfl (hb hby at_32) rfl (tlt ((own_lti (k := 128) (by decide)).mpr (by omega) : cp < ((1 : Int32) <<< ((7 : Int32) &&& 31)))).2.1 (XS.iconst X2.here hx rfl (hb hby at_35) (XS.goto X2.here hx rfl (pc0 := 36) (pc' := 40) rfl (hb hby at_36) (by decide) (by decide) (XS.istoreN X2.here hx rfl (hb hby at_40) rfl (l' := #[.val (.int a), .val (.int cp), .val (.int (1 : Int32)), .val (.int (1 : Int32)), .unset]) rfl (XS.iloadN X2.here hx rfl (hb hby at_41) rfl (XS.iconst X2.here hx rfl (hb hby at_42) (XS.icmpYes X2.here hx rfl (pc0 := 43) (pc' := 58) rfl (hb hby at_43) rfl (teq (by decide : (1 : Int32) = (1 : Int32))).1 (by decide) (by decide) kt)))))))) ?_
    show Go p e below P (T2.setTop (mkF m 58 #[.val (.int a), .val (.int cp), .val (.int (1 : Int32)), .val (.int (1 : Int32)), .unset] []))
    refine Go.st (fun _ kt => XS.iconst X2.here hx rfl (hb hby at_58) (XS.goto X2.here hx rfl (pc0 := 59) (pc' := 63) rfl (hb hby at_59) (by decide) (by decide) (XS.istore X2.here hx rfl (hb hby at_63) rfl (l' := #[.val (.int a), .val (.int cp), .val (.int (1 : Int32)), .val (.int (1 : Int32)), .val (.int (1 : Int32))]) rfl (XS.iloadN X2.here hx rfl (hb hby at_65) rfl (XS.ifNo X2.here hx rfl (hb hby at_66) rfl ((if0 _ _).trans (feq (by decide : ¬ ((1 : Int32) = (0 : Int32)))).1) (XS.iload X2.here hx rfl (hb hby at_69) rfl (XS.ifNo X2.here hx rfl (hb hby at_71) rfl ((if0 _ _).trans (feq (by decide : ¬ ((1 : Int32) = (0 : Int32)))).1) (XS.iconst X2.here hx rfl (hb hby at_74) kt)))))))) ?_
    show Go p e below P (T2.setTop (mkF m 75 #[.val (.int a), .val (.int cp), .val (.int (1 : Int32)), .val (.int (1 : Int32)), .val (.int (1 : Int32))] [(.int (1 : Int32))]))
    refine Go.st (fun _ kt => XS.goto X2.here hx rfl (pc0 := 75) (pc' := 79) rfl (hb hby at_75) (by decide) (by decide) kt) ?_
    show Go p e below P (T2.setTop (mkF m 79 #[.val (.int a), .val (.int cp), .val (.int (1 : Int32)), .val (.int (1 : Int32)), .val (.int (1 : Int32))] [(.int (1 : Int32))]))
    exact goN X2 hx (t := .boolean) hret (by simp) hlk (hb hby at_79) hP (by decide) (by decide) ⟨rfl, N2⟩
  · rw [hl]
    show Go p e below P (T1.setTop (mkF m 12 #[.val (.int a), .val (.int cp), .unset, .unset, .unset] [(.int (2 : Int32))]))
    refine Go.st (fun _ kt => XS.istoreN X1.here hx rfl (hb hby at_12) rfl (l' := #[.val (.int a), .val (.int cp), .val (.int (2 : Int32)), .unset, .unset]) rfl (XS.iloadN X1.here hx rfl (hb hby at_13) rfl (XS.iconst X1.here hx rfl (hb hby at_14) (XS.icmpNo X1.here hx rfl (hb hby at_15) rfl (flt (by decide : ¬ ((2 : Int32) < (1 : Int32)))).1 (XS.iloadN X1.here hx rfl (hb hby at_18) rfl (XS.iconst X1.here hx rfl (hb hby at_19) (XS.icmpYes X1.here hx rfl (pc0 := 20) (pc' := 25) rfl (hb hby at_20) rfl (flt (by decide : ¬ ((4 : Int32) < (2 : Int32)))).2.2.2 (by decide) (by decide) (XS.iloadN X1.here hx rfl (hb hby at_25) rfl kt)))))))) ?_
    show Go p e below P (T1.setTop (mkF m 26 #[.val (.int a), .val (.int cp), .val (.int (2 : Int32)), .unset, .unset] [(.int cp)]))
    refine Go.st (fun _ kt => XS.iconst X1.here hx rfl (hb hby at_26) (XS.iloadN X1.here hx rfl (hb hby at_27) rfl kt)) ?_
    show Go p e below P (T1.setTop (mkF m 28 #[.val (.int a), .val (.int cp), .val (.int (2 : Int32)), .unset, .unset] [(.int (2 : Int32)), (.int (1 : Int32)), (.int cp)]))
    obtain ⟨_, T3, Lc3, X3, ⟨rfl, Nq3, eq3⟩, st3⟩ := callCt X1 hx hZ e1 (y := (⟨"com/example/doc_delta/docdelta/core/Utf8LengthPinLaw", "payloadBits", "(I)I"⟩ : MethodName)) (argsL := [(.int (2 : Int32))]) (rest := [(.int (1 : Int32)), (.int cp)]) hown (hw _ (List.mem_of_getElem? (i := 6) rfl)) (hw _ (List.mem_of_getElem? (i := 7) rfl)) (hw _ (List.mem_of_getElem? (i := 8) rfl)) (hw _ (List.mem_of_getElem? (i := 9) rfl)) (by decide) (rmP l Z a0 hw (2 : Int32) _ n0 Z0) (W := 2) (by decide) (by decide) (g := (mkF m 28 #[.val (.int a), .val (.int cp), .val (.int (2 : Int32)), .unset, .unset] [(.int (2 : Int32)), (.int (1 : Int32)), (.int cp)])) rfl (by rw [hml]; rfl) (lenOf pd_2 rfl) rfl (by show 2 * 0 + _ ≤ _; exact Nat.le_of_eq rfl) (hb hby at_28) (by decide) (by decide)
    have N3 := Fr.app N1 Nq3
    have e3 : T3.heap = h0 := eq3
    refine Go.st st3 ?_
    show Go p e below P (T3.setTop (mkF m 31 #[.val (.int a), .val (.int cp), .val (.int (2 : Int32)), .unset, .unset] [(.int (11 : Int32)), (.int (1 : Int32)), (.int cp)]))
    refine Go.st (fun _ kt => XS.ishl X3.here hx rfl (hb hby at_31) rfl (XS.icmpNo X3.here hx rfl (hb hby at_32) rfl (tlt ((own_lti (k := 2048) (by decide)).mpr (by omega) : cp < ((1 : Int32) <<< ((11 : Int32) &&& 31)))).2.1 (XS.iconst X3.here hx rfl (hb hby at_35) (XS.goto X3.here hx rfl (pc0 := 36) (pc' := 40) rfl (hb hby at_36) (by decide) (by decide) (XS.istoreN X3.here hx rfl (hb hby at_40) rfl (l' := #[.val (.int a), .val (.int cp), .val (.int (2 : Int32)), .val (.int (1 : Int32)), .unset]) rfl (XS.iloadN X3.here hx rfl (hb hby at_41) rfl (XS.iconst X3.here hx rfl (hb hby at_42) (XS.icmpNo X3.here hx rfl (hb hby at_43) rfl (feq (by decide : ¬ ((2 : Int32) = (1 : Int32)))).1 kt)))))))) ?_
    show Go p e below P (T3.setTop (mkF m 46 #[.val (.int a), .val (.int cp), .val (.int (2 : Int32)), .val (.int (1 : Int32)), .unset] []))
    refine Go.st (fun _ kt => XS.iloadN X3.here hx rfl (hb hby at_46) rfl (XS.iconst X3.here hx rfl (hb hby at_47) (XS.iloadN X3.here hx rfl (hb hby at_48) rfl (XS.iconst X3.here hx rfl (hb hby at_49) (XS.isub X3.here hx rfl (hb hby at_50) rfl kt))))) ?_
    show Go p e below P (T3.setTop (mkF m 51 #[.val (.int a), .val (.int cp), .val (.int (2 : Int32)), .val (.int (1 : Int32)), .unset] [(.int ((2 : Int32) - (1 : Int32))), (.int (1 : Int32)), (.int cp)]))
    obtain ⟨_, T4, Lc4, X4, ⟨rfl, Nq4, eq4⟩, st4⟩ := callCt X3 hx hZ e3 (y := (⟨"com/example/doc_delta/docdelta/core/Utf8LengthPinLaw", "payloadBits", "(I)I"⟩ : MethodName)) (argsL := [(.int ((2 : Int32) - (1 : Int32)))]) (rest := [(.int (1 : Int32)), (.int cp)]) hown (hw _ (List.mem_of_getElem? (i := 6) rfl)) (hw _ (List.mem_of_getElem? (i := 7) rfl)) (hw _ (List.mem_of_getElem? (i := 8) rfl)) (hw _ (List.mem_of_getElem? (i := 9) rfl)) (by decide) (rmP l Z a0 hw ((2 : Int32) - (1 : Int32)) _ n0 Z0) (W := 2) (by decide) (by decide) (g := (mkF m 51 #[.val (.int a), .val (.int cp), .val (.int (2 : Int32)), .val (.int (1 : Int32)), .unset] [(.int ((2 : Int32) - (1 : Int32))), (.int (1 : Int32)), (.int cp)])) rfl (by rw [hml]; rfl) (lenOf pd_2 rfl) rfl (by show 2 * 0 + _ ≤ _; exact Nat.le_of_eq rfl) (hb hby at_51) (by decide) (by decide)
    have N4 := Fr.app N3 Nq4
    have e4 : T4.heap = h0 := eq4
    refine Go.st st4 ?_
    show Go p e below P (T4.setTop (mkF m 54 #[.val (.int a), .val (.int cp), .val (.int (2 : Int32)), .val (.int (1 : Int32)), .unset] [(.int (7 : Int32)), (.int (1 : Int32)), (.int cp)]))
    refine Go.st (fun _ kt => XS.ishl X4.here hx rfl (hb hby at_54) rfl (XS.icmpNo X4.here hx rfl (hb hby at_55) rfl (flt (fun q => absurd ((own_lti (k := 128) (by decide)).mp q) (by omega) : ¬ cp < ((1 : Int32) <<< ((7 : Int32) &&& 31)))).1 (XS.iconst X4.here hx rfl (hb hby at_58) (XS.goto X4.here hx rfl (pc0 := 59) (pc' := 63) rfl (hb hby at_59) (by decide) (by decide) (XS.istore X4.here hx rfl (hb hby at_63) rfl (l' := #[.val (.int a), .val (.int cp), .val (.int (2 : Int32)), .val (.int (1 : Int32)), .val (.int (1 : Int32))]) rfl (XS.iloadN X4.here hx rfl (hb hby at_65) rfl (XS.ifNo X4.here hx rfl (hb hby at_66) rfl ((if0 _ _).trans (feq (by decide : ¬ ((1 : Int32) = (0 : Int32)))).1) (XS.iload X4.here hx rfl (hb hby at_69) rfl kt)))))))) ?_
    show Go p e below P (T4.setTop (mkF m 71 #[.val (.int a), .val (.int cp), .val (.int (2 : Int32)), .val (.int (1 : Int32)), .val (.int (1 : Int32))] [(.int (1 : Int32))]))
    refine Go.st (fun _ kt => XS.ifNo X4.here hx rfl (hb hby at_71) rfl ((if0 _ _).trans (feq (by decide : ¬ ((1 : Int32) = (0 : Int32)))).1) (XS.iconst X4.here hx rfl (hb hby at_74) (XS.goto X4.here hx rfl (pc0 := 75) (pc' := 79) rfl (hb hby at_75) (by decide) (by decide) kt))) ?_
    show Go p e below P (T4.setTop (mkF m 79 #[.val (.int a), .val (.int cp), .val (.int (2 : Int32)), .val (.int (1 : Int32)), .val (.int (1 : Int32))] [(.int (1 : Int32))]))
    exact goN X4 hx (t := .boolean) hret (by simp) hlk (hb hby at_79) hP (by decide) (by decide) ⟨rfl, N4⟩
  · rw [hl]
    show Go p e below P (T1.setTop (mkF m 12 #[.val (.int a), .val (.int cp), .unset, .unset, .unset] [(.int (3 : Int32))]))
    refine Go.st (fun _ kt => XS.istoreN X1.here hx rfl (hb hby at_12) rfl (l' := #[.val (.int a), .val (.int cp), .val (.int (3 : Int32)), .unset, .unset]) rfl (XS.iloadN X1.here hx rfl (hb hby at_13) rfl (XS.iconst X1.here hx rfl (hb hby at_14) (XS.icmpNo X1.here hx rfl (hb hby at_15) rfl (flt (by decide : ¬ ((3 : Int32) < (1 : Int32)))).1 (XS.iloadN X1.here hx rfl (hb hby at_18) rfl (XS.iconst X1.here hx rfl (hb hby at_19) (XS.icmpYes X1.here hx rfl (pc0 := 20) (pc' := 25) rfl (hb hby at_20) rfl (flt (by decide : ¬ ((4 : Int32) < (3 : Int32)))).2.2.2 (by decide) (by decide) (XS.iloadN X1.here hx rfl (hb hby at_25) rfl kt)))))))) ?_
    show Go p e below P (T1.setTop (mkF m 26 #[.val (.int a), .val (.int cp), .val (.int (3 : Int32)), .unset, .unset] [(.int cp)]))
    refine Go.st (fun _ kt => XS.iconst X1.here hx rfl (hb hby at_26) (XS.iloadN X1.here hx rfl (hb hby at_27) rfl kt)) ?_
    show Go p e below P (T1.setTop (mkF m 28 #[.val (.int a), .val (.int cp), .val (.int (3 : Int32)), .unset, .unset] [(.int (3 : Int32)), (.int (1 : Int32)), (.int cp)]))
    obtain ⟨_, T5, Lc5, X5, ⟨rfl, Nq5, eq5⟩, st5⟩ := callCt X1 hx hZ e1 (y := (⟨"com/example/doc_delta/docdelta/core/Utf8LengthPinLaw", "payloadBits", "(I)I"⟩ : MethodName)) (argsL := [(.int (3 : Int32))]) (rest := [(.int (1 : Int32)), (.int cp)]) hown (hw _ (List.mem_of_getElem? (i := 6) rfl)) (hw _ (List.mem_of_getElem? (i := 7) rfl)) (hw _ (List.mem_of_getElem? (i := 8) rfl)) (hw _ (List.mem_of_getElem? (i := 9) rfl)) (by decide) (rmP l Z a0 hw (3 : Int32) _ n0 Z0) (W := 2) (by decide) (by decide) (g := (mkF m 28 #[.val (.int a), .val (.int cp), .val (.int (3 : Int32)), .unset, .unset] [(.int (3 : Int32)), (.int (1 : Int32)), (.int cp)])) rfl (by rw [hml]; rfl) (lenOf pd_2 rfl) rfl (by show 2 * 0 + _ ≤ _; exact Nat.le_of_eq rfl) (hb hby at_28) (by decide) (by decide)
    have N5 := Fr.app N1 Nq5
    have e5 : T5.heap = h0 := eq5
    refine Go.st st5 ?_
    show Go p e below P (T5.setTop (mkF m 31 #[.val (.int a), .val (.int cp), .val (.int (3 : Int32)), .unset, .unset] [(.int (16 : Int32)), (.int (1 : Int32)), (.int cp)]))
    refine Go.st (fun _ kt => XS.ishl X5.here hx rfl (hb hby at_31) rfl (XS.icmpNo X5.here hx rfl (hb hby at_32) rfl (tlt ((own_lti (k := 65536) (by decide)).mpr (by omega) : cp < ((1 : Int32) <<< ((16 : Int32) &&& 31)))).2.1 (XS.iconst X5.here hx rfl (hb hby at_35) (XS.goto X5.here hx rfl (pc0 := 36) (pc' := 40) rfl (hb hby at_36) (by decide) (by decide) (XS.istoreN X5.here hx rfl (hb hby at_40) rfl (l' := #[.val (.int a), .val (.int cp), .val (.int (3 : Int32)), .val (.int (1 : Int32)), .unset]) rfl (XS.iloadN X5.here hx rfl (hb hby at_41) rfl (XS.iconst X5.here hx rfl (hb hby at_42) (XS.icmpNo X5.here hx rfl (hb hby at_43) rfl (feq (by decide : ¬ ((3 : Int32) = (1 : Int32)))).1 kt)))))))) ?_
    show Go p e below P (T5.setTop (mkF m 46 #[.val (.int a), .val (.int cp), .val (.int (3 : Int32)), .val (.int (1 : Int32)), .unset] []))
    refine Go.st (fun _ kt => XS.iloadN X5.here hx rfl (hb hby at_46) rfl (XS.iconst X5.here hx rfl (hb hby at_47) (XS.iloadN X5.here hx rfl (hb hby at_48) rfl (XS.iconst X5.here hx rfl (hb hby at_49) (XS.isub X5.here hx rfl (hb hby at_50) rfl kt))))) ?_
    show Go p e below P (T5.setTop (mkF m 51 #[.val (.int a), .val (.int cp), .val (.int (3 : Int32)), .val (.int (1 : Int32)), .unset] [(.int ((3 : Int32) - (1 : Int32))), (.int (1 : Int32)), (.int cp)]))
    obtain ⟨_, T6, Lc6, X6, ⟨rfl, Nq6, eq6⟩, st6⟩ := callCt X5 hx hZ e5 (y := (⟨"com/example/doc_delta/docdelta/core/Utf8LengthPinLaw", "payloadBits", "(I)I"⟩ : MethodName)) (argsL := [(.int ((3 : Int32) - (1 : Int32)))]) (rest := [(.int (1 : Int32)), (.int cp)]) hown (hw _ (List.mem_of_getElem? (i := 6) rfl)) (hw _ (List.mem_of_getElem? (i := 7) rfl)) (hw _ (List.mem_of_getElem? (i := 8) rfl)) (hw _ (List.mem_of_getElem? (i := 9) rfl)) (by decide) (rmP l Z a0 hw ((3 : Int32) - (1 : Int32)) _ n0 Z0) (W := 2) (by decide) (by decide) (g := (mkF m 51 #[.val (.int a), .val (.int cp), .val (.int (3 : Int32)), .val (.int (1 : Int32)), .unset] [(.int ((3 : Int32) - (1 : Int32))), (.int (1 : Int32)), (.int cp)])) rfl (by rw [hml]; rfl) (lenOf pd_2 rfl) rfl (by show 2 * 0 + _ ≤ _; exact Nat.le_of_eq rfl) (hb hby at_51) (by decide) (by decide)
    have N6 := Fr.app N5 Nq6
    have e6 : T6.heap = h0 := eq6
    refine Go.st st6 ?_
    show Go p e below P (T6.setTop (mkF m 54 #[.val (.int a), .val (.int cp), .val (.int (3 : Int32)), .val (.int (1 : Int32)), .unset] [(.int (11 : Int32)), (.int (1 : Int32)), (.int cp)]))
    refine Go.st (fun _ kt => XS.ishl X6.here hx rfl (hb hby at_54) rfl (XS.icmpNo X6.here hx rfl (hb hby at_55) rfl (flt (fun q => absurd ((own_lti (k := 2048) (by decide)).mp q) (by omega) : ¬ cp < ((1 : Int32) <<< ((11 : Int32) &&& 31)))).1 (XS.iconst X6.here hx rfl (hb hby at_58) (XS.goto X6.here hx rfl (pc0 := 59) (pc' := 63) rfl (hb hby at_59) (by decide) (by decide) (XS.istore X6.here hx rfl (hb hby at_63) rfl (l' := #[.val (.int a), .val (.int cp), .val (.int (3 : Int32)), .val (.int (1 : Int32)), .val (.int (1 : Int32))]) rfl (XS.iloadN X6.here hx rfl (hb hby at_65) rfl (XS.ifNo X6.here hx rfl (hb hby at_66) rfl ((if0 _ _).trans (feq (by decide : ¬ ((1 : Int32) = (0 : Int32)))).1) (XS.iload X6.here hx rfl (hb hby at_69) rfl kt)))))))) ?_
    show Go p e below P (T6.setTop (mkF m 71 #[.val (.int a), .val (.int cp), .val (.int (3 : Int32)), .val (.int (1 : Int32)), .val (.int (1 : Int32))] [(.int (1 : Int32))]))
    refine Go.st (fun _ kt => XS.ifNo X6.here hx rfl (hb hby at_71) rfl ((if0 _ _).trans (feq (by decide : ¬ ((1 : Int32) = (0 : Int32)))).1) (XS.iconst X6.here hx rfl (hb hby at_74) (XS.goto X6.here hx rfl (pc0 := 75) (pc' := 79) rfl (hb hby at_75) (by decide) (by decide) kt))) ?_
    show Go p e below P (T6.setTop (mkF m 79 #[.val (.int a), .val (.int cp), .val (.int (3 : Int32)), .val (.int (1 : Int32)), .val (.int (1 : Int32))] [(.int (1 : Int32))]))
    exact goN X6 hx (t := .boolean) hret (by simp) hlk (hb hby at_79) hP (by decide) (by decide) ⟨rfl, N6⟩
  · rw [hl]
    show Go p e below P (T1.setTop (mkF m 12 #[.val (.int a), .val (.int cp), .unset, .unset, .unset] [(.int (4 : Int32))]))
    refine Go.st (fun _ kt => XS.istoreN X1.here hx rfl (hb hby at_12) rfl (l' := #[.val (.int a), .val (.int cp), .val (.int (4 : Int32)), .unset, .unset]) rfl (XS.iloadN X1.here hx rfl (hb hby at_13) rfl (XS.iconst X1.here hx rfl (hb hby at_14) (XS.icmpNo X1.here hx rfl (hb hby at_15) rfl (flt (by decide : ¬ ((4 : Int32) < (1 : Int32)))).1 (XS.iloadN X1.here hx rfl (hb hby at_18) rfl (XS.iconst X1.here hx rfl (hb hby at_19) (XS.icmpYes X1.here hx rfl (pc0 := 20) (pc' := 25) rfl (hb hby at_20) rfl (flt (by decide : ¬ ((4 : Int32) < (4 : Int32)))).2.2.2 (by decide) (by decide) (XS.iloadN X1.here hx rfl (hb hby at_25) rfl kt)))))))) ?_
    show Go p e below P (T1.setTop (mkF m 26 #[.val (.int a), .val (.int cp), .val (.int (4 : Int32)), .unset, .unset] [(.int cp)]))
    refine Go.st (fun _ kt => XS.iconst X1.here hx rfl (hb hby at_26) (XS.iloadN X1.here hx rfl (hb hby at_27) rfl kt)) ?_
    show Go p e below P (T1.setTop (mkF m 28 #[.val (.int a), .val (.int cp), .val (.int (4 : Int32)), .unset, .unset] [(.int (4 : Int32)), (.int (1 : Int32)), (.int cp)]))
    obtain ⟨_, T7, Lc7, X7, ⟨rfl, Nq7, eq7⟩, st7⟩ := callCt X1 hx hZ e1 (y := (⟨"com/example/doc_delta/docdelta/core/Utf8LengthPinLaw", "payloadBits", "(I)I"⟩ : MethodName)) (argsL := [(.int (4 : Int32))]) (rest := [(.int (1 : Int32)), (.int cp)]) hown (hw _ (List.mem_of_getElem? (i := 6) rfl)) (hw _ (List.mem_of_getElem? (i := 7) rfl)) (hw _ (List.mem_of_getElem? (i := 8) rfl)) (hw _ (List.mem_of_getElem? (i := 9) rfl)) (by decide) (rmP l Z a0 hw (4 : Int32) _ n0 Z0) (W := 2) (by decide) (by decide) (g := (mkF m 28 #[.val (.int a), .val (.int cp), .val (.int (4 : Int32)), .unset, .unset] [(.int (4 : Int32)), (.int (1 : Int32)), (.int cp)])) rfl (by rw [hml]; rfl) (lenOf pd_2 rfl) rfl (by show 2 * 0 + _ ≤ _; exact Nat.le_of_eq rfl) (hb hby at_28) (by decide) (by decide)
    have N7 := Fr.app N1 Nq7
    have e7 : T7.heap = h0 := eq7
    refine Go.st st7 ?_
    show Go p e below P (T7.setTop (mkF m 31 #[.val (.int a), .val (.int cp), .val (.int (4 : Int32)), .unset, .unset] [(.int (21 : Int32)), (.int (1 : Int32)), (.int cp)]))
    refine Go.st (fun _ kt => XS.ishl X7.here hx rfl (hb hby at_31) rfl (XS.icmpNo X7.here hx rfl (hb hby at_32) rfl (tlt ((own_lti (k := 2097152) (by decide)).mpr (by omega) : cp < ((1 : Int32) <<< ((21 : Int32) &&& 31)))).2.1 (XS.iconst X7.here hx rfl (hb hby at_35) (XS.goto X7.here hx rfl (pc0 := 36) (pc' := 40) rfl (hb hby at_36) (by decide) (by decide) (XS.istoreN X7.here hx rfl (hb hby at_40) rfl (l' := #[.val (.int a), .val (.int cp), .val (.int (4 : Int32)), .val (.int (1 : Int32)), .unset]) rfl (XS.iloadN X7.here hx rfl (hb hby at_41) rfl (XS.iconst X7.here hx rfl (hb hby at_42) (XS.icmpNo X7.here hx rfl (hb hby at_43) rfl (feq (by decide : ¬ ((4 : Int32) = (1 : Int32)))).1 kt)))))))) ?_
    show Go p e below P (T7.setTop (mkF m 46 #[.val (.int a), .val (.int cp), .val (.int (4 : Int32)), .val (.int (1 : Int32)), .unset] []))
    refine Go.st (fun _ kt => XS.iloadN X7.here hx rfl (hb hby at_46) rfl (XS.iconst X7.here hx rfl (hb hby at_47) (XS.iloadN X7.here hx rfl (hb hby at_48) rfl (XS.iconst X7.here hx rfl (hb hby at_49) (XS.isub X7.here hx rfl (hb hby at_50) rfl kt))))) ?_
    show Go p e below P (T7.setTop (mkF m 51 #[.val (.int a), .val (.int cp), .val (.int (4 : Int32)), .val (.int (1 : Int32)), .unset] [(.int ((4 : Int32) - (1 : Int32))), (.int (1 : Int32)), (.int cp)]))
    obtain ⟨_, T8, Lc8, X8, ⟨rfl, Nq8, eq8⟩, st8⟩ := callCt X7 hx hZ e7 (y := (⟨"com/example/doc_delta/docdelta/core/Utf8LengthPinLaw", "payloadBits", "(I)I"⟩ : MethodName)) (argsL := [(.int ((4 : Int32) - (1 : Int32)))]) (rest := [(.int (1 : Int32)), (.int cp)]) hown (hw _ (List.mem_of_getElem? (i := 6) rfl)) (hw _ (List.mem_of_getElem? (i := 7) rfl)) (hw _ (List.mem_of_getElem? (i := 8) rfl)) (hw _ (List.mem_of_getElem? (i := 9) rfl)) (by decide) (rmP l Z a0 hw ((4 : Int32) - (1 : Int32)) _ n0 Z0) (W := 2) (by decide) (by decide) (g := (mkF m 51 #[.val (.int a), .val (.int cp), .val (.int (4 : Int32)), .val (.int (1 : Int32)), .unset] [(.int ((4 : Int32) - (1 : Int32))), (.int (1 : Int32)), (.int cp)])) rfl (by rw [hml]; rfl) (lenOf pd_2 rfl) rfl (by show 2 * 0 + _ ≤ _; exact Nat.le_of_eq rfl) (hb hby at_51) (by decide) (by decide)
    have N8 := Fr.app N7 Nq8
    have e8 : T8.heap = h0 := eq8
    refine Go.st st8 ?_
    show Go p e below P (T8.setTop (mkF m 54 #[.val (.int a), .val (.int cp), .val (.int (4 : Int32)), .val (.int (1 : Int32)), .unset] [(.int (16 : Int32)), (.int (1 : Int32)), (.int cp)]))
    refine Go.st (fun _ kt => XS.ishl X8.here hx rfl (hb hby at_54) rfl (XS.icmpNo X8.here hx rfl (hb hby at_55) rfl (flt (fun q => absurd ((own_lti (k := 65536) (by decide)).mp q) (by omega) : ¬ cp < ((1 : Int32) <<< ((16 : Int32) &&& 31)))).1 (XS.iconst X8.here hx rfl (hb hby at_58) (XS.goto X8.here hx rfl (pc0 := 59) (pc' := 63) rfl (hb hby at_59) (by decide) (by decide) (XS.istore X8.here hx rfl (hb hby at_63) rfl (l' := #[.val (.int a), .val (.int cp), .val (.int (4 : Int32)), .val (.int (1 : Int32)), .val (.int (1 : Int32))]) rfl (XS.iloadN X8.here hx rfl (hb hby at_65) rfl (XS.ifNo X8.here hx rfl (hb hby at_66) rfl ((if0 _ _).trans (feq (by decide : ¬ ((1 : Int32) = (0 : Int32)))).1) (XS.iload X8.here hx rfl (hb hby at_69) rfl kt)))))))) ?_
    show Go p e below P (T8.setTop (mkF m 71 #[.val (.int a), .val (.int cp), .val (.int (4 : Int32)), .val (.int (1 : Int32)), .val (.int (1 : Int32))] [(.int (1 : Int32))]))
    refine Go.st (fun _ kt => XS.ifNo X8.here hx rfl (hb hby at_71) rfl ((if0 _ _).trans (feq (by decide : ¬ ((1 : Int32) = (0 : Int32)))).1) (XS.iconst X8.here hx rfl (hb hby at_74) (XS.goto X8.here hx rfl (pc0 := 75) (pc' := 79) rfl (hb hby at_75) (by decide) (by decide) kt))) ?_
    show Go p e below P (T8.setTop (mkF m 79 #[.val (.int a), .val (.int cp), .val (.int (4 : Int32)), .val (.int (1 : Int32)), .val (.int (1 : Int32))] [(.int (1 : Int32))]))
    exact goN X8 hx (t := .boolean) hret (by simp) hlk (hb hby at_79) hP (by decide) (by decide) ⟨rfl, N8⟩
set_option maxRecDepth 65536 in
set_option maxHeartbeats 40000000 in
theorem comes_1 {Post : Tables → Env → Array Value → State → Outcome → State → Prop} (hpost : ∀ tb e args s v u, (limb_1_1.after args s (.returned v) u = true ∧ limb_1_2.after args s (.returned v) u = true ∧ True) → FrameEnd s (.returned v) u (Jvm.fieldLocs frame_1_writes args s ++ Jvm.arrayLocs frame_1_arrays args s ++ Jvm.staticLocs frame_1_statics s) 0 0 → Post tb e args s (.returned v) u) :
    ArmFor flags0 classFile x code maxLocals ret World_1 tables_1 room_1 Calls_1 rest_1 Pre_1 Post := by
  intro l hfl _ _ p e ha hc hk s m args below hf hA hF happ hP
  obtain ⟨hcalls, hrest, hpre⟩ := hP
  obtain ⟨-, -, -, hnamed, -, -, -, hat⟩ := (Spec.applies_iff hf).mp happ
  obtain ⟨hg, hn⟩ := and_e (Cond.before_iff.mp (show (Jvm.Cond.and given_1 narrow_1).before args s = true from hpre))
  obtain ⟨g1, g2⟩ := and_e hg
  obtain ⟨w0, rfl⟩ : ∃ w0 : Value, args = #[w0] := by
    have hs : args.size = 1 := by simpa [Cond.value, given_1] using g1
    obtain ⟨L⟩ := args
    match L, hs with
    | [w0], _ => exact ⟨w0, rfl⟩
  have hw := fun d (hd : d ∈ tables_1) => atoms_spec (ws := Jvm.Cond.code x code maxLocals ret :: tables_1) hat d (List.mem_cons_of_mem _ hd)
  obtain ⟨i0, ei0⟩ := is_v g2
  obtain rfl : w0 = (.int i0) := Option.some.inj ei0
  obtain ⟨n, o, h1, h2, h3, _, L, rfl, ⟨rfl, N⟩, hq⟩ := rm0 l s _ hw tables_1 i0 s.heap s.heap.size (Nat.le_refl _) p e ha hc hk s m _ below hf ((Spec.applies_iff_loose hf).mp happ).1 ⟨rfl, State.Warmed39.refl s, rfl⟩ trivial
  refine ⟨n, _, h1, h2, h3, hpost _ _ _ _ _ _ ⟨Cond.after_iff.mpr rfl, Cond.after_iff.mpr (eq_i res_at (Term.int_eval (1)) rfl), trivial⟩ ⟨hq.1, hq.2.1, (hq.2.2.sift fun y hy => Or.inr (N y hy)).mono (by decide) (by decide)⟩⟩
theorem main_1_1 : Claimed_1_1 := comes_1 fun _ _ _ _ _ _ h hF => ⟨h.1, hF⟩
theorem main_1_2 : Claimed_1_2 := comes_1 fun _ _ _ _ _ _ h hF => ⟨h.2.1, hF⟩
end Jvm.Pilot.@@N@@
namespace Jvm.Pilot.@@N@@
open Jvm Jvm.ClassFile Sem Op Lib Jvm.Free Jvm.Stand Jvm.Pilot.@@N@@.Jvm.D
/-! MADE BY PROGRAM (witnessworld.py) out of the Statement's table words and the real class files: 9 classes; the members and pool entries that the words name. The judged class is class 1, her method 2. -/
namespace start1
open Jvm.ClassFile
def u (s : String) : CpInfo := .utf8 (stringToUtf16 s)
/-- a pool by its gaps: so many unusable entries, then the entry; so many at the end -/
def gap : Nat → List CpInfo → List CpInfo
  | 0, r => r
  | n + 1, r => .unusable :: gap n r
def poolList (es : List (Nat × CpInfo)) (last : Nat) : List CpInfo := es.foldr (fun e r => gap e.1 (e.2 :: r)) (gap last [])
def pool (es : List (Nat × CpInfo)) (last : Nat) : Array CpInfo := ⟨poolList es last⟩
def fileOf (pool : Array CpInfo) (this : Nat) (attrs : Array Attribute := #[]) (ms : Array MethodInfo := #[]) (fl : Nat := 33) (sup : Nat := 0) (ifs : Array Nat := #[]) (fds : Array FieldInfo := #[]) : ClassFile where
  minorVersion := 0
  majorVersion := 65
  constantPool := pool
  accessFlags := fl
  thisClass := this
  superClass := sup
  interfaces := ifs
  fields := fds
  methods := ms
  attributes := attrs
def plain (name : String) (sup : Option ClassId) : Class where
  name := name
  kind := .ordinary
  loader := none
  accessFlags := 33
  super := sup
  interfaces := #[]
  cf := none
  fields := #[]
  methods := #[]
  instanceTypes := #[]
  staticTypes := #[]
  resolved := #[]
  callSites := []
  init := .initialized
  statics := none
  mirror := none

def pool0 : Array CpInfo := pool [(5, u "<init>"), (0, u "()V"), (1, .class_ 10), (1, u "java/lang/Object")] 113

def k0m0 : Method := { name := "<init>", desc := "()V", sig := { parameters := [], returnType := none }, accessFlags := 1, code := none }
/-- java/lang/Object -/
def k0 : Class := { plain "java/lang/Object" none with
  accessFlags := 33
  interfaces := #[]
  cf := some (fileOf pool0 8 #[] #[{ accessFlags := 1, nameIndex := 5, descriptorIndex := 6, attributes := #[] }] 33 0 #[] #[])
  fields := #[]
  methods := #[k0m0]
  instanceTypes := #[]
  staticTypes := #[]
  resolved := Array.replicate 124 none
  statics := none }

def pool1 : Array CpInfo := pool [(2, .class_ 4), (1, u "java/lang/Object"), (0, u "<init>"), (0, u "()V"), (0, .integer 2147483647), (0, .integer 1114112), (0, .methodref 10 11), (0, .class_ 12), (0, .nameAndType 13 14), (0, u "com/example/doc_delta/docdelta/core/Utf8"), (0, u "length"), (0, u "(I)I"), (0, .methodref 16 17), (0, .class_ 18), (0, .nameAndType 19 14), (0, u "com/example/doc_delta/docdelta/core/Utf8LengthPinLaw"), (0, u "payloadBits"), (3, u "law"), (0, u "(I)Z")] 2

def k1m0 : Method := { name := "<init>", desc := "()V", sig := { parameters := [], returnType := none }, accessFlags := 2, code := none }
def k1c1 : Code := { maxStack := 2, maxLocals := 1, code := method_2_code, exceptionTable := #[], attributes := #[] }
def k1m1 : Method := { name := "payloadBits", desc := "(I)I", sig := { parameters := [.int], returnType := some .int }, accessFlags := 10, code := some k1c1 }
def k1c2 : Code := { maxStack := 4, maxLocals := 5, code := code, exceptionTable := #[], attributes := #[] }
def k1m2 : Method := { name := "law", desc := "(I)Z", sig := { parameters := [.int], returnType := some .boolean }, accessFlags := 9, code := some k1c2 }
/-- com/example/doc_delta/docdelta/core/Utf8LengthPinLaw -/
def k1 : Class := { plain "com/example/doc_delta/docdelta/core/Utf8LengthPinLaw" (some 0) with
  accessFlags := 49
  interfaces := #[]
  cf := some (fileOf pool1 16 #[] #[{ accessFlags := 2, nameIndex := 5, descriptorIndex := 6, attributes := #[] }, { accessFlags := 10, nameIndex := 19, descriptorIndex := 14, attributes := #[] }, { accessFlags := 9, nameIndex := 23, descriptorIndex := 24, attributes := #[] }] 49 2 #[] #[])
  fields := #[]
  methods := #[k1m0, k1m1, k1m2]
  instanceTypes := #[]
  staticTypes := #[]
  resolved := Array.replicate 27 none
  statics := none }

def pool2 : Array CpInfo := pool [(2, .class_ 4), (1, u "java/lang/Object"), (0, u "<init>"), (0, u "()V"), (0, .integer 65536), (4, u "length"), (8, .class_ 23), (1, u "com/example/doc_delta/docdelta/core/Utf8"), (0, u "(I)I")] 15

def k2m0 : Method := { name := "<init>", desc := "()V", sig := { parameters := [], returnType := none }, accessFlags := 2, code := none }
def k2c1 : Code := { maxStack := 2, maxLocals := 2, code := prog_11_method_2_code, exceptionTable := #[], attributes := #[] }
def k2m1 : Method := { name := "length", desc := "(I)I", sig := { parameters := [.int], returnType := some .int }, accessFlags := 9, code := some k2c1 }
/-- com/example/doc_delta/docdelta/core/Utf8 -/
def k2 : Class := { plain "com/example/doc_delta/docdelta/core/Utf8" (some 0) with
  accessFlags := 33
  interfaces := #[]
  cf := some (fileOf pool2 21 #[] #[{ accessFlags := 2, nameIndex := 5, descriptorIndex := 6, attributes := #[] }, { accessFlags := 9, nameIndex := 12, descriptorIndex := 24, attributes := #[] }] 33 2 #[] #[])
  fields := #[]
  methods := #[k2m0, k2m1]
  instanceTypes := #[]
  staticTypes := #[]
  resolved := Array.replicate 40 none
  statics := none }

def pool3 : Array CpInfo := pool [(1, u "java/lang/Cloneable"), (0, .class_ 1), (0, u "java/lang/Object"), (0, .class_ 3)] 3

/-- java/lang/Cloneable -/
def k3 : Class := { plain "java/lang/Cloneable" (some 0) with
  accessFlags := 1537
  interfaces := #[]
  cf := some (fileOf pool3 2 #[] #[] 1537 4 #[] #[])
  fields := #[]
  methods := #[]
  instanceTypes := #[]
  staticTypes := #[]
  resolved := Array.replicate 8 none
  statics := none }

def pool4 : Array CpInfo := pool [(1, u "java/io/Serializable"), (0, .class_ 1), (0, u "java/lang/Object"), (0, .class_ 3)] 3

/-- java/io/Serializable -/
def k4 : Class := { plain "java/io/Serializable" (some 0) with
  accessFlags := 1537
  interfaces := #[]
  cf := some (fileOf pool4 2 #[] #[] 1537 4 #[] #[])
  fields := #[]
  methods := #[]
  instanceTypes := #[]
  staticTypes := #[]
  resolved := Array.replicate 8 none
  statics := none }

/-- the primitive byte -/
def k5 : Class := { plain "byte" none with kind := .primitive 'B', accessFlags := 0x411 }
/-- [B -/
def k6 : Class := { plain "[B" (some 0) with kind := .array 5 .byte, interfaces := #[3, 4], accessFlags := 1041 }

/-- the primitive int -/
def k7 : Class := { plain "int" none with kind := .primitive 'I', accessFlags := 0x411 }
/-- [I -/
def k8 : Class := { plain "[I" (some 0) with kind := .array 7 .int, interfaces := #[3, 4], accessFlags := 1041 }

def heap : Heap := #[]
def classes : Array Class := #[k0, k1, k2, k3, k4, k5, k6, k7, k8]
def interned : List (Array UInt16 × Addr) := []
def slotsUsed : Nat := 0
def theMethod : MethodId := ⟨1, 2⟩
def args0 : Array Value := #[.int 5]
def aboutOver (below : List Frame) : State where
  vm := { classes := classes, interned := interned.toArray }
  heap := heap
  slotsUsed := slotsUsed
  threads := #[{ frames := .invoking theMethod args0 :: below }]
def below0 : List Frame := [.native { method := ⟨0, 0⟩, args := #[] }]
def about1 : State := aboutOver below0
def p0 : Program := .bare "" "" ""
def e0 : Env := launch0.env 0 0 0
theorem w_frames : about1.frames = Frame.invoking theMethod args0 :: below0 := rfl
set_option maxRecDepth 65536 in
theorem w_args : argsFit about1.vm theMethod args0 = true := by decide +kernel
set_option maxRecDepth 65536 in
theorem w_heap : heapFits about1 = true := by decide +kernel
set_option maxRecDepth 65536 in
theorem w_runnable : about1.curStatus? = some .runnable := by decide +kernel
set_option maxRecDepth 65536 in
theorem w_alone : about1.alone = true := by decide +kernel
set_option maxRecDepth 65536 in
theorem w_named : about1.methodNamed? x = some theMethod := by decide +kernel
set_option maxRecDepth 65536 in
theorem w_hears : about1.hears theMethod below0 = true := by decide +kernel
set_option maxRecDepth 65536 in
theorem w_ripe : about1.ripe theMethod args0 below0 = true := by decide +kernel
theorem w_running : about1.status = .running := rfl
set_option maxRecDepth 65536 in
theorem w_room : about1.hasRoom e0.platform room_1 = true :=
  launch0.hasRoom_least _ room_1 (by decide +kernel) (by decide +kernel) (by decide +kernel) (by decide +kernel) (by decide +kernel) (by decide +kernel)
theorem allAtoms_all (ts : List Jvm.Cond) (a : Array Jvm.Value) (st : Jvm.State) : (allAtoms ts).before a st = ts.all (fun c => c.before a st) := by
  induction ts with
  | nil => rfl
  | cons c t ih =>
    show (Jvm.Cond.and c (allAtoms t)).before a st = _
    rw [Jvm.Cond.before_and, ih, List.all_cons]
def words1 : List Jvm.Cond := Jvm.Cond.code x code maxLocals ret :: tables_1
/-- a 'code' word, met by the world's own term for the bytes: nothing is compared byte by byte -/
theorem code_word {y : MethodName} {bytes : ByteArray} {mx : Nat} {rt : Option FieldType} {a : Array Value} {s : State} {m : MethodId} {meth : Method} {c : Code} (h1 : s.methodNamed? y = some m) (h2 : s.vm.method? m = some meth) (h3 : meth.code = some c) (h4 : c.code = bytes)
    (h5 : (c.maxLocals == mx && c.exceptionTable.isEmpty && decide (c.maxStack ≤ mostOperands) && decide (meth.sig.returnType = rt) && !meth.locks && decide (parseMethodDescriptor y.desc = some meth.sig)) = true) : (Jvm.Cond.code y bytes mx rt).before a s = true := by
  simp only [Bool.and_eq_true, beq_iff_eq, Bool.not_eq_true', decide_eq_true_eq] at h5
  obtain ⟨⟨⟨⟨⟨g1, g2⟩, g3⟩, g4⟩, g5⟩, g6⟩ := h5
  simp [Cond.before, Cond.holds, Cond.value, h1, h2, h3, h4, g1, g2, g3, g4, g5, g6]
def isCode : Jvm.Cond → Bool
  | .code _ _ _ _ => true
  | _ => false
theorem all_split {L : List Jvm.Cond} {P : Jvm.Cond → Bool} (h1 : L.all (fun c => isCode c || P c) = true) (h2 : ∀ c ∈ L.filter isCode, P c = true) : L.all P = true := by
  refine List.all_eq_true.mpr fun c hc => ?_
  have h := List.all_eq_true.mp h1 c hc
  rcases Bool.eq_false_or_eq_true (isCode c) with hi | hi
  · exact h2 c (List.mem_filter.mpr ⟨hc, hi⟩)
  · simpa [hi] using h
set_option maxRecDepth 65536 in
theorem w_c0 : (Jvm.Cond.code x code maxLocals ret).before args0 about1 = true := code_word (m := ⟨1, 2⟩) (meth := k1m2) (c := k1c2) (by decide +kernel) rfl rfl rfl (by decide +kernel)
set_option maxRecDepth 65536 in
theorem w_c1 : (Jvm.Cond.code ({ cls := "com/example/doc_delta/docdelta/core/Utf8", name := "length", desc := "(I)I" } : Jvm.MethodName) prog_11_method_2_code (2 : Nat) (Option.some Jvm.ClassFile.FieldType.int)).before args0 about1 = true := code_word (m := ⟨2, 1⟩) (meth := k2m1) (c := k2c1) (by decide +kernel) rfl rfl rfl (by decide +kernel)
set_option maxRecDepth 65536 in
theorem w_c2 : (Jvm.Cond.code ({ cls := "com/example/doc_delta/docdelta/core/Utf8LengthPinLaw", name := "payloadBits", desc := "(I)I" } : Jvm.MethodName) method_2_code (1 : Nat) (Option.some Jvm.ClassFile.FieldType.int)).before args0 about1 = true := code_word (m := ⟨1, 1⟩) (meth := k1m1) (c := k1c1) (by decide +kernel) rfl rfl rfl (by decide +kernel)
def codes1 : List Jvm.Cond := [Jvm.Cond.code x code maxLocals ret, Jvm.Cond.code ({ cls := "com/example/doc_delta/docdelta/core/Utf8", name := "length", desc := "(I)I" } : Jvm.MethodName) prog_11_method_2_code (2 : Nat) (Option.some Jvm.ClassFile.FieldType.int), Jvm.Cond.code ({ cls := "com/example/doc_delta/docdelta/core/Utf8LengthPinLaw", name := "payloadBits", desc := "(I)I" } : Jvm.MethodName) method_2_code (1 : Nat) (Option.some Jvm.ClassFile.FieldType.int)]
set_option maxRecDepth 65536 in
theorem codes_eq : words1.filter isCode = codes1 := rfl
theorem w_codes : ∀ c ∈ words1.filter isCode, c.before args0 about1 = true := by
  rw [codes_eq]
  intro c hc
  simp only [codes1, List.mem_cons, List.not_mem_nil, or_false] at hc
  rcases hc with rfl | rfl | rfl
  · exact w_c0
  · exact w_c1
  · exact w_c2
set_option maxRecDepth 65536 in
theorem w_t1 : words1.all (fun c => isCode c || c.before args0 about1) = true := by decide +kernel
theorem w_tables : (allAtoms (Jvm.Cond.code x code maxLocals ret :: tables_1)).before args0 about1 = true := by
  rw [allAtoms_all]
  show words1.all (fun c => c.before args0 about1) = true
  refine all_split ?_ w_codes
  rw [w_t1]
set_option maxRecDepth 65536 in
theorem w_case : (Jvm.Cond.and given_1 narrow_1).before args0 about1 = true := by decide +kernel
theorem w_applies : (headSpec (Jvm.Cond.code x code maxLocals ret :: tables_1) room_1).applies x e0.platform about1 = true :=
  (Spec.applies_iff w_frames).mpr ⟨w_running, w_runnable, w_alone, w_named, w_hears, w_ripe, w_room, w_tables⟩
theorem atStart : AtStart classFile x code maxLocals ret World_1 tables_1 room_1 Calls_1 rest_1 Pre_1 launch0 p0 e0 about1 theMethod args0 below0 :=
  ⟨lists_1, trivial, launch0.admits_env _ _ _, launch0.least_env, fairChoices_fair.cas, fairChoices_fair.clock, w_frames, w_args, w_heap, w_applies, trivial, trivial, w_case⟩
end start1
theorem witness_1 : WitnessClaimed_1 := ⟨start1.p0, start1.e0, start1.about1, start1.theMethod, start1.args0, start1.below0, start1.atStart⟩
end Jvm.Pilot.@@N@@
